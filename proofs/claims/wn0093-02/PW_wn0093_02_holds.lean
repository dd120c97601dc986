import PyProof.Rows.All
import Wide.All
import OpenK.AllK
import Wide.FinOn
import Lean
import PySem.Challenge.RW_wn0093_02
set_option Elab.async false
set_option maxRecDepth 100000
section
open PySem PySem.W PyProof.Rows
set_option Elab.async false
namespace Mine
/-! plain facts on texts as lists of numbers -/
noncomputable def mkS (l : List Nat) : PySem.Str := ⟨l.toArray⟩
noncomputable def cl (x : PySem.Str) : List Nat := x.cps.toList
theorem cl_mkS (l : List Nat) : cl (mkS l) = l := rfl
theorem mkS_cl (x : PySem.Str) : mkS (cl x) = x := PySem.Str.ext' (by simp [mkS, cl])
theorem cl_inj {x y : PySem.Str} (h : cl x = cl y) : x = y := by rw [← mkS_cl x, ← mkS_cl y, h]
theorem cl_append (x y : PySem.Str) : cl (x ++ y) = cl x ++ cl y := by
  simp [cl, PySem.Str.cps_append]
theorem cl_len (x : PySem.Str) : x.length = (cl x).length := by simp [PySem.Str.length, cl]
theorem beq_cl (x y : PySem.Str) : (x == y) = decide (cl x = cl y) := by
  by_cases h : cl x = cl y
  · have := cl_inj h
    subst this
    simp
  · have : x ≠ y := fun e => h (by rw [e])
    simp [h, this]
theorem bne_cl (x y : PySem.Str) : (x != y) = decide (cl x ≠ cl y) := by
  rw [bne, beq_cl]
  by_cases h : cl x = cl y <;> simp [h]

theorem slice_nat (x : PySem.Str) {a b : Nat} (hab : a ≤ b) (hb : b ≤ (cl x).length) : cl (Txt.slice x (some (a : Int)) (some (b : Int))) = ((cl x).drop a).take (b - a) := by
  have := StrLaws.sliceText_nat x hab (by rw [cl_len]; exact hb)
  show cl (StrLaws.sliceText x _ _) = _
  rw [this]; rfl
theorem slice_to (x : PySem.Str) {j : Int} (h0 : 0 ≤ j) (h1 : j ≤ ((cl x).length : Int)) : cl (Txt.slice x none (some j)) = (cl x).take j.toNat := by
  have := StrLaws.sliceText_to (x := x) (j := j) ⟨h0, h1⟩
  show cl (StrLaws.sliceText x _ _) = _
  rw [this]
  simp [cl]
theorem slice_from (x : PySem.Str) {i : Int} (h0 : 0 ≤ i) (h1 : i ≤ ((cl x).length : Int)) : cl (Txt.slice x (some i) none) = (cl x).drop i.toNat := by
  have := StrLaws.sliceText_from (x := x) (i := i) ⟨h0, h1⟩
  show cl (StrLaws.sliceText x _ _) = _
  rw [this]
  show ((cl x).drop i.toNat).take (((cl x).length : Int) - i).toNat = _
  apply List.take_of_length_le
  rw [List.length_drop]; omega
theorem slice_neg (x : PySem.Str) {j : Int} (h0 : j < 0) (h1 : -((cl x).length : Int) ≤ j) : cl (Txt.slice x none (some j)) = (cl x).take ((cl x).length - (-j).toNat) := by
  have := StrLaws.sliceText_neg_hi x none (j := j) h0 (by rw [cl_len]; exact h1)
  show cl (StrLaws.sliceText x _ _) = _
  rw [this]
  have h2 := slice_to x (j := j + x.length) (by rw [cl_len]; omega) (by rw [cl_len]; omega)
  rw [show StrLaws.sliceText x none (some (j + x.length)) = Txt.slice x none (some (j + x.length)) from rfl, h2]
  congr 1
  rw [cl_len]; omega
theorem slice_all (x : PySem.Str) : Txt.slice x none none = x := by
  unfold Txt.slice
  split
  · rfl
  · rename_i h
    exfalso
    apply h
    have : (Builtin.Str.strSliceIndices none none 1 x.length).length = x.length := by
      rw [StrLaws.sliceIdx_none_lo, StrLaws.sliceIdx_none_hi]
      have := StrLaws.strSliceIndices_plain (a := 0) (b := x.length) (len := x.length) (Nat.zero_le _) (Nat.le_refl _)
      rw [show ((0 : Nat) : Int) = 0 from rfl] at this
      rw [this]; simp
    simp [this]

theorem item_at (x : PySem.Str) {i : Int} (h0 : 0 ≤ i) (h1 : i < ((cl x).length : Int)) : ∃ c, (cl x)[i.toNat]? = some c ∧ cl (Txt.item x i) = [c] := by
  obtain ⟨n, hn⟩ := StrLaws.some_at (x := x) h0 (by rw [cl_len]; exact h1)
  refine ⟨n, by rw [← hn]; simp [cl], ?_⟩
  unfold Txt.item Txt.charAt
  rw [StrLaws.at_nonneg h0 hn]; rfl
theorem item_drop (x : PySem.Str) {i : Int} (h0 : 0 ≤ i) (h1 : i < ((cl x).length : Int)) : ∃ c, cl (Txt.item x i) = [c] ∧ (cl x).drop i.toNat = c :: (cl x).drop (i + 1).toNat := by
  obtain ⟨c, hc, e⟩ := item_at x h0 h1
  refine ⟨c, e, ?_⟩
  obtain ⟨hlt, hc⟩ := List.getElem?_eq_some_iff.mp hc
  rw [← hc, List.drop_eq_getElem_cons hlt, show (i + 1).toNat = i.toNat + 1 by omega]
theorem item_neg (x : PySem.Str) {i : Int} (h0 : i < 0) (h1 : -((cl x).length : Int) ≤ i) : ∃ c, (cl x)[(cl x).length - (-i).toNat]? = some c ∧ cl (Txt.item x i) = [c] := by
  have hlt : (cl x).length - (-i).toNat < (cl x).length := by omega
  refine ⟨(cl x)[(cl x).length - (-i).toNat], by simp [hlt], ?_⟩
  unfold Txt.item Txt.charAt
  have hx : x.cps[(i + x.length).toNat]? = some (cl x)[(cl x).length - (-i).toNat] := by
    have e : (i + x.length).toNat = (cl x).length - (-i).toNat := by rw [cl_len]; omega
    rw [e]
    have : (cl x)[(cl x).length - (-i).toNat]? = some (cl x)[(cl x).length - (-i).toNat] := by simp [hlt]
    rw [← this]; simp [cl]
  rw [StrLaws.at_neg h0 (by rw [cl_len]; exact h1) hx]; rfl

/-! parse257 -/
noncomputable def told : List Nat → List Nat
  | [] => []
  | [c] => if c = 34 then [] else [c]
  | c :: d :: r => if c = 34 then (if d = 34 then 34 :: told r else []) else c :: told (d :: r)
theorem told_cons {c : Nat} (h : c ≠ 34) (r : List Nat) : told (c :: r) = c :: told r := by
  cases r <;> simp [told, h]
theorem told_quotes (r : List Nat) : told (34 :: 34 :: r) = 34 :: told r := by simp [told]
theorem told_one {r : List Nat} (h : r.head? ≠ some 34) : told (34 :: r) = [] := by
  cases r with
  | nil => simp [told]
  | cons d r => simp only [List.head?_cons, ne_eq, Option.some.injEq] at h; simp [told, h]
noncomputable def toldS (y : PySem.Str) : PySem.Str := mkS (told (cl y))
theorem lit257 : cl (PySem.Str.ofString "257 \"") = [50, 53, 55, 32, 34] := by decide +kernel
theorem litQuote : cl (PySem.Str.ofString "\"") = [34] := by decide +kernel

theorem p257_a {y : PySem.Str} (h : (Txt.slice (PySem.Str.ofString "257 \"" ++ y) none (some 3) != PySem.Str.ofString "257") = true) : False := by
  rw [bne_cl, slice_to _ (by decide) (by rw [cl_append, lit257]; simp; omega), cl_append, lit257] at h
  revert h
  show decide ([50, 53, 55] ≠ cl (PySem.Str.ofString "257")) = true → False
  decide +kernel
theorem p257_b {y : PySem.Str} (h : (Txt.slice (PySem.Str.ofString "257 \"" ++ y) (some 3) (some 5) != PySem.Str.ofString " \"") = true) : False := by
  have e := slice_nat (PySem.Str.ofString "257 \"" ++ y) (a := 3) (b := 5) (by decide) (by rw [cl_append, lit257]; simp)
  rw [bne_cl] at h
  rw [show ((3 : Nat) : Int) = 3 from rfl, show ((5 : Nat) : Int) = 5 from rfl] at e
  rw [e, cl_append, lit257] at h
  revert h
  show decide ([32, 34] ≠ cl (PySem.Str.ofString " \"")) = true → False
  decide +kernel

abbrev P257 (x y : PySem.Str) (i : Int) (d : PySem.Str) : Prop := 5 ≤ i ∧ i ≤ (x.length : Int) ∧ (d.length : Int) ≤ i ∧ cl d ++ told ((cl x).drop i.toNat) = told (cl y)
theorem p257_start {y : PySem.Str} : P257 (PySem.Str.ofString "257 \"" ++ y) y 5 (PySem.Str.ofString "") := by
  have e : cl (PySem.Str.ofString "") = [] := by decide +kernel
  have e2 : (PySem.Str.ofString "257 \"" ++ y).length = 5 + y.length := by rw [cl_len, cl_append, lit257, cl_len]; simp; omega
  refine ⟨by decide, by omega, by rw [cl_len, e]; decide, ?_⟩
  rw [e, cl_append, lit257]; rfl
theorem item_one {x : PySem.Str} {i : Int} {c : Nat} (h : cl (Txt.item x i) = [c]) : (Txt.item x i == PySem.Str.ofString "\"") = decide (c = 34) ∧ (Txt.item x i).length = 1 := by
  refine ⟨?_, by rw [cl_len, h]; rfl⟩
  rw [beq_cl, h, litQuote]; simp
theorem p257_plain {x y d : PySem.Str} {i : Int} (inv : P257 x y i d) (hi : i < (x.length : Int)) (hq : (Txt.item x i == PySem.Str.ofString "\"") = false) : P257 x y (i + 1) (d ++ Txt.item x i) := by
  obtain ⟨h5, hl, hd, he⟩ := inv
  obtain ⟨c, hc, hr⟩ := item_drop x (i := i) (by omega) (by rw [← cl_len]; exact hi)
  obtain ⟨e1, e2⟩ := item_one hc
  rw [e1] at hq
  have hne : c ≠ 34 := by simpa using hq
  refine ⟨by omega, by omega, by rw [PySem.Str.length_append, e2]; omega, ?_⟩
  rw [cl_append, hc, ← he, hr, told_cons hne]; simp
theorem p257_quote {x y d : PySem.Str} {i : Int} (inv : P257 x y i d) (hi : i < (x.length : Int)) (hq : (Txt.item x i == PySem.Str.ofString "\"") = true) (hn : ¬ (x.length : Int) ≤ i + 1)
    (hq2 : (Txt.item x (i + 1) != PySem.Str.ofString "\"") = false) : P257 x y (i + 1 + 1) (d ++ Txt.item x i) := by
  obtain ⟨h5, hl, hd, he⟩ := inv
  obtain ⟨c, hc, hr⟩ := item_drop x (i := i) (by omega) (by rw [← cl_len]; exact hi)
  obtain ⟨c2, hc2, hr2⟩ := item_drop x (i := i + 1) (by omega) (by rw [← cl_len]; omega)
  obtain ⟨e1, e2⟩ := item_one hc
  obtain ⟨e3, e4⟩ := item_one hc2
  rw [e1] at hq
  rw [bne, e3] at hq2
  have h34 : c = 34 := by simpa using hq
  have h34' : c2 = 34 := by simpa using hq2
  subst h34; subst h34'
  refine ⟨by omega, by omega, by rw [PySem.Str.length_append, e2]; omega, ?_⟩
  rw [cl_append, hc, ← he, hr, hr2, told_quotes]; simp
theorem p257_end {x y d : PySem.Str} {i : Int} (inv : P257 x y i d) (hi : ¬ i < (x.length : Int)) : d = toldS y := by
  obtain ⟨h5, hl, hd, he⟩ := inv
  apply cl_inj
  rw [toldS, cl_mkS, ← he, List.drop_eq_nil_of_le (by rw [← cl_len]; omega)]; simp [told]
theorem p257_stop1 {x y d : PySem.Str} {i : Int} (inv : P257 x y i d) (hi : i < (x.length : Int)) (hq : (Txt.item x i == PySem.Str.ofString "\"") = true) (hn : (x.length : Int) ≤ i + 1) : d = toldS y := by
  obtain ⟨h5, hl, hd, he⟩ := inv
  obtain ⟨c, hc, hr⟩ := item_drop x (i := i) (by omega) (by rw [← cl_len]; exact hi)
  obtain ⟨e1, e2⟩ := item_one hc
  rw [e1] at hq
  have h34 : c = 34 := by simpa using hq
  subst h34
  apply cl_inj
  rw [toldS, cl_mkS, ← he, hr, List.drop_eq_nil_of_le (by rw [← cl_len]; omega)]; simp [told]
theorem p257_stop2 {x y d : PySem.Str} {i : Int} (inv : P257 x y i d) (hi : i < (x.length : Int)) (hq : (Txt.item x i == PySem.Str.ofString "\"") = true) (hn : ¬ (x.length : Int) ≤ i + 1)
    (hq2 : (Txt.item x (i + 1) != PySem.Str.ofString "\"") = true) : d = toldS y := by
  obtain ⟨h5, hl, hd, he⟩ := inv
  obtain ⟨c, hc, hr⟩ := item_drop x (i := i) (by omega) (by rw [← cl_len]; exact hi)
  obtain ⟨c2, hc2, hr2⟩ := item_drop x (i := i + 1) (by omega) (by rw [← cl_len]; omega)
  obtain ⟨e1, e2⟩ := item_one hc
  obtain ⟨e3, e4⟩ := item_one hc2
  rw [e1] at hq
  rw [bne, e3] at hq2
  have h34 : c = 34 := by simpa using hq
  have h34' : c2 ≠ 34 := by simpa using hq2
  subst h34
  apply cl_inj
  rw [toldS, cl_mkS, ← he, hr, hr2, told_one (by simpa using h34')]; simp
end Mine
end
section
open PySem PySem.W PyProof.Rows
set_option Elab.async false
namespace Mine
/-! replace of one sign -/
noncomputable def sub1 (k : Nat) (r l : List Nat) : List Nat := l.flatMap fun d => if d = k then r else [d]
theorem sub1_append (k : Nat) (r a b : List Nat) : sub1 k r (a ++ b) = sub1 k r a ++ sub1 k r b := by simp [sub1]
theorem sub1_free (k : Nat) (r : List Nat) : ∀ l : List Nat, k ∉ l → sub1 k r l = l
  | [], _ => rfl
  | d :: l, h => by
    have h1 : ¬ d = k := fun e => h (e ▸ List.mem_cons_self ..)
    have h2 : k ∉ l := fun m => h (List.mem_cons_of_mem _ m)
    have ih := sub1_free k r l h2
    unfold sub1 at ih ⊢
    rw [List.flatMap_cons, ih, if_neg h1]; rfl
theorem sub1_one (k : Nat) (r : List Nat) : sub1 k r [k] = r := by simp [sub1]
theorem cl_one (k : Nat) : cl ⟨#[k]⟩ = [k] := rfl
theorem sub1_join (k : Nat) (r : PySem.Str) : ∀ parts : List PySem.Str, (∀ p ∈ parts, k ∉ p.cps.toList) → sub1 k (cl r) (cl (PySem.Str.join ⟨#[k]⟩ parts)) = cl (PySem.Str.join r parts)
  | [], _ => rfl
  | [p], h => sub1_free k _ _ (h p (List.mem_singleton.mpr rfl))
  | p :: q :: rs, h => by
    have ih := sub1_join k r (q :: rs) fun a ha => h a (List.mem_cons_of_mem _ ha)
    show sub1 k (cl r) (cl (p ++ ⟨#[k]⟩ ++ PySem.Str.join ⟨#[k]⟩ (q :: rs))) = cl (p ++ r ++ PySem.Str.join r (q :: rs))
    simp only [cl_append, sub1_append]
    rw [ih, cl_one, sub1_one, sub1_free k (cl r) (cl p) (h p (List.mem_cons_self ..))]
theorem cl_replace1 (x r : PySem.Str) (k : Nat) : cl (Txt.replace x ⟨#[k]⟩ r) = sub1 k (cl r) (cl x) := by
  rw [StrLaws.replace_one, ← sub1_join k r _ (StrLaws.split_free x k), StrLaws.join_split]
theorem one_of_length {c : PySem.Str} (h : c.length = 1) : ∃ k, c = ⟨#[k]⟩ := by
  obtain ⟨a⟩ := c
  have : a.toList.length = 1 := by simpa [PySem.Str.length] using h
  obtain ⟨k, hk⟩ := List.length_eq_one_iff.mp this
  exact ⟨k, by congr 1; apply Array.ext'; simpa using hk⟩
theorem cl_replace {x c r : PySem.Str} {k : Nat} (h : cl c = [k]) : cl (Txt.replace x c r) = sub1 k (cl r) (cl x) := by
  have : c = ⟨#[k]⟩ := cl_inj (by rw [h]; rfl)
  rw [this, cl_replace1]
theorem replace_none {x c r : PySem.Str} (hc : c.length = 1) (h : (Builtin.Str.occurrences x c 0 x.length 1).isEmpty = true) : Txt.replace x c r = x := by
  obtain ⟨k, rfl⟩ := one_of_length hc
  have := StrLaws.found_one x k
  rw [h] at this
  have hk : k ∉ cl x := by
    have h2 : decide (k ∈ x.cps.toList) = false := by rw [← this]; rfl
    exact of_decide_eq_false h2
  apply cl_inj
  rw [cl_replace1, sub1_free _ _ _ hk]
theorem sub1_grows (k : Nat) {r : List Nat} (hr : 1 ≤ r.length) : ∀ l : List Nat, l.length ≤ (sub1 k r l).length
  | [] => Nat.le_refl _
  | d :: l => by
    have ih := sub1_grows k hr l
    unfold sub1 at ih ⊢
    rw [List.flatMap_cons, List.length_append, List.length_cons]
    split
    · omega
    · rw [List.length_singleton]; omega
theorem replace_grows {x c r : PySem.Str} (hc : c.length = 1) (hr : 1 ≤ r.length) : x.length ≤ (Txt.replace x c r).length := by
  obtain ⟨k, rfl⟩ := one_of_length hc
  rw [cl_len, cl_len, cl_replace1]
  exact sub1_grows k (by rw [← cl_len]; exact hr) _

/-! the five hands -/
noncomputable def refs : List (List (Nat × List Nat)) :=
  [[(38, [38, 97, 109, 112, 59]), (60, [38, 108, 116, 59]), (62, [38, 103, 116, 59])],
   [(38, [38, 97, 109, 112, 59]), (60, [38, 108, 116, 59]), (62, [38, 103, 116, 59]), (34, [38, 113, 117, 111, 116, 59]), (13, [38, 35, 49, 51, 59]), (10, [38, 35, 49, 48, 59]), (9, [38, 35, 48, 57, 59])],
   [(38, [38, 97, 109, 112, 59]), (62, [38, 103, 116, 59]), (34, [38, 113, 117, 111, 116, 59])],
   [(38, [38, 97, 109, 112, 59]), (60, [38, 108, 116, 59]), (62, [38, 103, 116, 59]), (13, [38, 35, 120, 68, 59])],
   [(38, [38, 97, 109, 112, 59]), (60, [38, 108, 116, 59]), (34, [38, 113, 117, 111, 116, 59]), (9, [38, 35, 120, 57, 59]), (10, [38, 35, 120, 65, 59]), (13, [38, 35, 120, 68, 59])]]
noncomputable def tabOf (place : Nat) : List (Nat × List Nat) := refs.getD place []
noncomputable def ref (place d : Nat) : List Nat := ((tabOf place).lookup d).getD [d]
noncomputable def page (place : Nat) (l : List Nat) : List Nat := l.flatMap (ref place)
noncomputable def pageS (place : Nat) (x : PySem.Str) : PySem.Str := mkS (page place (cl x))
/-- the replaces, one behind the other -/
noncomputable def runTab (t : List (Nat × List Nat)) (l : List Nat) : List Nat := t.foldl (fun l p => sub1 p.1 p.2 l) l
theorem runTab_append (t : List (Nat × List Nat)) : ∀ a b : List Nat, runTab t (a ++ b) = runTab t a ++ runTab t b := by
  induction t with
  | nil => intro a b; rfl
  | cons p t ih => intro a b; show runTab t (sub1 _ _ (a ++ b)) = runTab t (sub1 _ _ a) ++ runTab t (sub1 _ _ b); rw [sub1_append, ih]
theorem runTab_free {d : Nat} : ∀ (t : List (Nat × List Nat)), t.lookup d = none → runTab t [d] = [d]
  | [], _ => rfl
  | p :: t, h => by
    obtain ⟨k, r⟩ := p
    rw [List.lookup_cons] at h
    split at h
    · cases h
    · rename_i hk
      have hk : ¬ d = k := by simpa using hk
      show runTab t (sub1 k r [d]) = [d]
      rw [sub1_free k r [d] (by simp [Ne.symm (Ne.intro hk)])]
      exact runTab_free t h
theorem runTab_page (t : List (Nat × List Nat)) (ht : ∀ p ∈ t, runTab t [p.1] = (t.lookup p.1).getD [p.1]) : ∀ l : List Nat, runTab t l = l.flatMap fun d => (t.lookup d).getD [d]
  | [] => by
    have : ∀ t : List (Nat × List Nat), runTab t [] = [] := by
      intro t
      induction t with
      | nil => rfl
      | cons p t ih => exact ih
    rw [this]; rfl
  | d :: l => by
    rw [show d :: l = [d] ++ l from rfl, runTab_append, runTab_page t ht l, List.flatMap_append]
    congr 1
    rw [List.flatMap_singleton]
    cases hd : t.lookup d with
    | none => exact runTab_free t hd
    | some r =>
      have hm : (d, r) ∈ t := by
        clear ht
        induction t with
        | nil => cases hd
        | cons p t ih =>
          obtain ⟨k, q⟩ := p
          rw [List.lookup_cons] at hd
          split at hd
          · rename_i hk
            have : d = k := by simpa using hk
            cases hd; subst this; exact List.mem_cons_self ..
          · exact List.mem_cons_of_mem _ (ih hd)
      have := ht _ hm
      rw [hd] at this
      exact this
theorem tab_ok : ∀ t ∈ refs, ∀ p ∈ t, runTab t [p.1] = (t.lookup p.1).getD [p.1] := by decide +kernel
theorem page_run {place : Nat} (hp : place < 5) (l : List Nat) : runTab (tabOf place) l = page place l := by
  refine runTab_page _ (tab_ok _ ?_) l
  have : place < refs.length := hp
  unfold tabOf
  rw [List.getD_eq_getElem?_getD, List.getElem?_eq_getElem this]
  exact List.getElem_mem _
theorem ref_len (place d : Nat) : 1 ≤ (ref place d).length ∧ (ref place d).length ≤ 6 := by
  unfold ref
  have key : ∀ t ∈ ([] : List (Nat × List Nat)) :: refs, ∀ p ∈ t, 1 ≤ p.2.length ∧ p.2.length ≤ 6 := by decide +kernel
  have ht : tabOf place ∈ ([] : List (Nat × List Nat)) :: refs := by
    unfold tabOf
    rw [List.getD_eq_getElem?_getD]
    cases h : refs[place]? with
    | none => exact List.mem_cons_self ..
    | some t => exact List.mem_cons_of_mem _ (List.mem_of_getElem? h)
  cases hd : (tabOf place).lookup d with
  | none => simp
  | some r =>
    have hm : ∃ k, (k, r) ∈ tabOf place := by
      generalize tabOf place = t at hd
      clear key ht
      induction t with
      | nil => cases hd
      | cons p t ih =>
        obtain ⟨k, q⟩ := p
        rw [List.lookup_cons] at hd
        split at hd
        · cases hd; exact ⟨k, List.mem_cons_self ..⟩
        · obtain ⟨k', h'⟩ := ih hd; exact ⟨k', List.mem_cons_of_mem _ h'⟩
    obtain ⟨k, hk⟩ := hm
    exact key _ ht _ hk
theorem page_len (place : Nat) : ∀ l : List Nat, l.length ≤ (page place l).length ∧ (page place l).length ≤ 6 * l.length
  | [] => by simp [page]
  | d :: l => by
    have ih := page_len place l
    have h := ref_len place d
    unfold page at ih ⊢
    rw [List.flatMap_cons, List.length_append, List.length_cons]
    omega
theorem pageS_len (place : Nat) (x : PySem.Str) : (pageS place x).length ≤ 6 * x.length := by
  rw [cl_len, cl_len]; exact (page_len place (cl x)).2
end Mine
end
section
open PySem PySem.W PyProof.Rows
set_option Elab.async false
namespace Mine
/-! the cost of one sign for another -/
noncomputable def scS (x y : PySem.Str) : Int := if x == y then 0 else if Txt.lower x == Txt.lower y then 1 else 2
noncomputable def sc (c d : Nat) : Int := scS (mkS [c]) (mkS [d])
theorem scS_le (x y : PySem.Str) : 0 ≤ scS x y ∧ scS x y ≤ 2 := by
  unfold scS
  split
  · omega
  · split <;> omega
theorem sc_le (c d : Nat) : 0 ≤ sc c d ∧ sc c d ≤ 2 := scS_le _ _
theorem scS_comm (x y : PySem.Str) : scS x y = scS y x := by
  unfold scS
  rw [show (x == y) = (y == x) from Bool.beq_comm, show (Txt.lower x == Txt.lower y) = (Txt.lower y == Txt.lower x) from Bool.beq_comm]
theorem sc_comm (c d : Nat) : sc c d = sc d c := scS_comm _ _
theorem sc_self (c : Nat) : sc c c = 0 := by simp [sc, scS]
theorem one_low : ∀ p ∈ UnicodeData.oneLower, 97 ≤ p.2.2 := by decide +kernel
theorem shifted_low : ∀ (t : List (Nat × Nat × Nat)) (_ : ∀ p ∈ t, 97 ≤ p.2.2) {c v : Nat}, Unicode.shifted t c = some v → 97 ≤ v
  | [], _, _, _, h => by cases h
  | (a, b, u) :: t, ht, c, v, h => by
    unfold Unicode.shifted at h
    split at h
    · cases h
    · split at h
      · cases h
        have := ht _ (List.mem_cons_self ..)
        show 97 ≤ u + (c - a)
        simp at this
        omega
      · exact shifted_low t (fun p hp => ht p (List.mem_cons_of_mem _ hp)) h
theorem lowerOf_low {c d : Nat} (hc : c < 97) (h : Unicode.lowerOf d = [c]) : d = c := by
  unfold Unicode.lowerOf Unicode.image at h
  split at h
  · rename_i cs hcs
    subst h
    unfold UnicodeData.severalLower UnicodeData.severalLower0 at hcs
    rw [List.lookup_cons] at hcs
    split at hcs
    · cases hcs
    · cases hcs
  · cases hs : Unicode.shifted UnicodeData.oneLower d with
    | none => rw [hs] at h; simpa using h
    | some v =>
      rw [hs] at h
      have := shifted_low _ one_low hs
      have : v = c := by simpa using h
      omega
theorem lower_one (d : Nat) : cl (Txt.lower (mkS [d])) = Unicode.lowerAt #[d] 0 := by
  show ((#[d].mapIdx fun i _ => (Unicode.lowerAt #[d] i).toArray).flatten).toList = _
  simp
theorem lowerAt_low {c d : Nat} (hc : c < 97) (h : Unicode.lowerAt #[d] 0 = [c]) : d = c := by
  unfold Unicode.lowerAt at h
  simp only [List.getElem?_toArray, List.getElem?_cons_zero] at h
  split at h
  · have : 962 = c := by simpa using h
    omega
  · exact lowerOf_low hc h
theorem lowerOf_small {c : Nat} (hc : c < 65) : Unicode.lowerOf c = [c] := by
  have key : ∀ c < 65, Unicode.lowerOf c = [c] := by decide +kernel
  exact key c hc
theorem lowerAt_small {c : Nat} (hc : c < 65) : Unicode.lowerAt #[c] 0 = [c] := by
  unfold Unicode.lowerAt
  simp only [List.getElem?_toArray, List.getElem?_cons_zero]
  rw [if_neg (by simp; omega), lowerOf_small hc]
theorem sc_small {c d : Nat} (hc : c < 65) (h : c ≠ d) : sc c d = 2 := by
  unfold sc scS
  rw [if_neg (by rw [beq_cl, cl_mkS, cl_mkS]; simpa using h), if_neg]
  rw [beq_cl, lower_one, lower_one, lowerAt_small hc]
  intro h2
  have := (of_decide_eq_true h2).symm
  exact h (lowerAt_low (by omega) this).symm

/-! the edit price, on the two texts read from behind -/
noncomputable def ed : List Nat → List Nat → Int
  | [], b => 2 * b.length
  | x :: a, [] => 2 * (a.length + 1)
  | x :: a, y :: b => min (min (ed a (y :: b)) (ed (x :: a) b) + 2) (ed a b + sc x y)
theorem ed_nil (a : List Nat) : ed a [] = 2 * a.length := by
  cases a with
  | nil => simp [ed]
  | cons x a => simp [ed]
theorem ed_nil' (b : List Nat) : ed [] b = 2 * b.length := by simp [ed]
theorem ed_cons (x y : Nat) (a b : List Nat) : ed (x :: a) (y :: b) = min (min (ed a (y :: b)) (ed (x :: a) b) + 2) (ed a b + sc x y) := by rw [ed]
theorem ed_comm : ∀ a b : List Nat, ed a b = ed b a
  | [], b => by rw [ed_nil, ed_nil']
  | x :: a, [] => by rw [ed_nil, ed_nil']
  | x :: a, y :: b => by
    rw [ed_cons, ed_cons, ed_comm a (y :: b), ed_comm (x :: a) b, ed_comm a b, sc_comm x y, Int.min_comm (ed (y :: b) a)]
/-- every prefix of one side is passed at some prefix of the other, no dearer than the whole -/
theorem ed_pass : ∀ (a b : List Nat) (k : Nat), k ≤ b.length → ∃ l, l ≤ a.length ∧ ed (a.drop l) (b.drop k) ≤ ed a b
  | [], b, k, hk => ⟨0, Nat.le_refl _, by rw [List.drop_nil, ed_nil', ed_nil', List.length_drop]; omega⟩
  | x :: a, [], k, hk => ⟨0, Nat.zero_le _, by
      have : k = 0 := by simpa using hk
      subst this; exact Int.le_refl _⟩
  | x :: a, y :: b, 0, hk => ⟨0, Nat.zero_le _, Int.le_refl _⟩
  | x :: a, y :: b, k + 1, hk => by
    rw [ed_cons]
    have hk' : k ≤ b.length := by simpa using hk
    obtain ⟨l1, h1, e1⟩ := ed_pass a (y :: b) (k + 1) hk
    obtain ⟨l2, h2, e2⟩ := ed_pass (x :: a) b k hk'
    obtain ⟨l3, h3, e3⟩ := ed_pass a b k hk'
    have h4 := sc_le x y
    rw [List.drop_succ_cons] at e1 ⊢
    by_cases c1 : ed a (y :: b) + 2 ≤ ed a b + sc x y ∧ ed a (y :: b) ≤ ed (x :: a) b
    · exact ⟨l1 + 1, by simp; omega, by rw [List.drop_succ_cons]; omega⟩
    · by_cases c2 : ed (x :: a) b + 2 ≤ ed a b + sc x y
      · exact ⟨l2, h2, by omega⟩
      · exact ⟨l3 + 1, by simp; omega, by rw [List.drop_succ_cons]; omega⟩

/-! the rows -/
noncomputable def inner (ch : Nat) : List Nat → List Int → Int → Int → List Int
  | x :: a, r :: row, dist, res => min (min res r + 2) (dist + sc ch x) :: inner ch a row r (min (min res r + 2) (dist + sc ch x))
  | _, _, _, _ => []
/-- the row of the prices of a prefix rb (from behind) against the prefixes of pa.reverse ++ a that go beyond pa -/
noncomputable def rowOf (rb : List Nat) : List Nat → List Nat → List Int
  | _, [] => []
  | pa, x :: a => ed (x :: pa) rb :: rowOf rb (x :: pa) a
theorem rowOf_len (rb : List Nat) : ∀ (a pa : List Nat), (rowOf rb pa a).length = a.length
  | [], _ => rfl
  | x :: a, pa => by simp [rowOf, rowOf_len rb a (x :: pa)]
theorem inner_more (ch : Nat) (rb : List Nat) : ∀ (a pa : List Nat) (res : Int), pa ≠ [] → res = ed pa (ch :: rb) →
    inner ch a (rowOf rb pa a) (ed pa rb) res = rowOf (ch :: rb) pa a
  | [], _, _, _, _ => rfl
  | x :: a, pa, res, hne, hr => by
    have e : min (min res (ed (x :: pa) rb) + 2) (ed pa rb + sc ch x) = ed (x :: pa) (ch :: rb) := by
      rw [ed_cons, hr, sc_comm]
    rw [rowOf, inner, e, rowOf, inner_more ch rb a (x :: pa) _ (by simp) rfl]
theorem inner_row (ch : Nat) (rb a : List Nat) : inner ch a (rowOf rb [] a) (2 * rb.length) (2 * rb.length) = rowOf (ch :: rb) [] a := by
  cases a with
  | nil => rfl
  | cons x a =>
    have h4 := sc_le ch x
    have e : min (min (2 * (rb.length : Int)) (ed [x] rb) + 2) (2 * (rb.length : Int) + sc ch x) = ed [x] (ch :: rb) := by
      rw [ed_cons, ed_nil', ed_nil', sc_comm x ch, List.length_cons]
      omega
    rw [rowOf, inner, e, rowOf]
    have := inner_more ch rb a [x] (ed [x] (ch :: rb)) (by simp) rfl
    rw [this]
noncomputable def minOf (row : List Int) : Int := row.foldl (fun m r => if r < m then r else m) 9223372036854775807
theorem minOf_from : ∀ (row : List Int) (m : Int), row.foldl (fun m r => if r < m then r else m) m ≤ m ∧ ∀ r ∈ row, row.foldl (fun m r => if r < m then r else m) m ≤ r
  | [], m => by simp
  | r :: row, m => by
    obtain ⟨h1, h2⟩ := minOf_from row (if r < m then r else m)
    rw [List.foldl_cons]
    have hz : (if r < m then r else m) ≤ m ∧ (if r < m then r else m) ≤ r := by split <;> omega
    refine ⟨Int.le_trans h1 hz.1, fun q hq => ?_⟩
    rcases List.mem_cons.mp hq with rfl | hq
    · exact Int.le_trans h1 hz.2
    · exact h2 q hq
theorem minOf_le {row : List Int} {r : Int} (h : r ∈ row) : minOf row ≤ r := (minOf_from row _).2 r h
noncomputable def dp (a : List Nat) (mx : Int) : List Nat → Int → List Int → Int → Int
  | [], _, _, res => res
  | c :: b, i, row, _ => if minOf (inner c a row (2 * i) (2 * i)) > mx then mx + 1 else dp a mx b (i + 1) (inner c a row (2 * i) (2 * i)) ((inner c a row (2 * i) (2 * i)).getLastD 0)
theorem rowOf_last (rb : List Nat) : ∀ (a pa : List Nat), a ≠ [] → (rowOf rb pa a).getLastD 0 = ed (a.reverse ++ pa) rb
  | [x], pa, _ => by simp [rowOf]
  | x :: y :: a, pa, _ => by
    have ih := rowOf_last rb (y :: a) (x :: pa) (by simp)
    rw [rowOf, rowOf, List.getLastD_cons, List.getLastD_cons]
    rw [rowOf, List.getLastD_cons] at ih
    rw [ih, List.reverse_cons, List.append_assoc, List.reverse_cons, List.append_assoc, List.reverse_cons]
    simp
theorem rowOf_has (rb : List Nat) : ∀ (a pa : List Nat) (l : Nat), l < a.length → ed ((a.reverse ++ pa).drop l) rb ∈ rowOf rb pa a
  | x :: a, pa, l, hl => by
    rw [rowOf]
    by_cases h : l = a.length
    · subst h
      rw [List.reverse_cons, List.append_assoc, List.drop_append_of_le_length (by simp), List.drop_of_length_le (by simp)]
      exact List.mem_cons_self ..
    · have hl' : l < a.length := by simp at hl; omega
      have := rowOf_has rb a (x :: pa) l hl'
      rw [List.reverse_cons, List.append_assoc]
      exact List.mem_cons_of_mem _ this
theorem dp_ed (a : List Nat) (ha : a ≠ []) (mx : Int) : ∀ (b rb : List Nat) (res : Int), (b = [] → res = ed a.reverse rb) →
    (dp a mx b rb.length (rowOf rb [] a) res = ed a.reverse (b.reverse ++ rb) ∨ dp a mx b rb.length (rowOf rb [] a) res = mx + 1) ∧
    (ed a.reverse (b.reverse ++ rb) ≤ mx → dp a mx b rb.length (rowOf rb [] a) res = ed a.reverse (b.reverse ++ rb))
  | [], rb, res, h => by
    rw [dp, h rfl]
    simp
  | c :: b, rb, res, _ => by
    have hrow := inner_row c rb a
    have hlast := rowOf_last (c :: rb) a [] ha
    rw [List.append_nil] at hlast
    have hlen : ((rb.length : Int) + 1) = (((c :: rb).length : Nat) : Int) := by simp
    rw [dp, hrow, hlast, hlen, List.reverse_cons, List.append_assoc]
    obtain ⟨i1, i2⟩ := dp_ed a ha mx b (c :: rb) (ed a.reverse (c :: rb)) (fun _ => rfl)
    rw [show [c] ++ rb = c :: rb from rfl]
    split
    · rename_i hgt
      refine ⟨.inr rfl, fun hle => ?_⟩
      exfalso
      obtain ⟨l, h1, h2⟩ := ed_pass a.reverse (b.reverse ++ c :: rb) b.length (by simp)
      rw [show (b.reverse ++ c :: rb).drop b.length = c :: rb by rw [List.drop_append_of_le_length (by simp), List.drop_of_length_le (by simp)]; rfl] at h2
      by_cases hl : l < a.length
      · have := minOf_le (rowOf_has (c :: rb) a [] l hl)
        rw [List.append_nil] at this
        omega
      · have hd : a.reverse.drop l = [] := List.drop_of_length_le (by simp; omega)
        rw [hd, ed_nil'] at h2
        cases a with
        | nil => exact ha rfl
        | cons x a =>
          have hm : ed [x] (c :: rb) ∈ rowOf (c :: rb) [] (x :: a) := by rw [rowOf]; exact List.mem_cons_self ..
          have := minOf_le hm
          have h3 : ed [x] (c :: rb) ≤ 2 * ((c :: rb).length : Int) := by
            have h4 := sc_le x c
            rw [ed_cons, ed_nil', ed_nil', List.length_cons]; omega
          omega
    · exact ⟨i1, i2⟩
end Mine
end
section
open PySem PySem.W PyProof.Rows
set_option Elab.async false
namespace Mine
/-! the law's own reading: told by pieces between pairs of quotes -/
end Mine
end
section
open PySem PySem.W PyProof.Rows
set_option Elab.async false
set_option maxRecDepth 100000
namespace Mine
set_option maxHeartbeats 400000 in
theorem if_repl {prog : Program} {w : World} {A : Around} {E : Value → Shared → Prop} {s : Shared} {name : PySem.Str} {scope : Scope} {L a : Addr} {cd : Value} {h₀ : Heap} {m : PySem.Str → Option Value} {news : List (Addr × Obj)}
    {x c r : PySem.Str} {t : Tok} {k1 k2 k3 : Nat} {p1 p2 p3 p4 p5 p6 p7 p8 p9 p10 p11 : Pos} {Q : Flow → Shared → Prop}
    (F : Fr h₀ L s.heap m) (N : News h₀ L s.heap news) (hm : m (PySem.Str.ofString "text") = some (.str x t)) (hc1 : c.length = 1) (hcr : (c == r) = false)
    (hx : x.length ≤ 1048576) (hr : r.length ≤ 14)
    (h : ∀ t' h' tk', Fr h₀ L h' (fun y => if y = PySem.Str.ofString "text" then some (.str (Txt.replace x c r) t') else m y) → News h₀ L h' news → Q .next { s with heap := h', toks := tk' })
    (hk : scope.kind = .function := by rfl) (hl : (envOf name scope L a cd).kindOf (PySem.Str.ofString "text") = some .local := by rfl)
    {pl : Sem Bool}
    (he : PySem.eval (.Call (.Attribute (PySem.Expr.Name (PySem.Str.ofString "text") p6) (PySem.Str.ofString "replace") p7) [PySem.Expr.Constant (Const.str c) k2 p8, PySem.Expr.Constant (Const.str r) k3 p9] [] p10) (envOf name scope L a cd) = (do
      let ov ← PySem.eval (PySem.Expr.Name (PySem.Str.ofString "text") p6) (envOf name scope L a cd)
      standAt p7.atName
      let (f, first) ← holding [ov] (getMethod ov (PySem.Str.ofString "replace") pl)
      callWith p10 f first (backTo p10 (starEach [PySem.Expr.Constant (Const.str c) k2 p8, PySem.Expr.Constant (Const.str r) k3 p9] (envOf name scope L a cd))) []) := by rfl) :
    wpAny (model prog w) A (exec (Stmt.If (PySem.Expr.Compare (PySem.Expr.Constant (Const.str c) k1 p1) [CmpOp.In] [PySem.Expr.Name (PySem.Str.ofString "text") p2] p3)
      [Stmt.Assign [PySem.Expr.Name (PySem.Str.ofString "text") p4] (PySem.Expr.Call (PySem.Expr.Attribute (PySem.Expr.Name (PySem.Str.ofString "text") p6) (PySem.Str.ofString "replace") p7) [PySem.Expr.Constant (Const.str c) k2 p8, PySem.Expr.Constant (Const.str r) k3 p9] [] p10) p11] [] p5) (envOf name scope L a cd)) Q E s := by
  refine wpAny_If (wpAny_isTrue_Compare1 (wpAny_Constant_str (ld F hm (in_str (wpAny_truthy_bool ?_)) hk hl)))
  split
  · rename_i hc
    refine wpAny_execs_cons ?_
    refine wpAny_Assign_Name ?_
    refine MethodCall_ ?_ he
    refine ld F hm ?_ hk hl
    repeat' ((fail_if_success (with_reducible show wpAny _ _ (storeName _ _ _) _ _ _)); walk1)
    refine stN F N ?_ hk hl
    intro h' F' N'
    refine wpAny_execs_nil ?_
    exact h _ _ _ F' N'

  · rename_i hc
    refine wpAny_execs_nil ?_
    have e : Txt.replace x c r = x := replace_none hc1 (by simpa using hc)
    refine h t _ _ ?_ N
    rw [e]
    have : (fun y => if y = PySem.Str.ofString "text" then some (Value.str x t) else m y) = m := by
      funext y
      split
      · rename_i hy; rw [hy, hm]
      · rfl
    rw [this]
    exact F
end Mine
end
section
open PySem PySem.W PyProof.Rows
set_option Elab.async false
namespace Mine
theorem esc0 {x : PySem.Str} (h : x.length ≤ 100000) : (x).length ≤ 1048576 ∧ (Txt.replace (x) (PySem.Str.ofString "&") (PySem.Str.ofString "&amp;")).length ≤ 1048576 ∧ (Txt.replace (Txt.replace (x) (PySem.Str.ofString "&") (PySem.Str.ofString "&amp;")) (PySem.Str.ofString "<") (PySem.Str.ofString "&lt;")).length ≤ 1048576 ∧ Txt.replace (Txt.replace (Txt.replace (x) (PySem.Str.ofString "&") (PySem.Str.ofString "&amp;")) (PySem.Str.ofString "<") (PySem.Str.ofString "&lt;")) (PySem.Str.ofString ">") (PySem.Str.ofString "&gt;") = pageS 0 x := by
  have g0 : (x).length ≤ (Txt.replace (x) (PySem.Str.ofString "&") (PySem.Str.ofString "&amp;")).length := replace_grows (by decide +kernel) (by decide +kernel)
  have g1 : (Txt.replace (x) (PySem.Str.ofString "&") (PySem.Str.ofString "&amp;")).length ≤ (Txt.replace (Txt.replace (x) (PySem.Str.ofString "&") (PySem.Str.ofString "&amp;")) (PySem.Str.ofString "<") (PySem.Str.ofString "&lt;")).length := replace_grows (by decide +kernel) (by decide +kernel)
  have g2 : (Txt.replace (Txt.replace (x) (PySem.Str.ofString "&") (PySem.Str.ofString "&amp;")) (PySem.Str.ofString "<") (PySem.Str.ofString "&lt;")).length ≤ (Txt.replace (Txt.replace (Txt.replace (x) (PySem.Str.ofString "&") (PySem.Str.ofString "&amp;")) (PySem.Str.ofString "<") (PySem.Str.ofString "&lt;")) (PySem.Str.ofString ">") (PySem.Str.ofString "&gt;")).length := replace_grows (by decide +kernel) (by decide +kernel)
  have e : Txt.replace (Txt.replace (Txt.replace (x) (PySem.Str.ofString "&") (PySem.Str.ofString "&amp;")) (PySem.Str.ofString "<") (PySem.Str.ofString "&lt;")) (PySem.Str.ofString ">") (PySem.Str.ofString "&gt;") = pageS 0 x := by
    apply cl_inj
    rw [pageS, cl_mkS, ← page_run (by decide)]
    rw [cl_replace (k := 62) (by decide +kernel), show cl (PySem.Str.ofString "&gt;") = [38, 103, 116, 59] from by decide +kernel, cl_replace (k := 60) (by decide +kernel), show cl (PySem.Str.ofString "&lt;") = [38, 108, 116, 59] from by decide +kernel, cl_replace (k := 38) (by decide +kernel), show cl (PySem.Str.ofString "&amp;") = [38, 97, 109, 112, 59] from by decide +kernel]
    rfl
  have hl := pageS_len 0 x
  rw [← e] at hl
  refine ⟨by omega, by omega, by omega, e⟩
theorem esc1 {x : PySem.Str} (h : x.length ≤ 100000) : (x).length ≤ 1048576 ∧ (Txt.replace (x) (PySem.Str.ofString "&") (PySem.Str.ofString "&amp;")).length ≤ 1048576 ∧ (Txt.replace (Txt.replace (x) (PySem.Str.ofString "&") (PySem.Str.ofString "&amp;")) (PySem.Str.ofString "<") (PySem.Str.ofString "&lt;")).length ≤ 1048576 ∧ (Txt.replace (Txt.replace (Txt.replace (x) (PySem.Str.ofString "&") (PySem.Str.ofString "&amp;")) (PySem.Str.ofString "<") (PySem.Str.ofString "&lt;")) (PySem.Str.ofString ">") (PySem.Str.ofString "&gt;")).length ≤ 1048576 ∧ (Txt.replace (Txt.replace (Txt.replace (Txt.replace (x) (PySem.Str.ofString "&") (PySem.Str.ofString "&amp;")) (PySem.Str.ofString "<") (PySem.Str.ofString "&lt;")) (PySem.Str.ofString ">") (PySem.Str.ofString "&gt;")) (PySem.Str.ofString "\"") (PySem.Str.ofString "&quot;")).length ≤ 1048576 ∧ (Txt.replace (Txt.replace (Txt.replace (Txt.replace (Txt.replace (x) (PySem.Str.ofString "&") (PySem.Str.ofString "&amp;")) (PySem.Str.ofString "<") (PySem.Str.ofString "&lt;")) (PySem.Str.ofString ">") (PySem.Str.ofString "&gt;")) (PySem.Str.ofString "\"") (PySem.Str.ofString "&quot;")) (PySem.Str.ofString "\r") (PySem.Str.ofString "&#13;")).length ≤ 1048576 ∧ (Txt.replace (Txt.replace (Txt.replace (Txt.replace (Txt.replace (Txt.replace (x) (PySem.Str.ofString "&") (PySem.Str.ofString "&amp;")) (PySem.Str.ofString "<") (PySem.Str.ofString "&lt;")) (PySem.Str.ofString ">") (PySem.Str.ofString "&gt;")) (PySem.Str.ofString "\"") (PySem.Str.ofString "&quot;")) (PySem.Str.ofString "\r") (PySem.Str.ofString "&#13;")) (PySem.Str.ofString "\n") (PySem.Str.ofString "&#10;")).length ≤ 1048576 ∧ Txt.replace (Txt.replace (Txt.replace (Txt.replace (Txt.replace (Txt.replace (Txt.replace (x) (PySem.Str.ofString "&") (PySem.Str.ofString "&amp;")) (PySem.Str.ofString "<") (PySem.Str.ofString "&lt;")) (PySem.Str.ofString ">") (PySem.Str.ofString "&gt;")) (PySem.Str.ofString "\"") (PySem.Str.ofString "&quot;")) (PySem.Str.ofString "\r") (PySem.Str.ofString "&#13;")) (PySem.Str.ofString "\n") (PySem.Str.ofString "&#10;")) (PySem.Str.ofString "\t") (PySem.Str.ofString "&#09;") = pageS 1 x := by
  have g0 : (x).length ≤ (Txt.replace (x) (PySem.Str.ofString "&") (PySem.Str.ofString "&amp;")).length := replace_grows (by decide +kernel) (by decide +kernel)
  have g1 : (Txt.replace (x) (PySem.Str.ofString "&") (PySem.Str.ofString "&amp;")).length ≤ (Txt.replace (Txt.replace (x) (PySem.Str.ofString "&") (PySem.Str.ofString "&amp;")) (PySem.Str.ofString "<") (PySem.Str.ofString "&lt;")).length := replace_grows (by decide +kernel) (by decide +kernel)
  have g2 : (Txt.replace (Txt.replace (x) (PySem.Str.ofString "&") (PySem.Str.ofString "&amp;")) (PySem.Str.ofString "<") (PySem.Str.ofString "&lt;")).length ≤ (Txt.replace (Txt.replace (Txt.replace (x) (PySem.Str.ofString "&") (PySem.Str.ofString "&amp;")) (PySem.Str.ofString "<") (PySem.Str.ofString "&lt;")) (PySem.Str.ofString ">") (PySem.Str.ofString "&gt;")).length := replace_grows (by decide +kernel) (by decide +kernel)
  have g3 : (Txt.replace (Txt.replace (Txt.replace (x) (PySem.Str.ofString "&") (PySem.Str.ofString "&amp;")) (PySem.Str.ofString "<") (PySem.Str.ofString "&lt;")) (PySem.Str.ofString ">") (PySem.Str.ofString "&gt;")).length ≤ (Txt.replace (Txt.replace (Txt.replace (Txt.replace (x) (PySem.Str.ofString "&") (PySem.Str.ofString "&amp;")) (PySem.Str.ofString "<") (PySem.Str.ofString "&lt;")) (PySem.Str.ofString ">") (PySem.Str.ofString "&gt;")) (PySem.Str.ofString "\"") (PySem.Str.ofString "&quot;")).length := replace_grows (by decide +kernel) (by decide +kernel)
  have g4 : (Txt.replace (Txt.replace (Txt.replace (Txt.replace (x) (PySem.Str.ofString "&") (PySem.Str.ofString "&amp;")) (PySem.Str.ofString "<") (PySem.Str.ofString "&lt;")) (PySem.Str.ofString ">") (PySem.Str.ofString "&gt;")) (PySem.Str.ofString "\"") (PySem.Str.ofString "&quot;")).length ≤ (Txt.replace (Txt.replace (Txt.replace (Txt.replace (Txt.replace (x) (PySem.Str.ofString "&") (PySem.Str.ofString "&amp;")) (PySem.Str.ofString "<") (PySem.Str.ofString "&lt;")) (PySem.Str.ofString ">") (PySem.Str.ofString "&gt;")) (PySem.Str.ofString "\"") (PySem.Str.ofString "&quot;")) (PySem.Str.ofString "\r") (PySem.Str.ofString "&#13;")).length := replace_grows (by decide +kernel) (by decide +kernel)
  have g5 : (Txt.replace (Txt.replace (Txt.replace (Txt.replace (Txt.replace (x) (PySem.Str.ofString "&") (PySem.Str.ofString "&amp;")) (PySem.Str.ofString "<") (PySem.Str.ofString "&lt;")) (PySem.Str.ofString ">") (PySem.Str.ofString "&gt;")) (PySem.Str.ofString "\"") (PySem.Str.ofString "&quot;")) (PySem.Str.ofString "\r") (PySem.Str.ofString "&#13;")).length ≤ (Txt.replace (Txt.replace (Txt.replace (Txt.replace (Txt.replace (Txt.replace (x) (PySem.Str.ofString "&") (PySem.Str.ofString "&amp;")) (PySem.Str.ofString "<") (PySem.Str.ofString "&lt;")) (PySem.Str.ofString ">") (PySem.Str.ofString "&gt;")) (PySem.Str.ofString "\"") (PySem.Str.ofString "&quot;")) (PySem.Str.ofString "\r") (PySem.Str.ofString "&#13;")) (PySem.Str.ofString "\n") (PySem.Str.ofString "&#10;")).length := replace_grows (by decide +kernel) (by decide +kernel)
  have g6 : (Txt.replace (Txt.replace (Txt.replace (Txt.replace (Txt.replace (Txt.replace (x) (PySem.Str.ofString "&") (PySem.Str.ofString "&amp;")) (PySem.Str.ofString "<") (PySem.Str.ofString "&lt;")) (PySem.Str.ofString ">") (PySem.Str.ofString "&gt;")) (PySem.Str.ofString "\"") (PySem.Str.ofString "&quot;")) (PySem.Str.ofString "\r") (PySem.Str.ofString "&#13;")) (PySem.Str.ofString "\n") (PySem.Str.ofString "&#10;")).length ≤ (Txt.replace (Txt.replace (Txt.replace (Txt.replace (Txt.replace (Txt.replace (Txt.replace (x) (PySem.Str.ofString "&") (PySem.Str.ofString "&amp;")) (PySem.Str.ofString "<") (PySem.Str.ofString "&lt;")) (PySem.Str.ofString ">") (PySem.Str.ofString "&gt;")) (PySem.Str.ofString "\"") (PySem.Str.ofString "&quot;")) (PySem.Str.ofString "\r") (PySem.Str.ofString "&#13;")) (PySem.Str.ofString "\n") (PySem.Str.ofString "&#10;")) (PySem.Str.ofString "\t") (PySem.Str.ofString "&#09;")).length := replace_grows (by decide +kernel) (by decide +kernel)
  have e : Txt.replace (Txt.replace (Txt.replace (Txt.replace (Txt.replace (Txt.replace (Txt.replace (x) (PySem.Str.ofString "&") (PySem.Str.ofString "&amp;")) (PySem.Str.ofString "<") (PySem.Str.ofString "&lt;")) (PySem.Str.ofString ">") (PySem.Str.ofString "&gt;")) (PySem.Str.ofString "\"") (PySem.Str.ofString "&quot;")) (PySem.Str.ofString "\r") (PySem.Str.ofString "&#13;")) (PySem.Str.ofString "\n") (PySem.Str.ofString "&#10;")) (PySem.Str.ofString "\t") (PySem.Str.ofString "&#09;") = pageS 1 x := by
    apply cl_inj
    rw [pageS, cl_mkS, ← page_run (by decide)]
    rw [cl_replace (k := 9) (by decide +kernel), show cl (PySem.Str.ofString "&#09;") = [38, 35, 48, 57, 59] from by decide +kernel, cl_replace (k := 10) (by decide +kernel), show cl (PySem.Str.ofString "&#10;") = [38, 35, 49, 48, 59] from by decide +kernel, cl_replace (k := 13) (by decide +kernel), show cl (PySem.Str.ofString "&#13;") = [38, 35, 49, 51, 59] from by decide +kernel, cl_replace (k := 34) (by decide +kernel), show cl (PySem.Str.ofString "&quot;") = [38, 113, 117, 111, 116, 59] from by decide +kernel, cl_replace (k := 62) (by decide +kernel), show cl (PySem.Str.ofString "&gt;") = [38, 103, 116, 59] from by decide +kernel, cl_replace (k := 60) (by decide +kernel), show cl (PySem.Str.ofString "&lt;") = [38, 108, 116, 59] from by decide +kernel, cl_replace (k := 38) (by decide +kernel), show cl (PySem.Str.ofString "&amp;") = [38, 97, 109, 112, 59] from by decide +kernel]
    rfl
  have hl := pageS_len 1 x
  rw [← e] at hl
  refine ⟨by omega, by omega, by omega, by omega, by omega, by omega, by omega, e⟩
theorem esc2 {x : PySem.Str} (h : x.length ≤ 100000) : (x).length ≤ 1048576 ∧ (Txt.replace (x) (PySem.Str.ofString "&") (PySem.Str.ofString "&amp;")).length ≤ 1048576 ∧ (Txt.replace (Txt.replace (x) (PySem.Str.ofString "&") (PySem.Str.ofString "&amp;")) (PySem.Str.ofString ">") (PySem.Str.ofString "&gt;")).length ≤ 1048576 ∧ Txt.replace (Txt.replace (Txt.replace (x) (PySem.Str.ofString "&") (PySem.Str.ofString "&amp;")) (PySem.Str.ofString ">") (PySem.Str.ofString "&gt;")) (PySem.Str.ofString "\"") (PySem.Str.ofString "&quot;") = pageS 2 x := by
  have g0 : (x).length ≤ (Txt.replace (x) (PySem.Str.ofString "&") (PySem.Str.ofString "&amp;")).length := replace_grows (by decide +kernel) (by decide +kernel)
  have g1 : (Txt.replace (x) (PySem.Str.ofString "&") (PySem.Str.ofString "&amp;")).length ≤ (Txt.replace (Txt.replace (x) (PySem.Str.ofString "&") (PySem.Str.ofString "&amp;")) (PySem.Str.ofString ">") (PySem.Str.ofString "&gt;")).length := replace_grows (by decide +kernel) (by decide +kernel)
  have g2 : (Txt.replace (Txt.replace (x) (PySem.Str.ofString "&") (PySem.Str.ofString "&amp;")) (PySem.Str.ofString ">") (PySem.Str.ofString "&gt;")).length ≤ (Txt.replace (Txt.replace (Txt.replace (x) (PySem.Str.ofString "&") (PySem.Str.ofString "&amp;")) (PySem.Str.ofString ">") (PySem.Str.ofString "&gt;")) (PySem.Str.ofString "\"") (PySem.Str.ofString "&quot;")).length := replace_grows (by decide +kernel) (by decide +kernel)
  have e : Txt.replace (Txt.replace (Txt.replace (x) (PySem.Str.ofString "&") (PySem.Str.ofString "&amp;")) (PySem.Str.ofString ">") (PySem.Str.ofString "&gt;")) (PySem.Str.ofString "\"") (PySem.Str.ofString "&quot;") = pageS 2 x := by
    apply cl_inj
    rw [pageS, cl_mkS, ← page_run (by decide)]
    rw [cl_replace (k := 34) (by decide +kernel), show cl (PySem.Str.ofString "&quot;") = [38, 113, 117, 111, 116, 59] from by decide +kernel, cl_replace (k := 62) (by decide +kernel), show cl (PySem.Str.ofString "&gt;") = [38, 103, 116, 59] from by decide +kernel, cl_replace (k := 38) (by decide +kernel), show cl (PySem.Str.ofString "&amp;") = [38, 97, 109, 112, 59] from by decide +kernel]
    rfl
  have hl := pageS_len 2 x
  rw [← e] at hl
  refine ⟨by omega, by omega, by omega, e⟩
theorem esc3 {x : PySem.Str} (h : x.length ≤ 100000) : (x).length ≤ 1048576 ∧ (Txt.replace (x) (PySem.Str.ofString "&") (PySem.Str.ofString "&amp;")).length ≤ 1048576 ∧ (Txt.replace (Txt.replace (x) (PySem.Str.ofString "&") (PySem.Str.ofString "&amp;")) (PySem.Str.ofString "<") (PySem.Str.ofString "&lt;")).length ≤ 1048576 ∧ (Txt.replace (Txt.replace (Txt.replace (x) (PySem.Str.ofString "&") (PySem.Str.ofString "&amp;")) (PySem.Str.ofString "<") (PySem.Str.ofString "&lt;")) (PySem.Str.ofString ">") (PySem.Str.ofString "&gt;")).length ≤ 1048576 ∧ Txt.replace (Txt.replace (Txt.replace (Txt.replace (x) (PySem.Str.ofString "&") (PySem.Str.ofString "&amp;")) (PySem.Str.ofString "<") (PySem.Str.ofString "&lt;")) (PySem.Str.ofString ">") (PySem.Str.ofString "&gt;")) (PySem.Str.ofString "\r") (PySem.Str.ofString "&#xD;") = pageS 3 x := by
  have g0 : (x).length ≤ (Txt.replace (x) (PySem.Str.ofString "&") (PySem.Str.ofString "&amp;")).length := replace_grows (by decide +kernel) (by decide +kernel)
  have g1 : (Txt.replace (x) (PySem.Str.ofString "&") (PySem.Str.ofString "&amp;")).length ≤ (Txt.replace (Txt.replace (x) (PySem.Str.ofString "&") (PySem.Str.ofString "&amp;")) (PySem.Str.ofString "<") (PySem.Str.ofString "&lt;")).length := replace_grows (by decide +kernel) (by decide +kernel)
  have g2 : (Txt.replace (Txt.replace (x) (PySem.Str.ofString "&") (PySem.Str.ofString "&amp;")) (PySem.Str.ofString "<") (PySem.Str.ofString "&lt;")).length ≤ (Txt.replace (Txt.replace (Txt.replace (x) (PySem.Str.ofString "&") (PySem.Str.ofString "&amp;")) (PySem.Str.ofString "<") (PySem.Str.ofString "&lt;")) (PySem.Str.ofString ">") (PySem.Str.ofString "&gt;")).length := replace_grows (by decide +kernel) (by decide +kernel)
  have g3 : (Txt.replace (Txt.replace (Txt.replace (x) (PySem.Str.ofString "&") (PySem.Str.ofString "&amp;")) (PySem.Str.ofString "<") (PySem.Str.ofString "&lt;")) (PySem.Str.ofString ">") (PySem.Str.ofString "&gt;")).length ≤ (Txt.replace (Txt.replace (Txt.replace (Txt.replace (x) (PySem.Str.ofString "&") (PySem.Str.ofString "&amp;")) (PySem.Str.ofString "<") (PySem.Str.ofString "&lt;")) (PySem.Str.ofString ">") (PySem.Str.ofString "&gt;")) (PySem.Str.ofString "\r") (PySem.Str.ofString "&#xD;")).length := replace_grows (by decide +kernel) (by decide +kernel)
  have e : Txt.replace (Txt.replace (Txt.replace (Txt.replace (x) (PySem.Str.ofString "&") (PySem.Str.ofString "&amp;")) (PySem.Str.ofString "<") (PySem.Str.ofString "&lt;")) (PySem.Str.ofString ">") (PySem.Str.ofString "&gt;")) (PySem.Str.ofString "\r") (PySem.Str.ofString "&#xD;") = pageS 3 x := by
    apply cl_inj
    rw [pageS, cl_mkS, ← page_run (by decide)]
    rw [cl_replace (k := 13) (by decide +kernel), show cl (PySem.Str.ofString "&#xD;") = [38, 35, 120, 68, 59] from by decide +kernel, cl_replace (k := 62) (by decide +kernel), show cl (PySem.Str.ofString "&gt;") = [38, 103, 116, 59] from by decide +kernel, cl_replace (k := 60) (by decide +kernel), show cl (PySem.Str.ofString "&lt;") = [38, 108, 116, 59] from by decide +kernel, cl_replace (k := 38) (by decide +kernel), show cl (PySem.Str.ofString "&amp;") = [38, 97, 109, 112, 59] from by decide +kernel]
    rfl
  have hl := pageS_len 3 x
  rw [← e] at hl
  refine ⟨by omega, by omega, by omega, by omega, e⟩
theorem esc4 {x : PySem.Str} (h : x.length ≤ 100000) : (x).length ≤ 1048576 ∧ (Txt.replace (x) (PySem.Str.ofString "&") (PySem.Str.ofString "&amp;")).length ≤ 1048576 ∧ (Txt.replace (Txt.replace (x) (PySem.Str.ofString "&") (PySem.Str.ofString "&amp;")) (PySem.Str.ofString "<") (PySem.Str.ofString "&lt;")).length ≤ 1048576 ∧ (Txt.replace (Txt.replace (Txt.replace (x) (PySem.Str.ofString "&") (PySem.Str.ofString "&amp;")) (PySem.Str.ofString "<") (PySem.Str.ofString "&lt;")) (PySem.Str.ofString "\"") (PySem.Str.ofString "&quot;")).length ≤ 1048576 ∧ (Txt.replace (Txt.replace (Txt.replace (Txt.replace (x) (PySem.Str.ofString "&") (PySem.Str.ofString "&amp;")) (PySem.Str.ofString "<") (PySem.Str.ofString "&lt;")) (PySem.Str.ofString "\"") (PySem.Str.ofString "&quot;")) (PySem.Str.ofString "\t") (PySem.Str.ofString "&#x9;")).length ≤ 1048576 ∧ (Txt.replace (Txt.replace (Txt.replace (Txt.replace (Txt.replace (x) (PySem.Str.ofString "&") (PySem.Str.ofString "&amp;")) (PySem.Str.ofString "<") (PySem.Str.ofString "&lt;")) (PySem.Str.ofString "\"") (PySem.Str.ofString "&quot;")) (PySem.Str.ofString "\t") (PySem.Str.ofString "&#x9;")) (PySem.Str.ofString "\n") (PySem.Str.ofString "&#xA;")).length ≤ 1048576 ∧ Txt.replace (Txt.replace (Txt.replace (Txt.replace (Txt.replace (Txt.replace (x) (PySem.Str.ofString "&") (PySem.Str.ofString "&amp;")) (PySem.Str.ofString "<") (PySem.Str.ofString "&lt;")) (PySem.Str.ofString "\"") (PySem.Str.ofString "&quot;")) (PySem.Str.ofString "\t") (PySem.Str.ofString "&#x9;")) (PySem.Str.ofString "\n") (PySem.Str.ofString "&#xA;")) (PySem.Str.ofString "\r") (PySem.Str.ofString "&#xD;") = pageS 4 x := by
  have g0 : (x).length ≤ (Txt.replace (x) (PySem.Str.ofString "&") (PySem.Str.ofString "&amp;")).length := replace_grows (by decide +kernel) (by decide +kernel)
  have g1 : (Txt.replace (x) (PySem.Str.ofString "&") (PySem.Str.ofString "&amp;")).length ≤ (Txt.replace (Txt.replace (x) (PySem.Str.ofString "&") (PySem.Str.ofString "&amp;")) (PySem.Str.ofString "<") (PySem.Str.ofString "&lt;")).length := replace_grows (by decide +kernel) (by decide +kernel)
  have g2 : (Txt.replace (Txt.replace (x) (PySem.Str.ofString "&") (PySem.Str.ofString "&amp;")) (PySem.Str.ofString "<") (PySem.Str.ofString "&lt;")).length ≤ (Txt.replace (Txt.replace (Txt.replace (x) (PySem.Str.ofString "&") (PySem.Str.ofString "&amp;")) (PySem.Str.ofString "<") (PySem.Str.ofString "&lt;")) (PySem.Str.ofString "\"") (PySem.Str.ofString "&quot;")).length := replace_grows (by decide +kernel) (by decide +kernel)
  have g3 : (Txt.replace (Txt.replace (Txt.replace (x) (PySem.Str.ofString "&") (PySem.Str.ofString "&amp;")) (PySem.Str.ofString "<") (PySem.Str.ofString "&lt;")) (PySem.Str.ofString "\"") (PySem.Str.ofString "&quot;")).length ≤ (Txt.replace (Txt.replace (Txt.replace (Txt.replace (x) (PySem.Str.ofString "&") (PySem.Str.ofString "&amp;")) (PySem.Str.ofString "<") (PySem.Str.ofString "&lt;")) (PySem.Str.ofString "\"") (PySem.Str.ofString "&quot;")) (PySem.Str.ofString "\t") (PySem.Str.ofString "&#x9;")).length := replace_grows (by decide +kernel) (by decide +kernel)
  have g4 : (Txt.replace (Txt.replace (Txt.replace (Txt.replace (x) (PySem.Str.ofString "&") (PySem.Str.ofString "&amp;")) (PySem.Str.ofString "<") (PySem.Str.ofString "&lt;")) (PySem.Str.ofString "\"") (PySem.Str.ofString "&quot;")) (PySem.Str.ofString "\t") (PySem.Str.ofString "&#x9;")).length ≤ (Txt.replace (Txt.replace (Txt.replace (Txt.replace (Txt.replace (x) (PySem.Str.ofString "&") (PySem.Str.ofString "&amp;")) (PySem.Str.ofString "<") (PySem.Str.ofString "&lt;")) (PySem.Str.ofString "\"") (PySem.Str.ofString "&quot;")) (PySem.Str.ofString "\t") (PySem.Str.ofString "&#x9;")) (PySem.Str.ofString "\n") (PySem.Str.ofString "&#xA;")).length := replace_grows (by decide +kernel) (by decide +kernel)
  have g5 : (Txt.replace (Txt.replace (Txt.replace (Txt.replace (Txt.replace (x) (PySem.Str.ofString "&") (PySem.Str.ofString "&amp;")) (PySem.Str.ofString "<") (PySem.Str.ofString "&lt;")) (PySem.Str.ofString "\"") (PySem.Str.ofString "&quot;")) (PySem.Str.ofString "\t") (PySem.Str.ofString "&#x9;")) (PySem.Str.ofString "\n") (PySem.Str.ofString "&#xA;")).length ≤ (Txt.replace (Txt.replace (Txt.replace (Txt.replace (Txt.replace (Txt.replace (x) (PySem.Str.ofString "&") (PySem.Str.ofString "&amp;")) (PySem.Str.ofString "<") (PySem.Str.ofString "&lt;")) (PySem.Str.ofString "\"") (PySem.Str.ofString "&quot;")) (PySem.Str.ofString "\t") (PySem.Str.ofString "&#x9;")) (PySem.Str.ofString "\n") (PySem.Str.ofString "&#xA;")) (PySem.Str.ofString "\r") (PySem.Str.ofString "&#xD;")).length := replace_grows (by decide +kernel) (by decide +kernel)
  have e : Txt.replace (Txt.replace (Txt.replace (Txt.replace (Txt.replace (Txt.replace (x) (PySem.Str.ofString "&") (PySem.Str.ofString "&amp;")) (PySem.Str.ofString "<") (PySem.Str.ofString "&lt;")) (PySem.Str.ofString "\"") (PySem.Str.ofString "&quot;")) (PySem.Str.ofString "\t") (PySem.Str.ofString "&#x9;")) (PySem.Str.ofString "\n") (PySem.Str.ofString "&#xA;")) (PySem.Str.ofString "\r") (PySem.Str.ofString "&#xD;") = pageS 4 x := by
    apply cl_inj
    rw [pageS, cl_mkS, ← page_run (by decide)]
    rw [cl_replace (k := 13) (by decide +kernel), show cl (PySem.Str.ofString "&#xD;") = [38, 35, 120, 68, 59] from by decide +kernel, cl_replace (k := 10) (by decide +kernel), show cl (PySem.Str.ofString "&#xA;") = [38, 35, 120, 65, 59] from by decide +kernel, cl_replace (k := 9) (by decide +kernel), show cl (PySem.Str.ofString "&#x9;") = [38, 35, 120, 57, 59] from by decide +kernel, cl_replace (k := 34) (by decide +kernel), show cl (PySem.Str.ofString "&quot;") = [38, 113, 117, 111, 116, 59] from by decide +kernel, cl_replace (k := 60) (by decide +kernel), show cl (PySem.Str.ofString "&lt;") = [38, 108, 116, 59] from by decide +kernel, cl_replace (k := 38) (by decide +kernel), show cl (PySem.Str.ofString "&amp;") = [38, 97, 109, 112, 59] from by decide +kernel]
    rfl
  have hl := pageS_len 4 x
  rw [← e] at hl
  refine ⟨by omega, by omega, by omega, by omega, by omega, by omega, e⟩
end Mine
end
section
open PySem PySem.W PyProof.Rows
set_option Elab.async false
namespace Mine
noncomputable def JoinEnd (R : Shared → Prop) (f : Flow) (s' : Shared) : Prop := f = .next ∧ R s'
theorem JoinEnd.intro {R : Shared → Prop} {s' : Shared} (h : R s') : JoinEnd R .next s' := ⟨rfl, h⟩
theorem stmt_join {M : Model} {A : Around} {E : Value → Shared → Prop} {s : Shared} {env : Env} {st : Stmt} {Q : Flow → Shared → Prop} (R : Shared → Prop)
    (h : wpAny M A (PySem.exec st env) (JoinEnd R) E s) (k : ∀ s', R s' → Q .next s') : wpAny M A (PySem.exec st env) Q E s :=
  wpAny_mono h (fun f s' r => by obtain ⟨e, r⟩ := r; subst e; exact k s' r) (fun _ _ x => x)
theorem stmt_joinO {M : Model} {A : Around} {E : Value → Shared → Prop} {s : Shared} {env : Env} {st : Stmt} {Q : Flow → Shared → Prop} (R : Shared → Prop)
    (h : ∀ R' : Shared → Prop, (∀ s', R s' → R' s') → wpAny M A (PySem.exec st env) (JoinEnd R') E s) (k : ∀ s', R s' → Q .next s') : wpAny M A (PySem.exec st env) Q E s :=
  stmt_join R (h R fun _ x => x) k
theorem fr_norm {h₀ h : Heap} {L : Addr} {m : PySem.Str → Option Value} {ps : List (PySem.Str × Value)} (F : Fr h₀ L h m) (hk : ∀ p ∈ ps, m p.1 = some p.2) : Fr h₀ L h (kstB m ps) := by
  have : kstB m ps = m := by
    funext z
    exact kstB_eq hk fun _ => rfl
  rw [this]; exact F

/-! what is stripped ahead and behind -/
noncomputable def dropPre : List Nat → List Nat → List Nat × List Nat
  | x :: a, y :: b => if x = y then dropPre a b else (x :: a, y :: b)
  | a, b => (a, b)
theorem dropPre_nil (b : List Nat) : dropPre [] b = ([], b) := by simp [dropPre]
theorem dropPre_nil' (a : List Nat) : dropPre a [] = (a, []) := by cases a <;> simp [dropPre]
theorem dropPre_ne {x y : Nat} (h : x ≠ y) (a b : List Nat) : dropPre (x :: a) (y :: b) = (x :: a, y :: b) := by simp [dropPre, h]
theorem dropPre_eq (x : Nat) (a b : List Nat) : dropPre (x :: a) (x :: b) = dropPre a b := by simp [dropPre]
noncomputable def dropSuf (a b : List Nat) : List Nat × List Nat := ((dropPre a.reverse b.reverse).1.reverse, (dropPre a.reverse b.reverse).2.reverse)
theorem dropSuf_nil (b : List Nat) : dropSuf [] b = ([], b) := by simp [dropSuf, dropPre_nil]
theorem dropSuf_nil' (a : List Nat) : dropSuf a [] = (a, []) := by simp [dropSuf, dropPre_nil']
theorem dropSuf_ne {x y : Nat} (h : x ≠ y) (a b : List Nat) : dropSuf (a ++ [x]) (b ++ [y]) = (a ++ [x], b ++ [y]) := by simp [dropSuf, dropPre_ne h]
theorem dropSuf_eq (x : Nat) (a b : List Nat) : dropSuf (a ++ [x]) (b ++ [x]) = dropSuf a b := by simp [dropSuf, dropPre_eq]

/-! the first while -/
abbrev LPre (a b : PySem.Str) (p : Int) : Prop := 0 ≤ p ∧ p ≤ (a.length : Int) ∧ p ≤ (b.length : Int) ∧ dropPre (cl a) (cl b) = dropPre ((cl a).drop p.toNat) ((cl b).drop p.toNat)
theorem lpre_start (a b : PySem.Str) : LPre a b 0 := by
  refine ⟨by omega, by omega, by omega, ?_⟩
  simp
theorem lpre_turn {a b : PySem.Str} {p : Int} (h : LPre a b p) (ha : p < (a.length : Int)) (hb : p < (b.length : Int)) (he : (Txt.item a p == Txt.item b p) = true) : LPre a b (p + 1) := by
  obtain ⟨h0, h1, h2, h3⟩ := h
  obtain ⟨c, e1, d1⟩ := item_drop a (i := p) h0 (by rw [← cl_len]; exact ha)
  obtain ⟨d, e2, d2⟩ := item_drop b (i := p) h0 (by rw [← cl_len]; exact hb)
  rw [beq_cl, e1, e2] at he
  have : c = d := by simpa using he
  subst this
  refine ⟨by omega, by omega, by omega, ?_⟩
  rw [h3, d1, d2, dropPre_eq]
theorem lpre_end1 {a b : PySem.Str} {p : Int} (h : LPre a b p) (ha : ¬ p < (a.length : Int)) : dropPre (cl a) (cl b) = ((cl a).drop p.toNat, (cl b).drop p.toNat) := by
  obtain ⟨h0, h1, h2, h3⟩ := h
  rw [h3, List.drop_eq_nil_of_le (as := cl a) (by rw [← cl_len]; omega), dropPre_nil]
theorem lpre_end2 {a b : PySem.Str} {p : Int} (h : LPre a b p) (ha : ¬ p < (b.length : Int)) : dropPre (cl a) (cl b) = ((cl a).drop p.toNat, (cl b).drop p.toNat) := by
  obtain ⟨h0, h1, h2, h3⟩ := h
  rw [h3, List.drop_eq_nil_of_le (as := cl b) (by rw [← cl_len]; omega), dropPre_nil']
theorem lpre_end3 {a b : PySem.Str} {p : Int} (h : LPre a b p) (ha : p < (a.length : Int)) (hb : p < (b.length : Int)) (he : (Txt.item a p == Txt.item b p) = false) : dropPre (cl a) (cl b) = ((cl a).drop p.toNat, (cl b).drop p.toNat) := by
  obtain ⟨h0, h1, h2, h3⟩ := h
  obtain ⟨c, e1, d1⟩ := item_drop a (i := p) h0 (by rw [← cl_len]; exact ha)
  obtain ⟨d, e2, d2⟩ := item_drop b (i := p) h0 (by rw [← cl_len]; exact hb)
  rw [beq_cl, e1, e2] at he
  have : c ≠ d := by simpa using he
  rw [h3, d1, d2, dropPre_ne this]
end Mine
end
section
open PySem PySem.W PyProof.Rows
set_option Elab.async false
namespace Mine
noncomputable def cut (a : PySem.Str) (q : Int) : PySem.Str := mkS ((cl a).take ((cl a).length - (-q).toNat))
theorem cut_len {a : PySem.Str} {q : Int} (h0 : q ≤ 0) (h1 : -q ≤ (a.length : Int)) : ((cut a q).length : Int) = (a.length : Int) + q := by
  rw [cl_len, cl_len] at *
  rw [cut, cl_mkS, List.length_take]; omega
theorem cut_zero (a : PySem.Str) : Txt.slice a none none = cut a 0 := by
  rw [slice_all]; apply cl_inj; rw [cut, cl_mkS]; simp
theorem cut_neg {a : PySem.Str} {q : Int} (h0 : q < 0) (h1 : -q ≤ (a.length : Int)) : Txt.slice a none (some q) = cut a q := by
  apply cl_inj; rw [slice_neg a h0 (by rw [← cl_len]; omega), cut, cl_mkS]
set_option maxRecDepth 100000
set_option maxHeartbeats 400000 in
theorem cut_expr {prog : Program} {w : World} {A : Around} {E : Value → Shared → Prop} {s : Shared} {name : PySem.Str} {scope : Scope} {L ad : Addr} {cd : Value} {h₀ : Heap} {m : PySem.Str → Option Value} {news : List (Addr × Obj)}
    {x y a : PySem.Str} {q : Int} {t u : Tok} {k1 : Nat} {p1 p2 p3 p4 p5 p6 : Pos} {Q : Value → Shared → Prop}
    (F : Fr h₀ L s.heap m) (N : News h₀ L s.heap news) (hx : m x = some (.str a t)) (hy : m y = some (.int q u)) (hq : q ≤ 0) (hqa : -q ≤ (a.length : Int)) (ha : a.length ≤ 100000)
    (h : ∀ t' h' tk', Fr h₀ L h' m → News h₀ L h' news → ((cut a q).length : Int) = (a.length : Int) + q → Q (.str (cut a q) t') { s with heap := h', toks := tk' })
    (hk : scope.kind = .function := by rfl) (hl : (envOf name scope L ad cd).kindOf x = some .local := by rfl) (hl2 : (envOf name scope L ad cd).kindOf y = some .local := by rfl)
    (hd : (x == ("__debug__" : PySem.Str)) = false := by decide) (hd2 : (y == ("__debug__" : PySem.Str)) = false := by decide) :
    wpAny (model prog w) A (PySem.eval (PySem.Expr.Subscript (PySem.Expr.Name x p1) (PySem.Expr.Slice none (some (PySem.Expr.BoolOp BoolOp.Or [PySem.Expr.Name y p2, PySem.Expr.Constant Const.none k1 p3] p4)) none p5) p6) (envOf name scope L ad cd)) Q E s := by
  walk1
  refine ld F hx ?_ hk hl hd
  repeat' ((fail_if_success (with_reducible show wpAny _ _ (PySem.eval (PySem.Expr.Name _ _) _) _ _ _)); walk1)
  refine ld F hy ?_ hk hl2 hd2
  have hsz : a.length ≤ sizeLine := by rw [sizeLine_eq]; omega
  repeat' ((fail_if_success (with_reducible show wpAny _ _ (subscriptTail _ _ _ _) _ _ _)); walk1)
  · rename_i hne
    refine slice_strN_ns F N (fun h' t' k F' N' => ?_) (hsz := hsz)
    have hneg : q < 0 := by omega
    rw [cut_neg hneg hqa]
    exact h _ _ _ F' N' (cut_len hq hqa)
  · rename_i he
    refine slice_strN_nn F N (fun h' t' k F' N' => ?_) (hsz := hsz)
    rw [cut_zero]
    subst he
    exact h _ _ _ F' N' (cut_len hq hqa)
/-! the second while -/
abbrev LSuf (a b : PySem.Str) (q : Int) : Prop := q ≤ 0 ∧ -q ≤ (a.length : Int) ∧ -q ≤ (b.length : Int) ∧ dropSuf (cl a) (cl b) = dropSuf (cl (cut a q)) (cl (cut b q))
theorem lsuf_start (a b : PySem.Str) : LSuf a b 0 := by
  refine ⟨by omega, by omega, by omega, ?_⟩
  rw [← cut_zero, ← cut_zero, slice_all, slice_all]
theorem cut_snoc {a : PySem.Str} {q : Int} (h0 : q ≤ 0) (ha : -q < (a.length : Int)) : ∃ c, cl (Txt.item a (q - 1)) = [c] ∧ cl (cut a q) = cl (cut a (q - 1)) ++ [c] := by
  rw [cl_len] at ha
  obtain ⟨c, hc, e⟩ := item_neg a (i := q - 1) (by omega) (by omega)
  refine ⟨c, e, ?_⟩
  rw [cut, cut, cl_mkS, cl_mkS]
  have e1 : (cl a).length - (-q).toNat = (cl a).length - (-(q - 1)).toNat + 1 := by omega
  rw [e1, List.take_add_one, hc]; rfl
theorem lsuf_turn {a b : PySem.Str} {q : Int} (h : LSuf a b q) (ha : -q < (a.length : Int)) (hb : -q < (b.length : Int)) (he : (Txt.item a (q - 1) == Txt.item b (q - 1)) = true) : LSuf a b (q - 1) := by
  obtain ⟨h0, h1, h2, h3⟩ := h
  obtain ⟨c, e1, d1⟩ := cut_snoc h0 ha
  obtain ⟨d, e2, d2⟩ := cut_snoc h0 hb
  rw [beq_cl, e1, e2] at he
  have : c = d := by simpa using he
  subst this
  refine ⟨by omega, by omega, by omega, ?_⟩
  rw [h3, d1, d2, dropSuf_eq]
theorem cut_nil {a : PySem.Str} {q : Int} (h : ¬ -q < (a.length : Int)) : cl (cut a q) = [] := by
  rw [cl_len] at h
  rw [cut, cl_mkS]
  apply List.eq_nil_of_length_eq_zero
  rw [List.length_take]; omega
theorem lsuf_end1 {a b : PySem.Str} {q : Int} (h : LSuf a b q) (ha : ¬ -q < (a.length : Int)) : dropSuf (cl a) (cl b) = (cl (cut a q), cl (cut b q)) := by
  obtain ⟨h0, h1, h2, h3⟩ := h
  rw [h3, cut_nil ha, dropSuf_nil]
theorem lsuf_end2 {a b : PySem.Str} {q : Int} (h : LSuf a b q) (ha : ¬ -q < (b.length : Int)) : dropSuf (cl a) (cl b) = (cl (cut a q), cl (cut b q)) := by
  obtain ⟨h0, h1, h2, h3⟩ := h
  rw [h3, cut_nil ha, dropSuf_nil']
theorem lsuf_end3 {a b : PySem.Str} {q : Int} (h : LSuf a b q) (ha : -q < (a.length : Int)) (hb : -q < (b.length : Int)) (he : (Txt.item a (q - 1) == Txt.item b (q - 1)) = false) : dropSuf (cl a) (cl b) = (cl (cut a q), cl (cut b q)) := by
  obtain ⟨h0, h1, h2, h3⟩ := h
  obtain ⟨c, e1, d1⟩ := cut_snoc h0 ha
  obtain ⟨d, e2, d2⟩ := cut_snoc h0 hb
  rw [beq_cl, e1, e2] at he
  have : c ≠ d := by simpa using he
  rw [h3, d1, d2, dropSuf_ne this]
end Mine
end
section
open PySem PySem.W PyProof.Rows PyProof.V
set_option Elab.async false
set_option maxRecDepth 100000
namespace Mine
/-! what the distance tells, as a plain function -/
noncomputable def levH (a b : List Nat) (mx : Int) : Int := if (b.length - a.length : Int) * 2 > mx then mx + 1 else dp a mx b 0 (rowOf [] [] a) 0
noncomputable def levG (a b : List Nat) (mx : Int) : Int :=
  if a.length = 0 ∨ b.length = 0 then 2 * (a.length + b.length : Int)
  else if 40 < a.length ∨ 40 < b.length then mx + 1
  else if b.length < a.length then levH b a mx else levH a b mx
noncomputable def levF (a b : List Nat) (mx : Int) : Int :=
  if a = b then 0 else levG (dropSuf (dropPre a b).1 (dropPre a b).2).1 (dropSuf (dropPre a b).1 (dropPre a b).2).2 mx
theorem levF_same {a b : PySem.Str} {mx : Int} (h : (a == b) = true) : 0 = levF (cl a) (cl b) mx := by
  rw [beq_cl] at h
  rw [levF, if_pos (of_decide_eq_true h)]
theorem levF_ne {a b a1 b1 : PySem.Str} {q mx : Int} (h : (a == b) = false) (ha : cl a1 = (dropPre (cl a) (cl b)).1) (hb : cl b1 = (dropPre (cl a) (cl b)).2) (hs : dropSuf (cl a1) (cl b1) = (cl (cut a1 q), cl (cut b1 q))) :
    levF (cl a) (cl b) mx = levG (cl (cut a1 q)) (cl (cut b1 q)) mx := by
  rw [beq_cl] at h
  rw [levF, if_neg (of_decide_eq_false h), ← ha, ← hb, hs]
theorem levG_nil {a b : PySem.Str} {mx : Int} (h : (a.length : Int) = 0 ∨ (b.length : Int) = 0) : levG (cl a) (cl b) mx = 2 * (a.length + b.length : Int) := by
  rw [cl_len, cl_len] at *
  rw [levG, if_pos (by omega)]
theorem levG_long {a b : PySem.Str} {mx : Int} (ha : (a.length : Int) ≠ 0) (hb : (b.length : Int) ≠ 0) (h : (40 : Int) < a.length ∨ (40 : Int) < b.length) : levG (cl a) (cl b) mx = mx + 1 := by
  rw [cl_len] at ha hb
  rw [cl_len, cl_len] at h
  rw [levG, if_neg (by omega), if_pos (by omega)]
theorem levG_swap {a b : PySem.Str} {mx : Int} (ha : (a.length : Int) ≠ 0) (hb : (b.length : Int) ≠ 0) (h1 : ¬ (40 : Int) < a.length) (h2 : ¬ (40 : Int) < b.length) (h : (b.length : Int) < a.length) : levG (cl a) (cl b) mx = levH (cl b) (cl a) mx := by
  rw [cl_len] at ha hb h1 h2
  rw [cl_len, cl_len] at h
  rw [levG, if_neg (by omega), if_neg (by omega), if_pos (by omega)]
theorem levG_stay {a b : PySem.Str} {mx : Int} (ha : (a.length : Int) ≠ 0) (hb : (b.length : Int) ≠ 0) (h1 : ¬ (40 : Int) < a.length) (h2 : ¬ (40 : Int) < b.length) (h : ¬ (b.length : Int) < a.length) : levG (cl a) (cl b) mx = levH (cl a) (cl b) mx := by
  rw [cl_len] at ha hb h1 h2
  rw [cl_len, cl_len] at h
  rw [levG, if_neg (by omega), if_neg (by omega), if_neg (by omega)]
theorem levH_far {a b : PySem.Str} {mx : Int} (h : mx < ((b.length : Int) - (a.length : Int)) * 2) : levH (cl a) (cl b) mx = mx + 1 := by
  rw [cl_len, cl_len] at h
  rw [levH, if_pos (by omega)]
theorem levH_dp {a b : PySem.Str} {mx : Int} (h : ¬ mx < ((b.length : Int) - (a.length : Int)) * 2) : levH (cl a) (cl b) mx = dp (cl a) mx (cl b) 0 (rowOf [] [] (cl a)) 0 := by
  rw [cl_len, cl_len] at h
  rw [levH, if_neg (by omega)]

/-! list(range(2, 2 * (n + 1), 2)) -/
theorem fitsL {x : Int} (h0 : -1000 ≤ x) (h1 : x ≤ 1000) : Builtin.Range.rangeFitsLong x = true := by
  unfold Builtin.Range.rangeFitsLong
  rw [Bool.and_eq_true]
  exact ⟨decide_eq_true (by omega), decide_eq_true (by omega)⟩
theorem ints_row : ∀ (us : List Value) (a pa : List Nat), us.length = a.length → (∀ (j : Nat) (v : Value), us[j]? = some v → ∃ t, v = .int (2 * ((pa.length : Int) + 1) + j * 2) t) → IntsAre us (rowOf [] pa a)
  | [], [], _, _, _ => IntsAre.nil
  | [], _ :: _, _, e, _ => by cases e
  | _ :: _, [], _, e, _ => by cases e
  | v :: r, x :: a, pa, e, h => by
    obtain ⟨t, ht⟩ := h 0 v rfl
    have hv : v = .int (ed (x :: pa) []) t := by
      rw [ht, ed_nil]; congr 1
    subst hv
    rw [rowOf]
    refine IntsAre.cons _ _ (ints_row r a (x :: pa) (by simpa using e) fun j v hj => ?_)
    obtain ⟨t', ht'⟩ := h (j + 1) v hj
    refine ⟨t', ht'.trans ?_⟩
    congr 1
    simp; omega
section
variable {prog : Program} {w : World} {A : Around} {E : Value → Shared → Prop} {s : Shared} {h₀ : Heap} {L r : Addr} {m : PySem.Str → Option Value} {news : List (Addr × Obj)} {b : Int} {t₀ u₀ v₀ : Tok} {Q : Value → Shared → Prop}
theorem list_range2 {a : List Nat} (hh : A.handled = none) (F : Fr h₀ L s.heap m) (N : News h₀ L s.heap news) (hr : IsRange s.heap r 2 b 2 t₀ u₀ v₀) (hb : b = 2 * ((a.length : Int) + 1)) (h0 : 1 ≤ a.length) (h1 : a.length ≤ 40)
    (h : ∀ D us c h' tk, Fr h₀ L h' m → News h₀ L h' ((D, listOf (List.toArray us) c) :: news) → (∀ p ∈ news, p.1 < D) → IntsAre us (rowOf [] [] a) → Q (.ref D) { s with heap := h', toks := tk }) :
    wpAny (model prog w) A (PySem.call (.type "list") [.ref r]) Q E s := by
  subst hb
  have hsz : Builtin.Range.rangeSize 2 (2 * ((a.length : Int) + 1)) 2 = ((a.length : Nat) : Int) := by
    unfold Builtin.Range.rangeSize
    rw [if_pos (by omega), if_pos (by omega)]; omega
  have hsm : Builtin.Range.small 2 (2 * ((a.length : Int) + 1)) 2 = true := by
    unfold Builtin.Range.small
    rw [hsz, fitsL (by omega) (by omega), fitsL (by omega) (by omega), fitsL (by omega) (by omega), if_pos (by decide), fitsL (by omega) (by omega)]
    simp
  refine call_list_range hh hr hsm hsz (by omega) fun h' tk acc c hk hD hI => ?_
  have hD' : h'.get? s.heap.objs.size = some (listOf (List.toArray acc.toList) c) := by
    rw [Array.toArray_toList]
    exact hD
  refine h _ acc.toList c h' tk (F.keeps hk) (news_pushed F N hk hD' rfl) (fun p hp => Heap.lt_size (N p hp).1) (ints_row _ _ _ (by rw [Array.length_toList]; exact hI.1) fun j v hj => ?_)
  obtain ⟨t, ht⟩ := hI.2 j v (by rw [← hj, Array.getElem?_toList])
  exact ⟨t, ht⟩
end
/-! a turn of the row -/
theorem inner_len (ch : Nat) : ∀ (a : List Nat) (row : List Int) (d r : Int), row.length = a.length → (inner ch a row d r).length = a.length
  | [], [], _, _, _ => rfl
  | [], _ :: _, _, _, h => by cases h
  | _ :: _, [], _, _, h => by cases h
  | x :: a, y :: row, d, r, h => by
    rw [inner, List.length_cons, inner_len ch a row _ _ (by simpa using h), List.length_cons]
/-- between two turns of the inner loop: j places are done -/
noncomputable def Turn (ch : Nat) (a : List Nat) (row₀ : List Int) (d₀ : Int) (j : Nat) (row : List Int) (d r mn : Int) : Prop :=
  row.length = a.length ∧ row.take j ++ inner ch (a.drop j) (row.drop j) d r = inner ch a row₀ d₀ d₀ ∧ mn = minOf (row.take j) ∧ (row.take j).getLastD r = r
theorem turn_start (ch : Nat) (a : List Nat) (row₀ : List Int) (d₀ : Int) (h : row₀.length = a.length) : Turn ch a row₀ d₀ 0 row₀ d₀ d₀ 9223372036854775807 := ⟨h, by simp, rfl, rfl⟩
theorem minOf_snoc (l : List Int) (r : Int) : minOf (l ++ [r]) = if r < minOf l then r else minOf l := by
  unfold minOf
  rw [List.foldl_append]; rfl
theorem turn_step {ch x : Nat} {a : List Nat} {row₀ row : List Int} {d₀ d r mn old : Int} {j : Nat} (h : Turn ch a row₀ d₀ j row d r mn) (hx : a[j]? = some x) (ho : row[j]? = some old) :
    Turn ch a row₀ d₀ (j + 1) (row.set j (min (min r old + 2) (d + sc ch x))) old (min (min r old + 2) (d + sc ch x)) (if min (min r old + 2) (d + sc ch x) < mn then min (min r old + 2) (d + sc ch x) else mn) := by
  obtain ⟨h1, h2, h3, h4⟩ := h
  obtain ⟨hj, ho⟩ := List.getElem?_eq_some_iff.mp ho
  obtain ⟨hja, hx⟩ := List.getElem?_eq_some_iff.mp hx
  generalize hz : min (min r old + 2) (d + sc ch x) = z
  have ht : (row.set j z).take (j + 1) = row.take j ++ [z] := by
    rw [List.take_add_one, List.take_set_of_le (Nat.le_refl j), List.getElem?_set_self hj]; rfl
  have hdr : (row.set j z).drop (j + 1) = row.drop (j + 1) := List.drop_set_of_lt (by omega)
  refine ⟨by rw [List.length_set, h1], ?_, ?_, ?_⟩
  · rw [ht, hdr, ← h2, List.drop_eq_getElem_cons hja, List.drop_eq_getElem_cons hj, hx, ho, inner, hz, List.append_assoc]; rfl
  · rw [ht, minOf_snoc, ← h3]
  · rw [ht]; simp
theorem turn_end {ch : Nat} {a : List Nat} {row₀ row : List Int} {d₀ d r mn : Int} (ha : a ≠ []) (h : Turn ch a row₀ d₀ a.length row d r mn) :
    row = inner ch a row₀ d₀ d₀ ∧ mn = minOf row ∧ row.getLastD 0 = r := by
  obtain ⟨h1, h2, h3, h4⟩ := h
  have ht : row.take a.length = row := List.take_of_length_le (by omega)
  rw [ht] at h2 h3 h4
  rw [List.drop_of_length_le (Nat.le_refl _)] at h2
  have : row.getLastD 0 = row.getLastD r := by
    cases row with
    | nil => exact absurd (List.eq_nil_of_length_eq_zero (by simpa using h1.symm)) ha
    | cons y row => rw [List.getLastD_cons, List.getLastD_cons]
  refine ⟨by rw [← h2]; simp [inner], h3, by rw [this, h4]⟩
/-- between two turns of the outer loop: i signs of b are read -/
noncomputable def Rows (a b : List Nat) (mx : Int) (i : Nat) (row : List Int) (res : Int) : Prop :=
  row.length = a.length ∧ dp a mx b 0 (rowOf [] [] a) 0 = dp a mx (b.drop i) i row res
theorem rows_start (a b : List Nat) (mx : Int) : Rows a b mx 0 (rowOf [] [] a) 0 := ⟨rowOf_len _ _ _, rfl⟩
theorem rows_step {a b : List Nat} {mx : Int} {i c : Nat} {row row' : List Int} {res res' mn : Int} (h : Rows a b mx i row res) (hc : b[i]? = some c) (h1 : row' = inner c a row (2 * i) (2 * i)) (h2 : mn = minOf row') (h3 : row'.getLastD 0 = res') (hm : ¬ mx < mn) :
    Rows a b mx (i + 1) row' res' := by
  obtain ⟨e1, e2⟩ := h
  obtain ⟨hi, hc⟩ := List.getElem?_eq_some_iff.mp hc
  subst h1
  refine ⟨inner_len _ _ _ _ _ e1, ?_⟩
  rw [e2, List.drop_eq_getElem_cons hi, hc, dp, if_neg (by rw [← h2]; omega), h3]; rfl
theorem rows_stop {a b : List Nat} {mx : Int} {i c : Nat} {row row' : List Int} {res mn : Int} (h : Rows a b mx i row res) (hc : b[i]? = some c) (h1 : row' = inner c a row (2 * i) (2 * i)) (h2 : mn = minOf row') (hm : mx < mn) :
    dp a mx b 0 (rowOf [] [] a) 0 = mx + 1 := by
  obtain ⟨e1, e2⟩ := h
  obtain ⟨hi, hc⟩ := List.getElem?_eq_some_iff.mp hc
  subst h1
  rw [e2, List.drop_eq_getElem_cons hi, hc, dp, if_pos (by rw [← h2]; omega)]
theorem rows_end {a b : List Nat} {mx : Int} {row : List Int} {res : Int} (h : Rows a b mx b.length row res) : dp a mx b 0 (rowOf [] [] a) 0 = res := by
  obtain ⟨e1, e2⟩ := h
  rw [e2, List.drop_of_length_le (Nat.le_refl _), dp]
theorem inner_start {x y : PySem.Str} {mx : Int} {i : Nat} {row : List Int} {res k : Int} (h : Rows (cl x) (cl y) mx i row res) (hk : k = 0 + (i : Int)) (hi : i < y.length) :
    ([] : List Int).length ≤ x.length ∧ row.length = x.length ∧ ∃ row₀ res₀ ch, Rows (cl x) (cl y) mx i row₀ res₀ ∧ (cl y)[i]? = some ch ∧ Turn ch (cl x) row₀ (2 * i) ([] : List Int).length row (k * 2) (k * 2) 9223372036854775807 := by
  have hi' : i < (cl y).length := by rw [← cl_len]; exact hi
  refine ⟨Nat.zero_le _, by rw [cl_len]; exact h.1, row, res, (cl y)[i], h, List.getElem?_eq_getElem hi', ?_⟩
  have e : k * 2 = 2 * (i : Int) := by omega
  rw [e]
  exact turn_start _ _ _ _ h.1
noncomputable def DpIn (x y : PySem.Str) (mx : Int) (i j : Nat) (row : List Int) (d r mn : Int) : Prop :=
  ∃ row₀ res₀ ch, Rows (cl x) (cl y) mx i row₀ res₀ ∧ (cl y)[i]? = some ch ∧ Turn ch (cl x) row₀ (2 * i) j row d r mn
theorem dpIn_start {x y : PySem.Str} {mx : Int} {i : Nat} {row : List Int} {res k : Int} (h : Rows (cl x) (cl y) mx i row res) (hk : k = 0 + (i : Int)) (hi : i < y.length) :
    ([] : List Int).length ≤ x.length ∧ row.length = x.length ∧ DpIn x y mx i ([] : List Int).length row (k * 2) (k * 2) 9223372036854775807 := inner_start h hk hi
theorem sc_item {x y : PySem.Str} {k l : Int} {c d : Nat} (hk : 0 ≤ k) (hl : 0 ≤ l) (hy : (cl y)[k.toNat]? = some c) (hx : (cl x)[l.toNat]? = some d) : scS (Txt.item y k) (Txt.item x l) = sc c d := by
  obtain ⟨h1, e1⟩ := List.getElem?_eq_some_iff.mp hy
  obtain ⟨h2, e2⟩ := List.getElem?_eq_some_iff.mp hx
  obtain ⟨c', hc, ec⟩ := item_at y (i := k) hk (by omega)
  obtain ⟨d', hd, edd⟩ := item_at x (i := l) hl (by omega)
  rw [hy] at hc; rw [hx] at hd
  cases hc; cases hd
  have f1 : Txt.item y k = mkS [c] := cl_inj (by rw [ec, cl_mkS])
  have f2 : Txt.item x l = mkS [d] := cl_inj (by rw [edd, cl_mkS])
  rw [f1, f2]; rfl
theorem dpIn_turn {x y : PySem.Str} {mx : Int} {i : Nat} {pre row : List Int} {d r mn mn' kB kN : Int} (h : DpIn x y mx i pre.length row d r mn) (hlen : row.length = x.length) (hk : kN = 0 + (pre.length : Int)) (hB : kB = 0 + (i : Int)) (hlt : pre.length < x.length)
    (hm : (if (if d + scS (Txt.item y kB) (Txt.item x kN) < (if row.getD kN.toNat 0 < r then row.getD kN.toNat 0 else r) + 2 then d + scS (Txt.item y kB) (Txt.item x kN) else (if row.getD kN.toNat 0 < r then row.getD kN.toNat 0 else r) + 2) < mn then (if d + scS (Txt.item y kB) (Txt.item x kN) < (if row.getD kN.toNat 0 < r then row.getD kN.toNat 0 else r) + 2 then d + scS (Txt.item y kB) (Txt.item x kN) else (if row.getD kN.toNat 0 < r then row.getD kN.toNat 0 else r) + 2) else mn) = mn') :
    (pre ++ [kN]).length ≤ x.length ∧ (row.set kN.toNat (if d + scS (Txt.item y kB) (Txt.item x kN) < (if row.getD kN.toNat 0 < r then row.getD kN.toNat 0 else r) + 2 then d + scS (Txt.item y kB) (Txt.item x kN) else (if row.getD kN.toNat 0 < r then row.getD kN.toNat 0 else r) + 2)).length = x.length ∧
      DpIn x y mx i (pre ++ [kN]).length (row.set kN.toNat (if d + scS (Txt.item y kB) (Txt.item x kN) < (if row.getD kN.toNat 0 < r then row.getD kN.toNat 0 else r) + 2 then d + scS (Txt.item y kB) (Txt.item x kN) else (if row.getD kN.toNat 0 < r then row.getD kN.toNat 0 else r) + 2)) (row.getD kN.toNat 0) (if d + scS (Txt.item y kB) (Txt.item x kN) < (if row.getD kN.toNat 0 < r then row.getD kN.toNat 0 else r) + 2 then d + scS (Txt.item y kB) (Txt.item x kN) else (if row.getD kN.toNat 0 < r then row.getD kN.toNat 0 else r) + 2) mn' := by
  obtain ⟨row₀, res₀, ch, hR, hc, hT⟩ := h
  have ek : kN.toNat = pre.length := by omega
  have eB : kB.toNat = i := by omega
  have hrow : pre.length < row.length := by omega
  have ho : row[pre.length]? = some (row.getD pre.length 0) := by
    rw [List.getD_eq_getElem?_getD, List.getElem?_eq_getElem hrow]; rfl
  have hx' : pre.length < (cl x).length := by rw [← cl_len]; exact hlt
  have hx : (cl x)[pre.length]? = some (cl x)[pre.length] := List.getElem?_eq_getElem hx'
  have hs : scS (Txt.item y kB) (Txt.item x kN) = sc ch (cl x)[pre.length] := sc_item (by omega) (by omega) (by rw [eB]; exact hc) (by rw [ek]; exact hx)
  subst hm
  rw [hs, ek]
  have hmin : (if d + sc ch (cl x)[pre.length] < (if row.getD pre.length 0 < r then row.getD pre.length 0 else r) + 2 then d + sc ch (cl x)[pre.length] else (if row.getD pre.length 0 < r then row.getD pre.length 0 else r) + 2) = min (min r (row.getD pre.length 0) + 2) (d + sc ch (cl x)[pre.length]) := by
    generalize row.getD pre.length 0 = o
    generalize d + sc ch (cl x)[pre.length] = e
    by_cases h1 : o < r
    · rw [if_pos h1]
      by_cases h2 : e < o + 2
      · rw [if_pos h2]; omega
      · rw [if_neg h2]; omega
    · rw [if_neg h1]
      by_cases h2 : e < r + 2
      · rw [if_pos h2]; omega
      · rw [if_neg h2]; omega
  rw [hmin]
  refine ⟨by rw [List.length_append]; simp; omega, by rw [List.length_set]; exact hlen, row₀, res₀, ch, hR, hc, ?_⟩
  rw [show (pre ++ [kN]).length = pre.length + 1 by simp]
  exact turn_step hT hx ho
theorem dpIn_lt {x y : PySem.Str} {mx : Int} {i : Nat} {pre row : List Int} {d r mn kB kN : Int} (h : DpIn x y mx i pre.length row d r mn) (hlen : row.length = x.length) (hk : kN = 0 + (pre.length : Int)) (hB : kB = 0 + (i : Int)) (hlt : pre.length < x.length)
    (hm : (if d + scS (Txt.item y kB) (Txt.item x kN) < (if row.getD kN.toNat 0 < r then row.getD kN.toNat 0 else r) + 2 then d + scS (Txt.item y kB) (Txt.item x kN) else (if row.getD kN.toNat 0 < r then row.getD kN.toNat 0 else r) + 2) < mn) :
    (pre ++ [kN]).length ≤ x.length ∧ (row.set kN.toNat (if d + scS (Txt.item y kB) (Txt.item x kN) < (if row.getD kN.toNat 0 < r then row.getD kN.toNat 0 else r) + 2 then d + scS (Txt.item y kB) (Txt.item x kN) else (if row.getD kN.toNat 0 < r then row.getD kN.toNat 0 else r) + 2)).length = x.length ∧
      DpIn x y mx i (pre ++ [kN]).length (row.set kN.toNat (if d + scS (Txt.item y kB) (Txt.item x kN) < (if row.getD kN.toNat 0 < r then row.getD kN.toNat 0 else r) + 2 then d + scS (Txt.item y kB) (Txt.item x kN) else (if row.getD kN.toNat 0 < r then row.getD kN.toNat 0 else r) + 2)) (row.getD kN.toNat 0) (if d + scS (Txt.item y kB) (Txt.item x kN) < (if row.getD kN.toNat 0 < r then row.getD kN.toNat 0 else r) + 2 then d + scS (Txt.item y kB) (Txt.item x kN) else (if row.getD kN.toNat 0 < r then row.getD kN.toNat 0 else r) + 2) (if d + scS (Txt.item y kB) (Txt.item x kN) < (if row.getD kN.toNat 0 < r then row.getD kN.toNat 0 else r) + 2 then d + scS (Txt.item y kB) (Txt.item x kN) else (if row.getD kN.toNat 0 < r then row.getD kN.toNat 0 else r) + 2) :=
  dpIn_turn h hlen hk hB hlt (if_pos hm)
theorem dpIn_ge {x y : PySem.Str} {mx : Int} {i : Nat} {pre row : List Int} {d r mn kB kN : Int} (h : DpIn x y mx i pre.length row d r mn) (hlen : row.length = x.length) (hk : kN = 0 + (pre.length : Int)) (hB : kB = 0 + (i : Int)) (hlt : pre.length < x.length)
    (hm : ¬ (if d + scS (Txt.item y kB) (Txt.item x kN) < (if row.getD kN.toNat 0 < r then row.getD kN.toNat 0 else r) + 2 then d + scS (Txt.item y kB) (Txt.item x kN) else (if row.getD kN.toNat 0 < r then row.getD kN.toNat 0 else r) + 2) < mn) :
    (pre ++ [kN]).length ≤ x.length ∧ (row.set kN.toNat (if d + scS (Txt.item y kB) (Txt.item x kN) < (if row.getD kN.toNat 0 < r then row.getD kN.toNat 0 else r) + 2 then d + scS (Txt.item y kB) (Txt.item x kN) else (if row.getD kN.toNat 0 < r then row.getD kN.toNat 0 else r) + 2)).length = x.length ∧
      DpIn x y mx i (pre ++ [kN]).length (row.set kN.toNat (if d + scS (Txt.item y kB) (Txt.item x kN) < (if row.getD kN.toNat 0 < r then row.getD kN.toNat 0 else r) + 2 then d + scS (Txt.item y kB) (Txt.item x kN) else (if row.getD kN.toNat 0 < r then row.getD kN.toNat 0 else r) + 2)) (row.getD kN.toNat 0) (if d + scS (Txt.item y kB) (Txt.item x kN) < (if row.getD kN.toNat 0 < r then row.getD kN.toNat 0 else r) + 2 then d + scS (Txt.item y kB) (Txt.item x kN) else (if row.getD kN.toNat 0 < r then row.getD kN.toNat 0 else r) + 2) mn :=
  dpIn_turn h hlen hk hB hlt (if_neg hm)
theorem dpIn_end {x y : PySem.Str} {mx : Int} {pre row : List Int} {d r mn kN : Int} (h : DpIn x y mx pre.length (rangeKs 0 ((x.length : Int) - 0).toNat).length row d r mn) (hx : 1 ≤ x.length) (hi : pre.length < y.length) (hm : ¬ mx < mn) :
    (pre ++ [kN]).length ≤ y.length ∧ Rows (cl x) (cl y) mx (pre ++ [kN]).length row r := by
  obtain ⟨row₀, res₀, ch, hR, hc, hT⟩ := h
  rw [rangeKs_length, show ((x.length : Int) - 0).toNat = (cl x).length by rw [cl_len]; omega] at hT
  have hne : cl x ≠ [] := fun e => by rw [cl_len, e] at hx; simp at hx
  obtain ⟨e1, e2, e3⟩ := turn_end hne hT
  refine ⟨by rw [List.length_append]; simp; omega, ?_⟩
  rw [show (pre ++ [kN]).length = pre.length + 1 by simp]
  exact rows_step hR hc e1 e2 e3 hm
theorem dpIn_stop {x y : PySem.Str} {mx : Int} {i : Nat} {row : List Int} {d r mn : Int} (h : DpIn x y mx i (rangeKs 0 ((x.length : Int) - 0).toNat).length row d r mn) (hx : 1 ≤ x.length) (hm : mx < mn) :
    mx + 1 = dp (cl x) mx (cl y) 0 (rowOf [] [] (cl x)) 0 := by
  obtain ⟨row₀, res₀, ch, hR, hc, hT⟩ := h
  rw [rangeKs_length, show ((x.length : Int) - 0).toNat = (cl x).length by rw [cl_len]; omega] at hT
  have hne : cl x ≠ [] := fun e => by rw [cl_len, e] at hx; simp at hx
  obtain ⟨e1, e2, e3⟩ := turn_end hne hT
  exact (rows_stop hR hc e1 e2 hm).symm
theorem rows_done {x y : PySem.Str} {mx : Int} {row : List Int} {r : Int} (h : Rows (cl x) (cl y) mx (rangeKs 0 ((y.length : Int) - 0).toNat).length row r) : r = dp (cl x) mx (cl y) 0 (rowOf [] [] (cl x)) 0 := by
  rw [rangeKs_length, show ((y.length : Int) - 0).toNat = (cl y).length by rw [cl_len]; omega] at h
  exact (rows_end h).symm
theorem led_in0 {q : Addr × Obj} {l : List (Addr × Obj)} : ∀ p ∈ q :: l, p ∈ q :: l := fun _ h => h
theorem led_in1 {q : Addr × Obj} {l own : List (Addr × Obj)} : ∀ p ∈ q :: l, p ∈ q :: (l ++ own) := fun p h => by
  rcases List.mem_cons.mp h with h | h
  · exact h ▸ List.mem_cons_self ..
  · exact List.mem_cons_of_mem _ (List.mem_append.mpr (.inl h))
end Mine
end
section
open PySem PySem.W PyProof.Rows
set_option Elab.async false
namespace Mine
theorem litQ1 : PySem.Str.ofString "\"" = ⟨#[34]⟩ := by decide +kernel
section
variable {prog : Program} {w : World} {A : Around} {E : Value → Shared → Prop} {s : Shared} {x : PySem.Str} {t : Tok} {Q : Value → Shared → Prop} {h₀ : Heap} {L D : Addr} {news : List (Addr × Obj)} {us : List Value} {ys : List PySem.Str} {c : Nat}
end
section
variable {prog : Program} {w : World} {A : Around} {E : Value → Shared → Prop} {s : Shared} {h₀ : Heap} {L D : Addr} {m : PySem.Str → Option Value} {pre post : List (Addr × Obj)} {us : List Value} {n : Nat} {x : Value} {Q : Value → Shared → Prop}
theorem append_led (F : Fr h₀ L s.heap m) (N : News h₀ L s.heap (pre ++ (D, W.listOf us.toArray n) :: post)) (a : ∀ p ∈ pre, p.1 ≠ D) (b : ∀ p ∈ post, p.1 ≠ D) (hsz : us.length ≤ 100000)
    (h : ∀ h', Fr h₀ L h' m → News h₀ L h' (pre ++ (D, W.listOf (us ++ [x]).toArray (n + 1)) :: post) → Q .none { s with heap := h' }) : wpAny (model prog w) A (PySem.call (.builtin "list.append") [.ref D, x]) Q E s := by
  have z := N (D, W.listOf us.toArray n) (List.mem_append.mpr (.inr (.head _)))
  have e : us.toArray.push x = (us ++ [x]).toArray := by simp
  refine append_at (hsz := by rw [List.size_toArray, sizeLine_eq]; omega) z.1 fun h' hs ho' => ?_
  rw [e] at ho'
  exact h h' (F.change hs z.2.1 z.2.2) (news_set N a b hs ho')
end
end Mine
end
section
open PySem PySem.W PyProof.Rows PyProof.V PySem.Spec
set_option Elab.async false
set_option maxRecDepth 100000
namespace Mine
/-! a display of texts by texts -/
inductive LitPairs : List (Option PySem.Expr) → List PySem.Expr → List (PySem.Str × PySem.Str) → Prop
  | nil : LitPairs [] [] []
  | cons {k v : PySem.Str} {a b : Nat} {p q : Pos} {ks : List (Option PySem.Expr)} {vs : List PySem.Expr} {ps : List (PySem.Str × PySem.Str)} : LitPairs ks vs ps →
      LitPairs (some (PySem.Expr.Constant (Const.str k) a p) :: ks) (PySem.Expr.Constant (Const.str v) b q :: vs) ((k, v) :: ps)
inductive PairsAre : List (PySem.Str × Value) → List (PySem.Str × PySem.Str) → Prop
  | nil : PairsAre [] []
  | cons {k v : PySem.Str} {t : Tok} {kvs : List (PySem.Str × Value)} {ps : List (PySem.Str × PySem.Str)} : PairsAre kvs ps → PairsAre ((k, .str v t) :: kvs) ((k, v) :: ps)
theorem PairsAre.keys {kvs : List (PySem.Str × Value)} {ps : List (PySem.Str × PySem.Str)} (h : PairsAre kvs ps) : kvs.map (·.1) = ps.map (·.1) := by
  induction h with
  | nil => rfl
  | cons _ ih => simp [ih]
theorem PairsAre.at {kvs : List (PySem.Str × Value)} {ps : List (PySem.Str × PySem.Str)} (h : PairsAre kvs ps) (k : PySem.Str) :
    (ps.lookup k = none ∧ valueAt kvs k = none) ∨ ∃ v t, ps.lookup k = some v ∧ valueAt kvs k = some (.str v t) := by
  induction h with
  | nil => exact .inl ⟨rfl, rfl⟩
  | @cons k' v t kvs ps _ ih =>
    by_cases e : k = k'
    · subst e
      refine .inr ⟨v, t, by simp [List.lookup_cons], by simp [valueAt]⟩
    · have e' : ¬ k' = k := fun q => e q.symm
      have hb : (k == k') = false := by simpa using e
      have h1 : List.lookup k ((k', v) :: ps) = List.lookup k ps := by rw [List.lookup_cons, hb]
      have h2 : valueAt ((k', Value.str v t) :: kvs) k = valueAt kvs k := by simp [valueAt, e']
      rw [h1, h2]; exact ih
theorem LitPairs.lens {ks : List (Option PySem.Expr)} {vs : List PySem.Expr} {ps : List (PySem.Str × PySem.Str)} (h : LitPairs ks vs ps) : ks.length = vs.length ∧ ks.length = ps.length ∧ ks.all (·.isSome) = true := by
  induction h with
  | nil => exact ⟨rfl, rfl, rfl⟩
  | cons _ ih => exact ⟨by simp [ih.1], by simp [ih.2.1], by simp only [List.all_cons, ih.2.2]; rfl⟩
section
variable {prog : Program} {w : World} {A : Around} {E : Value → Shared → Prop} {h₀ : Heap} {L : Addr} {m : PySem.Str → Option Value} {news : List (Addr × Obj)} {env : Env}
theorem lit_walk {ks : List (Option PySem.Expr)} {vs : List PySem.Expr} {ps : List (PySem.Str × PySem.Str)} (hl : LitPairs ks vs ps) {pos : Pos} : ∀ {s : Shared} {Q : List (Value × Value) → Shared → Prop},
    (∀ prs tk, allStrKeys prs = true → PairsAre (strPairs prs) ps → Q prs { s with toks := tk }) → wpAny (model prog w) A (evalPairs (pairTrees ks vs env pos)) Q E s := by
  induction hl with
  | nil => intro s Q h; exact pairTrees_nil_walk (h [] s.toks rfl .nil)
  | cons _ ih =>
    intro s Q h
    refine pairTrees_cons_walk (wpAny_Constant_str (wpAny_Constant_str (ih fun prs tk h1 h2 => ?_)))
    exact h _ tk h1 (.cons h2)
theorem dict_lit {keys : List (Option PySem.Expr)} {vals : List PySem.Expr} {ps : List (PySem.Str × PySem.Str)} {pos : Pos} {s : Shared} {Q : Value → Shared → Prop} (hl : LitPairs keys vals ps) (F : Fr h₀ L s.heap m) (N : News h₀ L s.heap news) (hbig : h₀.NoLimit)
    (hne : ps ≠ []) (hlen : ps.length ≤ 15) (hnd : (ps.map (·.1)).Nodup)
    (k : ∀ h' o tk kvs, Fr h₀ L h' m → News h₀ L h' ((s.heap.objs.size, o) :: news) → (∀ p ∈ news, p.1 < s.heap.objs.size) → (s.heap.objs.size == sysModules) = false → o.IsDictOf (PySem.strKind prog w) kvs → PairsAre kvs ps → Q (.ref s.heap.objs.size) { s with heap := h', toks := tk }) :
    wpAny (model prog w) A (PySem.eval (PySem.Expr.Dict keys vals pos) env) Q E s := by
  obtain ⟨l1, l2, l3⟩ := hl.lens
  refine Dict_made (knd := PySem.strKind prog w) F l3 l1 (fun e => hne (List.eq_nil_of_length_eq_zero (by rw [← l2, e]; rfl))) (by omega) fun _ => ?_
  refine lit_walk hl fun prs tk h1 h2 => ?_
  refine made_str F N h1 (by rw [h2.keys]; exact hnd) fun h' o F' N' hd => ?_
  exact k h' o _ _ F' N' (fun p hp => Heap.lt_size (N p hp).1) (F.notModules (modules_low hbig)) hd h2
end
noncomputable def tabS : Nat → List (PySem.Str × PySem.Str)
  | 0 => [(PySem.Str.ofString "&", PySem.Str.ofString "&amp;"), (PySem.Str.ofString "<", PySem.Str.ofString "&lt;"), (PySem.Str.ofString ">", PySem.Str.ofString "&gt;")]
  | 1 => [(PySem.Str.ofString "&", PySem.Str.ofString "&amp;"), (PySem.Str.ofString "<", PySem.Str.ofString "&lt;"), (PySem.Str.ofString ">", PySem.Str.ofString "&gt;"), (PySem.Str.ofString "\"", PySem.Str.ofString "&quot;"), (PySem.Str.ofString "\x0d", PySem.Str.ofString "&#13;"), (PySem.Str.ofString "\n", PySem.Str.ofString "&#10;"), (PySem.Str.ofString "\t", PySem.Str.ofString "&#09;")]
  | 2 => [(PySem.Str.ofString "&", PySem.Str.ofString "&amp;"), (PySem.Str.ofString ">", PySem.Str.ofString "&gt;"), (PySem.Str.ofString "\"", PySem.Str.ofString "&quot;")]
  | 3 => [(PySem.Str.ofString "&", PySem.Str.ofString "&amp;"), (PySem.Str.ofString "<", PySem.Str.ofString "&lt;"), (PySem.Str.ofString ">", PySem.Str.ofString "&gt;"), (PySem.Str.ofString "\x0d", PySem.Str.ofString "&#xD;")]
  | _ => [(PySem.Str.ofString "&", PySem.Str.ofString "&amp;"), (PySem.Str.ofString "<", PySem.Str.ofString "&lt;"), (PySem.Str.ofString "\"", PySem.Str.ofString "&quot;"), (PySem.Str.ofString "\t", PySem.Str.ofString "&#x9;"), (PySem.Str.ofString "\n", PySem.Str.ofString "&#xA;"), (PySem.Str.ofString "\x0d", PySem.Str.ofString "&#xD;")]
theorem tabS_ref : ∀ p < 5, (tabS p).map (fun e => (cl e.1, cl e.2)) = (tabOf p).map (fun e => ([e.1], e.2)) := by decide +kernel
theorem lookup_ref : ∀ (ps : List (PySem.Str × PySem.Str)) (t : List (Nat × List Nat)), ps.map (fun e => (cl e.1, cl e.2)) = t.map (fun e => ([e.1], e.2)) → ∀ d : Nat,
    (ps.lookup ⟨#[d]⟩ = none ∧ t.lookup d = none) ∨ ∃ v, ps.lookup ⟨#[d]⟩ = some v ∧ t.lookup d = some (cl v)
  | [], [], _, d => .inl ⟨rfl, rfl⟩
  | [], _ :: _, h, d => by simp at h
  | _ :: _, [], h, d => by simp at h
  | (k, v) :: ps, (c, r) :: t, h, d => by
    simp only [List.map_cons, List.cons.injEq, Prod.mk.injEq] at h
    obtain ⟨⟨h1, h2⟩, h3⟩ := h
    have ih := lookup_ref ps t h3 d
    have hk : k = ⟨#[c]⟩ := cl_inj (by rw [h1]; rfl)
    by_cases e : d = c
    · subst e; subst hk
      exact .inr ⟨v, by simp [List.lookup_cons], by simp [List.lookup_cons, h2]⟩
    · have e1 : ((⟨#[d]⟩ : PySem.Str) == k) = false := by
        rw [beq_cl, h1]
        exact decide_eq_false (fun q => e (by simpa [cl] using q))
      have e2 : (d == c) = false := by simpa using e
      rw [List.lookup_cons, List.lookup_cons, e1, e2]; exact ih
theorem tab_at {p : Nat} (hp : p < 5) {kvs : List (PySem.Str × Value)} (h : PairsAre kvs (tabS p)) (d : Nat) :
    (valueAt kvs ⟨#[d]⟩ = none ∧ ref p d = [d]) ∨ ∃ v t, valueAt kvs ⟨#[d]⟩ = some (.str v t) ∧ cl v = ref p d := by
  unfold ref
  rcases h.at ⟨#[d]⟩ with ⟨h1, h2⟩ | ⟨v, t, h1, h2⟩
  · rcases lookup_ref _ _ (tabS_ref p hp) d with ⟨h3, h4⟩ | ⟨v, h3, h4⟩
    · exact .inl ⟨h2, by rw [h4]; rfl⟩
    · rw [h1] at h3; cases h3
  · rcases lookup_ref _ _ (tabS_ref p hp) d with ⟨h3, h4⟩ | ⟨v', h3, h4⟩
    · rw [h1] at h3; cases h3
    · rw [h1] at h3; cases h3
      exact .inr ⟨v, t, h2, by rw [h4]; rfl⟩
end Mine
end
section
open PySem PySem.Spec PySem.Calls PySem.W PyProof.Rows PyProof.Rows.LCg PyProof.Rows.LCt
set_option Elab.async false
set_option maxRecDepth 100000
namespace Mine
section
variable {prog : Program} {w : World} {A : Around} {E : Value → Shared → Prop} {s : Shared} {h₀ : Heap} {L : Addr} {m : PySem.Str → Option Value} {env : Env}
end
end Mine
namespace Mine
end Mine
end
section
open PySem PySem.Spec PySem.Calls PySem.W PyProof.Rows PyProof.Rows.LCg PyProof.Rows.LCt
set_option Elab.async false
set_option maxRecDepth 100000
namespace Mine
section
variable {prog : Program} {w : World} {A : Around} {E : Value → Shared → Prop} {s : Shared} {h₀ : Heap} {L : Addr} {m : PySem.Str → Option Value} {env : Env}
end
end Mine
end
section
open PySem PySem.Spec PySem.Calls PySem.W PyProof.Rows
set_option Elab.async false
set_option maxRecDepth 100000
namespace Mine
section
variable {prog : Program} {w : World} {A : Around} {E : Value → Shared → Prop} {s : Shared} {env : Env} {h₀ : Heap} {x : PySem.Str} {body : List Stmt} {Q : Flow → Shared → Prop}
end
end Mine
end
section
open PySem PySem.Spec PySem.Calls PySem.W PyProof.Rows PyProof.Rows.LCg
set_option Elab.async false
set_option maxRecDepth 100000
namespace Mine
section
variable {prog : Program} {w : World} {A : Around} {E : Value → Shared → Prop} {s : Shared} {env : Env} {h₀ : Heap} {x : PySem.Str} {body : List Stmt} {Q : Flow → Shared → Prop}
/-- a comprehension over a range from a, an int each -/
theorem rest_rangeA {L : Addr} {m : PySem.Str → Option Value} {elt : PySem.Expr} {scope : Scope} {cl : List (PySem.Str × Addr)} {S : List (Addr × Obj) → Prop} {Fin : List Value → List (Addr × Obj) → Prop} {news : List (Addr × Obj)} {n : Nat} {a : Int} (g : Nat → Int) (hS : S news)
    (turn : ∀ (c : Nat) t I oI C oC D m₂ ys h tk (E' : Value → Shared → Prop) (Q' : Value → Shared → Prop), c < n → NsObj oC m₂ → m₂ x = some (.int (a + (c : Int)) t) → Fr h₀ L h m → News h₀ L h ((I, oI) :: (C, oC) :: (D, lst ys) :: news) → Off3 I C D news →
      (∀ t' h' tk', Fr h₀ L h' m → News h₀ L h' ((I, oI) :: (C, oC) :: (D, lst ys) :: news) → Q' (.int (g c) t') { s with heap := h', toks := tk' }) →
      wpAny (model prog w) A (PySem.eval elt (compEnvC scope cl C env)) Q' E' { s with heap := h, toks := tk })
    (fin : ∀ ys, IntsAre ys ((List.range n).map g) → Fin ys news) : CompRest prog w A h₀ L m env elt x scope cl s S (fun i v => ∃ t, v = .int (a + (i : Int)) t) Fin n 0 [] news := by
  have key : ∀ (j i : Nat) (ys : List Value), i + j = n → IntsAre ys ((List.range i).map g) → CompRest prog w A h₀ L m env elt x scope cl s S (fun i v => ∃ t, v = .int (a + (i : Int)) t) Fin j i ys news := by
    intro j
    induction j with
    | zero =>
      intro i ys hi hy
      have e : i = n := by omega
      rw [e] at hy
      exact CompRest.zero (fin ys hy)
    | succ j ih =>
      intro i ys hi hy
      refine CompRest.succ ?_
      intro v I oI C oC D m₂ h tk E' hv hC hx F N off ne
      obtain ⟨t, rfl⟩ := hv
      refine turn i t I oI C oC D m₂ ys h tk E' _ (by omega) hC hx F N off fun t' h' tk' F' N' => ?_
      refine CompEnd.intro F' N' news (fun _ hp => hp) off hS ?_
      refine ih (i + 1) _ (by omega) ?_
      rw [List.range_succ, List.map_append]
      exact IntsAre.append hy (.cons _ _ .nil)
  exact key _ 0 [] (by omega) .nil
end
end Mine
end
section
open PySem PySem.Spec PySem.Calls PySem.W PyProof.Rows
set_option Elab.async false
set_option maxRecDepth 100000
namespace Mine
section
variable {prog : Program} {w : World} {A : Around} {E : Value → Shared → Prop} {s : Shared} {env : Env} {h₀ : Heap} {target : PySem.Expr} {body : List Stmt} {Q : Flow → Shared → Prop}
/-- a for over a range by ones whose target is a cell (or any other), by an invariant; the ledger's addresses stay -/
theorem range_unr {r : Addr} {a₀ b₀ : Int} {t₀ u₀ v₀ : Tok} {n : Nat} {m₀ : PySem.Str → Option Value} {news news₀ : List (Addr × Obj)} (J : Nat → (PySem.Str → Option Value) → List (Addr × Obj) → Prop)
    (hh : A.handled = none) (hr : IsRange s.heap r a₀ b₀ 1 t₀ u₀ v₀) (hsmall : Builtin.Range.small a₀ b₀ 1 = true) (hsz : Builtin.Range.rangeSize a₀ b₀ 1 = (n : Int))
    (F : Fr h₀ env.locals s.heap m₀) (N : News h₀ env.locals s.heap news₀) (hn : ∀ p ∈ news, p ∈ news₀) (hj : J 0 m₀ news)
    (hgo : ∀ (I : Value) (s' : Shared) v (Q' : Unit → Shared → Prop), Q' () s' → wpAny (model prog w) A (letOwnedTupleGo target I v) Q' E s')
    (turn : ∀ (i : Nat) t m₁ nx h tk own, i < n → OwnOff own (nx.map (·.1)) → J i m₁ nx → Fr h₀ env.locals h m₁ → News h₀ env.locals h (own ++ nx) →
      wpAny (model prog w) A (assign target env (.int (a₀ + (i : Int)) t)) (fun _ s₂ => wpAny (model prog w) A (execs body env)
        (LoopStep3 h₀ env.locals own nx (J (i + 1)) { s with heap := h, toks := tk } (fun v s' => Q (.ret v) s') fun s' => Q .next s') E s₂) E { s with heap := h, toks := tk })
    (done : ∀ m₁ nx h tk, J n m₁ nx → Fr h₀ env.locals h m₁ → News h₀ env.locals h nx → Q .next { s with heap := h, toks := tk }) :
    wpAny (model prog w) A (pyIter (.ref r)) (fun it s₂ => UnrAt prog w A h₀ env target body Q E it s₂) E s := by
  refine wpAny_pyIter_range hr hsmall ?_
  have W : Walks prog w A s.heap.objs.size [s.heap.objs.size] [s.heap.objs.size] n (fun i v => i < n ∧ ∃ t, v = .int (a₀ + i * 1) t)
      (fun i h => IsRangeIter h s.heap.objs.size (a₀ + (i : Nat) * 1) ((n : Int) - (i : Nat)) 1) := (Walks.range hh _ a₀ 1 n).bound
  refine ⟨_, _, _, n, _, _, m₀, news, rfl, W, ?_, ?_, ?_, (by show IsRangeIter _ _ _ _ _; rw [hsz]; simpa using Heap.get?_push_size _ rfl), F.push _, (fun p hp => ⟨Heap.get?_push_of_some _ (N p (hn p hp)).1, (N p (hn p hp)).2⟩), (fun _ s' v Q' _ hq => hgo _ s' v Q' hq), ?_⟩
  · intro hm
    exact absurd F.ns.lt ((List.mem_singleton.mp hm) ▸ Nat.lt_irrefl _)
  · intro b hb
    rw [List.mem_singleton.mp hb]
    exact next_is_new F
  · intro p hp hI
    exact absurd (Heap.lt_size (N p (hn p hp)).1) ((List.mem_singleton.mp hI) ▸ Nat.lt_irrefl _)
  · have key : ∀ (hp : Heap) (k i : Nat) (m₁ : PySem.Str → Option Value) (nx : List (Addr × Obj)), i + k = n → nx.map (·.1) = news.map (·.1) → J i m₁ nx →
        Unr prog w A E h₀ env target body Q (fun i v => i < n ∧ ∃ t, v = .int (a₀ + i * 1) t) [s.heap.objs.size] { s with heap := hp } k i m₁ nx := by
      intro hp k
      induction k with
      | zero =>
        intro i m₁ nx hi ha hJ
        have e : i = n := by omega
        subst e
        exact Unr.zero fun h' tk F' N' => done m₁ nx h' tk hJ F' N'
      | succ k ih =>
        intro i m₁ nx hi ha hJ
        refine Unr.succ ?_
        rintro v h₁ tk₁ own ⟨hlt, t, rfl⟩ hown F₁ N₁
        have e1 : a₀ + (i : Int) * 1 = a₀ + (i : Int) := by omega
        rw [e1]
        have hsep : OwnOff own (nx.map (·.1)) := by
          intro p hp b hb e
          rw [ha] at hb
          obtain ⟨q, hq, rfl⟩ := List.mem_map.mp hb
          have h1 := List.mem_singleton.mp (hown p hp)
          exact absurd (Heap.lt_size (N q (hn q hq)).1) (by rw [← e, h1]; exact Nat.lt_irrefl _)
        refine wpAny_mono (turn i t m₁ nx h₁ tk₁ own hlt hsep hJ F₁ N₁) (fun _ s₂ h₂ => wpAny_mono h₂ (fun f s₃ h₃ => ?_) fun _ _ e => e) fun _ _ e => e
        cases f with
        | ret v => exact h₃
        | brk => exact h₃
        | cont =>
          obtain ⟨e0, h₃', tk₃, m₂, news₂, e1, F₃, N₃, ha₃, hJ₃⟩ := h₃
          exact ⟨e0, h₃', tk₃, m₂, news₂, e1, F₃, N₃, ha₃, ih _ _ _ (by omega) (ha₃.trans ha) hJ₃⟩
        | next =>
          obtain ⟨e0, h₃', tk₃, m₂, news₂, e1, F₃, N₃, ha₃, hJ₃⟩ := h₃
          exact ⟨e0, h₃', tk₃, m₂, news₂, e1, F₃, N₃, ha₃, ih _ _ _ (by omega) (ha₃.trans ha) hJ₃⟩
    exact key _ n 0 m₀ news (by omega) rfl hj
end
end Mine
end
section
open PySem PySem.W PyProof.Rows
set_option Elab.async false
set_option maxRecDepth 100000
namespace Mine
/-! the plain law: the straight road -/
inductive Road (bad : Nat → Bool) : List Nat → List Nat → Prop
  | nil : Road bad [] []
  | keep {x : Nat} {a b : List Nat} : Road bad a b → Road bad (x :: a) (x :: b)
  | ins {y : Nat} {a b : List Nat} : Road bad a b → Road bad a (y :: b)
  | sub {x y : Nat} {a b : List Nat} : bad x = true → Road bad a b → Road bad (x :: a) (y :: b)
noncomputable def cnt (bad : Nat → Bool) (a : List Nat) : Nat := (a.filter bad).length
theorem cnt_cons (bad : Nat → Bool) (x : Nat) (a : List Nat) : cnt bad (x :: a) = (if bad x = true then 1 else 0) + cnt bad a := by
  unfold cnt
  rw [List.filter_cons]
  split <;> simp; omega
theorem cnt_le (bad : Nat → Bool) (a : List Nat) : cnt bad a ≤ a.length := List.length_filter_le _ _
theorem cnt_rev (bad : Nat → Bool) (a : List Nat) : cnt bad a.reverse = cnt bad a := by
  unfold cnt
  rw [List.filter_reverse, List.length_reverse]
theorem road_len {bad : Nat → Bool} {a b : List Nat} (R : Road bad a b) : a.length ≤ b.length := by
  induction R with
  | nil => simp
  | keep _ ih => simpa using ih
  | ins _ ih => simp; omega
  | sub _ _ ih => simpa using ih
theorem ed_ins (a : List Nat) (y : Nat) (b : List Nat) : ed a (y :: b) ≤ ed a b + 2 := by
  cases a with
  | nil => rw [ed_nil', ed_nil', List.length_cons]; omega
  | cons x a => rw [ed_cons]; omega
theorem road_ed {bad : Nat → Bool} {a b : List Nat} (R : Road bad a b) : ed a b ≤ 2 * ((b.length : Int) - a.length) + 2 * cnt bad a := by
  induction R with
  | nil => rw [ed_nil']; simp [cnt]
  | @keep x a b _ ih =>
    rw [ed_cons, sc_self, cnt_cons, List.length_cons, List.length_cons]
    split <;> omega
  | @ins y a b _ ih =>
    have := ed_ins a y b
    rw [List.length_cons]; omega
  | @sub x y a b hb _ ih =>
    have := sc_le x y
    rw [ed_cons, cnt_cons, if_pos hb, List.length_cons, List.length_cons]
    omega
theorem ed_low {bad : Nat → Bool} : ∀ (a b : List Nat), (∀ c ∈ a, bad c = true → c < 65) → (∀ c ∈ b, bad c = false) → 2 * ((b.length : Int) - a.length) + 2 * cnt bad a ≤ ed a b
  | [], b, _, _ => by rw [ed_nil']; simp [cnt]
  | x :: a, [], _, _ => by
    have := cnt_le bad (x :: a)
    rw [ed_nil]; simp at this ⊢; omega
  | x :: a, y :: b, ha, hb => by
    have h1 := ed_low a (y :: b) (fun c hc => ha c (List.mem_cons_of_mem _ hc)) hb
    have h2 := ed_low (x :: a) b ha (fun c hc => hb c (List.mem_cons_of_mem _ hc))
    have h3 := ed_low a b (fun c hc => ha c (List.mem_cons_of_mem _ hc)) (fun c hc => hb c (List.mem_cons_of_mem _ hc))
    have hs := sc_le x y
    rw [cnt_cons] at h2
    rw [ed_cons, cnt_cons]
    simp only [List.length_cons] at h1 h2 ⊢
    by_cases hx : bad x = true
    · have hxy : x ≠ y := fun e => by rw [e, hb y (List.mem_cons_self ..)] at hx; cases hx
      have := sc_small (ha x (List.mem_cons_self ..) hx) hxy
      rw [if_pos hx] at h2 ⊢
      omega
    · rw [if_neg hx] at h2 ⊢
      omega
theorem road_append {bad : Nat → Bool} {a b c d : List Nat} (h : Road bad a b) (k : Road bad c d) : Road bad (a ++ c) (b ++ d) := by
  induction h with
  | nil => exact k
  | keep _ ih => exact .keep ih
  | ins _ ih => exact .ins ih
  | sub hb _ ih => exact .sub hb ih
theorem road_rev {bad : Nat → Bool} {a b : List Nat} (h : Road bad a b) : Road bad a.reverse b.reverse := by
  induction h with
  | nil => exact .nil
  | keep _ ih => rw [List.reverse_cons, List.reverse_cons]; exact road_append ih (.keep .nil)
  | @ins y a b _ ih =>
    rw [List.reverse_cons]
    have := road_append ih (Road.ins (y := y) (Road.nil (bad := bad)))
    rwa [List.append_nil] at this
  | sub hb _ ih => rw [List.reverse_cons, List.reverse_cons]; exact road_append ih (.sub hb .nil)
/-! what dropPre leaves -/
theorem dropPre_spec : ∀ a b : List Nat, ∃ p, a = p ++ (dropPre a b).1 ∧ b = p ++ (dropPre a b).2 ∧ ((dropPre a b).1 = [] ∨ (dropPre a b).2 = [] ∨ (dropPre a b).1.head? ≠ (dropPre a b).2.head?)
  | [], b => ⟨[], by rw [dropPre_nil]; simp⟩
  | x :: a, [] => ⟨[], by rw [dropPre_nil']; simp⟩
  | x :: a, y :: b => by
    by_cases h : x = y
    · subst h
      obtain ⟨p, h1, h2, h3⟩ := dropPre_spec a b
      rw [dropPre_eq]
      refine ⟨x :: p, ?_, ?_, h3⟩
      · rw [List.cons_append, ← h1]
      · rw [List.cons_append, ← h2]
    · rw [dropPre_ne h]
      exact ⟨[], rfl, rfl, .inr (.inr (by simpa using h))⟩
theorem dropPre_swap : ∀ a b : List Nat, dropPre b a = ((dropPre a b).2, (dropPre a b).1)
  | [], b => by rw [dropPre_nil, dropPre_nil']
  | x :: a, [] => by rw [dropPre_nil, dropPre_nil']
  | x :: a, y :: b => by
    by_cases h : x = y
    · subst h; rw [dropPre_eq, dropPre_eq, dropPre_swap a b]
    · rw [dropPre_ne h, dropPre_ne (Ne.symm h)]
theorem dropSuf_swap (a b : List Nat) : dropSuf b a = ((dropSuf a b).2, (dropSuf a b).1) := by
  unfold dropSuf
  rw [dropPre_swap a.reverse b.reverse]
/-- what the distance tells of two texts on a straight road -/
theorem levG_road {bad : Nat → Bool} {a b : List Nat} (R : Road bad a b) (ha : ∀ c ∈ a, bad c = true → c < 65) (hb : ∀ c ∈ b, bad c = false) (mx : Int) {L : Int} (hL : L = levG a b mx ∨ L = levG b a mx) :
    (a = [] → L = 2 * ((b.length : Int) - a.length) + 2 * cnt bad a) ∧
    (a ≠ [] → (40 < b.length ∨ mx < 2 * ((b.length : Int) - a.length)) → L = mx + 1) ∧
    (a ≠ [] → ¬ (40 < b.length ∨ mx < 2 * ((b.length : Int) - a.length)) → (L = 2 * ((b.length : Int) - a.length) + 2 * cnt bad a ∨ L = mx + 1) ∧ (2 * ((b.length : Int) - a.length) + 2 * cnt bad a ≤ mx → L = 2 * ((b.length : Int) - a.length) + 2 * cnt bad a)) := by
  have hlen := road_len R
  have hed : ed a.reverse b.reverse = 2 * ((b.length : Int) - a.length) + 2 * cnt bad a := by
    have h1 := road_ed (road_rev R)
    have h2 := ed_low (bad := bad) a.reverse b.reverse (fun c hc => ha c (List.mem_reverse.mp hc)) (fun c hc => hb c (List.mem_reverse.mp hc))
    rw [List.length_reverse, List.length_reverse, cnt_rev] at h1 h2
    omega
  refine ⟨?_, ?_, ?_⟩
  · rintro rfl
    have h0 : cnt bad [] = 0 := rfl
    rw [h0]
    rcases hL with hL | hL
    · rw [hL, levG, if_pos (.inl rfl)]; simp
    · rw [hL, levG, if_pos (.inr rfl)]; simp
  · intro hne hc
    have h0 : a.length ≠ 0 := fun e => hne (List.eq_nil_of_length_eq_zero e)
    by_cases h40 : 40 < b.length
    · rcases hL with hL | hL
      · rw [hL, levG, if_neg (by omega), if_pos (.inr h40)]
      · rw [hL, levG, if_neg (by omega), if_pos (.inl h40)]
    · have hc' := hc.resolve_left h40
      rcases hL with hL | hL
      · rw [hL, levG, if_neg (by omega), if_neg (by omega), if_neg (by omega), levH, if_pos (by omega)]
      · rw [hL, levG, if_neg (by omega), if_neg (by omega)]
        by_cases hlt : a.length < b.length
        · rw [if_pos hlt, levH, if_pos (by omega)]
        · rw [if_neg hlt, levH, if_pos (by omega)]
  · intro hne hc
    have h0 : a.length ≠ 0 := fun e => hne (List.eq_nil_of_length_eq_zero e)
    have hnb : b ≠ [] := fun e => by rw [e] at hlen; simp at hlen; exact h0 (by rw [hlen]; rfl)
    have d1 := dp_ed a hne mx b [] 0 (fun e => absurd e hnb)
    have d2 := dp_ed b hnb mx a [] 0 (fun e => absurd e hne)
    rw [List.append_nil] at d1 d2
    rw [ed_comm b.reverse a.reverse] at d2
    have key : L = dp a mx b ([] : List Nat).length (rowOf [] [] a) 0 ∨ L = dp b mx a ([] : List Nat).length (rowOf [] [] b) 0 := by
      rcases hL with hL | hL
      · rw [hL, levG, if_neg (by omega), if_neg (by omega), if_neg (by omega), levH, if_neg (by omega)]; exact .inl rfl
      · rw [hL, levG, if_neg (by omega), if_neg (by omega)]
        by_cases hlt : a.length < b.length
        · rw [if_pos hlt, levH, if_neg (by omega)]; exact .inl rfl
        · rw [if_neg hlt, levH, if_neg (by omega)]; exact .inr rfl
    rw [hed] at d1 d2
    rcases key with e | e <;> rw [e]
    · exact d1
    · exact d2
end Mine
end
section
open PySem PySem.W PyProof.Rows
set_option Elab.async false
set_option maxRecDepth 100000
namespace Mine
/-! plain law 2 -/
theorem told_plain {u : List Nat} (h : 34 ∉ u) : told u = u := by
  induction u with
  | nil => rfl
  | cons c u ih =>
    rw [told_cons (fun e => h (e ▸ List.mem_cons_self ..)), ih (fun m => h (List.mem_cons_of_mem _ m))]
/-- n quotes and a tail -/
noncomputable def qt (n : Nat) (t : List Nat) : List Nat := List.replicate n 34 ++ t
theorem qt_succ (n : Nat) (t : List Nat) : qt (n + 1) t = 34 :: qt n t := rfl
theorem told_qt : ∀ (n : Nat) {t : List Nat}, 34 ∉ t → told (qt n t) = if n % 2 = 0 then qt (n / 2) t else qt (n / 2) []
  | 0, t, h => told_plain h
  | 1, t, h => by
    show told (34 :: t) = []
    refine told_one ?_
    cases t with
    | nil => simp
    | cons c t =>
      simp only [List.head?_cons, ne_eq, Option.some.injEq]
      exact fun e => h (e ▸ List.mem_cons_self ..)
  | n + 2, t, h => by
    rw [qt_succ, qt_succ, told_quotes, told_qt n h, Nat.add_mod_right, show (n + 2) / 2 = n / 2 + 1 by omega]
    split <;> rfl
theorem dropPre_app (p a b : List Nat) : dropPre (p ++ a) (p ++ b) = dropPre a b := by
  induction p with
  | nil => rfl
  | cons c p ih => rw [List.cons_append, List.cons_append, dropPre_eq, ih]
theorem dropSuf_app (s a b : List Nat) : dropSuf (a ++ s) (b ++ s) = dropSuf a b := by
  unfold dropSuf
  rw [List.reverse_append, List.reverse_append, dropPre_app]
theorem dropSuf_in (a c : List Nat) : dropSuf a (c ++ a) = ([], c) := by
  have := dropSuf_app a [] c
  rw [List.nil_append] at this
  rw [this, dropSuf_nil]
theorem levF_G (a b : List Nat) (mx : Int) : levF a b mx = levG (dropSuf (dropPre a b).1 (dropPre a b).2).1 (dropSuf (dropPre a b).1 (dropPre a b).2).2 mx := by
  by_cases h : a = b
  · subst h
    have e : ∀ a : List Nat, dropPre a a = ([], []) := by
      intro a
      have := dropPre_app a [] []
      rw [List.append_nil] at this
      rw [this, dropPre_nil]
    rw [levF, if_pos rfl, e, dropSuf_nil, levG, if_pos (.inl rfl)]; rfl
  · rw [levF, if_neg h]
/-- a text and the same with more signs in the midst: the price is told at any bound -/
theorem strip_ins (P X S : List Nat) : (dropSuf (dropPre (P ++ S) (P ++ X ++ S)).1 (dropPre (P ++ S) (P ++ X ++ S)).2).1 = [] ∧ (dropSuf (dropPre (P ++ S) (P ++ X ++ S)).1 (dropPre (P ++ S) (P ++ X ++ S)).2).2.length = X.length := by
  rw [List.append_assoc, dropPre_app]
  obtain ⟨p, h1, h2, h3⟩ := dropPre_spec S (X ++ S)
  generalize (dropPre S (X ++ S)).1 = a at h1 h3
  generalize (dropPre S (X ++ S)).2 = b at h2 h3
  have ha : a = S.drop p.length := by rw [h1]; simp
  have hb : b = (X ++ S).drop p.length := by rw [h2]; simp
  have hp : p.length ≤ S.length := by rw [h1]; simp
  have e : b = b.take X.length ++ a := by
    have h4 : b.drop X.length = a := by
      rw [hb, List.drop_drop, ha, Nat.add_comm, ← List.drop_drop, List.drop_left]
    rw [← h4, List.take_append_drop]
  rw [e, dropSuf_in]
  refine ⟨rfl, ?_⟩
  rw [List.length_take, hb, List.length_drop, List.length_append]
  omega
theorem levF_ins (P X S : List Nat) (mx : Int) : levF (P ++ S) (P ++ X ++ S) mx = 2 * (X.length : Int) ∧ levF (P ++ X ++ S) (P ++ S) mx = 2 * (X.length : Int) := by
  obtain ⟨h1, h2⟩ := strip_ins P X S
  constructor
  · rw [levF_G, h1, levG, if_pos (.inl rfl), h2]; simp
  · rw [levF_G, dropPre_swap (P ++ S) (P ++ X ++ S)]
    rw [dropSuf_swap (dropPre (P ++ S) (P ++ X ++ S)).1 (dropPre (P ++ S) (P ++ X ++ S)).2]
    rw [h1, levG, if_pos (.inr rfl), h2]; simp
theorem qt_split {n m : Nat} (h : m ≤ n) (t : List Nat) : qt n t = List.replicate m 34 ++ List.replicate (n - m) 34 ++ t := by
  unfold qt
  rw [List.replicate_append_replicate, show m + (n - m) = n by omega]
/-- the distance of a text of quotes and one of its parts -/
theorem levF_part {n m : Nat} (h : m ≤ n) (t : List Nat) (mx : Int) : levF (qt n t) (qt m t) mx = 2 * (((qt n t).length : Int) - (qt m t).length) ∧ levF (qt n t) (qt m []) mx = 2 * (((qt n t).length : Int) - (qt m []).length) := by
  have l1 : ∀ k (u : List Nat), (qt k u).length = k + u.length := fun k u => by unfold qt; simp
  constructor
  · have := (levF_ins (List.replicate m 34) (List.replicate (n - m) 34) t mx).2
    rw [← qt_split h] at this
    rw [show qt m t = List.replicate m 34 ++ t from rfl, this, l1]; simp; omega
  · have := (levF_ins (List.replicate m 34) (List.replicate (n - m) 34 ++ t) [] mx).2
    rw [List.append_nil, List.append_nil, ← List.append_assoc, ← qt_split h] at this
    rw [show qt m [] = List.replicate m 34 ++ [] from rfl, List.append_nil, this, l1]; simp; omega

/-! the page -/
noncomputable def ampY : List Nat := [97, 109, 112, 59]
noncomputable def ys : Nat → List Nat
  | 0 => []
  | d + 1 => ampY ++ ys d
noncomputable def amp (d : Nat) : List Nat := 38 :: ys d
theorem ys_len : ∀ d, (ys d).length = 4 * d
  | 0 => rfl
  | d + 1 => by rw [ys, List.length_append, ys_len d]; simp [ampY]; omega
theorem ys_snoc : ∀ d, ys (d + 1) = ys d ++ ampY
  | 0 => rfl
  | d + 1 => by
    have ih := ys_snoc d
    calc ys (d + 1 + 1) = ampY ++ ys (d + 1) := rfl
      _ = ampY ++ (ys d ++ ampY) := by rw [ih]
      _ = ys (d + 1) ++ ampY := by rw [← List.append_assoc]; rfl
theorem page_app (p : Nat) (a b : List Nat) : page p (a ++ b) = page p a ++ page p b := by simp [page]
theorem page_ampY : ∀ p < 5, page p ampY = ampY ∧ page p [38] = 38 :: ampY := by decide +kernel
theorem page_ys {p : Nat} (hp : p < 5) : ∀ d, page p (ys d) = ys d
  | 0 => rfl
  | d + 1 => by rw [ys, page_app, (page_ampY p hp).1, page_ys hp d]
theorem page_amp {p : Nat} (hp : p < 5) (d : Nat) : page p (amp d) = amp (d + 1) := by
  show page p ([38] ++ ys d) = _
  rw [page_app, (page_ampY p hp).2, page_ys hp d]; rfl
theorem tab_tail : ∀ p < 5, ∀ q ∈ tabOf p, ∃ r, q.2 = 38 :: r ∧ page p r = r ∧ q.2 ≠ [q.1] := by
  have key : ∀ p < 5, ∀ q ∈ tabOf p, q.2.head? = some 38 ∧ page p q.2.tail = q.2.tail ∧ q.2 ≠ [q.1] := by decide +kernel
  intro p hp q hq
  obtain ⟨h1, h2, h3⟩ := key p hp q hq
  cases e : q.2 with
  | nil => rw [e] at h1; cases h1
  | cons c r =>
    rw [e] at h1 h2
    have : c = 38 := by simpa using h1
    subst this
    exact ⟨r, rfl, h2, e ▸ h3⟩
theorem lookup_in {α : Type} : ∀ {t : List (Nat × α)} {d : Nat} {r : α}, t.lookup d = some r → (d, r) ∈ t
  | [], _, _, h => by cases h
  | (k, q) :: t, d, r, h => by
    rw [List.lookup_cons] at h
    split at h
    · rename_i hk
      have : d = k := by simpa using hk
      cases h; subst this; exact List.mem_cons_self ..
    · exact List.mem_cons_of_mem _ (lookup_in h)
theorem ref_two {p : Nat} (hp : p < 5) (s : Nat) : ref p s = [s] ∨ ∃ r, ref p s = 38 :: r ∧ page p r = r ∧ ref p s ≠ [s] := by
  unfold ref
  cases h : (tabOf p).lookup s with
  | none => exact .inl rfl
  | some v =>
    obtain ⟨r, h1, h2, h3⟩ := tab_tail p hp _ (lookup_in h)
    exact .inr ⟨r, h1, h2, h3⟩
/-- the page at depth d -/
noncomputable def pg (p s : Nat) : Nat → List Nat
  | 0 => page p [38, s]
  | d + 1 => page p (pg p s d)
theorem pg_one {p : Nat} (hp : p < 5) {s : Nat} (h : ref p s = [s]) : ∀ d, pg p s d = amp (d + 1) ++ [s]
  | 0 => by
    show page p ([38] ++ [s]) = _
    rw [page_app, (page_ampY p hp).2, show page p [s] = ref p s by simp [page], h]; rfl
  | d + 1 => by
    rw [pg, pg_one hp h d, page_app, page_amp hp, show page p [s] = ref p s by simp [page], h]
theorem pg_more {p : Nat} (hp : p < 5) {s : Nat} {r : List Nat} (h : ref p s = 38 :: r) (hr : page p r = r) : ∀ d, pg p s d = amp (d + 1) ++ (amp d ++ r)
  | 0 => by
    show page p ([38] ++ [s]) = _
    rw [page_app, (page_ampY p hp).2, show page p [s] = ref p s by simp [page], h]; rfl
  | d + 1 => by
    rw [pg, pg_more hp h hr d, page_app, page_app, page_amp hp, page_amp hp, hr]
theorem lev_one (s d : Nat) (mx : Int) : levF (amp 1 ++ [s]) (amp (d + 1) ++ [s]) mx = 8 * d := by
  have := (levF_ins (amp 1) (ys d) [s] mx).1
  have e : amp 1 ++ ys d = amp (d + 1) := rfl
  rw [e] at this
  rw [this, ys_len]; omega
theorem road_nil (bad : Nat → Bool) : ∀ b : List Nat, Road bad [] b
  | [] => .nil
  | _ :: b => .ins (road_nil bad b)
theorem road_one (bad : Nat → Bool) : ∀ (u v : List Nat) (c : Nat), Road bad [c] (u ++ c :: v)
  | [], v, _ => .keep (road_nil bad v)
  | _ :: u, v, c => .ins (road_one bad u v c)
theorem lev_two (r : List Nat) {d : Nat} (hd : d ≤ 4) : levF (amp 1 ++ (amp 0 ++ r)) (amp (d + 1) ++ (amp d ++ r)) (16 * d) = 16 * d := by
  cases d with
  | zero => rw [levF, if_pos rfl]; rfl
  | succ d =>
    have e1 : amp (d + 1 + 1) = amp 1 ++ ys (d + 1) := rfl
    have e2 : amp 0 ++ r = [38] ++ r := rfl
    have e3 : ys (d + 1) ++ (amp (d + 1) ++ r) = (ys (d + 1) ++ amp (d + 1)) ++ r := by rw [List.append_assoc]
    have e4 : ys (d + 1) ++ amp (d + 1) = (ys (d + 1) ++ (38 :: ys d ++ [97, 109, 112])) ++ [59] := by
      have h : (38 :: ys (d + 1)) = 38 :: ys d ++ [97, 109, 112] ++ [59] := by
        rw [ys_snoc d, List.append_assoc]; rfl
      rw [show amp (d + 1) = 38 :: ys (d + 1) from rfl, h, ← List.append_assoc]
    have hP : dropPre (amp 1 ++ (amp 0 ++ r)) (amp (d + 1 + 1) ++ (amp (d + 1) ++ r)) = ([38] ++ r, (ys (d + 1) ++ amp (d + 1)) ++ r) := by
      rw [e1, List.append_assoc, dropPre_app, e2, e3]
      show dropPre (38 :: r) (97 :: _) = _
      rw [dropPre_ne (by decide)]; rfl
    have hS : dropSuf ([38] ++ r) ((ys (d + 1) ++ amp (d + 1)) ++ r) = ([38], ys (d + 1) ++ amp (d + 1)) := by
      rw [dropSuf_app, e4]
      have := dropSuf_ne (x := 38) (y := 59) (by decide) [] (ys (d + 1) ++ (38 :: ys d ++ [97, 109, 112]))
      rw [List.nil_append] at this
      exact this
    rw [levF_G, hP, hS]
    have R : Road (fun _ => false) [38] (ys (d + 1) ++ amp (d + 1)) := road_one _ _ _ _
    have hl : (ys (d + 1) ++ amp (d + 1)).length = 8 * (d + 1) + 1 := by
      rw [List.length_append, amp, List.length_cons, ys_len]; omega
    have k := (levG_road R (by intro c _ h; cases h) (fun _ _ => rfl) (16 * ((d + 1 : Nat) : Int)) (.inl rfl)).2.2 (by simp) (by rw [hl]; simp; omega)
    have hc : cnt (fun _ => false) [38] = 0 := rfl
    rw [hc, hl] at k
    have := k.2 (by simp; omega)
    rw [this]; simp; omega

/-! the least path lengths -/
noncomputable def leastL : List Int := [0, 0, 2, 5, 8, 12, 16, 20, 24, 29, 34, 39, 44, 49, 54, 59, 64]
noncomputable def lst (n : Nat) : Int := leastL.getD n 0
theorem lst_half : ∀ n < 17, 2 ≤ n → lst n = n + lst (n / 2) + lst (n - n / 2) := by decide
end Mine
end
section
open PySem PySem.W PyProof.Rows
set_option Elab.async false
set_option maxRecDepth 100000
namespace Mine
/-! law 2: what the leaves ask -/
noncomputable def marksOk (p s : Nat) (mk : Int) : Prop := (mk = 1 ∧ ref p s = [s]) ∨ (mk = 2 ∧ ref p s ≠ [s])
theorem amp_len (d : Nat) : (amp d).length = 4 * d + 1 := by rw [amp, List.length_cons, ys_len]
theorem pg_len {p : Nat} (hp : p < 5) {s : Nat} {mk : Int} (h : marksOk p s mk) (d : Nat) : ((pg p s d).length : Int) = (pg p s 0).length + 4 * mk * d := by
  rcases h with ⟨rfl, h⟩ | ⟨rfl, h⟩
  · rw [pg_one hp h, pg_one hp h, List.length_append, List.length_append, amp_len, amp_len]; simp; omega
  · rcases ref_two hp s with h' | ⟨r, h1, h2, _⟩
    · exact absurd h' h
    · rw [pg_more hp h1 h2, pg_more hp h1 h2, List.length_append, List.length_append, List.length_append, List.length_append, amp_len, amp_len, amp_len, amp_len]; simp; omega
theorem pg_inj {p : Nat} (hp : p < 5) {s : Nat} {mk : Int} (h : marksOk p s mk) {d e : Nat} (he : pg p s d = pg p s e) : d = e := by
  have h1 := pg_len hp h d
  have h2 := pg_len hp h e
  rw [he] at h1
  rcases h with ⟨rfl, _⟩ | ⟨rfl, _⟩ <;> omega
theorem pg_lev {p : Nat} (hp : p < 5) {s : Nat} {mk : Int} (h : marksOk p s mk) {d : Nat} (hd : d ≤ 4) : levF (pg p s 0) (pg p s d) (8 * mk * d) = 8 * mk * d := by
  rcases h with ⟨rfl, h⟩ | ⟨rfl, h⟩
  · rw [pg_one hp h, pg_one hp h, lev_one]; omega
  · rcases ref_two hp s with h' | ⟨r, h1, h2, _⟩
    · exact absurd h' h
    · rw [pg_more hp h1 h2, pg_more hp h1 h2]
      have := lev_two r hd
      rw [show (8 : Int) * 2 * d = 16 * d by omega]
      exact this
/-- the pile's worth -/
noncomputable def worth : List (Nat × Bool × Nat) → Int
  | [] => 0
  | (n, _, d) :: its => lst n + n * d + worth its
noncomputable def quotes : List (Nat × Bool × Nat) → Nat
  | [] => 0
  | (n, _, _) :: its => n + quotes its
noncomputable def steps2 : List (Nat × Bool × Nat) → Nat
  | [] => 0
  | (n, _, _) :: its => 2 * n - 1 + steps2 its
theorem half_ok {n d : Nat} (h2 : 2 ≤ n) (hd : d ≤ 4) (hn : n ≤ 2 ^ (4 - d)) : d + 1 ≤ 4 ∧ n / 2 ≤ 2 ^ (4 - (d + 1)) ∧ n - n / 2 ≤ 2 ^ (4 - (d + 1)) ∧ 1 ≤ n / 2 ∧ 1 ≤ n - n / 2 := by
  have : d = 0 ∨ d = 1 ∨ d = 2 ∨ d = 3 ∨ d = 4 := by omega
  rcases this with rfl | rfl | rfl | rfl | rfl <;> simp at hn ⊢ <;> omega
theorem worth_half {n d : Nat} (h2 : 2 ≤ n) (h16 : n ≤ 16) (b1 b2 b3 : Bool) (its : List (Nat × Bool × Nat)) : worth ((n / 2, b1, d + 1) :: (n - n / 2, b2, d + 1) :: its) = worth ((n, b3, d) :: its) := by
  have h := lst_half n (by omega) h2
  have e : (n : Int) = ((n / 2 : Nat) : Int) + ((n - n / 2 : Nat) : Int) := by omega
  simp only [worth]
  rw [h]
  have e2 : (n : Int) * d = ((n / 2 : Nat) : Int) * d + ((n - n / 2 : Nat) : Int) * d := by rw [← Int.add_mul, ← e]
  rw [e2]
  have e3 : ((n / 2 : Nat) : Int) * ((d + 1 : Nat) : Int) = ((n / 2 : Nat) : Int) * d + ((n / 2 : Nat) : Int) := by rw [Int.natCast_add, Int.mul_add]; simp
  have e4 : ((n - n / 2 : Nat) : Int) * ((d + 1 : Nat) : Int) = ((n - n / 2 : Nat) : Int) * d + ((n - n / 2 : Nat) : Int) := by rw [Int.natCast_add, Int.mul_add]; simp
  rw [e3, e4]
  omega
end Mine
end
section
open PySem PySem.W PyProof.Rows
set_option Elab.async false
set_option maxRecDepth 100000
namespace Mine
/-! law 2: a turn of the While, plain -/
theorem takeWhile_freeK {k : Nat} : ∀ {l : List Nat}, k ∉ l → l.takeWhile (· ≠ k) = l
  | [], _ => rfl
  | c :: l, h => by
    have hc : c ≠ k := fun e => h (e ▸ List.mem_cons_self ..)
    have ih := takeWhile_freeK (l := l) fun hm => h (List.mem_cons_of_mem _ hm)
    rw [List.takeWhile_cons, if_pos (by simpa using hc), ih]
open Builtin Builtin.Str StrLaws in
theorem head_splitK (p : PySem.Str) (k : Nat) : ∃ q r, Txt.split p ⟨#[k]⟩ = q :: r ∧ cl q = (cl p).takeWhile (· ≠ k) := by
  have hj := join_split p ⟨#[k]⟩
  have hf := split_free p k
  cases hs : Txt.split p ⟨#[k]⟩ with
  | nil =>
    exfalso
    unfold Txt.split at hs
    split at hs
    · simp at hs
    · split at hs
      · simp at hs
      · rw [partsBetween_eq] at hs
        obtain ⟨q, r, e⟩ := partsFrom_ne p (⟨#[k]⟩ : PySem.Str).length 0 (occurrences p ⟨#[k]⟩ 0 p.length (p.length + 1))
        rw [e] at hs; simp at hs
  | cons q r =>
    refine ⟨q, r, rfl, ?_⟩
    rw [hs] at hj hf
    have hq : k ∉ cl q := hf q (List.mem_cons_self ..)
    have hall : (cl q).takeWhile (· ≠ k) = cl q := takeWhile_freeK hq
    cases r with
    | nil =>
      have : p = q := hj.symm
      rw [this, hall]
    | cons y r =>
      have e : cl p = cl q ++ k :: cl (PySem.Str.join ⟨#[k]⟩ (y :: r)) := by
        rw [← hj]
        show cl (q ++ ⟨#[k]⟩ ++ PySem.Str.join ⟨#[k]⟩ (y :: r)) = _
        rw [cl_append, cl_append, List.append_assoc]; rfl
      rw [e, List.takeWhile_append_of_pos (by
        intro c hc
        have : c ≠ k := fun e => hq (e ▸ hc)
        simpa using this)]
      simp
theorem litBlank : PySem.Str.ofString " " = ⟨#[32]⟩ := by decide +kernel
/-- a tail -/
noncomputable def tlOf (b : Bool) (c : Nat) : List Nat := if b then [32, c] else []
theorem tlOf_free (b : Bool) {c : Nat} (h : c ≠ 34) : 34 ∉ tlOf b c := by
  cases b
  · exact List.not_mem_nil
  · show 34 ∉ [32, c]
    simp only [List.mem_cons, List.not_mem_nil, or_false]; omega
theorem tlOf_len (b : Bool) (c : Nat) : (tlOf b c).length ≤ 2 := by cases b <;> simp [tlOf]
theorem run_while (b : Bool) (c : Nat) : ∀ n, (qt n (tlOf b c)).takeWhile (· ≠ 32) = qt n []
  | 0 => by cases b <;> simp [qt, tlOf]
  | n + 1 => by
    rw [qt_succ, List.takeWhile_cons, if_pos (by decide), run_while b c n]; rfl
theorem qt_len (n : Nat) (t : List Nat) : (qt n t).length = n + t.length := by simp [qt]
theorem run_is {tx : PySem.Str} {n : Nat} {b : Bool} {c : Nat} (h : cl tx = qt n (tlOf b c)) : ∃ q r, Txt.split tx (PySem.Str.ofString " ") = q :: r ∧ cl q = qt n [] ∧ q.length = n := by
  obtain ⟨q, r, e, hq⟩ := head_splitK tx 32
  rw [litBlank]
  rw [h, run_while] at hq
  exact ⟨q, r, e, hq, by rw [cl_len, hq, qt_len]; rfl⟩
theorem rest_is {tx : PySem.Str} {n : Nat} {b : Bool} {c : Nat} (h : cl tx = qt n (tlOf b c)) : cl (Txt.slice tx (some (n : Int)) none) = tlOf b c := by
  rw [slice_from tx (by omega) (by rw [h, qt_len]; omega), h, Int.toNat_natCast]
  unfold qt
  rw [List.drop_left' (by simp)]
theorem run_one {q : PySem.Str} {n : Nat} (h : cl q = qt n []) : (q == PySem.Str.ofString "\"") = decide (n = 1) := by
  rw [beq_cl, h, litQuote]
  have : (qt n [] = [34]) ↔ n = 1 := by
    constructor
    · intro e
      have := congrArg List.length e
      rw [qt_len] at this; simpa using this
    · rintro rfl; rfl
  simp only [this]
/-- the parts -/
noncomputable def fstB (n : Nat) (b : Bool) : Bool := b && (n % 2 == 0)
noncomputable def sndB (n : Nat) (b : Bool) : Bool := b && (n % 2 == 1)
theorem fst_is {tx : PySem.Str} {n : Nat} {b : Bool} {c : Nat} (hc : c ≠ 34) (h : cl tx = qt n (tlOf b c)) : cl (toldS tx) = qt (n / 2) (tlOf (fstB n b) c) := by
  rw [toldS, cl_mkS, h, told_qt n (tlOf_free b hc)]
  unfold fstB
  by_cases hn : n % 2 = 0
  · rw [if_pos hn, hn]; simp
  · rw [if_neg hn, show n % 2 = 1 by omega]; simp [tlOf]
theorem snd_txt {q tl : PySem.Str} {n : Nat} {b : Bool} {c : Nat} (hq : cl q = qt n []) (ht : cl tl = tlOf b c) : cl (q ++ PySem.Str.ofString "\"" ++ tl) = qt (n + 1) (tlOf b c) := by
  rw [cl_append, cl_append, hq, ht, litQuote]
  unfold qt
  rw [List.append_nil, show [34] = List.replicate 1 34 from rfl, List.replicate_append_replicate]
theorem snd_is {x : PySem.Str} {n : Nat} {b : Bool} {c : Nat} (hc : c ≠ 34) (h : cl x = qt (n + 1) (tlOf b c)) : cl (toldS x) = qt (n - n / 2) (tlOf (sndB n b) c) := by
  rw [toldS, cl_mkS, h, told_qt (n + 1) (tlOf_free b hc), show (n + 1) / 2 = n - n / 2 by omega]
  unfold sndB
  by_cases hn : n % 2 = 0
  · rw [if_neg (by omega), hn]; simp [tlOf]
  · rw [if_pos (by omega), show n % 2 = 1 by omega]; simp
theorem head_q {x : PySem.Str} {n : Nat} {t : List Nat} (h : cl x = qt n t) (hn : 1 ≤ n) : (Txt.slice x none (some 1) != PySem.Str.ofString "\"") = false := by
  obtain ⟨m, rfl⟩ : ∃ m, n = m + 1 := ⟨n - 1, by omega⟩
  rw [bne_cl, slice_to x (by decide) (by rw [h, qt_len]; omega), h, litQuote, qt_succ]
  exact decide_eq_false (fun e => e rfl)
theorem glue_even {tx f g : PySem.Str} {n : Nat} {b : Bool} {c : Nat} (h : cl tx = qt n (tlOf b c)) (hf : cl f = qt (n / 2) (tlOf (fstB n b) c)) (hg : cl g = qt (n - n / 2) (tlOf (sndB n b) c)) (hn : n % 2 = 0) : g ++ f = tx := by
  apply cl_inj
  rw [cl_append, hf, hg, h]
  unfold fstB sndB
  rw [hn]
  have e : tlOf (b && ((0 : Nat) == 1)) c = [] := by simp [tlOf]
  have e2 : tlOf (b && ((0 : Nat) == 0)) c = tlOf b c := by simp
  rw [e, e2]
  unfold qt
  rw [List.append_nil, ← List.append_assoc, List.replicate_append_replicate, show n - n / 2 + n / 2 = n by omega]
theorem glue_odd {tx f g : PySem.Str} {n : Nat} {b : Bool} {c : Nat} (h : cl tx = qt n (tlOf b c)) (hf : cl f = qt (n / 2) (tlOf (fstB n b) c)) (hg : cl g = qt (n - n / 2) (tlOf (sndB n b) c)) (hn : n % 2 = 1) : f ++ g = tx := by
  apply cl_inj
  rw [cl_append, hf, hg, h]
  unfold fstB sndB
  rw [hn]
  have e : tlOf (b && ((1 : Nat) == 0)) c = [] := by simp [tlOf]
  have e2 : tlOf (b && ((1 : Nat) == 1)) c = tlOf b c := by simp
  rw [e, e2]
  unfold qt
  rw [List.append_nil, ← List.append_assoc, List.replicate_append_replicate, show n / 2 + (n - n / 2) = n by omega]
theorem part_lev {tx f : PySem.Str} {n m : Nat} {b b' : Bool} {c : Nat} (h : cl tx = qt n (tlOf b c)) (hf : cl f = qt m (tlOf b' c)) (hm : m ≤ n) (hb : b' = b ∨ b' = false) (mx : Int) : levF (cl tx) (cl f) mx = 2 * ((tx.length : Int) - f.length) := by
  rw [cl_len, cl_len, h, hf]
  rcases hb with rfl | rfl
  · exact (levF_part hm _ mx).1
  · exact (levF_part hm _ mx).2
theorem fstB_or (n : Nat) (b : Bool) : fstB n b = b ∨ fstB n b = false := by unfold fstB; cases (n % 2 == 0) <;> simp
theorem sndB_or (n : Nat) (b : Bool) : sndB n b = b ∨ sndB n b = false := by unfold sndB; cases (n % 2 == 1) <;> simp
/-! the leaf -/
theorem mul_ampY : ∀ d < 6, cl (Txt.mul (PySem.Str.ofString "amp;") ((d : Nat) : Int)) = ys d := by decide +kernel
theorem litAnd : cl (PySem.Str.ofString "&") = [38] := by decide +kernel
theorem due_head {d : Nat} (hd : d ≤ 4) : cl (PySem.Str.ofString "&" ++ Txt.mul (PySem.Str.ofString "amp;") ((d : Int) + 1)) = amp (d + 1) := by
  have := mul_ampY (d + 1) (by omega)
  rw [cl_append, litAnd, show ((d : Int) + 1) = ((d + 1 : Nat) : Int) by omega, this]; rfl
theorem due_one {p s d : Nat} (hp : p < 5) (hd : d ≤ 4) (hr : ref p s = [s]) {px : PySem.Str} (h : cl px = pg p s d) : (px != PySem.Str.ofString "&" ++ Txt.mul (PySem.Str.ofString "amp;") ((d : Int) + 1) ++ (⟨#[s]⟩ : PySem.Str)) = false := by
  rw [bne_cl, cl_append, due_head hd, h, pg_one hp hr]
  exact decide_eq_false (fun e => e rfl)
theorem due_two {p s d : Nat} (hp : p < 5) (hd : d ≤ 4) (hr : ref p s ≠ [s]) {px : PySem.Str} (h : cl px = pg p s d) : (px != PySem.Str.ofString "&" ++ Txt.mul (PySem.Str.ofString "amp;") ((d : Int) + 1) ++ PySem.Str.ofString "&" ++ Txt.mul (PySem.Str.ofString "amp;") (d : Int) ++ Txt.slice (mkS (ref p s)) (some 1) none) = false := by
  rcases ref_two hp s with h' | ⟨r, h1, h2, _⟩
  · exact absurd h' hr
  rw [bne_cl, cl_append, cl_append, cl_append, due_head hd, litAnd, mul_ampY d (by omega), slice_from _ (by decide) (by rw [cl_mkS, h1]; simp; omega), cl_mkS, h1, h, pg_more hp h1 h2]
  refine decide_eq_false (fun e => e ?_)
  show _ = amp (d + 1) ++ [38] ++ ys d ++ r
  rw [List.append_assoc, List.append_assoc]; rfl
theorem pg_len_le {p s d : Nat} (hp : p < 5) {mk : Int} (h : marksOk p s mk) (hd : d ≤ 4) : (pg p s d).length ≤ 44 := by
  have h1 := pg_len hp h d
  have h0 : (pg p s 0).length ≤ 12 := (page_len p [38, s]).2
  rcases h with ⟨rfl, _⟩ | ⟨rfl, _⟩ <;> omega
theorem once_lev {p s d : Nat} (hp : p < 5) {mk : Int} (h : marksOk p s mk) (hd : d ≤ 4) {on px : PySem.Str} (h1 : cl on = pg p s 0) (h2 : cl px = pg p s d) : levF (cl on) (cl px) (8 * mk * d) = 8 * mk * d := by
  rw [h1, h2, pg_lev hp h hd]
/-- the invariant's arithmetic -/
theorem worth_leaf {wh mk L : Int} {b : Bool} {d : Nat} {its : List (Nat × Bool × Nat)} (h : wh + 8 * mk * worth ((1, b, d) :: its) = L) : wh + 8 * mk * (d : Int) + 8 * mk * worth its = L := by
  rw [← h]
  simp only [worth]
  rw [show lst 1 = 0 from rfl, show (0 : Int) + ((1 : Nat) : Int) * (d : Int) + worth its = (d : Int) + worth its by omega, Int.mul_add]
  omega
theorem worth_node {wh mk L : Int} {n d : Nat} (h2 : 2 ≤ n) (h16 : n ≤ 16) {b b1 b2 : Bool} {its : List (Nat × Bool × Nat)} (h : wh + 8 * mk * worth ((n, b, d) :: its) = L) : wh + 8 * mk * worth ((n / 2, b1, d + 1) :: (n - n / 2, b2, d + 1) :: its) = L := by
  rw [worth_half h2 h16 b1 b2 b, h]
theorem steps_node {n d : Nat} (h2 : 2 ≤ n) {b b1 b2 : Bool} {its : List (Nat × Bool × Nat)} : steps2 ((n / 2, b1, d + 1) :: (n - n / 2, b2, d + 1) :: its) < steps2 ((n, b, d) :: its) := by
  simp only [steps2]; omega
theorem steps_leaf {b : Bool} {d : Nat} {its : List (Nat × Bool × Nat)} : steps2 its < steps2 ((1, b, d) :: its) := by
  simp only [steps2]; omega
theorem quotes_node {n d : Nat} {b b1 b2 : Bool} {its : List (Nat × Bool × Nat)} : quotes ((n / 2, b1, d + 1) :: (n - n / 2, b2, d + 1) :: its) = quotes ((n, b, d) :: its) := by
  simp only [quotes]; omega
end Mine
end
section
open PySem PySem.W PyProof.Rows
set_option Elab.async false
set_option maxRecDepth 100000
namespace Mine
abbrev itO (tx px : PySem.Str) (d : Int) (t1 t2 t3 : Tok) : Obj := { cls := .type "tuple", data := .seq [Value.str tx t1, Value.str px t2, Value.int d t3].toArray }
inductive Pile (p s c : Nat) : List (Nat × Bool × Nat) → List (Addr × Obj) → Prop
  | nil : Pile p s c [] []
  | cons {a : Addr} {tx px : PySem.Str} {t1 t2 t3 : Tok} {n : Nat} {b : Bool} {d : Nat} {its : List (Nat × Bool × Nat)} {led : List (Addr × Obj)} : cl tx = qt n (tlOf b c) → cl px = pg p s d → 1 ≤ n → n ≤ 2 ^ (4 - d) → d ≤ 4 → Pile p s c its led → Pile p s c ((n, b, d) :: its) ((a, itO tx px d t1 t2 t3) :: led)
noncomputable def refsOf (led : List (Addr × Obj)) : List Value := (led.map fun q => Value.ref q.1).reverse
theorem refsOf_cons (a : Addr) (o : Obj) (led : List (Addr × Obj)) : refsOf ((a, o) :: led) = refsOf led ++ [Value.ref a] := by simp [refsOf]
theorem refsOf_len (led : List (Addr × Obj)) : (refsOf led).length = led.length := by simp [refsOf]
theorem pile_len {p s c : Nat} {its : List (Nat × Bool × Nat)} {led : List (Addr × Obj)} (h : Pile p s c its led) : led.length ≤ quotes its := by
  induction h with
  | nil => exact Nat.le_refl _
  | cons _ _ h1 _ _ _ ih => simp only [quotes, List.length_cons]; omega
section
variable {prog : Program} {w : World} {A : Around} {E : Value → Shared → Prop} {s : Shared} {Q : Value → Shared → Prop} {h₀ : Heap} {L D B : Addr} {m : PySem.Str → Option Value} {news news' : List (Addr × Obj)} {us : List Value} {n k : Nat} {y : Value}
theorem ne_led (N : News h₀ L s.heap news) (ma : (D, W.listOf us.toArray n) ∈ news) (mb : (B, W.listOf #[] k) ∈ news) (hu : A.units + 64 < cLine) (h : Q (.bool (decide (us ≠ []))) s) : wpAny (model prog w) A (compareOp .NotEq (.ref D) (.ref B)) Q E s := by
  have hl : s.heap.IsList D us.toArray := ⟨_, (N _ ma).1, rfl, n, rfl⟩
  have hb : s.heap.IsList B #[] := ⟨_, (N _ mb).1, rfl, k, rfl⟩
  cases us with
  | nil =>
    refine PySem.EqBoolInt.of_rcne (SeqAt.RcNeAt.lists (e := fun _ => true) hl hb rfl (Nat.lt_of_le_of_lt (Nat.le_add_right _ _) hu) fun j h1 _ => absurd h1 (Nat.not_lt_zero _)) ?_
    exact h
  | cons x us =>
    refine PySem.EqBoolInt.of_rcne (SeqAt.RcNeAt.lists_lengths hl hb (by simp) (Nat.lt_of_le_of_lt (Nat.le_add_right _ _) hu)) ?_
    exact h
theorem pop_led {pre post : List (Addr × Obj)} (F : Fr h₀ L s.heap m) (N : News h₀ L s.heap (pre ++ (D, W.listOf (us ++ [y]).toArray n) :: post)) (a : ∀ p ∈ pre, p.1 ≠ D) (b : ∀ p ∈ post, p.1 ≠ D) (hz : us.length ≤ 1000)
    (h : ∀ h', Fr h₀ L h' m → News h₀ L h' (pre ++ (D, W.listOf us.toArray (n + 1)) :: post) → Q y { s with heap := h' }) : wpAny (model prog w) A (call (.builtin "list.pop") [.ref D]) Q E s := by
  have hz' : (us ++ [y]).toArray.size ≤ sizeLine := by rw [List.size_toArray, List.length_append, sizeLine_eq]; simp only [List.length_cons, List.length_nil]; omega
  have hk : (us ++ [y]).toArray.size - 1 = us.length := by rw [List.size_toArray, List.length_append]; rfl
  have hy : (us ++ [y]).toArray[(us ++ [y]).toArray.size - 1]? = some y := by rw [hk]; simp
  have z := N (D, W.listOf (us ++ [y]).toArray n) (List.mem_append.mpr (.inr (.head _)))
  refine PySem.call_meets PySem.F.slot_list_pop ⟨_, z.1, rfl⟩ PySem.F.entry_list_pop (PySem.F.args_list_pop_1 _) (PySem.MeetsSeq.list_pop_last D _ n y hy hz') ⟨z.1, h _ (F.change (Heap.SameBut.update ..) z.2.1 z.2.2) (kl_turn _ N a b ?_ ?_)⟩
  · show (us ++ [y]).toArray.eraseIdxIfInBounds ((us ++ [y]).toArray.size - 1) = us.toArray
    rw [hk, kl_erase, List.append_nil]
  · rw [List.size_toArray, List.size_toArray, List.length_append]
    simp
end
end Mine
end
section
open PySem PySem.W PyProof.Rows
set_option maxHeartbeats 8000000
open_top hd2 for PySem.Challenge.rw_wn0093_02
end
section
open PySem PySem.W PyProof.Rows
set_option Elab.async false
set_option maxRecDepth 100000
namespace Mine
noncomputable abbrev prg : Program := PySem.Challenge.rw_wn0093_02.row.prog
noncomputable abbrev vw : Program := hd2.view_39
noncomputable def Ctr (k : Nat) (w : World) (mean : ExcName → Option Value) (mg mb : Str → Option Value) (f : Addr) (pre : Prop) (vs : List Value) (R : Tok → Value) : Prop :=
  ∀ (news : List (Addr × Obj)) (dp un : Nat) (gd : Option (List Code)) (cn : Str) (cs : Scope) (a : Addr) (ccd : Value) (cl : List (Str × Addr)) (outer : List Env) (A₀ : Around) (base h₀ : Heap) (L : Addr) (m : Str → Option Value) (s : Shared) (Q E : Value → Shared → Prop),
    Below A₀ base outer h₀ → Fr h₀ L s.heap m → (hd2.heap_39 w.params).In h₀ → News h₀ L s.heap news → Top vw (looseW vw []) mean mg mb h₀ → cs.kind = .function →
    pre → dp + k < recursionLimit → un + 8 * k < cLine →
    (∀ (t : Tok) (h' : Heap) (tk' : Nat), Fr h₀ L h' m → News h₀ L h' news → Q (R t) { s with heap := h', toks := tk' }) →
      wpAny (model prg w) (ktrTop dp un gd cn cs L a ccd cl outer) (PySem.call (.ref f) vs) Q E s
theorem Ctr.use {k : Nat} {w : World} {mean : ExcName → Option Value} {mg mb : Str → Option Value} {f : Addr} {pre : Prop} {vs : List Value} {R : Tok → Value} (C : Ctr k w mean mg mb f pre vs R)
    {news : List (Addr × Obj)} {dp un : Nat} {gd : Option (List Code)} {cn : Str} {cs : Scope} {a : Addr} {ccd : Value} {cl : List (Str × Addr)} {outer : List Env} {A₀ : Around} {base h₀ : Heap} {L : Addr} {m : Str → Option Value} {s : Shared} {Q E : Value → Shared → Prop}
    (B : Below A₀ base outer h₀) (F : Fr h₀ L s.heap m) (X : (hd2.heap_39 w.params).In h₀) (N : News h₀ L s.heap news) (T : Top vw (looseW vw []) mean mg mb h₀) (hk : cs.kind = .function)
    (hp : pre) (hd : dp + k < recursionLimit) (hu : un + 8 * k < cLine)
    (ret : ∀ (t : Tok) (h' : Heap) (tk' : Nat), Fr h₀ L h' m → News h₀ L h' news → Q (R t) { s with heap := h', toks := tk' }) :
    wpAny (model prg w) (ktrTop dp un gd cn cs L a ccd cl outer) (PySem.call (.ref f) vs) Q E s := C _ _ _ _ _ _ _ _ _ _ _ _ _ _ _ _ _ _ B F X N T hk hp hd hu ret
set_option maxHeartbeats 8000000 in
theorem parse257_ctr (w : World) (mean : ExcName → Option Value) (mg mb : Str → Option Value) (y : Str) (t : Tok) :
    Ctr 1 w mean mg mb 46 (y.length ≤ 100000) [.str (PySem.Str.ofString "257 \"" ++ y) t] (fun t => .str (toldS y) t) := by
  delta Ctr prg vw
  k_fill
  intros
  rename_i hpre _ _ hret
  have hlen : (PySem.Str.ofString "257 \"" ++ y).length = 5 + y.length := by rw [cl_len, cl_append, lit257, cl_len]; simp; omega
  generalize hx : PySem.Str.ofString "257 \"" ++ y = x at *
  k_with "exec While Compare cons nil" => k_while (fun script i d => 5 ≤ i ∧ i ≤ (x.length : Int) ∧ (d.length : Int) ≤ i ∧ cl d ++ told ((cl x).drop i.toNat) = told (cl y)) (fun script i d => x.length - i.toNat) "i" "dirname"
  k_with "state" => first
    | (with_reducible (subst hx; exact p257_start))
    | with_reducible exact p257_quote ⟨by assumption, by assumption, by assumption, by assumption⟩ (by assumption) (by assumption) (by assumption) (by assumption)
    | with_reducible exact p257_plain ⟨by assumption, by assumption, by assumption, by assumption⟩ (by assumption) (by assumption)
  refine wpAny_call ?_
  k_dflt cell_enter
  k_steps
  k_with_none
  all_goals first
    | (exfalso; subst hx; with_reducible exact p257_a (y := y) (by assumption))
    | (exfalso; subst hx; with_reducible exact p257_b (y := y) (by assumption))
    | (refine' cb_retS hret ?e1 ?e2 ?e3; (case e2 => with_reducible assumption); (case e3 => with_reducible assumption); (case e1 => first
      | with_reducible exact p257_end ⟨by assumption, by assumption, by assumption, by assumption⟩ (by assumption)
      | with_reducible exact p257_stop1 ⟨by assumption, by assumption, by assumption, by assumption⟩ (by assumption) (by assumption) (by assumption)
      | with_reducible exact p257_stop2 ⟨by assumption, by assumption, by assumption, by assumption⟩ (by assumption) (by assumption) (by assumption) (by assumption)))
set_option maxHeartbeats 8000000 in
theorem escape_cdata_ctr (w : World) (mean : ExcName → Option Value) (mg mb : Str → Option Value) (x : Str) (t : Tok) :
    Ctr 1 w mean mg mb 74 (x.length ≤ 100000) [.str x t] (fun t => .str (pageS 0 x) t) := by
  delta Ctr prg vw
  k_fill
  intros
  rename_i hpre _ _ hret
  obtain ⟨h0, h1, h2, hE⟩ := esc0 hpre
  refine wpAny_call ?_
  k_dflt cell_enter
  repeat' ((first | ((with_reducible show wpAny _ _ (PySem.exec (PySem.Stmt.If (PySem.Expr.Compare _ _ _ _) _ [] _) _) _ _ _); apply if_repl; (with_reducible assumption); (with_reducible assumption); exact rfl; decide +kernel; decide +kernel; (with_reducible assumption); decide +kernel; intro t' h' tk' F' N'; (try dsimp only)) | (k_unfold; (try dsimp only)) | (k_end; wrow_close) | walk1 | (dsimp only; walk1) | (leave1; walk_say "STEP leave1"; try dsimp only) | fail "no step"))
  refine' cb_retS hret ?e1 ?e2 ?e3; (case e2 => with_reducible assumption); (case e3 => with_reducible assumption); (case e1 => exact hE)
set_option maxHeartbeats 8000000 in
theorem escape_attrib_ctr (w : World) (mean : ExcName → Option Value) (mg mb : Str → Option Value) (x : Str) (t : Tok) :
    Ctr 1 w mean mg mb 81 (x.length ≤ 100000) [.str x t] (fun t => .str (pageS 1 x) t) := by
  delta Ctr prg vw
  k_fill
  intros
  rename_i hpre _ _ hret
  obtain ⟨h0, h1, h2, h3, h4, h5, h6, hE⟩ := esc1 hpre
  refine wpAny_call ?_
  k_dflt cell_enter
  repeat' ((first | ((with_reducible show wpAny _ _ (PySem.exec (PySem.Stmt.If (PySem.Expr.Compare _ _ _ _) _ [] _) _) _ _ _); apply if_repl; (with_reducible assumption); (with_reducible assumption); exact rfl; decide +kernel; decide +kernel; (with_reducible assumption); decide +kernel; intro t' h' tk' F' N'; (try dsimp only)) | (k_unfold; (try dsimp only)) | (k_end; wrow_close) | walk1 | (dsimp only; walk1) | (leave1; walk_say "STEP leave1"; try dsimp only) | fail "no step"))
  refine' cb_retS hret ?e1 ?e2 ?e3; (case e2 => with_reducible assumption); (case e3 => with_reducible assumption); (case e1 => exact hE)
set_option maxHeartbeats 8000000 in
theorem escape_attrib_html_ctr (w : World) (mean : ExcName → Option Value) (mg mb : Str → Option Value) (x : Str) (t : Tok) :
    Ctr 1 w mean mg mb 88 (x.length ≤ 100000) [.str x t] (fun t => .str (pageS 2 x) t) := by
  delta Ctr prg vw
  k_fill
  intros
  rename_i hpre _ _ hret
  obtain ⟨h0, h1, h2, hE⟩ := esc2 hpre
  refine wpAny_call ?_
  k_dflt cell_enter
  repeat' ((first | ((with_reducible show wpAny _ _ (PySem.exec (PySem.Stmt.If (PySem.Expr.Compare _ _ _ _) _ [] _) _) _ _ _); apply if_repl; (with_reducible assumption); (with_reducible assumption); exact rfl; decide +kernel; decide +kernel; (with_reducible assumption); decide +kernel; intro t' h' tk' F' N'; (try dsimp only)) | (k_unfold; (try dsimp only)) | (k_end; wrow_close) | walk1 | (dsimp only; walk1) | (leave1; walk_say "STEP leave1"; try dsimp only) | fail "no step"))
  refine' cb_retS hret ?e1 ?e2 ?e3; (case e2 => with_reducible assumption); (case e3 => with_reducible assumption); (case e1 => exact hE)
set_option maxHeartbeats 8000000 in
theorem escape_cdata_c14n_ctr (w : World) (mean : ExcName → Option Value) (mg mb : Str → Option Value) (x : Str) (t : Tok) :
    Ctr 1 w mean mg mb 95 (x.length ≤ 100000) [.str x t] (fun t => .str (pageS 3 x) t) := by
  delta Ctr prg vw
  k_fill
  intros
  rename_i hpre _ _ hret
  obtain ⟨h0, h1, h2, h3, hE⟩ := esc3 hpre
  refine wpAny_call ?_
  k_dflt cell_enter
  repeat' ((first | ((with_reducible show wpAny _ _ (PySem.exec (PySem.Stmt.If (PySem.Expr.Compare _ _ _ _) _ [] _) _) _ _ _); apply if_repl; (with_reducible assumption); (with_reducible assumption); exact rfl; decide +kernel; decide +kernel; (with_reducible assumption); decide +kernel; intro t' h' tk' F' N'; (try dsimp only)) | (k_unfold; (try dsimp only)) | (k_end; wrow_close) | walk1 | (dsimp only; walk1) | (leave1; walk_say "STEP leave1"; try dsimp only) | fail "no step"))
  refine' cb_retS hret ?e1 ?e2 ?e3; (case e2 => with_reducible assumption); (case e3 => with_reducible assumption); (case e1 => exact hE)
set_option maxHeartbeats 8000000 in
theorem escape_attrib_c14n_ctr (w : World) (mean : ExcName → Option Value) (mg mb : Str → Option Value) (x : Str) (t : Tok) :
    Ctr 1 w mean mg mb 102 (x.length ≤ 100000) [.str x t] (fun t => .str (pageS 4 x) t) := by
  delta Ctr prg vw
  k_fill
  intros
  rename_i hpre _ _ hret
  obtain ⟨h0, h1, h2, h3, h4, h5, hE⟩ := esc4 hpre
  refine wpAny_call ?_
  k_dflt cell_enter
  repeat' ((first | ((with_reducible show wpAny _ _ (PySem.exec (PySem.Stmt.If (PySem.Expr.Compare _ _ _ _) _ [] _) _) _ _ _); apply if_repl; (with_reducible assumption); (with_reducible assumption); exact rfl; decide +kernel; decide +kernel; (with_reducible assumption); decide +kernel; intro t' h' tk' F' N'; (try dsimp only)) | (k_unfold; (try dsimp only)) | (k_end; wrow_close) | walk1 | (dsimp only; walk1) | (leave1; walk_say "STEP leave1"; try dsimp only) | fail "no step"))
  refine' cb_retS hret ?e1 ?e2 ?e3; (case e2 => with_reducible assumption); (case e3 => with_reducible assumption); (case e1 => exact hE)
set_option maxHeartbeats 8000000 in
theorem law_write_ctr (w : World) (mean : ExcName → Option Value) (mg mb : Str → Option Value) (p : Int) (u : Tok) (x : Str) (t : Tok) :
    Ctr 2 w mean mg mb 116 (0 ≤ p ∧ p < 5 ∧ x.length ≤ 100000) [.int p u, .str x t] (fun t => .str (pageS p.toNat x) t) := by
  delta Ctr prg vw
  k_fill
  intros
  rename_i hpre _ _ hret
  obtain ⟨hp0, hp5, hx⟩ := hpre
  refine wpAny_call ?_
  k_dflt cell_enter
  repeat' ((first | ((with_reducible show wpAny _ _ (PySem.call (Value.ref _) _) _ _ _); k_here; k_dflt ((first | apply Ctr.use (escape_cdata_ctr _ _ _ _ _ _) | apply Ctr.use (escape_attrib_ctr _ _ _ _ _ _) | apply Ctr.use (escape_attrib_html_ctr _ _ _ _ _ _) | apply Ctr.use (escape_cdata_c14n_ctr _ _ _ _ _ _) | apply Ctr.use (escape_attrib_c14n_ctr _ _ _ _ _ _)); k_asm; k_asm; k_asm; k_asm; k_asm; (first | exact rfl | assumption); (assumption); ktr_room; ktr_units); intro _ _ _ _ _; (try dsimp only); (try k_fold)) | (k_unfold; (try dsimp only)) | (k_end; wrow_close) | walk1 | (dsimp only; walk1) | (leave1; walk_say "STEP leave1"; try dsimp only) | fail "no step"))
  all_goals (refine' cb_retS hret ?e1 ?e2 ?e3; (case e2 => with_reducible assumption); (case e3 => with_reducible assumption); (case e1 => (congr 1; omega)))
set_option maxHeartbeats 8000000 in
theorem subst_cost_ctr (w : World) (mean : ExcName → Option Value) (mg mb : Str → Option Value) (x y : Str) (t u : Tok) :
    Ctr 1 w mean mg mb 53 (x.length = 1 ∧ y.length = 1) [.str x t, .str y u] (fun t => .int (scS x y) t) := by
  delta Ctr prg vw
  k_fill
  intros
  rename_i hpre _ _ hret
  obtain ⟨hx1, hy1⟩ := hpre
  refine wpAny_call ?_
  k_dflt cell_enter
  k_steps
  all_goals (refine' cb_retI hret ?e1 ?e2 ?e3; (case e2 => with_reducible assumption); (case e3 => with_reducible assumption); (case e1 => (unfold scS; simp [*])))
theorem meas_up {n : Nat} {p : Int} (h0 : 0 ≤ p) (h : p < (n : Int)) : n - (p + 1).toNat < n - p.toNat := by omega
theorem meas_dn {n : Nat} {q : Int} (h0 : q ≤ 0) (h : -q < (n : Int)) : n - (-(q - 1)).toNat < n - (-q).toNat := by omega
local macro_rules | `(tactic| kst_in) => `(tactic| ((try dsimp only); first | with_reducible exact led_in1 | with_reducible exact led_in0))
set_option maxHeartbeats 8000000 in
theorem lev_ctr (w : World) (mean : ExcName → Option Value) (mg mb : Str → Option Value) (a b : Str) (mx : Int) (t u v : Tok) :
    Ctr 2 w mean mg mb 60 (a.length ≤ 100000 ∧ b.length ≤ 100000) [.str a t, .str b u, .int mx v] (fun t => .int (levF (cl a) (cl b) mx) t) := by
  delta Ctr prg vw
  k_fill
  intro news dp un gd cn cs ad ccd cls outer A₀ base h₀ L m s Q E B₀ F₀ X₀ N₀ T₀ hk hpre hd hu hret
  obtain ⟨ha, hb⟩ := hpre
  refine wpAny_call ?_
  k_dflt cell_enter
  rename_i g L₁ h₁ FG F1 N1 B1 X1 T1
  repeat' ((fail_if_success (with_reducible show wpAny _ _ (PySem.exec (PySem.Stmt.While _ _ _ _) _) _ _ _)); (first | ((with_reducible show wpAny _ _ (PySem.call (Value.ref _) _) _ _ _); k_here; k_dflt ((first | apply Ctr.use (subst_cost_ctr _ _ _ _ _ _ _ _)); k_asm; k_asm; k_asm; k_asm; k_asm; (first | exact rfl | assumption); (exact ⟨by omega, by omega⟩); ktr_room; ktr_units); intro _ _ _ _ _; (try dsimp only); (try k_fold)) | ((with_reducible show wpAny _ _ (PySem.eval (PySem.Expr.Subscript (PySem.Expr.Name _ _) (PySem.Expr.Slice none (some (PySem.Expr.BoolOp BoolOp.Or [PySem.Expr.Name _ _, PySem.Expr.Constant Const.none _ _] _)) none _) _) _) _ _ _); k_dflt (apply cut_expr; (with_reducible assumption); (with_reducible assumption); exact rfl; exact rfl; omega; omega; omega); intro t' h' tk' F' N' hcut; (try dsimp only)) | (k_unfold; (try dsimp only)) | (k_end; wrow_close) | walk1 | (dsimp only; walk1) | (leave1; walk_say "STEP leave1"; try dsimp only) | fail "no step"))
  · refine' cb_retI hret ?e1 ?e2 ?e3; (case e2 => with_reducible assumption); (case e3 => with_reducible assumption); (case e1 => exact levF_same (by assumption))
  have hne : (a == b) = false := by assumption
  rename Fr _ _ _ _ => F
  rename News _ _ _ _ => N
  obtain ⟨m0, tp, Fn⟩ : ∃ (m0 : PySem.Str → Option Value) (tp : Tok), Fr g L₁ _ (kstB m0 [(PySem.Str.ofString "pre", .int 0 tp), (PySem.Str.ofString "a", .str a t), (PySem.Str.ofString "b", .str b u), (PySem.Str.ofString "max_cost", .int mx v)]) := ⟨_, _, fr_norm F (by kst_all)⟩
  clear F
  dsimp only [kstB] at Fn
  refine stmt_join (fun s' => ∃ (p : Int) (tp : Tok) (h : Heap) (tk : Nat) (m1 : Str → Option Value), s' = { s with heap := h, toks := tk } ∧ 0 ≤ p ∧ p ≤ a.length ∧ p ≤ b.length ∧ dropPre (cl a) (cl b) = ((cl a).drop p.toNat, (cl b).drop p.toNat) ∧ Fr g L₁ h (kstB m1 [(PySem.Str.ofString "pre", .int p tp), (PySem.Str.ofString "a", .str a t), (PySem.Str.ofString "b", .str b u), (PySem.Str.ofString "max_cost", .int mx v)]) ∧ News g L₁ h news) ?_ ?_
  · k_with "measure" => with_reducible exact meas_up (by assumption) (by omega)
    k_with "state" => first
      | with_reducible exact lpre_start _ _
      | with_reducible exact lpre_turn ⟨by assumption, by assumption, by assumption, by assumption⟩ (by omega) (by omega) (by assumption)
    k_while (fun script p => 0 ≤ p ∧ p ≤ (a.length : Int) ∧ p ≤ (b.length : Int) ∧ dropPre (cl a) (cl b) = dropPre ((cl a).drop p.toNat) ((cl b).drop p.toNat)) (fun script p => a.length - p.toNat) "pre"
    repeat' ((first | ((with_reducible show wpAny _ _ (PySem.call (Value.ref _) _) _ _ _); k_here; k_dflt ((first | apply Ctr.use (subst_cost_ctr _ _ _ _ _ _ _ _)); k_asm; k_asm; k_asm; k_asm; k_asm; (first | exact rfl | assumption); (exact ⟨by omega, by omega⟩); ktr_room; ktr_units); intro _ _ _ _ _; (try dsimp only); (try k_fold)) | ((with_reducible show wpAny _ _ (PySem.eval (PySem.Expr.Subscript (PySem.Expr.Name _ _) (PySem.Expr.Slice none (some (PySem.Expr.BoolOp BoolOp.Or [PySem.Expr.Name _ _, PySem.Expr.Constant Const.none _ _] _)) none _) _) _) _ _ _); k_dflt (apply cut_expr; (with_reducible assumption); (with_reducible assumption); exact rfl; exact rfl; omega; omega; omega); intro t' h' tk' F' N' hcut; (try dsimp only)) | (k_unfold; (try dsimp only)) | (k_end; wrow_close) | walk1 | (dsimp only; walk1) | (leave1; walk_say "STEP leave1"; try dsimp only) | fail "no step"))
    k_with_none
    all_goals (refine JoinEnd.intro ⟨_, _, _, _, _, rfl, by with_reducible assumption, by with_reducible assumption, by with_reducible assumption, ?_, fr_norm (by with_reducible assumption) (by kst_all), by with_reducible assumption⟩)
    all_goals first
      | with_reducible exact lpre_end1 ⟨by assumption, by assumption, by assumption, by assumption⟩ (by omega)
      | with_reducible exact lpre_end2 ⟨by assumption, by assumption, by assumption, by assumption⟩ (by omega)
      | with_reducible exact lpre_end3 ⟨by assumption, by assumption, by assumption, by assumption⟩ (by omega) (by omega) (by assumption)
  clear Fn N m0
  rintro s' ⟨p, tp2, h2, tk2, m0, rfl, hp0, hp1, hp2, hpre, F2, N2⟩
  dsimp only [kstB] at F2
  dsimp only
  repeat' ((fail_if_success (with_reducible show wpAny _ _ (PySem.exec (PySem.Stmt.While _ _ _ _) _) _ _ _)); (first | ((with_reducible show wpAny _ _ (PySem.call (Value.ref _) _) _ _ _); k_here; k_dflt ((first | apply Ctr.use (subst_cost_ctr _ _ _ _ _ _ _ _)); k_asm; k_asm; k_asm; k_asm; k_asm; (first | exact rfl | assumption); (exact ⟨by omega, by omega⟩); ktr_room; ktr_units); intro _ _ _ _ _; (try dsimp only); (try k_fold)) | ((with_reducible show wpAny _ _ (PySem.eval (PySem.Expr.Subscript (PySem.Expr.Name _ _) (PySem.Expr.Slice none (some (PySem.Expr.BoolOp BoolOp.Or [PySem.Expr.Name _ _, PySem.Expr.Constant Const.none _ _] _)) none _) _) _) _ _ _); k_dflt (apply cut_expr; (with_reducible assumption); (with_reducible assumption); exact rfl; exact rfl; omega; omega; omega); intro t' h' tk' F' N' hcut; (try dsimp only)) | (k_unfold; (try dsimp only)) | (k_end; wrow_close) | walk1 | (dsimp only; walk1) | (leave1; walk_say "STEP leave1"; try dsimp only) | fail "no step"))
  rename Fr _ _ _ _ => F
  rename News _ _ _ _ => N
  obtain ⟨m0, tq, a1, b1, ta, tb, ha1, hb1, hla, hlb, Fn⟩ : ∃ (m0 : PySem.Str → Option Value) (tq : Tok) (a1 : PySem.Str) (b1 : PySem.Str) (ta : Tok) (tb : Tok), cl a1 = (dropPre (cl a) (cl b)).1 ∧ cl b1 = (dropPre (cl a) (cl b)).2 ∧ a1.length ≤ a.length ∧ b1.length ≤ b.length ∧ Fr g L₁ _ (kstB m0 [(PySem.Str.ofString "post", .int 0 tq), (PySem.Str.ofString "a", .str a1 ta), (PySem.Str.ofString "b", .str b1 tb), (PySem.Str.ofString "max_cost", .int mx v)]) := ⟨_, _, _, _, _, _, by rw [hpre]; exact slice_from a hp0 (by rw [← cl_len]; exact hp1), by rw [hpre]; exact slice_from b hp0 (by rw [← cl_len]; exact hp2), by assumption, by assumption, fr_norm F (by kst_all)⟩
  clear F
  dsimp only [kstB] at Fn
  clear hp0 hp1 hp2 hpre
  refine stmt_join (fun s' => ∃ (q : Int) (tq : Tok) (h : Heap) (tk : Nat) (m1 : Str → Option Value), s' = { s with heap := h, toks := tk } ∧ q ≤ 0 ∧ -q ≤ (a1.length : Int) ∧ -q ≤ (b1.length : Int) ∧ dropSuf (cl a1) (cl b1) = (cl (cut a1 q), cl (cut b1 q)) ∧ Fr g L₁ h (kstB m1 [(PySem.Str.ofString "post", .int q tq), (PySem.Str.ofString "a", .str a1 ta), (PySem.Str.ofString "b", .str b1 tb), (PySem.Str.ofString "max_cost", .int mx v)]) ∧ News g L₁ h news) ?_ ?_
  · k_with "measure" => with_reducible exact meas_dn (by assumption) (by omega)
    k_with "state" => first
      | with_reducible exact lsuf_start _ _
      | with_reducible exact lsuf_turn ⟨by assumption, by assumption, by assumption, by assumption⟩ (by omega) (by omega) (by assumption)
    k_while (fun script q => q ≤ 0 ∧ -q ≤ (a1.length : Int) ∧ -q ≤ (b1.length : Int) ∧ dropSuf (cl a1) (cl b1) = dropSuf (cl (cut a1 q)) (cl (cut b1 q))) (fun script q => a1.length - (-q).toNat) "post"
    repeat' ((first | ((with_reducible show wpAny _ _ (PySem.call (Value.ref _) _) _ _ _); k_here; k_dflt ((first | apply Ctr.use (subst_cost_ctr _ _ _ _ _ _ _ _)); k_asm; k_asm; k_asm; k_asm; k_asm; (first | exact rfl | assumption); (exact ⟨by omega, by omega⟩); ktr_room; ktr_units); intro _ _ _ _ _; (try dsimp only); (try k_fold)) | ((with_reducible show wpAny _ _ (PySem.eval (PySem.Expr.Subscript (PySem.Expr.Name _ _) (PySem.Expr.Slice none (some (PySem.Expr.BoolOp BoolOp.Or [PySem.Expr.Name _ _, PySem.Expr.Constant Const.none _ _] _)) none _) _) _) _ _ _); k_dflt (apply cut_expr; (with_reducible assumption); (with_reducible assumption); exact rfl; exact rfl; omega; omega; omega); intro t' h' tk' F' N' hcut; (try dsimp only)) | (k_unfold; (try dsimp only)) | (k_end; wrow_close) | walk1 | (dsimp only; walk1) | (leave1; walk_say "STEP leave1"; try dsimp only) | fail "no step"))
    k_with_none
    all_goals (refine JoinEnd.intro ⟨_, _, _, _, _, rfl, by with_reducible assumption, by with_reducible assumption, by with_reducible assumption, ?_, fr_norm (by with_reducible assumption) (by kst_all), by with_reducible assumption⟩)
    all_goals first
      | with_reducible exact lsuf_end1 ⟨by assumption, by assumption, by assumption, by assumption⟩ (by omega)
      | with_reducible exact lsuf_end2 ⟨by assumption, by assumption, by assumption, by assumption⟩ (by omega)
      | with_reducible exact lsuf_end3 ⟨by assumption, by assumption, by assumption, by assumption⟩ (by omega) (by omega) (by assumption)
  clear Fn N m0
  rintro s' ⟨q, tq2, h3, tk3, m0, rfl, hq0, hq1, hq2, hsuf, F3, N3⟩
  dsimp only [kstB] at F3
  dsimp only
  repeat' ((fail_if_success (with_reducible show wpAny _ _ (PySem.exec (PySem.Stmt.If _ _ _ _) _) _ _ _)); (first | ((with_reducible show wpAny _ _ (PySem.call (Value.ref _) _) _ _ _); k_here; k_dflt ((first | apply Ctr.use (subst_cost_ctr _ _ _ _ _ _ _ _)); k_asm; k_asm; k_asm; k_asm; k_asm; (first | exact rfl | assumption); (exact ⟨by omega, by omega⟩); ktr_room; ktr_units); intro _ _ _ _ _; (try dsimp only); (try k_fold)) | ((with_reducible show wpAny _ _ (PySem.eval (PySem.Expr.Subscript (PySem.Expr.Name _ _) (PySem.Expr.Slice none (some (PySem.Expr.BoolOp BoolOp.Or [PySem.Expr.Name _ _, PySem.Expr.Constant Const.none _ _] _)) none _) _) _) _ _ _); k_dflt (apply cut_expr; (with_reducible assumption); (with_reducible assumption); exact rfl; exact rfl; omega; omega; omega); intro t' h' tk' F' N' hcut; (try dsimp only)) | (k_unfold; (try dsimp only)) | (k_end; wrow_close) | walk1 | (dsimp only; walk1) | (leave1; walk_say "STEP leave1"; try dsimp only) | fail "no step"))

  rename Fr _ _ _ _ => F
  rename News _ _ _ _ => N
  obtain ⟨m0, a2, b2, ta2, tb2, hG, hla2, hlb2, Fn⟩ : ∃ (m0 : PySem.Str → Option Value) (a2 : PySem.Str) (b2 : PySem.Str) (ta2 : Tok) (tb2 : Tok), levF (cl a) (cl b) mx = levG (cl a2) (cl b2) mx ∧ a2.length ≤ 100000 ∧ b2.length ≤ 100000 ∧ Fr g L₁ _ (kstB m0 [(PySem.Str.ofString "a", .str a2 ta2), (PySem.Str.ofString "b", .str b2 tb2), (PySem.Str.ofString "max_cost", .int mx v)]) := ⟨_, _, _, _, _, levF_ne hne ha1 hb1 hsuf, by omega, by omega, fr_norm F (by kst_all)⟩
  clear F
  dsimp only [kstB] at Fn
  rw [hG] at hret
  clear hq0 hq1 hq2 hsuf hG hla hlb ha1 hb1
  (try (rename (PySem.Txt.slice _ _ _).length ≤ _ => hz; clear hz)); (try (rename (PySem.Txt.slice _ _ _).length ≤ _ => hz; clear hz)); (try (rename ((cut _ _).length : Int) = _ => hz; clear hz)); (try (rename ((cut _ _).length : Int) = _ => hz; clear hz)); (try clear ha hb)
  repeat' ((fail_if_success (with_reducible show wpAny _ _ (PySem.exec (PySem.Stmt.If (PySem.Expr.Compare _ _ _ _) _ _ _) _) _ _ _)); (first | ((with_reducible show wpAny _ _ (PySem.call (Value.ref _) _) _ _ _); k_here; k_dflt ((first | apply Ctr.use (subst_cost_ctr _ _ _ _ _ _ _ _)); k_asm; k_asm; k_asm; k_asm; k_asm; (first | exact rfl | assumption); (exact ⟨by omega, by omega⟩); ktr_room; ktr_units); intro _ _ _ _ _; (try dsimp only); (try k_fold)) | ((with_reducible show wpAny _ _ (PySem.eval (PySem.Expr.Subscript (PySem.Expr.Name _ _) (PySem.Expr.Slice none (some (PySem.Expr.BoolOp BoolOp.Or [PySem.Expr.Name _ _, PySem.Expr.Constant Const.none _ _] _)) none _) _) _) _ _ _); k_dflt (apply cut_expr; (with_reducible assumption); (with_reducible assumption); exact rfl; exact rfl; omega; omega; omega); intro t' h' tk' F' N' hcut; (try dsimp only)) | (k_unfold; (try dsimp only)) | (k_end; wrow_close) | walk1 | (dsimp only; walk1) | (leave1; walk_say "STEP leave1"; try dsimp only) | fail "no step"))
  all_goals try (refine' cb_retI hret ?e1 ?e2 ?e3; (case e2 => with_reducible assumption); (case e3 => with_reducible assumption); (case e1 => first | ((rw [levG_nil (by omega)]) <;> omega) | exact (levG_nil (by omega)).symm | rw [levG_long (by omega) (by omega) (by omega)]))
  refine stmt_join (fun s' => ∃ (x y : Str) (tx ty : Tok) (h : Heap) (tk : Nat) (m1 : Str → Option Value), s' = { s with heap := h, toks := tk } ∧ levG (cl a2) (cl b2) mx = levH (cl x) (cl y) mx ∧ 1 ≤ x.length ∧ x.length ≤ y.length ∧ y.length ≤ 40 ∧ Fr g L₁ h (kstB m1 [(PySem.Str.ofString "a", .str x tx), (PySem.Str.ofString "b", .str y ty), (PySem.Str.ofString "max_cost", .int mx v)]) ∧ News g L₁ h news) ?_ ?_
  · repeat' ((first | ((with_reducible show wpAny _ _ (PySem.call (Value.ref _) _) _ _ _); k_here; k_dflt ((first | apply Ctr.use (subst_cost_ctr _ _ _ _ _ _ _ _)); k_asm; k_asm; k_asm; k_asm; k_asm; (first | exact rfl | assumption); (exact ⟨by omega, by omega⟩); ktr_room; ktr_units); intro _ _ _ _ _; (try dsimp only); (try k_fold)) | ((with_reducible show wpAny _ _ (PySem.eval (PySem.Expr.Subscript (PySem.Expr.Name _ _) (PySem.Expr.Slice none (some (PySem.Expr.BoolOp BoolOp.Or [PySem.Expr.Name _ _, PySem.Expr.Constant Const.none _ _] _)) none _) _) _) _ _ _); k_dflt (apply cut_expr; (with_reducible assumption); (with_reducible assumption); exact rfl; exact rfl; omega; omega; omega); intro t' h' tk' F' N' hcut; (try dsimp only)) | (k_unfold; (try dsimp only)) | (k_end; wrow_close) | walk1 | (dsimp only; walk1) | (leave1; walk_say "STEP leave1"; try dsimp only) | fail "no step"))
    · refine JoinEnd.intro ⟨_, _, _, _, _, _, _, rfl, levG_swap (by omega) (by omega) (by omega) (by omega) (by omega), by omega, by omega, by omega, fr_norm (by with_reducible assumption) (by kst_all), cb_drop (by with_reducible assumption) (fun p hp => List.mem_cons_of_mem _ hp)⟩
    · refine JoinEnd.intro ⟨_, _, _, _, _, _, _, rfl, levG_stay (by omega) (by omega) (by omega) (by omega) (by omega), by omega, by omega, by omega, fr_norm (by with_reducible assumption) (by kst_all), by with_reducible assumption⟩
  clear Fn N m0
  rintro s' ⟨x, y, tx, ty, h4, tk4, m0, rfl, hH, hx1, hxy, hy40, F4, N4⟩
  rw [hH] at hret
  (try (rename (PySem.Str.length _ : Int) ≠ 0 => hz; clear hz)); (try (rename (PySem.Str.length _ : Int) ≠ 0 => hz; clear hz)); (try (rename ¬ (40 : Int) < _ => hz; clear hz)); (try (rename ¬ (40 : Int) < _ => hz; clear hz)); (try clear hla2 hlb2 hH)
  dsimp only [kstB] at F4
  dsimp only
  repeat' ((fail_if_success (with_reducible show wpAny _ _ (PySem.call (Value.type "list") _) _ _ _)); (fail_if_success (with_reducible show wpAny _ _ (PySem.pyIter _) _ _ _)); (first | ((with_reducible show wpAny _ _ (PySem.call (Value.ref _) _) _ _ _); k_here; k_dflt ((first | apply Ctr.use (subst_cost_ctr _ _ _ _ _ _ _ _)); k_asm; k_asm; k_asm; k_asm; k_asm; (first | exact rfl | assumption); (exact ⟨by omega, by omega⟩); ktr_room; ktr_units); intro _ _ _ _ _; (try dsimp only); (try k_fold)) | ((with_reducible show wpAny _ _ (PySem.eval (PySem.Expr.Subscript (PySem.Expr.Name _ _) (PySem.Expr.Slice none (some (PySem.Expr.BoolOp BoolOp.Or [PySem.Expr.Name _ _, PySem.Expr.Constant Const.none _ _] _)) none _) _) _) _ _ _); k_dflt (apply cut_expr; (with_reducible assumption); (with_reducible assumption); exact rfl; exact rfl; omega; omega; omega); intro t' h' tk' F' N' hcut; (try dsimp only)) | (k_unfold; (try dsimp only)) | (k_end; wrow_close) | walk1 | (dsimp only; walk1) | (leave1; walk_say "STEP leave1"; try dsimp only) | fail "no step"))
  all_goals try (refine' cb_retI hret ?e1 ?e2 ?e3; (case e2 => with_reducible assumption); (case e3 => with_reducible assumption); (case e1 => rw [levH_far (by omega)]))
  rw [levH_dp (by omega)] at hret
  rename IsRange _ _ _ _ _ _ _ _ => R5
  rename Fr _ _ _ _ => F5
  rename News _ _ _ _ => N5
  refine list_range2 (a := cl x) rfl F5 N5 R5 (by rw [← cl_len]) (by rw [← cl_len]; exact hx1) (by rw [← cl_len]; omega) ?_
  clear F5 R5
  intro D us c h5 tk5 F5 N5 hD hI
  dsimp only
  repeat' ((fail_if_success (with_reducible show wpAny _ _ (PySem.pyIter _) _ _ _)); (first | ((with_reducible show wpAny _ _ (PySem.call (Value.ref _) _) _ _ _); k_here; k_dflt ((first | apply Ctr.use (subst_cost_ctr _ _ _ _ _ _ _ _)); k_asm; k_asm; k_asm; k_asm; k_asm; (first | exact rfl | assumption); (exact ⟨by omega, by omega⟩); ktr_room; ktr_units); intro _ _ _ _ _; (try dsimp only); (try k_fold)) | ((with_reducible show wpAny _ _ (PySem.eval (PySem.Expr.Subscript (PySem.Expr.Name _ _) (PySem.Expr.Slice none (some (PySem.Expr.BoolOp BoolOp.Or [PySem.Expr.Name _ _, PySem.Expr.Constant Const.none _ _] _)) none _) _) _) _ _ _); k_dflt (apply cut_expr; (with_reducible assumption); (with_reducible assumption); exact rfl; exact rfl; omega; omega; omega); intro t' h' tk' F' N' hcut; (try dsimp only)) | (k_unfold; (try dsimp only)) | (k_end; wrow_close) | walk1 | (dsimp only; walk1) | (leave1; walk_say "STEP leave1"; try dsimp only) | fail "no step"))
  k_with "state" => first
    | with_reducible exact ⟨Nat.zero_le _, rows_start _ _ _⟩
    | with_reducible exact dpIn_start (by assumption) (by omega) (by omega)
    | with_reducible exact dpIn_lt (by assumption) (by assumption) (by assumption) (by assumption) (by omega) (by assumption)
    | with_reducible exact dpIn_ge (by assumption) (by assumption) (by assumption) (by assumption) (by omega) (by assumption)
    | with_reducible exact dpIn_end (by assumption) hx1 (by omega) (by assumption)
  k_state (fun pre row res => pre.length ≤ y.length ∧ Rows (cl x) (cl y) mx pre.length row res) "row" "result"
  · repeat' ((fail_if_success (with_reducible show wpAny _ _ (PySem.pyIter _) _ _ _)); (first | ((with_reducible show wpAny _ _ (PySem.call (Value.ref _) _) _ _ _); k_here; k_dflt ((first | apply Ctr.use (subst_cost_ctr _ _ _ _ _ _ _ _)); k_asm; k_asm; k_asm; k_asm; k_asm; (first | exact rfl | assumption); (exact ⟨by omega, by omega⟩); ktr_room; ktr_units); intro _ _ _ _ _; (try dsimp only); (try k_fold)) | ((with_reducible show wpAny _ _ (PySem.eval (PySem.Expr.Subscript (PySem.Expr.Name _ _) (PySem.Expr.Slice none (some (PySem.Expr.BoolOp BoolOp.Or [PySem.Expr.Name _ _, PySem.Expr.Constant Const.none _ _] _)) none _) _) _) _ _ _); k_dflt (apply cut_expr; (with_reducible assumption); (with_reducible assumption); exact rfl; exact rfl; omega; omega; omega); intro t' h' tk' F' N' hcut; (try dsimp only)) | (k_unfold; (try dsimp only)) | (k_end; wrow_close) | walk1 | (dsimp only; walk1) | (leave1; walk_say "STEP leave1"; try dsimp only) | fail "no step"))
    k_state (fun pre row d r mn => pre.length ≤ x.length ∧ row.length = x.length ∧ DpIn x y mx kPre.length pre.length row d r mn) "row" "distance" "result" "minimum"
    · repeat' ((first | ((with_reducible show wpAny _ _ (PySem.call (Value.ref _) _) _ _ _); k_here; k_dflt ((first | apply Ctr.use (subst_cost_ctr _ _ _ _ _ _ _ _)); k_asm; k_asm; k_asm; k_asm; k_asm; (first | exact rfl | assumption); (exact ⟨by omega, by omega⟩); ktr_room; ktr_units); intro _ _ _ _ _; (try dsimp only); (try k_fold)) | ((with_reducible show wpAny _ _ (PySem.eval (PySem.Expr.Subscript (PySem.Expr.Name _ _) (PySem.Expr.Slice none (some (PySem.Expr.BoolOp BoolOp.Or [PySem.Expr.Name _ _, PySem.Expr.Constant Const.none _ _] _)) none _) _) _) _ _ _); k_dflt (apply cut_expr; (with_reducible assumption); (with_reducible assumption); exact rfl; exact rfl; omega; omega; omega); intro t' h' tk' F' N' hcut; (try dsimp only)) | (k_unfold; (try dsimp only)) | (k_end; wrow_close) | walk1 | (dsimp only; walk1) | (leave1; walk_say "STEP leave1"; try dsimp only) | fail "no step"))
    · repeat' ((first | ((with_reducible show wpAny _ _ (PySem.call (Value.ref _) _) _ _ _); k_here; k_dflt ((first | apply Ctr.use (subst_cost_ctr _ _ _ _ _ _ _ _)); k_asm; k_asm; k_asm; k_asm; k_asm; (first | exact rfl | assumption); (exact ⟨by omega, by omega⟩); ktr_room; ktr_units); intro _ _ _ _ _; (try dsimp only); (try k_fold)) | ((with_reducible show wpAny _ _ (PySem.eval (PySem.Expr.Subscript (PySem.Expr.Name _ _) (PySem.Expr.Slice none (some (PySem.Expr.BoolOp BoolOp.Or [PySem.Expr.Name _ _, PySem.Expr.Constant Const.none _ _] _)) none _) _) _) _ _ _); k_dflt (apply cut_expr; (with_reducible assumption); (with_reducible assumption); exact rfl; exact rfl; omega; omega; omega); intro t' h' tk' F' N' hcut; (try dsimp only)) | (k_unfold; (try dsimp only)) | (k_end; wrow_close) | walk1 | (dsimp only; walk1) | (leave1; walk_say "STEP leave1"; try dsimp only) | fail "no step"))
      refine' cb_retI hret ?e1 ?e2 ?e3; (case e2 => with_reducible assumption); (case e3 => with_reducible exact cb_drop (by assumption) (fun p hp => List.mem_cons_of_mem _ (List.mem_append.mpr (Or.inl hp)))); (case e1 => with_reducible exact dpIn_stop (by assumption) hx1 (by assumption))
  · repeat' ((first | ((with_reducible show wpAny _ _ (PySem.call (Value.ref _) _) _ _ _); k_here; k_dflt ((first | apply Ctr.use (subst_cost_ctr _ _ _ _ _ _ _ _)); k_asm; k_asm; k_asm; k_asm; k_asm; (first | exact rfl | assumption); (exact ⟨by omega, by omega⟩); ktr_room; ktr_units); intro _ _ _ _ _; (try dsimp only); (try k_fold)) | ((with_reducible show wpAny _ _ (PySem.eval (PySem.Expr.Subscript (PySem.Expr.Name _ _) (PySem.Expr.Slice none (some (PySem.Expr.BoolOp BoolOp.Or [PySem.Expr.Name _ _, PySem.Expr.Constant Const.none _ _] _)) none _) _) _) _ _ _); k_dflt (apply cut_expr; (with_reducible assumption); (with_reducible assumption); exact rfl; exact rfl; omega; omega; omega); intro t' h' tk' F' N' hcut; (try dsimp only)) | (k_unfold; (try dsimp only)) | (k_end; wrow_close) | walk1 | (dsimp only; walk1) | (leave1; walk_say "STEP leave1"; try dsimp only) | fail "no step"))
    refine' cb_retI hret ?e1 ?e2 ?e3; (case e2 => with_reducible assumption); (case e3 => with_reducible exact cb_drop (by assumption) (fun p hp => List.mem_cons_of_mem _ hp)); (case e1 => with_reducible exact rows_done (by assumption))
end Mine
end
section
open PySem PySem.W PyProof.Rows
set_option Elab.async false
set_option maxRecDepth 100000
namespace Mine
set_option maxHeartbeats 8000000 in
theorem law_reference_ctr (w : World) (mean : ExcName → Option Value) (mg mb : Str → Option Value) (p : Int) (u : Tok) (d : Nat) (t : Tok) :
    Ctr 1 w mean mg mb 109 (0 ≤ p ∧ p < 5) [.int p u, .str ⟨#[d]⟩ t] (fun t => .str (mkS (ref p.toNat d)) t) := by
  delta Ctr prg vw
  k_fill
  intro news dp un gd cn cs ad ccd cls outer A₀ base h₀ L m s Q E B₀ F₀ X₀ N₀ T₀ hk hpre hd hu hret
  obtain ⟨hp0, hp5⟩ := hpre
  refine wpAny_call ?_
  k_dflt cell_enter
  rename_i g L₁ h₁ FG F1 N1 B1 X1 T1
  repeat' ((fail_if_success (with_reducible show wpAny _ _ (PySem.exec (PySem.Stmt.Return _ _) _) _ _ _)); (first | ((with_reducible show wpAny _ _ (PySem.eval (PySem.Expr.Dict _ _ _) _) _ _ _); with_reducible refine dict_lit (by repeat (first | exact LitPairs.nil | apply LitPairs.cons)) (by with_reducible assumption) (by with_reducible assumption) (Top.nolimit (by with_reducible assumption)) (List.cons_ne_nil _ _) (by decide) (by decide +kernel) ?_; intro _ _ _ _ _ _ _ _ _ _; (try dsimp only)) | (k_unfold; (try dsimp only)) | (k_end; wrow_close) | walk1 | (dsimp only; walk1) | (leave1; walk_say "STEP leave1"; try dsimp only) | fail "no step"))
  rename_i hh1 o1 tk1 kvs1 ll1 lo1 hd1 hpr1 hh2 o2 tk2 kvs2 ll2 lo2 hd2 hpr2 hh3 o3 tk3 kvs3 ll3 lo3 hd3 hpr3 hh4 o4 tk4 kvs4 ll4 lo4 hd4 hpr4 hh5 o5 tk5 kvs5 ll5 lo5 hd5 hpr5 lT hT l1T hT2 FT NT
  have hp : p = 0 ∨ p = 1 ∨ p = 2 ∨ p = 3 ∨ p = 4 := by omega
  rcases hp with rfl | rfl | rfl | rfl | rfl
  · repeat' ((fail_if_success (with_reducible show wpAny _ _ (PySem.getMethod _ _ _) _ _ _)); (first | ((with_reducible show wpAny _ _ (PySem.eval (PySem.Expr.Dict _ _ _) _) _ _ _); with_reducible refine dict_lit (by repeat (first | exact LitPairs.nil | apply LitPairs.cons)) (by with_reducible assumption) (by with_reducible assumption) (Top.nolimit (by with_reducible assumption)) (List.cons_ne_nil _ _) (by decide) (by decide +kernel) ?_; intro _ _ _ _ _ _ _ _ _ _; (try dsimp only)) | (k_unfold; (try dsimp only)) | (k_end; wrow_close) | walk1 | (dsimp only; walk1) | (leave1; walk_say "STEP leave1"; try dsimp only) | fail "no step"))
    refine kdg_method (knd := PySem.strKind _ _) (by k_asm) (by k_mem) hd1 ?_
    repeat' ((fail_if_success (with_reducible show wpAny _ _ (PySem.call _ _) _ _ _)); (first | ((with_reducible show wpAny _ _ (PySem.eval (PySem.Expr.Dict _ _ _) _) _ _ _); with_reducible refine dict_lit (by repeat (first | exact LitPairs.nil | apply LitPairs.cons)) (by with_reducible assumption) (by with_reducible assumption) (Top.nolimit (by with_reducible assumption)) (List.cons_ne_nil _ _) (by decide) (by decide +kernel) ?_; intro _ _ _ _ _ _ _ _ _ _; (try dsimp only)) | (k_unfold; (try dsimp only)) | (k_end; wrow_close) | walk1 | (dsimp only; walk1) | (leave1; walk_say "STEP leave1"; try dsimp only) | fail "no step"))
    rcases tab_at (p := 0) (by decide) hpr1 d with ⟨h1, h2⟩ | ⟨v, tv, h1, h2⟩
    · refine kdg_get2 (knd := PySem.strKind _ _) (by k_asm) (by k_mem) hd1 lo1 (strKind_is _ _ _ _) none h1 ?_
      have e : mkS (ref 0 d) = ⟨#[d]⟩ := by rw [h2]; rfl
      rw [← e]
      repeat' ((first | ((with_reducible show wpAny _ _ (PySem.eval (PySem.Expr.Dict _ _ _) _) _ _ _); with_reducible refine dict_lit (by repeat (first | exact LitPairs.nil | apply LitPairs.cons)) (by with_reducible assumption) (by with_reducible assumption) (Top.nolimit (by with_reducible assumption)) (List.cons_ne_nil _ _) (by decide) (by decide +kernel) ?_; intro _ _ _ _ _ _ _ _ _ _; (try dsimp only)) | (k_unfold; (try dsimp only)) | (k_end; wrow_close) | walk1 | (dsimp only; walk1) | (leave1; walk_say "STEP leave1"; try dsimp only) | fail "no step"))
      exact hret _ _ _ (by assumption) (cb_drop (by assumption) (fun p hp => by repeat (first | exact hp | refine List.mem_cons_of_mem _ ?_)))
    · refine kdg_get2 (knd := PySem.strKind _ _) (by k_asm) (by k_mem) hd1 lo1 (strKind_is _ _ _ _) (some _) h1 ?_
      have e : v = mkS (ref 0 d) := by rw [← h2]; exact (mkS_cl v).symm
      rw [e]
      repeat' ((first | ((with_reducible show wpAny _ _ (PySem.eval (PySem.Expr.Dict _ _ _) _) _ _ _); with_reducible refine dict_lit (by repeat (first | exact LitPairs.nil | apply LitPairs.cons)) (by with_reducible assumption) (by with_reducible assumption) (Top.nolimit (by with_reducible assumption)) (List.cons_ne_nil _ _) (by decide) (by decide +kernel) ?_; intro _ _ _ _ _ _ _ _ _ _; (try dsimp only)) | (k_unfold; (try dsimp only)) | (k_end; wrow_close) | walk1 | (dsimp only; walk1) | (leave1; walk_say "STEP leave1"; try dsimp only) | fail "no step"))
      exact hret _ _ _ (by assumption) (cb_drop (by assumption) (fun p hp => by repeat (first | exact hp | refine List.mem_cons_of_mem _ ?_)))
  · repeat' ((fail_if_success (with_reducible show wpAny _ _ (PySem.getMethod _ _ _) _ _ _)); (first | ((with_reducible show wpAny _ _ (PySem.eval (PySem.Expr.Dict _ _ _) _) _ _ _); with_reducible refine dict_lit (by repeat (first | exact LitPairs.nil | apply LitPairs.cons)) (by with_reducible assumption) (by with_reducible assumption) (Top.nolimit (by with_reducible assumption)) (List.cons_ne_nil _ _) (by decide) (by decide +kernel) ?_; intro _ _ _ _ _ _ _ _ _ _; (try dsimp only)) | (k_unfold; (try dsimp only)) | (k_end; wrow_close) | walk1 | (dsimp only; walk1) | (leave1; walk_say "STEP leave1"; try dsimp only) | fail "no step"))
    refine kdg_method (knd := PySem.strKind _ _) (by k_asm) (by k_mem) hd2 ?_
    repeat' ((fail_if_success (with_reducible show wpAny _ _ (PySem.call _ _) _ _ _)); (first | ((with_reducible show wpAny _ _ (PySem.eval (PySem.Expr.Dict _ _ _) _) _ _ _); with_reducible refine dict_lit (by repeat (first | exact LitPairs.nil | apply LitPairs.cons)) (by with_reducible assumption) (by with_reducible assumption) (Top.nolimit (by with_reducible assumption)) (List.cons_ne_nil _ _) (by decide) (by decide +kernel) ?_; intro _ _ _ _ _ _ _ _ _ _; (try dsimp only)) | (k_unfold; (try dsimp only)) | (k_end; wrow_close) | walk1 | (dsimp only; walk1) | (leave1; walk_say "STEP leave1"; try dsimp only) | fail "no step"))
    rcases tab_at (p := 1) (by decide) hpr2 d with ⟨h1, h2⟩ | ⟨v, tv, h1, h2⟩
    · refine kdg_get2 (knd := PySem.strKind _ _) (by k_asm) (by k_mem) hd2 lo2 (strKind_is _ _ _ _) none h1 ?_
      have e : mkS (ref 1 d) = ⟨#[d]⟩ := by rw [h2]; rfl
      rw [← e]
      repeat' ((first | ((with_reducible show wpAny _ _ (PySem.eval (PySem.Expr.Dict _ _ _) _) _ _ _); with_reducible refine dict_lit (by repeat (first | exact LitPairs.nil | apply LitPairs.cons)) (by with_reducible assumption) (by with_reducible assumption) (Top.nolimit (by with_reducible assumption)) (List.cons_ne_nil _ _) (by decide) (by decide +kernel) ?_; intro _ _ _ _ _ _ _ _ _ _; (try dsimp only)) | (k_unfold; (try dsimp only)) | (k_end; wrow_close) | walk1 | (dsimp only; walk1) | (leave1; walk_say "STEP leave1"; try dsimp only) | fail "no step"))
      exact hret _ _ _ (by assumption) (cb_drop (by assumption) (fun p hp => by repeat (first | exact hp | refine List.mem_cons_of_mem _ ?_)))
    · refine kdg_get2 (knd := PySem.strKind _ _) (by k_asm) (by k_mem) hd2 lo2 (strKind_is _ _ _ _) (some _) h1 ?_
      have e : v = mkS (ref 1 d) := by rw [← h2]; exact (mkS_cl v).symm
      rw [e]
      repeat' ((first | ((with_reducible show wpAny _ _ (PySem.eval (PySem.Expr.Dict _ _ _) _) _ _ _); with_reducible refine dict_lit (by repeat (first | exact LitPairs.nil | apply LitPairs.cons)) (by with_reducible assumption) (by with_reducible assumption) (Top.nolimit (by with_reducible assumption)) (List.cons_ne_nil _ _) (by decide) (by decide +kernel) ?_; intro _ _ _ _ _ _ _ _ _ _; (try dsimp only)) | (k_unfold; (try dsimp only)) | (k_end; wrow_close) | walk1 | (dsimp only; walk1) | (leave1; walk_say "STEP leave1"; try dsimp only) | fail "no step"))
      exact hret _ _ _ (by assumption) (cb_drop (by assumption) (fun p hp => by repeat (first | exact hp | refine List.mem_cons_of_mem _ ?_)))
  · repeat' ((fail_if_success (with_reducible show wpAny _ _ (PySem.getMethod _ _ _) _ _ _)); (first | ((with_reducible show wpAny _ _ (PySem.eval (PySem.Expr.Dict _ _ _) _) _ _ _); with_reducible refine dict_lit (by repeat (first | exact LitPairs.nil | apply LitPairs.cons)) (by with_reducible assumption) (by with_reducible assumption) (Top.nolimit (by with_reducible assumption)) (List.cons_ne_nil _ _) (by decide) (by decide +kernel) ?_; intro _ _ _ _ _ _ _ _ _ _; (try dsimp only)) | (k_unfold; (try dsimp only)) | (k_end; wrow_close) | walk1 | (dsimp only; walk1) | (leave1; walk_say "STEP leave1"; try dsimp only) | fail "no step"))
    refine kdg_method (knd := PySem.strKind _ _) (by k_asm) (by k_mem) hd3 ?_
    repeat' ((fail_if_success (with_reducible show wpAny _ _ (PySem.call _ _) _ _ _)); (first | ((with_reducible show wpAny _ _ (PySem.eval (PySem.Expr.Dict _ _ _) _) _ _ _); with_reducible refine dict_lit (by repeat (first | exact LitPairs.nil | apply LitPairs.cons)) (by with_reducible assumption) (by with_reducible assumption) (Top.nolimit (by with_reducible assumption)) (List.cons_ne_nil _ _) (by decide) (by decide +kernel) ?_; intro _ _ _ _ _ _ _ _ _ _; (try dsimp only)) | (k_unfold; (try dsimp only)) | (k_end; wrow_close) | walk1 | (dsimp only; walk1) | (leave1; walk_say "STEP leave1"; try dsimp only) | fail "no step"))
    rcases tab_at (p := 2) (by decide) hpr3 d with ⟨h1, h2⟩ | ⟨v, tv, h1, h2⟩
    · refine kdg_get2 (knd := PySem.strKind _ _) (by k_asm) (by k_mem) hd3 lo3 (strKind_is _ _ _ _) none h1 ?_
      have e : mkS (ref 2 d) = ⟨#[d]⟩ := by rw [h2]; rfl
      rw [← e]
      repeat' ((first | ((with_reducible show wpAny _ _ (PySem.eval (PySem.Expr.Dict _ _ _) _) _ _ _); with_reducible refine dict_lit (by repeat (first | exact LitPairs.nil | apply LitPairs.cons)) (by with_reducible assumption) (by with_reducible assumption) (Top.nolimit (by with_reducible assumption)) (List.cons_ne_nil _ _) (by decide) (by decide +kernel) ?_; intro _ _ _ _ _ _ _ _ _ _; (try dsimp only)) | (k_unfold; (try dsimp only)) | (k_end; wrow_close) | walk1 | (dsimp only; walk1) | (leave1; walk_say "STEP leave1"; try dsimp only) | fail "no step"))
      exact hret _ _ _ (by assumption) (cb_drop (by assumption) (fun p hp => by repeat (first | exact hp | refine List.mem_cons_of_mem _ ?_)))
    · refine kdg_get2 (knd := PySem.strKind _ _) (by k_asm) (by k_mem) hd3 lo3 (strKind_is _ _ _ _) (some _) h1 ?_
      have e : v = mkS (ref 2 d) := by rw [← h2]; exact (mkS_cl v).symm
      rw [e]
      repeat' ((first | ((with_reducible show wpAny _ _ (PySem.eval (PySem.Expr.Dict _ _ _) _) _ _ _); with_reducible refine dict_lit (by repeat (first | exact LitPairs.nil | apply LitPairs.cons)) (by with_reducible assumption) (by with_reducible assumption) (Top.nolimit (by with_reducible assumption)) (List.cons_ne_nil _ _) (by decide) (by decide +kernel) ?_; intro _ _ _ _ _ _ _ _ _ _; (try dsimp only)) | (k_unfold; (try dsimp only)) | (k_end; wrow_close) | walk1 | (dsimp only; walk1) | (leave1; walk_say "STEP leave1"; try dsimp only) | fail "no step"))
      exact hret _ _ _ (by assumption) (cb_drop (by assumption) (fun p hp => by repeat (first | exact hp | refine List.mem_cons_of_mem _ ?_)))
  · repeat' ((fail_if_success (with_reducible show wpAny _ _ (PySem.getMethod _ _ _) _ _ _)); (first | ((with_reducible show wpAny _ _ (PySem.eval (PySem.Expr.Dict _ _ _) _) _ _ _); with_reducible refine dict_lit (by repeat (first | exact LitPairs.nil | apply LitPairs.cons)) (by with_reducible assumption) (by with_reducible assumption) (Top.nolimit (by with_reducible assumption)) (List.cons_ne_nil _ _) (by decide) (by decide +kernel) ?_; intro _ _ _ _ _ _ _ _ _ _; (try dsimp only)) | (k_unfold; (try dsimp only)) | (k_end; wrow_close) | walk1 | (dsimp only; walk1) | (leave1; walk_say "STEP leave1"; try dsimp only) | fail "no step"))
    refine kdg_method (knd := PySem.strKind _ _) (by k_asm) (by k_mem) hd4 ?_
    repeat' ((fail_if_success (with_reducible show wpAny _ _ (PySem.call _ _) _ _ _)); (first | ((with_reducible show wpAny _ _ (PySem.eval (PySem.Expr.Dict _ _ _) _) _ _ _); with_reducible refine dict_lit (by repeat (first | exact LitPairs.nil | apply LitPairs.cons)) (by with_reducible assumption) (by with_reducible assumption) (Top.nolimit (by with_reducible assumption)) (List.cons_ne_nil _ _) (by decide) (by decide +kernel) ?_; intro _ _ _ _ _ _ _ _ _ _; (try dsimp only)) | (k_unfold; (try dsimp only)) | (k_end; wrow_close) | walk1 | (dsimp only; walk1) | (leave1; walk_say "STEP leave1"; try dsimp only) | fail "no step"))
    rcases tab_at (p := 3) (by decide) hpr4 d with ⟨h1, h2⟩ | ⟨v, tv, h1, h2⟩
    · refine kdg_get2 (knd := PySem.strKind _ _) (by k_asm) (by k_mem) hd4 lo4 (strKind_is _ _ _ _) none h1 ?_
      have e : mkS (ref 3 d) = ⟨#[d]⟩ := by rw [h2]; rfl
      rw [← e]
      repeat' ((first | ((with_reducible show wpAny _ _ (PySem.eval (PySem.Expr.Dict _ _ _) _) _ _ _); with_reducible refine dict_lit (by repeat (first | exact LitPairs.nil | apply LitPairs.cons)) (by with_reducible assumption) (by with_reducible assumption) (Top.nolimit (by with_reducible assumption)) (List.cons_ne_nil _ _) (by decide) (by decide +kernel) ?_; intro _ _ _ _ _ _ _ _ _ _; (try dsimp only)) | (k_unfold; (try dsimp only)) | (k_end; wrow_close) | walk1 | (dsimp only; walk1) | (leave1; walk_say "STEP leave1"; try dsimp only) | fail "no step"))
      exact hret _ _ _ (by assumption) (cb_drop (by assumption) (fun p hp => by repeat (first | exact hp | refine List.mem_cons_of_mem _ ?_)))
    · refine kdg_get2 (knd := PySem.strKind _ _) (by k_asm) (by k_mem) hd4 lo4 (strKind_is _ _ _ _) (some _) h1 ?_
      have e : v = mkS (ref 3 d) := by rw [← h2]; exact (mkS_cl v).symm
      rw [e]
      repeat' ((first | ((with_reducible show wpAny _ _ (PySem.eval (PySem.Expr.Dict _ _ _) _) _ _ _); with_reducible refine dict_lit (by repeat (first | exact LitPairs.nil | apply LitPairs.cons)) (by with_reducible assumption) (by with_reducible assumption) (Top.nolimit (by with_reducible assumption)) (List.cons_ne_nil _ _) (by decide) (by decide +kernel) ?_; intro _ _ _ _ _ _ _ _ _ _; (try dsimp only)) | (k_unfold; (try dsimp only)) | (k_end; wrow_close) | walk1 | (dsimp only; walk1) | (leave1; walk_say "STEP leave1"; try dsimp only) | fail "no step"))
      exact hret _ _ _ (by assumption) (cb_drop (by assumption) (fun p hp => by repeat (first | exact hp | refine List.mem_cons_of_mem _ ?_)))
  · repeat' ((fail_if_success (with_reducible show wpAny _ _ (PySem.getMethod _ _ _) _ _ _)); (first | ((with_reducible show wpAny _ _ (PySem.eval (PySem.Expr.Dict _ _ _) _) _ _ _); with_reducible refine dict_lit (by repeat (first | exact LitPairs.nil | apply LitPairs.cons)) (by with_reducible assumption) (by with_reducible assumption) (Top.nolimit (by with_reducible assumption)) (List.cons_ne_nil _ _) (by decide) (by decide +kernel) ?_; intro _ _ _ _ _ _ _ _ _ _; (try dsimp only)) | (k_unfold; (try dsimp only)) | (k_end; wrow_close) | walk1 | (dsimp only; walk1) | (leave1; walk_say "STEP leave1"; try dsimp only) | fail "no step"))
    refine kdg_method (knd := PySem.strKind _ _) (by k_asm) (by k_mem) hd5 ?_
    repeat' ((fail_if_success (with_reducible show wpAny _ _ (PySem.call _ _) _ _ _)); (first | ((with_reducible show wpAny _ _ (PySem.eval (PySem.Expr.Dict _ _ _) _) _ _ _); with_reducible refine dict_lit (by repeat (first | exact LitPairs.nil | apply LitPairs.cons)) (by with_reducible assumption) (by with_reducible assumption) (Top.nolimit (by with_reducible assumption)) (List.cons_ne_nil _ _) (by decide) (by decide +kernel) ?_; intro _ _ _ _ _ _ _ _ _ _; (try dsimp only)) | (k_unfold; (try dsimp only)) | (k_end; wrow_close) | walk1 | (dsimp only; walk1) | (leave1; walk_say "STEP leave1"; try dsimp only) | fail "no step"))
    rcases tab_at (p := 4) (by decide) hpr5 d with ⟨h1, h2⟩ | ⟨v, tv, h1, h2⟩
    · refine kdg_get2 (knd := PySem.strKind _ _) (by k_asm) (by k_mem) hd5 lo5 (strKind_is _ _ _ _) none h1 ?_
      have e : mkS (ref 4 d) = ⟨#[d]⟩ := by rw [h2]; rfl
      rw [← e]
      repeat' ((first | ((with_reducible show wpAny _ _ (PySem.eval (PySem.Expr.Dict _ _ _) _) _ _ _); with_reducible refine dict_lit (by repeat (first | exact LitPairs.nil | apply LitPairs.cons)) (by with_reducible assumption) (by with_reducible assumption) (Top.nolimit (by with_reducible assumption)) (List.cons_ne_nil _ _) (by decide) (by decide +kernel) ?_; intro _ _ _ _ _ _ _ _ _ _; (try dsimp only)) | (k_unfold; (try dsimp only)) | (k_end; wrow_close) | walk1 | (dsimp only; walk1) | (leave1; walk_say "STEP leave1"; try dsimp only) | fail "no step"))
      exact hret _ _ _ (by assumption) (cb_drop (by assumption) (fun p hp => by repeat (first | exact hp | refine List.mem_cons_of_mem _ ?_)))
    · refine kdg_get2 (knd := PySem.strKind _ _) (by k_asm) (by k_mem) hd5 lo5 (strKind_is _ _ _ _) (some _) h1 ?_
      have e : v = mkS (ref 4 d) := by rw [← h2]; exact (mkS_cl v).symm
      rw [e]
      repeat' ((first | ((with_reducible show wpAny _ _ (PySem.eval (PySem.Expr.Dict _ _ _) _) _ _ _); with_reducible refine dict_lit (by repeat (first | exact LitPairs.nil | apply LitPairs.cons)) (by with_reducible assumption) (by with_reducible assumption) (Top.nolimit (by with_reducible assumption)) (List.cons_ne_nil _ _) (by decide) (by decide +kernel) ?_; intro _ _ _ _ _ _ _ _ _ _; (try dsimp only)) | (k_unfold; (try dsimp only)) | (k_end; wrow_close) | walk1 | (dsimp only; walk1) | (leave1; walk_say "STEP leave1"; try dsimp only) | fail "no step"))
      exact hret _ _ _ (by assumption) (cb_drop (by assumption) (fun p hp => by repeat (first | exact hp | refine List.mem_cons_of_mem _ ?_)))


end Mine
end
section
open PySem PySem.W PyProof.Rows
set_option Elab.async false
set_option maxRecDepth 100000
namespace Mine
theorem least_range {n : Int} (h2 : 2 ≤ n) (h16 : n ≤ 16) : Builtin.Range.small 2 (n + 1) 1 = true ∧ Builtin.Range.rangeSize 2 (n + 1) 1 = ((n - 1).toNat : Int) := by
  have key : ∀ k : Nat, k < 17 → 2 ≤ k → Builtin.Range.small 2 ((k : Int) + 1) 1 = true ∧ Builtin.Range.rangeSize 2 ((k : Int) + 1) 1 = (((k : Int) - 1).toNat : Int) := by decide +kernel
  obtain ⟨k, rfl⟩ := Int.eq_ofNat_of_zero_le (show 0 ≤ n by omega)
  exact key k (by omega) (by omega)
theorem least_range1 {i : Nat} (h : i ≤ 14) : Builtin.Range.small 1 (2 + (i : Int)) 1 = true ∧ Builtin.Range.rangeSize 1 (2 + (i : Int)) 1 = ((i + 1 : Nat) : Int) := by
  have key : ∀ k : Nat, k < 15 → Builtin.Range.small 1 (2 + (k : Int)) 1 = true ∧ Builtin.Range.rangeSize 1 (2 + (k : Int)) 1 = ((k + 1 : Nat) : Int) := by decide +kernel
  exact key i (by omega)
theorem least_pick {i : Nat} (h : i ≤ 14) {M : Int} (h1 : M ∈ (List.range (i + 1)).map (fun j : Nat => (leastL.take (i + 2)).getD (1 + (j : Int)).toNat 0 + (leastL.take (i + 2)).getD (2 + (i : Int) - (1 + (j : Int))).toNat 0))
    (h2 : ∀ a, a ∈ (List.range (i + 1)).map (fun j : Nat => (leastL.take (i + 2)).getD (1 + (j : Int)).toNat 0 + (leastL.take (i + 2)).getD (2 + (i : Int) - (1 + (j : Int))).toNat 0) → M ≤ a) : 2 + (i : Int) + M = leastL.getD (i + 2) 0 := by
  have key : ∀ i : Nat, i < 15 → (leastL.getD (i + 2) 0 - (2 + (i : Int))) ∈ (List.range (i + 1)).map (fun j : Nat => (leastL.take (i + 2)).getD (1 + (j : Int)).toNat 0 + (leastL.take (i + 2)).getD (2 + (i : Int) - (1 + (j : Int))).toNat 0) ∧
      ∀ a, a ∈ (List.range (i + 1)).map (fun j : Nat => (leastL.take (i + 2)).getD (1 + (j : Int)).toNat 0 + (leastL.take (i + 2)).getD (2 + (i : Int) - (1 + (j : Int))).toNat 0) → leastL.getD (i + 2) 0 - (2 + (i : Int)) ≤ a := by decide +kernel
  obtain ⟨k1, k2⟩ := key i (by omega)
  have a1 := h2 _ k1
  have a2 := k2 _ h1
  omega
theorem least_snoc {i : Nat} (h : i ≤ 14) {M : Int} (hM : 2 + (i : Int) + M = leastL.getD (i + 2) 0) {us : List Value} {t : Tok} (hI : IntsAre us (leastL.take (i + 2))) : IntsAre (us ++ [Value.int (2 + (i : Int) + M) t]) (leastL.take (i + 1 + 2)) := by
  have key : ∀ i : Nat, i < 15 → leastL.take (i + 1 + 2) = leastL.take (i + 2) ++ [leastL.getD (i + 2) 0] := by decide
  rw [key i (by omega), hM]
  exact IntsAre.append hI (.cons _ _ .nil)
theorem mem_re {α : Type} {a b c d : α} {l own : List α} : ∀ p ∈ own ++ b :: c :: d :: l, p ∈ a :: b :: c :: d :: (l ++ own) := by
  intro p hp
  refine List.mem_cons_of_mem _ ?_
  rcases List.mem_append.mp hp with hp | hp
  · exact List.mem_cons_of_mem _ (List.mem_cons_of_mem _ (List.mem_cons_of_mem _ (List.mem_append.mpr (.inr hp))))
  · rcases List.mem_cons.mp hp with rfl | hp
    · exact List.mem_cons_self ..
    · rcases List.mem_cons.mp hp with rfl | hp
      · exact List.mem_cons_of_mem _ (List.mem_cons_self ..)
      · rcases List.mem_cons.mp hp with rfl | hp
        · exact List.mem_cons_of_mem _ (List.mem_cons_of_mem _ (List.mem_cons_self ..))
        · exact List.mem_cons_of_mem _ (List.mem_cons_of_mem _ (List.mem_cons_of_mem _ (List.mem_append.mpr (.inl hp))))
theorem least_end {n : Int} (h2 : 2 ≤ n) (h16 : n ≤ 16) : (leastL.take ((n - 1).toNat + 2)).getD n.toNat 0 = leastL.getD n.toNat 0 := by
  have key : ∀ k : Nat, k < 17 → 2 ≤ k → (leastL.take (((k : Int) - 1).toNat + 2)).getD (k : Int).toNat 0 = leastL.getD (k : Int).toNat 0 := by decide +kernel
  obtain ⟨k, rfl⟩ := Int.eq_ofNat_of_zero_le (show 0 ≤ n by omega)
  exact key k (by omega) (by omega)
set_option maxHeartbeats 8000000 in
theorem law_least_ctr (w : World) (mean : ExcName → Option Value) (mg mb : Str → Option Value) (n : Int) (u : Tok) :
    Ctr 1 w mean mg mb 121 (2 ≤ n ∧ n ≤ 16) [.int n u] (fun t => .int (leastL.getD n.toNat 0) t) := by
  delta Ctr prg vw
  k_fill
  intro news dp un gd cn cs ad ccd cls outer A₀ base h₀ L m s Q E B₀ F₀ X₀ N₀ T₀ hk hpre hd hu hret
  obtain ⟨hn2, hn16⟩ := hpre
  refine wpAny_call ?_
  k_dflt (refine' code_defC ?k1 ?k2 ?k3 ?k4 ?k5 ?kA ?kF ?kK ?k6 ?k7 ?k8 ?k9 ?kB ?kD ?_ ?c2 ?c3 ?c4; (case kA => exact rfl); (case kF => exact rfl); (case kK => assumption); (case k1 => k_asm); (case k2 => k_asm); (case k3 => k_asm); (case k4 => k_asm); (case k5 => k_asm); (case k6 => k_is); (case k7 => k_is); (case k8 => ktr_room); (case k9 => exact BindsTo.of_eq rfl); (case kB => exact rfl); (case kD => decide +kernel); (case c2 => exact rfl); (case c3 => exact rfl); (case c4 => exact rfl); k_whole)
  intro g L₁ h₁ tk₁ cells₁ FG F1 N1 Y1 B1 X1 T1 l1
  have hnL : ∀ p ∈ news, p.1 < L₁ := l1
  k_cells Y1
  (try simp only [List.cons_append, List.nil_append] at N1); (try dsimp only); (try k_fold)
  repeat' ((fail_if_success (with_reducible show wpAny _ _ (PySem.storeName _ _ _) _ _ _)); (first | (k_unfold; (try dsimp only)) | (k_end; wrow_close) | walk1 | (dsimp only; walk1) | (leave1; walk_say "STEP leave1"; try dsimp only) | fail "no step"))
  rename_i oK oL dK dL lL h2 F2 N2 l2
  have hL1 : ∀ p ∈ news, p.1 ≠ L₁ + 1 := fun p hp => Nat.ne_of_lt (Nat.lt_succ_of_lt (hnL p hp))
  have hL2 : ∀ p ∈ news, p.1 ≠ L₁ + 1 + 1 := fun p hp => Nat.ne_of_lt (Nat.lt_succ_of_lt (Nat.lt_succ_of_lt (hnL p hp)))
  have hlL : L₁ + 1 + 1 < lL := l2.1
  refine stCN (own := [(lL, _), (L₁ + 1 + 1, oK)]) (rest := news) F2 N2 rfl dL ?_ hL1 fun h3 oL2 F3 N3 dL2 => ?_
  · intro p hp
    simp only [List.mem_cons, List.not_mem_nil, or_false] at hp
    rcases hp with rfl | rfl
    · exact Nat.ne_of_gt (Nat.lt_trans (Nat.lt_succ_self _) hlL)
    · exact Nat.succ_ne_self _
  clear F2 N2
  have N4 : News g L₁ h3 ((lL, W.listOf [Value.int 0 _, Value.int 0 _].toArray 0) :: (L₁ + 1 + 1, oK) :: (L₁ + 1, oL2) :: news) := N3
  clear N3
  dsimp only
  repeat' ((fail_if_success (with_reducible show wpAny _ _ (PySem.exec (PySem.Stmt.For _ _ _ _ _) _) _ _ _)); (first | (k_unfold; (try dsimp only)) | (k_end; wrow_close) | walk1 | (dsimp only; walk1) | (leave1; walk_say "STEP leave1"; try dsimp only) | fail "no step"))
  refine For_unr g ?_
  repeat' ((fail_if_success (with_reducible show wpAny _ _ (PySem.pyIter _) _ _ _)); (first | (k_unfold; (try dsimp only)) | (k_end; wrow_close) | walk1 | (dsimp only; walk1) | (leave1; walk_say "STEP leave1"; try dsimp only) | fail "no step"))
  rename_i h5 tk5 ta5 tb5 tc5 R5 F5 N5 K5
  clear K5
  obtain ⟨m0, F6⟩ : ∃ m0, Fr g L₁ h5 (kstB m0 [(PySem.Str.ofString "size", .int n u)]) := ⟨_, fr_norm F5 (by kst_all)⟩
  (try clear F5)
  dsimp only [kstB] at F6
  dsimp only at R5 N5 ⊢
  obtain ⟨hsm, hsz⟩ := least_range hn2 hn16
  refine range_unr (n := (n - 1).toNat) (fun i m nx => ∃ (us : List Value) (c : Nat) (oK' : Obj) (x : Option Value), nx = (lL, W.listOf us.toArray c) :: (L₁ + 1 + 1, oK') :: (L₁ + 1, oL2) :: news ∧ IntsAre us (leastL.take (i + 2)) ∧ oK'.data = .cell x ∧ ∀ q ∈ [(PySem.Str.ofString "size", Value.int n u)], m q.1 = some q.2) rfl R5 hsm hsz F6 N5 (fun _ h => h) ⟨_, _, oK, _, rfl, .cons _ _ (.cons _ _ .nil), dK, by kst_all⟩ (by intro I s' v Q' hq; exact wpAny_pure hq) ?_ ?_
  · rintro i t m₁ nx h tk own hi hoff ⟨us, c, oK', x, rfl, hI, hdK, hm⟩ F7 N7
    clear N5 F6 R5
    have hi14 : i ≤ 14 := by omega
    have F8 : Fr g L₁ h _ := fr_norm F7 hm
    dsimp only [kstB] at F8
    clear F7
    repeat' ((fail_if_success (with_reducible show wpAny _ _ (PySem.storeName _ _ _) _ _ _)); (first | (k_unfold; (try dsimp only)) | (k_end; wrow_close) | walk1 | (dsimp only; walk1) | (leave1; walk_say "STEP leave1"; try dsimp only) | fail "no step"))
    have N8 : News g L₁ h ((own ++ [(lL, W.listOf us.toArray c)]) ++ (L₁ + 1 + 1, oK') :: (L₁ + 1, oL2) :: news) := by rw [List.append_assoc]; exact N7
    have hoK : ∀ p ∈ own ++ [(lL, W.listOf us.toArray c)], p.1 ≠ L₁ + 1 + 1 := by
      intro p hp
      rcases List.mem_append.mp hp with hp | hp
      · exact hoff p hp _ (List.mem_cons_of_mem _ (List.mem_cons_self ..))
      · rw [List.mem_singleton.mp hp]; exact Nat.ne_of_gt hlL
    have hrK : ∀ p ∈ (L₁ + 1, oL2) :: news, p.1 ≠ L₁ + 1 + 1 := by
      intro p hp
      rcases List.mem_cons.mp hp with rfl | hp
      · exact Nat.ne_of_lt (Nat.lt_succ_self _)
      · exact hL2 p hp
    refine stCN F8 N8 rfl hdK hoK hrK fun h9 oK2 F9 N9 dK2 => ?_
    have N9' : News g L₁ h9 ((lL, W.listOf us.toArray c) :: (L₁ + 1 + 1, oK2) :: (L₁ + 1, oL2) :: (news ++ own)) := cb_drop N9 (by
      intro p hp
      rcases List.mem_cons.mp hp with rfl | hp
      · exact List.mem_append.mpr (.inl (List.mem_append.mpr (.inr (List.mem_singleton.mpr rfl))))
      · rcases List.mem_cons.mp hp with rfl | hp
        · exact List.mem_append.mpr (.inr (List.mem_cons_self ..))
        · rcases List.mem_cons.mp hp with rfl | hp
          · exact List.mem_append.mpr (.inr (List.mem_cons_of_mem _ (List.mem_cons_self ..)))
          · rcases List.mem_append.mp hp with hp | hp
            · exact List.mem_append.mpr (.inr (List.mem_cons_of_mem _ (List.mem_cons_of_mem _ hp)))
            · exact List.mem_append.mpr (.inl (List.mem_append.mpr (.inl hp))))
    clear F8 N8 N7 N9
    dsimp only
    repeat' ((fail_if_success (with_reducible show wpAny _ _ (PySem.eval (PySem.Expr.ListComp _ _ _ _) _) _ _ _)); (first | (k_unfold; (try dsimp only)) | (k_end; wrow_close) | walk1 | (dsimp only; walk1) | (leave1; walk_say "STEP leave1"; try dsimp only) | fail "no step"))
    refine LCg.ListComp_U (by k_asm) (by with_unfolding_all rfl) (by decide) (by rfl) (by decide) (by rfl) ?_
    repeat' ((fail_if_success (with_reducible show (LCg.CompSrc _ _ _ _ _ _ _ _ _ _ _ _ _ _))); (first | (k_unfold; (try dsimp only)) | (k_end; wrow_close) | walk1 | (dsimp only; walk1) | (leave1; walk_say "STEP leave1"; try dsimp only) | fail "no step"))
    rename_i h10 tk10 ta10 tb10 tc10 R10 F10 N10 K10
    clear K10
    dsimp only at R10 F10 N10 ⊢
    obtain ⟨hsm1, hsz1⟩ := least_range1 hi14
    have hLl : (leastL.take (i + 2)).length = i + 2 := by
      rw [List.length_take]; exact Nat.min_eq_left (by show i + 2 ≤ 17; omega)
    refine LCg.CompSrc.range (n := i + 1) rfl F10 N10 R10 hsm1 hsz1 (Nat.le_trans (show i + 1 ≤ 15 by omega) (by decide +kernel)) fun g10 => ?_
    refine rest_rangeA (a := 1) (fun j => (leastL.take (i + 2)).getD (1 + (j : Int)).toNat 0 + (leastL.take (i + 2)).getD (2 + (i : Int) - (1 + (j : Int))).toNat 0) trivial ?_ ?_
    · intro j tj I oI C oC D m₂ ys h' tk' E' Q' hj hC hx' F' N' off hQ
      dsimp only
      clear N10 F10
      repeat' ((first | (k_unfold; (try dsimp only)) | (k_end; wrow_close) | walk1 | (dsimp only; walk1) | (leave1; walk_say "STEP leave1"; try dsimp only) | fail "no step"))
      exact hQ _ _ _ F' N'
    intro ys hys D h11 tk11 F11 N11 o11
    clear N10 F10
    have N12 : News g L₁ h11 ((D, W.listOf ys.toArray ys.length) :: (lL, W.listOf us.toArray c) :: (L₁ + 1 + 1, oK2) :: (L₁ + 1, oL2) :: (news ++ own)) := N11
    clear N11
    have hDl : D ≠ lL := by first | exact o11.1 | exact Ne.symm o11.1 | exact Nat.ne_of_gt o11.1 | exact Nat.ne_of_lt o11.1
    dsimp only
    repeat' ((fail_if_success (with_reducible show wpAny _ _ (PySem.call (Value.builtin "min") _) _ _ _)); (first | (k_unfold; (try dsimp only)) | (k_end; wrow_close) | walk1 | (dsimp only; walk1) | (leave1; walk_say "STEP leave1"; try dsimp only) | fail "no step"))
    refine kso_min F11 N12 ⟨_, (N12 _ (List.mem_cons_self ..)).1, rfl, _, rfl⟩ hys (by rw [List.length_map, List.length_range]; omega) rfl fun h13 M tM tk13 F13 N13 hM1 hM2 => ?_
    have hM := least_pick hi14 hM1 hM2
    clear hM1 hM2 F11 N12 hys
    rename IntsAre us _ => hI
    have hul : us.length ≤ 100000 := by rw [hI.length, hLl]; omega
    have hsn : ∀ t, IntsAre (us ++ [Value.int (2 + (i : Int) + M) t]) (leastL.take (i + 1 + 2)) := fun t => least_snoc hi14 hM hI
    dsimp only
    repeat' ((fail_if_success (with_reducible show wpAny _ _ (PySem.call (Value.builtin "list.append") _) _ _ _)); (first | (k_unfold; (try dsimp only)) | (k_end; wrow_close) | walk1 | (dsimp only; walk1) | (leave1; walk_say "STEP leave1"; try dsimp only) | fail "no step"))
    rename Fr _ _ _ _ => F15
    rename News _ _ _ _ => N15
    refine append_led (pre := [(D, W.listOf ys.toArray ys.length)]) F15 N15 (fun q hq => by rw [List.mem_singleton.mp hq]; exact hDl) ?_ hul fun h16 F16 N16 => ?_
    · intro q hq
      rcases List.mem_cons.mp hq with rfl | hq
      · exact Nat.ne_of_lt hlL
      · rcases List.mem_cons.mp hq with rfl | hq
        · exact Nat.ne_of_lt (Nat.lt_trans (Nat.lt_succ_self _) hlL)
        · rcases List.mem_append.mp hq with hq | hq
          · exact Nat.ne_of_lt (Nat.lt_trans (hnL q hq) (Nat.lt_trans (Nat.lt_succ_of_lt (Nat.lt_succ_self _)) hlL))
          · exact hoff q hq _ (List.mem_cons_self ..)
    have N17 : News g L₁ h16 ((D, W.listOf ys.toArray ys.length) :: (lL, W.listOf (us ++ [Value.int (2 + (i : Int) + M) _]).toArray (c + 1)) :: (L₁ + 1 + 1, oK2) :: (L₁ + 1, oL2) :: (news ++ own)) := N16
    clear F15 N15 N16
    repeat' ((first | (k_unfold; (try dsimp only)) | (k_end; wrow_close) | walk1 | (dsimp only; walk1) | (leave1; walk_say "STEP leave1"; try dsimp only) | fail "no step"))
    rename Fr _ _ _ _ => F18
    rename News _ _ _ _ => N18
    refine LoopStep3.next ⟨rfl, _, _, _, _, rfl, F18, cb_drop N18 mem_re, rfl, ⟨_, _, oK2, _, rfl, hsn _, dK2, ?_⟩⟩
    kst_all
  · rintro m₁ nx h tk ⟨us, c, oK', x, rfl, hI, hdK, hm⟩ F7 N7
    have F8 : Fr g L₁ h _ := fr_norm F7 hm
    have N8 : News g L₁ h _ := N7
    dsimp only [kstB] at F8
    clear N5 F6 R5 F7 N7
    have hLl : (leastL.take ((n - 1).toNat + 2)).length = (n - 1).toNat + 2 := by
      rw [List.length_take]; exact Nat.min_eq_left (by show (n - 1).toNat + 2 ≤ 17; omega)
    repeat' ((first | (k_unfold; (try dsimp only)) | (k_end; wrow_close) | walk1 | (dsimp only; walk1) | (leave1; walk_say "STEP leave1"; try dsimp only) | fail "no step"))
    refine' cb_retI hret ?e1 ?e2 ?e3; (case e2 => with_reducible assumption); (case e3 => exact cb_drop (by with_reducible assumption) (fun p hp => List.mem_cons_of_mem _ (List.mem_cons_of_mem _ (List.mem_cons_of_mem _ hp)))); (case e1 => exact least_end hn2 hn16)

end Mine
end
section
open PySem PySem.W PyProof.Rows
set_option Elab.async false
set_option maxRecDepth 100000
namespace Mine

theorem fmod15 (x : Int) : 2 ≤ 2 + x.fmod 15 ∧ 2 + x.fmod 15 ≤ 16 := by
  have h1 := Int.fmod_nonneg_of_pos x (show (0 : Int) < 15 by decide)
  have h2 := Int.fmod_lt_of_pos x (show (0 : Int) < 15 by decide)
  omega
theorem fmod5b (x : Int) : 0 ≤ x.fmod 5 ∧ x.fmod 5 < 5 := ⟨Int.fmod_nonneg_of_pos _ (by decide), Int.fmod_lt_of_pos _ (by decide)⟩
theorem tail_x : cl (PySem.Str.ofString " x") = [32, 120] ∧ 120 ≠ 34 := by decide +kernel
theorem tail_c {z : Nat} (h : (PySem.Str.ofString " " ++ (⟨#[z]⟩ : PySem.Str) == PySem.Str.ofString " \"") = false) : cl (PySem.Str.ofString " " ++ (⟨#[z]⟩ : PySem.Str)) = [32, z] ∧ z ≠ 34 := by
  have e : cl (PySem.Str.ofString " " ++ (⟨#[z]⟩ : PySem.Str)) = [32, z] := by
    rw [cl_append, show cl (PySem.Str.ofString " ") = [32] by decide +kernel]; rfl
  refine ⟨e, fun hz => ?_⟩
  rw [beq_cl, e, show cl (PySem.Str.ofString " \"") = [32, 34] by decide +kernel, hz] at h
  simp at h
theorem ref_is {p s : Nat} (h : (mkS (ref p s) == (⟨#[s]⟩ : PySem.Str)) = true) : ref p s = [s] := by
  rw [beq_cl, cl_mkS] at h
  exact of_decide_eq_true h
theorem ref_not {p s : Nat} (h : (mkS (ref p s) == (⟨#[s]⟩ : PySem.Str)) = false) : ref p s ≠ [s] := by
  rw [beq_cl, cl_mkS] at h
  exact of_decide_eq_false h
theorem and_cl (s : Nat) : cl (PySem.Str.ofString "&" ++ (⟨#[s]⟩ : PySem.Str)) = [38, s] := by
  rw [cl_append, show cl (PySem.Str.ofString "&") = [38] by decide +kernel]; rfl
theorem and_len (s : Nat) : (PySem.Str.ofString "&" ++ (⟨#[s]⟩ : PySem.Str)).length ≤ 2 := by
  rw [cl_len, and_cl]; exact Nat.le_refl _
theorem mul_qt {tl : PySem.Str} {t : List Nat} (n : Int) (h : cl tl = t) : cl (Txt.mul (PySem.Str.ofString "\"") n ++ tl) = qt n.toNat t := by
  rw [cl_append, h, litQ1]
  unfold qt
  congr 1
  exact mul_one_list 34 n
theorem once_pg (p s : Nat) : cl (pageS p (PySem.Str.ofString "&" ++ (⟨#[s]⟩ : PySem.Str))) = pg p s 0 := by
  rw [pageS, cl_mkS, and_cl]; rfl
noncomputable def ToldOk (p s : Nat) (mk : Int) (kvs : List (PySem.Str × Value)) : Prop := ∀ k v, PySem.valueAt kvs k = some v → ∃ d t, d ≤ 4 ∧ cl k = pg p s d ∧ v = Value.int (8 * mk * (d : Int)) t
theorem valueAt_snoc (kvs : List (PySem.Str × Value)) (k : PySem.Str) (v : Value) (h : PySem.valueAt kvs k = none) (x : PySem.Str) : PySem.valueAt (kvs ++ [(k, v)]) x = if k = x then some v else PySem.valueAt kvs x := by
  unfold PySem.valueAt at h ⊢
  rw [List.find?_append]
  by_cases e : k = x
  · subst e
    rw [if_pos rfl]
    cases hf : kvs.find? (fun kv => kv.1 = k) with
    | none => simp
    | some q => rw [hf] at h; cases h
  · rw [if_neg e]
    cases kvs.find? (fun kv => kv.1 = x) with
    | none => simp [e]
    | some q => rfl
theorem told_new {p s : Nat} {mk : Int} {kvs : List (PySem.Str × Value)} (hto : ToldOk p s mk kvs) {px : PySem.Str} {d : Nat} (hk : cl px = pg p s d) (hd : d ≤ 4) {t : Tok} (e : PySem.valueAt kvs px = none) {X : Int} (hX : X = 8 * mk * d) {prog : Program} {w : World} {knd : KeyKind prog w PySem.Str} {od : Obj} (_hD : od.IsDictOf knd (PySem.stored kvs px (.int X t))) :
    ToldOk p s mk (PySem.stored kvs px (.int X t)) ∧ (PySem.stored kvs px (.int X t)).length ≤ kvs.length + 1 ∧ ∃ t', PySem.valueAt (PySem.stored kvs px (.int X t)) px = some (.int (8 * mk * (d : Int)) t') := by
  subst hX
  refine ⟨?_, stored_length_le _ _ _, t, ?_⟩
  · rw [stored_absent e]
    intro k v hv
    rw [valueAt_snoc _ _ _ e] at hv
    split at hv
    · rename_i h; subst h; cases hv
      exact ⟨d, t, hd, hk, rfl⟩
    · exact hto k v hv
  · rw [stored_absent e, valueAt_snoc _ _ _ e, if_pos rfl]
theorem told_old {p s : Nat} (hp : p < 5) {mk : Int} (hm : marksOk p s mk) {kvs : List (PySem.Str × Value)} (hto : ToldOk p s mk kvs) {px : PySem.Str} {d : Nat} (hk : cl px = pg p s d) {v : Value} (e : PySem.valueAt kvs px = some v) : ∃ t, PySem.valueAt kvs px = some (.int (8 * mk * (d : Int)) t) := by
  obtain ⟨d', t, _, h1, rfl⟩ := hto _ _ e
  have := pg_inj hp hm (hk.symm.trans h1)
  subst this
  exact ⟨t, e⟩
theorem skip3 {α : Type} {a b c : α} {l : List α} : ∀ q ∈ a :: b :: l, q ∈ a :: b :: c :: l := by
  intro q hq
  rcases List.mem_cons.mp hq with rfl | hq
  · exact List.mem_cons_self ..
  · rcases List.mem_cons.mp hq with rfl | hq
    · exact List.mem_cons_of_mem _ (List.mem_cons_self ..)
    · exact List.mem_cons_of_mem _ (List.mem_cons_of_mem _ (List.mem_cons_of_mem _ hq))
theorem app4 (a b : PySem.Str) : PySem.Str.ofString "257 \"" ++ a ++ PySem.Str.ofString "\"" ++ b = PySem.Str.ofString "257 \"" ++ (a ++ PySem.Str.ofString "\"" ++ b) :=
  cl_inj (by simp only [cl_append, List.append_assoc])
theorem len_fmod {x : PySem.Str} {n k : Nat} (h : x.length = n) (hk : n % 2 = k) : ((x.length : Int)).fmod 2 = (k : Int) := by
  rw [h, ← hk]
  show ((n : Nat) : Int).fmod ((2 : Nat) : Int) = _
  rw [← Int.ofNat_fmod]
theorem two_at {i : Nat} {v a b : Value} (h : [a, b][i]? = some v) : v = a ∨ v = b := by
  have := List.mem_of_getElem? h
  simp only [List.mem_cons, List.not_mem_nil, or_false] at this
  exact this
theorem fr_k {h₀ h : Heap} {L : Addr} {x : PySem.Str} {v : Value} {m : PySem.Str → Option Value} {ps : List (PySem.Str × Value)} (F : Fr h₀ L h (fun y => if y = x then some v else m y)) (hm : ∀ q ∈ ps, m q.1 = some q.2) (hx : ∀ q ∈ ps.map (·.1), q ≠ x) : Fr h₀ L h (kstB m ((x, v) :: ps)) := by
  have := fr_norm (ps := (x, v) :: ps) F (by
    intro q hq
    rcases List.mem_cons.mp hq with rfl | hq
    · exact if_pos rfl
    · show (if q.1 = x then _ else _) = _
      rw [if_neg (hx _ (List.mem_map.mpr ⟨q, hq, rfl⟩))]; exact hm q hq)
  have e : kstB (fun y => if y = x then some v else m y) ((x, v) :: ps) = kstB m ((x, v) :: ps) := by
    have e1 : kstB m ((x, v) :: ps) = fun y => if y = x then some v else m y := by
      funext z
      show (if z = x then some v else kstB m ps z) = _
      rw [kstB_eq hm fun _ => rfl]
    have e2 : kstB (fun y => if y = x then some v else m y) ((x, v) :: ps) = fun y => if y = x then some v else m y := by
      funext z
      refine kstB_eq (fun q hq => ?_) fun _ => rfl
      rcases List.mem_cons.mp hq with rfl | hq
      · exact if_pos rfl
      · show (if q.1 = x then _ else _) = _
        rw [if_neg (hx _ (List.mem_map.mpr ⟨q, hq, rfl⟩))]; exact hm q hq
    rw [e1, e2]
  rw [e] at this
  exact this
theorem mem_turn {α : Type} {a b c d e : α} {l : List α} : ∀ q ∈ c :: d :: a :: b :: l, q ∈ a :: b :: c :: d :: e :: l := by
  intro q hq
  simp only [List.mem_cons] at hq ⊢
  rcases hq with h | h | h | h | h <;> simp [h]
theorem pile_news {h₀ h : Heap} {L D1 D2 T0 P0 : Addr} {o1 o2 od : Obj} {e : Addr × Obj} {led : List (Addr × Obj)} {k : Nat} (N : News h₀ L h ((D2, o2) :: (D1, o1) :: (T0, od) :: (P0, PySem.W.listOf (refsOf led ++ [Value.ref D1] ++ [Value.ref D2]).toArray k) :: e :: led)) :
    News h₀ L h ((T0, od) :: (P0, PySem.W.listOf (refsOf ((D2, o2) :: (D1, o1) :: led)).toArray k) :: (D2, o2) :: (D1, o1) :: led) := by
  rw [refsOf_cons, refsOf_cons]
  exact cb_drop N mem_turn
theorem toNat5 {p : Int} (h0 : 0 ≤ p) (h5 : p < 5) : p.toNat < 5 := by omega
theorem half1 {n : Nat} (h : 2 ≤ n) : 1 ≤ n / 2 ∧ 1 ≤ n - n / 2 := by omega
theorem qt_len_le {x : PySem.Str} {n k : Nat} {b : Bool} {c : Nat} (h : cl x = qt n (tlOf b c)) (hn : n ≤ k) : x.length ≤ k + 2 := by
  have := tlOf_len b c
  rw [cl_len, h, qt_len]; omega
theorem pile16 {p s c K n d : Nat} {b : Bool} {its : List (Nat × Bool × Nat)} {led : List (Addr × Obj)} (h : Pile p s c its led) (hk : K + quotes ((n, b, d) :: its) ≤ 16) : led.length ≤ 16 := by
  have := pile_len h
  simp only [quotes] at hk
  omega
theorem kvsz {K q : Nat} (h : K + q ≤ 16) : K ≤ sizeLine := by rw [sizeLine_eq]; omega
theorem kv_leaf {K K' d : Nat} {b : Bool} {its : List (Nat × Bool × Nat)} (h : K + quotes ((1, b, d) :: its) ≤ 16) (hk : K' ≤ K + 1) : K' + quotes its ≤ 16 := by
  simp only [quotes] at h
  omega
theorem amp_le {u : PySem.Str} {d : Nat} (h : cl u = amp (d + 1)) (hd : d ≤ 4) : u.length ≤ 21 := by
  rw [cl_len, h, amp_len]; omega
theorem due_one' {p s d : Nat} (hp : p < 5) (hr : ref p s = [s]) {px u : PySem.Str} (hu : cl u = amp (d + 1)) (h : cl px = pg p s d) : (px != u ++ (⟨#[s]⟩ : PySem.Str)) = false := by
  rw [bne_cl, cl_append, hu, h, pg_one hp hr]
  exact decide_eq_false (fun e => e rfl)
theorem due_two' {p s d : Nat} (hp : p < 5) (hd : d ≤ 4) (hr : ref p s ≠ [s]) {px u : PySem.Str} (hu : cl u = amp (d + 1)) (h : cl px = pg p s d) : (px != u ++ PySem.Str.ofString "&" ++ Txt.mul (PySem.Str.ofString "amp;") (d : Int) ++ Txt.slice (mkS (ref p s)) (some 1) none) = false := by
  rcases ref_two hp s with h' | ⟨r, h1, h2, _⟩
  · exact absurd h' hr
  rw [bne_cl, cl_append, cl_append, cl_append, hu, litAnd, mul_ampY d (by omega), slice_from _ (by decide) (by rw [cl_mkS, h1]; simp; omega), cl_mkS, h1, h, pg_more hp h1 h2]
  refine decide_eq_false (fun e => e ?_)
  show _ = amp (d + 1) ++ [38] ++ ys d ++ r
  rw [List.append_assoc, List.append_assoc]; rfl
theorem pow16 {n d : Nat} (h : n ≤ 2 ^ (4 - d)) : n ≤ 16 := Nat.le_trans h (Nat.pow_le_pow_right (n := 2) (by decide) (show 4 - d ≤ 4 by omega))
theorem run_eq {ls : List PySem.Str} {tx y : PySem.Str} {n c : Nat} {b : Bool} (hl : ls = Txt.split tx (PySem.Str.ofString " ")) (h : ls[Int.toNat 0]? = some y) (htx : cl tx = qt n (tlOf b c)) : cl y = qt n [] ∧ y.length = n := by
  obtain ⟨q, r, e, h1, h2⟩ := run_is htx
  rw [hl, e] at h
  have : q = y := by simpa using h
  subst this
  exact ⟨h1, h2⟩
theorem worth_start (n : Nat) (mk : Int) : 0 + 8 * mk * worth [(n, true, 0)] = 8 * mk * lst n := by
  simp [worth]
theorem had0 {P0 T0 D0 : Addr} {o : Obj} (l : P0 < T0 ∧ D0 < T0) (h : D0 < P0) : ∀ q ∈ [(D0, o)], q.1 ≠ P0 ∧ q.1 ≠ T0 := by
  intro q hq
  rw [List.mem_singleton.mp hq]
  exact ⟨Nat.ne_of_lt h, Nat.ne_of_lt l.2⟩
theorem pos_of {l : List Int} (h : decide (l = []) = false) : 0 < l.length := List.length_pos_iff.mpr (of_decide_eq_false h)
end Mine
end
section
open PySem PySem.W PyProof.Rows
set_option Elab.async false
set_option maxRecDepth 100000
namespace Mine

set_option maxHeartbeats 8000000 in
theorem law2 : PySem.Challenge.rw_wn0093_02.Holds := hd2 (by
  k_go0
  (all_goals try k_fold)
  rename_i w s₀ s₁ mg mb G Y fa o pm doc kV ho hg KX X V GL T B TE TW wa wb M wc wd hcd script hs hlay0 hL1 hr1 hl2 we wf la vs wg hL ra w1 r0 hI hr hlen hcond K0 hD h₁ F1 N1
  repeat' ((fail_if_success (with_reducible show wpAny _ _ (PySem.exec (PySem.Stmt.If (PySem.Expr.Compare (PySem.Expr.Name (PySem.Str.ofString "script") _) _ _ _) _ _ _) _) _ _ _)); (first | ((with_reducible show wpAny _ _ (PySem.call (Value.ref _) _) _ _ _); k_here; k_dflt ((first | apply Ctr.use (parse257_ctr _ _ _ _ _ _) | apply Ctr.use (law_write_ctr _ _ _ _ _ _ _ _) | apply Ctr.use (law_reference_ctr _ _ _ _ _ _ _ _) | apply Ctr.use (law_least_ctr _ _ _ _ _ _) | apply Ctr.use (lev_ctr _ _ _ _ _ _ _ _ _ _)); k_asm; k_asm; k_asm; k_asm; k_asm; (first | exact rfl | assumption); (first | omega | exact ⟨by omega, by omega⟩ | exact ⟨by omega, by omega, by omega⟩); ktr_room; ktr_units); intro _ _ _ _ _; (try dsimp only); (try k_fold)) | (k_unfold; (try dsimp only)) | (k_end; wrow_close) | walk1 | (dsimp only; walk1) | (leave1; walk_say "STEP leave1"; try dsimp only) | fail "no step"))
  rename Fr _ _ _ _ => F2
  rename News _ _ _ _ => N2
  obtain ⟨W, hW⟩ : ∃ W : Int, script.sum = W := ⟨_, rfl⟩
  rw [hW] at F2
  clear hW
  obtain ⟨sz, hsz, hsz2, hsz16⟩ : ∃ sz : Int, 2 + (W + 5).fmod 15 = sz ∧ 2 ≤ sz ∧ sz ≤ 16 := ⟨_, rfl, fmod15 _⟩
  obtain ⟨p, hp, hp0, hp5⟩ : ∃ p : Int, (W.fdiv 15).fmod 5 = p ∧ 0 ≤ p ∧ p < 5 := ⟨_, rfl, fmod5b _⟩
  rw [hsz, hp] at F2
  clear hsz hp
  with_reducible refine stmt_joinO (fun s' => ∃ (x y : Int) (tW tS tP tx ty : Tok) (h : Heap) (tk : Nat) (m1 : Str → Option Value), s' = { s₁ with heap := h, toks := tk } ∧ Fr s₁.heap s₁.heap.objs.size h (kstB m1 [(PySem.Str.ofString "total", .int W tW), (PySem.Str.ofString "size", .int sz tS), (PySem.Str.ofString "place", .int p tP), (PySem.Str.ofString "x", .int x tx), (PySem.Str.ofString "y", .int y ty)])) (fun R' hR' => ?_) ?_
  · repeat' ((fail_if_success (with_reducible show wpAny _ _ (PySem.exec (PySem.Stmt.Assign [PySem.Expr.Name (PySem.Str.ofString "x") _] _ _) _) _ _ _)); (first | ((with_reducible show wpAny _ _ (PySem.call (Value.ref _) _) _ _ _); k_here; k_dflt ((first | apply Ctr.use (parse257_ctr _ _ _ _ _ _) | apply Ctr.use (law_write_ctr _ _ _ _ _ _ _ _) | apply Ctr.use (law_reference_ctr _ _ _ _ _ _ _ _) | apply Ctr.use (law_least_ctr _ _ _ _ _ _) | apply Ctr.use (lev_ctr _ _ _ _ _ _ _ _ _ _)); k_asm; k_asm; k_asm; k_asm; k_asm; (first | exact rfl | assumption); (first | omega | exact ⟨by omega, by omega⟩ | exact ⟨by omega, by omega, by omega⟩); ktr_room; ktr_units); intro _ _ _ _ _; (try dsimp only); (try k_fold)) | (k_unfold; (try dsimp only)) | (k_end; wrow_close) | walk1 | (dsimp only; walk1) | (leave1; walk_say "STEP leave1"; try dsimp only) | fail "no step"))
    · rename Fr _ _ _ _ => F3
      refine' JoinEnd.intro (hR' _ ⟨_, _, _, _, _, _, _, _, _, _, rfl, fr_norm F3 ?hkx1⟩)
      (case hkx1 => kst_all)
    have hpos : 0 < script.length := pos_of (by assumption)
    repeat' ((first | ((with_reducible show wpAny _ _ (PySem.call (Value.ref _) _) _ _ _); k_here; k_dflt ((first | apply Ctr.use (parse257_ctr _ _ _ _ _ _) | apply Ctr.use (law_write_ctr _ _ _ _ _ _ _ _) | apply Ctr.use (law_reference_ctr _ _ _ _ _ _ _ _) | apply Ctr.use (law_least_ctr _ _ _ _ _ _) | apply Ctr.use (lev_ctr _ _ _ _ _ _ _ _ _ _)); k_asm; k_asm; k_asm; k_asm; k_asm; (first | exact rfl | assumption); (first | omega | exact ⟨by omega, by omega⟩ | exact ⟨by omega, by omega, by omega⟩); ktr_room; ktr_units); intro _ _ _ _ _; (try dsimp only); (try k_fold)) | (k_unfold; (try dsimp only)) | (k_end; wrow_close) | walk1 | (dsimp only; walk1) | (leave1; walk_say "STEP leave1"; try dsimp only) | fail "no step"))
    rename Fr _ _ _ _ => F3
    refine' JoinEnd.intro (hR' _ ⟨_, _, _, _, _, _, _, _, _, _, rfl, fr_norm F3 ?hkx2⟩)
    (case hkx2 => kst_all)
  rintro s' ⟨x, y, tW, tS, tP, tx, ty, h7, tk7, m7, rfl, F7⟩
  dsimp only [kstB] at F7
  dsimp only
  have N7 : News s₁.heap s₁.heap.objs.size h7 [] := News.nil
  exact (by
   repeat' ((fail_if_success (with_reducible show wpAny _ _ (PySem.exec (PySem.Stmt.If (PySem.Expr.Compare _ _ _ _) _ _ _) _) _ _ _)); (first | ((with_reducible show wpAny _ _ (PySem.call (Value.ref _) _) _ _ _); k_here; k_dflt ((first | apply Ctr.use (parse257_ctr _ _ _ _ _ _) | apply Ctr.use (law_write_ctr _ _ _ _ _ _ _ _) | apply Ctr.use (law_reference_ctr _ _ _ _ _ _ _ _) | apply Ctr.use (law_least_ctr _ _ _ _ _ _) | apply Ctr.use (lev_ctr _ _ _ _ _ _ _ _ _ _)); k_asm; k_asm; k_asm; k_asm; k_asm; (first | exact rfl | assumption); (first | omega | exact ⟨by omega, by omega⟩ | exact ⟨by omega, by omega, by omega⟩); ktr_room; ktr_units); intro _ _ _ _ _; (try dsimp only); (try k_fold)) | (k_unfold; (try dsimp only)) | (k_end; wrow_close) | walk1 | (dsimp only; walk1) | (leave1; walk_say "STEP leave1"; try dsimp only) | fail "no step"))
   with_reducible refine stmt_joinO (fun s' => ∃ (s : Nat) (tW tS tP tx ty tg : Tok) (h : Heap) (tk : Nat) (m1 : Str → Option Value), s' = { s₁ with heap := h, toks := tk } ∧ Fr s₁.heap s₁.heap.objs.size h (kstB m1 [(PySem.Str.ofString "total", .int W tW), (PySem.Str.ofString "size", .int sz tS), (PySem.Str.ofString "place", .int p tP), (PySem.Str.ofString "x", .int x tx), (PySem.Str.ofString "y", .int y ty), (PySem.Str.ofString "sign", .str ⟨#[s]⟩ tg)])) (fun R' hR' => ?_) ?_
   · repeat' ((first | ((with_reducible show wpAny _ _ (PySem.call (Value.ref _) _) _ _ _); k_here; k_dflt ((first | apply Ctr.use (parse257_ctr _ _ _ _ _ _) | apply Ctr.use (law_write_ctr _ _ _ _ _ _ _ _) | apply Ctr.use (law_reference_ctr _ _ _ _ _ _ _ _) | apply Ctr.use (law_least_ctr _ _ _ _ _ _) | apply Ctr.use (lev_ctr _ _ _ _ _ _ _ _ _ _)); k_asm; k_asm; k_asm; k_asm; k_asm; (first | exact rfl | assumption); (first | omega | exact ⟨by omega, by omega⟩ | exact ⟨by omega, by omega, by omega⟩); ktr_room; ktr_units); intro _ _ _ _ _; (try dsimp only); (try k_fold)) | (k_unfold; (try dsimp only)) | (k_end; wrow_close) | walk1 | (dsimp only; walk1) | (leave1; walk_say "STEP leave1"; try dsimp only) | fail "no step"))
     · rename Fr _ _ _ _ => F3
       obtain ⟨c, hc⟩ := one_of_length (by assumption)
       rw [hc] at F3
       refine' JoinEnd.intro (hR' _ ⟨_, _, _, _, _, _, _, _, _, _, rfl, fr_norm F3 ?hkx3⟩)
       (case hkx3 => kst_all)
     · rename Fr _ _ _ _ => F3
       refine' JoinEnd.intro (hR' _ ⟨_, _, _, _, _, _, _, _, _, _, rfl, fr_norm F3 ?hkx4⟩)
       (case hkx4 => kst_all)
   (try clear F7)
   rintro s' ⟨s, tW, tS, tP, tx, ty, tg, h7, tk7, m7, rfl, F7⟩
   dsimp only [kstB] at F7
   dsimp only
   have N7 : News s₁.heap s₁.heap.objs.size h7 [] := News.nil
   repeat' ((fail_if_success (with_reducible show wpAny _ _ (PySem.exec (PySem.Stmt.If (PySem.Expr.Compare _ _ _ _) _ _ _) _) _ _ _)); (first | ((with_reducible show wpAny _ _ (PySem.call (Value.ref _) _) _ _ _); k_here; k_dflt ((first | apply Ctr.use (parse257_ctr _ _ _ _ _ _) | apply Ctr.use (law_write_ctr _ _ _ _ _ _ _ _) | apply Ctr.use (law_reference_ctr _ _ _ _ _ _ _ _) | apply Ctr.use (law_least_ctr _ _ _ _ _ _) | apply Ctr.use (lev_ctr _ _ _ _ _ _ _ _ _ _)); k_asm; k_asm; k_asm; k_asm; k_asm; (first | exact rfl | assumption); (first | omega | exact ⟨by omega, by omega⟩ | exact ⟨by omega, by omega, by omega⟩); ktr_room; ktr_units); intro _ _ _ _ _; (try dsimp only); (try k_fold)) | (k_unfold; (try dsimp only)) | (k_end; wrow_close) | walk1 | (dsimp only; walk1) | (leave1; walk_say "STEP leave1"; try dsimp only) | fail "no step"))
   with_reducible refine stmt_joinO (fun s' => ∃ (tl : Str) (c : Nat) (tW tS tP tg tt : Tok) (h : Heap) (tk : Nat) (m1 : Str → Option Value), s' = { s₁ with heap := h, toks := tk } ∧ (cl tl = [32, c] ∧ c ≠ 34) ∧ Fr s₁.heap s₁.heap.objs.size h (kstB m1 [(PySem.Str.ofString "total", .int W tW), (PySem.Str.ofString "size", .int sz tS), (PySem.Str.ofString "place", .int p tP), (PySem.Str.ofString "sign", .str ⟨#[s]⟩ tg), (PySem.Str.ofString "tail", .str tl tt)])) (fun R' hR' => ?_) ?_
   · repeat' ((first | ((with_reducible show wpAny _ _ (PySem.call (Value.ref _) _) _ _ _); k_here; k_dflt ((first | apply Ctr.use (parse257_ctr _ _ _ _ _ _) | apply Ctr.use (law_write_ctr _ _ _ _ _ _ _ _) | apply Ctr.use (law_reference_ctr _ _ _ _ _ _ _ _) | apply Ctr.use (law_least_ctr _ _ _ _ _ _) | apply Ctr.use (lev_ctr _ _ _ _ _ _ _ _ _ _)); k_asm; k_asm; k_asm; k_asm; k_asm; (first | exact rfl | assumption); (first | omega | exact ⟨by omega, by omega⟩ | exact ⟨by omega, by omega, by omega⟩); ktr_room; ktr_units); intro _ _ _ _ _; (try dsimp only); (try k_fold)) | (k_unfold; (try dsimp only)) | (k_end; wrow_close) | walk1 | (dsimp only; walk1) | (leave1; walk_say "STEP leave1"; try dsimp only) | fail "no step"))
     · rename Fr _ _ _ _ => F3
       refine' JoinEnd.intro (hR' _ ⟨_, 120, _, _, _, _, _, _, _, _, rfl, tail_x, fr_norm F3 ?hkx5⟩)
       (case hkx5 => kst_all)
     · rename Fr _ _ _ _ => F3
       refine' JoinEnd.intro (hR' _ ⟨_, _, _, _, _, _, _, _, _, _, rfl, tail_c (by assumption), fr_norm F3 ?hkx6⟩)
       (case hkx6 => kst_all)
   (try clear F7)
   rintro s' ⟨tl, c, tW, tS, tP, tg, tt, h7, tk7, m7, rfl, ⟨hcl, hc34⟩, F7⟩
   dsimp only [kstB] at F7
   dsimp only
   have N7 : News s₁.heap s₁.heap.objs.size h7 [] := News.nil
   repeat' ((fail_if_success (with_reducible show wpAny _ _ (PySem.exec (PySem.Stmt.Assign [PySem.Expr.Name (PySem.Str.ofString "reference") _] _ _) _) _ _ _)); (first | ((with_reducible show wpAny _ _ (PySem.call (Value.ref _) _) _ _ _); k_here; k_dflt ((first | apply Ctr.use (parse257_ctr _ _ _ _ _ _) | apply Ctr.use (law_write_ctr _ _ _ _ _ _ _ _) | apply Ctr.use (law_reference_ctr _ _ _ _ _ _ _ _) | apply Ctr.use (law_least_ctr _ _ _ _ _ _) | apply Ctr.use (lev_ctr _ _ _ _ _ _ _ _ _ _)); k_asm; k_asm; k_asm; k_asm; k_asm; (first | exact rfl | assumption); (first | omega | exact ⟨by omega, by omega⟩ | exact ⟨by omega, by omega, by omega⟩); ktr_room; ktr_units); intro _ _ _ _ _; (try dsimp only); (try k_fold)) | (k_unfold; (try dsimp only)) | (k_end; wrow_close) | walk1 | (dsimp only; walk1) | (leave1; walk_say "STEP leave1"; try dsimp only) | fail "no step"))
   exact (by
    repeat' ((fail_if_success (with_reducible show wpAny _ _ (PySem.exec (PySem.Stmt.Assign [PySem.Expr.Name (PySem.Str.ofString "marks") _] _ _) _) _ _ _)); (first | ((with_reducible show wpAny _ _ (PySem.call (Value.ref _) _) _ _ _); k_here; k_dflt ((first | apply Ctr.use (parse257_ctr _ _ _ _ _ _) | apply Ctr.use (law_write_ctr _ _ _ _ _ _ _ _) | apply Ctr.use (law_reference_ctr _ _ _ _ _ _ _ _) | apply Ctr.use (law_least_ctr _ _ _ _ _ _) | apply Ctr.use (lev_ctr _ _ _ _ _ _ _ _ _ _)); k_asm; k_asm; k_asm; k_asm; k_asm; (first | exact rfl | assumption); (first | omega | exact ⟨by omega, by omega⟩ | exact ⟨by omega, by omega, by omega⟩); ktr_room; ktr_units); intro _ _ _ _ _; (try dsimp only); (try k_fold)) | (k_unfold; (try dsimp only)) | (k_end; wrow_close) | walk1 | (dsimp only; walk1) | (leave1; walk_say "STEP leave1"; try dsimp only) | fail "no step"))
    with_reducible refine stmt_joinO (fun s' => ∃ (mk : Int) (tW tS tP tg tt tr tm : Tok) (h : Heap) (tk : Nat) (m1 : Str → Option Value), s' = { s₁ with heap := h, toks := tk } ∧ ((mk = 1 ∧ ref p.toNat s = [s]) ∨ (mk = 2 ∧ ref p.toNat s ≠ [s])) ∧ Fr s₁.heap s₁.heap.objs.size h (kstB m1 [(PySem.Str.ofString "total", .int W tW), (PySem.Str.ofString "size", .int sz tS), (PySem.Str.ofString "place", .int p tP), (PySem.Str.ofString "sign", .str ⟨#[s]⟩ tg), (PySem.Str.ofString "tail", .str tl tt), (PySem.Str.ofString "reference", .str (mkS (ref p.toNat s)) tr), (PySem.Str.ofString "marks", .int mk tm)])) (fun R' hR' => ?_) ?_
    · repeat' ((first | ((with_reducible show wpAny _ _ (PySem.call (Value.ref _) _) _ _ _); k_here; k_dflt ((first | apply Ctr.use (parse257_ctr _ _ _ _ _ _) | apply Ctr.use (law_write_ctr _ _ _ _ _ _ _ _) | apply Ctr.use (law_reference_ctr _ _ _ _ _ _ _ _) | apply Ctr.use (law_least_ctr _ _ _ _ _ _) | apply Ctr.use (lev_ctr _ _ _ _ _ _ _ _ _ _)); k_asm; k_asm; k_asm; k_asm; k_asm; (first | exact rfl | assumption); (first | omega | exact ⟨by omega, by omega⟩ | exact ⟨by omega, by omega, by omega⟩); ktr_room; ktr_units); intro _ _ _ _ _; (try dsimp only); (try k_fold)) | (k_unfold; (try dsimp only)) | (k_end; wrow_close) | walk1 | (dsimp only; walk1) | (leave1; walk_say "STEP leave1"; try dsimp only) | fail "no step"))
      · rename Fr _ _ _ _ => F3
        refine' JoinEnd.intro (hR' _ ⟨1, _, _, _, _, _, _, _, _, _, _, rfl, .inl ⟨rfl, ref_is (by assumption)⟩, fr_norm F3 ?hkx7⟩)
        (case hkx7 => kst_all)
      · rename Fr _ _ _ _ => F3
        refine' JoinEnd.intro (hR' _ ⟨2, _, _, _, _, _, _, _, _, _, _, rfl, .inr ⟨rfl, ref_not (by assumption)⟩, fr_norm F3 ?hkx8⟩)
        (case hkx8 => kst_all)
    (try clear F7); (try clear N7)
    rintro s' ⟨mk, tW, tS, tP, tg, tt, tr, tm, h7, tk7, m7, rfl, hmk, F7⟩
    dsimp only [kstB] at F7
    dsimp only
    have N7 : News s₁.heap s₁.heap.objs.size h7 [] := News.nil
    have honce : (PySem.Str.ofString "&" ++ (⟨#[s]⟩ : PySem.Str)).length ≤ 2 := and_len s
    repeat' ((fail_if_success (with_reducible show wpAny _ _ (PySem.exec (PySem.Stmt.Assign [PySem.Expr.Name (PySem.Str.ofString "pile") _] _ _) _) _ _ _)); (first | ((with_reducible show wpAny _ _ (PySem.call (Value.ref _) _) _ _ _); k_here; k_dflt ((first | apply Ctr.use (parse257_ctr _ _ _ _ _ _) | apply Ctr.use (law_write_ctr _ _ _ _ _ _ _ _) | apply Ctr.use (law_reference_ctr _ _ _ _ _ _ _ _) | apply Ctr.use (law_least_ctr _ _ _ _ _ _) | apply Ctr.use (lev_ctr _ _ _ _ _ _ _ _ _ _)); k_asm; k_asm; k_asm; k_asm; k_asm; (first | exact rfl | assumption); (first | omega | exact ⟨by omega, by omega⟩ | exact ⟨by omega, by omega, by omega⟩); ktr_room; ktr_units); intro _ _ _ _ _; (try dsimp only); (try k_fold)) | (k_unfold; (try dsimp only)) | (k_end; wrow_close) | walk1 | (dsimp only; walk1) | (leave1; walk_say "STEP leave1"; try dsimp only) | fail "no step"))
    exact (by
     have htl : tl.length = 2 := by rw [cl_len, hcl]; rfl
     repeat' ((fail_if_success (with_reducible show wpAny _ _ (PySem.exec (PySem.Stmt.While _ _ _ _) _) _ _ _)); (first | ((with_reducible show wpAny _ _ (PySem.call (Value.ref _) _) _ _ _); k_here; k_dflt ((first | apply Ctr.use (parse257_ctr _ _ _ _ _ _) | apply Ctr.use (law_write_ctr _ _ _ _ _ _ _ _) | apply Ctr.use (law_reference_ctr _ _ _ _ _ _ _ _) | apply Ctr.use (law_least_ctr _ _ _ _ _ _) | apply Ctr.use (lev_ctr _ _ _ _ _ _ _ _ _ _)); k_asm; k_asm; k_asm; k_asm; k_asm; (first | exact rfl | assumption); (first | omega | exact ⟨by omega, by omega⟩ | exact ⟨by omega, by omega, by omega⟩); ktr_room; ktr_units); intro _ _ _ _ _; (try dsimp only); (try k_fold)) | (k_unfold; (try dsimp only)) | (k_end; wrow_close) | walk1 | (dsimp only; walk1) | (leave1; walk_say "STEP leave1"; try dsimp only) | fail "no step"))
     rename_i tO D0 _ _ P0 _ _ _ F8 N8 T0 _ o0 lo0 hs0 fs0 hi0 fi0 l0 _ h8 F9 N9
     (try clear F8); (try clear N8); clear fs0 hi0 fi0
     obtain ⟨tx0, etx, hqt⟩ : ∃ tx0 : Str, Txt.mul (PySem.Str.ofString "\"") sz ++ tl = tx0 ∧ cl tx0 = qt sz.toNat [32, c] := ⟨_, rfl, mul_qt sz hcl⟩
     obtain ⟨on, eon, hon⟩ : ∃ on : Str, pageS p.toNat (PySem.Str.ofString "&" ++ (⟨#[s]⟩ : Str)) = on ∧ cl on = pg p.toNat s 0 := ⟨_, rfl, once_pg _ _⟩
     rw [etx, eon] at N9
     rw [eon] at F9
     clear etx eon
     exact (by
      obtain ⟨J, hJ⟩ : ∃ J : Nat → (Str → Option Value) → List (Addr × Obj) → Prop, ∀ N m nx, J N m nx ↔ (∃ (its : List (Nat × Bool × Nat)) (led : List (Addr × Obj)) (cc : Nat) (od : Obj) (kvs : List (Str × Value)) (wh : Int) (tW tS tP tg tr tm tn th : Tok), nx = (T0, od) :: (P0, PySem.W.listOf (refsOf led).toArray cc) :: led ∧ Pile p.toNat s c its led ∧ od.IsDictOf (PySem.strKind prg w) kvs ∧ ToldOk p.toNat s mk kvs ∧ kvs.length + quotes its ≤ 16 ∧ N = steps2 its ∧ wh + 8 * mk * worth its = 8 * mk * lst sz.toNat ∧ (∀ q ∈ led, q.1 ≠ P0 ∧ q.1 ≠ T0) ∧ ∀ q ∈ [(PySem.Str.ofString "total", .int W tW), (PySem.Str.ofString "size", .int sz tS), (PySem.Str.ofString "place", .int p tP), (PySem.Str.ofString "sign", .str ⟨#[s]⟩ tg), (PySem.Str.ofString "reference", .str (mkS (ref p.toNat s)) tr), (PySem.Str.ofString "marks", .int mk tm), (PySem.Str.ofString "once", .str on tn), (PySem.Str.ofString "pile", .ref P0), (PySem.Str.ofString "told", .ref T0), (PySem.Str.ofString "whole", .int wh th)], m q.1 = some q.2) := ⟨_, fun _ _ _ => Iff.rfl⟩
      refine While_inv (h₀ := s₁.heap) (n₀ := steps2 [(sz.toNat, true, 0)]) J F9 N9 ?_ ?_
      · refine' (hJ _ _ _).mpr ⟨[(sz.toNat, true, 0)], [(D0, itO tx0 on 0 _ _ _)], 0, o0, [], 0, _, _, _, _, _, _, _, _, rfl, Pile.cons hqt hon (by omega) (by show sz.toNat ≤ 16; omega) (by omega) .nil, hs0, (fun k v hv => by cases hv), (by simp only [quotes, List.length_nil]; omega), rfl, worth_start _ _, (had0 l0 (by assumption)), ?hkx9⟩
        (case hkx9 => kst_all)
      rintro N m nx h tk F10 N10 hJ0
      obtain ⟨its, led, cc, od, kvs, wh, tW, tS, tP, tg, tr, tm, tn, th, rfl, hPi, hdi, hto, hkv, rfl, hwh, had, hm⟩ := (hJ _ _ _).mp hJ0
      clear hJ0
      have F11 : Fr s₁.heap s₁.heap.objs.size h _ := fr_norm F10 hm
      have N11 : News s₁.heap s₁.heap.objs.size h _ := N10
      clear F10 N10 F9 N9
      dsimp only [kstB] at F11
      repeat' ((fail_if_success (with_reducible show wpAny _ _ (PySem.compareOp _ _ _) _ _ _)); (first | ((with_reducible show wpAny _ _ (PySem.call (Value.ref _) _) _ _ _); k_here; k_dflt ((first | apply Ctr.use (parse257_ctr _ _ _ _ _ _) | apply Ctr.use (law_write_ctr _ _ _ _ _ _ _ _) | apply Ctr.use (law_reference_ctr _ _ _ _ _ _ _ _) | apply Ctr.use (law_least_ctr _ _ _ _ _ _) | apply Ctr.use (lev_ctr _ _ _ _ _ _ _ _ _ _)); k_asm; k_asm; k_asm; k_asm; k_asm; (first | exact rfl | assumption); (first | omega | exact ⟨by omega, by omega⟩ | exact ⟨by omega, by omega, by omega⟩); ktr_room; ktr_units); intro _ _ _ _ _; (try dsimp only); (try k_fold)) | (k_unfold; (try dsimp only)) | (k_end; wrow_close) | walk1 | (dsimp only; walk1) | (leave1; walk_say "STEP leave1"; try dsimp only) | fail "no step"))
      rename_i B0 hB F12 N12 l12
      (try clear F11); (try clear N11)
      refine ne_led N12 (List.mem_cons_of_mem _ (List.mem_cons_of_mem _ (List.mem_cons_self ..))) (List.mem_cons_self ..) (by ke_room) ?_
      cases hPi
      · have hfin : wh = 8 * mk * leastL.getD sz.toNat 0 := by
          rw [show worth [] = 0 from rfl, Int.mul_zero, Int.add_zero] at hwh; exact hwh
        rw [show decide (refsOf ([] : List (Addr × Obj)) ≠ []) = false from rfl]
        clear hto hkv hwh had hm l12
        dsimp only
        repeat' ((first | ((with_reducible show wpAny _ _ (PySem.call (Value.ref _) _) _ _ _); k_here; k_dflt ((first | apply Ctr.use (parse257_ctr _ _ _ _ _ _) | apply Ctr.use (law_write_ctr _ _ _ _ _ _ _ _) | apply Ctr.use (law_reference_ctr _ _ _ _ _ _ _ _) | apply Ctr.use (law_least_ctr _ _ _ _ _ _) | apply Ctr.use (lev_ctr _ _ _ _ _ _ _ _ _ _)); k_asm; k_asm; k_asm; k_asm; k_asm; (first | exact rfl | assumption); (first | omega | exact ⟨by omega, by omega⟩ | exact ⟨by omega, by omega, by omega⟩); ktr_room; ktr_units); intro _ _ _ _ _; (try dsimp only); (try k_fold)) | (k_unfold; (try dsimp only)) | (k_end; wrow_close) | walk1 | (dsimp only; walk1) | (leave1; walk_say "STEP leave1"; try dsimp only) | fail "no step"))
      rename_i a tx px t1 t2 t3 n b d its led htx hpx hn1 hn2 hd4 hPi
      have e0 : decide (refsOf ((a, itO tx px d t1 t2 t3) :: led) ≠ []) = true := by
        rw [refsOf_cons]; simp
      rw [e0]
      clear e0
      dsimp only
      repeat' ((fail_if_success (with_reducible show wpAny _ _ (PySem.call (Value.builtin "list.pop") _) _ _ _)); (first | ((with_reducible show wpAny _ _ (PySem.call (Value.ref _) _) _ _ _); k_here; k_dflt ((first | apply Ctr.use (parse257_ctr _ _ _ _ _ _) | apply Ctr.use (law_write_ctr _ _ _ _ _ _ _ _) | apply Ctr.use (law_reference_ctr _ _ _ _ _ _ _ _) | apply Ctr.use (law_least_ctr _ _ _ _ _ _) | apply Ctr.use (lev_ctr _ _ _ _ _ _ _ _ _ _)); k_asm; k_asm; k_asm; k_asm; k_asm; (first | exact rfl | assumption); (first | omega | exact ⟨by omega, by omega⟩ | exact ⟨by omega, by omega, by omega⟩); ktr_room; ktr_units); intro _ _ _ _ _; (try dsimp only); (try k_fold)) | (k_unfold; (try dsimp only)) | (k_end; wrow_close) | walk1 | (dsimp only; walk1) | (leave1; walk_say "STEP leave1"; try dsimp only) | fail "no step"))
      exact (by
       have hPT : P0 ≠ T0 := Nat.ne_of_lt l0.1
       refine pop_led (pre := [(B0, PySem.W.listOf #[] 0), (T0, od)]) (us := refsOf led) (y := Value.ref a) F12 (by rw [← refsOf_cons]; exact N12) ?_ ?_ ?_ fun h13 F13 N13 => ?_
       · intro q hq
         rcases List.mem_cons.mp hq with rfl | hq
         · exact Nat.ne_of_gt l12.2.1
         · rw [List.mem_singleton.mp hq]; exact Ne.symm hPT
       · exact fun q hq => (had q hq).1
       · rw [refsOf_len]
         exact Nat.le_trans (pile16 hPi hkv) (by decide)
       have N14 : News s₁.heap s₁.heap.objs.size h13 ((T0, od) :: (P0, PySem.W.listOf (refsOf led).toArray (cc + 1)) :: (a, itO tx px d t1 t2 t3) :: led) := cb_drop N13 (fun q hq => List.mem_cons_of_mem _ hq)
       clear N13 N12 F12 l12 l0 hs0 tO hqt htl hm
       dsimp only
       have htl : tx.length ≤ 18 := qt_len_le htx (pow16 hn2)
       repeat' ((fail_if_success (with_reducible show wpAny _ _ (PySem.exec (PySem.Stmt.Assign [PySem.Expr.Name (PySem.Str.ofString "rest") _] _ _) _) _ _ _)); (first | ((with_reducible show wpAny _ _ (PySem.call (Value.ref _) _) _ _ _); k_here; k_dflt ((first | apply Ctr.use (parse257_ctr _ _ _ _ _ _) | apply Ctr.use (law_write_ctr _ _ _ _ _ _ _ _) | apply Ctr.use (law_reference_ctr _ _ _ _ _ _ _ _) | apply Ctr.use (law_least_ctr _ _ _ _ _ _) | apply Ctr.use (lev_ctr _ _ _ _ _ _ _ _ _ _)); k_asm; k_asm; k_asm; k_asm; k_asm; (first | exact rfl | assumption); (first | omega | exact ⟨by omega, by omega⟩ | exact ⟨by omega, by omega, by omega⟩); ktr_room; ktr_units); intro _ _ _ _ _; (try dsimp only); (try k_fold)) | (k_unfold; (try dsimp only)) | (k_end; wrow_close) | walk1 | (dsimp only; walk1) | (leave1; walk_say "STEP leave1"; try dsimp only) | fail "no step"))
       rename_i _ _ _ _ _ _ _ hlook hS hlens hIL rn trn hrun h15 F15 N15
       obtain ⟨hrn, hrl⟩ := run_eq hlook hrun htx
       clear hlook hS hlens hIL hrun
       have hn16 := pow16 hn2
       have hr16 : rn.length ≤ 16 := by rw [hrl]; exact hn16
       obtain ⟨m16, F16⟩ : ∃ m0, Fr s₁.heap s₁.heap.objs.size h15 (kstB m0 [(PySem.Str.ofString "total", .int W tW), (PySem.Str.ofString "size", .int sz tS), (PySem.Str.ofString "place", .int p tP), (PySem.Str.ofString "sign", .str ⟨#[s]⟩ tg), (PySem.Str.ofString "reference", .str (mkS (ref p.toNat s)) tr), (PySem.Str.ofString "marks", .int mk tm), (PySem.Str.ofString "once", .str on tn), (PySem.Str.ofString "pile", .ref P0), (PySem.Str.ofString "told", .ref T0), (PySem.Str.ofString "whole", .int wh th), (PySem.Str.ofString "text", .str tx t1), (PySem.Str.ofString "page", .str px t2), (PySem.Str.ofString "deep", .int (d : Int) t3), (PySem.Str.ofString "run", .str rn trn)]) := ⟨_, fr_norm F15 (by kst_all)⟩
       dsimp only [kstB] at F16
       (try clear F15)
       have N16 : News s₁.heap s₁.heap.objs.size h15 ((T0, od) :: (P0, PySem.W.listOf (refsOf led).toArray (cc + 1)) :: (a, itO tx px d t1 t2 t3) :: led) := cb_drop N15 (fun q hq => List.mem_cons_of_mem _ hq)
       (try clear F15); (try clear N15)
       repeat' ((fail_if_success (with_reducible show wpAny _ _ (PySem.exec (PySem.Stmt.If _ _ _ _) _) _ _ _)); (first | ((with_reducible show wpAny _ _ (PySem.call (Value.ref _) _) _ _ _); k_here; k_dflt ((first | apply Ctr.use (parse257_ctr _ _ _ _ _ _) | apply Ctr.use (law_write_ctr _ _ _ _ _ _ _ _) | apply Ctr.use (law_reference_ctr _ _ _ _ _ _ _ _) | apply Ctr.use (law_least_ctr _ _ _ _ _ _) | apply Ctr.use (lev_ctr _ _ _ _ _ _ _ _ _ _)); k_asm; k_asm; k_asm; k_asm; k_asm; (first | exact rfl | assumption); (first | omega | exact ⟨by omega, by omega⟩ | exact ⟨by omega, by omega, by omega⟩); ktr_room; ktr_units); intro _ _ _ _ _; (try dsimp only); (try k_fold)) | (k_unfold; (try dsimp only)) | (k_end; wrow_close) | walk1 | (dsimp only; walk1) | (leave1; walk_say "STEP leave1"; try dsimp only) | fail "no step"))
       exact (by
        rename_i _ trs _ hsl h17 F17 N17
        obtain ⟨rs, ers, hrs⟩ : ∃ rs : Str, Txt.slice tx (some (rn.length : Int)) none = rs ∧ cl rs = tlOf b c := ⟨_, rfl, by rw [hrl]; exact rest_is htx⟩
        rw [ers] at F17 hsl
        clear ers
        obtain ⟨m18, F18⟩ : ∃ m0, Fr s₁.heap s₁.heap.objs.size h17 (kstB m0 [(PySem.Str.ofString "total", .int W tW), (PySem.Str.ofString "size", .int sz tS), (PySem.Str.ofString "place", .int p tP), (PySem.Str.ofString "sign", .str ⟨#[s]⟩ tg), (PySem.Str.ofString "reference", .str (mkS (ref p.toNat s)) tr), (PySem.Str.ofString "marks", .int mk tm), (PySem.Str.ofString "once", .str on tn), (PySem.Str.ofString "pile", .ref P0), (PySem.Str.ofString "told", .ref T0), (PySem.Str.ofString "whole", .int wh th), (PySem.Str.ofString "text", .str tx t1), (PySem.Str.ofString "page", .str px t2), (PySem.Str.ofString "deep", .int (d : Int) t3), (PySem.Str.ofString "run", .str rn trn), (PySem.Str.ofString "rest", .str rs trs)]) := ⟨_, fr_norm F17 (by kst_all)⟩
        dsimp only [kstB] at F18
        (try clear F17)
        by_cases hn : n = 1
        · exact (by
              subst hn
              have hrq : (rn == PySem.Str.ofString "\"") = true := by rw [run_one hrn]; rfl
              repeat' ((fail_if_success (with_reducible show wpAny _ _ (PySem.exec (PySem.Stmt.If (PySem.Expr.Compare (PySem.Expr.Name (PySem.Str.ofString "marks") _) _ _ _) _ _ _) _) _ _ _)); (first | ((with_reducible show wpAny _ _ (PySem.call (Value.ref _) _) _ _ _); k_here; k_dflt ((first | apply Ctr.use (parse257_ctr _ _ _ _ _ _) | apply Ctr.use (law_write_ctr _ _ _ _ _ _ _ _) | apply Ctr.use (law_reference_ctr _ _ _ _ _ _ _ _) | apply Ctr.use (law_least_ctr _ _ _ _ _ _) | apply Ctr.use (lev_ctr _ _ _ _ _ _ _ _ _ _)); k_asm; k_asm; k_asm; k_asm; k_asm; (first | exact rfl | assumption); (first | omega | exact ⟨by omega, by omega⟩ | exact ⟨by omega, by omega, by omega⟩); ktr_room; ktr_units); intro _ _ _ _ _; (try dsimp only); (try k_fold)) | (k_unfold; (try dsimp only)) | (k_end; wrow_close) | walk1 | (dsimp only; walk1) | (leave1; walk_say "STEP leave1"; try dsimp only) | fail "no step"))
              rename Fr _ _ _ _ => F20
              rename News _ _ _ _ => N20
              rename_i _ _ z1 z2 _ _ z3 _
              clear z1 z2 z3
              obtain ⟨u0, eu0, hu0⟩ : ∃ u0 : Str, PySem.Str.ofString "&" ++ Txt.mul (PySem.Str.ofString "amp;") ((d : Int) + 1) = u0 ∧ cl u0 = amp (d + 1) := ⟨_, rfl, due_head hd4⟩
              rw [eu0] at F20
              clear eu0
              have hul0 := amp_le hu0 hd4
              with_reducible refine stmt_joinO (fun s' => ∃ (du : Str) (tdu : Tok) (h : Heap) (tk : Nat) (m1 : Str → Option Value), s' = { s₁ with heap := h, toks := tk } ∧ (px != du) = false ∧ Fr s₁.heap s₁.heap.objs.size h (kstB m1 [(PySem.Str.ofString "total", .int W tW), (PySem.Str.ofString "size", .int sz tS), (PySem.Str.ofString "place", .int p tP), (PySem.Str.ofString "sign", .str ⟨#[s]⟩ tg), (PySem.Str.ofString "reference", .str (mkS (ref p.toNat s)) tr), (PySem.Str.ofString "marks", .int mk tm), (PySem.Str.ofString "once", .str on tn), (PySem.Str.ofString "pile", .ref P0), (PySem.Str.ofString "told", .ref T0), (PySem.Str.ofString "whole", .int wh th), (PySem.Str.ofString "text", .str tx t1), (PySem.Str.ofString "page", .str px t2), (PySem.Str.ofString "deep", .int (d : Int) t3), (PySem.Str.ofString "due", .str du tdu)]) ∧ News s₁.heap s₁.heap.objs.size h ((T0, od) :: (P0, PySem.W.listOf (refsOf led).toArray (cc + 1)) :: (a, itO tx px d t1 t2 t3) :: led)) (fun R' hR' => ?_) ?_
              · rcases hmk with ⟨rfl, hmk⟩ | ⟨rfl, hmk⟩
                · have hdu := due_one' (toNat5 hp0 hp5) hmk hu0 hpx
                  repeat' ((first | ((with_reducible show wpAny _ _ (PySem.call (Value.ref _) _) _ _ _); k_here; k_dflt ((first | apply Ctr.use (parse257_ctr _ _ _ _ _ _) | apply Ctr.use (law_write_ctr _ _ _ _ _ _ _ _) | apply Ctr.use (law_reference_ctr _ _ _ _ _ _ _ _) | apply Ctr.use (law_least_ctr _ _ _ _ _ _) | apply Ctr.use (lev_ctr _ _ _ _ _ _ _ _ _ _)); k_asm; k_asm; k_asm; k_asm; k_asm; (first | exact rfl | assumption); (first | omega | exact ⟨by omega, by omega⟩ | exact ⟨by omega, by omega, by omega⟩); ktr_room; ktr_units); intro _ _ _ _ _; (try dsimp only); (try k_fold)) | (k_unfold; (try dsimp only)) | (k_end; wrow_close) | walk1 | (dsimp only; walk1) | (leave1; walk_say "STEP leave1"; try dsimp only) | fail "no step"))
                  rename Fr _ _ _ _ => F21
                  rename News _ _ _ _ => N21
                  refine' JoinEnd.intro (hR' _ ⟨_, _, _, _, _, rfl, hdu, fr_norm F21 ?hkx10, N21⟩)
                  (case hkx10 => kst_all)
                · have hdu := due_two' (toNat5 hp0 hp5) hd4 hmk hu0 hpx
                  have href : (mkS (ref p.toNat s)).length ≤ 6 := by rw [cl_len]; exact (ref_len _ _).2
                  repeat' ((first | ((with_reducible show wpAny _ _ (PySem.call (Value.ref _) _) _ _ _); k_here; k_dflt ((first | apply Ctr.use (parse257_ctr _ _ _ _ _ _) | apply Ctr.use (law_write_ctr _ _ _ _ _ _ _ _) | apply Ctr.use (law_reference_ctr _ _ _ _ _ _ _ _) | apply Ctr.use (law_least_ctr _ _ _ _ _ _) | apply Ctr.use (lev_ctr _ _ _ _ _ _ _ _ _ _)); k_asm; k_asm; k_asm; k_asm; k_asm; (first | exact rfl | assumption); (first | omega | exact ⟨by omega, by omega⟩ | exact ⟨by omega, by omega, by omega⟩); ktr_room; ktr_units); intro _ _ _ _ _; (try dsimp only); (try k_fold)) | (k_unfold; (try dsimp only)) | (k_end; wrow_close) | walk1 | (dsimp only; walk1) | (leave1; walk_say "STEP leave1"; try dsimp only) | fail "no step"))
                  rename Fr _ _ _ _ => F21
                  rename News _ _ _ _ => N21
                  refine' JoinEnd.intro (hR' _ ⟨_, _, _, _, _, rfl, hdu, fr_norm F21 ?hkx11, N21⟩)
                  (case hkx11 => kst_all)
              clear F20 N20
              rintro s' ⟨du, tdu, h21, tk21, m21, rfl, hdu, F21, N21⟩
              dsimp only [kstB] at F21
              dsimp only
              (try clear F18); (try clear N17)
              repeat' ((fail_if_success (with_reducible show wpAny _ _ (PySem.exec (PySem.Stmt.If (PySem.Expr.Compare (PySem.Expr.Name _ _) [CmpOp.NotIn] _ _) _ _ _) _) _ _ _)); (first | ((with_reducible show wpAny _ _ (PySem.call (Value.ref _) _) _ _ _); k_here; k_dflt ((first | apply Ctr.use (parse257_ctr _ _ _ _ _ _) | apply Ctr.use (law_write_ctr _ _ _ _ _ _ _ _) | apply Ctr.use (law_reference_ctr _ _ _ _ _ _ _ _) | apply Ctr.use (law_least_ctr _ _ _ _ _ _) | apply Ctr.use (lev_ctr _ _ _ _ _ _ _ _ _ _)); k_asm; k_asm; k_asm; k_asm; k_asm; (first | exact rfl | assumption); (first | omega | exact ⟨by omega, by omega⟩ | exact ⟨by omega, by omega, by omega⟩); ktr_room; ktr_units); intro _ _ _ _ _; (try dsimp only); (try k_fold)) | (k_unfold; (try dsimp only)) | (k_end; wrow_close) | walk1 | (dsimp only; walk1) | (leave1; walk_say "STEP leave1"; try dsimp only) | fail "no step"))
              exact (by
               rename Fr _ _ _ _ => F22
               rename News _ _ _ _ => N22
               have hmk2 : 1 ≤ mk ∧ mk ≤ 2 := by rcases hmk with ⟨rfl, _⟩ | ⟨rfl, _⟩ <;> omega
               have hp5' := toNat5 hp0 hp5
               have hpl : px.length ≤ 44 := by rw [cl_len, hpx]; exact pg_len_le hp5' hmk hd4
               have hol : on.length ≤ 44 := by rw [cl_len, hon]; exact pg_len_le hp5' hmk (Nat.zero_le _)
               with_reducible refine stmt_joinO (fun s' => ∃ (od' : Obj) (kvs' : List (Str × Value)) (h : Heap) (tk : Nat) (m1 : Str → Option Value), s' = { s₁ with heap := h, toks := tk } ∧ (od'.IsDictOf (PySem.strKind prg w) kvs' ∧ ToldOk p.toNat s mk kvs' ∧ kvs'.length ≤ kvs.length + 1 ∧ ∃ t, PySem.valueAt kvs' px = some (.int (8 * mk * (d : Int)) t)) ∧ Fr s₁.heap s₁.heap.objs.size h (kstB m1 [(PySem.Str.ofString "total", .int W tW), (PySem.Str.ofString "size", .int sz tS), (PySem.Str.ofString "place", .int p tP), (PySem.Str.ofString "sign", .str ⟨#[s]⟩ tg), (PySem.Str.ofString "reference", .str (mkS (ref p.toNat s)) tr), (PySem.Str.ofString "marks", .int mk tm), (PySem.Str.ofString "once", .str on tn), (PySem.Str.ofString "pile", .ref P0), (PySem.Str.ofString "told", .ref T0), (PySem.Str.ofString "whole", .int wh th), (PySem.Str.ofString "text", .str tx t1), (PySem.Str.ofString "page", .str px t2), (PySem.Str.ofString "deep", .int (d : Int) t3)]) ∧ News s₁.heap s₁.heap.objs.size h ((T0, od') :: (P0, PySem.W.listOf (refsOf led).toArray (cc + 1)) :: (a, itO tx px d t1 t2 t3) :: led)) (fun R' hR' => ?_) ?_
               · repeat' ((fail_if_success (with_reducible show wpAny _ _ (PySem.compareOp CmpOp.NotIn _ _) _ _ _)); (first | ((with_reducible show wpAny _ _ (PySem.call (Value.ref _) _) _ _ _); k_here; k_dflt ((first | apply Ctr.use (parse257_ctr _ _ _ _ _ _) | apply Ctr.use (law_write_ctr _ _ _ _ _ _ _ _) | apply Ctr.use (law_reference_ctr _ _ _ _ _ _ _ _) | apply Ctr.use (law_least_ctr _ _ _ _ _ _) | apply Ctr.use (lev_ctr _ _ _ _ _ _ _ _ _ _)); k_asm; k_asm; k_asm; k_asm; k_asm; (first | exact rfl | assumption); (first | omega | exact ⟨by omega, by omega⟩ | exact ⟨by omega, by omega, by omega⟩); ktr_room; ktr_units); intro _ _ _ _ _; (try dsimp only); (try k_fold)) | (k_unfold; (try dsimp only)) | (k_end; wrow_close) | walk1 | (dsimp only; walk1) | (leave1; walk_say "STEP leave1"; try dsimp only) | fail "no step"))
                 refine kdg_notin (knd := PySem.strKind prg w) N22 (List.mem_cons_self ..) hdi lo0 (strKind_is _ _ _ _) (PySem.valueAt kvs px).isSome rfl ?_
                 cases e : PySem.valueAt kvs px
                 · rw [show (!(Option.isSome (none : Option Value))) = true from rfl]
                   dsimp only
                   repeat' ((fail_if_success (with_reducible show wpAny _ _ (PySem.setItem _ _ _) _ _ _)); (first | ((with_reducible show wpAny _ _ (PySem.call (Value.ref _) _) _ _ _); k_here; k_dflt ((first | apply Ctr.use (parse257_ctr _ _ _ _ _ _) | apply Ctr.use (law_write_ctr _ _ _ _ _ _ _ _) | apply Ctr.use (law_reference_ctr _ _ _ _ _ _ _ _) | apply Ctr.use (law_least_ctr _ _ _ _ _ _) | apply Ctr.use (lev_ctr _ _ _ _ _ _ _ _ _ _)); k_asm; k_asm; k_asm; k_asm; k_asm; (first | exact rfl | assumption); (first | omega | exact ⟨by omega, by omega⟩ | exact ⟨by omega, by omega, by omega⟩); ktr_room; ktr_units); intro _ _ _ _ _; (try dsimp only); (try k_fold)) | (k_unfold; (try dsimp only)) | (k_end; wrow_close) | walk1 | (dsimp only; walk1) | (leave1; walk_say "STEP leave1"; try dsimp only) | fail "no step"))
                   rename Fr _ _ _ _ => F23
                   rename News _ _ _ _ => N23
                   have hX := once_lev hp5' hmk hd4 hon hpx
                   refine kda_set (h₀ := s₁.heap) (knd := PySem.strKind prg w) F23 N23 (UpdF.head ?_) hdi (strKind_is _ _ _ _) ?_ fun h24 od' F24 N24 hd24 => ?_
                   · intro q hq
                     rcases List.mem_cons.mp hq with rfl | hq
                     · exact hPT
                     · exact (had q hq).2
                   · exact kvsz hkv
                   obtain ⟨ht1, ht2, ht3⟩ := told_new hto hpx hd4 e hX hd24
                   clear F23 N23
                   repeat' ((first | ((with_reducible show wpAny _ _ (PySem.call (Value.ref _) _) _ _ _); k_here; k_dflt ((first | apply Ctr.use (parse257_ctr _ _ _ _ _ _) | apply Ctr.use (law_write_ctr _ _ _ _ _ _ _ _) | apply Ctr.use (law_reference_ctr _ _ _ _ _ _ _ _) | apply Ctr.use (law_least_ctr _ _ _ _ _ _) | apply Ctr.use (lev_ctr _ _ _ _ _ _ _ _ _ _)); k_asm; k_asm; k_asm; k_asm; k_asm; (first | exact rfl | assumption); (first | omega | exact ⟨by omega, by omega⟩ | exact ⟨by omega, by omega, by omega⟩); ktr_room; ktr_units); intro _ _ _ _ _; (try dsimp only); (try k_fold)) | (k_unfold; (try dsimp only)) | (k_end; wrow_close) | walk1 | (dsimp only; walk1) | (leave1; walk_say "STEP leave1"; try dsimp only) | fail "no step"))
                   rename Fr _ _ _ _ => F25
                   rename News _ _ _ _ => N25
                   refine' JoinEnd.intro (hR' _ ⟨od', _, _, _, _, rfl, ⟨hd24, ht1, ht2, ht3⟩, fr_norm F25 ?hkx12, N25⟩)
                   (case hkx12 => kst_all)
                 · rename_i vv
                   rw [show (!(Option.isSome (some vv))) = false from rfl]
                   dsimp only
                   repeat' ((first | ((with_reducible show wpAny _ _ (PySem.call (Value.ref _) _) _ _ _); k_here; k_dflt ((first | apply Ctr.use (parse257_ctr _ _ _ _ _ _) | apply Ctr.use (law_write_ctr _ _ _ _ _ _ _ _) | apply Ctr.use (law_reference_ctr _ _ _ _ _ _ _ _) | apply Ctr.use (law_least_ctr _ _ _ _ _ _) | apply Ctr.use (lev_ctr _ _ _ _ _ _ _ _ _ _)); k_asm; k_asm; k_asm; k_asm; k_asm; (first | exact rfl | assumption); (first | omega | exact ⟨by omega, by omega⟩ | exact ⟨by omega, by omega, by omega⟩); ktr_room; ktr_units); intro _ _ _ _ _; (try dsimp only); (try k_fold)) | (k_unfold; (try dsimp only)) | (k_end; wrow_close) | walk1 | (dsimp only; walk1) | (leave1; walk_say "STEP leave1"; try dsimp only) | fail "no step"))
                   rename Fr _ _ _ _ => F23
                   rename News _ _ _ _ => N23
                   refine' JoinEnd.intro (hR' _ ⟨od, kvs, _, _, _, rfl, ⟨hdi, hto, Nat.le_succ _, told_old hp5' hmk hto hpx e⟩, fr_norm F23 ?hkx13, N23⟩)
                   (case hkx13 => kst_all)
               (try clear F22); (try clear N22)
               rintro s' ⟨od', kvs', h24, tk24, m24, rfl, ⟨hdi', hto', hkl, tv, hval⟩, F24, N24⟩
               dsimp only [kstB] at F24
               dsimp only
               exact (by
                repeat' ((fail_if_success (with_reducible show wpAny _ _ (subscriptTail _ _ _ _) _ _ _)); (first | ((with_reducible show wpAny _ _ (PySem.call (Value.ref _) _) _ _ _); k_here; k_dflt ((first | apply Ctr.use (parse257_ctr _ _ _ _ _ _) | apply Ctr.use (law_write_ctr _ _ _ _ _ _ _ _) | apply Ctr.use (law_reference_ctr _ _ _ _ _ _ _ _) | apply Ctr.use (law_least_ctr _ _ _ _ _ _) | apply Ctr.use (lev_ctr _ _ _ _ _ _ _ _ _ _)); k_asm; k_asm; k_asm; k_asm; k_asm; (first | exact rfl | assumption); (first | omega | exact ⟨by omega, by omega⟩ | exact ⟨by omega, by omega, by omega⟩); ktr_room; ktr_units); intro _ _ _ _ _; (try dsimp only); (try k_fold)) | (k_unfold; (try dsimp only)) | (k_end; wrow_close) | walk1 | (dsimp only; walk1) | (leave1; walk_say "STEP leave1"; try dsimp only) | fail "no step"))
                refine kda_item (h₀ := s₁.heap) (knd := PySem.strKind prg w) N24 (List.mem_cons_self ..) hdi' (strKind_is _ _ _ _) hval ?_
                dsimp only
                repeat' ((first | ((with_reducible show wpAny _ _ (PySem.call (Value.ref _) _) _ _ _); k_here; k_dflt ((first | apply Ctr.use (parse257_ctr _ _ _ _ _ _) | apply Ctr.use (law_write_ctr _ _ _ _ _ _ _ _) | apply Ctr.use (law_reference_ctr _ _ _ _ _ _ _ _) | apply Ctr.use (law_least_ctr _ _ _ _ _ _) | apply Ctr.use (lev_ctr _ _ _ _ _ _ _ _ _ _)); k_asm; k_asm; k_asm; k_asm; k_asm; (first | exact rfl | assumption); (first | omega | exact ⟨by omega, by omega⟩ | exact ⟨by omega, by omega, by omega⟩); ktr_room; ktr_units); intro _ _ _ _ _; (try dsimp only); (try k_fold)) | (k_unfold; (try dsimp only)) | (k_end; wrow_close) | walk1 | (dsimp only; walk1) | (leave1; walk_say "STEP leave1"; try dsimp only) | fail "no step"))
                rename Fr _ _ _ _ => F26
                rename News _ _ _ _ => N26
                refine' WhileStep.intro F26 (cb_drop N26 skip3) steps_leaf ((hJ _ _ _).mpr ⟨its, led, cc + 1, od', kvs', wh + 8 * mk * (d : Int), _, _, _, _, _, _, _, _, rfl, hPi, hdi', hto', ?hcx14, rfl, worth_leaf hwh, (fun q hq => had q (List.mem_cons_of_mem _ hq)), ?hkx15⟩)
                (case hcx14 => exact kv_leaf hkv hkl)
                (case hkx15 => kst_all))))
        exact (by
         have hn2' : 2 ≤ n := by omega
         have hrq : (rn == PySem.Str.ofString "\"") = false := by rw [run_one hrn]; exact decide_eq_false hn
         repeat' ((fail_if_success (with_reducible show wpAny _ _ (PySem.exec (PySem.Stmt.Assign [PySem.Expr.Name (PySem.Str.ofString "second") _] _ _) _) _ _ _)); (first | ((with_reducible show wpAny _ _ (PySem.call (Value.ref _) _) _ _ _); k_here; k_dflt ((first | apply Ctr.use (parse257_ctr _ _ _ _ _ _) | apply Ctr.use (law_write_ctr _ _ _ _ _ _ _ _) | apply Ctr.use (law_reference_ctr _ _ _ _ _ _ _ _) | apply Ctr.use (law_least_ctr _ _ _ _ _ _) | apply Ctr.use (lev_ctr _ _ _ _ _ _ _ _ _ _)); k_asm; k_asm; k_asm; k_asm; k_asm; (first | exact rfl | assumption); (first | omega | exact ⟨by omega, by omega⟩ | exact ⟨by omega, by omega, by omega⟩); ktr_room; ktr_units); intro _ _ _ _ _; (try dsimp only); (try k_fold)) | (k_unfold; (try dsimp only)) | (k_end; wrow_close) | walk1 | (dsimp only; walk1) | (leave1; walk_say "STEP leave1"; try dsimp only) | fail "no step"))
         rename Fr _ _ _ _ => F20
         rename News _ _ _ _ => N20
         obtain ⟨f1, ef1, hf1⟩ : ∃ f1 : Str, toldS tx = f1 ∧ cl f1 = qt (n / 2) (tlOf (fstB n b) c) := ⟨_, rfl, fst_is hc34 htx⟩
         rw [ef1] at F20
         clear ef1
         rename_i z1 tf1 _ _ h20
         clear z1
         (try clear qk); (try clear ek)
         obtain ⟨m21, F21⟩ : ∃ m0, Fr s₁.heap s₁.heap.objs.size h20 (kstB m0 [(PySem.Str.ofString "total", .int W tW), (PySem.Str.ofString "size", .int sz tS), (PySem.Str.ofString "place", .int p tP), (PySem.Str.ofString "sign", .str ⟨#[s]⟩ tg), (PySem.Str.ofString "reference", .str (mkS (ref p.toNat s)) tr), (PySem.Str.ofString "marks", .int mk tm), (PySem.Str.ofString "once", .str on tn), (PySem.Str.ofString "pile", .ref P0), (PySem.Str.ofString "told", .ref T0), (PySem.Str.ofString "whole", .int wh th), (PySem.Str.ofString "text", .str tx t1), (PySem.Str.ofString "page", .str px t2), (PySem.Str.ofString "deep", .int (d : Int) t3), (PySem.Str.ofString "run", .str rn trn), (PySem.Str.ofString "rest", .str rs trs), (PySem.Str.ofString "first", .str f1 tf1)]) := ⟨_, fr_norm F20 (by kst_all)⟩
         dsimp only [kstB] at F21
         (try clear F20)
         repeat' ((fail_if_success (with_reducible show wpAny _ _ (PySem.call (Value.ref _) [Value.str (PySem.Str.ofString "257 \"" ++ rn ++ PySem.Str.ofString "\"" ++ rs) _]) _ _ _)); (first | ((with_reducible show wpAny _ _ (PySem.call (Value.ref _) _) _ _ _); k_here; k_dflt ((first | apply Ctr.use (parse257_ctr _ _ _ _ _ _) | apply Ctr.use (law_write_ctr _ _ _ _ _ _ _ _) | apply Ctr.use (law_reference_ctr _ _ _ _ _ _ _ _) | apply Ctr.use (law_least_ctr _ _ _ _ _ _) | apply Ctr.use (lev_ctr _ _ _ _ _ _ _ _ _ _)); k_asm; k_asm; k_asm; k_asm; k_asm; (first | exact rfl | assumption); (first | omega | exact ⟨by omega, by omega⟩ | exact ⟨by omega, by omega, by omega⟩); ktr_room; ktr_units); intro _ _ _ _ _; (try dsimp only); (try k_fold)) | (k_unfold; (try dsimp only)) | (k_end; wrow_close) | walk1 | (dsimp only; walk1) | (leave1; walk_say "STEP leave1"; try dsimp only) | fail "no step"))
         rw [app4 rn rs]
         obtain ⟨x2, ex2, hx2⟩ : ∃ x2 : Str, rn ++ PySem.Str.ofString "\"" ++ rs = x2 ∧ cl x2 = qt (n + 1) (tlOf b c) := ⟨_, rfl, snd_txt hrn hrs⟩
         rw [ex2]
         clear ex2
         rename_i z1 _ _ z2 _ _ z3
         clear z1 z2 z3
         have hx2l : x2.length ≤ 19 := qt_len_le hx2 (Nat.succ_le_succ hn16)
         repeat' ((fail_if_success (with_reducible show wpAny _ _ (PySem.exec (PySem.Stmt.If (PySem.Expr.BoolOp _ _ _) _ _ _) _) _ _ _)); (first | ((with_reducible show wpAny _ _ (PySem.call (Value.ref _) _) _ _ _); k_here; k_dflt ((first | apply Ctr.use (parse257_ctr _ _ _ _ _ _) | apply Ctr.use (law_write_ctr _ _ _ _ _ _ _ _) | apply Ctr.use (law_reference_ctr _ _ _ _ _ _ _ _) | apply Ctr.use (law_least_ctr _ _ _ _ _ _) | apply Ctr.use (lev_ctr _ _ _ _ _ _ _ _ _ _)); k_asm; k_asm; k_asm; k_asm; k_asm; (first | exact rfl | assumption); (first | omega | exact ⟨by omega, by omega⟩ | exact ⟨by omega, by omega, by omega⟩); ktr_room; ktr_units); intro _ _ _ _ _; (try dsimp only); (try k_fold)) | (k_unfold; (try dsimp only)) | (k_end; wrow_close) | walk1 | (dsimp only; walk1) | (leave1; walk_say "STEP leave1"; try dsimp only) | fail "no step"))
         rename Fr _ _ _ _ => F22
         rename News _ _ _ _ => N22
         obtain ⟨f2, ef2, hf2⟩ : ∃ f2 : Str, toldS x2 = f2 ∧ cl f2 = qt (n - n / 2) (tlOf (sndB n b) c) := ⟨_, rfl, snd_is hc34 hx2⟩
         rw [ef2] at F22
         clear ef2 hx2 hx2l
         rename_i tf2 _ _ h22
         (try clear qk); (try clear ek)
         obtain ⟨m23, F23⟩ : ∃ m0, Fr s₁.heap s₁.heap.objs.size h22 (kstB m0 [(PySem.Str.ofString "total", .int W tW), (PySem.Str.ofString "size", .int sz tS), (PySem.Str.ofString "place", .int p tP), (PySem.Str.ofString "sign", .str ⟨#[s]⟩ tg), (PySem.Str.ofString "reference", .str (mkS (ref p.toNat s)) tr), (PySem.Str.ofString "marks", .int mk tm), (PySem.Str.ofString "once", .str on tn), (PySem.Str.ofString "pile", .ref P0), (PySem.Str.ofString "told", .ref T0), (PySem.Str.ofString "whole", .int wh th), (PySem.Str.ofString "text", .str tx t1), (PySem.Str.ofString "page", .str px t2), (PySem.Str.ofString "deep", .int (d : Int) t3), (PySem.Str.ofString "run", .str rn trn), (PySem.Str.ofString "rest", .str rs trs), (PySem.Str.ofString "first", .str f1 tf1), (PySem.Str.ofString "second", .str f2 tf2)]) := ⟨_, fr_norm F22 (by kst_all)⟩
         dsimp only [kstB] at F23
         (try clear F22)
         (try clear F21)
         exact (by
          obtain ⟨hh4, hh5⟩ := half1 hn2'
          have hq1 := head_q hf1 hh4
          have hq2 := head_q hf2 hh5
          have hfl1 : f1.length ≤ 18 := qt_len_le hf1 (Nat.le_trans (Nat.div_le_self n 2) hn16)
          have hfl2 : f2.length ≤ 18 := qt_len_le hf2 (Nat.le_trans (Nat.sub_le n _) hn16)
          clear hh4 hh5
          repeat' ((fail_if_success (with_reducible show wpAny _ _ (PySem.exec (PySem.Stmt.If (PySem.Expr.Compare (PySem.Expr.IfExp _ _ _ _) _ _ _) _ _ _) _) _ _ _)); (first | ((with_reducible show wpAny _ _ (PySem.call (Value.ref _) _) _ _ _); k_here; k_dflt ((first | apply Ctr.use (parse257_ctr _ _ _ _ _ _) | apply Ctr.use (law_write_ctr _ _ _ _ _ _ _ _) | apply Ctr.use (law_reference_ctr _ _ _ _ _ _ _ _) | apply Ctr.use (law_least_ctr _ _ _ _ _ _) | apply Ctr.use (lev_ctr _ _ _ _ _ _ _ _ _ _)); k_asm; k_asm; k_asm; k_asm; k_asm; (first | exact rfl | assumption); (first | omega | exact ⟨by omega, by omega⟩ | exact ⟨by omega, by omega, by omega⟩); ktr_room; ktr_units); intro _ _ _ _ _; (try dsimp only); (try k_fold)) | (k_unfold; (try dsimp only)) | (k_end; wrow_close) | walk1 | (dsimp only; walk1) | (leave1; walk_say "STEP leave1"; try dsimp only) | fail "no step"))
          rename Fr _ _ _ _ => F24
          rename News _ _ _ _ => N24
          exact (by
           clear hq1 hq2
           with_reducible refine stmt_joinO (fun s' => ∃ (h : Heap) (tk : Nat) (m1 : Str → Option Value), s' = { s₁ with heap := h, toks := tk } ∧ Fr s₁.heap s₁.heap.objs.size h (kstB m1 [(PySem.Str.ofString "total", .int W tW), (PySem.Str.ofString "size", .int sz tS), (PySem.Str.ofString "place", .int p tP), (PySem.Str.ofString "sign", .str ⟨#[s]⟩ tg), (PySem.Str.ofString "reference", .str (mkS (ref p.toNat s)) tr), (PySem.Str.ofString "marks", .int mk tm), (PySem.Str.ofString "once", .str on tn), (PySem.Str.ofString "pile", .ref P0), (PySem.Str.ofString "told", .ref T0), (PySem.Str.ofString "whole", .int wh th), (PySem.Str.ofString "text", .str tx t1), (PySem.Str.ofString "page", .str px t2), (PySem.Str.ofString "deep", .int (d : Int) t3), (PySem.Str.ofString "first", .str f1 tf1), (PySem.Str.ofString "second", .str f2 tf2)]) ∧ News s₁.heap s₁.heap.objs.size h ((T0, od) :: (P0, PySem.W.listOf (refsOf led).toArray (cc + 1)) :: (a, itO tx px d t1 t2 t3) :: led)) (fun R' hR' => ?_) ?_
           · have hpar := Nat.mod_two_eq_zero_or_one n
             rcases hpar with hpar | hpar
             · have hfm : ((rn.length : Int)).fmod 2 = 0 := len_fmod hrl hpar
               have hfm0 : ¬ ((rn.length : Int)).fmod 2 = 1 := by rw [hfm]; decide
               have hgl : (f2 ++ f1 != tx) = false := by rw [glue_even htx hf1 hf2 hpar]; simp
               repeat' ((first | ((with_reducible show wpAny _ _ (PySem.call (Value.ref _) _) _ _ _); k_here; k_dflt ((first | apply Ctr.use (parse257_ctr _ _ _ _ _ _) | apply Ctr.use (law_write_ctr _ _ _ _ _ _ _ _) | apply Ctr.use (law_reference_ctr _ _ _ _ _ _ _ _) | apply Ctr.use (law_least_ctr _ _ _ _ _ _) | apply Ctr.use (lev_ctr _ _ _ _ _ _ _ _ _ _)); k_asm; k_asm; k_asm; k_asm; k_asm; (first | exact rfl | assumption); (first | omega | exact ⟨by omega, by omega⟩ | exact ⟨by omega, by omega, by omega⟩); ktr_room; ktr_units); intro _ _ _ _ _; (try dsimp only); (try k_fold)) | (k_unfold; (try dsimp only)) | (k_end; wrow_close) | walk1 | (dsimp only; walk1) | (leave1; walk_say "STEP leave1"; try dsimp only) | fail "no step"))
               all_goals first
                 | exact absurd (by with_reducible assumption) hfm0
                 | (rename Fr _ _ _ _ => F25; rename News _ _ _ _ => N25; refine' JoinEnd.intro (hR' _ ⟨_, _, _, rfl, fr_norm F25 ?hkx16, N25⟩); (case hkx16 => kst_all))
             · have hfm : ((rn.length : Int)).fmod 2 = 1 := len_fmod hrl hpar
               have hgl : (f1 ++ f2 != tx) = false := by rw [glue_odd htx hf1 hf2 hpar]; simp
               repeat' ((first | ((with_reducible show wpAny _ _ (PySem.call (Value.ref _) _) _ _ _); k_here; k_dflt ((first | apply Ctr.use (parse257_ctr _ _ _ _ _ _) | apply Ctr.use (law_write_ctr _ _ _ _ _ _ _ _) | apply Ctr.use (law_reference_ctr _ _ _ _ _ _ _ _) | apply Ctr.use (law_least_ctr _ _ _ _ _ _) | apply Ctr.use (lev_ctr _ _ _ _ _ _ _ _ _ _)); k_asm; k_asm; k_asm; k_asm; k_asm; (first | exact rfl | assumption); (first | omega | exact ⟨by omega, by omega⟩ | exact ⟨by omega, by omega, by omega⟩); ktr_room; ktr_units); intro _ _ _ _ _; (try dsimp only); (try k_fold)) | (k_unfold; (try dsimp only)) | (k_end; wrow_close) | walk1 | (dsimp only; walk1) | (leave1; walk_say "STEP leave1"; try dsimp only) | fail "no step"))
               all_goals first
                 | exact absurd hfm (by with_reducible assumption)
                 | (rename Fr _ _ _ _ => F25; rename News _ _ _ _ => N25; refine' JoinEnd.intro (hR' _ ⟨_, _, _, rfl, fr_norm F25 ?hkx17, N25⟩); (case hkx17 => kst_all))
           (try clear F24); (try clear N24)
           rintro s' ⟨h25, tk25, m25, rfl, F25, N25⟩
           dsimp only [kstB] at F25
           dsimp only
           exact (by
            have hL1 := part_lev htx hf1 (Nat.div_le_self n 2) (fstB_or n b) W
            have hL2 := part_lev htx hf2 (Nat.sub_le n _) (sndB_or n b) W
            repeat' ((fail_if_success (with_reducible show wpAny _ _ (PySem.pyIter _) _ _ _)); (first | ((with_reducible show wpAny _ _ (PySem.call (Value.ref _) _) _ _ _); k_here; k_dflt ((first | apply Ctr.use (parse257_ctr _ _ _ _ _ _) | apply Ctr.use (law_write_ctr _ _ _ _ _ _ _ _) | apply Ctr.use (law_reference_ctr _ _ _ _ _ _ _ _) | apply Ctr.use (law_least_ctr _ _ _ _ _ _) | apply Ctr.use (lev_ctr _ _ _ _ _ _ _ _ _ _)); k_asm; k_asm; k_asm; k_asm; k_asm; (first | exact rfl | assumption); (first | omega | exact ⟨by omega, by omega⟩ | exact ⟨by omega, by omega, by omega⟩); ktr_room; ktr_units); intro _ _ _ _ _; (try dsimp only); (try k_fold)) | (k_unfold; (try dsimp only)) | (k_end; wrow_close) | walk1 | (dsimp only; walk1) | (leave1; walk_say "STEP leave1"; try dsimp only) | fail "no step"))
            rename_i lD hD FD ND lD1
            refine kdl_iter (nn := 0) (vs := [Value.str f1 tf1, Value.str f2 tf2]) (fun _ m nx => nx = (lD, PySem.W.listOf [Value.str f1 tf1, Value.str f2 tf2].toArray 0) :: ((T0, od) :: (P0, PySem.W.listOf (refsOf led).toArray (cc + 1)) :: (a, itO tx px d t1 t2 t3) :: led) ∧ ∀ q ∈ [(PySem.Str.ofString "total", .int W tW), (PySem.Str.ofString "size", .int sz tS), (PySem.Str.ofString "place", .int p tP), (PySem.Str.ofString "sign", .str ⟨#[s]⟩ tg), (PySem.Str.ofString "reference", .str (mkS (ref p.toNat s)) tr), (PySem.Str.ofString "marks", .int mk tm), (PySem.Str.ofString "once", .str on tn), (PySem.Str.ofString "pile", .ref P0), (PySem.Str.ofString "told", .ref T0), (PySem.Str.ofString "whole", .int wh th), (PySem.Str.ofString "text", .str tx t1), (PySem.Str.ofString "page", .str px t2), (PySem.Str.ofString "deep", .int (d : Int) t3), (PySem.Str.ofString "first", .str f1 tf1), (PySem.Str.ofString "second", .str f2 tf2)], m q.1 = some q.2) rfl (List.mem_cons_self ..) FD ND ⟨rfl, ?_⟩ ?_ ?_
            · kst_all
            · rintro i v m₁ nx h tk own hv hoff hmem ⟨rfl, hm⟩ F26 N26
              clear hmem
              obtain ⟨pt, tpt, rfl, hpt, hLp⟩ : ∃ (pt : Str) (tpt : Tok), v = Value.str pt tpt ∧ pt.length ≤ 18 ∧ levF (cl tx) (cl pt) W = 2 * ((tx.length : Int) - pt.length) := by
                rcases two_at hv with rfl | rfl
                · exact ⟨f1, tf1, rfl, hfl1, hL1⟩
                · exact ⟨f2, tf2, rfl, hfl2, hL2⟩
              have N27 : News s₁.heap s₁.heap.objs.size h _ := N26
              have F27 : Fr s₁.heap s₁.heap.objs.size h _ := fr_k F26 hm (by dsimp only [List.map]; decide)
              clear F26 N26 FD ND
              (try clear F25); (try clear N25)
              dsimp only [kstB] at F27
              repeat' ((first | ((with_reducible show wpAny _ _ (PySem.call (Value.ref _) _) _ _ _); k_here; k_dflt ((first | apply Ctr.use (parse257_ctr _ _ _ _ _ _) | apply Ctr.use (law_write_ctr _ _ _ _ _ _ _ _) | apply Ctr.use (law_reference_ctr _ _ _ _ _ _ _ _) | apply Ctr.use (law_least_ctr _ _ _ _ _ _) | apply Ctr.use (lev_ctr _ _ _ _ _ _ _ _ _ _)); k_asm; k_asm; k_asm; k_asm; k_asm; (first | exact rfl | assumption); (first | omega | exact ⟨by omega, by omega⟩ | exact ⟨by omega, by omega, by omega⟩); ktr_room; ktr_units); intro _ _ _ _ _; (try dsimp only); (try k_fold)) | (k_unfold; (try dsimp only)) | (k_end; wrow_close) | walk1 | (dsimp only; walk1) | (leave1; walk_say "STEP leave1"; try dsimp only) | fail "no step"))
              all_goals first
                | exact absurd hLp (by with_reducible assumption)
                | (rename Fr _ _ _ _ => F28; rename News _ _ _ _ => N28; refine' InvEndG.intro F28 N28 ⟨List.mem_cons_self .., rfl, ?hkx18⟩ hoff (fun p hp => List.mem_append.mpr (.inl hp)) (fun p hp => List.mem_append.mpr (.inr hp)); (case hkx18 => kst_all))
            rintro m₁ nx h tk ⟨rfl, hm⟩ F29 N29
            have F30 : Fr s₁.heap s₁.heap.objs.size h _ := fr_norm F29 hm
            have N30 : News s₁.heap s₁.heap.objs.size h ((T0, od) :: (P0, PySem.W.listOf (refsOf led).toArray (cc + 1)) :: (a, itO tx px d t1 t2 t3) :: led) := cb_drop N29 (fun q hq => List.mem_cons_of_mem _ hq)
            dsimp only [kstB] at F30
            clear F29 N29 FD ND
            (try clear F25); (try clear N25)
            (try clear qk); (try clear ek)
            exact (by
             have hp5' := toNat5 hp0 hp5
             have hpl : px.length ≤ 44 := by rw [cl_len, hpx]; exact pg_len_le hp5' hmk hd4
             clear hL1 hL2
             repeat' ((fail_if_success (with_reducible show wpAny _ _ (PySem.call (Value.builtin "list.append") _) _ _ _)); (first | ((with_reducible show wpAny _ _ (PySem.call (Value.ref _) _) _ _ _); k_here; k_dflt ((first | apply Ctr.use (parse257_ctr _ _ _ _ _ _) | apply Ctr.use (law_write_ctr _ _ _ _ _ _ _ _) | apply Ctr.use (law_reference_ctr _ _ _ _ _ _ _ _) | apply Ctr.use (law_least_ctr _ _ _ _ _ _) | apply Ctr.use (lev_ctr _ _ _ _ _ _ _ _ _ _)); k_asm; k_asm; k_asm; k_asm; k_asm; (first | exact rfl | assumption); (first | omega | exact ⟨by omega, by omega⟩ | exact ⟨by omega, by omega, by omega⟩); ktr_room; ktr_units); intro _ _ _ _ _; (try dsimp only); (try k_fold)) | (k_unfold; (try dsimp only)) | (k_end; wrow_close) | walk1 | (dsimp only; walk1) | (leave1; walk_say "STEP leave1"; try dsimp only) | fail "no step"))
             rename Fr _ _ _ _ => F31
             rename News _ _ _ _ => N31
             obtain ⟨p2, ep2, hp2⟩ : ∃ p2 : Str, pageS p.toNat px = p2 ∧ cl p2 = pg p.toNat s (d + 1) := ⟨_, rfl, by rw [pageS, cl_mkS, hpx]; rfl⟩
             rw [ep2] at F31 N31
             clear ep2
             rename_i tp2 _ _ _ D1 hD1 l31
             (try clear qk); (try clear ek)
             have hll := pile16 hPi hkv
             refine append_led (h₀ := s₁.heap) (us := refsOf led) (pre := [(D1, itO f2 p2 ((d : Int) + 1) tf2 tp2 _), (T0, od)]) F31 N31 ?_ (fun q hq => (had q hq).1) (by rw [refsOf_len]; omega) fun h32 F32 N32 => ?_
             · intro q hq
               rcases List.mem_cons.mp hq with rfl | hq
               · exact Nat.ne_of_gt l31.2.1
               · rw [List.mem_singleton.mp hq]; exact Ne.symm hPT
             clear F31 N31
             have N33 : News s₁.heap s₁.heap.objs.size h32 ((D1, itO f2 p2 ((d : Int) + 1) tf2 tp2 _) :: (T0, od) :: (P0, PySem.W.listOf (refsOf led ++ [Value.ref D1]).toArray (cc + 1 + 1)) :: (a, itO tx px d t1 t2 t3) :: led) := N32
             clear N32
             dsimp only
             repeat' ((fail_if_success (with_reducible show wpAny _ _ (PySem.call (Value.builtin "list.append") _) _ _ _)); (first | ((with_reducible show wpAny _ _ (PySem.call (Value.ref _) _) _ _ _); k_here; k_dflt ((first | apply Ctr.use (parse257_ctr _ _ _ _ _ _) | apply Ctr.use (law_write_ctr _ _ _ _ _ _ _ _) | apply Ctr.use (law_reference_ctr _ _ _ _ _ _ _ _) | apply Ctr.use (law_least_ctr _ _ _ _ _ _) | apply Ctr.use (lev_ctr _ _ _ _ _ _ _ _ _ _)); k_asm; k_asm; k_asm; k_asm; k_asm; (first | exact rfl | assumption); (first | omega | exact ⟨by omega, by omega⟩ | exact ⟨by omega, by omega, by omega⟩); ktr_room; ktr_units); intro _ _ _ _ _; (try dsimp only); (try k_fold)) | (k_unfold; (try dsimp only)) | (k_end; wrow_close) | walk1 | (dsimp only; walk1) | (leave1; walk_say "STEP leave1"; try dsimp only) | fail "no step"))
             rename Fr _ _ _ _ => F34
             rename News _ _ _ _ => N34
             rename_i D2 hD2 l34
             refine append_led (h₀ := s₁.heap) (us := refsOf led ++ [Value.ref D1]) (pre := [(D2, itO f1 p2 ((d : Int) + 1) tf1 tp2 _), (D1, itO f2 p2 ((d : Int) + 1) tf2 tp2 _), (T0, od)]) F34 N34 ?_ (fun q hq => (had q hq).1) (by rw [List.length_append, refsOf_len]; simp only [List.length_cons, List.length_nil]; omega) fun h35 F35 N35 => ?_
             · intro q hq
               rcases List.mem_cons.mp hq with rfl | hq
               · exact Nat.ne_of_gt l34.2.2.1
               · rcases List.mem_cons.mp hq with rfl | hq
                 · exact Nat.ne_of_gt l31.2.1
                 · rw [List.mem_singleton.mp hq]; exact Ne.symm hPT
             clear F34 N34
             have N36 := pile_news (h₀ := s₁.heap) N35
             clear N35
             dsimp only
             repeat' ((first | ((with_reducible show wpAny _ _ (PySem.call (Value.ref _) _) _ _ _); k_here; k_dflt ((first | apply Ctr.use (parse257_ctr _ _ _ _ _ _) | apply Ctr.use (law_write_ctr _ _ _ _ _ _ _ _) | apply Ctr.use (law_reference_ctr _ _ _ _ _ _ _ _) | apply Ctr.use (law_least_ctr _ _ _ _ _ _) | apply Ctr.use (lev_ctr _ _ _ _ _ _ _ _ _ _)); k_asm; k_asm; k_asm; k_asm; k_asm; (first | exact rfl | assumption); (first | omega | exact ⟨by omega, by omega⟩ | exact ⟨by omega, by omega, by omega⟩); ktr_room; ktr_units); intro _ _ _ _ _; (try dsimp only); (try k_fold)) | (k_unfold; (try dsimp only)) | (k_end; wrow_close) | walk1 | (dsimp only; walk1) | (leave1; walk_say "STEP leave1"; try dsimp only) | fail "no step"))
             rename Fr _ _ _ _ => F37
             rename News _ _ _ _ => N37
             obtain ⟨hh1, hh2, hh3, hh4, hh5⟩ := half_ok hn2' hd4 hn2
             refine' WhileStep.intro F37 N37 (steps_node hn2') ((hJ _ _ _).mpr ⟨(n / 2, fstB n b, d + 1) :: (n - n / 2, sndB n b, d + 1) :: its, _, cc + 1 + 1 + 1, od, kvs, wh, _, _, _, _, _, _, _, _, rfl, Pile.cons hf1 hp2 hh4 hh2 hh1 (Pile.cons hf2 hp2 hh5 hh3 hh1 hPi), hdi, hto, (by rw [quotes_node (b := b)]; exact hkv), rfl, worth_node hn2' hn16 hwh, ?hhx19, ?hkx20⟩)
             (case hkx20 => kst_all)
             (case hhx19 =>
               intro q hq
               rcases List.mem_cons.mp hq with rfl | hq
               · exact ⟨Nat.ne_of_gt l34.2.2.1, Nat.ne_of_gt l34.2.1⟩
               · rcases List.mem_cons.mp hq with rfl | hq
                 · exact ⟨Nat.ne_of_gt l31.2.1, Nat.ne_of_gt l31.1⟩
                 · exact had q (List.mem_cons_of_mem _ hq)))))))))))))
)

end Mine
end
theorem PySem.Challenge.cw_wn0093_02_holds : PySem.Challenge.rw_wn0093_02.Holds := by
  exact Mine.law2
