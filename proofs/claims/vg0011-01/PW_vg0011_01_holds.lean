import PyProof.Rows.All
import Wide.All
import OpenK.AllK
import Wide.FinOn
import PySem.Challenge.RW_vg0011_01
open PySem PySem.W PyProof.Rows
set_option Elab.async false
set_option maxRecDepth 100000
set_option maxHeartbeats 8000000
namespace Mine
open_top hd for PySem.Challenge.rw_vg0011_01
end Mine

section
open PySem PySem.StrLaws PySem.Builtin.Str
set_option Elab.async false
namespace Mine

/-- the codes of a text -/
abbrev cl (x : Str) : List Nat := x.cps.toList

def push (c : Nat) : List (List Nat) → List (List Nat)
  | [] => [[c]]
  | p :: ps => (c :: p) :: ps

def splF (y : List Nat) : Nat → List Nat → List (List Nat)
  | 0, l => [l]
  | n + 1, l => if y <+: l then [] :: splF y n (l.drop y.length) else match l with
    | [] => [[]]
    | c :: r => push c (splF y n r)

theorem at_iff (x y : Str) (hw : 1 ≤ y.length) (a : Nat) : At x y x.length a ↔ cl y <+: (cl x).drop a := by
  unfold At
  rw [subAt_eq, beq_iff_eq, List.prefix_iff_eq_take]
  have e1 : (cl y).length = y.length := by simp [cl, Str.length]
  have e2 : (cl x).length = x.length := by simp [cl, Str.length]
  constructor
  · rintro ⟨_, h⟩
    rw [e1]; exact h.symm
  · intro h
    rw [e1] at h
    have hl := congrArg List.length h
    rw [List.length_take, List.length_drop, e1, e2] at hl
    exact ⟨by omega, h.symm⟩

theorem sub_cl (x : Str) (i j : Nat) : cl (strSub x i j) = ((cl x).drop i).take (j - i) := strSub_toList x i j

theorem parts_splF (x y : Str) (hw : 1 ≤ y.length) : ∀ (n a f : Nat) (cuts : List Nat), ((cl x).drop a).length < n → ChainG x y x.length a cuts f → (∀ k, f ≤ k → ¬ At x y x.length k) →
    (partsFrom x y.length a cuts).map cl = splF (cl y) n ((cl x).drop a) := by
  have e1 : (cl y).length = y.length := by simp [cl, Str.length]
  have e2 : (cl x).length = x.length := by simp [cl, Str.length]
  intro n
  induction n with
  | zero => intro a f cuts h; omega
  | succ n ih =>
    intro a f cuts hn hG hN
    by_cases hA : At x y x.length a
    · have hp := (at_iff x y hw a).mp hA
      have hle := hA.1
      unfold splF
      rw [if_pos hp]
      cases cuts with
      | nil =>
        have : f = a := hG
        exact absurd hA (hN a (by omega))
      | cons c r =>
        obtain ⟨hac, hc, hno, hG'⟩ := hG
        have : c = a := by
          by_cases q : a < c
          · exact absurd hA (hno a (Nat.le_refl _) q)
          · omega
        subst this
        show cl (strSub x c c) :: (partsFrom x y.length (c + y.length) r).map cl = _
        rw [sub_cl, Nat.sub_self, List.take_zero, e1, List.drop_drop]
        congr 1
        exact ih _ f r (by rw [List.length_drop] at hn ⊢; omega) hG' hN
    · have hp : ¬ cl y <+: (cl x).drop a := fun q => hA ((at_iff x y hw a).mpr q)
      unfold splF
      rw [if_neg hp]
      cases hd : (cl x).drop a with
      | nil =>
        have hla : x.length ≤ a := by
          have := congrArg List.length hd
          rw [List.length_drop, e2] at this
          simp at this; omega
        cases cuts with
        | nil => show [cl (strSub x a x.length)] = _; rw [sub_cl, hd, List.take_nil]
        | cons c r =>
          obtain ⟨hac, hc, _⟩ := hG
          have := hc.1
          omega
      | cons c0 r0 =>
        have hla : a < x.length := by
          have := congrArg List.length hd
          rw [List.length_drop, e2] at this
          simp at this; omega
        have hd1 : (cl x).drop (a + 1) = r0 := by rw [← List.drop_drop, hd]; rfl
        have hn1 : ((cl x).drop (a + 1)).length < n := by rw [List.length_drop] at hn ⊢; omega
        have step : ∀ j, a + 1 ≤ j → cl (strSub x a j) = c0 :: cl (strSub x (a + 1) j) := by
          intro j hj
          rw [sub_cl, sub_cl, hd, hd1, show j - a = (j - (a + 1)) + 1 by omega, List.take_succ_cons]
        have ext : ∃ f', ChainG x y x.length (a + 1) cuts f' ∧ (∀ k, f' ≤ k → ¬ At x y x.length k) ∧ (partsFrom x y.length a cuts).map cl = push c0 ((partsFrom x y.length (a + 1) cuts).map cl) := by
          cases cuts with
          | nil =>
            have : f = a := hG
            exact ⟨a + 1, rfl, fun k hk => hN k (by omega), by show [cl (strSub x a x.length)] = [c0 :: cl (strSub x (a + 1) x.length)]; rw [step _ (by omega)]⟩
          | cons c r =>
            obtain ⟨hac, hc, hno, hG'⟩ := hG
            have hne : c ≠ a := fun q => hA (q ▸ hc)
            refine ⟨f, ⟨by omega, hc, fun k h1 h2 => hno k (by omega) h2, hG'⟩, hN, ?_⟩
            show cl (strSub x a c) :: _ = (c0 :: cl (strSub x (a + 1) c)) :: _
            rw [step _ (by omega)]
        obtain ⟨f', hG', hN', e⟩ := ext
        rw [e, ih _ f' cuts hn1 hG' hN', hd1]

theorem kind_le (x y : Str) (hy : y.cps.all (· < 256) = true) : decide (Builtin.Str.strKind x < Builtin.Str.strKind y) = false := by
  refine decide_eq_false ?_
  have e : Builtin.Str.strKind y = 1 := by unfold Builtin.Str.strKind; rw [if_pos hy]
  rw [e]
  unfold Builtin.Str.strKind
  split
  · omega
  · split <;> omega

theorem splF_short (y : List Nat) : ∀ (n : Nat) (l : List Nat), l.length < y.length → splF y n l = [l] := by
  intro n
  induction n with
  | zero => intro l _; rfl
  | succ n ih =>
    intro l h
    unfold splF
    rw [if_neg (fun q => by have := q.length_le; omega)]
    cases l with
    | nil => rfl
    | cons c r => dsimp only; rw [ih r (by simp at h; omega)]; rfl

theorem split_cl (x y : Str) (hw : 1 ≤ y.length) (hy : y.cps.all (· < 256) = true) : (Txt.split x y).map cl = splF (cl y) (x.length + 1) (cl x) := by
  have e1 : (cl y).length = y.length := by simp [cl, Str.length]
  have e2 : (cl x).length = x.length := by simp [cl, Str.length]
  obtain ⟨f, hG, hN⟩ := occ_tight x y hw
  have main := parts_splF x y hw (x.length + 1) 0 f _ (by rw [List.drop_zero, e2]; omega) hG hN
  rw [List.drop_zero] at main
  unfold Txt.split
  rw [kind_le x y hy, Bool.or_false]
  by_cases h1 : x.length < y.length
  · rw [if_pos (by simpa using h1), splF_short _ _ _ (by rw [e1, e2]; exact h1)]
    rfl
  · rw [if_neg (by simpa using h1)]
    cases hc : (occurrences x y 0 x.length (x.length + 1)).isEmpty with
    | true =>
      rw [if_pos rfl]
      have := List.isEmpty_iff.mp hc
      rw [this] at main
      rw [← main]
      show [cl x] = [cl (strSub x 0 x.length)]
      rw [sub_cl, List.drop_zero, Nat.sub_zero, List.take_of_length_le (by rw [e2]; omega)]
    | false => rw [if_neg (by simp), partsBetween_eq]; exact main

def joinL (sep : List Nat) : List (List Nat) → List Nat
  | [] => []
  | [p] => p
  | p :: q :: r => p ++ sep ++ joinL sep (q :: r)

theorem join_cl (sep : Str) : ∀ parts : List Str, cl (Str.join sep parts) = joinL (cl sep) (parts.map cl)
  | [] => rfl
  | [p] => rfl
  | p :: q :: r => by
    show cl (p ++ sep ++ Str.join sep (q :: r)) = cl p ++ cl sep ++ joinL (cl sep) ((q :: r).map cl)
    rw [← join_cl sep (q :: r)]
    simp only [cl, Str.cps_append, Array.toList_append]
theorem tjoin_cl (sep : Str) (parts : List Str) : cl (Txt.join sep parts) = joinL (cl sep) (parts.map cl) := by
  show cl (glued sep parts) = _
  rw [glued_eq_join, join_cl]

theorem replace_cl (x y z : Str) (hw : 1 ≤ y.length) : cl (Txt.replace x y z) = joinL (cl z) (splF (cl y) (x.length + 1) (cl x)) := by
  have e2 : (cl x).length = x.length := by simp [cl, Str.length]
  obtain ⟨f, hG, hN⟩ := occ_tight x y hw
  have main := parts_splF x y hw (x.length + 1) 0 f _ (by rw [List.drop_zero, e2]; omega) hG hN
  rw [List.drop_zero] at main
  unfold Txt.replace
  have hne : (y.length == 0 && z.length == 0) = false := by
    have : (y.length == 0) = false := by simpa using (by omega : y.length ≠ 0)
    rw [this]; rfl
  rw [hne, Bool.or_false]
  cases hc : (occurrences x y 0 x.length (x.length + 1)).isEmpty with
  | true =>
    rw [if_pos rfl]
    have := List.isEmpty_iff.mp hc
    rw [this] at main
    rw [← main]
    show cl x = joinL (cl z) [cl (strSub x 0 x.length)]
    rw [sub_cl, List.drop_zero, Nat.sub_zero, List.take_of_length_le (by rw [e2]; omega)]
    rfl
  | false => rw [if_neg (by simp), partsBetween_eq, glued_eq_join, join_cl, main]

/-- a mark of one sign -/
def spl1 (a : Nat) : List Nat → List (List Nat)
  | [] => [[]]
  | c :: r => if c = a then [] :: spl1 a r else push c (spl1 a r)
/-- a mark of two signs -/
def spl2 (a b : Nat) : List Nat → List (List Nat)
  | [] => [[]]
  | [c] => [[c]]
  | c :: d :: r => if c = a ∧ d = b then [] :: spl2 a b r else push c (spl2 a b (d :: r))
def rep1 (a : Nat) (z : List Nat) : List Nat → List Nat
  | [] => []
  | c :: r => if c = a then z ++ rep1 a z r else c :: rep1 a z r
def rep2 (a b : Nat) (z : List Nat) : List Nat → List Nat
  | [] => []
  | [c] => [c]
  | c :: d :: r => if c = a ∧ d = b then z ++ rep2 a b z r else c :: rep2 a b z (d :: r)

theorem pre1 (a c : Nat) (r : List Nat) : [a] <+: c :: r ↔ c = a := by
  constructor
  · rintro ⟨t, h⟩; simp at h; exact h.1.symm
  · rintro rfl; exact ⟨r, rfl⟩
theorem pre2 (a b c d : Nat) (r : List Nat) : [a, b] <+: c :: d :: r ↔ (c = a ∧ d = b) := by
  constructor
  · rintro ⟨t, h⟩; simp at h; exact ⟨h.1.symm, h.2.1.symm⟩
  · rintro ⟨rfl, rfl⟩; exact ⟨r, rfl⟩

theorem spl1_eq (a : Nat) : ∀ (n : Nat) (l : List Nat), l.length < n → splF [a] n l = spl1 a l := by
  intro n
  induction n with
  | zero => intro l h; omega
  | succ n ih =>
    intro l h
    unfold splF
    cases l with
    | nil => rw [if_neg (fun q => by have := q.length_le; simp at this)]; rfl
    | cons c r =>
      have h' : r.length < n := by simp at h; omega
      by_cases hc : c = a
      · rw [if_pos ((pre1 a c r).mpr hc)]; unfold spl1; rw [if_pos hc]
        show [] :: splF [a] n r = _
        rw [ih r h']
      · rw [if_neg (fun q => hc ((pre1 a c r).mp q))]
        conv => rhs; unfold spl1
        rw [if_neg hc, ← ih r h']
theorem spl2_eq (a b : Nat) : ∀ (n : Nat) (l : List Nat), l.length < n → splF [a, b] n l = spl2 a b l := by
  intro n
  induction n using Nat.strongRecOn with
  | _ n ih =>
    intro l h
    cases n with
    | zero => omega
    | succ n =>
      unfold splF
      cases l with
      | nil => rw [if_neg (fun q => by have := q.length_le; simp at this)]; rfl
      | cons c r =>
        cases r with
        | nil =>
          rw [if_neg (fun q => by have := q.length_le; simp at this)]
          dsimp only
          rw [splF_short _ _ _ (by simp)]
          rfl
        | cons d r =>
          have h1 : (d :: r).length < n := by simp at h ⊢; omega
          have h2 : r.length < n := by simp at h; omega
          by_cases hc : c = a ∧ d = b
          · rw [if_pos ((pre2 a b c d r).mpr hc)]; unfold spl2; rw [if_pos hc]
            show [] :: splF [a, b] n r = _
            rw [ih n (Nat.lt_succ_self _) r h2]
          · rw [if_neg (fun q => hc ((pre2 a b c d r).mp q))]
            conv => rhs; unfold spl2
            rw [if_neg hc, ← ih n (Nat.lt_succ_self _) (d :: r) h1]

theorem spl1_ne (a : Nat) (l : List Nat) : spl1 a l ≠ [] := by
  cases l with
  | nil => simp [spl1]
  | cons c r =>
    unfold spl1
    split
    · simp
    · cases spl1 a r <;> simp [push]
theorem spl2_ne (a b : Nat) (l : List Nat) : spl2 a b l ≠ [] := by
  match l with
  | [] => simp [spl2]
  | [c] => simp [spl2]
  | c :: d :: r =>
    unfold spl2
    split
    · simp
    · cases spl2 a b (d :: r) <;> simp [push]
theorem joinL_push (z : List Nat) (c : Nat) (ps : List (List Nat)) (h : ps ≠ []) : joinL z (push c ps) = c :: joinL z ps := by
  match ps with
  | [] => exact absurd rfl h
  | [p] => rfl
  | p :: q :: r => rfl
theorem joinL_nil (z : List Nat) (ps : List (List Nat)) (h : ps ≠ []) : joinL z ([] :: ps) = z ++ joinL z ps := by
  match ps with
  | [] => exact absurd rfl h
  | q :: r => rfl
theorem join_spl1 (a : Nat) (z : List Nat) (l : List Nat) : joinL z (spl1 a l) = rep1 a z l := by
  induction l with
  | nil => rfl
  | cons c r ih =>
    unfold spl1 rep1
    by_cases hc : c = a
    · rw [if_pos hc, if_pos hc, joinL_nil _ _ (spl1_ne a r), ih]
    · rw [if_neg hc, if_neg hc, joinL_push _ _ _ (spl1_ne a r), ih]
theorem join_spl2 (a b : Nat) (z : List Nat) : ∀ (n : Nat) (l : List Nat), l.length < n → joinL z (spl2 a b l) = rep2 a b z l := by
  intro n
  induction n with
  | zero => intro l h; omega
  | succ n ih =>
    intro l h
    match l with
    | [] => rfl
    | [c] => rfl
    | c :: d :: r =>
      unfold spl2 rep2
      by_cases hc : c = a ∧ d = b
      · rw [if_pos hc, if_pos hc, joinL_nil _ _ (spl2_ne a b r), ih r (by simp at h; omega)]
      · rw [if_neg hc, if_neg hc, joinL_push _ _ _ (spl2_ne a b _), ih (d :: r) (by simp at h ⊢; omega)]

theorem replace1 (x z : Str) (a : Nat) : cl (Txt.replace x ⟨#[a]⟩ z) = rep1 a (cl z) (cl x) := by
  rw [replace_cl x _ z (by simp [Str.length])]
  show joinL _ (splF [a] _ _) = _
  rw [spl1_eq _ _ _ (by simp [cl, Str.length]), join_spl1]
theorem replace2 (x z : Str) (a b : Nat) : cl (Txt.replace x ⟨#[a, b]⟩ z) = rep2 a b (cl z) (cl x) := by
  rw [replace_cl x _ z (by simp [Str.length])]
  show joinL _ (splF [a, b] _ _) = _
  rw [spl2_eq _ _ _ _ (by simp [cl, Str.length]), join_spl2 _ _ _ _ _ (Nat.lt_succ_self _)]
theorem split2 (x : Str) (a b : Nat) (ha : a < 256) (hb : b < 256) : (Txt.split x ⟨#[a, b]⟩).map cl = spl2 a b (cl x) := by
  rw [split_cl x _ (by simp [Str.length]) (by simp [ha, hb])]
  show splF [a, b] _ _ = _
  rw [spl2_eq _ _ _ _ (by simp [cl, Str.length])]

theorem rep1_len (a : Nat) (z : List Nat) (l : List Nat) : (rep1 a z l).length ≤ l.length * (z.length + 1) := by
  induction l with
  | nil => simp [rep1]
  | cons c r ih =>
    unfold rep1
    rw [List.length_cons, Nat.succ_mul]
    split
    · rw [List.length_append]; omega
    · rw [List.length_cons]; omega
theorem rep2_len (a b : Nat) (z : List Nat) : ∀ (n : Nat) (l : List Nat), l.length < n → (rep2 a b z l).length ≤ l.length * (z.length + 1) := by
  intro n
  induction n with
  | zero => intro l h; omega
  | succ n ih =>
    intro l h
    match l with
    | [] => simp [rep2]
    | [c] => simp [rep2]
    | c :: d :: r =>
      unfold rep2
      split
      · have := ih r (by simp at h; omega)
        rw [List.length_append, List.length_cons, List.length_cons, Nat.succ_mul, Nat.succ_mul]; omega
      · have := ih (d :: r) (by simp at h ⊢; omega)
        rw [List.length_cons, List.length_cons, Nat.succ_mul]; simp only [List.length_cons] at this ⊢; omega
theorem replace1_len (x z : Str) (a : Nat) : (Txt.replace x ⟨#[a]⟩ z).length ≤ x.length * (z.length + 1) := by
  have h := rep1_len a (cl z) (cl x)
  rw [← replace1] at h
  simpa [cl, Str.length] using h
theorem replace2_len (x z : Str) (a b : Nat) : (Txt.replace x ⟨#[a, b]⟩ z).length ≤ x.length * (z.length + 1) := by
  have h := rep2_len a b (cl z) _ (cl x) (Nat.lt_succ_self _)
  rw [← replace2] at h
  simpa [cl, Str.length] using h

theorem spl2_len (a b : Nat) : ∀ (n : Nat) (l : List Nat), l.length < n → (spl2 a b l).length ≤ l.length + 1 ∧ ∀ p ∈ spl2 a b l, p.length ≤ l.length := by
  intro n
  induction n with
  | zero => intro l h; omega
  | succ n ih =>
    intro l h
    match l with
    | [] => simp [spl2]
    | [c] => simp [spl2]
    | c :: d :: r =>
      unfold spl2
      split
      · obtain ⟨h1, h2⟩ := ih r (by simp at h; omega)
        refine ⟨by simp only [List.length_cons]; omega, fun p hp => ?_⟩
        rcases List.mem_cons.mp hp with rfl | hp
        · simp
        · have := h2 p hp; simp only [List.length_cons]; omega
      · obtain ⟨h1, h2⟩ := ih (d :: r) (by simp at h ⊢; omega)
        cases hs : spl2 a b (d :: r) with
        | nil => exact absurd hs (spl2_ne _ _ _)
        | cons q qs =>
          rw [hs] at h1 h2
          refine ⟨by simp only [push, List.length_cons] at h1 ⊢; omega, fun p hp => ?_⟩
          rcases List.mem_cons.mp hp with rfl | hp
          · have := h2 q List.mem_cons_self; simp only [List.length_cons] at this ⊢; omega
          · have := h2 p (List.mem_cons_of_mem _ hp); simp only [List.length_cons] at this ⊢; omega
theorem split2_len (x : Str) (a b : Nat) (ha : a < 256) (hb : b < 256) : (Txt.split x ⟨#[a, b]⟩).length ≤ x.length + 1 ∧ ∀ p ∈ Txt.split x ⟨#[a, b]⟩, p.length ≤ x.length := by
  have h := spl2_len a b _ (cl x) (Nat.lt_succ_self _)
  rw [← split2 x a b ha hb] at h
  refine ⟨by simpa [cl, Str.length] using h.1, fun p hp => ?_⟩
  have := h.2 (cl p) (List.mem_map.mpr ⟨p, hp, rfl⟩)
  simpa [cl, Str.length] using this

theorem joinF_len (y z : List Nat) (hy : 1 ≤ y.length) : ∀ (n : Nat) (l : List Nat), l.length < n → (joinL z (splF y n l)).length ≤ l.length * (z.length + 1) ∧ splF y n l ≠ [] := by
  intro n
  induction n with
  | zero => intro l h; omega
  | succ n ih =>
    intro l h
    unfold splF
    by_cases hp : y <+: l
    · rw [if_pos hp]
      have hle := hp.length_le
      obtain ⟨h1, h2⟩ := ih (l.drop y.length) (by rw [List.length_drop]; omega)
      refine ⟨?_, by simp⟩
      rw [joinL_nil _ _ h2, List.length_append]
      rw [List.length_drop] at h1
      have e : l.length * (z.length + 1) = (l.length - y.length) * (z.length + 1) + y.length * (z.length + 1) := by rw [← Nat.add_mul]; congr 1; omega
      have e2 : z.length + 1 ≤ y.length * (z.length + 1) := Nat.le_mul_of_pos_left _ hy
      omega
    · rw [if_neg hp]
      cases l with
      | nil => exact ⟨by simp [joinL], by simp⟩
      | cons c r =>
        obtain ⟨h1, h2⟩ := ih r (by simp at h; omega)
        dsimp only
        refine ⟨?_, by cases hs : splF y n r <;> simp [push]⟩
        rw [joinL_push _ _ _ h2, List.length_cons, List.length_cons, Nat.succ_mul]
        omega
theorem replace_len (x y z : Str) (hw : 1 ≤ y.length) : (Txt.replace x y z).length ≤ x.length * (z.length + 1) := by
  have h := (joinF_len (cl y) (cl z) (by simpa [cl, Str.length] using hw) (x.length + 1) (cl x) (by simp [cl, Str.length])).1
  rw [← replace_cl x y z hw] at h
  simpa [cl, Str.length] using h

theorem sign_ne {k : Str} {a c : Nat} (h : k = ⟨#[a]⟩) (e : c ≠ a) : ((⟨#[c]⟩ : Str) == k) = false := by
  rw [h]
  exact beq_false_of_ne (fun q => e (by simpa using q))
theorem flatMap_len {f : Nat → List Nat} (hf : ∀ c, (f c).length ≤ 2) (l : List Nat) : (l.flatMap f).length ≤ 2 * l.length := by
  induction l with
  | nil => simp
  | cons c r ih => rw [List.flatMap_cons, List.length_append, List.length_cons]; have := hf c; omega
theorem cl_len (x : Str) : (cl x).length = x.length := by simp [cl, Str.length]
theorem flatMap_step {f : Nat → List Nat} {l : List Nat} {i c : Nat} (hc : l[i]? = some c) : (l.take (i + 1)).flatMap f = (l.take i).flatMap f ++ f c := by
  rw [List.take_add_one, hc]
  simp
theorem cl_app (a b : Str) : cl (a ++ b) = cl a ++ cl b := by simp [cl, Str.cps_append]
end Mine
end

section
open PySem PySem.W PySem.Calls PyProof.Rows
set_option Elab.async false
set_option maxRecDepth 100000
namespace Mine

/-- what a call of the def at `f` hands back -/
def Ctr (lv : Nat) (f : Addr) (vs : List Value) (R : Value → List (Addr × Obj) → Prop) : Prop :=
  ∀ (w : World) (mg mb : Str → Option Value) (mean : ExcName → Option Value) (news : List (Addr × Obj)) (dp un : Nat) (gd : Option (List Code)) (cn : Str) (cs : Scope) (a : Addr) (ccd : Value) (cl : List (Str × Addr)) (outer : List Env) (A₀ : Around) (base h₀ : Heap) (L : Addr) (m : Str → Option Value) (s : Shared) (Q E : Value → Shared → Prop),
    Below A₀ base outer h₀ → Fr h₀ L s.heap m → (hd.heap_39 w.params).In h₀ → News h₀ L s.heap news →
    Top hd.view_39 (looseW hd.view_39 [Str.ofString "q_split", Str.ofString "to_unicode"]) mean mg mb h₀ → cs.kind = .function →
    dp + lv < recursionLimit → un + 10 * lv < cLine → 0 < s.toks →
    (∀ v own h' tk', R v own → 0 < tk' → Fr h₀ L h' m → News h₀ L h' (own ++ news) → (∀ q ∈ own, ∀ p ∈ news, p.1 ≠ q.1) → Q v { s with heap := h', toks := tk' }) →
    wpAny (model PySem.Challenge.rw_vg0011_01.row.prog w) (ktrTop dp un gd cn cs L a ccd cl outer) (call (.ref f) vs) Q E s

section
variable {α : Type} {M : Model} {A : Around} {s : Shared}
theorem with_tk {t : Sem α} {Q : α → Shared → Prop} {E : Value → Shared → Prop} (hn : 0 < s.toks) (h : wpAny M A t (fun a s' => 0 < s'.toks → Q a s') E s) : wpAny M A t Q E s :=
  wpAny_mono (wpAny_toks_of (n := 1) hn h) (fun _ _ x => x.2 x.1) (fun _ _ x => x.2)
theorem execs_tk {st : Stmt} {rest : List Stmt} {env : Env} {Q : Flow → Shared → Prop} {E : Value → Shared → Prop} (hn : 0 < s.toks)
    (h : wpAny M A (exec st env) (fun f s' => 0 < s'.toks → (match f with | .next => wpAny M A (execs rest env) Q E s' | f => Q f s')) E s) : wpAny M A (execs (st :: rest) env) Q E s :=
  wpAny_execs_cons (with_tk hn h)
theorem gentoks_pos {t : Sem α} {Q : α → Shared → Prop} {E : Value → Shared → Prop} {h : Heap} {gens : Array GenState} {drawn : Drawn} {n : Nat} {os : OsState}
    (H : ∀ tk, 0 < tk → wpAny M A t Q E ⟨h, gens, drawn, tk, os⟩) : wpAny M A t Q E ⟨h, gens, drawn, n + 1, os⟩ := H _ (Nat.succ_pos n)
end
section
variable {h₀ h' : Heap} {L : Addr} {m : Str → Option Value} {news : List (Addr × Obj)} {s : Shared} {Q : Value → Shared → Prop} {t : Tok} {tk' : Nat} {R : Value → List (Addr × Obj) → Prop}
theorem ret0 (hret : ∀ v own h' tk', R v own → 0 < tk' → Fr h₀ L h' m → News h₀ L h' (own ++ news) → (∀ q ∈ own, ∀ p ∈ news, p.1 ≠ q.1) → Q v { s with heap := h', toks := tk' })
    {v : Value} (hR : R v []) (ht : 0 < tk') (F : Fr h₀ L h' m) (N : News h₀ L h' news) : Q v { s with heap := h', toks := tk' } :=
  hret v [] h' tk' hR ht F N (fun _ hq => nomatch hq)
end
section
variable {h₀ h' : Heap} {L : Addr} {m : Str → Option Value} {news : List (Addr × Obj)} {s : Shared} {Q : Value → Shared → Prop} {t : Tok} {tk' : Nat}
theorem retI {y z : Int} (hret : ∀ v own h' tk', (∃ t' : Tok, v = .int z t' ∧ own = []) → 0 < tk' → Fr h₀ L h' m → News h₀ L h' (own ++ news) → (∀ q ∈ own, ∀ p ∈ news, p.1 ≠ q.1) → Q v { s with heap := h', toks := tk' })
    (e : y = z) (ht : 0 < tk') (F : Fr h₀ L h' m) (N : News h₀ L h' news) : Q (.int y t) { s with heap := h', toks := tk' } :=
  hret _ [] h' tk' ⟨t, by rw [e], rfl⟩ ht F N (fun _ hq => nomatch hq)
theorem retB {y z : Bool} (hret : ∀ v own h' tk', (v = .bool z ∧ own = []) → 0 < tk' → Fr h₀ L h' m → News h₀ L h' (own ++ news) → (∀ q ∈ own, ∀ p ∈ news, p.1 ≠ q.1) → Q v { s with heap := h', toks := tk' })
    (e : y = z) (ht : 0 < tk') (F : Fr h₀ L h' m) (N : News h₀ L h' news) : Q (.bool y) { s with heap := h', toks := tk' } :=
  hret _ [] h' tk' ⟨by rw [e], rfl⟩ ht F N (fun _ hq => nomatch hq)
theorem retS {y z : Str} (hret : ∀ v own h' tk', (∃ t' : Tok, v = .str z t' ∧ own = []) → 0 < tk' → Fr h₀ L h' m → News h₀ L h' (own ++ news) → (∀ q ∈ own, ∀ p ∈ news, p.1 ≠ q.1) → Q v { s with heap := h', toks := tk' })
    (e : y = z) (ht : 0 < tk') (F : Fr h₀ L h' m) (N : News h₀ L h' news) : Q (.str y t) { s with heap := h', toks := tk' } :=
  hret _ [] h' tk' ⟨t, by rw [e], rfl⟩ ht F N (fun _ hq => nomatch hq)
end
section
variable {lv : Nat} {f : Addr} {vs : List Value} {w : World} {mg mb : Str → Option Value} {mean : ExcName → Option Value} {news : List (Addr × Obj)} {dp un : Nat} {gd : Option (List Code)} {cn : Str} {cs : Scope} {a : Addr} {ccd : Value} {cl : List (Str × Addr)} {outer : List Env} {A₀ : Around} {base h₀ : Heap} {L : Addr} {m : Str → Option Value} {s : Shared} {Q E : Value → Shared → Prop}
theorem use_int {z : Int} (C : Ctr lv f vs (fun v own => ∃ t', v = .int z t' ∧ own = [])) (B : Below A₀ base outer h₀) (F : Fr h₀ L s.heap m) (X : (hd.heap_39 w.params).In h₀) (N : News h₀ L s.heap news)
    (T : Top hd.view_39 (looseW hd.view_39 [Str.ofString "q_split", Str.ofString "to_unicode"]) mean mg mb h₀) (hk : cs.kind = .function) (hd : dp + lv < recursionLimit) (hu : un + 10 * lv < cLine) (ht : 0 < s.toks)
    (h : ∀ t' h' tk', 0 < tk' → Fr h₀ L h' m → News h₀ L h' news → Q (.int z t') { s with heap := h', toks := tk' }) :
    wpAny (model PySem.Challenge.rw_vg0011_01.row.prog w) (ktrTop dp un gd cn cs L a ccd cl outer) (call (.ref f) vs) Q E s :=
  C w mg mb mean news dp un gd cn cs a ccd cl outer A₀ base h₀ L m s Q E B F X N T hk hd hu ht fun v own h' tk' hR ht' F' N' _ => by
    obtain ⟨t', rfl, rfl⟩ := hR
    exact h t' h' tk' ht' F' N'
theorem use_str {z : Str} (C : Ctr lv f vs (fun v own => ∃ t', v = .str z t' ∧ own = [])) (B : Below A₀ base outer h₀) (F : Fr h₀ L s.heap m) (X : (hd.heap_39 w.params).In h₀) (N : News h₀ L s.heap news)
    (T : Top hd.view_39 (looseW hd.view_39 [Str.ofString "q_split", Str.ofString "to_unicode"]) mean mg mb h₀) (hk : cs.kind = .function) (hd : dp + lv < recursionLimit) (hu : un + 10 * lv < cLine) (ht : 0 < s.toks)
    (h : ∀ t' h' tk', 0 < tk' → Fr h₀ L h' m → News h₀ L h' news → Q (.str z t') { s with heap := h', toks := tk' }) :
    wpAny (model PySem.Challenge.rw_vg0011_01.row.prog w) (ktrTop dp un gd cn cs L a ccd cl outer) (call (.ref f) vs) Q E s :=
  C w mg mb mean news dp un gd cn cs a ccd cl outer A₀ base h₀ L m s Q E B F X N T hk hd hu ht fun v own h' tk' hR ht' F' N' _ => by
    obtain ⟨t', rfl, rfl⟩ := hR
    exact h t' h' tk' ht' F' N'
theorem use_bool {z : Bool} (C : Ctr lv f vs (fun v own => v = .bool z ∧ own = [])) (B : Below A₀ base outer h₀) (F : Fr h₀ L s.heap m) (X : (hd.heap_39 w.params).In h₀) (N : News h₀ L s.heap news)
    (T : Top hd.view_39 (looseW hd.view_39 [Str.ofString "q_split", Str.ofString "to_unicode"]) mean mg mb h₀) (hk : cs.kind = .function) (hd : dp + lv < recursionLimit) (hu : un + 10 * lv < cLine) (ht : 0 < s.toks)
    (h : ∀ h' tk', 0 < tk' → Fr h₀ L h' m → News h₀ L h' news → Q (.bool z) { s with heap := h', toks := tk' }) :
    wpAny (model PySem.Challenge.rw_vg0011_01.row.prog w) (ktrTop dp un gd cn cs L a ccd cl outer) (call (.ref f) vs) Q E s :=
  C w mg mb mean news dp un gd cn cs a ccd cl outer A₀ base h₀ L m s Q E B F X N T hk hd hu ht fun v own h' tk' hR ht' F' N' _ => by
    obtain ⟨rfl, rfl⟩ := hR
    exact h h' tk' ht' F' N'
theorem use_list {xs : List Str} (C : Ctr lv f vs (fun v own => ∃ l ws n, v = .ref l ∧ own = [(l, W.listOf ws n)] ∧ StrsAre ws.toList xs)) (B : Below A₀ base outer h₀) (F : Fr h₀ L s.heap m) (X : (hd.heap_39 w.params).In h₀) (N : News h₀ L s.heap news)
    (T : Top hd.view_39 (looseW hd.view_39 [Str.ofString "q_split", Str.ofString "to_unicode"]) mean mg mb h₀) (hk : cs.kind = .function) (hd : dp + lv < recursionLimit) (hu : un + 10 * lv < cLine) (ht : 0 < s.toks)
    (h : ∀ l ws n h' tk', 0 < tk' → StrsAre ws.toList xs → Fr h₀ L h' m → News h₀ L h' ((l, W.listOf ws n) :: news) → (∀ p ∈ news, @Ne Nat p.1 l) → Q (.ref l) { s with heap := h', toks := tk' }) :
    wpAny (model PySem.Challenge.rw_vg0011_01.row.prog w) (ktrTop dp un gd cn cs L a ccd cl outer) (call (.ref f) vs) Q E s :=
  C w mg mb mean news dp un gd cn cs a ccd cl outer A₀ base h₀ L m s Q E B F X N T hk hd hu ht fun v own h' tk' hR ht' F' N' lt => by
    obtain ⟨l, ws, n, rfl, rfl, hs⟩ := hR
    exact h l ws n h' tk' ht' hs F' N' (fun p hp => lt _ List.mem_cons_self p hp)
end
theorem news_drop {h₀ h : Heap} {L : Addr} {news news' : List (Addr × Obj)} (N : News h₀ L h news') (hs : ∀ p ∈ news, p ∈ news') : News h₀ L h news := fun p hp => N p (hs p hp)

section
variable {prog : Program} {w : World} {A : Around} {E : Value → Shared → Prop} {s : Shared} {x y z : Str} {t u v : Tok} {Q : Value → Shared → Prop}
theorem my_replace (hu : u ≠ 0) (hv : v ≠ 0) (huv : u ≠ v) (hyz : (y == z) = false) (hw : 1 ≤ y.length) (hz : z.length ≤ 2) (hk : 0 < s.toks) (hx : x.length ≤ 1000000)
    (hq : ∀ t' k, 0 < k → (Txt.replace x y z).length ≤ 3 * x.length → Q (.str (Txt.replace x y z) t') { s with toks := k }) : wpAny (model prog w) A (call (.builtin "str.replace") [.str x t, .str y u, .str z v]) Q E s :=
  with_tk hk <| SC.replaceW hu hv huv hyz (by omega) (by omega) fun t' k hk => hq t' k hk (by
    have h := replace_len x y z hw
    have h2 : x.length * (z.length + 1) ≤ x.length * 3 := Nat.mul_le_mul_left _ (by omega)
    omega)
end

section
variable {P P2 P3 P4 : Prop} {D : Addr} {news : List (Addr × Obj)}
theorem lt_of_all : ∀ {l : List (Addr × Obj)}, AllLt D l → ∀ p ∈ l, @LT.lt Nat _ p.1 D
  | [], _, _, h => nomatch h
  | p :: r, h, q, hq => by
    rcases List.mem_cons.mp hq with rfl | hq
    · exact h.1
    · exact lt_of_all h.2 q hq
theorem ne0 (h : AllLt D news) : ∀ p ∈ news, p.1 ≠ D := fun p hp => Nat.ne_of_lt (lt_of_all h p hp)
theorem ne1 (h : P ∧ AllLt D news) : ∀ p ∈ news, p.1 ≠ D := ne0 h.2
theorem ne2 (h : P ∧ P2 ∧ AllLt D news) : ∀ p ∈ news, p.1 ≠ D := ne0 h.2.2
theorem ne3 (h : P ∧ P2 ∧ P3 ∧ AllLt D news) : ∀ p ∈ news, p.1 ≠ D := ne0 h.2.2.2
theorem ne4 (h : P ∧ P2 ∧ P3 ∧ P4 ∧ AllLt D news) : ∀ p ∈ news, p.1 ≠ D := ne0 h.2.2.2.2
theorem neF (h : ∀ p ∈ news, p.1 < D) : ∀ p ∈ news, p.1 ≠ D := fun p hp => Nat.ne_of_lt (h p hp)
theorem neS (h : ∀ p ∈ news, p.1 < D) : ∀ p ∈ news, p.1 ≠ D + 1 := fun p hp => Nat.ne_of_lt (Nat.lt_succ_of_lt (h p hp))
end

section
variable {prog : Program} {w : World} {A A₀ : Around} {s : Shared} {K : Frag} {L : Addr} {h₀ base : Heap} {m mg mb : Str → Option Value} {p : Program} {loose : List Str} {mean : ExcName → Option Value} {env : Env} {outer : List Env} {R : Result → Shared → Prop}
/-- a def is entered over the whole heap that its caller has: nothing in it is touched -/
theorem enter0 {name qual : Str} {params : Arguments} {body : List Stmt} {scope : Scope} {dV kV doc pm cdv ct oc : Value} {an od : Option Addr} {osl : Array (Option Value)} {f : Addr} {args : Args} {binds : List (Str × Value)}
    (B : Below A₀ base outer h₀) (F : Fr h₀ L s.heap m) (X₀ : K.In h₀) (T : Top p loose mean mg mb h₀) (hA : A.frames = some (env :: outer)) (hf : env.frame = some L) (hke : env.scope.kind = .function)
    (ho : K.lookup f = some ⟨oc, od, .func (fnOf name qual params body scope dV kV doc pm an cdv ct), osl⟩) (hcd : codeIn K cdv qual = true) (hroom : A.depth < recursionLimit)
    (hbind : BindsTo s (fnOf name qual params body scope dV kV doc pm an cdv ct) args binds) (hloc : ∀ y ∈ binds, scope.names.lookup y.1 = some .local)
    (h : ∀ L' h₁, Fr s.heap L' h₁ (fun y => binds.reverse.lookup y) → News s.heap L' h₁ [] → Below A base (env :: outer) s.heap → K.In s.heap → Top p loose mean mg mb s.heap →
      wpAny (model prog w) (A.deeper (envOf qual scope L' f cdv)) (execs body (envOf qual scope L' f cdv))
        (fun fl s' => LeaveK h₀ L m s.heap R (match fl with | .ret v => v | _ => .none) s')
        (fun e s' => wpAny (model prog w) (A.deeper (envOf qual scope L' f cdv)) (leaving (envOf qual scope L' f cdv) e) (fun _ s'' => R (.error e) s'') (fun e' s'' => R (.error e') s'') s')
        { s with heap := h₁, toks := s.toks + binds.length })
    (hco : scope.isCoroutine = false) (hgen : scope.isGenerator = false) (hk : scope.kind = .function)
    (hcell : ∀ x ∈ scope.names, x.2 ≠ .cell) : codeAny (model prog w) A (.call (.ref f) args) R s := by
  have X := X₀.keeps F.keep
  have B₁ := pushX B F hf hke
  refine codeAny_call_def (fd := fnOf name qual params body scope dV kV doc pm an cdv ct) (body := body) (binds := binds) hroom (X _ _ ho) rfl (T.nolimit.keeps F.keep) (codeRec_of X hcd) rfl hbind hcell hloc (fun h₁ hns hk₁ => ?_) hco hgen hk
  refine wpAny_mono (h s.heap.objs.size h₁ ⟨hns, hk₁, Nat.le_refl _⟩ News.nil ⟨hA, fun b o e => F.keep b o (B.stays b o e), B₁.frames⟩ X (T.keeps F.keep)) (fun fl s' hl => ?_) fun _ _ y => y
  obtain ⟨L', m', news', F', N', k⟩ := hl
  refine k ⟨F.ns.at' fun o e => F'.keep L o e, fun b o e => F'.keep b o (F.keep b o e), F.above⟩ fun p hp => ⟨(N' p hp).1, fun q => ?_, ?_⟩
  · obtain ⟨oL, _, _, hoL, _⟩ := F.ns
    have := (N' p hp).2.2
    rw [q, hoL] at this; cases this
  · cases q : h₀.get? p.1 with
    | none => rfl
    | some o => have := (N' p hp).2.2; rw [F.keep _ _ q] at this; cases this

variable {news own : List (Addr × Obj)} {h' : Heap} {L' : Addr} {m' : Str → Option Value} {tk' : Nat} {Q : Value → Shared → Prop} {v : Value}
/-- what such a def hands back -/
theorem done0 {P : Value → List (Addr × Obj) → Prop} {all : List (Addr × Obj)} (N : News h₀ L s.heap news) (F' : Fr s.heap L' h' m') (N' : News s.heap L' h' all)
    (hret : ∀ v own h' tk', P v own → 0 < tk' → Fr h₀ L h' m → News h₀ L h' (own ++ news) → (∀ q ∈ own, ∀ p ∈ news, p.1 ≠ q.1) → Q v { s with heap := h', toks := tk' })
    (hP : P v own) (ho : ∀ q ∈ own, q ∈ all) (ht : 0 < tk') (kF : Fr h₀ L h' m) (kN : News h₀ L h' all) : Q v { s with heap := h', toks := tk' } := by
  refine hret v own h' tk' hP ht kF (fun p hp => ?_) fun q hq p hp e => ?_
  · rcases List.mem_append.mp hp with hp | hp
    · exact kN p (ho p hp)
    · exact ⟨F'.keep _ _ (N p hp).1, (N p hp).2⟩
  · have h1 := (N' q (ho q hq)).2.2
    rw [← e, (N p hp).1] at h1
    cases h1
end

theorem fr_put {h₀ h : Heap} {L : Addr} {m : Str → Option Value} {y : Str} {v : Value} (F : Fr h₀ L h m) (e : m y = some v) : Fr h₀ L h (fun z => if z = y then some v else m z) := by
  have : (fun z => if z = y then some v else m z) = m := by
    funext z
    by_cases q : z = y
    · rw [if_pos q, q, e]
    · rw [if_neg q]
  rw [this]; exact F

/-- the walk stops here -/
structure Stop (P : Prop) : Prop where
  out : P
theorem Stop.go {P : Prop} (h : Stop P) : P := h.out

theorem fr_put4 {h₀ h : Heap} {L : Addr} {m : Str → Option Value} {y1 y2 y3 y4 : Str} {v1 v2 v3 v4 : Value} (F : Fr h₀ L h m) (e1 : m y1 = some v1) (e2 : m y2 = some v2) (e3 : m y3 = some v3) (e4 : m y4 = some v4) :
    Fr h₀ L h (fun z => if z = y1 then some v1 else if z = y2 then some v2 else if z = y3 then some v3 else if z = y4 then some v4 else m z) := by
  have : (fun z => if z = y1 then some v1 else if z = y2 then some v2 else if z = y3 then some v3 else if z = y4 then some v4 else m z) = m := by
    funext z
    by_cases q1 : z = y1
    · rw [if_pos q1, q1, e1]
    rw [if_neg q1]
    by_cases q2 : z = y2
    · rw [if_pos q2, q2, e2]
    rw [if_neg q2]
    by_cases q3 : z = y3
    · rw [if_pos q3, q3, e3]
    rw [if_neg q3]
    by_cases q4 : z = y4
    · rw [if_pos q4, q4, e4]
    rw [if_neg q4]
  rw [this]; exact F
theorem StrsAre.len : ∀ {vs : List Value} {xs : List Str}, StrsAre vs xs → vs.length = xs.length
  | _, _, .nil => rfl
  | _, _, .cons _ _ r => by simp [StrsAre.len r]

def putsM (ps : List (Str × Value)) (m : Str → Option Value) : Str → Option Value := ps.foldr (fun p f z => if z = p.1 then some p.2 else f z) m
theorem putsM_eq {m : Str → Option Value} : ∀ {ps : List (Str × Value)}, (∀ p ∈ ps, m p.1 = some p.2) → putsM ps m = m
  | [], _ => rfl
  | p :: r, h => by
    have ih := putsM_eq (ps := r) fun q hq => h q (List.mem_cons_of_mem _ hq)
    show (fun z => if z = p.1 then some p.2 else putsM r m z) = m
    rw [ih]
    funext z
    by_cases q : z = p.1
    · rw [if_pos q, q]; exact (h p List.mem_cons_self).symm
    · rw [if_neg q]
theorem fr_puts {h₀ h : Heap} {L : Addr} {m : Str → Option Value} (ps : List (Str × Value)) (F : Fr h₀ L h m) (e : ∀ p ∈ ps, m p.1 = some p.2) : Fr h₀ L h (putsM ps m) := by
  rw [putsM_eq e]; exact F

theorem fr_under2 {h₀ h : Heap} {L : Addr} {m : Str → Option Value} {x1 x2 : Str} {v1 v2 : Value} (ps : List (Str × Value)) (F : Fr h₀ L h (fun y => if y = x1 then some v1 else if y = x2 then some v2 else m y)) (e : ∀ p ∈ ps, m p.1 = some p.2) :
    Fr h₀ L h (fun y => if y = x1 then some v1 else if y = x2 then some v2 else putsM ps m y) := by
  rw [putsM_eq e]; exact F

theorem news_swap {h₀ h : Heap} {L : Addr} {own : List (Addr × Obj)} {a : Addr × Obj} (N : News h₀ L h (own ++ [a])) : News h₀ L h (a :: own) := fun p hp => by
  rcases List.mem_cons.mp hp with rfl | hp
  · exact N _ (List.mem_append_right _ List.mem_cons_self)
  · exact N _ (List.mem_append_left _ hp)
theorem news_back {h₀ h : Heap} {L : Addr} {own : List (Addr × Obj)} {a : Addr × Obj} (N : News h₀ L h (a :: own)) : News h₀ L h (own ++ [a]) := fun p hp => by
  rcases List.mem_append.mp hp with hp | hp
  · exact N _ (List.mem_cons_of_mem _ hp)
  · rw [List.mem_singleton.mp hp]; exact N _ List.mem_cons_self

theorem skip_succ {n : Nat} {P : Prop} (h : P) : 0 < n + 1 → P := fun _ => h
/-- a value that is a truth already, or the nought that stood ahead of it -/
def AsBool (v : Value) (q : Bool) : Prop := v = .bool q ∨ (q = false ∧ ∃ t, v = .int 0 t)

section
variable {lv : Nat} {f : Addr} {vs : List Value} {w : World} {mg mb : Str → Option Value} {mean : ExcName → Option Value} {news : List (Addr × Obj)} {dp un : Nat} {gd : Option (List Code)} {cn : Str} {cs : Scope} {a : Addr} {ccd : Value} {cl : List (Str × Addr)} {outer : List Env} {A₀ : Around} {base h₀ : Heap} {L : Addr} {m : Str → Option Value} {s : Shared} {Q E : Value → Shared → Prop}
theorem use_strB {z : Str} {n : Nat} (C : Ctr lv f vs (fun v own => ∃ t', v = .str z t' ∧ own = [])) (hB : z.length ≤ n) (B : Below A₀ base outer h₀) (F : Fr h₀ L s.heap m) (X : (hd.heap_39 w.params).In h₀) (N : News h₀ L s.heap news)
    (T : Top hd.view_39 (looseW hd.view_39 [Str.ofString "q_split", Str.ofString "to_unicode"]) mean mg mb h₀) (hk : cs.kind = .function) (hd : dp + lv < recursionLimit) (hu : un + 10 * lv < cLine) (ht : 0 < s.toks)
    (h : ∀ t' h' tk', z.length ≤ n → 0 < tk' → Fr h₀ L h' m → News h₀ L h' news → Q (.str z t') { s with heap := h', toks := tk' }) :
    wpAny (model PySem.Challenge.rw_vg0011_01.row.prog w) (ktrTop dp un gd cn cs L a ccd cl outer) (call (.ref f) vs) Q E s :=
  use_str C B F X N T hk hd hu ht fun t' h' tk' => h t' h' tk' hB
end
section
variable {prog : Program} {w : World} {A : Around} {E : Value → Shared → Prop} {s : Shared} {x y : Str} {t u : Tok} {Q : Value → Shared → Prop}
theorem add_big (ht : 0 < s.toks) (hx : x.length ≤ 1000000) (hy : y.length ≤ 1000000) (h : ∀ t' k, 0 < k → (x ++ y).length = x.length + y.length → Q (.str (x ++ y) t') { s with toks := k }) : wpAny (model prog w) A (binaryOp .Add (.str x t) (.str y u)) Q E s :=
  with_tk ht (SB.add (fun t' k hk => h t' k hk (Str.length_append x y)) (by rw [sizeLine_eq]; omega))
theorem iadd_big (ht : 0 < s.toks) (hx : x.length ≤ 1000000) (hy : y.length ≤ 1000000) (h : ∀ t' k, 0 < k → (x ++ y).length = x.length + y.length → Q (.str (x ++ y) t') { s with toks := k }) : wpAny (model prog w) A (inplaceOp .Add (.str x t) (.str y u)) Q E s :=
  with_tk ht (SB.iadd (fun t' k hk => h t' k hk (Str.length_append x y)) (by rw [sizeLine_eq]; omega))
end

theorem fr_under1 {h₀ h : Heap} {L : Addr} {m : Str → Option Value} {x1 : Str} {i : Nat} {u : Tok} (ps : List (Str × Value)) (F : Fr h₀ L h (fun y => if y = x1 then some (.int ((0 : Int) + (i : Int)) u) else m y)) (e : ∀ p ∈ ps, m p.1 = some p.2) :
    Fr h₀ L h (fun y => if y = x1 then some (.int (i : Int) u) else putsM ps m y) := by
  rw [putsM_eq e, ← Int.zero_add (i : Int)]; exact F

/-- a mark in the context: the walk goes into what it stops at otherwise -/
structure GoOn : Prop where
def CutEnd (s : Shared) (b : Bool) (v : Value) (s' : Shared) : Prop := v = .bool b ∧ ∃ tk, 0 < tk ∧ s' = { s with toks := tk }
theorem cut_bool {M : Model} {A : Around} {t : Sem Value} {Q E : Value → Shared → Prop} {s : Shared} (b : Bool) (h1 : wpAny M A t (CutEnd s b) E s) (h2 : ∀ tk, 0 < tk → Q (.bool b) { s with toks := tk }) : wpAny M A t Q E s :=
  wpAny_mono h1 (fun v s' ⟨e, tk, ht, es⟩ => by rw [e, es]; exact h2 tk ht) fun _ _ e => e
theorem cut_and1 {s : Shared} {p q : Bool} {tk : Nat} (h : p = false) (ht : 0 < tk) : CutEnd s (p && q) (.bool p) { s with toks := tk } := ⟨by rw [h]; rfl, tk, ht, rfl⟩
theorem cut_and2 {s : Shared} {p q : Bool} {tk : Nat} (h : p = true) (ht : 0 < tk) : CutEnd s (p && q) (.bool q) { s with toks := tk } := ⟨by rw [h]; rfl, tk, ht, rfl⟩
end Mine
end

section
open PySem PySem.W PySem.Calls PyProof.Rows
set_option Elab.async false
set_option maxRecDepth 100000
namespace Mine
section
variable {prog : Program} {w : World} {A : Around} {s : Shared} {h₀ : Heap} {L : Addr} {m : Str → Option Value} {env : Env} {news : List (Addr × Obj)}

/-- what an iteration over `xv` hands on: `n` items, the i-th within `P i` -/
def IterOf (prog : Program) (w : World) (A : Around) (xv : Value) (s : Shared) (n : Nat) (P : Nat → Value → Prop) : Prop :=
  ∀ (Q E : Value → Shared → Prop), (∀ o fp St, Walks prog w A s.heap.objs.size fp [s.heap.objs.size] n P St → (∀ b ∈ fp, b ≤ s.heap.objs.size) → St 0 (s.heap.push o) →
    Q (.ref s.heap.objs.size) { s with heap := s.heap.push o }) → wpAny (model prog w) A (pyIter xv) Q E s

theorem iter_list {l : Addr} {its : Array Value} (hh : A.handled = none) (hl : s.heap.IsList l its) : IterOf prog w A (.ref l) s its.size (fun i v => its[i]? = some v) := by
  intro Q E h
  have hlt : l < s.heap.objs.size := by obtain ⟨_, e, _⟩ := hl; exact Heap.lt_size e
  refine wpAny_pyIter_list hl ?_
  refine h _ _ _ (Walks.list hh s.heap.objs.size l (Nat.ne_of_lt hlt) its) (fun b hb => ?_) ⟨⟨_, Heap.get?_push_size _ rfl, rfl, rfl⟩, hl.push _⟩
  rcases List.mem_cons.mp hb with e | hb
  · exact Nat.le_of_eq e
  · rw [List.mem_singleton.mp hb]; exact Nat.le_of_lt hlt

theorem iter_str {x : Str} {t : Tok} (hh : A.handled = none) : IterOf prog w A (.str x t) s x.cps.size (SignAt x) := by
  intro Q E h
  refine wpAny_pyIter_str fun o St hW hst => ?_
  exact h o _ St (hW A hh) (fun b hb => Nat.le_of_eq (List.mem_singleton.mp hb)) hst

/-- the end of such an element -/
def TurnEnd (s : Shared) (h : Heap) (Y : Value → Prop) (y : Value) (s' : Shared) : Prop := Y y ∧ ∃ tk', s' = { s with heap := h, toks := tk' }
theorem TurnEnd.intro {s : Shared} {h : Heap} {Y : Value → Prop} {y : Value} {tk : Nat} (hY : Y y) : TurnEnd s h Y y { s with heap := h, toks := tk } := ⟨hY, _, rfl⟩

/-- one element of a comprehension whose items leave the heap alone -/
def TurnOf (prog : Program) (w : World) (A : Around) (h₀ : Heap) (L : Addr) (m : Str → Option Value) (env : Env) (elt : Expr) (x : Str) (scope : Scope) (cl : List (Str × Addr)) (s : Shared) (news : List (Addr × Obj)) (v : Value) (Y : Value → Prop) : Prop :=
  ∀ (C : Addr) (oC : Obj) (D : Addr) (oD : Obj) (m₂ : Str → Option Value) (h : Heap) (tk : Nat) (E' : Value → Shared → Prop),
    LCg.NsObj oC m₂ → m₂ x = some v → Fr h₀ L h m → News h₀ L h ((C, oC) :: (D, oD) :: news) → 0 < tk →
    wpAny (model prog w) A (eval elt (compEnvC scope cl C env)) (TurnEnd s h Y) E' { s with heap := h, toks := tk }

theorem my_block {E : Value → Shared → Prop} {elt iter : Expr} {x : Str} {px : Pos} {scope : Scope} {cl : List (Str × Addr)} {pos : Pos} {I : Addr} {fp : List Addr} {n : Nat} {P Y : Nat → Value → Prop} {St : Nat → Heap → Prop} {Q : Value → Shared → Prop}
    (W : Walks prog w A I fp [I] n P St) (hsz : n ≤ sizeLine) (hcell : ∀ y ∈ scope.names, y.2 ≠ .cell) (hkind : scope.kind = .function) (hx : scope.names.lookup x = some .local)
    (hst : St 0 s.heap) (hfp : ∀ b ∈ fp, b < s.heap.objs.size) (F : Fr h₀ L s.heap m) (N : News h₀ L s.heap news) (hIL : L ≠ I) (hI₀ : h₀.get? I = none) (off : ∀ p ∈ news, p.1 ≠ I)
    (turn : ∀ i v, i < n → P i v → TurnOf prog w A h₀ L m env elt x scope cl s news v (Y i))
    (fin : ∀ D ys h tk, ys.length = n → (∀ i y, ys[i]? = some y → Y i y) → Fr h₀ L h m → News h₀ L h ((D, LCg.lst ys) :: news) → (∀ p ∈ news, p.1 < D) → Q (.ref D) { s with heap := h, toks := tk }) :
    wpAny (model prog w) A (newList []) (fun acc s₃ => wpAny (model prog w) A (newFunctionEnv scope env.globals cl [] env.qual none .none (some env)) (fun cenv s₄ =>
      codeAny (model prog w) A (.compStart (.ListComp elt [⟨.Name x px, iter, [], 0⟩] scope pos) 0 (.ref I) acc { cenv with scope := relabel scope env }) (compPost (model prog w) A E none Q acc cenv.locals) s₄) E s₃) E s := by
  refine wpAny_newObj_type (wpAny_newFunctionEnv hcell (by intro y hy; simp at hy) (fun h₁ hns₁ hsb₁ => ?_) hkind)
  dsimp only at hns₁ hsb₁ ⊢
  generalize hH2 : s.heap.push { cls := .type "list", dict := none, data := .seq ([] : List Value).toArray } = H2 at hns₁ hsb₁ ⊢
  have hC : H2.objs.size = s.heap.objs.size + 1 := by rw [← hH2, Heap.size_push]
  generalize hD : s.heap.objs.size = D at *
  generalize hCC : H2.objs.size = C at *
  have hIf : I ∈ fp := W.sub I (List.mem_singleton.mpr rfl)
  have hIlt : I < D := hfp I hIf
  have old : ∀ b o, s.heap.get? b = some o → h₁.get? b = some o := fun b o e => by
    have hb : b < D := hD ▸ Heap.lt_size e
    exact hsb₁.extBut b o (by intro q; rw [q, hC] at hb; exact absurd hb (Nat.not_lt.mpr (Nat.le_succ _))) (Heap.get?_push_of_some _ (hH2 ▸ Heap.get?_push_of_some _ e))
  have hDC : @Ne Nat D C := by rw [hC]; exact Nat.ne_of_lt (Nat.lt_succ_self _)
  have hacc : h₁.get? D = some (LCg.lst []) := by
    refine hsb₁.extBut _ _ hDC (Heap.get?_push_of_some _ ?_)
    rw [← hH2, ← hD]
    exact Heap.get?_push_size _ rfl
  have fresh₀ : ∀ a, D ≤ a → h₀.get? a = none := fun a ha => by
    cases e : h₀.get? a with
    | none => rfl
    | some o' => exact absurd (Heap.lt_size (F.keep a o' e)) (by rw [hD]; exact Nat.not_lt.mpr ha)
  have hD₀ : h₀.get? D = none := fresh₀ _ (Nat.le_refl _)
  have hC₀ : h₀.get? C = none := fresh₀ _ (by rw [hC]; exact Nat.le_succ _)
  have hLlt : L < D := hD ▸ F.ns.lt
  have hDL : @Ne Nat D L := Ne.symm (Nat.ne_of_lt hLlt)
  have hCL : @Ne Nat C L := by rw [hC]; exact Ne.symm (Nat.ne_of_lt (Nat.lt_succ_of_lt hLlt))
  have hIC : @Ne Nat I C := by rw [hC]; exact Nat.ne_of_lt (Nat.lt_succ_of_lt hIlt)
  have hID : @Ne Nat I D := Nat.ne_of_lt hIlt
  have nlt : ∀ p ∈ news, @LT.lt Nat _ p.1 D := fun p hp => hD ▸ Heap.lt_size (N p hp).1
  have nC : ∀ p ∈ news, @Ne Nat p.1 C := fun p hp => by rw [hC]; exact Nat.ne_of_lt (Nat.lt_succ_of_lt (nlt p hp))
  have nD : ∀ p ∈ news, @Ne Nat p.1 D := fun p hp => Nat.ne_of_lt (nlt p hp)
  have hDf : D ∉ fp := fun hm => Nat.lt_irrefl _ (hfp _ hm)
  have hCf : C ∉ fp := fun hm => by have := hfp _ hm; rw [hC] at this; exact Nat.lt_irrefl _ (Nat.lt_of_succ_lt this)
  have hst₁ : St 0 h₁ := W.frame _ _ _ hst fun b _ o e => old b o e
  have but : ∀ {h h' : Heap}, (∀ b o, b ∉ [I] → h.get? b = some o → h'.get? b = some o) → ∀ b o, @Ne Nat b I → h.get? b = some o → h'.get? b = some o := fun hk b o hb e => hk b o (by simpa using hb) e
  have loop : codeAny (model prog w) A (.compLoop (.ListComp elt [⟨.Name x px, iter, [], 0⟩] scope pos) 0 (.ref I) (.ref D) (compEnvC scope cl C env))
        (compPost (model prog w) A E none Q (.ref D) C) { s with heap := h₁, toks := s.toks + ([] : List (Str × Value)).length } := by
    refine codeAny_compLoop_tests
      (fun k s' => ∃ h' tk i ys, s' = { s with heap := h', toks := tk } ∧ i ≤ n ∧ k = n + 1 - i ∧ ys.length = i ∧ St i h' ∧ Fr h₀ L h' m ∧ (∃ m', h'.Ns C m') ∧ News h₀ L h' ((D, LCg.lst ys) :: news) ∧ (∀ j y, ys[j]? = some y → Y j y)) ?_ (n + 1)
      ⟨h₁, _, 0, [], rfl, Nat.zero_le _, rfl, rfl, hst₁, F.keeps old, ⟨_, hns₁⟩, fun p hp => ?_, fun j y e => by simp at e⟩
    · rintro k s' ⟨h', tk, i, ys, rfl, hi, rfl, hyl, hst', F', ⟨m', hn'⟩, N', hY⟩
      by_cases hlt : i < n
      · refine W.item i _ _ _ hlt hst' fun v h₂ tk₂ hPv hst₂ hk₂ => ?_
        refine wpAny_assign_Name (wpAny_storeName_local (lookup_relabel_local hx) (hn'.at' fun o e => but hk₂ _ o (Ne.symm hIC) e) (fun h₃ hn₃ hs₃ => ?_) (by simp [compEnvC, relabel, hkind]))
        refine wpAny_tests_nil ?_
        simp only [if_true]
        have k₃ : ∀ b o, @Ne Nat b I → @Ne Nat b C → h'.get? b = some o → h₃.get? b = some o := fun b o h1 h2 e => hs₃.extBut b o h2 (but hk₂ b o h1 e)
        have hst₃ : St (i + 1) h₃ := W.frame _ _ _ hst₂ fun b hb o e => hs₃.extBut b o (fun q => hCf (by have q' : b = C := q; rw [← q']; exact hb)) e
        obtain ⟨oC, heC, hoC⟩ := LCg.ns_obj hn₃
        have F₃ : Fr h₀ L h₃ m := ⟨F'.ns.at' fun o e => k₃ L o hIL (Ne.symm hCL) e, fun b o e => k₃ b o (fun q => by rw [q, hI₀] at e; cases e) (fun q => by rw [q, hC₀] at e; cases e) (F'.keep b o e), F'.above⟩
        have N₃ : News h₀ L h₃ ((C, oC) :: (D, LCg.lst ys) :: news) := fun p hp => by
          rcases List.mem_cons.mp hp with rfl | hp
          · exact ⟨heC, hCL, hC₀⟩
          · have z := N' p hp
            refine ⟨k₃ _ _ ?_ ?_ z.1, z.2⟩
            · rcases List.mem_cons.mp hp with rfl | hp
              · exact Ne.symm hID
              · exact off p hp
            · rcases List.mem_cons.mp hp with rfl | hp
              · exact hDC
              · exact nC p hp
        refine wpAny_mono (turn i v hlt hPv C oC D (LCg.lst ys) _ h₃ _ _ hoC (by simp) F₃ N₃ (Nat.succ_pos _)) (fun y s₄ h₄ => ?_) fun _ _ e => e
        obtain ⟨hYy, tk₄, rfl⟩ := h₄
        have zD := (N₃ (D, LCg.lst ys) (List.mem_cons_of_mem _ List.mem_cons_self)).1
        refine append_at (hsz := by show ys.toArray.size ≤ sizeLine; rw [List.size_toArray, hyl]; exact Nat.le_trans hi hsz) zD fun h₅ hs₅ hD₅ => ?_
        refine ⟨n + 1 - (i + 1), by omega, h₅, tk₄, i + 1, ys ++ [y], rfl, hlt, rfl, by rw [List.length_append, List.length_singleton, hyl], W.frame _ _ _ hst₃ fun b hb o e => hs₅.extBut b o (fun q => hDf (q ▸ hb)) e, F₃.change hs₅ hDL hD₀,
          ⟨_, hn₃.sameBut hs₅ (Ne.symm hDC)⟩, fun p hp => ?_, fun j y' e => ?_⟩
        · rcases List.mem_cons.mp hp with rfl | hp
          · exact ⟨hD₅.trans (congrArg some (LCg.lst_snoc ys y)), hDL, hD₀⟩
          · have z := N₃ p (List.mem_cons_of_mem _ (List.mem_cons_of_mem _ hp))
            exact ⟨hs₅.extBut _ _ (nD p hp) z.1, z.2⟩
        · by_cases hj : j < ys.length
          · rw [List.getElem?_append_left hj] at e; exact hY j y' e
          · rw [List.getElem?_append_right (Nat.not_lt.mp hj)] at e
            have hj' : j - ys.length = 0 := by
              cases q : j - ys.length with
              | zero => rfl
              | succ r => rw [q] at e; simp at e
            rw [hj'] at e
            simp at e
            have : j = i := by omega
            rw [this, ← e]; exact hYy
      · obtain rfl : i = n := Nat.le_antisymm hi (Nat.not_lt.mp hlt)
        refine W.done _ _ _ hst' fun h₂ tk₂ hk₂ => ?_
        show ∃ m, Heap.Ns h₂ C m ∧ _
        refine ⟨m', hn'.at' fun o e => but hk₂ _ o (Ne.symm hIC) e, fun h₃ hs₃ => ?_⟩
        have k₃ : ∀ b o, @Ne Nat b I → @Ne Nat b C → h'.get? b = some o → h₃.get? b = some o := fun b o h1 h2 e => hs₃.extBut b o h2 (but hk₂ b o h1 e)
        refine fin D ys h₃ tk₂ hyl hY ⟨F'.ns.at' fun o e => k₃ L o hIL (Ne.symm hCL) e, fun b o e => k₃ b o (fun q => by rw [q, hI₀] at e; cases e) (fun q => by rw [q, hC₀] at e; cases e) (F'.keep b o e), F'.above⟩ (fun p hp => ?_) nlt
        have z := N' p hp
        refine ⟨k₃ _ _ ?_ ?_ z.1, z.2⟩
        · rcases List.mem_cons.mp hp with rfl | hp
          · exact Ne.symm hID
          · exact off p hp
        · rcases List.mem_cons.mp hp with rfl | hp
          · exact hDC
          · exact nC p hp
    · rcases List.mem_cons.mp hp with rfl | hp
      · exact ⟨hacc, hDL, hD₀⟩
      · exact ⟨old _ _ (N p hp).1, (N p hp).2⟩
  exact codeAny_compStart_list loop (W.self 0 _ _ _ hst₁ loop)

/-- a comprehension over a text or a list of the call's, its elements leaving the heap alone -/
def SrcOf (prog : Program) (w : World) (A : Around) (h₀ : Heap) (L : Addr) (m : Str → Option Value) (env : Env) (elt : Expr) (x : Str) (scope : Scope) (cl : List (Str × Addr)) (Q : Value → Shared → Prop) (xv : Value) (s : Shared) : Prop :=
  ∃ n P news, ∃ Y : Nat → Value → Prop, Fr h₀ L s.heap m ∧ News h₀ L s.heap news ∧ IterOf prog w A xv s n P ∧ n ≤ sizeLine ∧
    (∀ i v, i < n → P i v → TurnOf prog w A h₀ L m env elt x scope cl s news v (Y i)) ∧
    (∀ D ys h tk, ys.length = n → (∀ i y, ys[i]? = some y → Y i y) → Fr h₀ L h m → News h₀ L h ((D, LCg.lst ys) :: news) → (∀ p ∈ news, p.1 < D) → Q (.ref D) { s with heap := h, toks := tk })

theorem my_comp {E : Value → Shared → Prop} {elt iter : Expr} {x : Str} {px : Pos} {scope : Scope} {cl : List (Str × Addr)} {pos : Pos} {Q : Value → Shared → Prop} (_F₀ : Fr h₀ L s.heap m)
    (hclos : closureFor scope env = pure cl) (hcell : ∀ y ∈ scope.names, y.2 ≠ .cell) (hkind : scope.kind = .function)
    (hnames : ∀ y ∈ scope.names, y.2 = .local → scope.names.lookup y.1 = some .local) (hx : scope.names.lookup x = some .local)
    (h : wpAny (model prog w) A (eval iter env) (SrcOf prog w A h₀ L m env elt x scope cl Q) E s)
    (hs : ∀ x, foldedSetIterable iter env x = pure x := by intro _; rfl) :
    wpAny (model prog w) A (eval (.ListComp elt [⟨.Name x px, iter, [], 0⟩] scope pos) env) Q E s := by
  rw [eval_ListComp]
  refine wpAny_comprehension_free (use := none) rfl hs hclos hkind hnames (wpAny_mono h (fun xv s₁ h₁ => ?_) fun _ _ e => e)
  obtain ⟨n, P, news, Y, F, N, it, hsz, turn, fin⟩ := h₁
  refine it _ _ fun o fp St W hfp hst => ?_
  have hlt : ∀ p ∈ news, p.1 ≠ s₁.heap.objs.size := fun p hp => Nat.ne_of_lt (Heap.lt_size (N p hp).1)
  refine my_block (Q := Q) W hsz hcell hkind hx hst (fun b hb => ?_) (F.push o) (fun p hp => ⟨Heap.get?_push_of_some _ (N p hp).1, (N p hp).2⟩) (Nat.ne_of_lt F.ns.lt) (next_is_new F) hlt turn fin
  show b < (s₁.heap.push o).objs.size
  rw [Heap.size_push]
  exact Nat.lt_succ_of_le (hfp b hb)
end
end Mine
namespace Mine
section
variable {prog : Program} {w : World} {A : Around} {s : Shared} {h₀ : Heap} {L : Addr} {m : Str → Option Value} {env : Env} {news : List (Addr × Obj)}
theorem strsAre_of {xs : List Str} : ∀ {ys : List Value}, ys.length = xs.length → (∀ (i : Nat) (y : Value), ys[i]? = some y → ∃ (x : Str) (t : Tok), xs[i]? = some x ∧ y = Value.str x t) → StrsAre ys xs := by
  induction xs with
  | nil => intro ys h _; cases ys with
    | nil => exact .nil
    | cons y r => simp at h
  | cons x xs ih => intro ys h hy; cases ys with
    | nil => simp at h
    | cons y r =>
      obtain ⟨x', t, e1, e2⟩ := hy 0 y rfl
      have e1 : x = x' := by simpa using e1
      subst e1
      subst e2
      exact .cons _ _ (ih (by simpa using h) fun i y e => by
        obtain ⟨x, t, a, b⟩ := hy (i + 1) y (by simpa using e)
        exact ⟨x, t, by simpa using a, b⟩)
theorem strValues_get (l : List (Str × Tok)) (i : Nat) (v : Value) (h : (strValues l).toArray[i]? = some v) : ∃ x t, (l.map (·.1))[i]? = some x ∧ v = .str x t := by
  simp [strValues] at h
  obtain ⟨a, b, e, rfl⟩ := h
  exact ⟨a, b, by simp [e], rfl⟩

theorem src_list {elt : Expr} {x : Str} {scope : Scope} {cl : List (Str × Addr)} {Q : Value → Shared → Prop} (g : Str → Str) {D : Addr} {l : List (Str × Tok)} {xs : List Str} {k : Nat} (hx : l.map (·.1) = xs) (hh : A.handled = none) (F : Fr h₀ L s.heap m) (N : News h₀ L s.heap news)
    (hm : (D, W.listOf (strValues l).toArray k) ∈ news) (hsz : xs.length ≤ 16777216)
    (turn : ∀ x₀ t, x₀ ∈ xs → TurnOf prog w A h₀ L m env elt x scope cl s news (.str x₀ t) (fun y => ∃ t', y = .str (g x₀) t'))
    (fin : ∀ D ys h tk, StrsAre ys (xs.map g) → Fr h₀ L h m → News h₀ L h ((D, LCg.lst ys) :: news) → (∀ p ∈ news, p.1 < D) → Q (.ref D) { s with heap := h, toks := tk }) :
    SrcOf prog w A h₀ L m env elt x scope cl Q (.ref D) s := by
  have hl : (strValues l).toArray.size = xs.length := by simp [strValues, ← hx]
  refine ⟨_, _, news, fun i y => ∃ x₀ t, (xs.map g)[i]? = some x₀ ∧ y = .str x₀ t, F, N, iter_list hh (News.isList N hm), by rw [hl, sizeLine_eq]; exact hsz, fun i v hi hP => ?_, fun D ys h tk hn hY F' N' lt => fin D ys h tk (strsAre_of (by rw [hn, hl]; simp) hY) F' N' lt⟩
  obtain ⟨x₀, t, e, rfl⟩ := strValues_get l i v hP
  rw [hx] at e
  intro C oC D oD m₂ h tk E' a b c d e'
  refine wpAny_mono (turn x₀ t (List.mem_of_getElem? e) C oC D oD m₂ h tk E' a b c d e') (fun y s' hq => ?_) fun _ _ e => e
  obtain ⟨⟨t', rfl⟩, r⟩ := hq
  exact ⟨⟨g x₀, t', by simp [e], rfl⟩, r⟩

theorem src_text {elt : Expr} {x : Str} {scope : Scope} {cl : List (Str × Addr)} {Q : Value → Shared → Prop} (g : Nat → Str) {xt : Str} {tt : Tok} (hh : A.handled = none) (F : Fr h₀ L s.heap m) (N : News h₀ L s.heap news)
    (hsz : xt.length ≤ 16777216)
    (turn : ∀ c t, TurnOf prog w A h₀ L m env elt x scope cl s news (.str ⟨#[c]⟩ t) (fun y => ∃ t', y = .str (g c) t'))
    (fin : ∀ D ys h tk, StrsAre ys (xt.cps.toList.map g) → Fr h₀ L h m → News h₀ L h ((D, LCg.lst ys) :: news) → (∀ p ∈ news, p.1 < D) → Q (.ref D) { s with heap := h, toks := tk }) :
    SrcOf prog w A h₀ L m env elt x scope cl Q (.str xt tt) s := by
  refine ⟨_, _, news, fun i y => ∃ x₀ t, (xt.cps.toList.map g)[i]? = some x₀ ∧ y = .str x₀ t, F, N, iter_str hh, by rw [sizeLine_eq]; exact hsz, fun i v hi hP => ?_, fun D ys h tk hn hY F' N' lt => fin D ys h tk (strsAre_of (by rw [hn]; simp) hY) F' N' lt⟩
  obtain ⟨c, t, e, rfl⟩ := hP
  intro C oC D oD m₂ h tk E' a b c' d e'
  refine wpAny_mono (turn c t C oC D oD m₂ h tk E' a b c' d e') (fun y s' hq => ?_) fun _ _ e => e
  obtain ⟨⟨t', rfl⟩, r⟩ := hq
  exact ⟨⟨g c, t', by simp [e], rfl⟩, r⟩
end
end Mine
end

section
open PySem PySem.StrLaws PySem.Builtin.Str PyProof.Rows
set_option Elab.async false
namespace Mine
/-- how often the sign stands in a row -/
def runL (c : Nat) : List Nat → Nat
  | [] => 0
  | a :: r => if a = c then runL c r + 1 else 0

theorem cl_at {x : Str} {i : Nat} (h : i < x.length) : ∃ a, (cl x)[i]? = some a ∧ x.cps[i]? = some a := by
  have h' : i < x.cps.size := h
  exact ⟨x.cps[i], by simp [cl, h'], by simp [h']⟩
theorem item_is {x : Str} {i : Int} (h0 : 0 ≤ i) (h1 : i < x.length) : ∃ a, (cl x)[i.toNat]? = some a ∧ Txt.item x i = ⟨#[a]⟩ := by
  obtain ⟨a, h2, h3⟩ := cl_at (x := x) (i := i.toNat) (by omega)
  exact ⟨a, h2, item_meets h0 h3⟩
theorem item_eq {x : Str} {i : Int} {c : Nat} (h0 : 0 ≤ i) (h1 : i < x.length) (h : (Txt.item x i == (⟨#[c]⟩ : Str)) = true) : (cl x)[i.toNat]? = some c := by
  obtain ⟨a, h2, h3⟩ := item_is h0 h1
  rw [h3] at h
  have := eq_of_beq h
  simp at this
  rw [h2, this]
theorem item_ne {x : Str} {i : Int} {c : Nat} (h0 : 0 ≤ i) (h1 : i < x.length) (h : (Txt.item x i == (⟨#[c]⟩ : Str)) = false) : ∃ a, (cl x)[i.toNat]? = some a ∧ a ≠ c := by
  obtain ⟨a, h2, h3⟩ := item_is h0 h1
  refine ⟨a, h2, fun q => ?_⟩
  rw [h3, q] at h
  simp at h

def RunF (x : Str) (k c : Nat) (n : Int) : Prop := ∃ j : Nat, n = j ∧ runL c ((cl x).drop k) = j + runL c ((cl x).drop (k + j))
theorem runF_start (x : Str) (k c : Nat) : RunF x k c 0 := ⟨0, rfl, by simp⟩
theorem drop_at {l : List Nat} {i a : Nat} (h : l[i]? = some a) : l.drop i = a :: l.drop (i + 1) := by
  have hi : i < l.length := by
    by_cases q : i < l.length
    · exact q
    · rw [List.getElem?_eq_none (by omega)] at h; cases h
  rw [List.drop_eq_getElem_cons hi]
  rw [List.getElem?_eq_getElem hi] at h
  rw [Option.some.inj h]
theorem runF_step {x : Str} {k c : Nat} {n i : Int} (h : RunF x k c n) (hi : i = (k : Int) + n) (h1 : i < x.length) (e : (Txt.item x i == (⟨#[c]⟩ : Str)) = true) : RunF x k c (n + 1) := by
  obtain ⟨j, rfl, h⟩ := h
  have := item_eq (by omega) h1 e
  have hk : i.toNat = k + j := by omega
  rw [hk] at this
  rw [drop_at this] at h
  refine ⟨j + 1, by omega, ?_⟩
  have e1 : runL c (c :: List.drop (k + j + 1) (cl x)) = runL c (List.drop (k + j + 1) (cl x)) + 1 := by simp [runL]
  rw [h, e1, show k + (j + 1) = k + j + 1 by omega]
  omega
theorem runF_end {x : Str} {k c : Nat} {n i : Int} (h : RunF x k c n) (hi : i = (k : Int) + n) (h1 : i < x.length) (e : (Txt.item x i == (⟨#[c]⟩ : Str)) = false) : n = (runL c ((cl x).drop k) : Nat) := by
  obtain ⟨j, rfl, h⟩ := h
  obtain ⟨a, h2, h3⟩ := item_ne (by omega) h1 e
  have hk : i.toNat = k + j := by omega
  rw [hk] at h2
  rw [h, drop_at h2]
  simp [runL, h3]
theorem runF_out {x : Str} {k c : Nat} {n i : Int} (h : RunF x k c n) (hi : i = (k : Int) + n) (h1 : (x.length : Int) ≤ i) : n = (runL c ((cl x).drop k) : Nat) := by
  obtain ⟨j, rfl, h⟩ := h
  rw [h, List.drop_of_length_le (by simp [cl]; simp [Str.length] at h1; omega)]
  simp [runL]

def RunB (x : Str) (k c : Nat) (n : Int) : Prop := ∃ j : Nat, n = j ∧ j ≤ k ∧ runL c ((cl x).take k).reverse = j + runL c ((cl x).take (k - j)).reverse
theorem runB_start (x : Str) (k c : Nat) : RunB x k c 0 := ⟨0, rfl, by omega, by simp⟩
theorem take_at {l : List Nat} {i a : Nat} (h : l[i]? = some a) : (l.take (i + 1)).reverse = a :: (l.take i).reverse := by
  rw [List.take_add_one, h]
  simp
theorem runB_step {x : Str} {k c : Nat} {n i : Int} (h : RunB x k c n) (hi : i = (k : Int) - 1 - n) (h0 : 0 ≤ i) (h1 : i < x.length) (e : (Txt.item x i == (⟨#[c]⟩ : Str)) = true) : RunB x k c (n + 1) := by
  obtain ⟨j, rfl, hj, h⟩ := h
  have := item_eq h0 h1 e
  have hk : i.toNat = k - (j + 1) := by omega
  rw [hk] at this
  have hs : k - j = (k - (j + 1)) + 1 := by omega
  rw [hs, take_at this] at h
  refine ⟨j + 1, by omega, by omega, ?_⟩
  have e1 : runL c (c :: (List.take (k - (j + 1)) (cl x)).reverse) = runL c (List.take (k - (j + 1)) (cl x)).reverse + 1 := by simp [runL]
  rw [h, e1]
  omega
theorem runB_end {x : Str} {k c : Nat} {n i : Int} (h : RunB x k c n) (hi : i = (k : Int) - 1 - n) (h0 : 0 ≤ i) (h1 : i < x.length) (e : (Txt.item x i == (⟨#[c]⟩ : Str)) = false) : n = (runL c ((cl x).take k).reverse : Nat) := by
  obtain ⟨j, rfl, hj, h⟩ := h
  obtain ⟨a, h2, h3⟩ := item_ne h0 h1 e
  have hk : i.toNat = k - (j + 1) := by omega
  rw [hk] at h2
  have hs : k - j = (k - (j + 1)) + 1 := by omega
  rw [h, hs, take_at h2]
  simp [runL, h3]
theorem runB_out {x : Str} {k c : Nat} {n i : Int} (h : RunB x k c n) (hi : i = (k : Int) - 1 - n) (h0 : i < 0) : n = (runL c ((cl x).take k).reverse : Nat) := by
  obtain ⟨j, rfl, hj, h⟩ := h
  have : k - j = 0 := by omega
  rw [h, this]
  simp [runL]
end Mine
end

section
open PySem PySem.W PySem.Calls PyProof.Rows
set_option Elab.async false
set_option maxRecDepth 100000
namespace Mine
section
variable {prog : Program} {w : World} {A : Around} {E : Value → Shared → Prop} {s : Shared} {env : Env} {h₀ : Heap} {x : Str} {body : List Stmt} {Q : Flow → Shared → Prop}

def OwnEnd (h₀ : Heap) (L : Addr) (J : (Str → Option Value) → List (Addr × Obj) → Prop) (own : Addr × Obj) (s₁ s₂ : Shared) : Prop :=
  ∃ h' tk m' news', s₂ = { s₁ with heap := h', toks := tk } ∧ Fr h₀ L h' m' ∧ News h₀ L h' (own :: news') ∧ (∀ p ∈ news', p.1 ≠ own.1) ∧ J m' news'
def OwnPost (h₀ : Heap) (L : Addr) (J : (Str → Option Value) → List (Addr × Obj) → Prop) (own : Addr × Obj) (s₁ : Shared) (Q : Flow → Shared → Prop) (f : Flow) (s₂ : Shared) : Prop :=
  match f with
  | .ret v => Q (.ret v) s₂
  | .brk => Q .next s₂
  | _ => OwnEnd h₀ L J own s₁ s₂
theorem OwnEnd.intro {L : Addr} {J : (Str → Option Value) → List (Addr × Obj) → Prop} {own : Addr × Obj} {s₁ : Shared} {h' : Heap} {tk : Nat} {m' : Str → Option Value} {all : List (Addr × Obj)} (news' : List (Addr × Obj)) (F : Fr h₀ L h' m') (N : News h₀ L h' all)
    (hs : ∀ p ∈ own :: news', p ∈ all) (ho : ∀ p ∈ news', p.1 ≠ own.1) (hj : J m' news') : OwnEnd h₀ L J own s₁ { s₁ with heap := h', toks := tk } :=
  ⟨h', tk, m', news', rfl, F, fun p hp => N p (hs p hp), ho, hj⟩

theorem loop_own {I : Addr} {n : Nat} {P : Nat → Value → Prop} {St : Nat → Heap → Prop} {m₀ : Str → Option Value} {news : List (Addr × Obj)} (J : Nat → (Str → Option Value) → List (Addr × Obj) → Prop)
    (W : Walks prog w A I [I] [I] n P St) (hIo : ∀ i h, St i h → ∃ o, h.get? I = some o) (hL : env.locals ≠ I) (hI : h₀.get? I = none) (hnw : ∀ p ∈ news, p.1 ≠ I)
    (hst : St 0 s.heap) (F : Fr h₀ env.locals s.heap m₀) (N : News h₀ env.locals s.heap news) (hj : J 0 m₀ news)
    (turn : ∀ i v m₁ news₁ h tk oI, i < n → P i v → J i m₁ news₁ → Fr h₀ env.locals h (fun y => if y = x then some v else m₁ y) → News h₀ env.locals h ((I, oI) :: news₁) → (∀ p ∈ news₁, p.1 ≠ I) →
      wpAny (model prog w) A (execs body env) (OwnPost h₀ env.locals (J (i + 1)) (I, oI) { s with heap := h, toks := tk } Q) E { s with heap := h, toks := tk })
    (done : ∀ m₁ news₁ h tk, J n m₁ news₁ → Fr h₀ env.locals h m₁ → News h₀ env.locals h news₁ → Q .next { s with heap := h, toks := tk }) :
    LoopAtV prog w A h₀ env x body Q E (.ref I) s := by
  refine ⟨I, [I], [I], n, P, St, m₀, news, J, rfl, W, by simpa using hL, by simpa using hI, by simpa using hnw, hst, F, N, hj, ?_, fun h' tk m' news' F' N' _ hJ => done m' news' h' tk hJ F' N'⟩
  rintro i v m₁ news₁ s₁ own ⟨h, tk, rfl⟩ hi hP hJ hoff hown hget hall hst₁ F₁ N₁
  obtain ⟨oI, hoI⟩ := hIo _ _ hst₁
  have hmem : (I, oI) ∈ own := hall I (by simp) hI oI hoI
  have hone : ∀ p ∈ own, p = (I, oI) := fun p hp => by
    have h1 : p.1 = I := by simpa using hown p hp
    have h2 := hget p hp
    rw [h1, hoI] at h2
    exact Prod.ext h1 (Option.some.inj h2).symm
  have off : ∀ p ∈ news₁, p.1 ≠ I := fun p hp => by simpa using hoff p hp
  refine wpAny_mono (turn i v m₁ news₁ h tk oI hi hP hJ F₁ (fun p hp => ?_) off) (fun f s₂ hq => ?_) fun _ _ e => e
  · rcases List.mem_cons.mp hp with rfl | hp
    · exact N₁ _ (List.mem_append_left _ hmem)
    · exact N₁ _ (List.mem_append_right _ hp)
  · have fin : OwnEnd h₀ env.locals (J (i + 1)) (I, oI) { s with heap := h, toks := tk } s₂ → LoopStepU h₀ env.locals [I] own (J (i + 1)) { s with heap := h, toks := tk } .next s₂ := by
      rintro ⟨h', tk', m', news', rfl, F', N', ho, hJ'⟩
      refine ⟨rfl, h', tk', m', news', rfl, F', fun p hp => ?_, fun p hp => by simpa using ho p hp, hJ'⟩
      rcases List.mem_append.mp hp with hp | hp
      · rw [hone p hp]; exact N' _ List.mem_cons_self
      · exact N' _ (List.mem_cons_of_mem _ hp)
    cases f with
    | ret v => exact .ret hq
    | brk => exact .brk hq
    | next => exact .next (fin hq)
    | cont => exact .cont (fin hq)

theorem for_text {xt : Str} {t : Tok} {m₀ : Str → Option Value} {news : List (Addr × Obj)} (J : Nat → (Str → Option Value) → List (Addr × Obj) → Prop)
    (hh : A.handled = none) (F : Fr h₀ env.locals s.heap m₀) (N : News h₀ env.locals s.heap news) (hj : J 0 m₀ news)
    (turn : ∀ i c u m₁ news₁ h tk I oI, (cl xt)[i]? = some c → J i m₁ news₁ → Fr h₀ env.locals h (fun y => if y = x then some (.str ⟨#[c]⟩ u) else m₁ y) → News h₀ env.locals h ((I, oI) :: news₁) → (∀ p ∈ news₁, p.1 ≠ I) →
      wpAny (model prog w) A (execs body env) (OwnPost h₀ env.locals (J (i + 1)) (I, oI) { s with heap := h, toks := tk } Q) E { s with heap := h, toks := tk })
    (done : ∀ m₁ news₁ h tk, J xt.length m₁ news₁ → Fr h₀ env.locals h m₁ → News h₀ env.locals h news₁ → Q .next { s with heap := h, toks := tk }) :
    wpAny (model prog w) A (pyIter (.str xt t)) (fun it s₂ => LoopAtV prog w A h₀ env x body Q E it s₂) E s := by
  have tn : ∀ i v m₁ news₁ h tk oI, i < xt.cps.size → SignAt xt i v → J i m₁ news₁ → Fr h₀ env.locals h (fun y => if y = x then some v else m₁ y) → News h₀ env.locals h ((s.heap.objs.size, oI) :: news₁) → (∀ p ∈ news₁, p.1 ≠ s.heap.objs.size) →
      wpAny (model prog w) A (execs body env) (OwnPost h₀ env.locals (J (i + 1)) (s.heap.objs.size, oI) { s with heap := h, toks := tk } Q) E { s with heap := h, toks := tk } := by
    rintro i v m₁ news₁ h tk oI _ ⟨c, u, e, rfl⟩ hJ F₁ N₁ off
    exact turn i c u m₁ news₁ h tk _ oI (by simpa [cl] using e) hJ F₁ N₁ off
  cases ha : xt.cps.all (· < 128)
  · refine wpAny_pyIter_wide ha ?_
    exact loop_own (I := s.heap.objs.size) J (Walks.strWide hh _ xt t) (fun i h ⟨o, e, _⟩ => ⟨o, e⟩) (Nat.ne_of_lt F.ns.lt) (next_is_new F) (fun p hp => Nat.ne_of_lt (Heap.lt_size (N p hp).1))
      ⟨_, Heap.get?_push_size _ rfl, rfl, rfl⟩ (F.push _) (fun p hp => ⟨Heap.get?_push_of_some _ (N p hp).1, (N p hp).2⟩) hj tn done
  · refine wpAny_pyIter_ascii ha ?_
    exact loop_own (I := s.heap.objs.size) J (Walks.strAscii hh _ xt t) (fun i h ⟨o, e, _⟩ => ⟨o, e⟩) (Nat.ne_of_lt F.ns.lt) (next_is_new F) (fun p hp => Nat.ne_of_lt (Heap.lt_size (N p hp).1))
      ⟨_, Heap.get?_push_size _ rfl, rfl, rfl⟩ (F.push _) (fun p hp => ⟨Heap.get?_push_of_some _ (N p hp).1, (N p hp).2⟩) hj tn done

theorem for_range {r : Addr} {a₀ b₀ : Int} {t₀ u₀ v₀ : Tok} {n : Nat} {m₀ : Str → Option Value} {news : List (Addr × Obj)} (J : Nat → (Str → Option Value) → List (Addr × Obj) → Prop)
    (hh : A.handled = none) (hr : IsRange s.heap r a₀ b₀ 1 t₀ u₀ v₀) (hsmall : Builtin.Range.small a₀ b₀ 1 = true) (hn : Builtin.Range.rangeSize a₀ b₀ 1 = (n : Int)) (F : Fr h₀ env.locals s.heap m₀) (N : News h₀ env.locals s.heap news) (hj : J 0 m₀ news)
    (turn : ∀ (i : Nat) u m₁ news₁ h tk I oI, i < n → J i m₁ news₁ → Fr h₀ env.locals h (fun y => if y = x then some (.int (a₀ + (i : Int)) u) else m₁ y) → News h₀ env.locals h ((I, oI) :: news₁) → (∀ p ∈ news₁, p.1 ≠ I) →
      wpAny (model prog w) A (execs body env) (OwnPost h₀ env.locals (J (i + 1)) (I, oI) { s with heap := h, toks := tk } Q) E { s with heap := h, toks := tk })
    (done : ∀ m₁ news₁ h tk, J n m₁ news₁ → Fr h₀ env.locals h m₁ → News h₀ env.locals h news₁ → Q .next { s with heap := h, toks := tk }) :
    wpAny (model prog w) A (pyIter (.ref r)) (fun it s₂ => LoopAtV prog w A h₀ env x body Q E it s₂) E s := by
  refine wpAny_pyIter_range hr hsmall ?_
  refine loop_own (I := s.heap.objs.size) J (LCg.range_walks hh a₀ n) (fun i h e => ⟨_, e⟩) (Nat.ne_of_lt F.ns.lt) (next_is_new F) (fun p hp => Nat.ne_of_lt (Heap.lt_size (N p hp).1))
    (by show IsRangeIter _ _ _ _ _; rw [hn]; simpa using Heap.get?_push_size _ rfl) (F.push _) (fun p hp => ⟨Heap.get?_push_of_some _ (N p hp).1, (N p hp).2⟩) hj ?_ done
  rintro i v m₁ news₁ h tk oI hi ⟨u, rfl⟩ hJ F₁ N₁ off
  exact turn i u m₁ news₁ h tk _ oI hi hJ F₁ N₁ off
end
end Mine
end

section
open PySem PySem.StrLaws PySem.Builtin.Str PyProof.Rows
set_option Elab.async false
namespace Mine
def one (c : Nat) : Str := ⟨#[c]⟩
def app (cur : List Nat) : List (List Nat) → List (List Nat)
  | [] => [cur]
  | p :: ps => (cur ++ p) :: ps
/-- the pieces between the marks that no backslash goes ahead of -/
def splP (k : Nat) : List Nat → List (List Nat)
  | [] => [[]]
  | [c] => if c = k then [[], []] else [[c]]
  | c :: d :: r => if c = 92 then push c (push d (splP k r)) else if c = k then [] :: splP k (d :: r) else push c (splP k (d :: r))

theorem splP_ne (k : Nat) (l : List Nat) : splP k l ≠ [] := by
  match l with
  | [] => simp [splP]
  | [c] => unfold splP; split <;> simp
  | c :: d :: r =>
    unfold splP
    split
    · cases splP k r <;> simp [push]
    · split
      · simp
      · cases splP k (d :: r) <;> simp [push]
theorem app_push (cur : List Nat) (c : Nat) (ps : List (List Nat)) : app cur (push c ps) = app (cur ++ [c]) ps := by
  cases ps <;> simp [push, app]
theorem app_nil (ps : List (List Nat)) (h : ps ≠ []) : app [] ps = ps := by
  cases ps with
  | nil => exact absurd rfl h
  | cons p ps => rfl
theorem splP_mark {k : Nat} (hk : k ≠ 92) (r : List Nat) : splP k (k :: r) = [] :: splP k r := by
  cases r with
  | nil => simp [splP]
  | cons d r => rw [splP, if_neg hk, if_pos rfl]
theorem splP_other {k c : Nat} (h1 : c ≠ k) (r : List Nat) (h2 : c ≠ 92 ∨ r = []) : splP k (c :: r) = push c (splP k r) := by
  cases r with
  | nil => simp [splP, h1, push]
  | cons d r =>
    rcases h2 with h2 | h2
    · rw [splP, if_neg h2, if_neg h1]
    · cases h2
theorem splP_bs (k d : Nat) (r : List Nat) : splP k (92 :: d :: r) = push 92 (push d (splP k r)) := by
  rw [splP, if_pos rfl]

structure SpInv (x : Str) (k : Nat) (i : Nat) (dn : List (List Nat)) (cur : List Nat) : Prop where
  eq : splP k (cl x) = dn ++ app cur (splP k ((cl x).drop i))
  le : i ≤ x.length
  cu : cur.length ≤ i
  nn : dn.length ≤ i
theorem SpInv.start (x : Str) (k : Nat) : SpInv x k 0 [] [] := ⟨by simp [app_nil _ (splP_ne _ _)], Nat.zero_le _, Nat.le_refl _, Nat.le_refl _⟩
theorem SpInv.fin {x : Str} {k i : Nat} {dn : List (List Nat)} {cur : List Nat} (h : SpInv x k i dn cur) (hi : x.length ≤ i) : splP k (cl x) = dn ++ [cur] := by
  rw [h.eq, List.drop_of_length_le (by rw [cl_len]; exact hi)]
  simp [splP, app]
theorem lt_of_get {x : Str} {i a : Nat} (h : (cl x)[i]? = some a) : i < x.length := by
  by_cases q : i < x.length
  · exact q
  · rw [List.getElem?_eq_none (by rw [cl_len]; omega)] at h; cases h
theorem SpInv.bs {x : Str} {k i d : Nat} {dn : List (List Nat)} {cur : List Nat} (h : SpInv x k i dn cur) (h1 : (cl x)[i]? = some 92) (h2 : (cl x)[i + 1]? = some d) : SpInv x k (i + 2) dn (cur ++ [92, d]) := by
  refine ⟨?_, by have := lt_of_get h2; omega, by have := h.cu; simp; omega, by have := h.nn; omega⟩
  rw [h.eq, drop_at h1, drop_at h2, splP_bs, app_push, app_push, List.append_assoc]
  rfl
theorem SpInv.mark {x : Str} {k i : Nat} {dn : List (List Nat)} {cur : List Nat} (h : SpInv x k i dn cur) (hk : k ≠ 92) (h1 : (cl x)[i]? = some k) : SpInv x k (i + 1) (dn ++ [cur]) [] := by
  refine ⟨?_, by have := lt_of_get h1; omega, by simp, by have := h.nn; simp; omega⟩
  rw [h.eq, drop_at h1, splP_mark hk, app_nil _ (splP_ne _ _)]
  simp [app]
theorem SpInv.other {x : Str} {k i c : Nat} {dn : List (List Nat)} {cur : List Nat} (h : SpInv x k i dn cur) (h1 : (cl x)[i]? = some c) (hk : c ≠ k) (h2 : c ≠ 92 ∨ x.length ≤ i + 1) : SpInv x k (i + 1) dn (cur ++ [c]) := by
  refine ⟨?_, by have := lt_of_get h1; omega, by have := h.cu; simp; omega, by have := h.nn; omega⟩
  rw [h.eq, drop_at h1, splP_other hk _ (h2.imp id fun q => List.drop_of_length_le (by rw [cl_len]; exact q)), app_push]

theorem join_one (cur : List Nat) : Txt.join (Str.ofString "") (cur.map one) = ⟨cur.toArray⟩ := by
  have h : cl (Txt.join (Str.ofString "") (cur.map one)) = cur := by
    rw [tjoin_cl, show cl (Str.ofString "") = [] from by decide]
    induction cur with
    | nil => rfl
    | cons c r ih =>
      cases r with
      | nil => rfl
      | cons d r =>
        simp only [List.map_cons, joinL, List.append_nil] at ih ⊢
        rw [ih]
        rfl
  exact Str.ext' (Array.toList_inj.mp h)
theorem one_weight (cur : List Nat) : ((cur.map one).map (·.length)).sum + (cur.map one).length = 2 * cur.length := by
  induction cur with
  | nil => rfl
  | cons c r ih => simp only [List.map_cons, List.sum_cons, List.length_cons] at *; have : (one c).length = 1 := rfl; omega

theorem strs_push {ws : Array Value} {xs : List Str} {y : Str} {t : Tok} (h : StrsAre ws.toList xs) : StrsAre (ws.push (.str y t)).toList (xs ++ [y]) := by
  have key : ∀ {vs : List Value} {ys : List Str}, StrsAre vs ys → StrsAre (vs ++ [.str y t]) (ys ++ [y]) := by
    intro vs ys h
    induction h with
    | nil => exact .cons _ _ .nil
    | cons z u r ih => exact .cons _ _ ih
  rw [Array.toList_push]
  exact key h
theorem strs1 {ws : Array Value} {cur : List Nat} {y : Str} {c : Nat} {t : Tok} (h : StrsAre ws.toList (cur.map one)) (e : y = one c) : StrsAre (ws.push (.str y t)).toList ((cur ++ [c]).map one) := by
  rw [List.map_append, List.map_singleton, ← e]; exact strs_push h
theorem strs2 {ws : Array Value} {cur : List Nat} {y z : Str} {c d : Nat} {t u : Tok} (h : StrsAre ws.toList (cur.map one)) (e : y = one c) (e' : z = one d) : StrsAre ((ws.push (.str y t)).push (.str z u)).toList ((cur ++ [c, d]).map one) := by
  have := strs1 (t := u) (strs1 (t := t) h e) e'
  rwa [List.append_assoc] at this
section
variable {x : Str} {k i : Nat} {dn : List (List Nat)} {cur : List Nat} {K : Str}
theorem bs_is : Str.ofString "\\" = ⟨#[92]⟩ := by decide +kernel
theorem sp_bs (h : SpInv x k i dn cur) (e : (Txt.item x (i : Int) == Str.ofString "\\") = true) (hl : (i : Int) + 1 < x.length) :
    ∃ d, Txt.item x (i : Int) = one 92 ∧ Txt.item x ((i : Int) + 1) = one d ∧ SpInv x k (i + 2) dn (cur ++ [92, d]) := by
  rw [bs_is] at e
  have h1 := item_eq (by omega) (by omega) e
  obtain ⟨d, h2, h3⟩ := item_is (x := x) (i := (i : Int) + 1) (by omega) hl
  exact ⟨d, eq_of_beq e, h3, h.bs (by simpa using h1) (by rw [← h2]; congr 1)⟩
theorem sp_mark (h : SpInv x k i dn cur) (hk : k ≠ 92) (hK : K = ⟨#[k]⟩) (hl : (i : Int) < x.length) (e : (Txt.item x (i : Int) == K) = true) : SpInv x k (i + 1) (dn ++ [cur]) [] := by
  rw [hK] at e
  exact h.mark hk (by simpa using item_eq (by omega) hl e)
theorem sp_other (h : SpInv x k i dn cur) (hK : K = ⟨#[k]⟩) (hl : (i : Int) < x.length) (e1 : (Txt.item x (i : Int) == Str.ofString "\\") = false) (e2 : (Txt.item x (i : Int) == K) = false) :
    ∃ c, Txt.item x (i : Int) = one c ∧ SpInv x k (i + 1) dn (cur ++ [c]) := by
  rw [bs_is] at e1
  rw [hK] at e2
  obtain ⟨c, h1, h2⟩ := item_ne (by omega) hl e1
  obtain ⟨c', h3, h4⟩ := item_ne (by omega) hl e2
  obtain ⟨c'', h5, h6⟩ := item_is (x := x) (i := (i : Int)) (by omega) hl
  have q1 : c'' = c := Option.some.inj (h5.symm.trans h1)
  have q2 : c'' = c' := Option.some.inj (h5.symm.trans h3)
  exact ⟨c'', h6, h.other (by simpa using h5) (by rw [q2]; exact h4) (.inl (by rw [q1]; exact h2))⟩
theorem sp_last (h : SpInv x k i dn cur) (hK : K = ⟨#[k]⟩) (hl : (i : Int) < x.length) (hl2 : (x.length : Int) ≤ (i : Int) + 1) (e2 : (Txt.item x (i : Int) == K) = false) :
    ∃ c, Txt.item x (i : Int) = one c ∧ SpInv x k (i + 1) dn (cur ++ [c]) := by
  rw [hK] at e2
  obtain ⟨c', h3, h4⟩ := item_ne (by omega) hl e2
  obtain ⟨c'', h5, h6⟩ := item_is (x := x) (i := (i : Int)) (by omega) hl
  have q2 : c'' = c' := Option.some.inj (h5.symm.trans h3)
  exact ⟨c'', h6, h.other (by simpa using h5) (by rw [q2]; exact h4) (.inr (by omega))⟩
theorem sp_absurd {y : Str} (hk : k ≠ 92) (hK : K = ⟨#[k]⟩) (e1 : (y == Str.ofString "\\") = true) (e2 : (y == K) = true) : False := by
  have h1 := eq_of_beq e1
  have h2 := eq_of_beq e2
  rw [h1, bs_is, hK] at h2
  simp at h2
  exact hk h2.symm
end
end Mine
end

section
open PySem PySem.StrLaws PySem.Builtin.Str PyProof.Rows
set_option Elab.async false
namespace Mine
/-- in quotes or not, one sign later -/
def qf (q : Bool) (c : Nat) : Bool := if c = 34 then !q else q
/-- parting at the marks that stand outside of double quotes -/
def qs (k : Nat) : Bool → List Nat → List (List Nat)
  | _, [] => [[]]
  | q, c :: r =>
    if (qf q c) = false ∧ c = k then [] :: qs k (qf q c) r else push c (qs k (qf q c) r)
def mk (p : List Nat) : Str := ⟨p.toArray⟩

theorem qs_ne (k : Nat) (q : Bool) (l : List Nat) : qs k q l ≠ [] := by
  cases l with
  | nil => simp [qs]
  | cons c r =>
    unfold qs
    split
    · simp
    · cases qs k (qf q c) r <;> simp [push]

structure QsInv (x : Str) (k : Nat) (i cu : Nat) (q : Bool) (dn : List (List Nat)) : Prop where
  eq : qs k false (cl x) = dn ++ app (((cl x).drop cu).take (i - cu)) (qs k q ((cl x).drop i))
  le : cu ≤ i
  nn : dn.length ≤ i
theorem QsInv.start (x : Str) (k : Nat) : QsInv x k 0 0 false [] := ⟨by simp [app_nil _ (qs_ne _ _ _)], Nat.le_refl _, Nat.le_refl _⟩

theorem cut_step {l : List Nat} {cu i c : Nat} (h : l[i]? = some c) (hc : cu ≤ i) : (l.drop cu).take (i + 1 - cu) = (l.drop cu).take (i - cu) ++ [c] := by
  have e : i + 1 - cu = (i - cu) + 1 := by omega
  rw [e, List.take_add_one, List.getElem?_drop, show cu + (i - cu) = i by omega, h]
  rfl
theorem QsInv.mark {x : Str} {k i cu c : Nat} {q : Bool} {dn : List (List Nat)} (h : QsInv x k i cu q dn) (h1 : (cl x)[i]? = some c) (hq : (qf q c) = false) (hc : c = k) :
    QsInv x k (i + 1) (i + 1) (qf q c) (dn ++ [((cl x).drop cu).take (i - cu)]) := by
  refine ⟨?_, Nat.le_refl _, by have := h.nn; simp; omega⟩
  rw [h.eq, drop_at h1, qs, if_pos ⟨hq, hc⟩, Nat.sub_self, List.take_zero, app_nil _ (qs_ne _ _ _)]
  simp [app]
theorem QsInv.other {x : Str} {k i cu c : Nat} {q : Bool} {dn : List (List Nat)} (h : QsInv x k i cu q dn) (h1 : (cl x)[i]? = some c) (hq : ¬ ((qf q c) = false ∧ c = k)) :
    QsInv x k (i + 1) cu (qf q c) dn := by
  refine ⟨?_, by have := h.le; omega, by have := h.nn; omega⟩
  rw [h.eq, drop_at h1, qs, if_neg hq, app_push, cut_step h1 h.le]
theorem QsInv.fin {x : Str} {k i cu : Nat} {q : Bool} {dn : List (List Nat)} (h : QsInv x k i cu q dn) (hi : i = x.length) : qs k false (cl x) = dn ++ [(cl x).drop cu] := by
  rw [h.eq, hi, List.drop_of_length_le (l := cl x) (i := x.length) (by rw [cl_len]; exact Nat.le_refl _)]
  rw [List.take_of_length_le (by rw [List.length_drop, cl_len]; exact Nat.le_refl _)]
  simp [qs, app]

theorem slice_mid (x : Str) {a b : Nat} (hab : a ≤ b) (hb : b ≤ x.length) : Txt.slice x (some (a : Int)) (some (b : Int)) = mk (((cl x).drop a).take (b - a)) := sliceText_nat x hab hb
theorem slice_from (x : Str) {a : Nat} (ha : a ≤ x.length) : Txt.slice x (some (a : Int)) none = mk ((cl x).drop a) := by
  have h := sliceText_from (x := x) (i := (a : Int)) ⟨by omega, by have := cl_len x; simp only [cl] at this; omega⟩
  refine Eq.trans h ?_
  have e := cl_len x
  simp only [cl] at e
  rw [List.take_of_length_le (by rw [List.length_drop, e]; omega)]
  rfl
theorem slice_to (x : Str) {b : Nat} (hb : b ≤ x.length) : Txt.slice x none (some (b : Int)) = mk ((cl x).take b) := by
  have h := sliceText_to (x := x) (j := (b : Int)) ⟨by omega, by have := cl_len x; simp only [cl] at this; omega⟩
  refine Eq.trans h ?_
  simp [mk, cl]

theorem qs_last {x : Str} {k i cu : Nat} {q : Bool} {dn : List (List Nat)} {rs : Array Value} {t : Tok} {j : Int} (hj : j = (cu : Nat)) (h : QsInv x k (i + 1) cu q dn) (hl : (i : Int) + 1 = x.length) (hrs : StrsAre rs.toList (dn.map mk)) :
    StrsAre (rs.push (.str (Txt.slice x (some j) none) t)).toList ((qs k false (cl x)).map mk) := by
  have hle := h.le
  rw [h.fin (by omega), List.map_append, List.map_singleton, hj, slice_from x (by omega)]
  exact strs_push hrs
theorem qs_mid {x : Str} {k i cu : Nat} {q : Bool} {dn : List (List Nat)} {rs : Array Value} {t : Tok} (h : QsInv x k i cu q dn) (hi : i < x.length) (hrs : StrsAre rs.toList (dn.map mk)) :
    StrsAre (rs.push (.str (Txt.slice x (some (cu : Int)) (some (i : Int))) t)).toList ((dn ++ [((cl x).drop cu).take (i - cu)]).map mk) := by
  rw [List.map_append, List.map_singleton, slice_mid x h.le (by omega)]
  exact strs_push hrs
theorem is_mark {c k : Nat} {K : Str} (hK : K = ⟨#[k]⟩) (e : ((⟨#[c]⟩ : Str) == K) = true) : c = k := by
  rw [hK] at e
  have := eq_of_beq e
  simpa using this
theorem not_mark {c k : Nat} {K : Str} (hK : K = ⟨#[k]⟩) (e : ((⟨#[c]⟩ : Str) == K) = false) : c ≠ k := by
  rintro rfl
  rw [hK] at e
  simp at e
end Mine
end

section
open PySem PySem.W PySem.Calls PyProof.Rows
set_option Elab.async false
set_option maxRecDepth 100000
namespace Mine
/-- the walk starts anew: no line and no hit of an earlier text -/
theorem anew_C1 : True := by w_top off; k_with_none; trivial
local macro_rules | `(tactic| walk_at "call builtin:str.replace") => `(tactic| (k_here; (with_reducible show wpAny _ _ (call (Value.builtin "str.replace") [Value.str _ _, Value.str _ _, Value.str _ _]) _ _ _); (refine my_replace ?ka ?kb ?kc ?kd ?kw ?ke ?kg ?kf ?_); (case kw => decide); (case kg => (dsimp only; omega)); (case ka => (show @Ne Nat _ _; omega)); (case kb => (show @Ne Nat _ _; omega)); (case kc => (show @Ne Nat _ _; omega)); (case kd => decide); (case ke => decide); (case kf => omega); intro _ _ _ _))
local macro_rules | `(tactic| walk_at "call ref") => `(tactic| (k_here; k_dflt (refine wpAny_call ?_; refine' code_def ?k1 ?k2 ?k3 ?k4 ?k5 ?kA ?kF ?kK ?k6 ?k7 ?k8 ?k9 ?kB ?_ ?c2 ?c3 ?c4 ?c5; (case kA => exact rfl); (case kF => exact rfl); (case kK => first | exact rfl | assumption); (case k1 => k_asm); (case k2 => k_asm); (case k3 => k_asm); (case k4 => k_asm); (case k5 => k_asm); (case k6 => k_is); (case k7 => k_is); (case k8 => ktr_room); (case k9 => first | exact BindsTo.of_eq rfl | exact binds_K (by k_in) rfl (by k_is) rfl rfl rfl | fail "k_enter: no rule for these arguments"); (case c5 => decide); (case kB => exact locs rfl); (case c2 => exact rfl); (case c3 => exact rfl); (case c4 => exact rfl); k_whole; intro g' L' h' FG' F' N' B' X' T'; (try dsimp only); (try k_lift B'); (try k_fold))))
local macro_rules | `(tactic| walk_at "execs cons") => `(tactic| (k_here; (refine gentoks_pos ?_); intro _ _))
local macro_rules | `(tactic| walk_at "execs cons") => `(tactic| (k_here; (refine execs_tk ?_ ?_); (first | assumption | (dsimp only; omega)); (try dsimp only)))
local macro_rules | `(tactic| walk_at "forall") => `(tactic| (k_here; (with_reducible show 0 < _ → _); intro _))
local macro_rules | `(tactic| walk_at "eval ListComp") => `(tactic| (k_here; k_dflt (refine my_comp (by k_asm) (by with_unfolding_all rfl) (by decide) (by rfl) (by decide) (by rfl) ?_)))
local macro_rules | `(tactic| walk_at "call builtin:str.split") => `(tactic| (k_here; (with_reducible show wpAny _ _ (call (Value.builtin "str.split") [Value.str _ _, Value.str _ _]) _ _ _); (refine KSpl.split1 (by k_asm) (by k_asm) (by decide) ?_ ?ks); (case ks => (rw [sizeLine_eq]; omega)); intro _ _ _ _ _ _ _ _ _))
local macro_rules | `(tactic| k_all) => `(tactic| (first | (refine' ne0 ?h; (case h => assumption)) | (refine' ne1 ?h; (case h => assumption)) | (refine' ne2 ?h; (case h => assumption)) | (refine' ne3 ?h; (case h => assumption)) | (refine' ne4 ?h; (case h => assumption)) | (refine' neF ?h; (case h => assumption)) | (refine' neS ?h; (case h => assumption))))
def escS (x : Str) : Str :=
  Txt.replace (Txt.replace (Txt.replace (Txt.replace (Txt.replace (Txt.replace (Txt.replace x (Str.ofString "\\N") (Str.ofString "\n")) (Str.ofString "\\") (Str.ofString "\\\\")) (Str.ofString ";") (Str.ofString "\\;")) (Str.ofString ",") (Str.ofString "\\,")) (Str.ofString "\r\n") (Str.ofString "\\n")) (Str.ofString "\n") (Str.ofString "\\n")) (Str.ofString "\r") (Str.ofString "\\n")
def bsS (x : Str) : Str :=
  Txt.replace (Txt.replace (Txt.replace (Txt.replace (Txt.replace x (Str.ofString "\\,") (Str.ofString ",")) (Str.ofString "\\;") (Str.ofString ";")) (Str.ofString "\\:") (Str.ofString ":")) (Str.ofString "\\n") (Str.ofString "\n")) (Str.ofString "\\N") (Str.ofString "\n")
def unescS (x : Str) : Str := Txt.join (Str.ofString "\\") ((Txt.split x (Str.ofString "\\\\")).map bsS)

set_option maxHeartbeats 8000000 in
theorem ctr_esc (x : Str) (t : Tok) (hx : x.length ≤ 8) : Ctr 3 66 [.str x t] (fun v own => ∃ t', v = .str (escS x) t' ∧ own = []) := by
  unfold Ctr
  k_fill
  intro w mg mb mean news dp un gd cn cs a ccd cl outer A₀ base h₀ L m s Q E B F X N T hk hd hu htk hret
  refine wpAny_call ?_
  k_dflt cell_enter
  k_steps
  all_goals (refine ret0 hret ⟨_, rfl, rfl⟩ ?_ (by k_asm) (news_drop (by k_asm) ?_))
  · assumption
  · intro p hp; exact List.Mem.tail _ hp

theorem split_bs_len (x : Str) : (Txt.split x (Str.ofString "\\\\")).length ≤ x.length + 1 ∧ ∀ p ∈ Txt.split x (Str.ofString "\\\\"), p.length ≤ x.length := by
  rw [show Str.ofString "\\\\" = ⟨#[92, 92]⟩ from by decide +kernel]
  exact split2_len x 92 92 (by decide) (by decide)
theorem map_weight_le {g : Str → Str} {B : Nat} : ∀ (l : List Str), (∀ p ∈ l, (g p).length ≤ B) → ((l.map g).map (·.length)).sum + (l.map g).length ≤ l.length * (B + 1)
  | [], _ => by simp
  | a :: r, h => by
    have := map_weight_le r (fun p hp => h p (List.mem_cons_of_mem _ hp))
    have := h a List.mem_cons_self
    simp only [List.map_cons, List.sum_cons, List.length_cons, Nat.succ_mul] at *
    omega
theorem bsS_len (x : Str) : (bsS x).length ≤ 243 * x.length := by
  have h1 := replace_len x (Str.ofString "\\,") (Str.ofString ",") (by decide)
  have h2 := replace_len (Txt.replace x (Str.ofString "\\,") (Str.ofString ",")) (Str.ofString "\\;") (Str.ofString ";") (by decide)
  have h3 := replace_len (Txt.replace (Txt.replace x (Str.ofString "\\,") (Str.ofString ",")) (Str.ofString "\\;") (Str.ofString ";")) (Str.ofString "\\:") (Str.ofString ":") (by decide)
  have h4 := replace_len (Txt.replace (Txt.replace (Txt.replace x (Str.ofString "\\,") (Str.ofString ",")) (Str.ofString "\\;") (Str.ofString ";")) (Str.ofString "\\:") (Str.ofString ":")) (Str.ofString "\\n") (Str.ofString "\n") (by decide)
  have h5 := replace_len (Txt.replace (Txt.replace (Txt.replace (Txt.replace x (Str.ofString "\\,") (Str.ofString ",")) (Str.ofString "\\;") (Str.ofString ";")) (Str.ofString "\\:") (Str.ofString ":")) (Str.ofString "\\n") (Str.ofString "\n")) (Str.ofString "\\N") (Str.ofString "\n") (by decide)
  have e1 : (Str.ofString ",").length = 1 := by decide
  have e2 : (Str.ofString ";").length = 1 := by decide
  have e3 : (Str.ofString ":").length = 1 := by decide
  have e4 : (Str.ofString "\n").length = 1 := by decide
  rw [e1] at h1
  rw [e2] at h2
  rw [e3] at h3
  rw [e4] at h4 h5
  unfold bsS
  omega
set_option maxHeartbeats 8000000 in
theorem ctr_unesc (x : Str) (t : Tok) (hx : x.length ≤ 32) : Ctr 3 19 [.str x t] (fun v own => ∃ t', v = .str (unescS x) t' ∧ own = []) := by
  unfold Ctr
  k_fill
  intro w mg mb mean news dp un gd cn cs a ccd cl outer A₀ base h₀ L m s Q E B F X N T hk hd hu htk hret
  refine with_tk htk ?_
  refine wpAny_call ?_
  k_dflt cell_enter
  k_steps
  have hl := split_bs_len x
  refine src_list bsS (by assumption) (by rfl) (by k_asm) (by k_asm) List.mem_cons_self (by omega) ?_ ?_
  · intro x₀ t₀ hx₀
    have hl₀ := hl.2 x₀ hx₀
    unfold TurnOf
    intro C oC D oD m₂ h tk E' hC hm₂ F₂ N₂ hk₂
    k_steps
    exact TurnEnd.intro ⟨_, rfl⟩
  · intro D ys h tk hys F₂ N₂ lt
    k_steps
    refine join_listW (News.isList (by k_asm) List.mem_cons_self) (by simpa using hys) (by decide) ?_ ?_
    · have := map_weight_le (g := bsS) (B := 7776) (Txt.split x (Str.ofString "\\\\")) (fun p hp => by have := bsS_len p; have := hl.2 p hp; omega)
      omega
    · intro t' k
      k_steps
      refine ret0 hret ⟨_, rfl, rfl⟩ ?_ (by k_asm) (news_drop (by k_asm) ?_)
      · assumption
      · intro p hp; exact List.Mem.tail _ (List.Mem.tail _ hp)
end Mine
end

section
open PySem PySem.W PySem.Calls PyProof.Rows
set_option Elab.async false
set_option maxRecDepth 100000
namespace Mine
/-- the walk starts anew: no line and no hit of an earlier text -/
theorem anew_C2 : True := by w_top off; k_with_none; trivial
local macro_rules | `(tactic| walk_at "mine pad") => `(tactic| skip)
local macro_rules | `(tactic| walk_at "call builtin:str.replace") => `(tactic| (k_here; (with_reducible show wpAny _ _ (call (Value.builtin "str.replace") [Value.str _ _, Value.str _ _, Value.str _ _]) _ _ _); (refine my_replace ?ka ?kb ?kc ?kd ?kw ?ke ?kg ?kf ?_); (case kw => decide); (case kg => (dsimp only; omega)); (case ka => (show @Ne Nat _ _; omega)); (case kb => (show @Ne Nat _ _; omega)); (case kc => (show @Ne Nat _ _; omega)); (case kd => decide); (case ke => decide); (case kf => omega); intro _ _ _ _))
local macro_rules | `(tactic| walk_at "call ref") => `(tactic| (k_here; k_dflt (refine wpAny_call ?_; refine' code_def ?k1 ?k2 ?k3 ?k4 ?k5 ?kA ?kF ?kK ?k6 ?k7 ?k8 ?k9 ?kB ?_ ?c2 ?c3 ?c4 ?c5; (case kA => exact rfl); (case kF => exact rfl); (case kK => first | exact rfl | assumption); (case k1 => k_asm); (case k2 => k_asm); (case k3 => k_asm); (case k4 => k_asm); (case k5 => k_asm); (case k6 => k_is); (case k7 => k_is); (case k8 => ktr_room); (case k9 => first | exact BindsTo.of_eq rfl | exact binds_K (by k_in) rfl (by k_is) rfl rfl rfl | fail "k_enter: no rule for these arguments"); (case c5 => decide); (case kB => exact locs rfl); (case c2 => exact rfl); (case c3 => exact rfl); (case c4 => exact rfl); k_whole; intro g' L' h' FG' F' N' B' X' T'; (try dsimp only); (try k_lift B'); (try k_fold))))
local macro_rules | `(tactic| walk_at "execs cons") => `(tactic| (k_here; (refine gentoks_pos ?_); intro _ _))
local macro_rules | `(tactic| walk_at "execs cons") => `(tactic| (k_here; (refine execs_tk ?_ ?_); (first | assumption | (dsimp only; omega)); (try dsimp only)))
local macro_rules | `(tactic| walk_at "forall") => `(tactic| (k_here; (with_reducible show 0 < _ → _); intro _))
local macro_rules | `(tactic| walk_at "eval ListComp") => `(tactic| (k_here; k_dflt (refine my_comp (by k_asm) (by with_unfolding_all rfl) (by decide) (by rfl) (by decide) (by rfl) ?_)))
local macro_rules | `(tactic| walk_at "call builtin:str.split") => `(tactic| (k_here; (with_reducible show wpAny _ _ (call (Value.builtin "str.split") [Value.str _ _, Value.str _ _]) _ _ _); (refine KSpl.split1 (by k_asm) (by k_asm) (by decide) ?_ ?ks); (case ks => (rw [sizeLine_eq]; omega)); intro _ _ _ _ _ _ _ _ _))
local macro_rules | `(tactic| k_all) => `(tactic| (first | (refine' ne0 ?h; (case h => assumption)) | (refine' ne1 ?h; (case h => assumption)) | (refine' ne2 ?h; (case h => assumption)) | (refine' ne3 ?h; (case h => assumption)) | (refine' ne4 ?h; (case h => assumption)) | (refine' neF ?h; (case h => assumption)) | (refine' neS ?h; (case h => assumption))))
def crS (x : Str) : Str := Txt.replace (Txt.replace x (Str.ofString "^n") (Str.ofString "\n")) (Str.ofString "^'") (Str.ofString "\"")
def uncarS (x : Str) : Str := Txt.join (Str.ofString "^") ((Txt.split x (Str.ofString "^^")).map crS)
theorem split_cr_len (x : Str) : (Txt.split x (Str.ofString "^^")).length ≤ x.length + 1 ∧ ∀ p ∈ Txt.split x (Str.ofString "^^"), p.length ≤ x.length := by
  rw [show Str.ofString "^^" = ⟨#[94, 94]⟩ from by decide +kernel]
  exact split2_len x 94 94 (by decide) (by decide)
theorem map_weight_le2 {g : Str → Str} {B : Nat} : ∀ (l : List Str), (∀ p ∈ l, (g p).length ≤ B) → ((l.map g).map (·.length)).sum + (l.map g).length ≤ l.length * (B + 1)
  | [], _ => by simp
  | a :: r, h => by
    have := map_weight_le2 r (fun p hp => h p (List.mem_cons_of_mem _ hp))
    have := h a List.mem_cons_self
    simp only [List.map_cons, List.sum_cons, List.length_cons, Nat.succ_mul] at *
    omega
theorem crS_len (x : Str) : (crS x).length ≤ 4 * x.length := by
  have h1 := replace_len x (Str.ofString "^n") (Str.ofString "\n") (by decide)
  have h2 := replace_len (Txt.replace x (Str.ofString "^n") (Str.ofString "\n")) (Str.ofString "^'") (Str.ofString "\"") (by decide)
  have e1 : (Str.ofString "\n").length = 1 := by decide
  have e2 : (Str.ofString "\"").length = 1 := by decide
  rw [e1] at h1
  rw [e2] at h2
  unfold crS
  omega
set_option maxHeartbeats 8000000 in
theorem ctr_uncar (x : Str) (t : Tok) (hx : x.length ≤ 32) : Ctr 3 46 [.str x t] (fun v own => ∃ t', v = .str (uncarS x) t' ∧ own = []) := by
  unfold Ctr
  k_fill
  intro w mg mb mean news dp un gd cn cs a ccd cl outer A₀ base h₀ L m s Q E B F X N T hk hd hu htk hret
  refine with_tk htk ?_
  refine wpAny_call ?_
  k_dflt cell_enter
  k_steps
  have hl := split_cr_len x
  refine src_list crS (by assumption) (by rfl) (by k_asm) (by k_asm) List.mem_cons_self (by omega) ?_ ?_
  · intro x₀ t₀ hx₀
    have hl₀ := hl.2 x₀ hx₀
    unfold TurnOf
    intro C oC D oD m₂ h tk E' hC hm₂ F₂ N₂ hk₂
    k_steps
    exact TurnEnd.intro ⟨_, rfl⟩
  · intro D ys h tk hys F₂ N₂ lt
    k_steps
    refine join_listW (News.isList (by k_asm) List.mem_cons_self) (by simpa using hys) (by decide) ?_ ?_
    · have := map_weight_le2 (g := crS) (B := 4 * x.length) (Txt.split x (Str.ofString "^^")) (fun p hp => by have := crS_len p; have := hl.2 p hp; omega)
      have h2 : (Txt.split x (Str.ofString "^^")).length * (4 * x.length + 1) ≤ 33 * 129 := Nat.mul_le_mul (by omega) (by omega)
      omega
    · intro t' k
      k_steps
      refine ret0 hret ⟨_, rfl, rfl⟩ ?_ (by k_asm) (news_drop (by k_asm) ?_)
      · assumption
      · intro p hp; exact List.Mem.tail _ (List.Mem.tail _ hp)
end Mine
end

section
open PySem PySem.W PySem.Calls PyProof.Rows
set_option Elab.async false
set_option maxRecDepth 100000
namespace Mine
/-- the walk starts anew: no line and no hit of an earlier text -/
theorem anew_C2b : True := by w_top off; k_with_none; trivial
local macro_rules | `(tactic| walk_at "mine pad") => `(tactic| skip)
local macro_rules | `(tactic| walk_at "mine pad") => `(tactic| skip)
local macro_rules | `(tactic| walk_at "call builtin:str.replace") => `(tactic| (k_here; (with_reducible show wpAny _ _ (call (Value.builtin "str.replace") [Value.str _ _, Value.str _ _, Value.str _ _]) _ _ _); (refine my_replace ?ka ?kb ?kc ?kd ?kw ?ke ?kg ?kf ?_); (case kw => decide); (case kg => (dsimp only; omega)); (case ka => (show @Ne Nat _ _; omega)); (case kb => (show @Ne Nat _ _; omega)); (case kc => (show @Ne Nat _ _; omega)); (case kd => decide); (case ke => decide); (case kf => omega); intro _ _ _ _))
local macro_rules | `(tactic| walk_at "call ref") => `(tactic| (k_here; k_dflt (refine wpAny_call ?_; refine' code_def ?k1 ?k2 ?k3 ?k4 ?k5 ?kA ?kF ?kK ?k6 ?k7 ?k8 ?k9 ?kB ?_ ?c2 ?c3 ?c4 ?c5; (case kA => exact rfl); (case kF => exact rfl); (case kK => first | exact rfl | assumption); (case k1 => k_asm); (case k2 => k_asm); (case k3 => k_asm); (case k4 => k_asm); (case k5 => k_asm); (case k6 => k_is); (case k7 => k_is); (case k8 => ktr_room); (case k9 => first | exact BindsTo.of_eq rfl | exact binds_K (by k_in) rfl (by k_is) rfl rfl rfl | fail "k_enter: no rule for these arguments"); (case c5 => decide); (case kB => exact locs rfl); (case c2 => exact rfl); (case c3 => exact rfl); (case c4 => exact rfl); k_whole; intro g' L' h' FG' F' N' B' X' T'; (try dsimp only); (try k_lift B'); (try k_fold))))
local macro_rules | `(tactic| walk_at "execs cons") => `(tactic| (k_here; (refine gentoks_pos ?_); intro _ _))
local macro_rules | `(tactic| walk_at "execs cons") => `(tactic| (k_here; (refine execs_tk ?_ ?_); (first | assumption | (dsimp only; omega)); (try dsimp only)))
local macro_rules | `(tactic| walk_at "forall") => `(tactic| (k_here; (with_reducible show 0 < _ → _); intro _))
local macro_rules | `(tactic| walk_at "eval ListComp") => `(tactic| (k_here; k_dflt (refine my_comp (by k_asm) (by with_unfolding_all rfl) (by decide) (by rfl) (by decide) (by rfl) ?_)))
local macro_rules | `(tactic| walk_at "call builtin:str.split") => `(tactic| (k_here; (with_reducible show wpAny _ _ (call (Value.builtin "str.split") [Value.str _ _, Value.str _ _]) _ _ _); (refine KSpl.split1 (by k_asm) (by k_asm) (by decide) ?_ ?ks); (case ks => (rw [sizeLine_eq]; omega)); intro _ _ _ _ _ _ _ _ _))
local macro_rules | `(tactic| k_all) => `(tactic| (first | (refine' ne0 ?h; (case h => assumption)) | (refine' ne1 ?h; (case h => assumption)) | (refine' ne2 ?h; (case h => assumption)) | (refine' ne3 ?h; (case h => assumption)) | (refine' ne4 ?h; (case h => assumption)) | (refine' neF ?h; (case h => assumption)) | (refine' neS ?h; (case h => assumption))))
def carG (c : Nat) : Str := if c = 94 then Str.ofString "^^" else if c = 10 then Str.ofString "^n" else if c = 13 then Str.ofString "^n" else if c = 34 then Str.ofString "^'" else ⟨#[c]⟩
def carS (x : Str) : Str := Txt.join (Str.ofString "") ((Txt.replace x (Str.ofString "\r\n") (Str.ofString "\n")).cps.toList.map carG)
theorem one_eq (k : String) (a c : Nat) (h : Str.ofString k = ⟨#[a]⟩) : (Str.ofString k == (⟨#[c]⟩ : Str)) = decide (c = a) := by
  rw [h]
  by_cases e : c = a
  · subst e; simp
  · rw [decide_eq_false e]
    exact beq_false_of_ne (fun q => e (by simpa using q.symm))
theorem car_look (c : Nat) : ((Spec.lookup (.str ⟨#[c]⟩) [(.str (Str.ofString "^"), .str (Str.ofString "^^")), (.str (Str.ofString "\n"), .str (Str.ofString "^n")), (.str (Str.ofString "\r"), .str (Str.ofString "^n")), (.str (Str.ofString "\r\n"), .str (Str.ofString "^n")), (.str (Str.ofString "\""), .str (Str.ofString "^'"))]).getD (.str ⟨#[c]⟩)) = PyData.str (carG c) := by
  have h4 : (Str.ofString "\r\n" == (⟨#[c]⟩ : Str)) = false := by
    rw [show Str.ofString "\r\n" = ⟨#[13, 10]⟩ from by decide +kernel]
    exact beq_false_of_ne (fun q => by simp at q)
  simp only [Spec.lookup, Spec.same, one_eq "^" 94 c (by decide +kernel), one_eq "\n" 10 c (by decide +kernel), one_eq "\r" 13 c (by decide +kernel), one_eq "\"" 34 c (by decide +kernel), h4, decide_eq_true_eq, carG]
  by_cases h1 : c = 94
  · simp [h1]
  · by_cases h2 : c = 10
    · simp [h2]
    · by_cases h3 : c = 13
      · simp [h3]
      · by_cases h5 : c = 34
        · simp [h5]
        · simp [h1, h2, h3, h5]
theorem carG_len (c : Nat) : (carG c).length ≤ 2 := by
  unfold carG
  repeat' split
  all_goals first | decide | simp [Str.length]
theorem flat_str {v : Value} {z : Str} (h : PyProof.V.Flat v (.str z)) : ∃ t, v = .str z t := by
  have h1 := h default
  cases h1
  exact ⟨_, rfl⟩
theorem sum_le_two {g : Nat → Str} (hg : ∀ c, (g c).length ≤ 2) : ∀ l : List Nat, ((l.map g).map (·.length)).sum + (l.map g).length ≤ 3 * l.length
  | [] => by simp
  | c :: r => by
    have := sum_le_two hg r
    have := hg c
    simp only [List.map_cons, List.sum_cons, List.length_cons] at *
    omega
set_option maxHeartbeats 8000000 in
theorem ctr_car (x : Str) (t : Tok) (hx : x.length ≤ 8) : Ctr 3 51 [.str x t] (fun v own => ∃ t', v = .str (carS x) t' ∧ own = []) := by
  unfold Ctr
  k_fill
  intro w mg mb mean news dp un gd cn cs a ccd cl outer A₀ base h₀ L m s Q E B F X N T hk hd hu htk hret
  refine with_tk htk ?_
  refine wpAny_call ?_
  k_dflt (refine' code_defC ?k1 ?k2 ?k3 ?k4 ?k5 ?kA ?kF ?kK ?k6 ?k7 ?k8 ?k9 ?kB ?kD ?_ ?c2 ?c3 ?c4; (case kA => exact rfl); (case kF => exact rfl); (case kK => first | exact rfl | assumption); (case k1 => k_asm); (case k2 => k_asm); (case k3 => k_asm); (case k4 => k_asm); (case k5 => k_asm); (case k6 => k_is); (case k7 => k_is); (case k8 => ktr_room); (case k9 => exact BindsTo.of_eq rfl); (case kB => exact rfl); (case kD => decide +kernel); (case c2 => exact rfl); (case c3 => exact rfl); (case c4 => exact rfl); k_whole; intro g' L' h' tk' cells' FG' F' N' Y' B' X' T' l1; (try k_lt l1); k_cells Y'; (try simp only [List.cons_append, List.nil_append] at N'); (try dsimp only); (try k_lift B'); (try k_fold))
  k_steps
  refine src_text carG (by rfl) (by k_asm) (by k_asm) (by omega) ?_ ?_
  · intro c t₀
    unfold TurnOf
    intro C oC D oD m₂ h tk E' hC hm₂ F₂ N₂ hk₂
    k_steps
    rename PyProof.V.Flat _ _ => hv
    obtain ⟨t', rfl⟩ := flat_str (car_look c ▸ hv)
    exact TurnEnd.intro ⟨_, rfl⟩
  · intro D ys h tk hys F₂ N₂ lt
    k_steps
    refine join_listW (News.isList (by k_asm) List.mem_cons_self) (by simpa using hys) (by decide) ?_ ?_
    · have h1 := sum_le_two carG_len (Txt.replace x (Str.ofString "\r\n") (Str.ofString "\n")).cps.toList
      have h2 := replace_len x (Str.ofString "\r\n") (Str.ofString "\n") (by decide)
      have h3 : (Str.ofString "\n").length = 1 := by decide
      have h4 : (Txt.replace x (Str.ofString "\r\n") (Str.ofString "\n")).cps.toList.length = (Txt.replace x (Str.ofString "\r\n") (Str.ofString "\n")).length := by simp [Str.length]
      rw [h3] at h2
      omega
    · intro t' k
      k_steps
      refine ret0 hret ⟨_, rfl, rfl⟩ ?_ (by k_asm) (news_drop (by k_asm) ?_)
      · assumption
      · intro p hp; exact List.Mem.tail _ (List.Mem.tail _ (List.Mem.tail _ hp))
end Mine
end

section
open PySem PySem.W PySem.Calls PyProof.Rows
set_option Elab.async false
set_option maxRecDepth 100000
namespace Mine
/-- the walk starts anew: no line and no hit of an earlier text -/
theorem anew_C3 : True := by w_top off; k_with_none; trivial
local macro_rules | `(tactic| walk_at "call builtin:str.replace") => `(tactic| (k_here; (with_reducible show wpAny _ _ (call (Value.builtin "str.replace") [Value.str _ _, Value.str _ _, Value.str _ _]) _ _ _); (refine my_replace ?ka ?kb ?kc ?kd ?kw ?ke ?kg ?kf ?_); (case kw => decide); (case kg => (dsimp only; omega)); (case ka => (show @Ne Nat _ _; omega)); (case kb => (show @Ne Nat _ _; omega)); (case kc => (show @Ne Nat _ _; omega)); (case kd => decide); (case ke => decide); (case kf => omega); intro _ _ _ _))
local macro_rules | `(tactic| walk_at "call ref") => `(tactic| (k_here; k_dflt (refine wpAny_call ?_; refine' code_def ?k1 ?k2 ?k3 ?k4 ?k5 ?kA ?kF ?kK ?k6 ?k7 ?k8 ?k9 ?kB ?_ ?c2 ?c3 ?c4 ?c5; (case kA => exact rfl); (case kF => exact rfl); (case kK => first | exact rfl | assumption); (case k1 => k_asm); (case k2 => k_asm); (case k3 => k_asm); (case k4 => k_asm); (case k5 => k_asm); (case k6 => k_is); (case k7 => k_is); (case k8 => ktr_room); (case k9 => first | exact BindsTo.of_eq rfl | exact binds_K (by k_in) rfl (by k_is) rfl rfl rfl | fail "k_enter: no rule for these arguments"); (case c5 => decide); (case kB => exact locs rfl); (case c2 => exact rfl); (case c3 => exact rfl); (case c4 => exact rfl); k_whole; intro g' L' h' FG' F' N' B' X' T'; (try dsimp only); (try k_lift B'); (try k_fold))))
local macro_rules | `(tactic| walk_at "execs cons") => `(tactic| (k_here; (refine gentoks_pos ?_); intro _ _))
local macro_rules | `(tactic| walk_at "execs cons") => `(tactic| (k_here; (refine execs_tk ?_ ?_); (first | assumption | (dsimp only; omega)); (try dsimp only)))
local macro_rules | `(tactic| walk_at "forall") => `(tactic| (k_here; (with_reducible show 0 < _ → _); intro _))
local macro_rules | `(tactic| walk_at "eval ListComp") => `(tactic| (k_here; k_dflt (refine my_comp (by k_asm) (by with_unfolding_all rfl) (by decide) (by rfl) (by decide) (by rfl) ?_)))
local macro_rules | `(tactic| walk_at "call builtin:str.split") => `(tactic| (k_here; (with_reducible show wpAny _ _ (call (Value.builtin "str.split") [Value.str _ _, Value.str _ _]) _ _ _); (refine KSpl.split1 (by k_asm) (by k_asm) (by decide) ?_ ?ks); (case ks => (rw [sizeLine_eq]; omega)); intro _ _ _ _ _ _ _ _ _))
local macro_rules | `(tactic| k_all) => `(tactic| (first | (refine' ne0 ?h; (case h => assumption)) | (refine' ne1 ?h; (case h => assumption)) | (refine' ne2 ?h; (case h => assumption)) | (refine' ne3 ?h; (case h => assumption)) | (refine' ne4 ?h; (case h => assumption)) | (refine' neF ?h; (case h => assumption)) | (refine' neS ?h; (case h => assumption))))
set_option maxHeartbeats 8000000 in
theorem ctr_runF (x : Str) (k : Nat) (c : Nat) (t t1 t2 t3 : Tok) (hx : x.length ≤ 8) (hkx : k ≤ x.length) : Ctr 3 83 [.str x t, .int (k : Int) t1, .int 1 t2, .str ⟨#[c]⟩ t3] (fun v own => ∃ t', v = .int (runL c ((cl x).drop k) : Nat) t' ∧ own = []) := by
  unfold Ctr
  k_fill
  intro w mg mb mean news dp un gd cn cs a ccd cl' outer A₀ base h₀ L m s Q E B F X N T hk hd hu htk hret
  refine with_tk htk ?_
  refine wpAny_call ?_
  k_dflt cell_enter
  k_with "exec While BoolOp cons nil" => k_while (fun _ much i => 0 ≤ much ∧ i = (k : Int) + much ∧ i ≤ x.length ∧ RunF x k c much) (fun _ much i => x.length - i.toNat) "much" "at"
  k_with "state" => (refine ⟨by omega, by omega, by omega, ?_⟩; first | exact runF_start x k c | exact runF_step (by assumption) (by assumption) (by assumption) (by assumption))
  k_steps
  all_goals (refine retI hret ?_ (by assumption) (by k_asm) (by k_asm))
  · exact runF_end (by assumption) (by assumption) (by assumption) (by assumption)
  · exact runF_out (by assumption) (by assumption) (by omega)
set_option maxHeartbeats 8000000 in
theorem ctr_runB (x : Str) (k : Nat) (c : Nat) (t t1 t2 t3 : Tok) (hx : x.length ≤ 8) (hkx : k ≤ x.length) : Ctr 3 83 [.str x t, .int ((k : Int) - 1) t1, .int (-1) t2, .str ⟨#[c]⟩ t3] (fun v own => ∃ t', v = .int (runL c ((cl x).take k).reverse : Nat) t' ∧ own = []) := by
  unfold Ctr
  k_fill
  intro w mg mb mean news dp un gd cn cs a ccd cl' outer A₀ base h₀ L m s Q E B F X N T hk hd hu htk hret
  refine with_tk htk ?_
  refine wpAny_call ?_
  k_dflt cell_enter
  k_with "exec While BoolOp cons nil" => k_while (fun _ much i => 0 ≤ much ∧ i = (k : Int) - 1 - much ∧ -1 ≤ i ∧ RunB x k c much) (fun _ much i => (i + 1).toNat) "much" "at"
  k_with "state" => (refine ⟨by omega, by omega, by omega, ?_⟩; first | exact runB_start x k c | exact runB_step (by assumption) (by assumption) (by assumption) (by omega) (by assumption))
  k_steps
  all_goals (refine retI hret ?_ (by assumption) (by k_asm) (by k_asm))
  · exact runB_end (by assumption) (by assumption) (by assumption) (by omega) (by assumption)
  · exact runB_out (by assumption) (by assumption) (by omega)
end Mine
end

section
open PySem PySem.W PySem.Calls PyProof.Rows
set_option Elab.async false
set_option maxRecDepth 100000
namespace Mine
/-- the walk starts anew: no line and no hit of an earlier text -/
theorem anew_C3b : True := by w_top off; k_with_none; trivial
local macro_rules | `(tactic| walk_at "call builtin:str.replace") => `(tactic| (k_here; (with_reducible show wpAny _ _ (call (Value.builtin "str.replace") [Value.str _ _, Value.str _ _, Value.str _ _]) _ _ _); (refine my_replace ?ka ?kb ?kc ?kd ?kw ?ke ?kg ?kf ?_); (case kw => decide); (case kg => (dsimp only; omega)); (case ka => (show @Ne Nat _ _; omega)); (case kb => (show @Ne Nat _ _; omega)); (case kc => (show @Ne Nat _ _; omega)); (case kd => decide); (case ke => decide); (case kf => omega); intro _ _ _ _))
local macro_rules | `(tactic| walk_at "execs cons") => `(tactic| (k_here; (refine gentoks_pos ?_); intro _ _))
local macro_rules | `(tactic| walk_at "execs cons") => `(tactic| (k_here; (refine execs_tk ?_ ?_); (first | assumption | (dsimp only; omega)); (try dsimp only)))
local macro_rules | `(tactic| walk_at "forall") => `(tactic| (k_here; (with_reducible show 0 < _ → _); intro _))
local macro_rules | `(tactic| walk_at "eval ListComp") => `(tactic| (k_here; k_dflt (refine my_comp (by k_asm) (by with_unfolding_all rfl) (by decide) (by rfl) (by decide) (by rfl) ?_)))
local macro_rules | `(tactic| walk_at "call builtin:str.split") => `(tactic| (k_here; (with_reducible show wpAny _ _ (call (Value.builtin "str.split") [Value.str _ _, Value.str _ _]) _ _ _); (refine KSpl.split1 (by k_asm) (by k_asm) (by decide) ?_ ?ks); (case ks => (rw [sizeLine_eq]; omega)); intro _ _ _ _ _ _ _ _ _))
local macro_rules | `(tactic| k_all) => `(tactic| (first | (refine' ne0 ?h; (case h => assumption)) | (refine' ne1 ?h; (case h => assumption)) | (refine' ne2 ?h; (case h => assumption)) | (refine' ne3 ?h; (case h => assumption)) | (refine' ne4 ?h; (case h => assumption)) | (refine' neF ?h; (case h => assumption)) | (refine' neS ?h; (case h => assumption))))
local macro_rules | `(tactic| walk_at "mine use") => `(tactic| ((case k1 => k_asm); (case k2 => k_asm); (case k3 => k_asm); (case k4 => k_asm); (case k5 => k_asm); (case kK => first | exact rfl | assumption); (case kd => ktr_room); (case ku => ktr_units); (case kt => first | assumption | (dsimp only; omega))))
local macro_rules | `(tactic| walk_at "call ref") => `(tactic| (k_here; k_dflt (first
  | (refine' use_int (ctr_runF _ _ _ _ _ _ _ ?hx ?hy) ?k1 ?k2 ?k3 ?k4 ?k5 ?kK ?kd ?ku ?kt ?_; (case hx => omega); (case hy => omega); walk_at "mine use"; intro t9 h9 tk9 ht9 F9 N9; (try dsimp only); (try k_fold))
  | (refine' use_int (ctr_runB _ _ _ _ _ _ _ ?hx ?hy) ?k1 ?k2 ?k3 ?k4 ?k5 ?kK ?kd ?ku ?kt ?_; (case hx => omega); (case hy => omega); walk_at "mine use"; intro t9 h9 tk9 ht9 F9 N9; (try dsimp only); (try k_fold)))))
def mayV (p q : Nat) (A named shared : Str) : Bool :=
  if p % 2 = 0 then true else if q % 2 = 0 then (A == Str.ofString "") || !(Txt.contains named A) else (A != Str.ofString "") && Txt.contains shared A
def mayS (x : Str) (k c : Nat) (named shared : Str) : Bool :=
  mayV (runL c ((cl x).take k).reverse) (runL c ((cl x).drop k)) (Txt.slice x (some ((k : Int) + (runL c ((cl x).drop k) : Nat))) (some ((k : Int) + (runL c ((cl x).drop k) : Nat) + 1))) named shared
theorem fm2 (n : Nat) : ((n : Int).fmod 2 = 0) ↔ n % 2 = 0 := by rw [Int.fmod_eq_emod_of_nonneg _ (by decide)]; omega
section
variable {p q : Nat} {A named shared : Str}
theorem m1 (h : (p : Int).fmod 2 = 0) : true = mayV p q A named shared := by rw [fm2] at h; simp [mayV, h]
theorem m2 (h : (p : Int).fmod 2 ≠ 0) (h2 : (q : Int).fmod 2 = 0) (h3 : (A == Str.ofString "") = true) : (A == Str.ofString "") = mayV p q A named shared := by rw [Ne, fm2] at h; rw [fm2] at h2; unfold mayV; rw [if_neg h, if_pos h2, h3]; rfl
theorem m3 (h : (p : Int).fmod 2 ≠ 0) (h2 : (q : Int).fmod 2 = 0) (h3 : (A == Str.ofString "") = false) : (!!(Builtin.Str.occurrences named A 0 named.length 1).isEmpty) = mayV p q A named shared := by rw [Ne, fm2] at h; rw [fm2] at h2; unfold mayV; rw [if_neg h, if_pos h2, h3]; rfl
theorem m4 (h : (p : Int).fmod 2 ≠ 0) (h2 : (q : Int).fmod 2 ≠ 0) (h3 : (A != Str.ofString "") = true) : (!(Builtin.Str.occurrences shared A 0 shared.length 1).isEmpty) = mayV p q A named shared := by rw [Ne, fm2] at h h2; unfold mayV; rw [if_neg h, if_neg h2, h3]; rfl
theorem m5 (h : (p : Int).fmod 2 ≠ 0) (h2 : (q : Int).fmod 2 ≠ 0) (h3 : (A != Str.ofString "") = false) : (A != Str.ofString "") = mayV p q A named shared := by rw [Ne, fm2] at h h2; unfold mayV; rw [if_neg h, if_neg h2, h3]; rfl
end
theorem runL_le (c : Nat) (l : List Nat) : runL c l ≤ l.length := by
  induction l with
  | nil => simp [runL]
  | cons a r ih => unfold runL; split <;> simp; omega
set_option maxHeartbeats 8000000 in
theorem ctr_may (x : Str) (k : Nat) (c : Nat) (named shared : Str) (t t1 t2 t3 t4 : Tok) (hx : x.length ≤ 8) (hkx : k ≤ x.length) : Ctr 5 97 [.str x t, .int (k : Int) t1, .str ⟨#[c]⟩ t2, .str named t3, .str shared t4] (fun v own => v = .bool (mayS x k c named shared) ∧ own = []) := by
  unfold Ctr
  k_fill
  intro w mg mb mean news dp un gd cn cs a ccd cl' outer A₀ base h₀ L m s Q E B F X N T hk hd hu htk hret
  have hr1 : runL c ((cl x).drop k) ≤ 8 := by
    have := runL_le c ((cl x).drop k); rw [List.length_drop] at this; have e : (cl x).length = x.length := by simp [cl, Str.length]
    omega
  have hr2 : runL c ((cl x).take k).reverse ≤ 8 := by
    have := runL_le c ((cl x).take k).reverse; rw [List.length_reverse, List.length_take] at this; have e : (cl x).length = x.length := by simp [cl, Str.length]
    omega
  refine with_tk htk ?_
  refine wpAny_call ?_
  k_dflt cell_enter
  k_steps
  all_goals (refine retB hret ?_ (by assumption) (by k_asm) (by k_asm))
  · exact m1 (by assumption)
  · exact m2 (by assumption) (by assumption) (by assumption)
  · exact m3 (by assumption) (by assumption) (by assumption)
  · exact m4 (by assumption) (by assumption) (by assumption)
  · exact m5 (by assumption) (by assumption) (by assumption)
end Mine
end

section
open PySem PySem.W PySem.Calls PyProof.Rows
set_option Elab.async false
set_option maxRecDepth 100000
namespace Mine
/-- the walk starts anew: no line and no hit of an earlier text -/
theorem anew_C4 : True := by w_top off; k_with_none; trivial
local macro_rules | `(tactic| walk_at "call builtin:str.replace") => `(tactic| (k_here; (with_reducible show wpAny _ _ (call (Value.builtin "str.replace") [Value.str _ _, Value.str _ _, Value.str _ _]) _ _ _); (refine my_replace ?ka ?kb ?kc ?kd ?kw ?ke ?kg ?kf ?_); (case kw => decide); (case kg => (dsimp only; omega)); (case ka => (show @Ne Nat _ _; omega)); (case kb => (show @Ne Nat _ _; omega)); (case kc => (show @Ne Nat _ _; omega)); (case kd => decide); (case ke => decide); (case kf => omega); intro _ _ _ _))
local macro_rules | `(tactic| walk_at "execs cons") => `(tactic| (k_here; (refine gentoks_pos ?_); intro _ _))
local macro_rules | `(tactic| walk_at "execs cons") => `(tactic| (k_here; (refine execs_tk ?_ ?_); (first | assumption | (dsimp only; omega)); (try dsimp only)))
local macro_rules | `(tactic| walk_at "forall") => `(tactic| (k_here; (with_reducible show 0 < _ → _); intro _))
local macro_rules | `(tactic| walk_at "eval ListComp") => `(tactic| (k_here; k_dflt (refine my_comp (by k_asm) (by with_unfolding_all rfl) (by decide) (by rfl) (by decide) (by rfl) ?_)))
local macro_rules | `(tactic| walk_at "call builtin:str.split") => `(tactic| (k_here; (with_reducible show wpAny _ _ (call (Value.builtin "str.split") [Value.str _ _, Value.str _ _]) _ _ _); (refine KSpl.split1 (by k_asm) (by k_asm) (by decide) ?_ ?ks); (case ks => (rw [sizeLine_eq]; omega)); intro _ _ _ _ _ _ _ _ _))
local macro_rules | `(tactic| walk_at "mine enter") => `(tactic| (refine' enter0 ?k1 ?k2 ?k3 ?k5 ?kA ?kF ?kK ?k6 ?k7 ?k8 ?k9 ?kB ?_ ?c2 ?c3 ?c4 ?c5; (case kA => exact rfl); (case kF => exact rfl); (case kK => first | exact rfl | assumption); (case k1 => k_asm); (case k2 => k_asm); (case k3 => k_asm); (case k5 => k_asm); (case k6 => k_is); (case k7 => k_is); (case k8 => ktr_room); (case k9 => first | exact BindsTo.of_eq rfl | exact binds_K (by k_in) rfl (by k_is) rfl rfl rfl); (case c5 => decide); (case kB => exact locs rfl); (case c2 => exact rfl); (case c3 => exact rfl); (case c4 => exact rfl); k_whole; intro L' h' F' N' B' X' T'; (try dsimp only); (try k_lift B'); (try k_fold)))
local macro_rules | `(tactic| walk_at "exec For Name Name cons nil") => `(tactic| (k_here; (rename Fr _ _ _ _ => lF'); (with_unfolding_all refine' For_invVF lF' ?k1 ?k2 ?_; (case k1 => exact rfl); (case k2 => exact rfl); k_whole)))
local macro_rules | `(tactic| walk_at "OwnPost") => `(tactic| (dsimp only [OwnPost]))
local macro_rules | `(tactic| walk_at "exec For Tuple Name cons nil") => `(tactic| (k_here; (rename Fr _ _ _ _ => lF'); (with_unfolding_all refine' For_turns lF' ?_); k_whole))
def lw (c : Nat) : List Nat := if c = 92 then [92, 92] else if c = 44 then [92, 44] else if c = 59 then [92, 59] else if c = 10 then [92, 110] else [c]
def lc (c : Nat) : List Nat := if c = 94 then [94, 94] else if c = 10 then [94, 110] else if c = 34 then [94, 39] else [c]
set_option maxHeartbeats 8000000 in
theorem ctr_laidW (x : Str) (t : Tok) (hx : x.length ≤ 300) : Ctr 3 90 [.str x t, .ref 71] (fun v own => ∃ t', v = .str ⟨((cl x).flatMap lw).toArray⟩ t' ∧ own = []) := by
  unfold Ctr
  k_fill
  intro w mg mb mean news dp un gd cn cs a ccd cl' outer A₀ base h₀ L m s Q E B F X N T hk hd hu htk hret
  refine with_tk htk ?_
  refine wpAny_call ?_
  k_dflt (walk_at "mine enter")
  k_steps
  refine for_text (fun i m₁ news₁ => news₁ = [] ∧ m₁ (Str.ofString "table") = some (.ref 71) ∧ ∃ (out : Str) (t : Tok), m₁ (Str.ofString "out") = some (.str out t) ∧ cl out = ((cl x).take i).flatMap lw) (by rfl) (by k_asm) (by k_asm) ⟨rfl, rfl, _, _, rfl, by rw [List.take_zero]; decide⟩ ?_ ?_
  · rintro i c u m₁ news₁ h tk I oI hc ⟨rfl, htab, out, to, hout, hcl⟩ F₁ N₁ off
    have F₂ := fr_put (fr_put F₁ (y := Str.ofString "table") (v := .ref 71) (by rw [if_neg (by decide)]; exact htab)) (y := Str.ofString "out") (v := .str out to) (by rw [if_neg (by decide), if_neg (by decide)]; exact hout)
    clear F₁
    have hlen : out.length ≤ 600 := by
      have h1 := flatMap_len (f := lw) (by intro c; unfold lw; (repeat' split) <;> simp) ((cl x).take i)
      rw [← hcl, cl_len, List.length_take, cl_len] at h1
      omega
    have fin : ∀ z : Str, cl z = lw c → cl (out ++ z) = ((cl x).take (i + 1)).flatMap lw := fun z hz => by rw [cl_app, hcl, hz, flatMap_step hc]
    by_cases h92 : c = 92
    · subst h92
      k_steps
      exact OwnEnd.intro [] (by k_asm) (by k_asm) (by simp) (by simp) ⟨rfl, rfl, _, _, rfl, fin _ (by decide +kernel)⟩
    by_cases h44 : c = 44
    · subst h44
      k_steps
      exact OwnEnd.intro [] (by k_asm) (by k_asm) (by simp) (by simp) ⟨rfl, rfl, _, _, rfl, fin _ (by decide +kernel)⟩
    by_cases h59 : c = 59
    · subst h59
      k_steps
      exact OwnEnd.intro [] (by k_asm) (by k_asm) (by simp) (by simp) ⟨rfl, rfl, _, _, rfl, fin _ (by decide +kernel)⟩
    by_cases h10 : c = 10
    · subst h10
      k_steps
      exact OwnEnd.intro [] (by k_asm) (by k_asm) (by simp) (by simp) ⟨rfl, rfl, _, _, rfl, fin _ (by decide +kernel)⟩
    have e0 := sign_ne (k := Str.ofString "\\") (c := c) (by decide +kernel) h92
    have e1 := sign_ne (k := Str.ofString ",") (c := c) (by decide +kernel) h44
    have e2 := sign_ne (k := Str.ofString ";") (c := c) (by decide +kernel) h59
    have e3 := sign_ne (k := Str.ofString "\n") (c := c) (by decide +kernel) h10
    k_steps
    exact OwnEnd.intro [] (by k_asm) (by k_asm) (by simp) (by simp) ⟨rfl, rfl, _, _, rfl, fin _ (by simp [lw, cl, h92, h44, h59, h10])⟩
  · rintro m₁ news₁ h tk ⟨rfl, htab, out, to, hout, hcl⟩ F₁ N₁
    have F₂ := fr_put F₁ (y := Str.ofString "out") (v := .str out to) hout
    clear F₁
    k_steps
    rw [List.take_of_length_le (by rw [cl_len]; exact Nat.le_refl _)] at hcl
    exact done0 (own := []) N (by k_asm) (by k_asm) hret ⟨to, by rw [← hcl], rfl⟩ (by simp) (by assumption) (by k_asm) (by k_asm)
set_option maxHeartbeats 8000000 in
theorem ctr_laidC (x : Str) (t : Tok) (hx : x.length ≤ 300) : Ctr 3 90 [.str x t, .ref 75] (fun v own => ∃ t', v = .str ⟨((cl x).flatMap lc).toArray⟩ t' ∧ own = []) := by
  unfold Ctr
  k_fill
  intro w mg mb mean news dp un gd cn cs a ccd cl' outer A₀ base h₀ L m s Q E B F X N T hk hd hu htk hret
  refine with_tk htk ?_
  refine wpAny_call ?_
  k_dflt (walk_at "mine enter")
  k_steps
  refine for_text (fun i m₁ news₁ => news₁ = [] ∧ m₁ (Str.ofString "table") = some (.ref 75) ∧ ∃ (out : Str) (t : Tok), m₁ (Str.ofString "out") = some (.str out t) ∧ cl out = ((cl x).take i).flatMap lc) (by rfl) (by k_asm) (by k_asm) ⟨rfl, rfl, _, _, rfl, by rw [List.take_zero]; decide⟩ ?_ ?_
  · rintro i c u m₁ news₁ h tk I oI hc ⟨rfl, htab, out, to, hout, hcl⟩ F₁ N₁ off
    have F₂ := fr_put (fr_put F₁ (y := Str.ofString "table") (v := .ref 75) (by rw [if_neg (by decide)]; exact htab)) (y := Str.ofString "out") (v := .str out to) (by rw [if_neg (by decide), if_neg (by decide)]; exact hout)
    clear F₁
    have hlen : out.length ≤ 600 := by
      have h1 := flatMap_len (f := lc) (by intro c; unfold lc; (repeat' split) <;> simp) ((cl x).take i)
      rw [← hcl, cl_len, List.length_take, cl_len] at h1
      omega
    have fin : ∀ z : Str, cl z = lc c → cl (out ++ z) = ((cl x).take (i + 1)).flatMap lc := fun z hz => by rw [cl_app, hcl, hz, flatMap_step hc]
    by_cases h94 : c = 94
    · subst h94
      k_steps
      exact OwnEnd.intro [] (by k_asm) (by k_asm) (by simp) (by simp) ⟨rfl, rfl, _, _, rfl, fin _ (by decide +kernel)⟩
    by_cases h10 : c = 10
    · subst h10
      k_steps
      exact OwnEnd.intro [] (by k_asm) (by k_asm) (by simp) (by simp) ⟨rfl, rfl, _, _, rfl, fin _ (by decide +kernel)⟩
    by_cases h34 : c = 34
    · subst h34
      k_steps
      exact OwnEnd.intro [] (by k_asm) (by k_asm) (by simp) (by simp) ⟨rfl, rfl, _, _, rfl, fin _ (by decide +kernel)⟩
    have e0 := sign_ne (k := Str.ofString "^") (c := c) (by decide +kernel) h94
    have e1 := sign_ne (k := Str.ofString "\n") (c := c) (by decide +kernel) h10
    have e2 := sign_ne (k := Str.ofString "\"") (c := c) (by decide +kernel) h34
    k_steps
    exact OwnEnd.intro [] (by k_asm) (by k_asm) (by simp) (by simp) ⟨rfl, rfl, _, _, rfl, fin _ (by simp [lc, cl, h94, h10, h34])⟩
  · rintro m₁ news₁ h tk ⟨rfl, htab, out, to, hout, hcl⟩ F₁ N₁
    have F₂ := fr_put F₁ (y := Str.ofString "out") (v := .str out to) hout
    clear F₁
    k_steps
    rw [List.take_of_length_le (by rw [cl_len]; exact Nat.le_refl _)] at hcl
    exact done0 (own := []) N (by k_asm) (by k_asm) hret ⟨to, by rw [← hcl], rfl⟩ (by simp) (by assumption) (by k_asm) (by k_asm)
end Mine
end

section
open PySem PySem.W PySem.Calls PyProof.Rows
set_option Elab.async false
set_option maxRecDepth 100000
namespace Mine
/-- the walk starts anew: no line and no hit of an earlier text -/
theorem anew_C5 : True := by w_top off; k_with_none; trivial
local macro_rules | `(tactic| walk_at "call builtin:str.replace") => `(tactic| (k_here; (with_reducible show wpAny _ _ (call (Value.builtin "str.replace") [Value.str _ _, Value.str _ _, Value.str _ _]) _ _ _); (refine my_replace ?ka ?kb ?kc ?kd ?kw ?ke ?kg ?kf ?_); (case kw => decide); (case kg => (dsimp only; omega)); (case ka => (show @Ne Nat _ _; omega)); (case kb => (show @Ne Nat _ _; omega)); (case kc => (show @Ne Nat _ _; omega)); (case kd => decide); (case ke => decide); (case kf => omega); intro _ _ _ _))
local macro_rules | `(tactic| walk_at "execs cons") => `(tactic| (k_here; (refine gentoks_pos ?_); intro _ _))
local macro_rules | `(tactic| walk_at "execs cons") => `(tactic| (k_here; (refine execs_tk ?_ ?_); (first | assumption | (dsimp only; omega)); (try dsimp only)))
local macro_rules | `(tactic| walk_at "forall") => `(tactic| (k_here; (with_reducible show 0 < _ → _); intro _))
local macro_rules | `(tactic| walk_at "eval ListComp") => `(tactic| (k_here; k_dflt (refine my_comp (by k_asm) (by with_unfolding_all rfl) (by decide) (by rfl) (by decide) (by rfl) ?_)))
local macro_rules | `(tactic| walk_at "call builtin:str.split") => `(tactic| (k_here; (with_reducible show wpAny _ _ (call (Value.builtin "str.split") [Value.str _ _, Value.str _ _]) _ _ _); (refine KSpl.split1 (by k_asm) (by k_asm) (by decide) ?_ ?ks); (case ks => (rw [sizeLine_eq]; omega)); intro _ _ _ _ _ _ _ _ _))
local macro_rules | `(tactic| walk_at "mine enter") => `(tactic| (refine' enter0 ?k1 ?k2 ?k3 ?k5 ?kA ?kF ?kK ?k6 ?k7 ?k8 ?k9 ?kB ?_ ?c2 ?c3 ?c4 ?c5; (case kA => exact rfl); (case kF => exact rfl); (case kK => first | exact rfl | assumption); (case k1 => k_asm); (case k2 => k_asm); (case k3 => k_asm); (case k5 => k_asm); (case k6 => k_is); (case k7 => k_is); (case k8 => ktr_room); (case k9 => first | exact BindsTo.of_eq rfl | exact binds_K (by k_in) rfl (by k_is) rfl rfl rfl); (case c5 => decide); (case kB => exact locs rfl); (case c2 => exact rfl); (case c3 => exact rfl); (case c4 => exact rfl); k_whole; intro L' h' F' N' B' X' T'; (try dsimp only); (try k_lift B'); (try k_fold)))
local macro_rules | `(tactic| walk_at "exec For Name Name cons nil") => `(tactic| (k_here; (rename Fr _ _ _ _ => lF'); (with_unfolding_all refine' For_invVF lF' ?k1 ?k2 ?_; (case k1 => exact rfl); (case k2 => exact rfl); k_whole)))
local macro_rules | `(tactic| walk_at "OwnPost") => `(tactic| (dsimp only [OwnPost]))
local macro_rules | `(tactic| walk_at "mine use") => `(tactic| ((case k1 => k_asm); (case k2 => k_asm); (case k3 => k_asm); (case k4 => k_asm); (case k5 => k_asm); (case kK => first | exact rfl | assumption); (case kd => ktr_room); (case ku => ktr_units); (case kt => first | assumption | (dsimp only; omega))))
local macro_rules | `(tactic| walk_at "call ref") => `(tactic| (k_here; k_dflt (refine' use_str (ctr_unesc _ _ ?hx) ?k1 ?k2 ?k3 ?k4 ?k5 ?kK ?kd ?ku ?kt ?_; (case hx => first | assumption | (simp only [Str.length, List.size_toArray]; omega)); walk_at "mine use"; intro t9 h9 tk9 ht9 F9 N9; (try dsimp only); (try k_fold))))

theorem while_end {h₀ : Heap} {L : Addr} {s : Shared} {J : Nat → (Str → Option Value) → List (Addr × Obj) → Prop} {Q : Flow → Shared → Prop} {n : Nat} {h' : Heap} {tk : Nat} {m' : Str → Option Value} {all : List (Addr × Obj)} (news' : List (Addr × Obj)) (n' : Nat)
    (F : Fr h₀ L h' m') (N : News h₀ L h' all) (hs : ∀ p ∈ news', p ∈ all) (hn : n' < n) (hj : J n' m' news') : WhileStep2 h₀ L s J Q n .next { s with heap := h', toks := tk } :=
  ⟨h', tk, m', news', n', rfl, F, fun p hp => N p (hs p hp), hn, hj⟩
theorem while_end3 {h₀ : Heap} {L : Addr} {s : Shared} {J : Nat → (Str → Option Value) → List (Addr × Obj) → Prop} {Q : Flow → Shared → Prop} {n : Nat} {h' : Heap} {tk : Nat} {m' : Str → Option Value} {a b c : Addr × Obj} (n' : Nat)
    (F : Fr h₀ L h' m') (N : News h₀ L h' [a, b, c]) (hn : n' < n) (hj : J n' m' [a, c]) : WhileStep2 h₀ L s J Q n .next { s with heap := h', toks := tk } :=
  while_end [a, c] n' F N (by simp) hn hj
theorem done1 {h₀ h' : Heap} {L L' : Addr} {m m' : Str → Option Value} {news : List (Addr × Obj)} {s : Shared} {tk' : Nat} {Q : Value → Shared → Prop} {v : Value} {P : Value → List (Addr × Obj) → Prop} {a b : Addr × Obj} (N : News h₀ L s.heap news) (F' : Fr s.heap L' h' m') (N' : News s.heap L' h' [a, b])
    (hret : ∀ v own h' tk', P v own → 0 < tk' → Fr h₀ L h' m → News h₀ L h' (own ++ news) → (∀ q ∈ own, ∀ p ∈ news, p.1 ≠ q.1) → Q v { s with heap := h', toks := tk' })
    (hP : P v [b]) (ht : 0 < tk') (kF : Fr h₀ L h' m) (kN : News h₀ L h' [a, b]) : Q v { s with heap := h', toks := tk' } :=
  done0 (own := [b]) N F' N' hret hP (by simp) ht kF kN
theorem done2 {h₀ h' : Heap} {L L' : Addr} {m m' : Str → Option Value} {news : List (Addr × Obj)} {s : Shared} {tk' : Nat} {Q : Value → Shared → Prop} {v : Value} {P : Value → List (Addr × Obj) → Prop} {a : Addr × Obj} (N : News h₀ L s.heap news) (F' : Fr s.heap L' h' m') (N' : News s.heap L' h' [a])
    (hret : ∀ v own h' tk', P v own → 0 < tk' → Fr h₀ L h' m → News h₀ L h' (own ++ news) → (∀ q ∈ own, ∀ p ∈ news, p.1 ≠ q.1) → Q v { s with heap := h', toks := tk' })
    (hP : P v [a]) (ht : 0 < tk') (kF : Fr h₀ L h' m) (kN : News h₀ L h' [a]) : Q v { s with heap := h', toks := tk' } :=
  done0 (own := [a]) N F' N' hret hP (by simp) ht kF kN
theorem join_piece {prog : Program} {w : World} {A : Around} {E : Value → Shared → Prop} {s : Shared} {D : Addr} {t : Tok} {ws : Array Value} {cur : List Nat} {Q : Value → Shared → Prop} (hl : s.heap.IsList D ws) (hi : StrsAre ws.toList (cur.map one)) (hc : cur.length ≤ 1000) (ht : 0 < s.toks)
    (h : ∀ t' k, 0 < k → Q (.str ⟨cur.toArray⟩ t') { s with toks := k }) : wpAny (model prog w) A (call (.builtin "str.join") [.str (Str.ofString "") t, .ref D]) Q E s :=
  with_tk ht (join_listW hl hi (by decide) (by rw [one_weight]; omega) fun t' k hk => by rw [join_one]; exact h t' k hk)
local macro_rules | `(tactic| walk_at "call builtin:str.join") => `(tactic| (k_here; (with_reducible show wpAny _ _ (call (Value.builtin "str.join") [Value.str _ _, Value.ref _]) _ _ _); k_dflt (refine' join_piece ?ja ?jb ?jc ?jd ?_; (case ja => exact News.isList (by k_asm) (by k_mem)); (case jb => assumption); (case jc => omega); (case jd => first | assumption | (dsimp only; omega)); intro _ _ _)))

local macro_rules | `(tactic| walk_at "exec While Compare cons nil") => `(tactic| (k_here; refine Stop.go ?_))
/-- where the loop of the splitting stands -/
def SpJ (x : Str) (t : Tok) (k : Nat) (n : Nat) (m : Str → Option Value) (news : List (Addr × Obj)) : Prop :=
  ∃ (R C : Addr) (rs cs : Array Value) (nR nC : Nat) (i : Nat) (ti : Tok) (dn : List (List Nat)) (cur : List Nat),
    news = [(C, W.listOf cs nC), (R, W.listOf rs nR)] ∧ @Ne Nat R C ∧ n = x.length - i ∧ m (Str.ofString "text") = some (.str x t) ∧ m (Str.ofString "result") = some (.ref R) ∧ m (Str.ofString "current") = some (.ref C) ∧ m (Str.ofString "i") = some (.int (i : Int) ti) ∧
    StrsAre rs.toList (dn.map fun p => unescS ⟨p.toArray⟩) ∧ StrsAre cs.toList (cur.map one) ∧ SpInv x k i dn cur
set_option maxHeartbeats 8000000 in
theorem ctr_commas (x : Str) (t : Tok) (hx : x.length ≤ 8) : Ctr 5 26 [.str x t] (fun v own => ∃ l ws n, v = .ref l ∧ own = [(l, W.listOf ws n)] ∧ StrsAre ws.toList ((splP 44 (cl x)).map fun p => unescS ⟨p.toArray⟩)) := by
  unfold Ctr
  k_fill
  intro w mg mb mean news dp un gd cn cs a ccd cl' outer A₀ base h₀ L m s Q E B F X N T hk hd hu htk hret
  refine with_tk htk ?_
  refine wpAny_call ?_
  k_dflt (walk_at "mine enter")
  k_steps
  · refine Stop.mk ?_
    refine While_inv2 (SpJ x t 44) (by k_asm) (by k_asm) ⟨_, _, #[], #[], 0, 0, 0, _, [], [], rfl, ?_, rfl, rfl, rfl, rfl, rfl, .nil, .nil, SpInv.start x 44⟩ ?_
    · refine neN ?_; omega
    rintro n m₁ news₁ h₁ tk₁ F₁ N₁ ⟨R, C, rs, cs, nR, nC, i, ti, dn, cur, rfl, hRC, rfl, ht, hr, hc, hi, hrs, hcs, hinv⟩
    have F₂ := fr_put4 F₁ ht hr hc hi
    clear F₁
    have hle := hinv.le
    have hcu := hinv.cu
    have hnn := hinv.nn
    have hrl : rs.size ≤ 8 := by have := Mine.StrsAre.len hrs; simp at this; omega
    have hcl : cs.size ≤ 8 := by have := Mine.StrsAre.len hcs; simp at this; omega
    k_steps
    · obtain ⟨d, e1, e2, hinv'⟩ := sp_bs hinv (by assumption) (by omega)
      exact while_end [_, _] (x.length - (i + 2)) (by k_asm) (by k_asm) (fun p hp => hp) (by omega) ⟨R, C, _, _, _, _, i + 2, _, dn, _, rfl, hRC, rfl, rfl, rfl, rfl, rfl, hrs, strs2 hcs e1 e2, hinv'⟩
    · exact (sp_absurd (k := 44) (K := Str.ofString ",") (by decide) (by decide +kernel) (by assumption) (by assumption)).elim
    · obtain ⟨c, e1, hinv'⟩ := sp_last (K := Str.ofString ",") hinv (by decide +kernel) (by omega) (by omega) (by assumption)
      exact while_end [_, _] (x.length - (i + 1)) (by k_asm) (by k_asm) (fun p hp => hp) (by omega) ⟨R, C, _, _, _, _, i + 1, _, dn, _, rfl, hRC, rfl, rfl, rfl, rfl, rfl, hrs, strs1 hcs e1, hinv'⟩
    · have hinv' := sp_mark (K := Str.ofString ",") hinv (by decide) (by decide +kernel) (by omega) (by assumption)
      refine while_end3 (x.length - (i + 1)) (by k_asm) (by k_asm) (by omega) ⟨R, _, _, #[], _, 0, i + 1, _, dn ++ [cur], [], rfl, ?hne, rfl, rfl, rfl, rfl, rfl, by rw [List.map_append]; exact strs_push hrs, .nil, hinv'⟩
      case hne => refine neN ?_; omega
    · obtain ⟨c, e1, hinv'⟩ := sp_other (K := Str.ofString ",") hinv (by decide +kernel) (by omega) (by assumption) (by assumption)
      exact while_end [_, _] (x.length - (i + 1)) (by k_asm) (by k_asm) (fun p hp => hp) (by omega) ⟨R, C, _, _, _, _, i + 1, _, dn, _, rfl, hRC, rfl, rfl, rfl, rfl, rfl, hrs, strs1 hcs e1, hinv'⟩
    · have hfin := hinv.fin (by omega)
      exact done1 N (by k_asm) (by k_asm) hret ⟨R, _, _, rfl, rfl, by rw [hfin, List.map_append]; exact strs_push hrs⟩ (by assumption) (by k_asm) (by k_asm)
  · have hx0 : cl x = [] := List.length_eq_zero_iff.mp (by rw [cl_len]; omega)
    refine done2 N (by k_asm) (by k_asm) hret ⟨_, _, _, rfl, rfl, ?_⟩ (by assumption) (by k_asm) (by k_asm)
    rw [hx0]
    show StrsAre [Value.str (Str.ofString "") _] [unescS ⟨#[]⟩]
    rw [show unescS ⟨#[]⟩ = Str.ofString "" from by decide +kernel]
    exact .cons _ _ .nil
set_option maxHeartbeats 8000000 in
theorem ctr_semis (x : Str) (t : Tok) (hx : x.length ≤ 8) : Ctr 5 33 [.str x t] (fun v own => ∃ l ws n, v = .ref l ∧ own = [(l, W.listOf ws n)] ∧ StrsAre ws.toList ((splP 59 (cl x)).map fun p => unescS ⟨p.toArray⟩)) := by
  unfold Ctr
  k_fill
  intro w mg mb mean news dp un gd cn cs a ccd cl' outer A₀ base h₀ L m s Q E B F X N T hk hd hu htk hret
  refine with_tk htk ?_
  refine wpAny_call ?_
  k_dflt (walk_at "mine enter")
  k_steps
  · refine Stop.mk ?_
    refine While_inv2 (SpJ x t 59) (by k_asm) (by k_asm) ⟨_, _, #[], #[], 0, 0, 0, _, [], [], rfl, ?_, rfl, rfl, rfl, rfl, rfl, .nil, .nil, SpInv.start x 59⟩ ?_
    · refine neN ?_; omega
    rintro n m₁ news₁ h₁ tk₁ F₁ N₁ ⟨R, C, rs, cs, nR, nC, i, ti, dn, cur, rfl, hRC, rfl, ht, hr, hc, hi, hrs, hcs, hinv⟩
    have F₂ := fr_put4 F₁ ht hr hc hi
    clear F₁
    have hle := hinv.le
    have hcu := hinv.cu
    have hnn := hinv.nn
    have hrl : rs.size ≤ 8 := by have := Mine.StrsAre.len hrs; simp at this; omega
    have hcl : cs.size ≤ 8 := by have := Mine.StrsAre.len hcs; simp at this; omega
    k_steps
    · obtain ⟨d, e1, e2, hinv'⟩ := sp_bs hinv (by assumption) (by omega)
      exact while_end [_, _] (x.length - (i + 2)) (by k_asm) (by k_asm) (fun p hp => hp) (by omega) ⟨R, C, _, _, _, _, i + 2, _, dn, _, rfl, hRC, rfl, rfl, rfl, rfl, rfl, hrs, strs2 hcs e1 e2, hinv'⟩
    · exact (sp_absurd (k := 59) (K := Str.ofString ";") (by decide) (by decide +kernel) (by assumption) (by assumption)).elim
    · obtain ⟨c, e1, hinv'⟩ := sp_last (K := Str.ofString ";") hinv (by decide +kernel) (by omega) (by omega) (by assumption)
      exact while_end [_, _] (x.length - (i + 1)) (by k_asm) (by k_asm) (fun p hp => hp) (by omega) ⟨R, C, _, _, _, _, i + 1, _, dn, _, rfl, hRC, rfl, rfl, rfl, rfl, rfl, hrs, strs1 hcs e1, hinv'⟩
    · have hinv' := sp_mark (K := Str.ofString ";") hinv (by decide) (by decide +kernel) (by omega) (by assumption)
      refine while_end3 (x.length - (i + 1)) (by k_asm) (by k_asm) (by omega) ⟨R, _, _, #[], _, 0, i + 1, _, dn ++ [cur], [], rfl, ?hne, rfl, rfl, rfl, rfl, rfl, by rw [List.map_append]; exact strs_push hrs, .nil, hinv'⟩
      case hne => refine neN ?_; omega
    · obtain ⟨c, e1, hinv'⟩ := sp_other (K := Str.ofString ";") hinv (by decide +kernel) (by omega) (by assumption) (by assumption)
      exact while_end [_, _] (x.length - (i + 1)) (by k_asm) (by k_asm) (fun p hp => hp) (by omega) ⟨R, C, _, _, _, _, i + 1, _, dn, _, rfl, hRC, rfl, rfl, rfl, rfl, rfl, hrs, strs1 hcs e1, hinv'⟩
    · have hfin := hinv.fin (by omega)
      exact done1 N (by k_asm) (by k_asm) hret ⟨R, _, _, rfl, rfl, by rw [hfin, List.map_append]; exact strs_push hrs⟩ (by assumption) (by k_asm) (by k_asm)
  · have hx0 : cl x = [] := List.length_eq_zero_iff.mp (by rw [cl_len]; omega)
    refine done2 N (by k_asm) (by k_asm) hret ⟨_, _, _, rfl, rfl, ?_⟩ (by assumption) (by k_asm) (by k_asm)
    rw [hx0]
    show StrsAre [Value.str (Str.ofString "") _] [unescS ⟨#[]⟩]
    rw [show unescS ⟨#[]⟩ = Str.ofString "" from by decide +kernel]
    exact .cons _ _ .nil
end Mine
end

section
open PySem PySem.W PySem.Calls PyProof.Rows
set_option Elab.async false
set_option maxRecDepth 100000
namespace Mine
/-- the walk starts anew: no line and no hit of an earlier text -/
theorem anew_C6 : True := by w_top off; k_with_none; trivial
local macro_rules | `(tactic| walk_at "call builtin:str.replace") => `(tactic| (k_here; (with_reducible show wpAny _ _ (call (Value.builtin "str.replace") [Value.str _ _, Value.str _ _, Value.str _ _]) _ _ _); (refine my_replace ?ka ?kb ?kc ?kd ?kw ?ke ?kg ?kf ?_); (case kw => decide); (case kg => (dsimp only; omega)); (case ka => (show @Ne Nat _ _; omega)); (case kb => (show @Ne Nat _ _; omega)); (case kc => (show @Ne Nat _ _; omega)); (case kd => decide); (case ke => decide); (case kf => omega); intro _ _ _ _))
local macro_rules | `(tactic| walk_at "execs cons") => `(tactic| (k_here; (refine gentoks_pos ?_); intro _ _))
local macro_rules | `(tactic| walk_at "execs cons") => `(tactic| (k_here; (refine execs_tk ?_ ?_); (first | assumption | (dsimp only; omega)); (try dsimp only)))
local macro_rules | `(tactic| walk_at "forall") => `(tactic| (k_here; (with_reducible show 0 < _ → _); intro _))
local macro_rules | `(tactic| walk_at "eval ListComp") => `(tactic| (k_here; k_dflt (refine my_comp (by k_asm) (by with_unfolding_all rfl) (by decide) (by rfl) (by decide) (by rfl) ?_)))
local macro_rules | `(tactic| walk_at "call builtin:str.split") => `(tactic| (k_here; (with_reducible show wpAny _ _ (call (Value.builtin "str.split") [Value.str _ _, Value.str _ _]) _ _ _); (refine KSpl.split1 (by k_asm) (by k_asm) (by decide) ?_ ?ks); (case ks => (rw [sizeLine_eq]; omega)); intro _ _ _ _ _ _ _ _ _))
local macro_rules | `(tactic| walk_at "mine enter") => `(tactic| (refine' enter0 ?k1 ?k2 ?k3 ?k5 ?kA ?kF ?kK ?k6 ?k7 ?k8 ?k9 ?kB ?_ ?c2 ?c3 ?c4 ?c5; (case kA => exact rfl); (case kF => exact rfl); (case kK => first | exact rfl | assumption); (case k1 => k_asm); (case k2 => k_asm); (case k3 => k_asm); (case k5 => k_asm); (case k6 => k_is); (case k7 => k_is); (case k8 => ktr_room); (case k9 => first | exact BindsTo.of_eq rfl | exact binds_K (by k_in) rfl (by k_is) rfl rfl rfl); (case c5 => decide); (case kB => exact locs rfl); (case c2 => exact rfl); (case c3 => exact rfl); (case c4 => exact rfl); k_whole; intro L' h' F' N' B' X' T'; (try dsimp only); (try k_lift B'); (try k_fold)))
local macro_rules | `(tactic| walk_at "exec For Name Name cons nil") => `(tactic| (k_here; (rename Fr _ _ _ _ => lF'); (with_unfolding_all refine' For_invVF lF' ?k1 ?k2 ?_; (case k1 => exact rfl); (case k2 => exact rfl); k_whole)))
local macro_rules | `(tactic| walk_at "OwnPost") => `(tactic| (dsimp only [OwnPost]))

local macro_rules | `(tactic| walk_at "pyIter ref") => `(tactic| (k_here; (with_reducible show wpAny _ _ (pyIter (Value.ref _)) (fun it s₂ => PairAt3 _ _ _ _ _ _ _ _ _ _ it s₂) _ _); refine Stop.go ?_))
local macro_rules | `(tactic| k_all) => `(tactic| assumption)
theorem truthy_q {prog : Program} {w : World} {A : Around} {E : Value → Shared → Prop} {s : Shared} {v : Value} {q : Bool} {Q : Bool → Shared → Prop} (h : AsBool v q) (hq : Q q s) : wpAny (model prog w) A (truthy v) Q E s := by
  rcases h with rfl | ⟨rfl, t, rfl⟩
  · exact wpAny_truthy_bool hq
  · exact PySem.P.truthy_int (by simpa using hq)
theorem ls3_brk {h₀ : Heap} {L : Addr} {own news₁ : List (Addr × Obj)} {Jn : (Str → Option Value) → List (Addr × Obj) → Prop} {s₁ s₂ : Shared} {Qr : Value → Shared → Prop} {Qb : Shared → Prop} (h : Qb s₂) : LoopStep3 h₀ L own news₁ Jn s₁ Qr Qb .brk s₂ := h
theorem ls3_next {h₀ h' : Heap} {L : Addr} {a : Addr × Obj} {own news₁ : List (Addr × Obj)} {Jn : (Str → Option Value) → List (Addr × Obj) → Prop} {s₁ : Shared} {Qr : Value → Shared → Prop} {Qb : Shared → Prop} {m₂ : Str → Option Value} {tk : Nat}
    (F : Fr h₀ L h' m₂) (N : News h₀ L h' (a :: own)) (ha : [a].map (·.1) = news₁.map (·.1)) (hj : Jn m₂ [a]) : Stop (LoopStep3 h₀ L own news₁ Jn s₁ Qr Qb .next { s₁ with heap := h', toks := tk }) :=
  ⟨⟨rfl, h', tk, m₂, [a], rfl, F, news_back N, ha, hj⟩⟩
theorem doneH {h₀ h' : Heap} {L L' : Addr} {m m' : Str → Option Value} {news own : List (Addr × Obj)} {s : Shared} {tk' : Nat} {Q : Value → Shared → Prop} {v : Value} {P : Value → List (Addr × Obj) → Prop} {a : Addr × Obj} (N : News h₀ L s.heap news) (F' : Fr s.heap L' h' m') (N' : News s.heap L' h' (a :: own))
    (hret : ∀ v own h' tk', P v own → 0 < tk' → Fr h₀ L h' m → News h₀ L h' (own ++ news) → (∀ q ∈ own, ∀ p ∈ news, p.1 ≠ q.1) → Q v { s with heap := h', toks := tk' })
    (hP : P v [a]) (ht : 0 < tk') (kF : Fr h₀ L h' m) (kN : News h₀ L h' (a :: own)) : Q v { s with heap := h', toks := tk' } :=
  done0 (own := [a]) N F' N' hret hP (by simp) ht kF kN
local macro_rules | `(tactic| walk_at "truthy") => `(tactic| (k_here; (refine truthy_q (by assumption) ?_)))
local macro_rules | `(tactic| walk_at "LoopStep3") => `(tactic| (first | (with_reducible refine ls3_brk ?_) | refine Stop.go ?_))
def qsS (k : Nat) (x : Str) : List Str := if x.length = 0 then [] else (qs k false (cl x)).map mk
theorem qs_first (x : Str) : 0 < x.length ∨ (x.length = 0 ∧ (0 : Nat) = 0 ∧ (#[] : Array Value) = #[]) := by
  by_cases e : x.length = 0
  · exact .inr ⟨e, rfl, rfl⟩
  · exact .inl (by omega)
/-- where the loop of q_split stands -/
def QsJ (x K : Str) (t t2 : Tok) (k : Nat) (R : Addr) (i : Nat) (m : Str → Option Value) (news : List (Addr × Obj)) : Prop :=
  ∃ (rs : Array Value) (nR cu : Nat) (tc : Tok) (q : Bool) (vq : Value) (sp : Nat) (ts tl tm : Tok) (dn : List (List Nat)),
    news = [(R, W.listOf rs nR)] ∧ m (Str.ofString "st") = some (.str x t) ∧ m (Str.ofString "sep") = some (.str K t2) ∧ m (Str.ofString "maxsplit") = some (.int (-1) tm) ∧ m (Str.ofString "result") = some (.ref R) ∧
    m (Str.ofString "cursor") = some (.int (cu : Int) tc) ∧ m (Str.ofString "length") = some (.int (x.length : Int) tl) ∧ m (Str.ofString "inquote") = some vq ∧ m (Str.ofString "splits") = some (.int (sp : Int) ts) ∧
    AsBool vq q ∧ StrsAre rs.toList (dn.map mk) ∧ QsInv x k i cu q dn ∧ (i < x.length ∨ (x.length = 0 ∧ i = 0 ∧ rs = #[]))
theorem sign_at {x : Str} {i : Nat} {a : Str} (h : (signs x)[i]? = some a) : ∃ c, (cl x)[i]? = some c ∧ a = ⟨#[c]⟩ := by
  simp only [signs, List.getElem?_map, Option.map_eq_some_iff] at h
  obtain ⟨c, h1, h2⟩ := h
  exact ⟨c, h1, h2.symm⟩
set_option maxHeartbeats 8000000 in
theorem ctr_qs (x K : Str) (k : Nat) (hK : K = ⟨#[k]⟩) (hk34 : k ≠ 34) (t t2 : Tok) (hx : x.length ≤ 8) : Ctr 5 41 [.str x t, .str K t2] (fun v own => ∃ l ws n, v = .ref l ∧ own = [(l, W.listOf ws n)] ∧ StrsAre ws.toList (qsS k x)) := by
  unfold Ctr
  k_fill
  intro w mg mb mean news dp un gd cn cs a ccd cl' outer A₀ base h₀ L m s Q E B F X N T hk hd hu htk hret
  refine with_tk htk ?_
  refine wpAny_call ?_
  k_dflt (walk_at "mine enter")
  k_steps
  rename PairSrcL _ _ _ _ _ _ _ _ _ _ _ _ => S
  rename News s.heap _ _ [(_, W.listOf #[] 0)] => NN
  refine Stop.mk ?_
  refine (PairSrcL.at S _ rfl) _ _ _ _ (QsJ x K t t2 k _) ⟨#[], 0, 0, _, false, _, 0, _, _, _, [], rfl, rfl, rfl, rfl, rfl, rfl, rfl, rfl, rfl, .inr ⟨rfl, _, rfl⟩, .nil, QsInv.start x k, qs_first x⟩ ?_ ?_
  · rintro i a t3 v m₁ news₁ s₁ own ⟨h, tk, rfl⟩ hget hv ⟨rs, nR, cu, tc, q, vq, sp, ts, tl, tm, dn, rfl, hst, hsep, hmax, hres, hcur, hlen, hinq, hsp, hvq, hrs, hinv, hilt0⟩ hadr hoff F₁ N₁
    obtain ⟨c, hc, rfl⟩ := sign_at hget
    have hilt := lt_of_get hc
    clear hilt0
    have hqs : qsS k x = (qs k false (cl x)).map mk := if_neg (by omega)
    obtain ⟨t4, rfl⟩ := ItemKind.str_is hv
    have F₂ := fr_under2 [(Str.ofString "st", .str x t), (Str.ofString "sep", .str K t2), (Str.ofString "maxsplit", .int (-1) tm), (Str.ofString "result", .ref _), (Str.ofString "cursor", .int (cu : Int) tc), (Str.ofString "length", .int (x.length : Int) tl), (Str.ofString "inquote", vq), (Str.ofString "splits", .int (sp : Int) ts)] F₁ (by
      intro p hp
      simp only [List.mem_cons, List.not_mem_nil, or_false] at hp
      rcases hp with rfl | rfl | rfl | rfl | rfl | rfl | rfl | rfl <;> assumption)
    clear F₁
    have NR := news_swap N₁
    have hoffR := fun p hp => hoff p hp _ List.mem_cons_self
    dsimp only at hoffR
    clear N₁ hoff hadr S NN
    have hcu := hinv.le
    have hnn := hinv.nn
    have hrl : rs.size ≤ 8 := by have := Mine.StrsAre.len hrs; simp at this; omega
    by_cases h34 : c = 34
    · subst h34
      have eK := sign_ne (k := K) (c := 34) hK (Ne.symm hk34)
      have hinv' := hinv.other hc (fun e => hk34 e.2.symm)
      k_steps
      · exact doneH N (by k_asm) (by k_asm) hret ⟨_, _, _, rfl, rfl, by rw [hqs]; exact qs_last rfl hinv' (by assumption) hrs⟩ (by first | assumption | omega) (by k_asm) (by k_asm)
      · omega
      · exact ls3_next (by k_asm) (by k_asm) (by rfl) ⟨_, _, cu, _, _, _, sp, _, _, _, dn, rfl, rfl, rfl, rfl, rfl, rfl, rfl, rfl, rfl, .inl rfl, hrs, hinv', .inl (by omega)⟩
      · exact doneH N (by k_asm) (by k_asm) hret ⟨_, _, _, rfl, rfl, by rw [hqs]; exact qs_last rfl hinv' (by assumption) hrs⟩ (by first | assumption | omega) (by k_asm) (by k_asm)
      · omega
      · exact ls3_next (by k_asm) (by k_asm) (by rfl) ⟨_, _, cu, _, _, _, sp, _, _, _, dn, rfl, rfl, rfl, rfl, rfl, rfl, rfl, rfl, rfl, .inl rfl, hrs, hinv', .inl (by omega)⟩
    · have e34 := sign_ne (k := Str.ofString "\"") (c := c) (by decide +kernel) h34
      have hqf : qf q c = q := if_neg h34
      k_steps
      · have hinv' := hinv.other hc (fun e => by rw [hqf] at e; simp_all)
        exact doneH N (by k_asm) (by k_asm) hret ⟨_, _, _, rfl, rfl, by rw [hqs]; exact qs_last rfl hinv' (by assumption) hrs⟩ (by first | assumption | omega) (by k_asm) (by k_asm)
      · omega
      · have hinv' := hinv.other hc (fun e => by rw [hqf] at e; simp_all)
        rw [hqf] at hinv'
        exact ls3_next (by k_asm) (by k_asm) (by rfl) ⟨_, _, cu, _, _, _, sp, _, _, _, dn, rfl, rfl, rfl, rfl, rfl, rfl, rfl, rfl, rfl, hvq, hrs, hinv', .inl (by omega)⟩
      · have hinv' := hinv.mark hc (by rw [hqf]; assumption) (is_mark hK (by assumption))
        exact doneH N (by k_asm) (by k_asm) hret ⟨_, _, _, rfl, rfl, by rw [hqs]; exact qs_last (cu := i + 1) (by omega) hinv' (by assumption) (qs_mid hinv hilt hrs)⟩ (by first | assumption | omega) (by k_asm) (by k_asm)
      · omega
      · have hinv' := hinv.mark hc (by rw [hqf]; assumption) (is_mark hK (by assumption))
        rw [hqf] at hinv'
        exact ls3_next (by k_asm) (by k_asm) (by rfl) ⟨_, _, i + 1, _, _, _, sp + 1, _, _, _, _, rfl, rfl, rfl, rfl, rfl, rfl, rfl, rfl, rfl, hvq, qs_mid hinv hilt hrs, hinv', .inl (by omega)⟩
      · have hinv' := hinv.other hc (fun e => not_mark hK (by assumption) e.2)
        exact doneH N (by k_asm) (by k_asm) hret ⟨_, _, _, rfl, rfl, by rw [hqs]; exact qs_last rfl hinv' (by assumption) hrs⟩ (by first | assumption | omega) (by k_asm) (by k_asm)
      · omega
      · have hinv' := hinv.other hc (fun e => not_mark hK (by assumption) e.2)
        rw [hqf] at hinv'
        exact ls3_next (by k_asm) (by k_asm) (by rfl) ⟨_, _, cu, _, _, _, sp, _, _, _, dn, rfl, rfl, rfl, rfl, rfl, rfl, rfl, rfl, rfl, hvq, hrs, hinv', .inl (by omega)⟩
  · rintro h' tk m' news' F₁ N₁ hadr ⟨rs, nR, cu, tc, q, vq, sp, ts, tl, tm, dn, rfl, hst, hsep, hmax, hres, hcur, hlen, hinq, hsp, hvq, hrs, hinv, hilt⟩
    have h0 : x.length = 0 ∧ rs = #[] := by
      rcases hilt with h | ⟨h1, _, h2⟩
      · exact absurd h (by rw [signs_length]; omega)
      · exact ⟨h1, h2⟩
    have F₂ := fr_puts [(Str.ofString "result", .ref _)] F₁ (by
      intro p hp
      simp only [List.mem_cons, List.not_mem_nil, or_false] at hp
      rcases hp with rfl
      assumption)
    clear F₁
    k_steps
    exact doneH N (by k_asm) (by k_asm) hret ⟨_, _, _, rfl, rfl, by rw [h0.2, qsS, if_pos h0.1]; exact .nil⟩ (by first | assumption | omega) (by k_asm) (by k_asm)
end Mine
end

section
open PySem PySem.StrLaws PySem.Builtin.Str PyProof.Rows
set_option Elab.async false
namespace Mine
theorem rep_le (x y z : Str) (n : Nat) (hx : x.length ≤ n) (hy : 1 ≤ y.length) (hz : z.length ≤ 2) : (Txt.replace x y z).length ≤ 3 * n := by
  have h := replace_len x y z hy
  have h2 : x.length * (z.length + 1) ≤ n * 3 := Nat.mul_le_mul hx (by omega)
  omega
theorem escS_len (x : Str) (hx : x.length ≤ 8) : (escS x).length ≤ 300000 := by
  have h := rep_le _ (Str.ofString "\r") (Str.ofString "\\n") _ (rep_le _ (Str.ofString "\n") (Str.ofString "\\n") _ (rep_le _ (Str.ofString "\r\n") (Str.ofString "\\n") _ (rep_le _ (Str.ofString ",") (Str.ofString "\\,") _ (rep_le _ (Str.ofString ";") (Str.ofString "\\;") _ (rep_le _ (Str.ofString "\\") (Str.ofString "\\\\") _ (rep_le x (Str.ofString "\\N") (Str.ofString "\n") 8 hx (by decide) (by decide)) (by decide) (by decide)) (by decide) (by decide)) (by decide) (by decide)) (by decide) (by decide)) (by decide) (by decide)) (by decide) (by decide)
  exact Nat.le_trans h (by decide)
theorem join_le {sep : Str} (hs : sep.length ≤ 1) (l : List Str) : (Txt.join sep l).length ≤ (l.map (·.length)).sum + l.length := by
  show (Builtin.Str.glued sep l).length ≤ _
  rw [glued_eq_join]
  have h := StrLaws.join_length_le sep l
  have h2 : l.length * sep.length ≤ l.length * 1 := Nat.mul_le_mul_left _ hs
  omega
theorem unescS_len (x : Str) (hx : x.length ≤ 32) : (unescS x).length ≤ 300000 := by
  have hl := split_bs_len x
  have h1 := map_weight_le (g := bsS) (B := 7776) (Txt.split x (Str.ofString "\\\\")) (fun p hp => by have := bsS_len p; have := hl.2 p hp; omega)
  have h2 := join_le (sep := Str.ofString "\\") (by decide) ((Txt.split x (Str.ofString "\\\\")).map bsS)
  show (Txt.join _ _).length ≤ _
  omega
theorem uncarS_len (x : Str) (hx : x.length ≤ 32) : (uncarS x).length ≤ 300000 := by
  have hl := split_cr_len x
  have h1 := map_weight_le (g := crS) (B := 128) (Txt.split x (Str.ofString "^^")) (fun p hp => by have := crS_len p; have := hl.2 p hp; omega)
  have h2 := join_le (sep := Str.ofString "^") (by decide) ((Txt.split x (Str.ofString "^^")).map crS)
  show (Txt.join _ _).length ≤ _
  omega
theorem carS_len (x : Str) (hx : x.length ≤ 8) : (carS x).length ≤ 300000 := by
  have h1 := sum_le_two carG_len (Txt.replace x (Str.ofString "\r\n") (Str.ofString "\n")).cps.toList
  have h2 := rep_le x (Str.ofString "\r\n") (Str.ofString "\n") 8 hx (by decide) (by decide)
  have h4 : (Txt.replace x (Str.ofString "\r\n") (Str.ofString "\n")).cps.toList.length = (Txt.replace x (Str.ofString "\r\n") (Str.ofString "\n")).length := by simp [Str.length]
  have h3 := join_le (sep := Str.ofString "") (by decide) ((Txt.replace x (Str.ofString "\r\n") (Str.ofString "\n")).cps.toList.map carG)
  show (Txt.join _ _).length ≤ _
  omega
end Mine
end

section
open PySem PySem.W PySem.Calls PyProof.Rows PyProof.V PySem.Spec PySem.SeqAt
set_option Elab.async false
set_option maxRecDepth 100000
namespace Mine
theorem readsAll_strs {h : Heap} : ∀ {vs : List Value} {ns : List Str}, StrsAre vs ns → ReadsAll h vs (ns.map PyData.str) []
  | _, _, .nil => .nil
  | _, _, .cons k t r => by
    have := ReadsAll.cons (Reads.str (h := h) k t) (readsAll_strs (h := h) r)
    simpa using this
theorem readsAll_bools {h : Heap} : ∀ (bs : List Bool), ReadsAll h (bs.map Value.bool) (bs.map PyData.bool) []
  | [] => .nil
  | b :: r => by
    have := ReadsAll.cons (Reads.bool (h := h) b) (readsAll_bools (h := h) r)
    simpa using this
theorem shaped_strs (ns : List Str) (hk : ∀ x ∈ ns, PyData.strOk x = true) : shaped (.list (ns.map PyData.str)) = true := by
  have h1 : ∀ ns : List Str, PyData.depthAll (ns.map PyData.str) ≤ 1 := by
    intro ns
    induction ns with
    | nil => simp [PyData.depthAll]
    | cons n r ih => simp only [List.map_cons, PyData.depthAll, PyData.depth]; omega
  have h2 : PyData.depth (.list (ns.map PyData.str)) ≤ 64 := by have := h1 ns; simp only [PyData.depth]; omega
  have h3 : ∀ ns : List Str, (∀ x ∈ ns, PyData.strOk x = true) → PyData.canLayAll0 (ns.map PyData.str) = true := by
    intro ns hk
    induction ns with
    | nil => simp [PyData.canLayAll0]
    | cons n r ih => simp [PyData.canLayAll0, PyData.canLay0, hk n (.head _), ih fun x hx => hk x (.tail _ hx)]
  show (PyData.canLay0 (.list (ns.map PyData.str)) && decide (PyData.depth (.list (ns.map PyData.str)) ≤ 64)) = true
  rw [Bool.and_eq_true]
  exact ⟨by simp only [PyData.canLay0]; exact h3 ns hk, decide_eq_true h2⟩
theorem shaped_bools (ns : List Bool) : shaped (.list (ns.map PyData.bool)) = true := by
  have h1 : ∀ ns : List Bool, PyData.depthAll (ns.map PyData.bool) ≤ 1 := by
    intro ns
    induction ns with
    | nil => simp [PyData.depthAll]
    | cons n r ih => simp only [List.map_cons, PyData.depthAll, PyData.depth]; omega
  have h2 : PyData.depth (.list (ns.map PyData.bool)) ≤ 64 := by have := h1 ns; simp only [PyData.depth]; omega
  have h3 : ∀ ns : List Bool, PyData.canLayAll0 (ns.map PyData.bool) = true := by
    intro ns
    induction ns with
    | nil => simp [PyData.canLayAll0]
    | cons n r ih => simp [PyData.canLayAll0, PyData.canLay0, ih]
  show (PyData.canLay0 (.list (ns.map PyData.bool)) && decide (PyData.depth (.list (ns.map PyData.bool)) ≤ 64)) = true
  rw [Bool.and_eq_true]
  exact ⟨by simp only [PyData.canLay0]; exact h3 ns, decide_eq_true h2⟩
theorem noMix_strs : ∀ ns ms : List Str, noMixAll (ns.map PyData.str) (ms.map PyData.str) = true
  | [], [] => by simp [noMixAll]
  | [], _ :: _ => by simp [noMixAll]
  | _ :: _, [] => by simp [noMixAll]
  | _ :: r, _ :: q => by simp [noMixAll, noMix, noMix_strs r q]
theorem noMix_bools : ∀ ns ms : List Bool, noMixAll (ns.map PyData.bool) (ms.map PyData.bool) = true
  | [], [] => by simp [noMixAll]
  | [], _ :: _ => by simp [noMixAll]
  | _ :: _, [] => by simp [noMixAll]
  | _ :: r, _ :: q => by simp [noMixAll, noMix, noMix_bools r q]
theorem same_strs : ∀ ns ms : List Str, PySem.Spec.sameAll (ns.map PyData.str) (ms.map PyData.str) = (ns == ms)
  | [], [] => by simp [PySem.Spec.sameAll]
  | [], _ :: _ => by simp [PySem.Spec.sameAll]
  | _ :: _, [] => by simp [PySem.Spec.sameAll]
  | n :: r, k :: q => by
    simp only [List.map_cons, PySem.Spec.sameAll, PySem.Spec.same, same_strs r q, List.cons_beq_cons]
theorem same_bools : ∀ ns ms : List Bool, PySem.Spec.sameAll (ns.map PyData.bool) (ms.map PyData.bool) = (ns == ms)
  | [], [] => by simp [PySem.Spec.sameAll]
  | [], _ :: _ => by simp [PySem.Spec.sameAll]
  | _ :: _, [] => by simp [PySem.Spec.sameAll]
  | n :: r, k :: q => by
    simp only [List.map_cons, PySem.Spec.sameAll, PySem.Spec.same, same_bools r q, List.cons_beq_cons]
section
variable {prog : Program} {w : World} {A : Around} {E : Value → Shared → Prop} {s : Shared} {h₀ : Heap} {L : Addr} {m : Str → Option Value} {news : List (Addr × Obj)}
theorem is_listOf (N : News h₀ L s.heap news) {a : Addr} {xs : Array Value} {k : Nat} (ma : (a, W.listOf xs k) ∈ news) : s.heap.IsList a xs.toList.toArray := by
  rw [Array.toArray_toList]
  exact ⟨_, N.get ma, rfl, k, rfl⟩
theorem reads_strs {h : Heap} {a : Addr} {vs : List Value} {ns : List Str} (hl : h.IsList a vs.toArray) (hi : StrsAre vs ns) : Reads h (.ref a) (.list (ns.map PyData.str)) [a] := by
  obtain ⟨o, ho, hc, n, hd⟩ := hl
  exact Reads.list ho hc hd (by simpa using readsAll_strs hi)
theorem reads_bools {h : Heap} {a : Addr} {ns : List Bool} (hl : h.IsList a (ns.map Value.bool).toArray) : Reads h (.ref a) (.list (ns.map PyData.bool)) [a] := by
  obtain ⟨o, ho, hc, n, hd⟩ := hl
  exact Reads.list ho hc hd (by simpa using readsAll_bools ns)
theorem eq_strs {a b : Addr} {xs ys : Array Value} {ka kb : Nat} {ds es : List Str} {Q : Value → Shared → Prop} (N : News h₀ L s.heap news) (sa : StrsAre xs.toList ds) (sb : StrsAre ys.toList es)
    (ma : (a, W.listOf xs ka) ∈ news) (mb : (b, W.listOf ys kb) ∈ news) (da : ∀ x ∈ ds, PyData.strOk x = true) (db : ∀ x ∈ es, PyData.strOk x = true) (hu : A.units + 64 < cLine)
    (h : Q (.bool (ds == es)) s) : wpAny (model prog w) A (compareOp .Eq (.ref a) (.ref b)) Q E s :=
  eq_dataH_same (reads_strs (is_listOf N ma) sa) (reads_strs (is_listOf N mb) sb) (shaped_strs ds da) (shaped_strs es db) hu (by simp only [noMix]; exact noMix_strs ds es) (by simp only [PySem.Spec.same]; rw [same_strs]; exact h)
theorem eq_bools {a b : Addr} {xs ys : Array Value} {ka kb : Nat} {ds es : List Bool} {Q : Value → Shared → Prop} (N : News h₀ L s.heap news) (sa : xs.toList = ds.map Value.bool) (sb : ys.toList = es.map Value.bool)
    (ma : (a, W.listOf xs ka) ∈ news) (mb : (b, W.listOf ys kb) ∈ news) (hu : A.units + 64 < cLine)
    (h : Q (.bool (ds == es)) s) : wpAny (model prog w) A (compareOp .Eq (.ref a) (.ref b)) Q E s :=
  eq_dataH_same (reads_bools (ns := ds) (sa ▸ is_listOf N ma)) (reads_bools (ns := es) (sb ▸ is_listOf N mb)) (shaped_bools ds) (shaped_bools es) hu (by simp only [noMix]; exact noMix_bools ds es) (by simp only [PySem.Spec.same]; rw [same_bools]; exact h)
theorem add_strs {a b : Addr} {xs ys : Array Value} {ka kb : Nat} {ds es : List Str} {Q : Value → Shared → Prop} (F : Fr h₀ L s.heap m) (N : News h₀ L s.heap news) (sa : StrsAre xs.toList ds) (sb : StrsAre ys.toList es)
    (ma : (a, W.listOf xs ka) ∈ news) (mb : (b, W.listOf ys kb) ∈ news) (hz : ds.length + es.length ≤ 1000)
    (h : ∀ D us h', Fr h₀ L h' m → News h₀ L h' ((D, W.listOf us 0) :: news) → (∀ p ∈ news, p.1 ≠ D) → StrsAre us.toList (ds ++ es) → Q (.ref D) { s with heap := h' }) :
    wpAny (model prog w) A (binaryOp .Add (.ref a) (.ref b)) Q E s := by
  refine add_lists F N (is_listOf N ma) (is_listOf N mb) (fun h' F' N' => h _ (xs.toList ++ ys.toList).toArray h' F' N' (fun p hp => Nat.ne_of_lt (Heap.lt_size (N p hp).1)) (by simpa using sa.append' sb)) ?_
  rw [StrsAre.len sa, StrsAre.len sb, sizeLine_eq]; omega
end
end Mine
end

section
open PySem PySem.StrLaws PySem.Builtin.Str PyProof.Rows
set_option Elab.async false
namespace Mine
/-- reading: a sign that stands after the mark, and that `f` names, is read as `f` says -/
def rd (m : Nat) (f : Nat → Option Nat) : List Nat → List Nat
  | [] => []
  | [c] => [c]
  | c :: d :: r => if c = m then (match f d with
      | some e => e :: rd m f r
      | none => c :: rd m f (d :: r)) else c :: rd m f (d :: r)
/-- no mark is open at the end -/
def evn (m : Nat) : List Nat → Bool
  | [] => true
  | [c] => c != m
  | c :: d :: r => if c = m then evn m r else evn m (d :: r)

section
variable {m : Nat} {f : Nat → Option Nat}
theorem rd_ne {c : Nat} (h : c ≠ m) (r : List Nat) : rd m f (c :: r) = c :: rd m f r := by
  cases r with
  | nil => simp [rd]
  | cons d r => rw [rd, if_neg h]
theorem rd_some {d e : Nat} (h : f d = some e) (r : List Nat) : rd m f (m :: d :: r) = e :: rd m f r := by
  rw [rd, if_pos rfl, h]
theorem rd_none {d : Nat} (h : f d = none) (r : List Nat) : rd m f (m :: d :: r) = m :: rd m f (d :: r) := by
  rw [rd, if_pos rfl, h]
def hh (m : Nat) (f : Nat → Option Nat) (d : Nat) : List Nat := match f d with
  | some e => [e]
  | none => [m, d]
theorem rd_two (hm : f m = some m) (d : Nat) (r : List Nat) : rd m f (m :: d :: r) = hh m f d ++ rd m f r := by
  unfold hh
  cases h : f d with
  | some e => rw [rd_some h]; rfl
  | none =>
    have : d ≠ m := fun q => by rw [q, hm] at h; cases h
    rw [rd_none h, rd_ne this]; rfl

theorem evn_snoc (c : Nat) : ∀ (n : Nat) (a : List Nat), a.length < n → evn m (a ++ [c]) = if c = m then !evn m a else true := by
  intro n
  induction n with
  | zero => intro a h; omega
  | succ n ih =>
    intro a h
    match a with
    | [] => by_cases q : c = m <;> simp [evn, q]
    | [x] =>
      by_cases q : c = m <;> by_cases p : x = m <;> simp [evn, q, p]
    | x :: y :: r =>
      simp only [List.cons_append, evn]
      by_cases p : x = m
      · rw [if_pos p, if_pos p]; exact ih r (by simp at h; omega)
      · rw [if_neg p, if_neg p]; exact ih (y :: r) (by simp at h ⊢; omega)
theorem evn_rev : ∀ l : List Nat, evn m l.reverse = (runL m l % 2 == 0) := by
  intro l
  induction l with
  | nil => rfl
  | cons c r ih =>
    rw [List.reverse_cons, evn_snoc c _ _ (Nat.lt_succ_self _), ih]
    by_cases q : c = m
    · rw [if_pos q, runL, if_pos q]
      rcases Nat.mod_two_eq_zero_or_one (runL m r) with h | h <;> simp [h, Nat.add_mod]
    · rw [if_neg q, runL, if_neg q]; rfl
theorem evn_run (a : List Nat) : evn m a = (runL m a.reverse % 2 == 0) := by
  have := evn_rev (m := m) a.reverse
  rwa [List.reverse_reverse] at this

theorem rd_even (hm : f m = some m) (b : List Nat) : ∀ (n : Nat) (a : List Nat), a.length < n → evn m a = true → rd m f (a ++ b) = rd m f a ++ rd m f b := by
  intro n
  induction n with
  | zero => intro a h; omega
  | succ n ih =>
    intro a h he
    match a with
    | [] => rfl
    | [c] =>
      have hc : c ≠ m := by simpa [evn] using he
      show rd m f (c :: b) = _
      rw [rd_ne hc]; simp [rd]
    | c :: d :: r =>
      simp only [evn] at he
      simp only [List.cons_append]
      by_cases q : c = m
      · subst q
        rw [if_pos rfl] at he
        rw [rd_two hm, rd_two hm, ih r (by simp at h; omega) he, List.append_assoc]
      · rw [if_neg q] at he
        rw [rd_ne q, rd_ne q]
        have := ih (d :: r) (by simp at h ⊢; omega) he
        rw [List.cons_append] at this
        rw [this]; rfl
theorem rd_odd (hm : f m = some m) : ∀ (n : Nat) (a : List Nat), a.length < n → evn m a = false → ∃ u, rd m f a = u ++ [m] ∧ ∀ b, rd m f (a ++ b) = u ++ rd m f (m :: b) := by
  intro n
  induction n with
  | zero => intro a h; omega
  | succ n ih =>
    intro a h he
    match a with
    | [] => simp [evn] at he
    | [c] =>
      have hc : c = m := by simpa [evn] using he
      subst hc
      exact ⟨[], by simp [rd], fun b => rfl⟩
    | c :: d :: r =>
      simp only [evn] at he
      by_cases q : c = m
      · subst q
        rw [if_pos rfl] at he
        obtain ⟨u, h1, h2⟩ := ih r (by simp at h; omega) he
        refine ⟨hh c f d ++ u, by rw [rd_two hm, h1, List.append_assoc], fun b => ?_⟩
        simp only [List.cons_append]
        rw [rd_two hm, h2, List.append_assoc]
      · rw [if_neg q] at he
        obtain ⟨u, h1, h2⟩ := ih (d :: r) (by simp at h ⊢; omega) he
        refine ⟨c :: u, by rw [rd_ne q, h1]; rfl, fun b => ?_⟩
        have := h2 b
        simp only [List.cons_append] at this ⊢
        rw [rd_ne q, this]

/-- what may stand behind an open mark -/
def cond (m : Nat) (f : Nat → Option Nat) (b : List Nat) : Prop :=
  if runL m b % 2 = 0 then (match b.drop (runL m b) with | [] => True | d :: _ => f d = none)
  else (match b.drop (runL m b) with | [] => False | d :: _ => f d = some d)
theorem cond_two (b : List Nat) : cond m f (m :: m :: b) = cond m f b := by
  have e : runL m (m :: m :: b) = runL m b + 2 := by simp [runL]
  unfold cond
  rw [e]
  simp only [Nat.add_mod_right, List.drop_succ_cons]
theorem rd_cond (hm : f m = some m) : ∀ (n : Nat) (b : List Nat), b.length < n → ((m :: rd m f b = rd m f (m :: b)) ↔ cond m f b) := by
  intro n
  induction n with
  | zero => intro b h; omega
  | succ n ih =>
    intro b h
    match b with
    | [] => simp [rd, cond, runL]
    | d :: r =>
      by_cases q : d = m
      · subst q
        match r with
        | [] => simp [rd, cond, runL, hm]
        | d' :: r =>
          by_cases q' : d' = d
          · subst q'
            rw [cond_two, ← ih r (by simp at h; omega), rd_some hm, rd_some hm]
            constructor
            · intro q; exact (List.cons.inj q).2
            · intro q; rw [q]
          · have e1 : runL d (d :: d' :: r) = 1 := by simp [runL, q']
            rw [rd_some hm, rd_ne q']
            unfold cond
            rw [e1]
            simp only [List.drop_succ_cons, List.drop_zero]
            cases hf : f d' with
            | none => rw [rd_none hf, rd_ne q']; simp
            | some e => rw [rd_some hf]; simp
      · have e1 : runL m (d :: r) = 0 := by simp [runL, q]
        unfold cond
        rw [e1]
        simp only [List.drop_zero]
        cases hf : f d with
        | none => rw [rd_none hf]; simp
        | some e =>
          rw [rd_some hf, rd_ne q]
          constructor
          · intro q; have := congrArg List.length q; simp at this
          · intro q; simp at q
theorem rd_cut (hm : f m = some m) (a b : List Nat) : (rd m f a ++ rd m f b = rd m f (a ++ b)) ↔ (evn m a = true ∨ cond m f b) := by
  cases he : evn m a with
  | true => rw [rd_even hm b _ a (Nat.lt_succ_self _) he]; simp
  | false =>
    obtain ⟨u, h1, h2⟩ := rd_odd hm _ a (Nat.lt_succ_self _) he
    rw [h1, h2, List.append_assoc, List.append_cancel_left_eq, ← rd_cond hm _ b (Nat.lt_succ_self _)]
    simp

theorem rd_free : ∀ (l : List Nat), m ∉ l → rd m f l = l
  | [], _ => rfl
  | c :: r, h => by
    rw [List.mem_cons, not_or] at h
    rw [rd_ne (fun q => h.1 q.symm), rd_free r h.2]
theorem rd_nopair : ∀ (l : List Nat), (∀ i d, l[i]? = some m → l[i + 1]? = some d → f d = none) → rd m f l = l
  | [], _ => rfl
  | [c], _ => rfl
  | c :: d :: r, h => by
    have ih := rd_nopair (d :: r) fun i d' h1 h2 => h (i + 1) d' (by simpa using h1) (by simpa using h2)
    by_cases q : c = m
    · subst q
      rw [rd_none (h 0 d rfl rfl), ih]
    · rw [rd_ne q, ih]
theorem rd_flat {g : Nat → List Nat} (hm : f m = some m) (hg : ∀ c r, rd m f (g c ++ r) = c :: rd m f r) (l : List Nat) : rd m f (l.flatMap g) = l := by
  induction l with
  | nil => rfl
  | cons c r ih => rw [List.flatMap_cons, hg, ih]
theorem rd_map (s : Nat → Nat) (hm : f m = some m) (hs : ∀ c, c ≠ m → s c ≠ m) (hsm : s m = m) (hf : ∀ d, hh m f (s d) = (hh m f d).map s) : ∀ (n : Nat) (l : List Nat), l.length < n → rd m f (l.map s) = (rd m f l).map s := by
  intro n
  induction n with
  | zero => intro l h; omega
  | succ n ih =>
    intro l h
    match l with
    | [] => rfl
    | [c] => rfl
    | c :: d :: r =>
      simp only [List.map_cons]
      by_cases q : c = m
      · subst q
        rw [hsm, rd_two hm, rd_two hm, hf, List.map_append, ih r (by simp at h; omega)]
      · rw [rd_ne (hs c q), rd_ne q, List.map_cons]
        have := ih (d :: r) (by simp at h ⊢; omega)
        rw [List.map_cons] at this
        rw [this]
theorem rd_bound {P : Nat → Prop} (hf : ∀ d e, f d = some e → P e) : ∀ (n : Nat) (l : List Nat), l.length < n → (∀ c ∈ l, P c) → ∀ c ∈ rd m f l, P c := by
  intro n
  induction n with
  | zero => intro l h; omega
  | succ n ih =>
    intro l h hl
    match l with
    | [] => exact hl
    | [c] => exact hl
    | c :: d :: r =>
      have hr := ih r (by simp at h; omega) fun c hc => hl c (List.mem_cons_of_mem _ (List.mem_cons_of_mem _ hc))
      have hdr := ih (d :: r) (by simp at h ⊢; omega) fun c hc => hl c (List.mem_cons_of_mem _ hc)
      have hc := hl c List.mem_cons_self
      rw [rd]
      split
      · split
        · rename_i e he
          intro x hx
          rcases List.mem_cons.mp hx with rfl | hx
          · exact hf _ _ he
          · exact hr x hx
        · intro x hx
          rcases List.mem_cons.mp hx with rfl | hx
          · exact hc
          · exact hdr x hx
      · intro x hx
        rcases List.mem_cons.mp hx with rfl | hx
        · exact hc
        · exact hdr x hx
end

/-- the splits -/
theorem splP_len {k : Nat} (hk : k ≠ 92) (c : Nat) : ∀ (n : Nat) (a : List Nat), a.length < n → (splP k (a ++ [c])).length = (splP k a).length + (if c = k ∧ evn 92 a = true then 1 else 0) := by
  have hp : ∀ (c : Nat) (ps : List (List Nat)), ps ≠ [] → (push c ps).length = ps.length := by
    intro c ps h; cases ps with | nil => exact absurd rfl h | cons p ps => rfl
  intro n
  induction n with
  | zero => intro a h; omega
  | succ n ih =>
    intro a h
    match a with
    | [] => by_cases q : c = k <;> simp [splP, evn, q]
    | [x] =>
      by_cases p : x = 92
      · subst p
        show (splP k (92 :: c :: [])).length = _
        rw [splP_bs, hp _ _ (by simp [push, splP]), hp _ _ (splP_ne _ _)]
        simp [splP, evn, Ne.symm hk]
      · by_cases p2 : x = k
        · subst p2
          show (splP x (x :: [c])).length = _
          rw [splP_mark p]
          by_cases q : c = x <;> simp [splP, evn, p, q]
        · show (splP k (x :: [c])).length = _
          rw [splP_other p2 _ (.inl p), hp _ _ (splP_ne _ _)]
          by_cases q : c = k <;> simp [splP, evn, p, p2, q]
    | x :: y :: r =>
      simp only [List.cons_append]
      by_cases p : x = 92
      · subst p
        rw [splP_bs, splP_bs, hp _ _ (by simp [push]; split <;> simp), hp _ _ (splP_ne _ _), hp _ _ (by simp [push]; split <;> simp), hp _ _ (splP_ne _ _), ih r (by simp at h; omega)]
        simp only [evn, if_true]
      · have hy := ih (y :: r) (by simp at h ⊢; omega)
        simp only [List.cons_append] at hy
        have he : evn 92 (x :: y :: r) = evn 92 (y :: r) := by rw [evn, if_neg p]
        rw [he]
        by_cases p2 : x = k
        · subst p2
          rw [splP_mark p, splP_mark p, List.length_cons, List.length_cons, hy]
          omega
        · rw [splP_other p2 _ (.inl p), splP_other p2 _ (.inl p), hp _ _ (splP_ne _ _), hp _ _ (splP_ne _ _), hy]
theorem push_app (c : Nat) (ps qs : List (List Nat)) (h : ps ≠ []) : push c (ps ++ qs) = push c ps ++ qs := by
  cases ps with
  | nil => exact absurd rfl h
  | cons p ps => rfl
theorem push_ne (c : Nat) (ps : List (List Nat)) : push c ps ≠ [] := by cases ps <;> simp [push]
theorem push_len (c : Nat) (ps : List (List Nat)) (h : ps ≠ []) : (push c ps).length = ps.length := by
  cases ps with
  | nil => exact absurd rfl h
  | cons p ps => rfl
theorem splP_even {k : Nat} (hk : k ≠ 92) (r : List Nat) : ∀ (n : Nat) (a : List Nat), a.length < n → evn 92 a = true → splP k (a ++ k :: r) = splP k a ++ splP k r := by
  intro n
  induction n with
  | zero => intro a h; omega
  | succ n ih =>
    intro a h he
    match a with
    | [] => show splP k (k :: r) = _; rw [splP_mark hk]; rfl
    | [x] =>
      have hx : x ≠ 92 := by simpa [evn] using he
      show splP k (x :: k :: r) = _
      by_cases p : x = k
      · subst p; rw [splP_mark hk, splP_mark hk]; simp [splP]
      · rw [splP_other p _ (.inl hx), splP_mark hk]; simp [splP, p, push]
    | x :: y :: q =>
      simp only [evn] at he
      simp only [List.cons_append]
      by_cases p : x = 92
      · subst p
        rw [if_pos rfl] at he
        rw [splP_bs, splP_bs, ih q (by simp at h; omega) he, push_app _ _ _ (splP_ne _ _), push_app _ _ _ (push_ne _ _)]
      · rw [if_neg p] at he
        have hy := ih (y :: q) (by simp at h ⊢; omega) he
        simp only [List.cons_append] at hy
        by_cases p2 : x = k
        · subst p2
          rw [splP_mark p, splP_mark p, hy]; rfl
        · rw [splP_other p2 _ (.inl p), splP_other p2 _ (.inl p), hy, push_app _ _ _ (splP_ne _ _)]
theorem splP_odd {k : Nat} (hk : k ≠ 92) (r : List Nat) : ∀ (n : Nat) (a : List Nat), a.length < n → evn 92 a = false → (splP k (a ++ k :: r)).length + 1 = (splP k a).length + (splP k r).length := by
  intro n
  induction n with
  | zero => intro a h; omega
  | succ n ih =>
    intro a h he
    match a with
    | [] => simp [evn] at he
    | [x] =>
      have hx : x = 92 := by simpa [evn] using he
      subst hx
      show (splP k (92 :: k :: r)).length + 1 = _
      rw [splP_bs, push_len _ _ (push_ne _ _), push_len _ _ (splP_ne _ _)]
      simp [splP, Ne.symm hk]; omega
    | x :: y :: q =>
      simp only [evn] at he
      simp only [List.cons_append]
      by_cases p : x = 92
      · subst p
        rw [if_pos rfl] at he
        rw [splP_bs, splP_bs, push_len _ _ (push_ne _ _), push_len _ _ (splP_ne _ _), push_len _ _ (push_ne _ _), push_len _ _ (splP_ne _ _), ih q (by simp at h; omega) he]
      · rw [if_neg p] at he
        have hy := ih (y :: q) (by simp at h ⊢; omega) he
        simp only [List.cons_append] at hy
        by_cases p2 : x = k
        · subst p2
          rw [splP_mark p, splP_mark p, List.length_cons, List.length_cons]; omega
        · rw [splP_other p2 _ (.inl p), splP_other p2 _ (.inl p), push_len _ _ (splP_ne _ _), push_len _ _ (splP_ne _ _), hy]
theorem joinL_map_push {g : List Nat → List Nat} (z u : List Nat) (c : Nat) (ps : List (List Nat)) (h : ps ≠ []) (hg : ∀ p, g (c :: p) = u ++ g p) : joinL z ((push c ps).map g) = u ++ joinL z (ps.map g) := by
  match ps with
  | [] => exact absurd rfl h
  | [p] => simp [push, joinL, hg]
  | p :: q :: r => simp [push, joinL, hg, List.append_assoc]
theorem splP_join {k : Nat} {f : Nat → Option Nat} (hk : k ≠ 92) (hm : f 92 = some 92) : ∀ (n : Nat) (l : List Nat), l.length < n → joinL [k] ((splP k l).map (rd 92 f)) = rd 92 f l := by
  intro n
  induction n with
  | zero => intro l h; omega
  | succ n ih =>
    intro l h
    match l with
    | [] => rfl
    | [c] =>
      by_cases p : c = k
      · subst p; simp [splP, joinL, rd]
      · simp [splP, joinL, rd, p]
    | c :: d :: r =>
      have ih1 := ih r (by simp at h; omega)
      have ih2 := ih (d :: r) (by simp at h ⊢; omega)
      by_cases q : c = 92
      · subst q
        rw [splP_bs, rd_two hm, ← ih1]
        have key : ∀ ps : List (List Nat), ps ≠ [] → joinL [k] ((push 92 (push d ps)).map (rd 92 f)) = hh 92 f d ++ joinL [k] (ps.map (rd 92 f)) := by
          intro ps hps
          match ps with
          | [] => exact absurd rfl hps
          | [p] => simp [push, joinL, rd_two hm]
          | p :: q :: r => simp [push, joinL, rd_two hm, List.append_assoc]
        exact key _ (splP_ne _ _)
      · rw [rd_ne q, ← ih2]
        by_cases p : c = k
        · subst p
          rw [splP_mark hk, List.map_cons]
          show joinL [c] ([] :: _) = _
          rw [joinL_nil _ _ (by simp [splP_ne])]; rfl
        · rw [splP_other p _ (.inl q)]
          exact joinL_map_push [k] [c] c _ (splP_ne _ _) fun p => rd_ne q p

/-- quotes -/
def par (q : Bool) (l : List Nat) : Bool := l.foldl qf q
theorem qs_join (k : Nat) : ∀ (q : Bool) (l : List Nat), joinL [k] (qs k q l) = l := by
  intro q l
  induction l generalizing q with
  | nil => rfl
  | cons c r ih =>
    unfold qs
    split
    · rename_i h
      rw [joinL_nil _ _ (qs_ne _ _ _), ih, h.2]; rfl
    · rw [joinL_push _ _ _ (qs_ne _ _ _), ih]
theorem qs_even {k : Nat} (hk : k ≠ 34) (r : List Nat) : ∀ (a : List Nat) (q : Bool), par q a = false → qs k q (a ++ k :: r) = qs k q a ++ qs k false r := by
  intro a
  induction a with
  | nil =>
    intro q h
    have hq : q = false := h
    subst hq
    have e : qf false k = false := by simp [qf, hk]
    have h2 : qs k false (k :: r) = [] :: qs k false r := by rw [qs, if_pos ⟨e, rfl⟩, e]
    exact h2
  | cons c a ih =>
    intro q h
    have h' : par (qf q c) a = false := h
    simp only [List.cons_append]
    rw [qs, qs, ih _ h']
    split
    · rfl
    · rw [push_app _ _ _ (qs_ne _ _ _)]
theorem qs_odd {k : Nat} (hk : k ≠ 34) (r : List Nat) : ∀ (a : List Nat) (q : Bool), par q a = true → ∃ u p p' v, qs k q a = u ++ [p] ∧ qs k q (a ++ k :: r) = u ++ (p ++ k :: p') :: v := by
  intro a
  induction a with
  | nil =>
    intro q h
    have hq : q = true := h
    subst hq
    have e : qf true k = true := by simp [qf, hk]
    show ∃ u p p' v, qs k true [] = _ ∧ qs k true (k :: r) = _
    rw [qs, qs, if_neg (by rw [e]; simp), e]
    cases hs : qs k true r with
    | nil => exact absurd hs (qs_ne _ _ _)
    | cons p' v => exact ⟨[], [], p', v, rfl, rfl⟩
  | cons c a ih =>
    intro q h
    have h' : par (qf q c) a = true := h
    obtain ⟨u, p, p', v, h1, h2⟩ := ih _ h'
    simp only [List.cons_append]
    rw [qs, qs, h1, h2]
    split
    · exact ⟨[] :: u, p, p', v, rfl, rfl⟩
    · cases u with
      | nil => exact ⟨[], c :: p, p', v, rfl, rfl⟩
      | cons u0 u => exact ⟨(c :: u0) :: u, p, p', v, rfl, rfl⟩
theorem qs_cut {k : Nat} (hk : k ≠ 34) (a r : List Nat) : (qs k false a ++ qs k false r = qs k false (a ++ k :: r)) ↔ par false a = false := by
  cases h : par false a with
  | false => rw [qs_even hk r a false h]; simp
  | true =>
    obtain ⟨u, p, p', v, h1, h2⟩ := qs_odd hk r a false h
    rw [h1, h2, List.append_assoc, List.append_cancel_left_eq]
    constructor
    · intro e
      have := congrArg List.length (List.cons.inj e).1
      simp at this
    · intro e; cases e
theorem par_count (l : List Nat) : ∀ q, par q l = (if (l.count 34) % 2 = 0 then q else !q) := by
  induction l with
  | nil => intro q; rfl
  | cons c r ih =>
    intro q
    show par (qf q c) r = _
    rw [ih, List.count_cons]
    unfold qf
    by_cases p : c = 34
    · subst p
      simp only [if_true, beq_self_eq_true]
      rcases Nat.mod_two_eq_zero_or_one (r.count 34) with h | h <;> cases q <;> simp [h, Nat.add_mod]
    · simp [p]
end Mine
end

section
open PySem PySem.StrLaws PySem.Builtin.Str PyProof.Rows
set_option Elab.async false
namespace Mine
/-- what a backslash names -/
def fB (d : Nat) : Option Nat := if d = 92 then some 92 else if d = 44 then some 44 else if d = 59 then some 59 else if d = 58 then some 58 else if d = 110 then some 10 else if d = 78 then some 10 else none
/-- what a caret names -/
def fC (d : Nat) : Option Nat := if d = 94 then some 94 else if d = 110 then some 10 else if d = 39 then some 34 else none
theorem fB_m : fB 92 = some 92 := rfl
theorem fC_m : fC 94 = some 94 := rfl

theorem rep2_ne {a b c : Nat} (z : List Nat) (h : c ≠ a) (r : List Nat) : rep2 a b z (c :: r) = c :: rep2 a b z r := by
  cases r with
  | nil => rfl
  | cons d r => rw [rep2, if_neg (fun q => h q.1)]
theorem rep2_ne2 {a b d : Nat} (z : List Nat) (h : d ≠ b) (h2 : d ≠ a) (r : List Nat) : rep2 a b z (a :: d :: r) = a :: d :: rep2 a b z r := by
  rw [rep2, if_neg (fun q => h q.2), rep2_ne z h2]
theorem rep2_eq {a b : Nat} (z : List Nat) (r : List Nat) : rep2 a b z (a :: b :: r) = z ++ rep2 a b z r := by
  rw [rep2, if_pos ⟨rfl, rfl⟩]
theorem rep2_end {a b c : Nat} (z : List Nat) : rep2 a b z [c] = [c] := rfl

/-- a piece without a doubled mark -/
def bsL (l : List Nat) : List Nat := rep2 92 78 [10] (rep2 92 110 [10] (rep2 92 58 [58] (rep2 92 59 [59] (rep2 92 44 [44] l))))
def crL (l : List Nat) : List Nat := rep2 94 39 [34] (rep2 94 110 [10] l)
theorem bsL_ne {c : Nat} (h : c ≠ 92) (r : List Nat) : bsL (c :: r) = c :: bsL r := by
  unfold bsL
  rw [rep2_ne _ h, rep2_ne _ h, rep2_ne _ h, rep2_ne _ h, rep2_ne _ h]
theorem crL_ne {c : Nat} (h : c ≠ 94) (r : List Nat) : crL (c :: r) = c :: crL r := by
  unfold crL
  rw [rep2_ne _ h, rep2_ne _ h]
theorem bsL_two {d : Nat} (h : d ≠ 92) (r : List Nat) : bsL (92 :: d :: r) = hh 92 fB d ++ bsL r := by
  unfold bsL
  by_cases h1 : d = 44
  · subst h1
    rw [rep2_eq]
    simp only [List.cons_append, List.nil_append]
    rw [rep2_ne _ (by decide), rep2_ne _ (by decide), rep2_ne _ (by decide), rep2_ne _ (by decide)]; rfl
  rw [rep2_ne2 _ h1 h]
  by_cases h2 : d = 59
  · subst h2
    rw [rep2_eq]
    simp only [List.cons_append, List.nil_append]
    rw [rep2_ne _ (by decide), rep2_ne _ (by decide), rep2_ne _ (by decide)]; rfl
  rw [rep2_ne2 _ h2 h]
  by_cases h3 : d = 58
  · subst h3
    rw [rep2_eq]
    simp only [List.cons_append, List.nil_append]
    rw [rep2_ne _ (by decide), rep2_ne _ (by decide)]; rfl
  rw [rep2_ne2 _ h3 h]
  by_cases h4 : d = 110
  · subst h4
    rw [rep2_eq]
    simp only [List.cons_append, List.nil_append]
    rw [rep2_ne _ (by decide)]; rfl
  rw [rep2_ne2 _ h4 h]
  by_cases h5 : d = 78
  · subst h5
    rw [rep2_eq]; rfl
  rw [rep2_ne2 _ h5 h]
  have : hh 92 fB d = [92, d] := by unfold hh fB; rw [if_neg h, if_neg h1, if_neg h2, if_neg h3, if_neg h4, if_neg h5]
  rw [this]; rfl
theorem crL_two {d : Nat} (h : d ≠ 94) (r : List Nat) : crL (94 :: d :: r) = hh 94 fC d ++ crL r := by
  unfold crL
  by_cases h4 : d = 110
  · subst h4
    rw [rep2_eq]
    simp only [List.cons_append, List.nil_append]
    rw [rep2_ne _ (by decide)]; rfl
  rw [rep2_ne2 _ h4 h]
  by_cases h5 : d = 39
  · subst h5
    rw [rep2_eq]; rfl
  rw [rep2_ne2 _ h5 h]
  have : hh 94 fC d = [94, d] := by unfold hh fC; rw [if_neg h, if_neg h4, if_neg h5]
  rw [this]; rfl

theorem spl2_ne1 {a b c : Nat} (h : c ≠ a) (r : List Nat) : spl2 a b (c :: r) = push c (spl2 a b r) := by
  cases r with
  | nil => rfl
  | cons d r => rw [spl2, if_neg (fun q => h q.1)]
theorem read_gen {m : Nat} {f : Nat → Option Nat} {g : List Nat → List Nat} (hm : f m = some m) (g0 : g [] = []) (g1 : g [m] = [m]) (gn : ∀ c r, c ≠ m → g (c :: r) = c :: g r) (g2 : ∀ d r, d ≠ m → g (m :: d :: r) = hh m f d ++ g r) :
    ∀ (n : Nat) (l : List Nat), l.length < n → joinL [m] ((spl2 m m l).map g) = rd m f l := by
  intro n
  induction n with
  | zero => intro l h; omega
  | succ n ih =>
    intro l h
    match l with
    | [] => simp [spl2, joinL, rd, g0]
    | [c] =>
      by_cases q : c = m
      · subst q; simp [spl2, joinL, rd, g1]
      · simp [spl2, joinL, rd, gn c [] q, g0]
    | c :: d :: r =>
      have ih1 := ih r (by simp at h; omega)
      have ih2 := ih (d :: r) (by simp at h ⊢; omega)
      by_cases q : c = m
      · subst q
        by_cases p : d = c
        · subst p
          rw [spl2, if_pos ⟨rfl, rfl⟩, rd_some hm, List.map_cons, g0, joinL_nil _ _ (by simp [spl2_ne]), ih1]; rfl
        · rw [spl2, if_neg (fun q => p q.2), spl2_ne1 p, rd_two hm, ← ih1]
          have key : ∀ ps : List (List Nat), ps ≠ [] → joinL [c] ((push c (push d ps)).map g) = hh c f d ++ joinL [c] (ps.map g) := by
            intro ps hps
            match ps with
            | [] => exact absurd rfl hps
            | [x] => simp [push, joinL, g2 d _ p]
            | x :: y :: r => simp [push, joinL, g2 d _ p, List.append_assoc]
          exact key _ (spl2_ne _ _ _)
      · rw [spl2_ne1 q, rd_ne q, ← ih2]
        exact joinL_map_push [m] [c] c _ (spl2_ne _ _ _) fun x => gn c x q

theorem bs2_is : Str.ofString "\\\\" = ⟨#[92, 92]⟩ := by decide +kernel
theorem cr1_is : Str.ofString "^" = ⟨#[94]⟩ := by decide +kernel
theorem cr2_is : Str.ofString "^^" = ⟨#[94, 94]⟩ := by decide +kernel
theorem nl_is : Str.ofString "\n" = ⟨#[10]⟩ := by decide +kernel
theorem cl_bsS (p : Str) : cl (bsS p) = bsL (cl p) := by
  unfold bsS bsL
  rw [show Str.ofString "\\," = ⟨#[92, 44]⟩ from by decide +kernel, show Str.ofString "\\;" = ⟨#[92, 59]⟩ from by decide +kernel, show Str.ofString "\\:" = ⟨#[92, 58]⟩ from by decide +kernel, show Str.ofString "\\n" = ⟨#[92, 110]⟩ from by decide +kernel, show Str.ofString "\\N" = ⟨#[92, 78]⟩ from by decide +kernel, nl_is,
    show Str.ofString "," = ⟨#[44]⟩ from by decide +kernel, show Str.ofString ";" = ⟨#[59]⟩ from by decide +kernel, show Str.ofString ":" = ⟨#[58]⟩ from by decide +kernel]
  rw [replace2, replace2, replace2, replace2, replace2]
theorem cl_crS (p : Str) : cl (crS p) = crL (cl p) := by
  unfold crS crL
  rw [show Str.ofString "^n" = ⟨#[94, 110]⟩ from by decide +kernel, show Str.ofString "^'" = ⟨#[94, 39]⟩ from by decide +kernel, nl_is, show Str.ofString "\"" = ⟨#[34]⟩ from by decide +kernel]
  rw [replace2, replace2]
theorem cl_unesc (x : Str) : cl (unescS x) = rd 92 fB (cl x) := by
  unfold unescS
  rw [tjoin_cl, List.map_map, bs_is, bs2_is]
  have e : (cl ∘ bsS) = bsL ∘ cl := by funext p; exact cl_bsS p
  rw [e, ← List.map_map, split2 x 92 92 (by decide) (by decide)]
  exact read_gen fB_m rfl rfl (fun c r h => bsL_ne h r) (fun d r h => bsL_two h r) _ _ (Nat.lt_succ_self _)
theorem cl_uncar (x : Str) : cl (uncarS x) = rd 94 fC (cl x) := by
  unfold uncarS
  rw [tjoin_cl, List.map_map, cr1_is, cr2_is]
  have e : (cl ∘ crS) = crL ∘ cl := by funext p; exact cl_crS p
  rw [e, ← List.map_map, split2 x 94 94 (by decide) (by decide)]
  exact read_gen fC_m rfl rfl (fun c r h => crL_ne h r) (fun d r h => crL_two h r) _ _ (Nat.lt_succ_self _)

/-- escaping, over lists -/
def crlf (l : List Nat) : List Nat := rep1 13 [10] (rep2 13 10 [10] l)
def esL (l : List Nat) : List Nat := rep1 13 [92, 110] (rep1 10 [92, 110] (rep2 13 10 [92, 110] (rep1 44 [92, 44] (rep1 59 [92, 59] (rep1 92 [92, 92] l)))))
theorem rep1_eq (a : Nat) (z r : List Nat) : rep1 a z (a :: r) = z ++ rep1 a z r := by rw [rep1, if_pos rfl]
theorem rep1_ne {a c : Nat} (z : List Nat) (h : c ≠ a) (r : List Nat) : rep1 a z (c :: r) = c :: rep1 a z r := by rw [rep1, if_neg h]
theorem rep1_nil (a : Nat) (z : List Nat) : rep1 a z [] = [] := rfl
theorem esL_13 (r : List Nat) (h : ∀ d t, r = d :: t → d ≠ 10) : esL (13 :: r) = [92, 110] ++ esL r := by
  unfold esL
  rw [rep1_ne _ (by decide), rep1_ne _ (by decide), rep1_ne _ (by decide)]
  have hX : ∀ d t, rep1 44 [92, 44] (rep1 59 [92, 59] (rep1 92 [92, 92] r)) = d :: t → d ≠ 10 := by
    intro d t e
    cases r with
    | nil => simp [rep1] at e
    | cons c r =>
      have hc := h c r rfl
      by_cases h1 : c = 92
      · subst h1
        rw [rep1_eq] at e
        simp only [List.cons_append, List.nil_append] at e
        rw [rep1_ne _ (by decide), rep1_ne _ (by decide)] at e
        have := (List.cons.inj e).1; omega
      rw [rep1_ne _ h1] at e
      by_cases h2 : c = 59
      · subst h2
        rw [rep1_eq] at e
        simp only [List.cons_append, List.nil_append] at e
        rw [rep1_ne _ (by decide)] at e
        have := (List.cons.inj e).1; omega
      rw [rep1_ne _ h2] at e
      by_cases h3 : c = 44
      · subst h3
        rw [rep1_eq] at e
        simp only [List.cons_append, List.nil_append] at e
        have := (List.cons.inj e).1; omega
      rw [rep1_ne _ h3] at e
      have := (List.cons.inj e).1; omega
  generalize rep1 44 [92, 44] (rep1 59 [92, 59] (rep1 92 [92, 92] r)) = X at hX
  have e2 : rep2 13 10 [92, 110] (13 :: X) = 13 :: rep2 13 10 [92, 110] X := by
    cases X with
    | nil => rfl
    | cons d t => rw [rep2, if_neg (fun q => hX d t rfl q.2)]
  rw [e2, rep1_ne _ (by decide), rep1_eq]
theorem esL_1310 (r : List Nat) : esL (13 :: 10 :: r) = [92, 110] ++ esL r := by
  unfold esL
  rw [rep1_ne _ (by decide), rep1_ne _ (by decide), rep1_ne _ (by decide), rep1_ne _ (by decide), rep1_ne _ (by decide), rep1_ne _ (by decide), rep2_eq]
  simp only [List.cons_append, List.nil_append]
  rw [rep1_ne _ (by decide), rep1_ne _ (by decide), rep1_ne _ (by decide), rep1_ne _ (by decide)]
theorem esL_ne {c : Nat} (h : c ≠ 13) (r : List Nat) : esL (c :: r) = lw c ++ esL r := by
  unfold esL
  by_cases h1 : c = 92
  · subst h1
    rw [rep1_eq]
    simp only [List.cons_append, List.nil_append]
    rw [rep1_ne _ (by decide), rep1_ne _ (by decide), rep1_ne _ (by decide), rep1_ne _ (by decide), rep2_ne _ (by decide), rep2_ne _ (by decide), rep1_ne _ (by decide), rep1_ne _ (by decide), rep1_ne _ (by decide), rep1_ne _ (by decide)]
    rfl
  rw [rep1_ne _ h1]
  by_cases h2 : c = 59
  · subst h2
    rw [rep1_eq]
    simp only [List.cons_append, List.nil_append]
    rw [rep1_ne _ (by decide), rep1_ne _ (by decide), rep2_ne _ (by decide), rep2_ne _ (by decide), rep1_ne _ (by decide), rep1_ne _ (by decide), rep1_ne _ (by decide), rep1_ne _ (by decide)]
    rfl
  rw [rep1_ne _ h2]
  by_cases h3 : c = 44
  · subst h3
    rw [rep1_eq]
    simp only [List.cons_append, List.nil_append]
    rw [rep2_ne _ (by decide), rep2_ne _ (by decide), rep1_ne _ (by decide), rep1_ne _ (by decide), rep1_ne _ (by decide), rep1_ne _ (by decide)]
    rfl
  rw [rep1_ne _ h3, rep2_ne _ h]
  by_cases h4 : c = 10
  · subst h4
    rw [rep1_eq]
    simp only [List.cons_append, List.nil_append]
    rw [rep1_ne _ (by decide), rep1_ne _ (by decide)]
    rfl
  rw [rep1_ne _ h4, rep1_ne _ h]
  have : lw c = [c] := by unfold lw; rw [if_neg h1, if_neg h3, if_neg h2, if_neg h4]
  rw [this]; rfl
theorem crlf_1310 (r : List Nat) : crlf (13 :: 10 :: r) = 10 :: crlf r := by
  unfold crlf
  rw [rep2_eq]
  simp only [List.cons_append, List.nil_append]
  rw [rep1_ne _ (by decide)]
theorem crlf_13 (r : List Nat) (h : ∀ d t, r = d :: t → d ≠ 10) : crlf (13 :: r) = 10 :: crlf r := by
  unfold crlf
  have e2 : rep2 13 10 [10] (13 :: r) = 13 :: rep2 13 10 [10] r := by
    cases r with
    | nil => rfl
    | cons d t => rw [rep2, if_neg (fun q => h d t rfl q.2)]
  rw [e2, rep1_eq]; rfl
theorem crlf_ne {c : Nat} (h : c ≠ 13) (r : List Nat) : crlf (c :: r) = c :: crlf r := by
  unfold crlf
  rw [rep2_ne _ h, rep1_ne _ h]
/-- three ways a text goes on -/
theorem crlf_ind {P : List Nat → Prop} (h0 : P []) (h1 : ∀ r, P r → P (13 :: 10 :: r)) (h2 : ∀ r, (∀ d t, r = d :: t → d ≠ 10) → P r → P (13 :: r)) (h3 : ∀ c r, c ≠ 13 → P r → P (c :: r)) : ∀ (n : Nat) (l : List Nat), l.length < n → P l := by
  intro n
  induction n with
  | zero => intro l h; omega
  | succ n ih =>
    intro l h
    match l with
    | [] => exact h0
    | [c] =>
      by_cases q : c = 13
      · subst q; exact h2 [] (by intro d t e; cases e) h0
      · exact h3 c [] q h0
    | c :: d :: r =>
      have ih1 := ih r (by simp at h; omega)
      have ih2 := ih (d :: r) (by simp at h ⊢; omega)
      by_cases q : c = 13
      · subst q
        by_cases p : d = 10
        · subst p; exact h1 r ih1
        · exact h2 (d :: r) (by intro d' t e; rw [← (List.cons.inj e).1]; exact p) ih2
      · exact h3 c (d :: r) q ih2
theorem esL_flat (l : List Nat) : esL l = (crlf l).flatMap lw := by
  refine crlf_ind (P := fun l => esL l = (crlf l).flatMap lw) rfl ?_ ?_ ?_ _ l (Nat.lt_succ_self _)
  · intro r ih; rw [esL_1310, crlf_1310, List.flatMap_cons, ih]; rfl
  · intro r h ih; rw [esL_13 r h, crlf_13 r h, List.flatMap_cons, ih]; rfl
  · intro c r h ih; rw [esL_ne h, crlf_ne h, List.flatMap_cons, ih]
def normL (l : List Nat) : List Nat := crlf (rep2 92 78 [10] l)
theorem cl_esc (x : Str) : cl (escS x) = (normL (cl x)).flatMap lw := by
  unfold normL
  rw [← esL_flat]
  unfold escS esL
  rw [show Str.ofString "\\N" = ⟨#[92, 78]⟩ from by decide +kernel, show Str.ofString "\n" = ⟨#[10]⟩ from by decide +kernel, show Str.ofString "\\" = ⟨#[92]⟩ from by decide +kernel, show Str.ofString "\\\\" = ⟨#[92, 92]⟩ from by decide +kernel,
    show Str.ofString ";" = ⟨#[59]⟩ from by decide +kernel, show Str.ofString "\\;" = ⟨#[92, 59]⟩ from by decide +kernel, show Str.ofString "," = ⟨#[44]⟩ from by decide +kernel, show Str.ofString "\\," = ⟨#[92, 44]⟩ from by decide +kernel,
    show Str.ofString "\r\n" = ⟨#[13, 10]⟩ from by decide +kernel, show Str.ofString "\\n" = ⟨#[92, 110]⟩ from by decide +kernel, show Str.ofString "\r" = ⟨#[13]⟩ from by decide +kernel]
  rw [replace1, replace1, replace2, replace1, replace1, replace1, replace2]
end Mine
end

section
open PySem PySem.StrLaws PySem.Builtin PySem.Builtin.Str PyProof.Rows
set_option Elab.async false
namespace Mine
/-- slices -/
theorem mk_cl (l : List Nat) : cl (mk l) = l := by simp [mk, cl]
theorem eq_mk {x y : Str} (h : cl x = cl y) : x = y := Str.ext' (Array.toList_inj.mp h)
theorem mk_of (x : Str) : mk (cl x) = x := eq_mk (mk_cl _)
theorem beq_cl (x y : Str) : (x == y) = decide (cl x = cl y) := by
  by_cases h : cl x = cl y
  · rw [decide_eq_true h, eq_mk h]; exact beq_self_eq_true y
  · rw [decide_eq_false h]
    exact beq_false_of_ne fun q => h (by rw [q])
theorem mk_len (l : List Nat) : (mk l).length = l.length := by rw [← cl_len, mk_cl]
theorem slice_first (x : Str) : Txt.slice x none (some 1) = mk ((cl x).take 1) := by
  by_cases h : 1 ≤ x.length
  · exact slice_to (b := 1) x h
  · rw [slice_to_beyond (by omega), slice_to x (Nat.le_refl _)]
    have : cl x = [] := List.eq_nil_of_length_eq_zero (by rw [cl_len]; omega)
    rw [this]; simp
theorem slice_tail (x : Str) : Txt.slice x (some 1) none = mk ((cl x).drop 1) := by
  by_cases h : 1 ≤ x.length
  · exact slice_from (a := 1) x h
  · have : cl x = [] := List.eq_nil_of_length_eq_zero (by rw [cl_len]; omega)
    rw [slice_from_beyond (by omega), this]; rfl
theorem slice_last (x : Str) : Txt.slice x (some (-1)) none = mk ((cl x).drop ((cl x).length - 1)) := by
  rw [slice_from_neg (by decide), cl_len]
  have e : max 0 ((x.length : Int) + -1) = ((x.length - 1 : Nat) : Int) := by omega
  rw [e, slice_from x (by omega)]
theorem idx_beyond (i : Int) (len : Nat) {j : Int} (h : (len : Int) ≤ j) : strSliceIndices (some i) (some j) 1 len = strSliceIndices (some i) (some (len : Int)) 1 len := by
  have a1 : ¬ j < 0 := by omega
  have a2 : ¬ ((len : Int) < 0) := by omega
  have e1 : max (0 : Int) (min j (len : Int)) = len := by omega
  have e2 : max (0 : Int) (min (len : Int) (len : Int)) = len := by omega
  simp [strSliceIndices, a1, a2, e1, e2]
theorem slice_one (x : Str) {a : Nat} (ha : a ≤ x.length) : Txt.slice x (some (a : Int)) (some ((a : Int) + 1)) = mk (((cl x).drop a).take 1) := by
  by_cases h : a + 1 ≤ x.length
  · have := slice_mid x (a := a) (b := a + 1) (by omega) h
    rw [show a + 1 - a = 1 by omega] at this
    exact this
  · have hl : a = x.length := by omega
    subst hl
    have e : Txt.slice x (some (x.length : Int)) (some ((x.length : Int) + 1)) = Txt.slice x (some (x.length : Int)) (some (x.length : Int)) := by
      show sliceText x _ _ = sliceText x _ _
      unfold sliceText
      rw [idx_beyond _ _ (by omega)]
    rw [e, slice_mid x (Nat.le_refl _) (Nat.le_refl _), List.drop_of_length_le (by rw [cl_len]; exact Nat.le_refl _)]
    simp
theorem contains_one (y : Str) (c : Nat) : Txt.contains y ⟨#[c]⟩ = decide (c ∈ cl y) := found_one y c

theorem em_is : Str.ofString "" = ⟨#[]⟩ := by decide +kernel
theorem em0 : (mk (List.take 1 []) == Str.ofString "") = true := by rw [em_is]; simp [mk]
theorem em1 (d : Nat) (r : List Nat) : (mk (List.take 1 (d :: r)) == Str.ofString "") = false := by rw [em_is]; simp [mk]
theorem em2 : (mk (List.take 1 []) != Str.ofString "") = false := by show (!(mk (List.take 1 []) == Str.ofString "")) = false; rw [em0]; rfl
theorem em3 (d : Nat) (r : List Nat) : (mk (List.take 1 (d :: r)) != Str.ofString "") = true := by show (!(mk (List.take 1 (d :: r)) == Str.ofString "")) = true; rw [em1]; rfl
/-- reading, cut in two -/
theorem cond_run {m : Nat} : ∀ b : List Nat, ∀ d r, b.drop (runL m b) = d :: r → d ≠ m := by
  intro b
  induction b with
  | nil => intro d r h; simp [runL] at h
  | cons c b ih =>
    intro d r h
    by_cases q : c = m
    · rw [runL, if_pos q, List.drop_succ_cons] at h; exact ih d r h
    · rw [runL, if_neg q, List.drop_zero] at h
      rw [← (List.cons.inj h).1]; exact q
theorem runL_le' (m : Nat) : ∀ b : List Nat, runL m b ≤ b.length
  | [] => Nat.le_refl _
  | c :: b => by
    have := runL_le' m b
    unfold runL
    split
    · simp; exact this
    · omega
theorem may_law {m : Nat} {f : Nat → Option Nat} {G : Str → Str} {named shared : Str} (hm : f m = some m) (hG : ∀ y, cl (G y) = rd m f (cl y))
    (hn : ∀ c, c ≠ m → (c ∈ cl named ↔ f c ≠ none)) (hs : ∀ c, c ≠ m → (c ∈ cl shared ↔ f c = some c)) (x : Str) (i : Nat) (hi : i ≤ x.length) :
    (G (Txt.slice x none (some (i : Int))) ++ G (Txt.slice x (some (i : Int)) none) == G x) = mayS x i m named shared := by
  rw [slice_to x hi, slice_from x hi, beq_cl, cl_app, hG, hG, hG, mk_cl, mk_cl]
  have e := rd_cut hm ((cl x).take i) ((cl x).drop i)
  rw [List.take_append_drop] at e
  rw [Bool.eq_iff_iff, decide_eq_true_eq, e, evn_run]
  unfold mayS mayV
  have hq : i + runL m ((cl x).drop i) ≤ x.length := by
    have := runL_le' m ((cl x).drop i)
    rw [List.length_drop, cl_len] at this; omega
  have es : Txt.slice x (some ((i : Int) + (runL m ((cl x).drop i) : Nat))) (some ((i : Int) + (runL m ((cl x).drop i) : Nat) + 1)) = mk ((((cl x).drop i).drop (runL m ((cl x).drop i))).take 1) := by
    have := slice_one x hq
    rw [List.drop_drop, ← this]; simp
  rw [es]
  unfold cond
  have hc := cond_run (m := m) ((cl x).drop i)
  by_cases h1 : runL m ((cl x).take i).reverse % 2 = 0
  · rw [if_pos h1]; simp [h1]
  rw [if_neg h1]
  have h1' : (runL m ((cl x).take i).reverse % 2 == 0) = false := by simpa using h1
  rw [h1']
  by_cases h2 : runL m ((cl x).drop i) % 2 = 0
  · rw [if_pos h2, if_pos h2]
    cases hd : ((cl x).drop i).drop (runL m ((cl x).drop i)) with
    | nil => rw [em0]; simp
    | cons d r =>
      have hdm := hc d r hd
      rw [em1]
      show _ ↔ (false || !(Txt.contains named ⟨#[d]⟩)) = true
      rw [contains_one, Bool.false_or]
      have := hn d hdm
      by_cases hf : f d = none
      · have : d ∉ cl named := fun q => (this.mp q) hf
        simp [hf, this]
      · have : d ∈ cl named := this.mpr hf
        simp [hf, this]
  · rw [if_neg h2, if_neg h2]
    cases hd : ((cl x).drop i).drop (runL m ((cl x).drop i)) with
    | nil => rw [em2]; simp
    | cons d r =>
      have hdm := hc d r hd
      rw [em3]
      show _ ↔ (true && Txt.contains shared ⟨#[d]⟩) = true
      rw [contains_one, Bool.true_and]
      have := hs d hdm
      by_cases hf : f d = some d
      · have : d ∈ cl shared := this.mpr hf
        simp [hf, this]
      · have : d ∉ cl shared := fun q => hf (this.mp q)
        simp [hf, this]
theorem law3 (x : Str) (i : Nat) (hi : i ≤ x.length) : (unescS (Txt.slice x none (some (i : Int))) ++ unescS (Txt.slice x (some (i : Int)) none) == unescS x) = mayS x i 92 (Str.ofString ",;:nN") (Str.ofString ",;:") := by
  refine may_law fB_m cl_unesc ?_ ?_ x i hi
  · intro c hc
    rw [show cl (Str.ofString ",;:nN") = [44, 59, 58, 110, 78] from by decide +kernel]
    unfold fB
    rw [if_neg hc]
    simp only [List.mem_cons, List.not_mem_nil, or_false]
    repeat' split
    all_goals simp_all
  · intro c hc
    rw [show cl (Str.ofString ",;:") = [44, 59, 58] from by decide +kernel]
    unfold fB
    rw [if_neg hc]
    simp only [List.mem_cons, List.not_mem_nil, or_false]
    repeat' split
    all_goals simp_all
theorem law4 (x : Str) (i : Nat) (hi : i ≤ x.length) : (uncarS (Txt.slice x none (some (i : Int))) ++ uncarS (Txt.slice x (some (i : Int)) none) == uncarS x) = mayS x i 94 (Str.ofString "n'") (Str.ofString "") := by
  refine may_law fC_m cl_uncar ?_ ?_ x i hi
  · intro c hc
    rw [show cl (Str.ofString "n'") = [110, 39] from by decide +kernel]
    unfold fC
    rw [if_neg hc]
    simp only [List.mem_cons, List.not_mem_nil, or_false]
    repeat' split
    all_goals simp_all
  · intro c hc
    rw [show cl (Str.ofString "") = [] from by decide +kernel]
    unfold fC
    rw [if_neg hc]
    simp only [List.not_mem_nil]
    repeat' split
    all_goals simp_all
end Mine
end

section
open PySem PySem.StrLaws PySem.Builtin PySem.Builtin.Str PyProof.Rows
set_option Elab.async false
namespace Mine
def noCB : List Nat → Prop
  | [] => True
  | [_] => True
  | c :: d :: r => ¬ (c = 13 ∧ d = 92) ∧ noCB (d :: r)
theorem noCB_app : ∀ (u v : List Nat), noCB (u ++ v) → ¬ (u.getLast? = some 13 ∧ v.head? = some 92)
  | [], v, _, h => by simp at h
  | [c], [], _, h => by simp at h
  | [c], d :: v, hn, h => by
    simp at h
    exact hn.1 h
  | c :: d :: u, v, hn, h => noCB_app (d :: u) v hn.2 (by simpa using h)
theorem noCB_left : ∀ (u v : List Nat), noCB (u ++ v) → noCB u
  | [], v, _ => trivial
  | [c], v, _ => trivial
  | c :: d :: u, v, hn => ⟨hn.1, noCB_left (d :: u) v hn.2⟩
theorem noCB_right : ∀ (u v : List Nat), noCB (u ++ v) → noCB v
  | [], v, h => h
  | [c], [], _ => trivial
  | [c], d :: v, hn => hn.2
  | c :: d :: u, v, hn => noCB_right (d :: u) v hn.2
theorem noCB_snoc : ∀ (u : List Nat) (c : Nat), noCB u → ¬ (u.getLast? = some 13 ∧ c = 92) → noCB (u ++ [c])
  | [], c, _, _ => trivial
  | [b], c, _, h => ⟨by simpa using h, trivial⟩
  | b :: d :: u, c, hn, h => ⟨hn.1, noCB_snoc (d :: u) c hn.2 (by simpa using h)⟩
theorem rep2_cut {a b : Nat} (z : List Nat) (v : List Nat) : ∀ (n : Nat) (u : List Nat), u.length < n → ¬ (u.getLast? = some a ∧ v.head? = some b) → rep2 a b z (u ++ v) = rep2 a b z u ++ rep2 a b z v := by
  intro n
  induction n with
  | zero => intro u h; omega
  | succ n ih =>
    intro u h hc
    match u with
    | [] => rfl
    | [c] =>
      match v with
      | [] => simp [rep2]
      | d :: v =>
        have e : rep2 a b z (c :: d :: v) = c :: rep2 a b z (d :: v) := by rw [rep2, if_neg (by simpa using hc)]
        exact e
    | c :: d :: r =>
      simp only [List.cons_append]
      rw [rep2, rep2]
      have ih2 := ih (d :: r) (by simp at h ⊢; omega) (by simpa using hc)
      rw [List.cons_append] at ih2
      split
      · rw [ih r (by simp at h; omega) ?_, List.append_assoc]
        cases r with
        | nil => simp
        | cons e r => simpa using hc
      · rw [ih2]; rfl
theorem rep1_app (a : Nat) (z v : List Nat) : ∀ u : List Nat, rep1 a z (u ++ v) = rep1 a z u ++ rep1 a z v
  | [] => rfl
  | c :: u => by
    simp only [List.cons_append]
    rw [rep1, rep1, rep1_app a z v u]
    split
    · rw [List.append_assoc]
    · rfl
theorem crlf_cut (u v : List Nat) (h : ¬ (u.getLast? = some 13 ∧ v.head? = some 10)) : crlf (u ++ v) = crlf u ++ crlf v := by
  unfold crlf
  rw [rep2_cut _ _ _ u (Nat.lt_succ_self _) h, rep1_app]
theorem crlf_hit (u v : List Nat) : crlf (u ++ 13 :: 10 :: v) = crlf u ++ 10 :: crlf v := by
  rw [crlf_cut _ _ (by simp), crlf_1310]
theorem crlf_snoc (u : List Nat) (c : Nat) (h : ¬ (u.getLast? = some 13 ∧ c = 10)) : crlf (u ++ [c]) = crlf u ++ [if c = 13 then 10 else c] := by
  rw [crlf_cut _ _ (by simpa using h)]
  congr 1
  by_cases q : c = 13
  · subst q; rfl
  · rw [crlf_ne q, if_neg q]; rfl
/-- the first change: a backslash and N -/
def bN (l : List Nat) : List Nat := rep2 92 78 [10] l
theorem bN_last : ∀ (n : Nat) (u : List Nat), u.length < n → (bN u).getLast? = some 13 → u.getLast? = some 13 := by
  intro n
  induction n with
  | zero => intro u h; omega
  | succ n ih =>
    intro u h e
    match u with
    | [] => simp [bN, rep2] at e
    | [c] => simpa [bN, rep2] using e
    | c :: d :: r =>
      unfold bN at e
      rw [rep2] at e
      have hne : ∀ l : List Nat, l ≠ [] → rep2 92 78 [10] l ≠ [] := by
        intro l hl
        match l with
        | [] => exact absurd rfl hl
        | [c] => simp [rep2]
        | c :: d :: r => rw [rep2]; split <;> simp
      split at e
      · cases r with
        | nil => simp [rep2] at e
        | cons x r =>
          have : (rep2 92 78 [10] (x :: r)).getLast? = some 13 := by
            cases hx : rep2 92 78 [10] (x :: r) with
            | nil => exact absurd hx (hne _ (by simp))
            | cons y t => rw [hx] at e; simpa using e
          have := ih (x :: r) (by simp at h ⊢; omega) this
          simpa using this
      · have : (rep2 92 78 [10] (d :: r)).getLast? = some 13 := by
          cases hx : rep2 92 78 [10] (d :: r) with
          | nil => exact absurd hx (hne _ (by simp))
          | cons y t => rw [hx] at e; simpa using e
        have := ih (d :: r) (by simp at h ⊢; omega) this
        simpa using this
theorem bN_head (v : List Nat) (h : (bN v).head? = some 10) : v.head? = some 10 ∨ v.head? = some 92 := by
  match v with
  | [] => simp [bN, rep2] at h
  | [c] => simp [bN, rep2] at h; exact .inl (by simp [h])
  | c :: d :: r =>
    unfold bN at h
    rw [rep2] at h
    split at h
    · rename_i q; exact .inr (by simp [q.1])
    · simp at h; exact .inl (by simp [h])
def es (l : List Nat) : List Nat := (crlf (bN l)).flatMap lw
theorem es_eq (x : Str) : cl (escS x) = es (cl x) := cl_esc x
theorem es_cut (u v : List Nat) (hn : noCB (u ++ v)) (h1 : ¬ (u.getLast? = some 92 ∧ v.head? = some 78)) (h2 : ¬ (u.getLast? = some 13 ∧ v.head? = some 10)) : es (u ++ v) = es u ++ es v := by
  unfold es
  have e1 : bN (u ++ v) = bN u ++ bN v := rep2_cut _ _ _ u (Nat.lt_succ_self _) h1
  rw [e1, crlf_cut, List.flatMap_append]
  rintro ⟨q1, q2⟩
  have q1 := bN_last _ u (Nat.lt_succ_self _) q1
  rcases bN_head v q2 with q2 | q2
  · exact h2 ⟨q1, q2⟩
  · exact noCB_app u v hn ⟨q1, q2⟩
theorem es_hit1 (u v : List Nat) (hn : noCB ((u ++ [92]) ++ (78 :: v))) : es (u ++ [92]) ++ es (78 :: v) ≠ es ((u ++ [92]) ++ (78 :: v)) := by
  unfold es
  have e1 : bN ((u ++ [92]) ++ (78 :: v)) = bN u ++ 10 :: bN v := by
    rw [List.append_assoc]
    show bN (u ++ (92 :: 78 :: v)) = _
    unfold bN
    rw [rep2_cut _ _ _ u (Nat.lt_succ_self _) (by simp), rep2_eq]; rfl
  have e2 : bN (u ++ [92]) = bN u ++ [92] := by
    unfold bN
    rw [rep2_cut _ _ _ u (Nat.lt_succ_self _) (by simp)]; rfl
  have e3 : bN (78 :: v) = 78 :: bN v := by unfold bN; rw [rep2_ne _ (by decide)]
  have hl : ¬ (bN u).getLast? = some 13 := fun q => by
    have := bN_last _ u (Nat.lt_succ_self _) q
    rw [List.append_assoc] at hn
    exact noCB_app u _ hn ⟨this, rfl⟩
  rw [e1, e2, e3, crlf_cut _ _ (fun q => hl q.1), crlf_cut _ _ (fun q => hl q.1), show crlf [92] = [92] from rfl, show crlf (78 :: bN v) = 78 :: crlf (bN v) from crlf_ne (by decide) _, show crlf (10 :: bN v) = 10 :: crlf (bN v) from crlf_ne (by decide) _]
  simp only [List.flatMap_append, List.flatMap_cons, List.append_assoc]
  intro q
  have := congrArg List.length (List.append_cancel_left q)
  simp [lw] at this
theorem es_hit2 (u v : List Nat) : es (u ++ [13]) ++ es (10 :: v) ≠ es ((u ++ [13]) ++ (10 :: v)) := by
  unfold es
  have e1 : bN ((u ++ [13]) ++ (10 :: v)) = bN (u ++ [13]) ++ 10 :: bN v := by
    unfold bN
    rw [rep2_cut _ _ _ (u ++ [13]) (Nat.lt_succ_self _) (by simp), rep2_ne _ (by decide)]
  have e2 : bN (u ++ [13]) = bN u ++ [13] := by
    unfold bN
    rw [rep2_cut _ _ _ u (Nat.lt_succ_self _) (by simp)]; rfl
  have e3 : bN (10 :: v) = 10 :: bN v := by unfold bN; rw [rep2_ne _ (by decide)]
  rw [e1, e2, e3, List.append_assoc]
  show _ ≠ List.flatMap lw (crlf (bN u ++ 13 :: 10 :: bN v))
  rw [crlf_hit, crlf_snoc _ _ (by simp), crlf_ne (by decide)]
  simp only [List.flatMap_append, List.flatMap_cons, List.append_assoc]
  intro q
  have := congrArg List.length (List.append_cancel_left q)
  simp [lw] at this
  omega
/-- caret escapes -/
def ca (l : List Nat) : List Nat := (rep2 13 10 [10] l).flatMap fun c => cl (carG c)
theorem cl_join0 (l : List Nat) : cl (Txt.join (Str.ofString "") (l.map carG)) = l.flatMap fun c => cl (carG c) := by
  rw [tjoin_cl, em_is]
  induction l with
  | nil => rfl
  | cons c r ih =>
    cases r with
    | nil => simp [joinL]
    | cons d r =>
      simp only [List.map_cons, joinL, List.append_nil] at ih ⊢
      rw [ih]
      show cl (carG c) ++ [] ++ _ = _
      rw [List.append_nil]; rfl
theorem ca_eq (x : Str) : cl (carS x) = ca (cl x) := by
  unfold carS ca
  rw [cl_join0]
  congr 1
  show cl (Txt.replace x _ _) = _
  rw [show Str.ofString "\r\n" = ⟨#[13, 10]⟩ from by decide +kernel, nl_is, replace2]
theorem carG_lc (c : Nat) : cl (carG c) = lc (if c = 13 then 10 else c) := by
  unfold carG lc
  by_cases h1 : c = 94
  · subst h1; decide +kernel
  rw [if_neg h1]
  by_cases h2 : c = 10
  · subst h2; decide +kernel
  rw [if_neg h2]
  by_cases h3 : c = 13
  · subst h3; decide +kernel
  rw [if_neg h3, if_neg h3, if_neg h1, if_neg h2]
  by_cases h4 : c = 34
  · subst h4; decide +kernel
  rw [if_neg h4, if_neg h4]
theorem rep1_map (a b : Nat) (l : List Nat) : rep1 a [b] l = l.map fun c => if c = a then b else c := by
  induction l with
  | nil => rfl
  | cons c r ih =>
    rw [rep1, ih, List.map_cons]
    split <;> rfl
theorem ca_lc (l : List Nat) : ca l = (crlf l).flatMap lc := by
  unfold ca crlf
  rw [rep1_map]
  generalize rep2 13 10 [10] l = z
  induction z with
  | nil => rfl
  | cons c r ih => rw [List.map_cons, List.flatMap_cons, List.flatMap_cons, ih, carG_lc]
theorem ca_cut (u v : List Nat) (h2 : ¬ (u.getLast? = some 13 ∧ v.head? = some 10)) : ca (u ++ v) = ca u ++ ca v := by
  rw [ca_lc, ca_lc, ca_lc, crlf_cut u v h2, List.flatMap_append]
theorem ca_hit (u v : List Nat) : ca (u ++ [13]) ++ ca (10 :: v) ≠ ca ((u ++ [13]) ++ (10 :: v)) := by
  rw [ca_lc, ca_lc, ca_lc, List.append_assoc]
  show _ ≠ List.flatMap lc (crlf (u ++ 13 :: 10 :: v))
  rw [crlf_hit, crlf_snoc _ _ (by simp), crlf_ne (by decide)]
  simp only [List.flatMap_append, List.flatMap_cons, List.append_assoc]
  intro q
  have := congrArg List.length (List.append_cancel_left q)
  simp [lc] at this
  omega

/-- the pair round the cut -/
theorem pair_cl (x : Str) (i : Nat) (hi : i ≤ x.length) : cl (Txt.slice (Txt.slice x none (some (i : Int))) (some (-1)) none ++ Txt.slice (Txt.slice x (some (i : Int)) none) none (some 1)) = ((cl x).take i).drop (((cl x).take i).length - 1) ++ ((cl x).drop i).take 1 := by
  rw [slice_to x hi, slice_from x hi, slice_last, slice_first, cl_app, mk_cl, mk_cl, mk_cl, mk_cl]
theorem pair_is {x : Str} {i : Nat} (hi : i ≤ x.length) (K : Str) (c d : Nat) (hK : K = ⟨#[c, d]⟩) : (Txt.slice (Txt.slice x none (some (i : Int))) (some (-1)) none ++ Txt.slice (Txt.slice x (some (i : Int)) none) none (some 1) != K) = !decide (((cl x).take i).getLast? = some c ∧ ((cl x).drop i).head? = some d) := by
  show (!(_ == K)) = _
  rw [beq_cl, pair_cl x i hi, hK]
  congr 1
  refine decide_eq_decide.mpr ?_
  show _ = [c, d] ↔ _
  generalize (cl x).take i = u
  generalize (cl x).drop i = v
  rcases List.eq_nil_or_concat u with rfl | ⟨u', a, rfl⟩
  · cases v with
    | nil => simp
    | cons e v => simp
  · cases v with
    | nil => simp
    | cons e v => simp
theorem last_split {u : List Nat} {c : Nat} (h : u.getLast? = some c) : ∃ u', u = u' ++ [c] := by
  rcases List.eq_nil_or_concat u with rfl | ⟨u', a, rfl⟩
  · simp at h
  · simp at h; exact ⟨u', by rw [h]; simp⟩
theorem head_split {v : List Nat} {c : Nat} (h : v.head? = some c) : ∃ v', v = c :: v' := by
  cases v with
  | nil => simp at h
  | cons a v => simp at h; exact ⟨v, by rw [h]⟩
theorem law1 (x : Str) (i : Nat) (hi : i ≤ x.length) (hn : noCB (cl x)) : (escS (Txt.slice x none (some (i : Int))) ++ escS (Txt.slice x (some (i : Int)) none) == escS x) =
    ((Txt.slice (Txt.slice x none (some (i : Int))) (some (-1)) none ++ Txt.slice (Txt.slice x (some (i : Int)) none) none (some 1) != Str.ofString "\r\n") && (Txt.slice (Txt.slice x none (some (i : Int))) (some (-1)) none ++ Txt.slice (Txt.slice x (some (i : Int)) none) none (some 1) != Str.ofString "\\N")) := by
  rw [pair_is hi _ 13 10 (by decide +kernel), pair_is hi _ 92 78 (by decide +kernel)]
  rw [slice_to x hi, slice_from x hi, beq_cl, cl_app, es_eq, es_eq, es_eq, mk_cl, mk_cl]
  have hl := List.take_append_drop i (cl x)
  generalize (cl x).take i = u at hl ⊢
  generalize (cl x).drop i = v at hl ⊢
  rw [← hl] at hn ⊢
  by_cases h2 : u.getLast? = some 13 ∧ v.head? = some 10
  · obtain ⟨u', rfl⟩ := last_split h2.1
    obtain ⟨v', rfl⟩ := head_split h2.2
    rw [decide_eq_true h2, decide_eq_false (es_hit2 u' v')]; rfl
  rw [decide_eq_false h2]
  by_cases h1 : u.getLast? = some 92 ∧ v.head? = some 78
  · obtain ⟨u', rfl⟩ := last_split h1.1
    obtain ⟨v', rfl⟩ := head_split h1.2
    rw [decide_eq_true h1, decide_eq_false (es_hit1 u' v' hn)]; rfl
  rw [decide_eq_false h1, decide_eq_true (es_cut u v hn h1 h2).symm]; rfl
theorem law2 (x : Str) (i : Nat) (hi : i ≤ x.length) : (carS (Txt.slice x none (some (i : Int))) ++ carS (Txt.slice x (some (i : Int)) none) == carS x) =
    (Txt.slice (Txt.slice x none (some (i : Int))) (some (-1)) none ++ Txt.slice (Txt.slice x (some (i : Int)) none) none (some 1) != Str.ofString "\r\n") := by
  rw [pair_is hi _ 13 10 (by decide +kernel)]
  rw [slice_to x hi, slice_from x hi, beq_cl, cl_app, ca_eq, ca_eq, ca_eq, mk_cl, mk_cl]
  have hl := List.take_append_drop i (cl x)
  generalize (cl x).take i = u at hl ⊢
  generalize (cl x).drop i = v at hl ⊢
  rw [← hl]
  by_cases h2 : u.getLast? = some 13 ∧ v.head? = some 10
  · obtain ⟨u', rfl⟩ := last_split h2.1
    obtain ⟨v', rfl⟩ := head_split h2.2
    rw [decide_eq_true h2, decide_eq_false (ca_hit u' v')]; rfl
  rw [decide_eq_false h2, decide_eq_true (ca_cut u v h2).symm]; rfl
end Mine
end

section
open PySem PySem.StrLaws PySem.Builtin PySem.Builtin.Str PyProof.Rows
set_option Elab.async false
namespace Mine
/-- the pieces of a split, read -/
abbrev pcs (k : Nat) (x : Str) : List Str := (splP k (cl x)).map fun p => unescS ⟨p.toArray⟩
theorem pcs_cl (k : Nat) (x : Str) : (pcs k x).map cl = (splP k (cl x)).map (rd 92 fB) := by
  unfold pcs
  rw [List.map_map]
  refine List.map_congr_left fun p _ => ?_
  show cl (unescS (mk p)) = _
  rw [cl_unesc, mk_cl]
theorem take_mark {l : List Nat} {i k : Nat} (h : (l.drop i).take 1 = [k]) : l = l.take i ++ k :: l.drop (i + 1) := by
  conv => lhs; rw [← List.take_append_drop i l]
  congr 1
  cases hd : l.drop i with
  | nil => rw [hd] at h; simp at h
  | cons c r =>
    rw [hd] at h
    simp at h
    rw [h, ← List.drop_drop, hd]; rfl
theorem rest_cl (x : Str) (i : Nat) (hi : i ≤ x.length) : cl (Txt.slice (Txt.slice x (some (i : Int)) none) (some 1) none) = (cl x).drop (i + 1) := by
  rw [slice_from x hi, slice_tail, mk_cl, mk_cl, List.drop_drop]
theorem one_cl (x : Str) (i : Nat) (hi : i ≤ x.length) : cl (Txt.slice x none (some (i : Int))) = (cl x).take i := by
  rw [slice_to x hi, mk_cl]
theorem two_cl (x : Str) (i : Nat) (hi : i ≤ x.length) : cl (Txt.slice x (some (i : Int)) none) = (cl x).drop i := by
  rw [slice_from x hi, mk_cl]
theorem mark_cl {x : Str} {i k : Nat} (hi : i ≤ x.length) (hK : Txt.slice (Txt.slice x (some (i : Int)) none) none (some 1) = ⟨#[k]⟩) : ((cl x).drop i).take 1 = [k] := by
  rw [slice_first, two_cl x i hi] at hK
  have := congrArg cl hK
  rw [mk_cl] at this
  exact this
theorem even_eq (l : List Nat) : (((runL 92 l : Nat) : Int).fmod 2 == 0) = (runL 92 l % 2 == 0) := by
  rw [Bool.eq_iff_iff, beq_iff_eq, beq_iff_eq]
  exact fm2 _
theorem law56 {k : Nat} (hk : k ≠ 92) (x : Str) (i : Nat) (hi : i ≤ x.length) (hK : Txt.slice (Txt.slice x (some (i : Int)) none) none (some 1) = ⟨#[k]⟩) :
    (((splP k (cl (Txt.slice x none (some (i : Int))))).map fun p => unescS ⟨p.toArray⟩) ++ ((splP k (cl (Txt.slice (Txt.slice x (some (i : Int)) none) (some 1) none))).map fun p => unescS ⟨p.toArray⟩) == ((splP k (cl x)).map fun p => unescS ⟨p.toArray⟩)) =
      (((runL 92 ((cl x).take i).reverse : Nat) : Int).fmod 2 == 0) := by
  rw [even_eq, ← evn_run, one_cl x i hi, rest_cl x i hi]
  have hx := take_mark (mark_cl hi hK)
  generalize (cl x).take i = a at hx ⊢
  generalize (cl x).drop (i + 1) = r at hx ⊢
  rw [hx]
  cases he : evn 92 a with
  | true =>
    rw [splP_even hk r _ a (Nat.lt_succ_self _) he, List.map_append]
    exact beq_self_eq_true _
  | false =>
    refine beq_false_of_ne fun q => ?_
    have h1 := splP_odd hk r _ a (Nat.lt_succ_self _) he
    have h2 := congrArg List.length q
    rw [List.length_append, List.length_map, List.length_map, List.length_map] at h2
    omega
/-- how many marks stand ahead of the place that no odd row of backslashes goes ahead of -/
def cntF (k : Nat) (x : Str) (i : Nat) : Nat := ((List.range i).filter fun j => (cl x)[j]? == some k && runL 92 ((cl x).take j).reverse % 2 == 0).length
theorem cnt_step (k : Nat) (x : Str) (i : Nat) : cntF k x (i + 1) = cntF k x i + if (cl x)[i]? = some k ∧ runL 92 ((cl x).take i).reverse % 2 = 0 then 1 else 0 := by
  unfold cntF
  rw [List.range_succ, List.filter_append, List.length_append]
  congr 1
  by_cases h : (cl x)[i]? = some k ∧ runL 92 ((cl x).take i).reverse % 2 = 0
  · rw [if_pos h, List.filter_cons_of_pos (by simp [h.1, h.2])]; rfl
  · rw [if_neg h]
    have : ((cl x)[i]? == some k && runL 92 ((cl x).take i).reverse % 2 == 0) = false := by
      rw [Bool.eq_false_iff]
      intro q
      rw [Bool.and_eq_true, beq_iff_eq, beq_iff_eq] at q
      exact h q
    rw [List.filter_cons_of_neg (by rw [this]; exact Bool.false_ne_true)]; rfl
theorem cnt_len {k : Nat} (hk : k ≠ 92) (x : Str) : ∀ i, (splP k ((cl x).take i)).length = 1 + cntF k x i := by
  intro i
  induction i with
  | zero => simp [splP, cntF]
  | succ i ih =>
    rw [cnt_step]
    by_cases hl : i < x.length
    · obtain ⟨a, h1, _⟩ := cl_at hl
      rw [List.take_add_one, h1]
      show (splP k (_ ++ [a])).length = _
      rw [splP_len hk a _ _ (Nat.lt_succ_self _), ih, evn_run]
      have e : (a = k ∧ (runL 92 ((cl x).take i).reverse % 2 == 0) = true) ↔ (some a = some k ∧ runL 92 ((cl x).take i).reverse % 2 = 0) := by simp
      by_cases q : some a = some k ∧ runL 92 ((cl x).take i).reverse % 2 = 0
      · rw [if_pos q, if_pos (e.mpr q)]; omega
      · rw [if_neg q, if_neg (fun h => q (e.mp h))]; omega
    · have e1 : (cl x)[i]? = none := List.getElem?_eq_none (by rw [cl_len]; omega)
      rw [e1, if_neg (by simp)]
      rw [List.take_of_length_le (by rw [cl_len]; omega)] at ih ⊢
      rw [ih]; rfl
theorem mark_at {x : Str} {i k : Nat} (hi : i ≤ x.length) (hK : Txt.slice (Txt.slice x (some (i : Int)) none) none (some 1) = ⟨#[k]⟩) : (cl x)[i]? = some k := by
  have := mark_cl hi hK
  cases hd : (cl x).drop i with
  | nil => rw [hd] at this; simp at this
  | cons c r =>
    rw [hd] at this
    simp at this
    have e : (cl x)[i]? = ((cl x).drop i)[0]? := by rw [List.getElem?_drop]; rfl
    rw [e, hd, this]; rfl
theorem mark_not {x : Str} {i k : Nat} {K : Str} (hi : i ≤ x.length) (hK : K = ⟨#[k]⟩) (h : (Txt.slice (Txt.slice x (some (i : Int)) none) none (some 1) == K) = false) : (cl x)[i]? ≠ some k := by
  intro q
  have e : ((cl x).drop i).take 1 = [k] := by rw [drop_at q]; rfl
  rw [slice_first, two_cl x i hi, e, hK] at h
  have : (mk [k] == ⟨#[k]⟩) = true := beq_self_eq_true _
  rw [this] at h; cases h
theorem cnt_hit {k : Nat} {x : Str} {i : Nat} {ff : Nat} {r : Int} (hff : ff = 1 + cntF k x i) (h : (cl x)[i]? = some k)
    (hr : ((((runL 92 ((cl x).take i).reverse : Nat) : Int).fmod 2 = 0 ∧ r = (ff : Int) + 1) ∨ (((runL 92 ((cl x).take i).reverse : Nat) : Int).fmod 2 ≠ 0 ∧ r = (ff : Int)))) : ∃ f2 : Nat, r = (f2 : Int) ∧ f2 = 1 + cntF k x (i + 1) := by
  rw [cnt_step]
  rcases hr with ⟨h1, rfl⟩ | ⟨h1, rfl⟩
  · rw [fm2] at h1
    rw [if_pos ⟨h, h1⟩]
    exact ⟨ff + 1, by omega, by omega⟩
  · rw [Ne, fm2] at h1
    rw [if_neg (fun q => h1 q.2)]
    exact ⟨ff, rfl, by omega⟩
theorem cnt_miss {k : Nat} {x : Str} {i : Nat} {ff : Nat} (hff : ff = 1 + cntF k x i) (h : (cl x)[i]? ≠ some k) : ff = 1 + cntF k x (i + 1) := by
  rw [cnt_step, if_neg (fun q => h q.1)]; omega
theorem qs_law {k : Nat} (hk : k ≠ 34) (x : Str) (i : Nat) (hi : i ≤ x.length) (hK : Txt.slice (Txt.slice x (some (i : Int)) none) none (some 1) = ⟨#[k]⟩)
    (h1 : (Txt.slice x none (some (i : Int))).length ≠ 0) (h2 : (Txt.slice (Txt.slice x (some (i : Int)) none) (some 1) none).length ≠ 0) :
    (qsS k (Txt.slice x none (some (i : Int))) ++ qsS k (Txt.slice (Txt.slice x (some (i : Int)) none) (some 1) none) == qsS k x) = (((cl (Txt.slice x none (some (i : Int)))).count 34) % 2 == 0) := by
  have hx0 : x.length ≠ 0 := by
    intro q
    rw [← cl_len, rest_cl x i hi, List.length_drop, cl_len] at h2; omega
  unfold qsS
  rw [if_neg h1, if_neg h2, if_neg hx0, one_cl x i hi, rest_cl x i hi]
  have hx := take_mark (mark_cl hi hK)
  generalize (cl x).take i = a at hx ⊢
  generalize (cl x).drop (i + 1) = r at hx ⊢
  rw [hx, ← List.map_append]
  have hinj : ∀ u v : List (List Nat), (u.map mk == v.map mk) = decide (u = v) := by
    intro u v
    by_cases q : u = v
    · rw [q, decide_eq_true rfl]; exact beq_self_eq_true _
    · rw [decide_eq_false q]
      refine beq_false_of_ne fun e => q ?_
      have := congrArg (List.map cl) e
      rw [List.map_map, List.map_map] at this
      have hid : (cl ∘ mk) = _root_.id := by funext l; exact mk_cl l
      rw [hid, List.map_id, List.map_id] at this
      exact this
  rw [hinj, Bool.eq_iff_iff, decide_eq_true_eq, qs_cut hk, par_count]
  by_cases q : a.count 34 % 2 = 0 <;> simp [q]
theorem splF_count (y : Nat) (l : List Nat) : (spl1 y l).length = l.count y + 1 := by
  induction l with
  | nil => rfl
  | cons c r ih =>
    rw [spl1, List.count_cons]
    by_cases q : c = y
    · rw [if_pos q, List.length_cons, ih]; simp [q]
    · rw [if_neg q, push_len _ _ (spl1_ne _ _), ih]; simp [q]
theorem parts_len (x : Str) (w : Nat) : ∀ (a : Nat) (cuts : List Nat), (partsFrom x w a cuts).length = cuts.length + 1
  | _, [] => rfl
  | a, c :: r => by show (_ :: partsFrom x w (c + w) r).length = _; rw [List.length_cons, parts_len]; rfl
theorem count_cl (x : Str) (c : Nat) : Txt.count x ⟨#[c]⟩ = ((cl x).count c : Nat) := by
  have e2 : (cl x).length = x.length := cl_len x
  obtain ⟨f, hG, hN⟩ := occ_tight x ⟨#[c]⟩ (by simp [Str.length])
  have main := parts_splF x ⟨#[c]⟩ (by simp [Str.length]) (x.length + 1) 0 f _ (by rw [List.drop_zero, e2]; omega) hG hN
  rw [List.drop_zero] at main
  have := congrArg List.length main
  rw [List.length_map, parts_len] at this
  have h2 : splF (cl ⟨#[c]⟩) (x.length + 1) (cl x) = spl1 c (cl x) := spl1_eq _ _ _ (by rw [e2]; omega)
  rw [h2, splF_count] at this
  unfold Txt.count
  omega
/-- codes that a text may hold -/
theorem strOk_of {y : Str} (h : ∀ c ∈ cl y, c < 128) : PyData.strOk y = true := by
  unfold PyData.strOk
  rw [Array.all_eq_true']
  intro c hc
  have := h c (by simpa [cl] using hc)
  simp; omega
end Mine
end

section
open PySem PySem.StrLaws PySem.Builtin PySem.Builtin.Str PyProof.Rows
set_option Elab.async false
namespace Mine
/-- the text with plain line ends -/
def normS (x : Str) : Str := Txt.replace (Txt.replace (Txt.replace x (Str.ofString "\\N") (Str.ofString "\n")) (Str.ofString "\r\n") (Str.ofString "\n")) (Str.ofString "\r") (Str.ofString "\n")
def plainS (x : Str) : Str := Txt.replace (Txt.replace x (Str.ofString "\r\n") (Str.ofString "\n")) (Str.ofString "\r") (Str.ofString "\n")
theorem cl_norm (x : Str) : cl (normS x) = crlf (bN (cl x)) := by
  unfold normS crlf bN
  rw [show Str.ofString "\\N" = ⟨#[92, 78]⟩ from by decide +kernel, nl_is, show Str.ofString "\r\n" = ⟨#[13, 10]⟩ from by decide +kernel, show Str.ofString "\r" = ⟨#[13]⟩ from by decide +kernel]
  rw [replace1, replace2, replace2]
theorem cl_plain (x : Str) : cl (plainS x) = crlf (cl x) := by
  unfold plainS crlf
  rw [nl_is, show Str.ofString "\r\n" = ⟨#[13, 10]⟩ from by decide +kernel, show Str.ofString "\r" = ⟨#[13]⟩ from by decide +kernel]
  rw [replace1, replace2]
theorem beq_of_cl {x y : Str} (h : cl x = cl y) : (x == y) = true := by rw [eq_mk h]; exact beq_self_eq_true y
theorem T1 (x : Str) : (escS x == ⟨((cl (normS x)).flatMap lw).toArray⟩) = true := by
  refine beq_of_cl ?_
  rw [es_eq, es, cl_norm]
theorem lw_rd (c : Nat) (r : List Nat) : rd 92 fB (lw c ++ r) = c :: rd 92 fB r := by
  unfold lw
  by_cases h1 : c = 92
  · subst h1; exact rd_some (m := 92) (f := fB) (d := 92) (e := 92) rfl r
  rw [if_neg h1]
  by_cases h2 : c = 44
  · subst h2; exact rd_some (m := 92) (f := fB) (d := 44) (e := 44) rfl r
  rw [if_neg h2]
  by_cases h3 : c = 59
  · subst h3; exact rd_some (m := 92) (f := fB) (d := 59) (e := 59) rfl r
  rw [if_neg h3]
  by_cases h4 : c = 10
  · subst h4; exact rd_some (m := 92) (f := fB) (d := 110) (e := 10) rfl r
  rw [if_neg h4]
  exact rd_ne h1 r
theorem lc_rd (c : Nat) (r : List Nat) : rd 94 fC (lc c ++ r) = c :: rd 94 fC r := by
  unfold lc
  by_cases h1 : c = 94
  · subst h1; exact rd_some (m := 94) (f := fC) (d := 94) (e := 94) rfl r
  rw [if_neg h1]
  by_cases h2 : c = 10
  · subst h2; exact rd_some (m := 94) (f := fC) (d := 110) (e := 10) rfl r
  rw [if_neg h2]
  by_cases h3 : c = 34
  · subst h3; exact rd_some (m := 94) (f := fC) (d := 39) (e := 34) rfl r
  rw [if_neg h3]
  exact rd_ne h1 r
theorem T2 (x : Str) : (unescS (escS x) == normS x) = true := by
  refine beq_of_cl ?_
  rw [cl_unesc, es_eq, es, cl_norm, rd_flat fB_m lw_rd]
theorem T3 (x : Str) : (carS x == ⟨((cl (plainS x)).flatMap lc).toArray⟩) = true := by
  refine beq_of_cl ?_
  rw [ca_eq, ca_lc, cl_plain]
theorem T4 (x : Str) : (uncarS (carS x) == plainS x) = true := by
  refine beq_of_cl ?_
  rw [cl_uncar, ca_eq, ca_lc, cl_plain, rd_flat fC_m lc_rd]
theorem join_pcs {k : Nat} {K : Str} (hk : k ≠ 92) (hK : K = ⟨#[k]⟩) (x : Str) : (Txt.join K ((splP k (cl x)).map fun p => unescS ⟨p.toArray⟩) == unescS x) = true := by
  refine beq_of_cl ?_
  rw [tjoin_cl, hK, cl_unesc]
  show joinL [k] (List.map cl (pcs k x)) = _
  rw [pcs_cl, splP_join hk fB_m _ _ (Nat.lt_succ_self _)]
theorem T5 (x : Str) : (Txt.join (Str.ofString ",") ((splP 44 (cl x)).map fun p => unescS ⟨p.toArray⟩) == unescS x) = true := join_pcs (by decide) (by decide +kernel) x
theorem T6 (x : Str) : (Txt.join (Str.ofString ";") ((splP 59 (cl x)).map fun p => unescS ⟨p.toArray⟩) == unescS x) = true := join_pcs (by decide) (by decide +kernel) x
theorem len_pcs {k : Nat} (hk : k ≠ 92) (x : Str) {ff : Nat} (hff : ff = 1 + cntF k x (x.length + 1)) {ws : Array Value} (h : StrsAre ws.toList ((splP k (cl x)).map fun p => unescS ⟨p.toArray⟩)) : ((ws.size : Int) == (ff : Int)) = true := by
  have h1 := StrsAre.len h
  have h2 := cnt_len hk x (x.length + 1)
  rw [List.take_of_length_le (by rw [cl_len]; omega)] at h2
  rw [List.length_map, h2, ← hff] at h1
  rw [Array.length_toList] at h1
  rw [h1]; exact beq_self_eq_true _
theorem join_qs {k : Nat} {K : Str} (hK : K = ⟨#[k]⟩) (x : Str) : (Txt.join K (qsS k x) == x) = true := by
  refine beq_of_cl ?_
  rw [tjoin_cl, hK]
  show joinL [k] _ = _
  unfold qsS
  by_cases h : x.length = 0
  · rw [if_pos h]
    have : cl x = [] := List.eq_nil_of_length_eq_zero (by rw [cl_len]; exact h)
    rw [this]; rfl
  · rw [if_neg h, List.map_map]
    have hid : (cl ∘ mk) = _root_.id := by funext l; exact mk_cl l
    rw [hid, List.map_id, qs_join]
theorem T7a (x : Str) : (Txt.join (Str.ofString ",") (qsS 44 x) == x) = true := join_qs (by decide +kernel) x
theorem T7b (x : Str) : (Txt.join (Str.ofString ";") (qsS 59 x) == x) = true := join_qs (by decide +kernel) x
theorem fB_map (d : Nat) : hh 92 fB (if d = 78 then 110 else d) = (hh 92 fB d).map fun c => if c = 78 then 110 else c := by
  by_cases h : d = 78
  · subst h; decide
  rw [if_neg h]
  unfold hh fB
  by_cases h1 : d = 92
  · subst h1; decide
  by_cases h2 : d = 44
  · subst h2; decide
  by_cases h3 : d = 59
  · subst h3; decide
  by_cases h4 : d = 58
  · subst h4; decide
  by_cases h5 : d = 110
  · subst h5; decide
  simp [h, h1, h2, h3, h4, h5]
theorem T8 (x : Str) : (unescS (Txt.replace x (Str.ofString "N") (Str.ofString "n")) == Txt.replace (unescS x) (Str.ofString "N") (Str.ofString "n")) = true := by
  refine beq_of_cl ?_
  rw [cl_unesc, show Str.ofString "N" = ⟨#[78]⟩ from by decide +kernel, show Str.ofString "n" = ⟨#[110]⟩ from by decide +kernel, replace1, replace1, cl_unesc]
  show rd 92 fB (rep1 78 [110] _) = rep1 78 [110] _
  rw [rep1_map, rep1_map]
  refine rd_map (fun c => if c = 78 then 110 else c) fB_m ?_ rfl fB_map _ _ (Nat.lt_succ_self _)
  intro c hc
  show (if c = 78 then 110 else c) ≠ 92
  split
  · decide
  · exact hc
theorem T9 (x : Str) (h : Txt.contains x (Str.ofString "\\") = false) : (unescS x == x) = true := by
  refine beq_of_cl ?_
  rw [bs_is, contains_one] at h
  rw [cl_unesc, rd_free _ (by simpa using h)]
theorem no_pair {x : Str} {a b : Nat} (h : Txt.contains x ⟨#[a, b]⟩ = false) (i : Nat) (h1 : (cl x)[i]? = some a) (h2 : (cl x)[i + 1]? = some b) : False := by
  have h3 : (!(occurrences x ⟨#[a, b]⟩ 0 x.length 1).isEmpty) = true := by
    rw [found_iff]
    refine ⟨i, ?_, ?_⟩
    · have := lt_of_get h2
      show i + 2 ≤ _
      omega
    · rw [subAt_eq, drop_at h1, drop_at h2]; simp [Str.length]
  unfold Txt.contains at h
  rw [h3] at h; cases h
theorem T10 (x : Str) (h1 : Txt.contains x (Str.ofString "^^") = false) (h2 : Txt.contains x (Str.ofString "^n") = false) (h3 : Txt.contains x (Str.ofString "^'") = false) : (uncarS x == x) = true := by
  refine beq_of_cl ?_
  rw [show Str.ofString "^^" = ⟨#[94, 94]⟩ from by decide +kernel] at h1
  rw [show Str.ofString "^n" = ⟨#[94, 110]⟩ from by decide +kernel] at h2
  rw [show Str.ofString "^'" = ⟨#[94, 39]⟩ from by decide +kernel] at h3
  rw [cl_uncar]
  refine rd_nopair _ fun i d e1 e2 => ?_
  unfold fC
  by_cases q1 : d = 94
  · subst q1; exact (no_pair h1 i e1 e2).elim
  by_cases q2 : d = 110
  · subst q2; exact (no_pair h2 i e1 e2).elim
  by_cases q3 : d = 39
  · subst q3; exact (no_pair h3 i e1 e2).elim
  rw [if_neg q1, if_neg q2, if_neg q3]

/-- lengths and codes -/
theorem fB_lt (d e : Nat) (h : fB d = some e) : e < 128 := by
  unfold fB at h
  repeat' split at h
  all_goals (first | (cases h; done) | (have := Option.some.inj h; omega))
theorem unesc_lt {y : Str} (h : ∀ c ∈ cl y, c < 128) : ∀ c ∈ cl (unescS y), c < 128 := by
  rw [cl_unesc]
  exact rd_bound (P := fun c => c < 128) fB_lt _ _ (Nat.lt_succ_self _) h
theorem push_mem {P : Nat → Prop} {c : Nat} {ps : List (List Nat)} (hc : P c) (h : ∀ p ∈ ps, ∀ a ∈ p, P a) : ∀ p ∈ push c ps, ∀ a ∈ p, P a := by
  cases ps with
  | nil => intro p hp a ha; simp [push] at hp; subst hp; simp at ha; subst ha; exact hc
  | cons q qs =>
    intro p hp a ha
    simp only [push] at hp
    rcases List.mem_cons.mp hp with rfl | hp
    · rcases List.mem_cons.mp ha with rfl | ha
      · exact hc
      · exact h q List.mem_cons_self a ha
    · exact h p (List.mem_cons_of_mem _ hp) a ha
theorem splP_mem {P : Nat → Prop} (k : Nat) : ∀ (n : Nat) (l : List Nat), l.length < n → (∀ c ∈ l, P c) → ∀ p ∈ splP k l, ∀ a ∈ p, P a := by
  intro n
  induction n with
  | zero => intro l h; omega
  | succ n ih =>
    intro l h hl
    match l with
    | [] => intro p hp a ha; simp [splP] at hp; subst hp; simp at ha
    | [c] =>
      intro p hp a ha
      simp only [splP] at hp
      split at hp
      · simp at hp; subst hp; simp at ha
      · simp at hp; subst hp; exact hl a ha
    | c :: d :: r =>
      have hr := ih r (by simp at h; omega) fun c hc => hl c (List.mem_cons_of_mem _ (List.mem_cons_of_mem _ hc))
      have hdr := ih (d :: r) (by simp at h ⊢; omega) fun c hc => hl c (List.mem_cons_of_mem _ hc)
      have hc := hl c List.mem_cons_self
      have hd := hl d (List.mem_cons_of_mem _ List.mem_cons_self)
      rw [splP]
      split
      · exact push_mem hc (push_mem hd hr)
      · split
        · intro p hp a ha
          rcases List.mem_cons.mp hp with rfl | hp
          · simp at ha
          · exact hdr p hp a ha
        · exact push_mem hc hdr
theorem qs_mem {P : Nat → Prop} (k : Nat) : ∀ (l : List Nat) (q : Bool), (∀ c ∈ l, P c) → ∀ p ∈ qs k q l, ∀ a ∈ p, P a := by
  intro l
  induction l with
  | nil => intro q _ p hp a ha; simp [qs] at hp; subst hp; simp at ha
  | cons c r ih =>
    intro q hl
    have hr := ih (qf q c) fun c hc => hl c (List.mem_cons_of_mem _ hc)
    have hc := hl c List.mem_cons_self
    rw [qs]
    split
    · intro p hp a ha
      rcases List.mem_cons.mp hp with rfl | hp
      · simp at ha
      · exact hr p hp a ha
    · exact push_mem hc hr
theorem pcs_ok (k : Nat) {y : Str} (h : ∀ c ∈ cl y, c < 128) : ∀ z ∈ ((splP k (cl y)).map fun p => unescS ⟨p.toArray⟩), PyData.strOk z = true := by
  intro z hz
  obtain ⟨p, hp, rfl⟩ := List.mem_map.mp hz
  refine strOk_of (unesc_lt ?_)
  show ∀ c ∈ cl (mk p), c < 128
  rw [mk_cl]
  exact splP_mem (P := fun c => c < 128) k _ _ (Nat.lt_succ_self _) h p hp
theorem qsS_ok (k : Nat) {y : Str} (h : ∀ c ∈ cl y, c < 128) : ∀ z ∈ qsS k y, PyData.strOk z = true := by
  intro z hz
  unfold qsS at hz
  split at hz
  · simp at hz
  · obtain ⟨p, hp, rfl⟩ := List.mem_map.mp hz
    refine strOk_of ?_
    rw [mk_cl]
    exact qs_mem (P := fun c => c < 128) k _ _ h p hp
theorem one_lt {x : Str} {i : Nat} (hi : i ≤ x.length) (h : ∀ c ∈ cl x, c < 128) : ∀ c ∈ cl (Txt.slice x none (some (i : Int))), c < 128 := by
  rw [one_cl x i hi]; exact fun c hc => h c (List.mem_of_mem_take hc)
theorem rest_lt {x : Str} {i : Nat} (hi : i ≤ x.length) (h : ∀ c ∈ cl x, c < 128) : ∀ c ∈ cl (Txt.slice (Txt.slice x (some (i : Int)) none) (some 1) none), c < 128 := by
  rw [rest_cl x i hi]; exact fun c hc => h c (List.mem_of_mem_drop hc)
theorem app_ok {u v : List Str} (h1 : ∀ y ∈ u, PyData.strOk y = true) (h2 : ∀ y ∈ v, PyData.strOk y = true) : ∀ y ∈ u ++ v, PyData.strOk y = true := fun y hy => (List.mem_append.mp hy).elim (h1 y) (h2 y)
theorem splP_le (k : Nat) : ∀ (n : Nat) (l : List Nat), l.length < n → (splP k l).length ≤ l.length + 1 := by
  intro n
  induction n with
  | zero => intro l h; omega
  | succ n ih =>
    intro l h
    match l with
    | [] => simp [splP]
    | [c] => simp only [splP]; split <;> simp
    | c :: d :: r =>
      have hr := ih r (by simp at h; omega)
      have hdr := ih (d :: r) (by simp at h ⊢; omega)
      rw [splP]
      split
      · rw [push_len _ _ (push_ne _ _), push_len _ _ (splP_ne _ _)]; simp; omega
      · split
        · simp at hdr ⊢; omega
        · rw [push_len _ _ (splP_ne _ _)]; simp at hdr ⊢; omega
theorem qs_le (k : Nat) : ∀ (l : List Nat) (q : Bool), (qs k q l).length ≤ l.length + 1 := by
  intro l
  induction l with
  | nil => intro q; simp [qs]
  | cons c r ih =>
    intro q
    have := ih (qf q c)
    rw [qs]
    split
    · simp; omega
    · rw [push_len _ _ (qs_ne _ _ _)]; simp; omega
theorem slice2_le (x : Str) (a b c d : Option Int) : (Txt.slice (Txt.slice x a b) c d).length ≤ x.length := Nat.le_trans (Txt.slice_le _ _ _) (Txt.slice_le _ _ _)
theorem pcs_le (k : Nat) {y : Str} (h : y.length ≤ 8) : ((splP k (cl y)).map fun p => unescS ⟨p.toArray⟩).length ≤ 9 := by
  rw [List.length_map]
  have := splP_le k _ (cl y) (Nat.lt_succ_self _)
  rw [cl_len] at this; omega
theorem qsS_le (k : Nat) {y : Str} (h : y.length ≤ 8) : (qsS k y).length ≤ 9 := by
  unfold qsS
  split
  · simp
  · rw [List.length_map]
    have := qs_le k (cl y) false
    rw [cl_len] at this; omega
theorem flat_le {g : Nat → List Nat} (hg : ∀ c, (g c).length ≤ 2) (l : List Nat) : (l.flatMap g).length ≤ 2 * l.length := flatMap_len hg l
theorem rep2_le (a b c : Nat) : ∀ (n : Nat) (l : List Nat), l.length < n → (rep2 a b [c] l).length ≤ l.length := by
  intro n
  induction n with
  | zero => intro l h; omega
  | succ n ih =>
    intro l h
    match l with
    | [] => simp [rep2]
    | [c] => simp [rep2]
    | c :: d :: r =>
      have hr := ih r (by simp at h; omega)
      have hdr := ih (d :: r) (by simp at h ⊢; omega)
      rw [rep2]
      split
      · simp; omega
      · simp at hdr ⊢; omega
theorem crlf_le (l : List Nat) : (crlf l).length ≤ l.length := by
  unfold crlf
  rw [rep1_map, List.length_map]
  exact rep2_le 13 10 10 _ l (Nat.lt_succ_self _)
theorem escS_le {x : Str} (h : x.length ≤ 8) : (escS x).length ≤ 16 := by
  rw [← cl_len, es_eq, es]
  have h1 := flat_le (g := lw) (by intro c; unfold lw; repeat' split
                                   all_goals simp) (crlf (bN (cl x)))
  have h2 := crlf_le (bN (cl x))
  have h3 := rep2_le 92 78 10 _ (cl x) (Nat.lt_succ_self _)
  rw [cl_len] at h3
  unfold bN at h1 h2 ⊢
  omega
theorem carS_le {x : Str} (h : x.length ≤ 8) : (carS x).length ≤ 16 := by
  rw [← cl_len, ca_eq, ca_lc]
  have h1 := flat_le (g := lc) (by intro c; unfold lc; repeat' split
                                   all_goals simp) (crlf (cl x))
  have h2 := crlf_le (cl x)
  rw [cl_len] at h2
  omega
end Mine
end

section
open PySem PySem.StrLaws PySem.Builtin PySem.Builtin.Str PyProof.Rows
set_option Elab.async false
namespace Mine
theorem len_ne {n : Nat} (h : ((n : Int) != 0) = true) : n ≠ 0 := by
  intro q; subst q; simp at h
theorem law7 {k : Nat} (hk : k ≠ 34) (x : Str) (i : Nat) (hi : i ≤ x.length) (hK : Txt.slice (Txt.slice x (some (i : Int)) none) none (some 1) = ⟨#[k]⟩)
    (h1 : (((Txt.slice x none (some (i : Int))).length : Int) != 0) = true) (h2 : (((Txt.slice (Txt.slice x (some (i : Int)) none) (some 1) none).length : Int) != 0) = true) :
    (qsS k (Txt.slice x none (some (i : Int))) ++ qsS k (Txt.slice (Txt.slice x (some (i : Int)) none) (some 1) none) == qsS k x) = ((Txt.count (Txt.slice x none (some (i : Int))) (Str.ofString "\"")).fmod 2 == 0) := by
  rw [qs_law hk x i hi hK (len_ne h1) (len_ne h2), show Str.ofString "\"" = ⟨#[34]⟩ from by decide +kernel, count_cl]
  rw [Bool.eq_iff_iff, beq_iff_eq, beq_iff_eq]
  exact (fm2 _).symm
theorem push_b (bs : List Bool) (b : Bool) : (bs.map Value.bool).toArray.push (.bool b) = ((bs ++ [b]).map Value.bool).toArray := by simp
theorem zP (k : Nat) {x : Str} (hx : x.length ≤ 8) (a b c d e f : Option Int) : ((splP k (cl (Txt.slice x a b))).map fun p => unescS ⟨p.toArray⟩).length + ((splP k (cl (Txt.slice (Txt.slice x c d) e f))).map fun p => unescS ⟨p.toArray⟩).length ≤ 1000 := by
  have h1 := pcs_le k (y := Txt.slice x a b) (Nat.le_trans (Txt.slice_le _ _ _) hx)
  have h2 := pcs_le k (y := Txt.slice (Txt.slice x c d) e f) (Nat.le_trans (slice2_le _ _ _ _ _) hx)
  omega
theorem zQ (k : Nat) {x : Str} (hx : x.length ≤ 8) (a b c d e f : Option Int) : (qsS k (Txt.slice x a b)).length + (qsS k (Txt.slice (Txt.slice x c d) e f)).length ≤ 1000 := by
  have h1 := qsS_le k (y := Txt.slice x a b) (Nat.le_trans (Txt.slice_le _ _ _) hx)
  have h2 := qsS_le k (y := Txt.slice (Txt.slice x c d) e f) (Nat.le_trans (slice2_le _ _ _ _ _) hx)
  omega
theorem le6 {bs : List Bool} {i : Nat} (h : bs.length ≤ 6 * i) (a b c d : Bool) : ((((bs ++ [a]) ++ [b]) ++ [c]) ++ [d]).length ≤ 6 * (i + 1) := by simp; omega
theorem le65 {bs : List Bool} {i : Nat} (h : bs.length ≤ 6 * i) (a b c d e : Bool) : (((((bs ++ [a]) ++ [b]) ++ [c]) ++ [d]) ++ [e]).length ≤ 6 * (i + 1) := by simp; omega
theorem le66 {bs : List Bool} {i : Nat} (h : bs.length ≤ 6 * i) (a b c d e f : Bool) : ((((((bs ++ [a]) ++ [b]) ++ [c]) ++ [d]) ++ [e]) ++ [f]).length ≤ 6 * (i + 1) := by simp; omega
theorem cnt_one {k : Nat} {x : Str} {i ff : Nat} (hff : ff = 1 + cntF k x i) (h : (cl x)[i]? = some k) (he : (((runL 92 ((cl x).take i).reverse : Nat) : Int).fmod 2 == 0) = true) : ff + 1 = 1 + cntF k x (i + 1) := by
  rw [even_eq, beq_iff_eq] at he
  rw [cnt_step, if_pos ⟨h, he⟩]; omega
theorem cnt_none {k : Nat} {x : Str} {i ff : Nat} (hff : ff = 1 + cntF k x i) (he : ¬ (((runL 92 ((cl x).take i).reverse : Nat) : Int).fmod 2 == 0) = true) : ff = 1 + cntF k x (i + 1) := by
  rw [even_eq, beq_iff_eq] at he
  rw [cnt_step, if_neg (fun q => he q.2)]; omega
end Mine
end

section
open PySem PySem.StrLaws PySem.Builtin PySem.Builtin.Str PyProof.Rows
set_option Elab.async false
namespace Mine
/-- the law's signs -/
abbrev tbl : List Str := [Str.ofString "a", Str.ofString "\\", Str.ofString ",", Str.ofString "n", Str.ofString "\\", Str.ofString ";", Str.ofString ":", Str.ofString "\\", Str.ofString "^", Str.ofString "^", Str.ofString "'", Str.ofString "\"", Str.ofString "N", Str.ofString "\r", Str.ofString "\n", Str.ofString "\\"]
theorem tbl_is : ∀ n, n < 16 → tbl.getD n Str.empty = ⟨#[(cl (tbl.getD n Str.empty)).headD 0]⟩ ∧ (cl (tbl.getD n Str.empty)).headD 0 < 128 := by decide +kernel
theorem st0 : (Str.ofString "").length ≤ ([] : List Int).length ∧ noCB (cl (Str.ofString "")) ∧ ∀ c ∈ cl (Str.ofString ""), c < 128 := by
  have e0 : cl (Str.ofString "") = [] := by decide +kernel
  refine ⟨by decide, ?_, ?_⟩
  · rw [e0]; trivial
  · rw [e0]; intro c hc; cases hc
theorem st_step {t S : Str} {p : List Int} {k : Int} {c : Nat} (hS : S = ⟨#[c]⟩) (hc : c < 128) (h1 : t.length ≤ p.length) (h2 : noCB (cl t)) (h3 : ∀ a ∈ cl t, a < 128) (h4 : ¬ ((cl t).getLast? = some 13 ∧ c = 92)) :
    (t ++ S).length ≤ (p ++ [k]).length ∧ noCB (cl (t ++ S)) ∧ ∀ a ∈ cl (t ++ S), a < 128 := by
  have e : cl (t ++ S) = cl t ++ [c] := by rw [cl_app, hS]
  refine ⟨?_, ?_, ?_⟩
  · rw [← cl_len, e, List.length_append, List.length_append, cl_len]; simp; exact h1
  · rw [e]; exact noCB_snoc _ _ h2 h4
  · rw [e]
    intro a ha
    rcases List.mem_append.mp ha with ha | ha
    · exact h3 a ha
    · rw [List.mem_singleton.mp ha]; exact hc
theorem stP1 {t : Str} {p : List Int} {k : Int} (h1 : t.length ≤ p.length) (h2 : noCB (cl t)) (h3 : ∀ a ∈ cl t, a < 128) :
    (t ++ Str.ofString "n").length ≤ (p ++ [k]).length ∧ noCB (cl (t ++ Str.ofString "n")) ∧ ∀ a ∈ cl (t ++ Str.ofString "n"), a < 128 :=
  st_step (c := 110) (by decide +kernel) (by decide) h1 h2 h3 (by simp)
theorem stP2 {t : Str} {p : List Int} {k : Int} {n : Nat} (hn : n < 16) (h1 : t.length ≤ p.length) (h2 : noCB (cl t)) (h3 : ∀ a ∈ cl t, a < 128) (hr : ¬ (Txt.slice t (some (-1)) none == Str.ofString "\r") = true) :
    (t ++ tbl.getD n Str.empty).length ≤ (p ++ [k]).length ∧ noCB (cl (t ++ tbl.getD n Str.empty)) ∧ ∀ a ∈ cl (t ++ tbl.getD n Str.empty), a < 128 := by
  refine st_step (tbl_is n hn).1 (tbl_is n hn).2 h1 h2 h3 fun q => hr ?_
  obtain ⟨u, hu⟩ := last_split q.1
  rw [slice_last, hu]
  have : (u ++ [13]).drop ((u ++ [13]).length - 1) = [13] := by simp
  rw [this, show Str.ofString "\r" = ⟨#[13]⟩ from by decide +kernel]
  exact beq_self_eq_true _
theorem stP3 {t : Str} {p : List Int} {k : Int} {n : Nat} (hn : n < 16) (h1 : t.length ≤ p.length) (h2 : noCB (cl t)) (h3 : ∀ a ∈ cl t, a < 128) (hs : ¬ (tbl.getD n Str.empty == Str.ofString "\\") = true) :
    (t ++ tbl.getD n Str.empty).length ≤ (p ++ [k]).length ∧ noCB (cl (t ++ tbl.getD n Str.empty)) ∧ ∀ a ∈ cl (t ++ tbl.getD n Str.empty), a < 128 := by
  refine st_step (tbl_is n hn).1 (tbl_is n hn).2 h1 h2 h3 fun q => hs ?_
  rw [(tbl_is n hn).1, q.2, bs_is]
  exact beq_self_eq_true _
end Mine
end

section
open PySem PySem.StrLaws PySem.Builtin PySem.Builtin.Str PyProof.Rows
set_option Elab.async false
namespace Mine
theorem rd_len (m : Nat) (f : Nat → Option Nat) : ∀ (n : Nat) (l : List Nat), l.length < n → (rd m f l).length ≤ l.length := by
  intro n
  induction n with
  | zero => intro l h; omega
  | succ n ih =>
    intro l h
    match l with
    | [] => simp [rd]
    | [c] => simp [rd]
    | c :: d :: r =>
      have hr := ih r (by simp at h; omega)
      have hdr := ih (d :: r) (by simp at h ⊢; omega)
      rw [rd]
      split
      · split
        · simp; omega
        · simp at hdr ⊢; omega
      · simp at hdr ⊢; omega
theorem joinL_len (z : List Nat) : ∀ ps : List (List Nat), (ps.map (·.length)).sum ≤ (joinL z ps).length
  | [] => Nat.le_refl _
  | [p] => by simp [joinL]
  | p :: q :: r => by
    have := joinL_len z (q :: r)
    simp only [List.map_cons, List.sum_cons, joinL, List.length_append] at this ⊢
    omega
theorem len_cl (ys : List Str) : ys.map (·.length) = (ys.map cl).map (·.length) := by
  rw [List.map_map]
  exact List.map_congr_left fun y _ => (cl_len y).symm
theorem wP {k : Nat} (hk : k ≠ 92) {x : Str} (hx : x.length ≤ 8) : ((((splP k (cl x)).map fun p => unescS ⟨p.toArray⟩)).map (·.length)).sum + ((splP k (cl x)).map fun p => unescS ⟨p.toArray⟩).length ≤ 1048576 := by
  have h1 := pcs_le k hx
  have h2 : ((pcs k x).map (·.length)).sum ≤ 8 := by
    rw [len_cl, pcs_cl]
    have h3 := joinL_len [k] ((splP k (cl x)).map (rd 92 fB))
    rw [splP_join hk fB_m _ _ (Nat.lt_succ_self _)] at h3
    have h4 := rd_len 92 fB _ (cl x) (Nat.lt_succ_self _)
    rw [cl_len] at h4
    omega
  unfold pcs at h2
  omega
theorem wQ (k : Nat) {x : Str} (hx : x.length ≤ 8) : ((qsS k x).map (·.length)).sum + (qsS k x).length ≤ 1048576 := by
  have h1 := qsS_le k hx
  have h2 : ((qsS k x).map (·.length)).sum ≤ 8 := by
    unfold qsS
    split
    · simp
    · have h3 := joinL_len [k] (qs k false (cl x))
      rw [qs_join, cl_len] at h3
      rw [List.map_map]
      have : (qs k false (cl x)).map ((·.length) ∘ mk) = (qs k false (cl x)).map (·.length) := List.map_congr_left fun p _ => mk_len p
      rw [this]
      omega
  omega
theorem len_pcs2 {k : Nat} (hk : k ≠ 92) (x : Str) {ff : Nat} (hff : ff = 1 + cntF k x (x.length + 1)) : ((((splP k (cl x)).map fun p => unescS ⟨p.toArray⟩).length : Int) == (ff : Int)) = true := by
  have h2 := cnt_len hk x (x.length + 1)
  rw [List.take_of_length_le (by rw [cl_len]; omega)] at h2
  rw [List.length_map, h2, ← hff]; exact beq_self_eq_true _
end Mine
end

section
open PySem PySem.W PySem.Calls PyProof.Rows
set_option Elab.async false
set_option maxRecDepth 100000
namespace Mine
theorem ctr_runBK (x : Str) (k : Nat) (c : Nat) (K : Str) (hK : K = ⟨#[c]⟩) (t t1 t2 t3 : Tok) (hx : x.length ≤ 8) (hkx : k ≤ x.length) : Ctr 3 83 [.str x t, .int ((k : Int) - 1) t1, .int (-1) t2, .str K t3] (fun v own => ∃ t', v = .int (runL c ((cl x).take k).reverse : Nat) t' ∧ own = []) := by
  subst hK; exact ctr_runB x k c t t1 t2 t3 hx hkx
theorem ctr_mayK (x : Str) (k : Nat) (c : Nat) (K named shared : Str) (hK : K = ⟨#[c]⟩) (t t1 t2 t3 t4 : Tok) (hx : x.length ≤ 8) (hkx : k ≤ x.length) : Ctr 5 97 [.str x t, .int (k : Int) t1, .str K t2, .str named t3, .str shared t4] (fun v own => v = .bool (mayS x k c named shared) ∧ own = []) := by
  subst hK; exact ctr_may x k c named shared t t1 t2 t3 t4 hx hkx
/-- where the law's loop stands -/
def LawJ (x : Str) (tx : Tok) (Co Se To Du : Addr) (cows sews : Array Value) (nC nS : Nat) (i : Nat) (m : Str → Option Value) (news : List (Addr × Obj)) : Prop :=
  ∃ (bs : List Bool) (nT nD : Nat) (ff sf : Nat) (t1 t2 t3 t4 t5 t6 : Tok),
    news = [(Du, W.listOf (bs.map Value.bool).toArray nD), (To, W.listOf (bs.map Value.bool).toArray nT), (Se, W.listOf sews nS), (Co, W.listOf cows nC)] ∧
    m (Str.ofString "text") = some (.str x tx) ∧ m (Str.ofString "written") = some (.str (escS x) t1) ∧ m (Str.ofString "careted") = some (.str (carS x) t2) ∧ m (Str.ofString "whole") = some (.str (unescS x) t3) ∧ m (Str.ofString "bare") = some (.str (uncarS x) t4) ∧
    m (Str.ofString "commas") = some (.ref Co) ∧ m (Str.ofString "semicolons") = some (.ref Se) ∧ m (Str.ofString "told") = some (.ref To) ∧ m (Str.ofString "due") = some (.ref Du) ∧ m (Str.ofString "firsts") = some (.int (ff : Int) t5) ∧ m (Str.ofString "seconds") = some (.int (sf : Int) t6) ∧
    ff = 1 + cntF 44 x i ∧ sf = 1 + cntF 59 x i ∧ bs.length ≤ 6 * i
theorem news5 {h₀ h : Heap} {L : Addr} {a b c d e : Addr × Obj} (N : News h₀ L h [a, b, c, d, e]) : News h₀ L h [a, b, c, d] := fun p hp => N p (by
  simp only [List.mem_cons, List.not_mem_nil, or_false] at hp ⊢
  rcases hp with h | h | h | h <;> simp [h])
theorem size_start {a : Array Value} (h : a.size + 0 ≤ 1000) : a.size ≤ sizeLine := by
  rw [sizeLine_eq]; omega
theorem size_push {a : Array Value} {v : Value} {k : Nat} (h : a.size + (k + 1) ≤ 1000) : (a.push v).size + k ≤ 1000 := by
  rw [Array.size_push]; omega
theorem size_base {bs : List Bool} {k : Nat} (h : bs.length ≤ 48) (hk : k ≤ 900) : (bs.map Value.bool).toArray.size + k ≤ 1000 := by
  rw [List.size_toArray, List.length_map]; omega
theorem ite_p {c : Prop} [Decidable c] {a b : Prop} (h : c) (k : a) : ite c a b := by rw [if_pos h]; exact k
theorem ite_n {c : Prop} [Decidable c] {a b : Prop} (h : ¬ c) (k : b) : ite c a b := by rw [if_neg h]; exact k
theorem ite_split {c : Prop} [Decidable c] {a b : Prop} (h1 : c → a) (h2 : ¬ c → b) : ite c a b := by
  by_cases h : c
  · rw [if_pos h]; exact h1 h
  · rw [if_neg h]; exact h2 h

theorem with_lookup {K : Frag} {f : Addr} {o o' : Obj} {P : Prop} (h1 : K.lookup f = some o) (hl : K.lookup f = some o') (k : o' = o → P) : P := k (Option.some.inj (hl.symm.trans h1))
/-- the body of the law's own loop -/
def forBody (b : List Stmt) : List Stmt := match (b[12]? : Option Stmt) with
  | some (Stmt.For _ _ fb _ _) => fb
  | _ => []
theorem no_of {x y : Str} (h : (!!(Builtin.Str.occurrences x y 0 x.length 1).isEmpty) = true) : Txt.contains x y = false := by
  unfold Txt.contains; simpa using h
theorem join_strs {prog : Program} {w : World} {A : Around} {E : Value → Shared → Prop} {s : Shared} {h₀ : Heap} {L D : Addr} {news : List (Addr × Obj)} {x : Str} {t : Tok} {ws : Array Value} {n : Nat} {ys : List Str} {Q : Value → Shared → Prop} (N : News h₀ L s.heap news) (ma : (D, W.listOf ws n) ∈ news) (hi : StrsAre ws.toList ys) (hsep : x.length ≤ 16) (hw : (ys.map (·.length)).sum + ys.length ≤ 1048576) (ht : 0 < s.toks)
    (h : ∀ t' k, 0 < k → Q (.str (Txt.join x ys) t') { s with toks := k }) : wpAny (model prog w) A (call (.builtin "str.join") [.str x t, .ref D]) Q E s :=
  with_tk ht (join_listW (by rw [← Array.toArray_toList (xs := ws)]; exact is_listOf N ma) hi hsep hw fun t' k hk => h t' k hk)
theorem rsz (x : Str) : Builtin.Range.rangeSize 0 ((x.length : Int) + 1) 1 = ((x.length + 1 : Nat) : Int) := by
  unfold Builtin.Range.rangeSize
  simp only [show ((1 : Int) > 0) by decide, if_true, Int.ediv_one]
  split <;> omega
end Mine
end

section
open PySem PySem.W PySem.Calls PyProof.Rows
set_option Elab.async false
set_option maxRecDepth 100000
namespace Mine
/-- the walk starts anew: no line and no hit of an earlier text -/
theorem anew_Turn : True := by w_top off; k_with_none; trivial
local macro_rules | `(tactic| walk_at "call builtin:str.replace") => `(tactic| (k_here; (with_reducible show wpAny _ _ (call (Value.builtin "str.replace") [Value.str _ _, Value.str _ _, Value.str _ _]) _ _ _); (refine my_replace ?ka ?kb ?kc ?kd ?kw ?ke ?kg ?kf ?_); (case kw => decide); (case kg => (dsimp only; omega)); (case ka => (show @Ne Nat _ _; omega)); (case kb => (show @Ne Nat _ _; omega)); (case kc => (show @Ne Nat _ _; omega)); (case kd => decide); (case ke => decide); (case kf => omega); intro _ _ _ _))
local macro_rules | `(tactic| walk_at "execs cons") => `(tactic| (k_here; (refine gentoks_pos ?_); intro _ _))
local macro_rules | `(tactic| walk_at "execs cons") => `(tactic| (k_here; (refine execs_tk ?_ ?_); (first | with_reducible assumption | (dsimp only; first | with_reducible assumption | omega)); (try dsimp only)))
local macro_rules | `(tactic| walk_at "forall") => `(tactic| (k_here; (with_reducible show 0 < _ → _); first | (k_dflt (refine skip_succ ?_)) | intro _))
local macro_rules | `(tactic| walk_at "eval ListComp") => `(tactic| (k_here; k_dflt (refine my_comp (by k_asm) (by with_unfolding_all rfl) (by decide) (by rfl) (by decide) (by rfl) ?_)))
local macro_rules | `(tactic| walk_at "call builtin:str.split") => `(tactic| (k_here; (with_reducible show wpAny _ _ (call (Value.builtin "str.split") [Value.str _ _, Value.str _ _]) _ _ _); (refine KSpl.split1 (by k_asm) (by k_asm) (by decide) ?_ ?ks); (case ks => (rw [sizeLine_eq]; omega)); intro _ _ _ _ _ _ _ _ _))
local macro_rules | `(tactic| walk_at "mine enter") => `(tactic| (refine' enter0 ?k1 ?k2 ?k3 ?k5 ?kA ?kF ?kK ?k6 ?k7 ?k8 ?k9 ?kB ?_ ?c2 ?c3 ?c4 ?c5; (case kA => exact rfl); (case kF => exact rfl); (case kK => first | exact rfl | assumption); (case k1 => k_asm); (case k2 => k_asm); (case k3 => k_asm); (case k5 => k_asm); (case k6 => k_is); (case k7 => k_is); (case k8 => ktr_room); (case k9 => first | exact BindsTo.of_eq rfl | exact binds_K (by k_in) rfl (by k_is) rfl rfl rfl); (case c5 => decide); (case kB => exact locs rfl); (case c2 => exact rfl); (case c3 => exact rfl); (case c4 => exact rfl); k_whole; intro L' h' F' N' B' X' T'; (try dsimp only); (try k_lift B'); (try k_fold)))
local macro_rules | `(tactic| walk_at "OwnPost") => `(tactic| (dsimp only [OwnPost]))
local macro_rules | `(tactic| walk_at "mine use") => `(tactic| ((case k1 => k_asm); (case k2 => k_asm); (case k3 => k_asm); (case k4 => k_asm); (case k5 => k_asm); (case kK => first | exact rfl | assumption); (case kd => ktr_room); (case ku => ktr_units); (case kt => first | with_reducible assumption | (dsimp only; first | with_reducible assumption | omega))))
local macro_rules | `(tactic| walk_at "mine small") => `(tactic| first | with_reducible assumption | omega | (exact Nat.le_of_ble_eq_true rfl) | exact Nat.le_trans (KOpn.len_getD (M := 1) (by decide +kernel)) (by decide))
local macro_rules | `(tactic| walk_at "call ref") => `(tactic| (k_here; first
  | ((with_reducible show wpAny _ _ (call (Value.ref 66) _) _ _ _); k_dflt (refine' use_strB (ctr_esc _ _ ?hx) (escS_len _ ?hy) ?k1 ?k2 ?k3 ?k4 ?k5 ?kK ?kd ?ku ?kt ?_; (case hx => walk_at "mine small"); (case hy => walk_at "mine small"); walk_at "mine use"; intro t9 h9 tk9 hz9 ht9 F9 N9; (try dsimp only); (try k_sweep); (try k_fold)))
  | ((with_reducible show wpAny _ _ (call (Value.ref 19) _) _ _ _); k_dflt (refine' use_strB (ctr_unesc _ _ ?hx) (unescS_len _ ?hy) ?k1 ?k2 ?k3 ?k4 ?k5 ?kK ?kd ?ku ?kt ?_; (case hx => walk_at "mine small"); (case hy => walk_at "mine small"); walk_at "mine use"; intro t9 h9 tk9 hz9 ht9 F9 N9; (try dsimp only); (try k_sweep); (try k_fold)))
  | ((with_reducible show wpAny _ _ (call (Value.ref 46) _) _ _ _); k_dflt (refine' use_strB (ctr_uncar _ _ ?hx) (uncarS_len _ ?hy) ?k1 ?k2 ?k3 ?k4 ?k5 ?kK ?kd ?ku ?kt ?_; (case hx => walk_at "mine small"); (case hy => walk_at "mine small"); walk_at "mine use"; intro t9 h9 tk9 hz9 ht9 F9 N9; (try dsimp only); (try k_sweep); (try k_fold)))
  | ((with_reducible show wpAny _ _ (call (Value.ref 51) _) _ _ _); k_dflt (refine' use_strB (ctr_car _ _ ?hx) (carS_len _ ?hy) ?k1 ?k2 ?k3 ?k4 ?k5 ?kK ?kd ?ku ?kt ?_; (case hx => walk_at "mine small"); (case hy => walk_at "mine small"); walk_at "mine use"; intro t9 h9 tk9 hz9 ht9 F9 N9; (try dsimp only); (try k_sweep); (try k_fold)))
  | ((with_reducible show wpAny _ _ (call (Value.ref 90) _) _ _ _); k_dflt (refine' use_str (ctr_laidW _ _ ?hx) ?k1 ?k2 ?k3 ?k4 ?k5 ?kK ?kd ?ku ?kt ?_; (case hx => walk_at "mine small"); walk_at "mine use"; intro t9 h9 tk9 ht9 F9 N9; (try dsimp only); (try k_sweep); (try k_fold)))
  | ((with_reducible show wpAny _ _ (call (Value.ref 90) _) _ _ _); k_dflt (refine' use_str (ctr_laidC _ _ ?hx) ?k1 ?k2 ?k3 ?k4 ?k5 ?kK ?kd ?ku ?kt ?_; (case hx => walk_at "mine small"); walk_at "mine use"; intro t9 h9 tk9 ht9 F9 N9; (try dsimp only); (try k_sweep); (try k_fold)))
  | ((with_reducible show wpAny _ _ (call (Value.ref 97) _) _ _ _); k_dflt (refine' use_bool (ctr_mayK _ _ 92 _ _ _ ?hK _ _ _ _ _ ?hx ?hy) ?k1 ?k2 ?k3 ?k4 ?k5 ?kK ?kd ?ku ?kt ?_; (case hK => decide +kernel); (case hx => walk_at "mine small"); (case hy => walk_at "mine small"); walk_at "mine use"; intro h9 tk9 ht9 F9 N9; (try dsimp only); (try k_sweep); (try k_fold)))
  | ((with_reducible show wpAny _ _ (call (Value.ref 97) _) _ _ _); k_dflt (refine' use_bool (ctr_mayK _ _ 94 _ _ _ ?hK _ _ _ _ _ ?hx ?hy) ?k1 ?k2 ?k3 ?k4 ?k5 ?kK ?kd ?ku ?kt ?_; (case hK => decide +kernel); (case hx => walk_at "mine small"); (case hy => walk_at "mine small"); walk_at "mine use"; intro h9 tk9 ht9 F9 N9; (try dsimp only); (try k_sweep); (try k_fold)))
  | ((with_reducible show wpAny _ _ (call (Value.ref 83) _) _ _ _); k_dflt (refine' use_int (ctr_runBK _ _ 92 _ ?hK _ _ _ _ ?hx ?hy) ?k1 ?k2 ?k3 ?k4 ?k5 ?kK ?kd ?ku ?kt ?_; (case hK => decide +kernel); (case hx => walk_at "mine small"); (case hy => walk_at "mine small"); walk_at "mine use"; intro t9 h9 tk9 ht9 F9 N9; (try dsimp only); (try k_sweep); (try k_fold); refine Stop.go ?_))
  | ((with_reducible show wpAny _ _ (call (Value.ref 26) _) _ _ _); k_dflt (refine' use_list (ctr_commas _ _ ?hx) ?k1 ?k2 ?k3 ?k4 ?k5 ?kK ?kd ?ku ?kt ?_; (case hx => walk_at "mine small"); walk_at "mine use"; intro l9 ws9 n9 h9 tk9 ht9 S9 F9 N9 l1; (try simp only [List.forall_mem_cons, List.not_mem_nil, false_implies, implies_true, and_true] at l1); (repeat (obtain ⟨_, l1⟩ := l1)); (try dsimp only); (try k_sweep); (try k_fold)))
  | ((with_reducible show wpAny _ _ (call (Value.ref 33) _) _ _ _); k_dflt (refine' use_list (ctr_semis _ _ ?hx) ?k1 ?k2 ?k3 ?k4 ?k5 ?kK ?kd ?ku ?kt ?_; (case hx => walk_at "mine small"); walk_at "mine use"; intro l9 ws9 n9 h9 tk9 ht9 S9 F9 N9 l1; (try simp only [List.forall_mem_cons, List.not_mem_nil, false_implies, implies_true, and_true] at l1); (repeat (obtain ⟨_, l1⟩ := l1)); (try dsimp only); (try k_sweep); (try k_fold)))
  | ((with_reducible show wpAny _ _ (call (Value.ref 41) _) _ _ _); k_dflt (refine' use_list (ctr_qs _ _ 44 ?hK ?h34 _ _ ?hx) ?k1 ?k2 ?k3 ?k4 ?k5 ?kK ?kd ?ku ?kt ?_; (case hK => first | with_reducible assumption | decide +kernel); (case h34 => decide); (case hx => walk_at "mine small"); walk_at "mine use"; intro l9 ws9 n9 h9 tk9 ht9 S9 F9 N9 l1; (try simp only [List.forall_mem_cons, List.not_mem_nil, false_implies, implies_true, and_true] at l1); (repeat (obtain ⟨_, l1⟩ := l1)); (try dsimp only); (try k_sweep); (try k_fold)))
  | ((with_reducible show wpAny _ _ (call (Value.ref 41) _) _ _ _); k_dflt (refine' use_list (ctr_qs _ _ 59 ?hK ?h34 _ _ ?hx) ?k1 ?k2 ?k3 ?k4 ?k5 ?kK ?kd ?ku ?kt ?_; (case hK => first | with_reducible assumption | decide +kernel); (case h34 => decide); (case hx => walk_at "mine small"); walk_at "mine use"; intro l9 ws9 n9 h9 tk9 ht9 S9 F9 N9 l1; (try simp only [List.forall_mem_cons, List.not_mem_nil, false_implies, implies_true, and_true] at l1); (repeat (obtain ⟨_, l1⟩ := l1)); (try dsimp only); (try k_sweep); (try k_fold)))))
local macro_rules | `(tactic| walk_at "pyIter ref") => `(tactic| (k_here; (with_reducible show wpAny _ _ (pyIter (Value.ref _)) (fun it s₂ => LoopAtV _ _ _ _ _ _ _ _ _ it s₂) _ _); refine Stop.go ?_))
local macro_rules | `(tactic| walk_at "eval BoolOp") => `(tactic| (k_here; (with_reducible show wpAny _ _ (eval (Expr.BoolOp _ _ _) _) _ _ _); (fail_if_success (with_reducible rename GoOn => goOn9)); refine Stop.go ?_))
local macro_rules | `(tactic| walk_at "binaryOp Add str str") => `(tactic| (k_here; (with_reducible show wpAny _ _ (binaryOp Operator.Add (Value.str _ _) (Value.str _ _)) _ _ _); (refine add_big ?ka ?kb ?kc ?_); (case ka => first | with_reducible assumption | (dsimp only; first | with_reducible assumption | omega)); (case kb => walk_at "mine small"); (case kc => walk_at "mine small"); intro _ _ _ _))
local macro_rules | `(tactic| walk_at "inplaceOp Add str str") => `(tactic| (k_here; (with_reducible show wpAny _ _ (inplaceOp Operator.Add (Value.str _ _) (Value.str _ _)) _ _ _); (refine iadd_big ?ka ?kb ?kc ?_); (case ka => first | with_reducible assumption | (dsimp only; first | with_reducible assumption | omega)); (case kb => walk_at "mine small"); (case kc => walk_at "mine small"); intro _ _ _ _))
local macro_rules | `(tactic| walk_at "exec For Name Subscript cons nil") => `(tactic| (k_here; (rename Fr _ _ _ _ => lF'); (with_unfolding_all refine' For_invVF lF' ?k1 ?k2 ?_; (case k1 => exact rfl); (case k2 => exact rfl); k_whole)))
local macro_rules | `(tactic| walk_at "exec For Name Call cons nil") => `(tactic| (k_here; (rename Fr _ _ _ _ => lF'); (with_unfolding_all refine' For_invVF lF' ?k1 ?k2 ?_; (case k1 => exact rfl); (case k2 => exact rfl); k_whole)))
local macro_rules | `(tactic| walk_at "mine ne") => `(tactic| ((show @Ne Nat _ _); (try dsimp only); first | with_reducible assumption | (with_reducible refine Ne.symm ?_; with_reducible assumption)))
local macro_rules | `(tactic| walk_at "mine nes") => `(tactic| first | exact List.forall_mem_nil _ | (refine' List.forall_mem_cons.mpr ⟨?a, ?b⟩; (case a => walk_at "mine ne"); (case b => walk_at "mine nes")))
local macro_rules | `(tactic| walk_at "mine upd") => `(tactic| first | (refine' Upd.head ?a; (case a => walk_at "mine nes")) | (refine' Upd.tail ?a ?b; (case a => walk_at "mine ne"); (case b => walk_at "mine upd")))
local macro_rules | `(tactic| walk_at "mine size") => `(tactic| (refine size_start ?_; (repeat (refine size_push ?_)); exact size_base (by with_reducible assumption) (by decide)))
local macro_rules | `(tactic| walk_at "call builtin:list.append") => `(tactic| (k_here; (with_reducible show wpAny _ _ (call (Value.builtin _) [Value.ref _, _]) _ _ _); ((with_reducible rename Fr _ _ _ _ => lF9); (with_reducible rename News _ _ _ _ => lN9); refine' append_K lF9 lN9 ?k3 ?_ ?z; clear lF9 lN9; (case k3 => walk_at "mine upd"); (case z => walk_at "mine size"); k_whole); intro h' F' N'; (try k_sweep)))
local macro_rules | `(tactic| walk_at "ite") => `(tactic| refine Stop.go ?_)
local macro_rules | `(tactic| walk_at "mine mem") => `(tactic| first | with_reducible exact List.mem_cons_self | (with_reducible refine List.mem_cons_of_mem _ ?_; walk_at "mine mem"))
local macro_rules | `(tactic| walk_at "binaryOp Add ref ref") => `(tactic| (k_here; (with_reducible show wpAny _ _ (binaryOp Operator.Add (Value.ref _) (Value.ref _)) _ _ _); (with_reducible rename Fr _ _ _ _ => lF9); (with_reducible rename News _ _ _ _ => lN9); (refine' add_strs lF9 lN9 ?sa ?sb ?ma ?mb ?hz ?_; clear lF9 lN9; (case ma => walk_at "mine mem"); (case mb => walk_at "mine mem"); (case sa => with_reducible assumption); (case sb => with_reducible assumption); (case hz => with_reducible assumption); k_whole); intro D9 us9 h9 F9 N9 l1 S9; (try simp only [List.forall_mem_cons, List.not_mem_nil, false_implies, implies_true, and_true] at l1); (repeat (obtain ⟨_, l1⟩ := l1)); (try dsimp only); (try k_sweep)))
local macro_rules | `(tactic| walk_at "compareOp Eq ref ref") => `(tactic| (k_here; (with_reducible show wpAny _ _ (compareOp CmpOp.Eq (Value.ref _) (Value.ref _)) _ _ _); (with_reducible rename News _ _ _ _ => lN9); (refine' eq_strs lN9 ?sa ?sb ?ma ?mb ?da ?db ?hu ?_; clear lN9; (case ma => walk_at "mine mem"); (case mb => walk_at "mine mem"); (case sa => with_reducible assumption); (case sb => with_reducible assumption); (case da => with_reducible assumption); (case db => with_reducible assumption); (case hu => units_room); k_whole)))
local macro_rules | `(tactic| walk_at "mine sub") => `(tactic| first | exact List.forall_mem_nil _ | (refine' List.forall_mem_cons.mpr ⟨?a, ?b⟩; (case a => walk_at "mine mem"); (case b => walk_at "mine sub")))
set_option maxHeartbeats 20000000 in
theorem law_turn {w : World} {mg mb : Str → Option Value} {mean : ExcName → Option Value} {h₀ base h : Heap} {L fa : Addr} {cd : Value} {name qual : Str} {params : Arguments} {body : List Stmt} {scope : Scope} {dV kV doc pm cdv ct oc : Value} {an od : Option Addr} {osl : Array (Option Value)}
    (hlook : (_root_.Mine.hd.heap_39 w.params).lookup 104 = some ⟨oc, od, .func (fnOf name qual params body scope dV kV doc pm an cdv ct), osl⟩)
    {fb : List Stmt} (hfb : forBody body = fb)
    (K0 : Below callerA base [] h₀) (KX : (_root_.Mine.hd.heap_39 w.params).In h₀) (T : Top _root_.Mine.hd.view_39 (looseW _root_.Mine.hd.view_39 [Str.ofString "q_split", Str.ofString "to_unicode"]) mean mg mb h₀)
    {x : Str} {tx : Tok} {Co Se To Du : Addr} {cows sews : Array Value} {nC nS : Nat} (hx8 : x.length ≤ 8) (hcb : noCB (cl x)) (hlt : ∀ c ∈ cl x, c < 128)
    (hcows : StrsAre cows.toList ((splP 44 (cl x)).map fun p => unescS ⟨p.toArray⟩)) (hsews : StrsAre sews.toList ((splP 59 (cl x)).map fun p => unescS ⟨p.toArray⟩))
    (d1 : @Ne Nat Du To) (d2 : @Ne Nat Se To) (d3 : @Ne Nat Co To) (d4 : @Ne Nat Se Du) (d5 : @Ne Nat Co Du)
    {i tk : Nat} {u : Tok} {m₁ : Str → Option Value} {news₁ : List (Addr × Obj)} {I : Addr} {oI : Obj} {s : Shared} {Q : Flow → Shared → Prop} {E : Value → Shared → Prop}
    (hi : i < x.length + 1) (hJ : LawJ x tx Co Se To Du cows sews nC nS i m₁ news₁)
    (F₁ : Fr h₀ L h (fun y => if y = Str.ofString "at" then some (.int ((0 : Int) + (i : Int)) u) else m₁ y)) (N₁ : News h₀ L h ((I, oI) :: news₁)) (off : ∀ p ∈ news₁, p.1 ≠ I) :
    wpAny (model PySem.Challenge.rw_vg0011_01.row.prog w) (callerA.deeper (envOf qual scope L fa cd)) (execs fb (envOf qual scope L fa cd)) (OwnPost h₀ L (LawJ x tx Co Se To Du cows sews nC nS (i + 1)) (I, oI) { s with heap := h, toks := tk } Q) E { s with heap := h, toks := tk } := by
  subst hfb
  revert KX
  k_fill
  intro KX
  refine' with_lookup ?h1 hlook ?_
  case h1 => k_is
  clear hlook
  intro e
  cases e
  simp only [forBody, List.getElem?_cons_succ, List.getElem?_cons_zero]
  obtain ⟨bs, nT, nD, ff, sf, t1, t2, t3, t4, t5, t6, rfl, e1, e2, e3, e4, e5, e6, e7, e8, e9, e10, e11, hff, hsf, hbs⟩ := hJ
  have hi8 : i ≤ x.length := by omega
  have hb48 : bs.length ≤ 48 := by omega
  have F₂ := fr_under1 [(Str.ofString "text", .str x _), (Str.ofString "written", .str (escS x) t1), (Str.ofString "careted", .str (carS x) t2), (Str.ofString "whole", .str (unescS x) t3), (Str.ofString "bare", .str (uncarS x) t4), (Str.ofString "commas", .ref _), (Str.ofString "semicolons", .ref _), (Str.ofString "told", .ref _), (Str.ofString "due", .ref _), (Str.ofString "firsts", .int (ff : Int) t5), (Str.ofString "seconds", .int (sf : Int) t6)] F₁ (by
    intro p hp
    simp only [List.mem_cons, List.not_mem_nil, or_false] at hp
    rcases hp with rfl | rfl | rfl | rfl | rfl | rfl | rfl | rfl | rfl | rfl | rfl <;> assumption)
  clear F₁ e1 e2 e3 e4 e5 e6 e7 e8 e9 e10 e11
  simp only [List.forall_mem_cons, List.not_mem_nil, false_implies, implies_true, and_true] at off
  obtain ⟨o1, o2, o3, o4⟩ := off
  replace o1 := neN o1
  replace o2 := neN o2
  replace o3 := neN o3
  replace o4 := neN o4
  k_steps
  refine Stop.mk ?_
  refine cut_bool ((Txt.slice (Txt.slice x none (some (i : Int))) (some (-1)) none ++ Txt.slice (Txt.slice x (some (i : Int)) none) none (some 1) != Str.ofString "\r\n") && (Txt.slice (Txt.slice x none (some (i : Int))) (some (-1)) none ++ Txt.slice (Txt.slice x (some (i : Int)) none) none (some 1) != Str.ofString "\\N")) ?_ ?_
  · have goOn : GoOn := ⟨⟩
    k_steps
    refine Stop.mk ?_
    refine ite_split (fun hp => ?_) (fun hp => ?_)
    · k_steps
      refine cut_and2 hp ?_
      first | with_reducible assumption | (dsimp only; first | with_reducible assumption | omega)
    · k_steps
      refine cut_and1 (Bool.eq_false_iff.mpr hp) ?_
      first | with_reducible assumption | (dsimp only; first | with_reducible assumption | omega)
  intro tk5 htk5
  k_steps
  refine Stop.mk ?_
  k_steps
  refine Stop.mk ?_
  have e1 := law1 x i hi8 hcb
  have e2 := law2 x i hi8
  have e3 := law3 x i hi8
  have e4 := law4 x i hi8
  refine ite_split (fun hc44 => ?_) (fun hc44 => ?_)
  · have hK : Txt.slice (Txt.slice x (some (i : Int)) none) none (some 1) = ⟨#[44]⟩ := (eq_of_beq hc44).trans (by decide +kernel)
    have z1 : ((splP 44 (cl (Txt.slice x none (some (i : Int))))).map fun p => unescS ⟨p.toArray⟩).length + ((splP 44 (cl (Txt.slice (Txt.slice x (some (i : Int)) none) (some 1) none))).map fun p => unescS ⟨p.toArray⟩).length ≤ 1000 := zP 44 hx8 _ _ _ _ _ _
    have q1 : ∀ y ∈ ((splP 44 (cl (Txt.slice x none (some (i : Int))))).map fun p => unescS ⟨p.toArray⟩) ++ ((splP 44 (cl (Txt.slice (Txt.slice x (some (i : Int)) none) (some 1) none))).map fun p => unescS ⟨p.toArray⟩), PyData.strOk y = true := app_ok (pcs_ok 44 (one_lt hi8 hlt)) (pcs_ok 44 (rest_lt hi8 hlt))
    have q2 : ∀ y ∈ ((splP 44 (cl x)).map fun p => unescS ⟨p.toArray⟩), PyData.strOk y = true := pcs_ok 44 hlt
    have z2 : (qsS 44 (Txt.slice x none (some (i : Int)))).length + (qsS 44 (Txt.slice (Txt.slice x (some (i : Int)) none) (some 1) none)).length ≤ 1000 := zQ 44 hx8 _ _ _ _ _ _
    have q3 : ∀ y ∈ qsS 44 (Txt.slice x none (some (i : Int))) ++ qsS 44 (Txt.slice (Txt.slice x (some (i : Int)) none) (some 1) none), PyData.strOk y = true := app_ok (qsS_ok 44 (one_lt hi8 hlt)) (qsS_ok 44 (rest_lt hi8 hlt))
    have q4 : ∀ y ∈ qsS 44 x, PyData.strOk y = true := qsS_ok 44 hlt
    have e5 := law56 (k := 44) (by decide) x i hi8 hK
    have a44 := mark_at hi8 hK
    have hc59 : ¬ ((Txt.slice (Txt.slice x (some (i : Int)) none) none (some 1) == Str.ofString ";") = true) := by rw [hK]; decide +kernel
    k_steps
    refine Stop.mk ?_
    refine ite_n hc59 ?_
    k_steps
    refine Stop.mk ?_
    refine ite_p hc44 ?_
    refine ite_p rfl ?_
    k_steps
    refine Stop.mk ?_
    refine ite_split (fun ho => ?_) (fun ho => ?_)
    · k_steps
      refine Stop.mk ?_
      refine ite_split (fun hr => ?_) (fun hr => ?_)
      · k_steps
        refine Stop.mk ?_
        refine ite_p rfl ?_
        k_steps
        have e7 := law7 (k := 44) (by decide) x i hi8 hK ho hr
        rename (_ ∧ _ ∨ _ ∧ _) => hrr
        obtain ⟨f2, hf2, hf3⟩ := cnt_hit hff a44 hrr
        subst hf2
        rename Fr _ _ _ _ => FF
        rename News _ _ _ _ => NN
        rw [e1, e2, e3, e4, e5, e7] at NN
        simp only [push_b] at NN
        refine' OwnEnd.intro [(Du, W.listOf (List.map Value.bool ?bs1).toArray ?nD1), (To, W.listOf (List.map Value.bool ?bs1).toArray ?nT1), (Se, W.listOf sews nS), (Co, W.listOf cows nC)] FF NN ?hs ?ho ?hj
        case hs => walk_at "mine sub"
        case ho => walk_at "mine nes"
        case hj => exact ⟨_, _, _, f2, sf, _, _, _, _, _, _, rfl, rfl, rfl, rfl, rfl, rfl, rfl, rfl, rfl, rfl, rfl, rfl, hf3, cnt_miss hsf (by rw [a44]; decide), by simp only [List.length_append, List.length_singleton]; omega⟩
      · refine ite_n Bool.false_ne_true ?_
        k_steps
        rename (_ ∧ _ ∨ _ ∧ _) => hrr
        obtain ⟨f2, hf2, hf3⟩ := cnt_hit hff a44 hrr
        subst hf2
        rename Fr _ _ _ _ => FF
        rename News _ _ _ _ => NN
        rw [e1, e2, e3, e4, e5] at NN
        simp only [push_b] at NN
        refine' OwnEnd.intro [(Du, W.listOf (List.map Value.bool ?bs2).toArray ?nD2), (To, W.listOf (List.map Value.bool ?bs2).toArray ?nT2), (Se, W.listOf sews nS), (Co, W.listOf cows nC)] FF NN ?hs ?ho ?hj
        case hs => walk_at "mine sub"
        case ho => walk_at "mine nes"
        case hj => exact ⟨_, _, _, f2, sf, _, _, _, _, _, _, rfl, rfl, rfl, rfl, rfl, rfl, rfl, rfl, rfl, rfl, rfl, rfl, hf3, cnt_miss hsf (by rw [a44]; decide), by simp only [List.length_append, List.length_singleton]; omega⟩
    · refine ite_n Bool.false_ne_true ?_
      k_steps
      rename (_ ∧ _ ∨ _ ∧ _) => hrr
      obtain ⟨f2, hf2, hf3⟩ := cnt_hit hff a44 hrr
      subst hf2
      rename Fr _ _ _ _ => FF
      rename News _ _ _ _ => NN
      rw [e1, e2, e3, e4, e5] at NN
      simp only [push_b] at NN
      refine' OwnEnd.intro [(Du, W.listOf (List.map Value.bool ?bs3).toArray ?nD3), (To, W.listOf (List.map Value.bool ?bs3).toArray ?nT3), (Se, W.listOf sews nS), (Co, W.listOf cows nC)] FF NN ?hs ?ho ?hj
      case hs => walk_at "mine sub"
      case ho => walk_at "mine nes"
      case hj => exact ⟨_, _, _, f2, sf, _, _, _, _, _, _, rfl, rfl, rfl, rfl, rfl, rfl, rfl, rfl, rfl, rfl, rfl, rfl, hf3, cnt_miss hsf (by rw [a44]; decide), by simp only [List.length_append, List.length_singleton]; omega⟩
  · k_steps
    refine Stop.mk ?_
    refine ite_split (fun hc59 => ?_) (fun hc59 => ?_)
    · have hK : Txt.slice (Txt.slice x (some (i : Int)) none) none (some 1) = ⟨#[59]⟩ := (eq_of_beq hc59).trans (by decide +kernel)
      have z1 : ((splP 59 (cl (Txt.slice x none (some (i : Int))))).map fun p => unescS ⟨p.toArray⟩).length + ((splP 59 (cl (Txt.slice (Txt.slice x (some (i : Int)) none) (some 1) none))).map fun p => unescS ⟨p.toArray⟩).length ≤ 1000 := zP 59 hx8 _ _ _ _ _ _
      have q1 : ∀ y ∈ ((splP 59 (cl (Txt.slice x none (some (i : Int))))).map fun p => unescS ⟨p.toArray⟩) ++ ((splP 59 (cl (Txt.slice (Txt.slice x (some (i : Int)) none) (some 1) none))).map fun p => unescS ⟨p.toArray⟩), PyData.strOk y = true := app_ok (pcs_ok 59 (one_lt hi8 hlt)) (pcs_ok 59 (rest_lt hi8 hlt))
      have q2 : ∀ y ∈ ((splP 59 (cl x)).map fun p => unescS ⟨p.toArray⟩), PyData.strOk y = true := pcs_ok 59 hlt
      have z2 : (qsS 59 (Txt.slice x none (some (i : Int)))).length + (qsS 59 (Txt.slice (Txt.slice x (some (i : Int)) none) (some 1) none)).length ≤ 1000 := zQ 59 hx8 _ _ _ _ _ _
      have q3 : ∀ y ∈ qsS 59 (Txt.slice x none (some (i : Int))) ++ qsS 59 (Txt.slice (Txt.slice x (some (i : Int)) none) (some 1) none), PyData.strOk y = true := app_ok (qsS_ok 59 (one_lt hi8 hlt)) (qsS_ok 59 (rest_lt hi8 hlt))
      have q4 : ∀ y ∈ qsS 59 x, PyData.strOk y = true := qsS_ok 59 hlt
      have e5 := law56 (k := 59) (by decide) x i hi8 hK
      have a44 := mark_at hi8 hK
      k_steps
      refine Stop.mk ?_
      refine ite_split (fun hev => ?_) (fun hev => ?_)
      · k_steps
        refine Stop.mk ?_
        refine ite_n hc44 ?_
        k_steps
        refine Stop.mk ?_
        refine ite_p hc59 ?_
        refine ite_p rfl ?_
        k_steps
        refine Stop.mk ?_
        refine ite_split (fun ho => ?_) (fun ho => ?_)
        · k_steps
          refine Stop.mk ?_
          refine ite_split (fun hr => ?_) (fun hr => ?_)
          · k_steps
            refine Stop.mk ?_
            refine ite_p rfl ?_
            k_steps
            have e7 := law7 (k := 59) (by decide) x i hi8 hK ho hr
            rename Fr _ _ _ _ => FF
            rename News _ _ _ _ => NN
            rw [e1, e2, e3, e4, e5, e7] at NN
            simp only [push_b] at NN
            refine' OwnEnd.intro [(Du, W.listOf (List.map Value.bool ?bs4).toArray ?nD4), (To, W.listOf (List.map Value.bool ?bs4).toArray ?nT4), (Se, W.listOf sews nS), (Co, W.listOf cows nC)] FF NN ?hs ?ho ?hj
            case hs => walk_at "mine sub"
            case ho => walk_at "mine nes"
            case hj => exact ⟨_, _, _, ff, (sf + 1), _, _, _, _, _, _, rfl, rfl, rfl, rfl, rfl, rfl, rfl, rfl, rfl, rfl, rfl, rfl, cnt_miss hff (by rw [a44]; decide), (cnt_one hsf a44 hev), by simp only [List.length_append, List.length_singleton]; omega⟩
          · refine ite_n Bool.false_ne_true ?_
            k_steps
            rename Fr _ _ _ _ => FF
            rename News _ _ _ _ => NN
            rw [e1, e2, e3, e4, e5] at NN
            simp only [push_b] at NN
            refine' OwnEnd.intro [(Du, W.listOf (List.map Value.bool ?bs5).toArray ?nD5), (To, W.listOf (List.map Value.bool ?bs5).toArray ?nT5), (Se, W.listOf sews nS), (Co, W.listOf cows nC)] FF NN ?hs ?ho ?hj
            case hs => walk_at "mine sub"
            case ho => walk_at "mine nes"
            case hj => exact ⟨_, _, _, ff, (sf + 1), _, _, _, _, _, _, rfl, rfl, rfl, rfl, rfl, rfl, rfl, rfl, rfl, rfl, rfl, rfl, cnt_miss hff (by rw [a44]; decide), (cnt_one hsf a44 hev), by simp only [List.length_append, List.length_singleton]; omega⟩
        · refine ite_n Bool.false_ne_true ?_
          k_steps
          rename Fr _ _ _ _ => FF
          rename News _ _ _ _ => NN
          rw [e1, e2, e3, e4, e5] at NN
          simp only [push_b] at NN
          refine' OwnEnd.intro [(Du, W.listOf (List.map Value.bool ?bs6).toArray ?nD6), (To, W.listOf (List.map Value.bool ?bs6).toArray ?nT6), (Se, W.listOf sews nS), (Co, W.listOf cows nC)] FF NN ?hs ?ho ?hj
          case hs => walk_at "mine sub"
          case ho => walk_at "mine nes"
          case hj => exact ⟨_, _, _, ff, (sf + 1), _, _, _, _, _, _, rfl, rfl, rfl, rfl, rfl, rfl, rfl, rfl, rfl, rfl, rfl, rfl, cnt_miss hff (by rw [a44]; decide), (cnt_one hsf a44 hev), by simp only [List.length_append, List.length_singleton]; omega⟩
      · k_steps
        refine Stop.mk ?_
        refine ite_n hc44 ?_
        k_steps
        refine Stop.mk ?_
        refine ite_p hc59 ?_
        refine ite_p rfl ?_
        k_steps
        refine Stop.mk ?_
        refine ite_split (fun ho => ?_) (fun ho => ?_)
        · k_steps
          refine Stop.mk ?_
          refine ite_split (fun hr => ?_) (fun hr => ?_)
          · k_steps
            refine Stop.mk ?_
            refine ite_p rfl ?_
            k_steps
            have e7 := law7 (k := 59) (by decide) x i hi8 hK ho hr
            rename Fr _ _ _ _ => FF
            rename News _ _ _ _ => NN
            rw [e1, e2, e3, e4, e5, e7] at NN
            simp only [push_b] at NN
            refine' OwnEnd.intro [(Du, W.listOf (List.map Value.bool ?bs7).toArray ?nD7), (To, W.listOf (List.map Value.bool ?bs7).toArray ?nT7), (Se, W.listOf sews nS), (Co, W.listOf cows nC)] FF NN ?hs ?ho ?hj
            case hs => walk_at "mine sub"
            case ho => walk_at "mine nes"
            case hj => exact ⟨_, _, _, ff, sf, _, _, _, _, _, _, rfl, rfl, rfl, rfl, rfl, rfl, rfl, rfl, rfl, rfl, rfl, rfl, cnt_miss hff (by rw [a44]; decide), (cnt_none hsf hev), by simp only [List.length_append, List.length_singleton]; omega⟩
          · refine ite_n Bool.false_ne_true ?_
            k_steps
            rename Fr _ _ _ _ => FF
            rename News _ _ _ _ => NN
            rw [e1, e2, e3, e4, e5] at NN
            simp only [push_b] at NN
            refine' OwnEnd.intro [(Du, W.listOf (List.map Value.bool ?bs8).toArray ?nD8), (To, W.listOf (List.map Value.bool ?bs8).toArray ?nT8), (Se, W.listOf sews nS), (Co, W.listOf cows nC)] FF NN ?hs ?ho ?hj
            case hs => walk_at "mine sub"
            case ho => walk_at "mine nes"
            case hj => exact ⟨_, _, _, ff, sf, _, _, _, _, _, _, rfl, rfl, rfl, rfl, rfl, rfl, rfl, rfl, rfl, rfl, rfl, rfl, cnt_miss hff (by rw [a44]; decide), (cnt_none hsf hev), by simp only [List.length_append, List.length_singleton]; omega⟩
        · refine ite_n Bool.false_ne_true ?_
          k_steps
          rename Fr _ _ _ _ => FF
          rename News _ _ _ _ => NN
          rw [e1, e2, e3, e4, e5] at NN
          simp only [push_b] at NN
          refine' OwnEnd.intro [(Du, W.listOf (List.map Value.bool ?bs9).toArray ?nD9), (To, W.listOf (List.map Value.bool ?bs9).toArray ?nT9), (Se, W.listOf sews nS), (Co, W.listOf cows nC)] FF NN ?hs ?ho ?hj
          case hs => walk_at "mine sub"
          case ho => walk_at "mine nes"
          case hj => exact ⟨_, _, _, ff, sf, _, _, _, _, _, _, rfl, rfl, rfl, rfl, rfl, rfl, rfl, rfl, rfl, rfl, rfl, rfl, cnt_miss hff (by rw [a44]; decide), (cnt_none hsf hev), by simp only [List.length_append, List.length_singleton]; omega⟩
    · k_steps
      refine Stop.mk ?_
      refine ite_n hc44 ?_
      k_steps
      refine Stop.mk ?_
      refine ite_n hc59 ?_
      k_steps
      refine Stop.mk ?_
      refine ite_n Bool.false_ne_true ?_
      k_steps
      refine Stop.mk ?_
      refine ite_n Bool.false_ne_true ?_
      k_steps
      have a44 := mark_not (k := 44) hi8 (by decide +kernel) (Bool.eq_false_iff.mpr hc44)
      have a59 := mark_not (k := 59) hi8 (by decide +kernel) (Bool.eq_false_iff.mpr hc59)
      rename Fr _ _ _ _ => FF
      rename News _ _ _ _ => NN
      rw [e1, e2, e3, e4] at NN
      simp only [push_b] at NN
      refine' OwnEnd.intro [(Du, W.listOf (List.map Value.bool ?bs10).toArray ?nD10), (To, W.listOf (List.map Value.bool ?bs10).toArray ?nT10), (Se, W.listOf sews nS), (Co, W.listOf cows nC)] FF NN ?hs ?ho ?hj
      case hs => walk_at "mine sub"
      case ho => walk_at "mine nes"
      case hj => exact ⟨_, _, _, ff, sf, _, _, _, _, _, _, rfl, rfl, rfl, rfl, rfl, rfl, rfl, rfl, rfl, rfl, rfl, rfl, cnt_miss hff a44, cnt_miss hsf a59, by simp only [List.length_append, List.length_singleton]; omega⟩
end Mine
end

section
open PySem PySem.W PySem.Calls PyProof.Rows
set_option Elab.async false
set_option maxRecDepth 100000
namespace Mine
/-- the walk starts anew: no line and no hit of an earlier text -/
theorem anew_Tail : True := by w_top off; k_with_none; trivial
local macro_rules | `(tactic| walk_at "call builtin:str.replace") => `(tactic| (k_here; (with_reducible show wpAny _ _ (call (Value.builtin "str.replace") [Value.str _ _, Value.str _ _, Value.str _ _]) _ _ _); (refine my_replace ?ka ?kb ?kc ?kd ?kw ?ke ?kg ?kf ?_); (case kw => decide); (case kg => (dsimp only; omega)); (case ka => (show @Ne Nat _ _; omega)); (case kb => (show @Ne Nat _ _; omega)); (case kc => (show @Ne Nat _ _; omega)); (case kd => decide); (case ke => decide); (case kf => omega); intro _ _ _ _))
local macro_rules | `(tactic| walk_at "execs cons") => `(tactic| (k_here; (refine gentoks_pos ?_); intro _ _))
local macro_rules | `(tactic| walk_at "execs cons") => `(tactic| (k_here; (refine execs_tk ?_ ?_); (first | with_reducible assumption | (dsimp only; first | with_reducible assumption | omega)); (try dsimp only)))
local macro_rules | `(tactic| walk_at "forall") => `(tactic| (k_here; (with_reducible show 0 < _ → _); first | (k_dflt (refine skip_succ ?_)) | intro _))
local macro_rules | `(tactic| walk_at "eval ListComp") => `(tactic| (k_here; k_dflt (refine my_comp (by k_asm) (by with_unfolding_all rfl) (by decide) (by rfl) (by decide) (by rfl) ?_)))
local macro_rules | `(tactic| walk_at "call builtin:str.split") => `(tactic| (k_here; (with_reducible show wpAny _ _ (call (Value.builtin "str.split") [Value.str _ _, Value.str _ _]) _ _ _); (refine KSpl.split1 (by k_asm) (by k_asm) (by decide) ?_ ?ks); (case ks => (rw [sizeLine_eq]; omega)); intro _ _ _ _ _ _ _ _ _))
local macro_rules | `(tactic| walk_at "mine enter") => `(tactic| (refine' enter0 ?k1 ?k2 ?k3 ?k5 ?kA ?kF ?kK ?k6 ?k7 ?k8 ?k9 ?kB ?_ ?c2 ?c3 ?c4 ?c5; (case kA => exact rfl); (case kF => exact rfl); (case kK => first | exact rfl | assumption); (case k1 => k_asm); (case k2 => k_asm); (case k3 => k_asm); (case k5 => k_asm); (case k6 => k_is); (case k7 => k_is); (case k8 => ktr_room); (case k9 => first | exact BindsTo.of_eq rfl | exact binds_K (by k_in) rfl (by k_is) rfl rfl rfl); (case c5 => decide); (case kB => exact locs rfl); (case c2 => exact rfl); (case c3 => exact rfl); (case c4 => exact rfl); k_whole; intro L' h' F' N' B' X' T'; (try dsimp only); (try k_lift B'); (try k_fold)))
local macro_rules | `(tactic| walk_at "OwnPost") => `(tactic| (dsimp only [OwnPost]))
local macro_rules | `(tactic| walk_at "mine use") => `(tactic| ((case k1 => k_asm); (case k2 => k_asm); (case k3 => k_asm); (case k4 => k_asm); (case k5 => k_asm); (case kK => first | exact rfl | assumption); (case kd => ktr_room); (case ku => ktr_units); (case kt => first | with_reducible assumption | (dsimp only; first | with_reducible assumption | omega))))
local macro_rules | `(tactic| walk_at "mine small") => `(tactic| first | with_reducible assumption | omega | (exact Nat.le_of_ble_eq_true rfl) | exact Nat.le_trans (KOpn.len_getD (M := 1) (by decide +kernel)) (by decide))
local macro_rules | `(tactic| walk_at "call ref") => `(tactic| (k_here; first
  | ((with_reducible show wpAny _ _ (call (Value.ref 66) _) _ _ _); k_dflt (refine' use_strB (ctr_esc _ _ ?hx) (escS_len _ ?hy) ?k1 ?k2 ?k3 ?k4 ?k5 ?kK ?kd ?ku ?kt ?_; (case hx => walk_at "mine small"); (case hy => walk_at "mine small"); walk_at "mine use"; intro t9 h9 tk9 hz9 ht9 F9 N9; (try dsimp only); (try k_sweep); (try k_fold)))
  | ((with_reducible show wpAny _ _ (call (Value.ref 19) _) _ _ _); k_dflt (refine' use_strB (ctr_unesc _ _ ?hx) (unescS_len _ ?hy) ?k1 ?k2 ?k3 ?k4 ?k5 ?kK ?kd ?ku ?kt ?_; (case hx => walk_at "mine small"); (case hy => walk_at "mine small"); walk_at "mine use"; intro t9 h9 tk9 hz9 ht9 F9 N9; (try dsimp only); (try k_sweep); (try k_fold)))
  | ((with_reducible show wpAny _ _ (call (Value.ref 46) _) _ _ _); k_dflt (refine' use_strB (ctr_uncar _ _ ?hx) (uncarS_len _ ?hy) ?k1 ?k2 ?k3 ?k4 ?k5 ?kK ?kd ?ku ?kt ?_; (case hx => walk_at "mine small"); (case hy => walk_at "mine small"); walk_at "mine use"; intro t9 h9 tk9 hz9 ht9 F9 N9; (try dsimp only); (try k_sweep); (try k_fold)))
  | ((with_reducible show wpAny _ _ (call (Value.ref 51) _) _ _ _); k_dflt (refine' use_strB (ctr_car _ _ ?hx) (carS_len _ ?hy) ?k1 ?k2 ?k3 ?k4 ?k5 ?kK ?kd ?ku ?kt ?_; (case hx => walk_at "mine small"); (case hy => walk_at "mine small"); walk_at "mine use"; intro t9 h9 tk9 hz9 ht9 F9 N9; (try dsimp only); (try k_sweep); (try k_fold)))
  | ((with_reducible show wpAny _ _ (call (Value.ref 90) _) _ _ _); k_dflt (refine' use_str (ctr_laidW _ _ ?hx) ?k1 ?k2 ?k3 ?k4 ?k5 ?kK ?kd ?ku ?kt ?_; (case hx => walk_at "mine small"); walk_at "mine use"; intro t9 h9 tk9 ht9 F9 N9; (try dsimp only); (try k_sweep); (try k_fold)))
  | ((with_reducible show wpAny _ _ (call (Value.ref 90) _) _ _ _); k_dflt (refine' use_str (ctr_laidC _ _ ?hx) ?k1 ?k2 ?k3 ?k4 ?k5 ?kK ?kd ?ku ?kt ?_; (case hx => walk_at "mine small"); walk_at "mine use"; intro t9 h9 tk9 ht9 F9 N9; (try dsimp only); (try k_sweep); (try k_fold)))
  | ((with_reducible show wpAny _ _ (call (Value.ref 97) _) _ _ _); k_dflt (refine' use_bool (ctr_mayK _ _ 92 _ _ _ ?hK _ _ _ _ _ ?hx ?hy) ?k1 ?k2 ?k3 ?k4 ?k5 ?kK ?kd ?ku ?kt ?_; (case hK => decide +kernel); (case hx => walk_at "mine small"); (case hy => walk_at "mine small"); walk_at "mine use"; intro h9 tk9 ht9 F9 N9; (try dsimp only); (try k_sweep); (try k_fold)))
  | ((with_reducible show wpAny _ _ (call (Value.ref 97) _) _ _ _); k_dflt (refine' use_bool (ctr_mayK _ _ 94 _ _ _ ?hK _ _ _ _ _ ?hx ?hy) ?k1 ?k2 ?k3 ?k4 ?k5 ?kK ?kd ?ku ?kt ?_; (case hK => decide +kernel); (case hx => walk_at "mine small"); (case hy => walk_at "mine small"); walk_at "mine use"; intro h9 tk9 ht9 F9 N9; (try dsimp only); (try k_sweep); (try k_fold)))
  | ((with_reducible show wpAny _ _ (call (Value.ref 83) _) _ _ _); k_dflt (refine' use_int (ctr_runBK _ _ 92 _ ?hK _ _ _ _ ?hx ?hy) ?k1 ?k2 ?k3 ?k4 ?k5 ?kK ?kd ?ku ?kt ?_; (case hK => decide +kernel); (case hx => walk_at "mine small"); (case hy => walk_at "mine small"); walk_at "mine use"; intro t9 h9 tk9 ht9 F9 N9; (try dsimp only); (try k_sweep); (try k_fold); refine Stop.go ?_))
  | ((with_reducible show wpAny _ _ (call (Value.ref 26) _) _ _ _); k_dflt (refine' use_list (ctr_commas _ _ ?hx) ?k1 ?k2 ?k3 ?k4 ?k5 ?kK ?kd ?ku ?kt ?_; (case hx => walk_at "mine small"); walk_at "mine use"; intro l9 ws9 n9 h9 tk9 ht9 S9 F9 N9 l1; (try simp only [List.forall_mem_cons, List.not_mem_nil, false_implies, implies_true, and_true] at l1); (repeat (obtain ⟨_, l1⟩ := l1)); (try dsimp only); (try k_sweep); (try k_fold)))
  | ((with_reducible show wpAny _ _ (call (Value.ref 33) _) _ _ _); k_dflt (refine' use_list (ctr_semis _ _ ?hx) ?k1 ?k2 ?k3 ?k4 ?k5 ?kK ?kd ?ku ?kt ?_; (case hx => walk_at "mine small"); walk_at "mine use"; intro l9 ws9 n9 h9 tk9 ht9 S9 F9 N9 l1; (try simp only [List.forall_mem_cons, List.not_mem_nil, false_implies, implies_true, and_true] at l1); (repeat (obtain ⟨_, l1⟩ := l1)); (try dsimp only); (try k_sweep); (try k_fold)))
  | ((with_reducible show wpAny _ _ (call (Value.ref 41) _) _ _ _); k_dflt (refine' use_list (ctr_qs _ _ 44 ?hK ?h34 _ _ ?hx) ?k1 ?k2 ?k3 ?k4 ?k5 ?kK ?kd ?ku ?kt ?_; (case hK => first | with_reducible assumption | decide +kernel); (case h34 => decide); (case hx => walk_at "mine small"); walk_at "mine use"; intro l9 ws9 n9 h9 tk9 ht9 S9 F9 N9 l1; (try simp only [List.forall_mem_cons, List.not_mem_nil, false_implies, implies_true, and_true] at l1); (repeat (obtain ⟨_, l1⟩ := l1)); (try dsimp only); (try k_sweep); (try k_fold)))
  | ((with_reducible show wpAny _ _ (call (Value.ref 41) _) _ _ _); k_dflt (refine' use_list (ctr_qs _ _ 59 ?hK ?h34 _ _ ?hx) ?k1 ?k2 ?k3 ?k4 ?k5 ?kK ?kd ?ku ?kt ?_; (case hK => first | with_reducible assumption | decide +kernel); (case h34 => decide); (case hx => walk_at "mine small"); walk_at "mine use"; intro l9 ws9 n9 h9 tk9 ht9 S9 F9 N9 l1; (try simp only [List.forall_mem_cons, List.not_mem_nil, false_implies, implies_true, and_true] at l1); (repeat (obtain ⟨_, l1⟩ := l1)); (try dsimp only); (try k_sweep); (try k_fold)))))
local macro_rules | `(tactic| walk_at "pyIter ref") => `(tactic| (k_here; (with_reducible show wpAny _ _ (pyIter (Value.ref _)) (fun it s₂ => LoopAtV _ _ _ _ _ _ _ _ _ it s₂) _ _); refine Stop.go ?_))
local macro_rules | `(tactic| walk_at "eval BoolOp") => `(tactic| (k_here; (with_reducible show wpAny _ _ (eval (Expr.BoolOp _ _ _) _) _ _ _); (fail_if_success (with_reducible rename GoOn => goOn9)); refine Stop.go ?_))
local macro_rules | `(tactic| walk_at "binaryOp Add str str") => `(tactic| (k_here; (with_reducible show wpAny _ _ (binaryOp Operator.Add (Value.str _ _) (Value.str _ _)) _ _ _); (refine add_big ?ka ?kb ?kc ?_); (case ka => first | with_reducible assumption | (dsimp only; first | with_reducible assumption | omega)); (case kb => walk_at "mine small"); (case kc => walk_at "mine small"); intro _ _ _ _))
local macro_rules | `(tactic| walk_at "inplaceOp Add str str") => `(tactic| (k_here; (with_reducible show wpAny _ _ (inplaceOp Operator.Add (Value.str _ _) (Value.str _ _)) _ _ _); (refine iadd_big ?ka ?kb ?kc ?_); (case ka => first | with_reducible assumption | (dsimp only; first | with_reducible assumption | omega)); (case kb => walk_at "mine small"); (case kc => walk_at "mine small"); intro _ _ _ _))
local macro_rules | `(tactic| walk_at "exec For Name Subscript cons nil") => `(tactic| (k_here; (rename Fr _ _ _ _ => lF'); (with_unfolding_all refine' For_invVF lF' ?k1 ?k2 ?_; (case k1 => exact rfl); (case k2 => exact rfl); k_whole)))
local macro_rules | `(tactic| walk_at "exec For Name Call cons nil") => `(tactic| (k_here; (rename Fr _ _ _ _ => lF'); (with_unfolding_all refine' For_invVF lF' ?k1 ?k2 ?_; (case k1 => exact rfl); (case k2 => exact rfl); k_whole)))
local macro_rules | `(tactic| walk_at "mine ne") => `(tactic| ((show @Ne Nat _ _); (try dsimp only); first | with_reducible assumption | (with_reducible refine Ne.symm ?_; with_reducible assumption)))
local macro_rules | `(tactic| walk_at "mine nes") => `(tactic| first | exact List.forall_mem_nil _ | (refine' List.forall_mem_cons.mpr ⟨?a, ?b⟩; (case a => walk_at "mine ne"); (case b => walk_at "mine nes")))
local macro_rules | `(tactic| walk_at "mine upd") => `(tactic| first | (refine' Upd.head ?a; (case a => walk_at "mine nes")) | (refine' Upd.tail ?a ?b; (case a => walk_at "mine ne"); (case b => walk_at "mine upd")))
local macro_rules | `(tactic| walk_at "mine size") => `(tactic| (refine size_start ?_; (repeat (refine size_push ?_)); exact size_base (by with_reducible assumption) (by decide)))
local macro_rules | `(tactic| walk_at "call builtin:list.append") => `(tactic| (k_here; (with_reducible show wpAny _ _ (call (Value.builtin _) [Value.ref _, _]) _ _ _); ((with_reducible rename Fr _ _ _ _ => lF9); (with_reducible rename News _ _ _ _ => lN9); refine' append_K lF9 lN9 ?k3 ?_ ?z; clear lF9 lN9; (case k3 => walk_at "mine upd"); (case z => walk_at "mine size"); k_whole); intro h' F' N'; (try k_sweep)))
local macro_rules | `(tactic| walk_at "ite") => `(tactic| refine Stop.go ?_)
local macro_rules | `(tactic| walk_at "mine mem") => `(tactic| first | with_reducible exact List.mem_cons_self | (with_reducible refine List.mem_cons_of_mem _ ?_; walk_at "mine mem"))
local macro_rules | `(tactic| walk_at "binaryOp Add ref ref") => `(tactic| (k_here; (with_reducible show wpAny _ _ (binaryOp Operator.Add (Value.ref _) (Value.ref _)) _ _ _); (with_reducible rename Fr _ _ _ _ => lF9); (with_reducible rename News _ _ _ _ => lN9); (refine' add_strs lF9 lN9 ?sa ?sb ?ma ?mb ?hz ?_; clear lF9 lN9; (case ma => walk_at "mine mem"); (case mb => walk_at "mine mem"); (case sa => with_reducible assumption); (case sb => with_reducible assumption); (case hz => with_reducible assumption); k_whole); intro D9 us9 h9 F9 N9 l1 S9; (try simp only [List.forall_mem_cons, List.not_mem_nil, false_implies, implies_true, and_true] at l1); (repeat (obtain ⟨_, l1⟩ := l1)); (try dsimp only); (try k_sweep)))
local macro_rules | `(tactic| walk_at "compareOp Eq ref ref") => `(tactic| (k_here; (with_reducible show wpAny _ _ (compareOp CmpOp.Eq (Value.ref _) (Value.ref _)) _ _ _); (with_reducible rename News _ _ _ _ => lN9); (refine' eq_strs lN9 ?sa ?sb ?ma ?mb ?da ?db ?hu ?_; clear lN9; (case ma => walk_at "mine mem"); (case mb => walk_at "mine mem"); (case sa => with_reducible assumption); (case sb => with_reducible assumption); (case da => with_reducible assumption); (case db => with_reducible assumption); (case hu => units_room); k_whole)))
local macro_rules | `(tactic| walk_at "mine sub") => `(tactic| first | exact List.forall_mem_nil _ | (refine' List.forall_mem_cons.mpr ⟨?a, ?b⟩; (case a => walk_at "mine mem"); (case b => walk_at "mine sub")))
local macro_rules | `(tactic| walk_at "ite") => `(tactic| first | (with_reducible refine ite_p (Eq.refl true) ?_) | (with_reducible refine ite_n Bool.false_ne_true ?_) | (refine ite_p (by with_reducible assumption) ?_) | refine Stop.go ?_)
local macro_rules | `(tactic| walk_at "call builtin:str.join") => `(tactic| (k_here; (with_reducible show wpAny _ _ (call (Value.builtin "str.join") [Value.str _ _, Value.ref _]) _ _ _); (with_reducible rename News _ _ _ _ => lN9); (refine' join_strs lN9 ?ma ?hi ?hsep ?hw ?ht ?_; clear lN9; (case ma => walk_at "mine mem"); (case hi => with_reducible assumption); (case hsep => decide); (case hw => with_reducible assumption); (case ht => first | with_reducible assumption | (dsimp only; first | with_reducible assumption | omega)); k_whole); intro _ _ _))
local macro_rules | `(tactic| walk_at "compareOp Eq ref ref") => `(tactic| (k_here; (with_reducible show wpAny _ _ (compareOp CmpOp.Eq (Value.ref _) (Value.ref _)) _ _ _); (with_reducible rename News _ _ _ _ => lN9); (refine' eq_bools lN9 ?sa ?sb ?ma ?mb ?hu ?_; clear lN9; (case ma => walk_at "mine mem"); (case mb => walk_at "mine mem"); (case sa => exact List.toList_toArray); (case sb => exact List.toList_toArray); (case hu => units_room); k_whole)))
set_option maxHeartbeats 20000000 in
theorem law_tail {w : World} {mg mb : Str → Option Value} {mean : ExcName → Option Value} {h₀ base h : Heap} {L fa : Addr} {cd : Value} {name qual : Str} {params : Arguments} {body : List Stmt} {scope : Scope} {dV kV doc pm cdv ct oc : Value} {an od : Option Addr} {osl : Array (Option Value)}
    (hlook : (_root_.Mine.hd.heap_39 w.params).lookup 104 = some ⟨oc, od, .func (fnOf name qual params body scope dV kV doc pm an cdv ct), osl⟩)
    {tb : List Stmt} (htb : body.drop 13 = tb)
    (K0 : Below callerA base [] h₀) (KX : (_root_.Mine.hd.heap_39 w.params).In h₀) (T : Top _root_.Mine.hd.view_39 (looseW _root_.Mine.hd.view_39 [Str.ofString "q_split", Str.ofString "to_unicode"]) mean mg mb h₀)
    {x : Str} {tx : Tok} {Co Se To Du : Addr} {cows sews : Array Value} {nC nS : Nat} (hx8 : x.length ≤ 8) (hcb : noCB (cl x)) (hlt : ∀ c ∈ cl x, c < 128)
    (hcows : StrsAre cows.toList ((splP 44 (cl x)).map fun p => unescS ⟨p.toArray⟩)) (hsews : StrsAre sews.toList ((splP 59 (cl x)).map fun p => unescS ⟨p.toArray⟩))
    (d1 : @Ne Nat Du To) (d2 : @Ne Nat Se To) (d3 : @Ne Nat Co To) (d4 : @Ne Nat Se Du) (d5 : @Ne Nat Co Du)
    {tk : Nat} {m₁ : Str → Option Value} {news₁ : List (Addr × Obj)} {s : Shared} {Q : Flow → Shared → Prop} {E : Value → Shared → Prop} (htk : 0 < tk)
    (hJ : LawJ x tx Co Se To Du cows sews nC nS (x.length + 1) m₁ news₁) (F₁ : Fr h₀ L h m₁) (N₁ : News h₀ L h news₁)
    (hQ : ∀ h' m' news' tk', 0 < tk' → Fr h₀ L h' m' → News h₀ L h' news' → Q (.ret (.bool true)) { s with heap := h', toks := tk' }) :
    wpAny (model PySem.Challenge.rw_vg0011_01.row.prog w) (callerA.deeper (envOf qual scope L fa cd)) (execs tb (envOf qual scope L fa cd)) Q E { s with heap := h, toks := tk } := by
  subst htb
  revert KX
  k_fill
  intro KX
  refine' with_lookup ?h1 hlook ?_
  case h1 => k_is
  clear hlook
  intro e
  cases e
  simp only [List.drop_succ_cons, List.drop_zero]
  obtain ⟨bs, nT, nD, ff, sf, t1, t2, t3, t4, t5, t6, rfl, e1, e2, e3, e4, e5, e6, e7, e8, e9, e10, e11, hff, hsf, hbs⟩ := hJ
  have F₂ := fr_puts [(Str.ofString "text", .str x _), (Str.ofString "written", .str (escS x) t1), (Str.ofString "careted", .str (carS x) t2), (Str.ofString "whole", .str (unescS x) t3), (Str.ofString "bare", .str (uncarS x) t4), (Str.ofString "commas", .ref _), (Str.ofString "semicolons", .ref _), (Str.ofString "told", .ref _), (Str.ofString "due", .ref _), (Str.ofString "firsts", .int (ff : Int) t5), (Str.ofString "seconds", .int (sf : Int) t6)] F₁ (by
    intro p hp
    simp only [List.mem_cons, List.not_mem_nil, or_false] at hp
    rcases hp with rfl | rfl | rfl | rfl | rfl | rfl | rfl | rfl | rfl | rfl | rfl <;> assumption)
  clear F₁ e1 e2 e3 e4 e5 e6 e7 e8 e9 e10 e11
  have hbb : (bs == bs) = true := beq_self_eq_true bs
  have l1 := escS_le hx8
  have l2 := carS_le hx8
  have l3 := unescS_len x (by omega)
  have l4 := uncarS_len x (by omega)
  have goOn : GoOn := ⟨⟩
  have u1 := T1 x
  have u2 := T2 x
  have u3 := T3 x
  have u4 := T4 x
  have u5 := T5 x
  have u6 := T6 x
  have u7 := T7a x
  have u8 := T7b x
  have u9 := T8 x
  have u10 := len_pcs2 (k := 44) (by decide) x hff
  have u11 := len_pcs2 (k := 59) (by decide) x hsf
  have w1 := wP (k := 44) (by decide) hx8
  have w2 := wP (k := 59) (by decide) hx8
  have w3 := wQ 44 hx8
  have w4 := wQ 59 hx8
  unfold normS at u1 u2
  unfold plainS at u3 u4
  k_steps
  refine Stop.mk ?_
  refine ite_split (fun hb => ?_) (fun hb => ?_)
  · have v1 := T9 x (no_of hb)
    k_steps
    refine Stop.mk ?_
    refine ite_split (fun c1 => ?_) (fun c1 => ?_)
    · k_steps
      refine Stop.mk ?_
      refine ite_split (fun c2 => ?_) (fun c2 => ?_)
      · k_steps
        refine Stop.mk ?_
        refine ite_split (fun c3 => ?_) (fun c3 => ?_)
        · have v2 := T10 x (no_of c1) (no_of c2) (no_of c3)
          k_steps
          rename Fr _ _ _ _ => FF
          rename News _ _ _ _ => NN
          rw [hbb]
          exact hQ _ _ _ _ (by first | with_reducible assumption | omega) FF NN
        · k_steps
          rename Fr _ _ _ _ => FF
          rename News _ _ _ _ => NN
          rw [hbb]
          exact hQ _ _ _ _ (by first | with_reducible assumption | omega) FF NN
      · k_steps
        rename Fr _ _ _ _ => FF
        rename News _ _ _ _ => NN
        rw [hbb]
        exact hQ _ _ _ _ (by first | with_reducible assumption | omega) FF NN
    · k_steps
      rename Fr _ _ _ _ => FF
      rename News _ _ _ _ => NN
      rw [hbb]
      exact hQ _ _ _ _ (by first | with_reducible assumption | omega) FF NN
  · k_steps
    refine Stop.mk ?_
    refine ite_split (fun c1 => ?_) (fun c1 => ?_)
    · k_steps
      refine Stop.mk ?_
      refine ite_split (fun c2 => ?_) (fun c2 => ?_)
      · k_steps
        refine Stop.mk ?_
        refine ite_split (fun c3 => ?_) (fun c3 => ?_)
        · have v2 := T10 x (no_of c1) (no_of c2) (no_of c3)
          k_steps
          rename Fr _ _ _ _ => FF
          rename News _ _ _ _ => NN
          rw [hbb]
          exact hQ _ _ _ _ (by first | with_reducible assumption | omega) FF NN
        · k_steps
          rename Fr _ _ _ _ => FF
          rename News _ _ _ _ => NN
          rw [hbb]
          exact hQ _ _ _ _ (by first | with_reducible assumption | omega) FF NN
      · k_steps
        rename Fr _ _ _ _ => FF
        rename News _ _ _ _ => NN
        rw [hbb]
        exact hQ _ _ _ _ (by first | with_reducible assumption | omega) FF NN
    · k_steps
      rename Fr _ _ _ _ => FF
      rename News _ _ _ _ => NN
      rw [hbb]
      exact hQ _ _ _ _ (by first | with_reducible assumption | omega) FF NN
end Mine
end

section
open PySem PySem.W PySem.Calls PyProof.Rows
set_option Elab.async false
set_option maxRecDepth 100000
namespace Mine
/-- the walk starts anew: no line and no hit of an earlier text -/
theorem anew_Main : True := by w_top off; k_with_none; trivial
local macro_rules | `(tactic| walk_at "call builtin:str.replace") => `(tactic| (k_here; (with_reducible show wpAny _ _ (call (Value.builtin "str.replace") [Value.str _ _, Value.str _ _, Value.str _ _]) _ _ _); (refine my_replace ?ka ?kb ?kc ?kd ?kw ?ke ?kg ?kf ?_); (case kw => decide); (case kg => (dsimp only; omega)); (case ka => (show @Ne Nat _ _; omega)); (case kb => (show @Ne Nat _ _; omega)); (case kc => (show @Ne Nat _ _; omega)); (case kd => decide); (case ke => decide); (case kf => omega); intro _ _ _ _))
local macro_rules | `(tactic| walk_at "execs cons") => `(tactic| (k_here; (refine gentoks_pos ?_); intro _ _))
local macro_rules | `(tactic| walk_at "execs cons") => `(tactic| (k_here; (refine execs_tk ?_ ?_); (first | with_reducible assumption | (dsimp only; first | with_reducible assumption | omega)); (try dsimp only)))
local macro_rules | `(tactic| walk_at "forall") => `(tactic| (k_here; (with_reducible show 0 < _ → _); first | (k_dflt (refine skip_succ ?_)) | intro _))
local macro_rules | `(tactic| walk_at "eval ListComp") => `(tactic| (k_here; k_dflt (refine my_comp (by k_asm) (by with_unfolding_all rfl) (by decide) (by rfl) (by decide) (by rfl) ?_)))
local macro_rules | `(tactic| walk_at "call builtin:str.split") => `(tactic| (k_here; (with_reducible show wpAny _ _ (call (Value.builtin "str.split") [Value.str _ _, Value.str _ _]) _ _ _); (refine KSpl.split1 (by k_asm) (by k_asm) (by decide) ?_ ?ks); (case ks => (rw [sizeLine_eq]; omega)); intro _ _ _ _ _ _ _ _ _))
local macro_rules | `(tactic| walk_at "mine enter") => `(tactic| (refine' enter0 ?k1 ?k2 ?k3 ?k5 ?kA ?kF ?kK ?k6 ?k7 ?k8 ?k9 ?kB ?_ ?c2 ?c3 ?c4 ?c5; (case kA => exact rfl); (case kF => exact rfl); (case kK => first | exact rfl | assumption); (case k1 => k_asm); (case k2 => k_asm); (case k3 => k_asm); (case k5 => k_asm); (case k6 => k_is); (case k7 => k_is); (case k8 => ktr_room); (case k9 => first | exact BindsTo.of_eq rfl | exact binds_K (by k_in) rfl (by k_is) rfl rfl rfl); (case c5 => decide); (case kB => exact locs rfl); (case c2 => exact rfl); (case c3 => exact rfl); (case c4 => exact rfl); k_whole; intro L' h' F' N' B' X' T'; (try dsimp only); (try k_lift B'); (try k_fold)))
local macro_rules | `(tactic| walk_at "OwnPost") => `(tactic| (dsimp only [OwnPost]))
local macro_rules | `(tactic| walk_at "mine use") => `(tactic| ((case k1 => k_asm); (case k2 => k_asm); (case k3 => k_asm); (case k4 => k_asm); (case k5 => k_asm); (case kK => first | exact rfl | assumption); (case kd => ktr_room); (case ku => ktr_units); (case kt => first | with_reducible assumption | (dsimp only; first | with_reducible assumption | omega))))
local macro_rules | `(tactic| walk_at "mine small") => `(tactic| first | with_reducible assumption | omega | (exact Nat.le_of_ble_eq_true rfl) | exact Nat.le_trans (KOpn.len_getD (M := 1) (by decide +kernel)) (by decide))
local macro_rules | `(tactic| walk_at "call ref") => `(tactic| (k_here; first
  | ((with_reducible show wpAny _ _ (call (Value.ref 66) _) _ _ _); k_dflt (refine' use_strB (ctr_esc _ _ ?hx) (escS_len _ ?hy) ?k1 ?k2 ?k3 ?k4 ?k5 ?kK ?kd ?ku ?kt ?_; (case hx => walk_at "mine small"); (case hy => walk_at "mine small"); walk_at "mine use"; intro t9 h9 tk9 hz9 ht9 F9 N9; (try dsimp only); (try k_sweep); (try k_fold)))
  | ((with_reducible show wpAny _ _ (call (Value.ref 19) _) _ _ _); k_dflt (refine' use_strB (ctr_unesc _ _ ?hx) (unescS_len _ ?hy) ?k1 ?k2 ?k3 ?k4 ?k5 ?kK ?kd ?ku ?kt ?_; (case hx => walk_at "mine small"); (case hy => walk_at "mine small"); walk_at "mine use"; intro t9 h9 tk9 hz9 ht9 F9 N9; (try dsimp only); (try k_sweep); (try k_fold)))
  | ((with_reducible show wpAny _ _ (call (Value.ref 46) _) _ _ _); k_dflt (refine' use_strB (ctr_uncar _ _ ?hx) (uncarS_len _ ?hy) ?k1 ?k2 ?k3 ?k4 ?k5 ?kK ?kd ?ku ?kt ?_; (case hx => walk_at "mine small"); (case hy => walk_at "mine small"); walk_at "mine use"; intro t9 h9 tk9 hz9 ht9 F9 N9; (try dsimp only); (try k_sweep); (try k_fold)))
  | ((with_reducible show wpAny _ _ (call (Value.ref 51) _) _ _ _); k_dflt (refine' use_strB (ctr_car _ _ ?hx) (carS_len _ ?hy) ?k1 ?k2 ?k3 ?k4 ?k5 ?kK ?kd ?ku ?kt ?_; (case hx => walk_at "mine small"); (case hy => walk_at "mine small"); walk_at "mine use"; intro t9 h9 tk9 hz9 ht9 F9 N9; (try dsimp only); (try k_sweep); (try k_fold)))
  | ((with_reducible show wpAny _ _ (call (Value.ref 90) _) _ _ _); k_dflt (refine' use_str (ctr_laidW _ _ ?hx) ?k1 ?k2 ?k3 ?k4 ?k5 ?kK ?kd ?ku ?kt ?_; (case hx => walk_at "mine small"); walk_at "mine use"; intro t9 h9 tk9 ht9 F9 N9; (try dsimp only); (try k_sweep); (try k_fold)))
  | ((with_reducible show wpAny _ _ (call (Value.ref 90) _) _ _ _); k_dflt (refine' use_str (ctr_laidC _ _ ?hx) ?k1 ?k2 ?k3 ?k4 ?k5 ?kK ?kd ?ku ?kt ?_; (case hx => walk_at "mine small"); walk_at "mine use"; intro t9 h9 tk9 ht9 F9 N9; (try dsimp only); (try k_sweep); (try k_fold)))
  | ((with_reducible show wpAny _ _ (call (Value.ref 97) _) _ _ _); k_dflt (refine' use_bool (ctr_mayK _ _ 92 _ _ _ ?hK _ _ _ _ _ ?hx ?hy) ?k1 ?k2 ?k3 ?k4 ?k5 ?kK ?kd ?ku ?kt ?_; (case hK => decide +kernel); (case hx => walk_at "mine small"); (case hy => walk_at "mine small"); walk_at "mine use"; intro h9 tk9 ht9 F9 N9; (try dsimp only); (try k_sweep); (try k_fold)))
  | ((with_reducible show wpAny _ _ (call (Value.ref 97) _) _ _ _); k_dflt (refine' use_bool (ctr_mayK _ _ 94 _ _ _ ?hK _ _ _ _ _ ?hx ?hy) ?k1 ?k2 ?k3 ?k4 ?k5 ?kK ?kd ?ku ?kt ?_; (case hK => decide +kernel); (case hx => walk_at "mine small"); (case hy => walk_at "mine small"); walk_at "mine use"; intro h9 tk9 ht9 F9 N9; (try dsimp only); (try k_sweep); (try k_fold)))
  | ((with_reducible show wpAny _ _ (call (Value.ref 83) _) _ _ _); k_dflt (refine' use_int (ctr_runBK _ _ 92 _ ?hK _ _ _ _ ?hx ?hy) ?k1 ?k2 ?k3 ?k4 ?k5 ?kK ?kd ?ku ?kt ?_; (case hK => decide +kernel); (case hx => walk_at "mine small"); (case hy => walk_at "mine small"); walk_at "mine use"; intro t9 h9 tk9 ht9 F9 N9; (try dsimp only); (try k_sweep); (try k_fold); refine Stop.go ?_))
  | ((with_reducible show wpAny _ _ (call (Value.ref 26) _) _ _ _); k_dflt (refine' use_list (ctr_commas _ _ ?hx) ?k1 ?k2 ?k3 ?k4 ?k5 ?kK ?kd ?ku ?kt ?_; (case hx => walk_at "mine small"); walk_at "mine use"; intro l9 ws9 n9 h9 tk9 ht9 S9 F9 N9 l1; (try simp only [List.forall_mem_cons, List.not_mem_nil, false_implies, implies_true, and_true] at l1); (repeat (obtain ⟨_, l1⟩ := l1)); (try dsimp only); (try k_sweep); (try k_fold)))
  | ((with_reducible show wpAny _ _ (call (Value.ref 33) _) _ _ _); k_dflt (refine' use_list (ctr_semis _ _ ?hx) ?k1 ?k2 ?k3 ?k4 ?k5 ?kK ?kd ?ku ?kt ?_; (case hx => walk_at "mine small"); walk_at "mine use"; intro l9 ws9 n9 h9 tk9 ht9 S9 F9 N9 l1; (try simp only [List.forall_mem_cons, List.not_mem_nil, false_implies, implies_true, and_true] at l1); (repeat (obtain ⟨_, l1⟩ := l1)); (try dsimp only); (try k_sweep); (try k_fold)))
  | ((with_reducible show wpAny _ _ (call (Value.ref 41) _) _ _ _); k_dflt (refine' use_list (ctr_qs _ _ 44 ?hK ?h34 _ _ ?hx) ?k1 ?k2 ?k3 ?k4 ?k5 ?kK ?kd ?ku ?kt ?_; (case hK => first | with_reducible assumption | decide +kernel); (case h34 => decide); (case hx => walk_at "mine small"); walk_at "mine use"; intro l9 ws9 n9 h9 tk9 ht9 S9 F9 N9 l1; (try simp only [List.forall_mem_cons, List.not_mem_nil, false_implies, implies_true, and_true] at l1); (repeat (obtain ⟨_, l1⟩ := l1)); (try dsimp only); (try k_sweep); (try k_fold)))
  | ((with_reducible show wpAny _ _ (call (Value.ref 41) _) _ _ _); k_dflt (refine' use_list (ctr_qs _ _ 59 ?hK ?h34 _ _ ?hx) ?k1 ?k2 ?k3 ?k4 ?k5 ?kK ?kd ?ku ?kt ?_; (case hK => first | with_reducible assumption | decide +kernel); (case h34 => decide); (case hx => walk_at "mine small"); walk_at "mine use"; intro l9 ws9 n9 h9 tk9 ht9 S9 F9 N9 l1; (try simp only [List.forall_mem_cons, List.not_mem_nil, false_implies, implies_true, and_true] at l1); (repeat (obtain ⟨_, l1⟩ := l1)); (try dsimp only); (try k_sweep); (try k_fold)))))
local macro_rules | `(tactic| walk_at "pyIter ref") => `(tactic| (k_here; (with_reducible show wpAny _ _ (pyIter (Value.ref _)) (fun it s₂ => LoopAtV _ _ _ _ _ _ _ _ _ it s₂) _ _); refine Stop.go ?_))
local macro_rules | `(tactic| walk_at "eval BoolOp") => `(tactic| (k_here; (with_reducible show wpAny _ _ (eval (Expr.BoolOp _ _ _) _) _ _ _); (fail_if_success (with_reducible rename GoOn => goOn9)); refine Stop.go ?_))
local macro_rules | `(tactic| walk_at "binaryOp Add str str") => `(tactic| (k_here; (with_reducible show wpAny _ _ (binaryOp Operator.Add (Value.str _ _) (Value.str _ _)) _ _ _); (refine add_big ?ka ?kb ?kc ?_); (case ka => first | with_reducible assumption | (dsimp only; first | with_reducible assumption | omega)); (case kb => walk_at "mine small"); (case kc => walk_at "mine small"); intro _ _ _ _))
local macro_rules | `(tactic| walk_at "inplaceOp Add str str") => `(tactic| (k_here; (with_reducible show wpAny _ _ (inplaceOp Operator.Add (Value.str _ _) (Value.str _ _)) _ _ _); (refine iadd_big ?ka ?kb ?kc ?_); (case ka => first | with_reducible assumption | (dsimp only; first | with_reducible assumption | omega)); (case kb => walk_at "mine small"); (case kc => walk_at "mine small"); intro _ _ _ _))
local macro_rules | `(tactic| walk_at "exec For Name Subscript cons nil") => `(tactic| (k_here; (rename Fr _ _ _ _ => lF'); (with_unfolding_all refine' For_invVF lF' ?k1 ?k2 ?_; (case k1 => exact rfl); (case k2 => exact rfl); k_whole)))
local macro_rules | `(tactic| walk_at "exec For Name Call cons nil") => `(tactic| (k_here; (rename Fr _ _ _ _ => lF'); (with_unfolding_all refine' For_invVF lF' ?k1 ?k2 ?_; (case k1 => exact rfl); (case k2 => exact rfl); k_whole)))
local macro_rules | `(tactic| walk_at "mine ne") => `(tactic| ((show @Ne Nat _ _); (try dsimp only); first | with_reducible assumption | (with_reducible refine Ne.symm ?_; with_reducible assumption)))
local macro_rules | `(tactic| walk_at "mine nes") => `(tactic| first | exact List.forall_mem_nil _ | (refine' List.forall_mem_cons.mpr ⟨?a, ?b⟩; (case a => walk_at "mine ne"); (case b => walk_at "mine nes")))
local macro_rules | `(tactic| walk_at "mine upd") => `(tactic| first | (refine' Upd.head ?a; (case a => walk_at "mine nes")) | (refine' Upd.tail ?a ?b; (case a => walk_at "mine ne"); (case b => walk_at "mine upd")))
local macro_rules | `(tactic| walk_at "mine size") => `(tactic| (refine size_start ?_; (repeat (refine size_push ?_)); exact size_base (by with_reducible assumption) (by decide)))
local macro_rules | `(tactic| walk_at "call builtin:list.append") => `(tactic| (k_here; (with_reducible show wpAny _ _ (call (Value.builtin _) [Value.ref _, _]) _ _ _); ((with_reducible rename Fr _ _ _ _ => lF9); (with_reducible rename News _ _ _ _ => lN9); refine' append_K lF9 lN9 ?k3 ?_ ?z; clear lF9 lN9; (case k3 => walk_at "mine upd"); (case z => walk_at "mine size"); k_whole); intro h' F' N'; (try k_sweep)))
local macro_rules | `(tactic| walk_at "ite") => `(tactic| refine Stop.go ?_)
local macro_rules | `(tactic| walk_at "mine mem") => `(tactic| first | with_reducible exact List.mem_cons_self | (with_reducible refine List.mem_cons_of_mem _ ?_; walk_at "mine mem"))
local macro_rules | `(tactic| walk_at "binaryOp Add ref ref") => `(tactic| (k_here; (with_reducible show wpAny _ _ (binaryOp Operator.Add (Value.ref _) (Value.ref _)) _ _ _); (with_reducible rename Fr _ _ _ _ => lF9); (with_reducible rename News _ _ _ _ => lN9); (refine' add_strs lF9 lN9 ?sa ?sb ?ma ?mb ?hz ?_; clear lF9 lN9; (case ma => walk_at "mine mem"); (case mb => walk_at "mine mem"); (case sa => with_reducible assumption); (case sb => with_reducible assumption); (case hz => with_reducible assumption); k_whole); intro D9 us9 h9 F9 N9 l1 S9; (try simp only [List.forall_mem_cons, List.not_mem_nil, false_implies, implies_true, and_true] at l1); (repeat (obtain ⟨_, l1⟩ := l1)); (try dsimp only); (try k_sweep)))
local macro_rules | `(tactic| walk_at "compareOp Eq ref ref") => `(tactic| (k_here; (with_reducible show wpAny _ _ (compareOp CmpOp.Eq (Value.ref _) (Value.ref _)) _ _ _); (with_reducible rename News _ _ _ _ => lN9); (refine' eq_strs lN9 ?sa ?sb ?ma ?mb ?da ?db ?hu ?_; clear lN9; (case ma => walk_at "mine mem"); (case mb => walk_at "mine mem"); (case sa => with_reducible assumption); (case sb => with_reducible assumption); (case da => with_reducible assumption); (case db => with_reducible assumption); (case hu => units_room); k_whole)))
local macro_rules | `(tactic| walk_at "mine sub") => `(tactic| first | exact List.forall_mem_nil _ | (refine' List.forall_mem_cons.mpr ⟨?a, ?b⟩; (case a => walk_at "mine mem"); (case b => walk_at "mine sub")))
local macro_rules | `(tactic| walk_at "ite") => `(tactic| first | (with_reducible refine ite_p (Eq.refl true) ?_) | (with_reducible refine ite_n Bool.false_ne_true ?_) | refine Stop.go ?_)
local macro_rules | `(tactic| walk_at "mine lt16") => `(tactic| exact Nat.lt_of_lt_of_le (by with_reducible assumption) (by decide))
set_option maxHeartbeats 20000000 in
theorem law_holds : PySem.Challenge.rw_vg0011_01.Holds := by
  apply hd
  k_with "state" => first | exact st0 | exact stP1 (by with_reducible assumption) (by with_reducible assumption) (by with_reducible assumption) | exact stP2 (by walk_at "mine lt16") (by with_reducible assumption) (by with_reducible assumption) (by with_reducible assumption) (by with_reducible assumption) | exact stP3 (by walk_at "mine lt16") (by with_reducible assumption) (by with_reducible assumption) (by with_reducible assumption) (by with_reducible assumption)
  k_go0; (all_goals try k_fold); k_steps
  refine Stop.mk ?_
  k_state (fun pre text => text.length ≤ pre.length ∧ noCB (cl text) ∧ ∀ c ∈ cl text, c < 128) "text"
  · k_steps
    refine Stop.mk ?_
    refine ite_split (fun hs => ?_) (fun hs => ?_)
    · k_steps
      refine Stop.mk ?_
      refine ite_split (fun hr => ?_) (fun hr => ?_)
      · k_steps
      · k_steps
    · k_steps
  · rename Str => x
    rename noCB _ => hcb
    have hx8 : x.length ≤ 8 := by omega
    k_steps
    refine Stop.mk ?_
    rename News _ _ _ _ => NN
    rename ∀ c ∈ cl x, c < 128 => hlt
    rename _ < _ ∧ _ < _ ∧ _ < _ ∧ _ < _ => lB
    obtain ⟨b1, b2, b3, b4⟩ := lB
    rename _ < _ ∧ _ < _ ∧ _ < _ => lA
    obtain ⟨a1, a2, a3⟩ := lA
    refine for_range (n := x.length + 1) (LawJ x _ _ _ _ _ _ _ _ _) (by rfl) (by assumption) ?_ ?_ (by k_asm) (news5 NN) ⟨[], 0, 0, 1, 1, _, _, _, _, _, _, rfl, rfl, rfl, rfl, rfl, rfl, rfl, rfl, rfl, rfl, rfl, rfl, rfl, rfl, Nat.zero_le _⟩ ?_ ?_
    · exact small_one (by omega) (by omega) (by omega) (by omega)
    · exact rsz x
    · intro i u m₁ news₁ h tk I oI hi hJ F₁ N₁ off
      refine' law_turn (hlook := ?h1) (hfb := ?h2) ?h3 ?h4 ?h5 hx8 hcb hlt ?h6 ?h7 ?h8 ?h9 ?h10 ?h11 ?h12 hi hJ F₁ N₁ off
      case h1 => k_is
      case h2 => rfl
      case h3 => k_asm
      case h4 => k_asm
      case h5 => k_asm
      case h6 => k_asm
      case h7 => k_asm
      case h8 => exact Nat.ne_of_gt b1
      case h9 => exact Nat.ne_of_lt a1
      case h10 => exact Nat.ne_of_lt a2
      case h11 => exact Nat.ne_of_lt b2
      case h12 => exact Nat.ne_of_lt b3
    · intro m₁ news₁ h tk hJ F₁ N₁ htk
      refine' law_tail (hlook := ?g1) (htb := ?g2) ?g3 ?g4 ?g5 hx8 hcb hlt ?g6 ?g7 ?g8 ?g9 ?g10 ?g11 ?g12 htk hJ F₁ N₁ ?g13
      case g1 => k_is
      case g2 => rfl
      case g3 => k_asm
      case g4 => k_asm
      case g5 => k_asm
      case g6 => k_asm
      case g7 => k_asm
      case g8 => exact Nat.ne_of_gt b1
      case g9 => exact Nat.ne_of_lt a1
      case g10 => exact Nat.ne_of_lt a2
      case g11 => exact Nat.ne_of_lt b2
      case g12 => exact Nat.ne_of_lt b3
      case g13 =>
        intro h' m' news' tk' htk' F' N'
        k_steps
end Mine
end

theorem PySem.Challenge.cw_vg0011_01_holds : PySem.Challenge.rw_vg0011_01.Holds := by
  exact Mine.law_holds
