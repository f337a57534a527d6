import PyProof.Rows.All
import Wide.All
import OpenK.AllK
import Wide.FinOn
import PySem.Challenge.RW_dz0051_01
open PySem PySem.W PyProof.Rows PySem.Spec PySem.Calls PyProof.V
set_option Elab.async false
namespace Mine
def szI (x : Int) : Int := if x < 0 then -(if x < 0 then -x else x).fmod (16 ^ Int.toNat 16) else (if x < 0 then -x else x).fmod (16 ^ Int.toNat 16)
def apI (n : Nat) : List Int := if n = 0 then [] else apI (n / 16) ++ [65 + ((n % 16 : Nat) : Int)]
termination_by n
def ap (n : Nat) : Array UInt8 := byteArr (apI n)
def rdI (l : List Int) : Int := l.foldl (fun a x => 16 * a + x - 65) 0

theorem apI_zero : apI 0 = [] := by unfold apI; simp
theorem apI_step {n : Nat} (h : n ≠ 0) : apI n = apI (n / 16) ++ [65 + ((n % 16 : Nat) : Int)] := by
  rw [apI]; simp [h]
theorem byteArr_app (a b : List Int) : byteArr (a ++ b) = byteArr a ++ byteArr b := by
  simp [byteArr]
theorem ap_zero : ap 0 = #[] := by unfold ap; rw [apI_zero]; rfl
theorem ap_step {n : Nat} (h : n ≠ 0) : ap n = ap (n / 16) ++ byteArr [65 + ((n % 16 : Nat) : Int)] := by
  unfold ap; rw [apI_step h, byteArr_app]
theorem apI_mem (n : Nat) : ∀ x ∈ apI n, 65 ≤ x ∧ x ≤ 80 := by
  induction n using Nat.strongRecOn with
  | ind n ih =>
    by_cases h : n = 0
    · subst h; rw [apI_zero]; intro x hx; cases hx
    · rw [apI_step h]
      intro x hx
      rcases List.mem_append.mp hx with hx | hx
      · exact ih _ (by omega) x hx
      · rw [List.mem_singleton.mp hx]; omega
theorem apI_len : ∀ (k n : Nat), n < 16 ^ k → (apI n).length ≤ k
  | 0, n, h => by
    have : n = 0 := by simpa using h
    subst this; rw [apI_zero]; simp
  | k + 1, n, h => by
    by_cases h0 : n = 0
    · subst h0; rw [apI_zero]; simp
    · rw [apI_step h0]
      have := apI_len k (n / 16) (by rw [Nat.pow_succ] at h; omega)
      simp; omega
theorem ap_size {n : Nat} : (ap n).size = (apI n).length := byteArr_size _
theorem ap_ints (n : Nat) : KBw.bInts (ap n) = apI n := KBa.ints_make fun x hx => by
  have := apI_mem n x hx
  omega
theorem rdI_app (l : List Int) (x : Int) : rdI (l ++ [x]) = 16 * rdI l + x - 65 := by
  unfold rdI; rw [List.foldl_append]; rfl
theorem rdI_ap (n : Nat) : rdI (apI n) = n := by
  induction n using Nat.strongRecOn with
  | ind n ih =>
    by_cases h : n = 0
    · subst h; rw [apI_zero]; rfl
    · rw [apI_step h, rdI_app, ih _ (by omega)]
      omega
theorem apI_join (a b : Nat) : apI (a * 16 ^ (apI b).length + b) = apI a ++ apI b := by
  induction b using Nat.strongRecOn generalizing a with
  | ind b ih =>
    by_cases h : b = 0
    · subst h; rw [apI_zero]; simp
    · have hl : (apI b).length = (apI (b / 16)).length + 1 := by rw [apI_step h]; simp
      rw [hl, Nat.pow_succ]
      have hne : a * (16 ^ (apI (b / 16)).length * 16) + b ≠ 0 := by omega
      rw [apI_step hne, apI_step h]
      have e1 : (a * (16 ^ (apI (b / 16)).length * 16) + b) / 16 = a * 16 ^ (apI (b / 16)).length + b / 16 := by
        rw [← Nat.mul_assoc]; omega
      have e2 : (a * (16 ^ (apI (b / 16)).length * 16) + b) % 16 = b % 16 := by
        rw [← Nat.mul_assoc]; omega
      rw [e1, e2, ih _ (by omega), List.append_assoc]
theorem ap_join (a b : Nat) : ap (a * 16 ^ (ap b).size + b) = ap a ++ ap b := by
  rw [ap_size]; unfold ap; rw [apI_join, byteArr_app]
theorem apI_head (n : Nat) : ∀ x r, apI n = x :: r → x ≠ 65 := by
  induction n using Nat.strongRecOn with
  | ind n ih =>
    intro x r e
    by_cases h : n = 0
    · subst h; rw [apI_zero] at e; cases e
    · rw [apI_step h] at e
      by_cases h2 : n / 16 = 0
      · rw [h2, apI_zero] at e
        simp at e
        omega
      · cases hc : apI (n / 16) with
        | nil =>
          exfalso
          have hz := rdI_ap (n / 16)
          rw [hc] at hz
          have : rdI [] = 0 := rfl
          omega
        | cons y s =>
          rw [hc] at e
          simp at e
          rw [← e.1]
          exact ih _ (by omega) y s hc
/-- the while's word -/
def WInv (n₀ num : Int) (val : Array UInt8) : Prop := ap num.toNat ++ val = ap n₀.toNat
theorem winv_start (n : Int) : WInv n n #[] := by unfold WInv; simp
theorem winv_end {n₀ num : Int} {val : Array UInt8} (h : WInv n₀ num val) (e : num = 0) : val = ap n₀.toNat := by
  subst e
  unfold WInv at h
  rw [show (0 : Int).toNat = 0 from rfl, ap_zero] at h
  simpa using h
theorem winv_step {n₀ num : Int} {val : Array UInt8} (h : WInv n₀ num val) (h0 : 0 ≤ num) (e : ¬ num = 0) : WInv n₀ (num.fdiv 16) (byteArr [65 + num.fmod 16] ++ val) := by
  unfold WInv at h ⊢
  rw [← h, ap_step (n := num.toNat) (by omega)]
  have e1 : (num.fdiv 16).toNat = num.toNat / 16 := by
    rw [Int.fdiv_eq_ediv_of_nonneg _ (by decide)]; omega
  have e2 : num.fmod 16 = ((num.toNat % 16 : Nat) : Int) := by
    rw [Int.fmod_eq_emod_of_nonneg _ (by decide)]; omega
  rw [e1, e2, Array.append_assoc]
theorem winv_size {n₀ num : Int} {val : Array UInt8} (h : WInv n₀ num val) (hn : n₀ < 16 ^ 64) : val.size ≤ 64 := by
  unfold WInv at h
  have h1 := congrArg Array.size h
  rw [Array.size_append] at h1
  have h2 : (ap n₀.toNat).size ≤ 64 := by
    rw [ap_size]
    refine apI_len 64 _ ?_
    have : ((n₀.toNat : Nat) : Int) < 16 ^ 64 := by omega
    omega
  omega
theorem szI_abs (x : Int) : (szI x).natAbs < 16 ^ 16 := by
  unfold szI
  have e : ∀ y : Int, 0 ≤ y → 0 ≤ y.fmod (16 ^ Int.toNat 16) ∧ y.fmod (16 ^ Int.toNat 16) < 16 ^ 16 := by
    intro y hy
    rw [Int.fmod_eq_emod_of_nonneg _ (by decide)]
    exact ⟨Int.emod_nonneg _ (by decide), Int.emod_lt_of_pos _ (by decide)⟩
  split
  · have := e (-x) (by omega)
    omega
  · have := e x (by omega)
    omega
def NOf (pre numbers : List Int) : Prop := numbers = pre.map szI
theorem nof_start : NOf [] [] := rfl
theorem nof_neg {pre numbers : List Int} {n : Int} (h : NOf pre numbers) (hn : n < 0) : NOf (pre ++ [n]) (numbers ++ [-(if n < 0 then -n else n).fmod (16 ^ Int.toNat 16)]) := by
  unfold NOf at h ⊢
  subst h
  simp only [List.map_append, List.map_cons, List.map_nil]
  congr 2
  unfold szI
  simp only [hn, if_true]
theorem nof_pos {pre numbers : List Int} {n : Int} (h : NOf pre numbers) (hn : ¬ n < 0) : NOf (pre ++ [n]) (numbers ++ [(if n < 0 then -n else n).fmod (16 ^ Int.toNat 16)]) := by
  unfold NOf at h ⊢
  subst h
  simp only [List.map_append, List.map_cons, List.map_nil]
  congr 2
  unfold szI
  simp only [hn, if_false]
theorem nof_small {pre numbers : List Int} {n : Int} (h : NOf pre numbers) (hm : n ∈ numbers) : n.natAbs < 16 ^ 16 := by
  unfold NOf at h
  subst h
  obtain ⟨x, _, rfl⟩ := List.mem_map.mp hm
  exact szI_abs x
theorem abs_toNat (n : Int) : (if n < 0 then -n else n).toNat = n.natAbs := by split <;> omega
theorem abs_nonneg (n : Int) : 0 ≤ (if n < 0 then -n else n) := by split <;> omega
theorem abs_small {n : Int} {k : Nat} (h : n.natAbs < k) : (if n < 0 then -n else n) < k := by split <;> omega
def WOf (pre : List Int) (words : List Dat) : Prop := words = pre.map (fun x => Dat.bytes (ap x.natAbs))
theorem wof_start : WOf [] [] := rfl
theorem wof_step {pre : List Int} {words : List Dat} {n : Int} (h : WOf pre words) : WOf (pre ++ [n]) (words ++ [Dat.bytes (ap (if n < 0 then -n else n).toNat)]) := by
  unfold WOf at h ⊢
  subst h
  rw [abs_toNat]
  simp
def Sm (n : Int) : Prop := n < 16 ^ 64
theorem while_start {n : Int} (h : n.natAbs < 16 ^ 64) : 0 ≤ (if n < 0 then -n else n) ∧ Sm (if n < 0 then -n else n) ∧ WInv (if n < 0 then -n else n) (if n < 0 then -n else n) #[] ∧ (#[] : Array UInt8).size ≤ 64 :=
  ⟨abs_nonneg n, by unfold Sm; have := abs_small h; omega, winv_start _, by decide⟩
theorem while_turn {n₀ num : Int} {val : Array UInt8} (h0 : 0 ≤ num) (hs : Sm n₀) (hw : WInv n₀ num val) (hne : ¬ num = 0) :
    0 ≤ num.fdiv 16 ∧ Sm n₀ ∧ WInv n₀ (num.fdiv 16) (byteArr [65 + num.fmod 16] ++ val) ∧ (byteArr [65 + num.fmod 16] ++ val).size ≤ 64 := by
  have h1 := winv_step hw h0 hne
  refine ⟨?_, hs, h1, winv_size h1 hs⟩
  rw [Int.fdiv_eq_ediv_of_nonneg _ (by decide)]; omega
theorem while_less {num : Int} (h0 : 0 ≤ num) (hne : ¬ num = 0) : (num.fdiv 16).toNat < num.toNat := by
  rw [Int.fdiv_eq_ediv_of_nonneg _ (by decide)]; omega
theorem letter_of {N : Nat} {pre post : List Int} {n : Int} (h : KBw.bInts (ap N) = pre ++ n :: post) : 65 ≤ n ∧ n ≤ 80 := by
  rw [ap_ints] at h
  exact apI_mem N n (by rw [h]; simp)
theorem rd_done {number n : Int} (h : number = rdI (KBw.bInts (ap (if n < 0 then -n else n).toNat))) : number = if n < 0 then -n else n := by
  rw [ap_ints, rdI_ap] at h
  have := abs_nonneg n
  omega
theorem rd_step {number n : Int} {pre : List Int} (h : number = rdI pre) : 16 * number + n - 65 = rdI (pre ++ [n]) := by
  rw [rdI_app, h]
def LOf (pre : List Int) (whole : Int) (letters : List Int) : Prop := 0 ≤ whole ∧ whole < 16 ^ pre.length ∧ ap whole.toNat = byteArr letters ∧ KBa.In letters
theorem lof_start : LOf [] 0 [] := ⟨by decide, by decide, by rw [show (0 : Int).toNat = 0 from rfl, ap_zero]; rfl, fun _ h => nomatch h⟩
theorem fmod16 (n : Int) : 0 ≤ n.fmod 16 ∧ n.fmod 16 < 16 := ⟨fmod_lo n (by decide), fmod_hi n (by decide)⟩
theorem pow_app (pre : List Int) (n : Int) : (16 : Int) ^ (pre ++ [n]).length = 16 ^ pre.length * 16 := by
  rw [List.length_append, List.length_singleton, Int.pow_succ]
theorem lof_some {pre letters : List Int} {whole n : Int} (h : LOf pre whole letters) (hn : ¬ 16 * whole + n.fmod 16 = 0) : LOf (pre ++ [n]) (16 * whole + n.fmod 16) (letters ++ [65 + n.fmod 16]) := by
  obtain ⟨h0, h1, h2, h3⟩ := h
  have hm := fmod16 n
  refine ⟨by omega, by rw [pow_app]; omega, ?_, ?_⟩
  · rw [ap_step (n := (16 * whole + n.fmod 16).toNat) (by omega), byteArr_app, ← h2]
    have e1 : (16 * whole + n.fmod 16).toNat / 16 = whole.toNat := by omega
    have e2 : (((16 * whole + n.fmod 16).toNat % 16 : Nat) : Int) = n.fmod 16 := by omega
    rw [e1, e2]
  · intro x hx
    rcases List.mem_append.mp hx with hx | hx
    · exact h3 x hx
    · rw [List.mem_singleton.mp hx]; omega
theorem lof_none {pre letters : List Int} {whole n : Int} (h : LOf pre whole letters) (hn : 16 * whole + n.fmod 16 = 0) : LOf (pre ++ [n]) (16 * whole + n.fmod 16) letters := by
  obtain ⟨h0, h1, h2, h3⟩ := h
  have hm := fmod16 n
  refine ⟨by omega, by rw [pow_app]; omega, ?_, h3⟩
  have e : (16 * whole + n.fmod 16).toNat = whole.toNat := by omega
  rw [e]; exact h2
theorem lof_small {l letters : List Int} {whole : Int} (h : LOf (List.take 60 l) whole letters) : whole.natAbs < 16 ^ 64 := by
  obtain ⟨h0, h1, _, _⟩ := h
  have h2 : (List.take 60 l).length ≤ 60 := by rw [List.length_take]; omega
  have h3 : (16 : Int) ^ (List.take 60 l).length ≤ 16 ^ 60 := by
    have := Nat.pow_le_pow_right (n := 16) (by decide) h2
    exact_mod_cast this
  omega
theorem lof_in {l letters : List Int} {whole : Int} (h : LOf l whole letters) : KBa.In letters := h.2.2.2
theorem lof_ap {l letters : List Int} {whole : Int} (h : LOf l whole letters) : ap whole.natAbs = byteArr letters := by
  have : whole.natAbs = whole.toNat := by have := h.1; omega
  rw [this]; exact h.2.2.1
theorem pick_AP (i : Int) (h0 : 0 ≤ i) (h1 : i < 16) : KBy.picked #[65, 66, 67, 68, 69, 70, 71, 72, 73, 74, 75, 76, 77, 78, 79, 80] (some i) (some (i + 1)) = byteArr [65 + i] := by
  have h : ∀ k : Nat, k < 16 → KBy.picked #[65, 66, 67, 68, 69, 70, 71, 72, 73, 74, 75, 76, 77, 78, 79, 80] (some (k : Int)) (some ((k : Int) + 1)) = byteArr [65 + (k : Int)] := by
    decide +kernel
  have e : i = ((i.toNat : Nat) : Int) := by omega
  rw [e]
  exact h i.toNat (by omega)
section
variable {prog : Program} {w : World} {A : Around} {E : Value → Shared → Prop} {s : Shared} {value slice : PySem.Expr} {t : Tok} {h₀ : Heap} {L : Addr} {m : PySem.Str → Option Value} {news : List (Addr × Obj)} {Q : Value → Shared → Prop} {i : Int} {u1 u2 : Tok}
theorem apSlice_K (hF : Fr h₀ L s.heap m) (hN : News h₀ L s.heap news) (h0 : 0 ≤ i) (h1 : i < 16)
    (h : ∀ h' t' k, Fr h₀ L h' m → News h₀ L h' news → Q (.bytes (byteArr [65 + i]) t') { s with heap := h', toks := k })
    (hs : subscripted slice false (.bytes #[65, 66, 67, 68, 69, 70, 71, 72, 73, 74, 75, 76, 77, 78, 79, 80] t) (.ref s.heap.objs.size) = operate [.ref s.heap.objs.size, .bytes #[65, 66, 67, 68, 69, 70, 71, 72, 73, 74, 75, 76, 77, 78, 79, 80] t] (getItem (.bytes #[65, 66, 67, 68, 69, 70, 71, 72, 73, 74, 75, 76, 77, 78, 79, 80] t) (.ref s.heap.objs.size)) := by with_unfolding_all rfl)
    (ht : ∀ r, letTemporaryGo value (.bytes #[65, 66, 67, 68, 69, 70, 71, 72, 73, 74, 75, 76, 77, 78, 79, 80] t) r = pure () := by intro _; with_unfolding_all rfl) :
    wpAny (model prog w) A (subscriptTail value slice (.bytes #[65, 66, 67, 68, 69, 70, 71, 72, 73, 74, 75, 76, 77, 78, 79, 80] t) (.ref s.heap.objs.size)) Q E { s with heap := s.heap.push { cls := .type "slice", data := .fields #[.int i u1, .int (i + 1) u2, .none] } } := by
  refine KBc.slice_K hF hN rfl (by constructor) (by constructor) (by decide) ?_ hs ht
  intro h' t' k F' N' _
  rw [pick_AP i h0 h1]
  exact h h' t' k F' N'
end
theorem pick_head (n : Nat) : ((KBy.picked (ap n) none (some 1)).toList == (#[65] : Array UInt8).toList) = false := by
  rw [beq_eq_false_iff_ne]
  intro e
  have e := Array.toList_inj.mp e
  have h1 := congrArg KBw.bInts e
  rw [KBc.ints_picked (ap_ints n)] at h1
  simp only [Option.elim, List.drop_zero, Nat.sub_zero] at h1
  have e2 : KBw.bInts #[65] = [65] := rfl
  rw [e2] at h1
  cases hc : apI n with
  | nil => rw [hc] at h1; simp at h1
  | cons x r =>
    rw [hc] at h1
    have h2 := apI_head n x r hc
    cases hk : clipAt (x :: r).length 1 with
    | zero => rw [hk] at h1; simp at h1
    | succ k =>
      rw [hk] at h1
      simp at h1
      exact h2 h1.1
section
variable {prog : Program} {w : World} {A : Around} {E : Value → Shared → Prop} {s : Shared} {b c : Array UInt8} {t u : Tok} {Q : Value → Shared → Prop}
theorem add_one_K {i : Int} (hc : c.size ≤ 64) (h : ∀ t' k, Q (.bytes (byteArr [65 + i] ++ c) t') { s with toks := k }) : wpAny (model prog w) A (binaryOp .Add (.bytes (byteArr [65 + i]) t) (.bytes c u)) Q E s :=
  KBy.add_bytes (by rw [byteArr_size]; simp only [List.length_cons, List.length_nil]; omega) h
theorem eq_no {r : Bool} (e : (b.toList == c.toList) = r) (h : Q (.bool r) s) : wpAny (model prog w) A (compareOp .Eq (.bytes b t) (.bytes c u)) Q E s :=
  eq_bytes (by rw [e]; exact h)
theorem ne_no {r : Bool} (e : (b.toList != c.toList) = r) (h : Q (.bool r) s) : wpAny (model prog w) A (compareOp .NotEq (.bytes b t) (.bytes c u)) Q E s :=
  ne_bytes (by rw [e]; exact h)
end
section
variable {prog : Program} {w : World} {A : Around} {E : Value → Shared → Prop} {s : Shared} {value slice : PySem.Expr} {t : Tok} {h₀ : Heap} {L : Addr} {m : PySem.Str → Option Value} {news : List (Addr × Obj)} {Q : Value → Shared → Prop} {n : Nat} {l u : Value} {lo hi : Option Int}
theorem headSlice_K (hF : Fr h₀ L s.heap m) (hN : News h₀ L s.heap news) (hz : (ap n).size ≤ 64) (hl : IsPart l lo) (hu : IsPart u hi)
    (h : ∀ h' t' k, Fr h₀ L h' m → News h₀ L h' news → Q (.bytes (KBy.picked (ap n) lo hi) t') { s with heap := h', toks := k })
    (hs : subscripted slice false (.bytes (ap n) t) (.ref s.heap.objs.size) = operate [.ref s.heap.objs.size, .bytes (ap n) t] (getItem (.bytes (ap n) t) (.ref s.heap.objs.size)) := by with_unfolding_all rfl)
    (ht : ∀ r, letTemporaryGo value (.bytes (ap n) t) r = pure () := by intro _; with_unfolding_all rfl) :
    wpAny (model prog w) A (subscriptTail value slice (.bytes (ap n) t) (.ref s.heap.objs.size)) Q E { s with heap := s.heap.push { cls := .type "slice", data := .fields #[l, u, .none] } } := by
  refine KBc.slice_K hF hN (ap_ints n) hl hu (by rw [← ap_size]; omega) ?_ hs ht
  intro h' t' k F' N' _
  exact h h' t' k F' N'
end
theorem nof_getD {pre numbers : List Int} {i : Nat} (h : NOf pre numbers) : (numbers.getD i 0).natAbs < 16 ^ 16 := by
  by_cases hi : i < numbers.length
  · rw [List.getD_eq_getElem?_getD, List.getElem?_eq_getElem hi]
    exact nof_small h (List.getElem_mem hi)
  · rw [List.getD_eq_getElem?_getD, List.getElem?_eq_none (by omega)]
    decide
theorem wof_get {numbers : List Int} {ds : List Dat} {d : Dat} {i : Nat} (h : WOf numbers ds) (hd : ds[i]? = some d) : d = Dat.bytes (ap (numbers.getD i 0).natAbs) := by
  unfold WOf at h
  subst h
  rw [List.getElem?_map] at hd
  cases hc : numbers[i]? with
  | none => rw [hc] at hd; cases hd
  | some x =>
    rw [hc] at hd
    rw [List.getD_eq_getElem?_getD, hc]
    exact (Option.some.inj hd).symm
section
variable {prog : Program} {w : World} {A : Around} {E : Value → Shared → Prop} {s : Shared} {value slice : PySem.Expr} {h₀ : Heap} {L l : Addr} {Q : Value → Shared → Prop}
theorem words_item {news L9 : List (Addr × Obj)} {us : List Value} {ds : List Dat} {n : Nat} {k : Int} {u : Tok} {pre numbers : List Int}
    (N : News h₀ L s.heap news) (hm : (l, listOf us.toArray n) ∈ news) (hd : DatAll L9 us ds) (hw : WOf numbers ds) (hn : NOf pre numbers)
    (h0 : 0 ≤ k) (h1 : k < (ds.length : Int)) (hfit : k < 2 ^ 63)
    (h : ∀ t, (numbers.getD k.toNat 0).natAbs < 16 ^ 16 → (apI (numbers.getD k.toNat 0).natAbs).length ≤ 16 → Q (.bytes (ap (numbers.getD k.toNat 0).natAbs) t) s)
    (hs : subscripted slice false (.ref l) (.int k u) = operate [.ref l, .int k u] (getItem (.ref l) (.int k u)) := by with_unfolding_all rfl) :
    wpAny (model prog w) A (subscriptTail value slice (.ref l) (.int k u)) Q E s := by
  refine kd_item N hm hd h0 h1 hfit ?_ hs
  intro v d hk _ hD
  have e := wof_get hw hk
  subst e
  have hb : (numbers.getD k.toNat 0).natAbs < 16 ^ 16 := nof_getD hn
  cases hD with
  | bytes _ t => exact h t hb (apI_len 16 _ hb)
theorem len_ap_K {n : Nat} {t : Tok} (hz : (apI n).length ≤ 16) (h : ∀ t' k, Q (.int ((apI n).length : Int) t') { s with toks := k }) : wpAny (model prog w) A (call (.builtin "len") [.bytes (ap n) t]) Q E s :=
  KBw.len_K (ap_ints n) (by omega) (h _ _)
end
theorem abs_cast (n : Int) : (if n < 0 then -n else n) = (n.natAbs : Int) := by split <;> omega
theorem joined_eq (a b : Int) : (if a < 0 then -a else a) * 16 ^ (((apI b.natAbs).length : Int)).toNat + (if b < 0 then -b else b) = ((a.natAbs * 16 ^ (apI b.natAbs).length + b.natAbs : Nat) : Int) := by
  rw [abs_cast, abs_cast, Int.toNat_natCast]
  push_cast
  rfl
theorem joined_small {a b : Int} (ha : a.natAbs < 16 ^ 16) (hb : b.natAbs < 16 ^ 16) : ((if a < 0 then -a else a) * 16 ^ (((apI b.natAbs).length : Int)).toNat + (if b < 0 then -b else b)).natAbs < 16 ^ 64 := by
  rw [joined_eq, Int.natAbs_natCast]
  have h1 : (16 : Nat) ^ (apI b.natAbs).length ≤ 16 ^ 16 := Nat.pow_le_pow_right (by decide) (apI_len 16 _ hb)
  have h2 : a.natAbs * 16 ^ (apI b.natAbs).length ≤ 16 ^ 16 * 16 ^ 16 := Nat.mul_le_mul (Nat.le_of_lt ha) h1
  omega
theorem joined_ap (a b : Int) {J : Int} (h : J = (if a < 0 then -a else a) * 16 ^ (((apI b.natAbs).length : Int)).toNat + (if b < 0 then -b else b)) : ap (if J < 0 then -J else J).toNat = ap a.natAbs ++ ap b.natAbs := by
  rw [abs_toNat, h, joined_eq, Int.natAbs_natCast, ← ap_size, ap_join]
theorem joined_ne (a b : Int) : ((ap (if (if a < 0 then -a else a) * 16 ^ (((apI b.natAbs).length : Int)).toNat + (if b < 0 then -b else b) < 0 then -((if a < 0 then -a else a) * 16 ^ (((apI b.natAbs).length : Int)).toNat + (if b < 0 then -b else b)) else (if a < 0 then -a else a) * 16 ^ (((apI b.natAbs).length : Int)).toNat + (if b < 0 then -b else b)).toNat).toList != (ap a.natAbs ++ ap b.natAbs).toList) = false := by
  rw [joined_ap a b rfl]
  exact bne_self_eq_false _
theorem lof_eq {l letters : List Int} {whole : Int} (h : LOf l whole letters) : ((ap (if whole < 0 then -whole else whole).toNat).toList == (byteArr letters).toList) = true := by
  rw [abs_toNat, lof_ap h]
  exact beq_self_eq_true _
theorem lof_eq_neg {l letters : List Int} {whole : Int} (h : LOf l whole letters) : ((ap (if -whole < 0 then - -whole else -whole).toNat).toList == (byteArr letters).toList) = true := by
  rw [abs_toNat, Int.natAbs_neg, lof_ap h]
  exact beq_self_eq_true _
theorem lof_small_neg {l letters : List Int} {whole : Int} (h : LOf (List.take 60 l) whole letters) : (-whole).natAbs < 16 ^ 64 := by
  rw [Int.natAbs_neg]; exact lof_small h
section
variable {prog : Program} {w : World} {A : Around} {E : Value → Shared → Prop} {s : Shared} {Q : Value → Shared → Prop} {t u : Tok}
theorem mul_small_K {a b : Int} (ha : a.natAbs < 16 ^ 16) (h : Q (.int ((if a < 0 then -a else a) * b) s.toks) { s with toks := s.toks + 1 }) : wpAny (model prog w) A (binaryOp .Mult (.int (if a < 0 then -a else a) t) (.int b u)) Q E s := by
  refine mul_int h (IntMulOk.of_left (intBits_le_64 ?_ ?_))
  · have := abs_nonneg a; omega
  · have := abs_small ha; omega
theorem add_ap_K {m n : Nat} (hm : (apI m).length ≤ 16) (hn : (apI n).length ≤ 16) (h : ∀ t' k, Q (.bytes (ap m ++ ap n) t') { s with toks := k }) : wpAny (model prog w) A (binaryOp .Add (.bytes (ap m) t) (.bytes (ap n) u)) Q E s :=
  KBy.add_bytes (by rw [ap_size, ap_size]; omega) h
end
end Mine
open Mine
local macro_rules | `(tactic| walk_at "exec For Name BinOp cons nil") => `(tactic| (kst_has; k_here; (rename Fr _ _ _ _ => lF'); (with_unfolding_all refine' For_invVF lF' ?k1 ?k2 ?_; (case k1 => exact rfl); (case k2 => exact rfl); k_whole)))
local macro_rules | `(tactic| walk_at "subscriptTail") => `(tactic| (k_here; (with_reducible show wpAny _ _ (subscriptTail _ (Expr.Slice _ _ none _) (Value.bytes (List.toArray _) _) (Value.ref _)) _ _ _); (with_reducible rename Fr _ _ _ _ => F'); (with_reducible rename News _ _ _ _ => N'); (refine apSlice_K (s := ⟨_, _, _, _, _⟩) F' N' (fmod_lo _ (by decide)) (fmod_hi _ (by decide)) ?_); intro _ _ _ _ _; (try dsimp only)))
local macro_rules | `(tactic| walk_at "subscriptTail") => `(tactic| (k_here; (with_reducible show wpAny _ _ (subscriptTail _ (Expr.Slice _ _ none _) (Value.bytes (ap _) _) (Value.ref _)) _ _ _); (with_reducible rename Fr _ _ _ _ => F'); (with_reducible rename News _ _ _ _ => N'); (refine headSlice_K (s := ⟨_, _, _, _, _⟩) F' N' (by assumption) (by constructor) (by constructor) ?_); intro _ _ _ _ _; (try dsimp only)))
local macro_rules | `(tactic| walk_at "subscriptTail") => `(tactic| (k_here; (with_reducible show wpAny _ _ (subscriptTail _ _ (Value.ref _) (Value.int _ _)) _ _ _); kd_here; (with_unfolding_all refine' words_item ?k1 ?k2 ?k3 ?kw ?kn ?k4 ?k5 ?k6 ?_ ?k7; (case k1 => k_asm); (case k2 => k_memK); (case k3 => assumption); (case kw => assumption); (case kn => assumption); (case k4 => kd_idx); (case k5 => kd_idx); (case k6 => kd_idx); (case k7 => with_unfolding_all rfl); k_whole); intro _ hLt' hLe'; (try dsimp only)))
local macro_rules | `(tactic| walk_at "call builtin:len") => `(tactic| (k_here; (with_reducible show wpAny _ _ (call (Value.builtin "len") [Value.bytes (ap _) _]) _ _ _); (refine len_ap_K (by assumption) ?_); intro _ _; (try dsimp only)))
local macro_rules | `(tactic| walk_at "binaryOp Add bytes bytes") => `(tactic| (k_here; (with_reducible show wpAny _ _ (binaryOp Operator.Add (Value.bytes (byteArr [65 + _]) _) (Value.bytes _ _)) _ _ _); (refine add_one_K (by assumption) ?_); intro _ _; (try dsimp only)))
local macro_rules | `(tactic| walk_at "compareOp Eq bytes bytes") => `(tactic| (k_here; (refine eq_no (pick_head _) ?_); (try dsimp only)))
local macro_rules | `(tactic| walk_at "compareOp Eq bytes bytes") => `(tactic| (k_here; (refine eq_no (lof_eq (by assumption)) ?_); (try dsimp only)))
local macro_rules | `(tactic| walk_at "compareOp Eq bytes bytes") => `(tactic| (k_here; (refine eq_no (lof_eq_neg (by assumption)) ?_); (try dsimp only)))
local macro_rules | `(tactic| walk_at "compareOp NotEq bytes bytes") => `(tactic| (k_here; (refine ne_no (joined_ne _ _) ?_); (try dsimp only)))
local macro_rules | `(tactic| walk_at "binaryOp Mult int int") => `(tactic| (k_here; (with_reducible show wpAny _ _ (binaryOp Operator.Mult (Value.int (if _ < 0 then _ else _) _) (Value.int _ _)) _ _ _); (refine mul_small_K (nof_getD (by assumption)) ?_); (try dsimp only)))
local macro_rules | `(tactic| walk_at "binaryOp Add bytes bytes") => `(tactic| (k_here; (with_reducible show wpAny _ _ (binaryOp Operator.Add (Value.bytes (ap _) _) (Value.bytes (ap _) _)) _ _ _); (refine add_ap_K (by assumption) (by assumption) ?_); intro _ _; (try dsimp only)))
local macro_rules | `(tactic| walk_at "exec Return some") => `(tactic| (k_here; (rename WInv _ _ _ => hW'); (have hV' := winv_end hW' (by first | assumption | omega)); clear hW'; subst hV'))
local macro_rules | `(tactic| walk_at "InvEndN") => `(tactic| k_dflt (k_here; (rename News _ _ _ _ => nE'); (refine' kst_end () ?a nE' ?b ?c ?d True.intro (List.forall_mem_nil _) ?e ?f); (case a => assumption); (case b => kst_in); (case c => (intro p hp; kst_mem)); (case d => rfl); (case f => exact True.intro); (case e => kst_same)))
set_option maxRecDepth 100000 in
set_option maxHeartbeats 8000000 in
theorem PySem.Challenge.cw_dz0051_01_holds : PySem.Challenge.rw_dz0051_01.Holds := by
  (k_with "pyIter ref" => k_of "x" => k_state (fun pre numbers => NOf pre numbers ∧ numbers.length = pre.length ∧ numbers.length ≤ 2000000) "numbers")
  (k_with "pyIter ref" => k_of "number" => k_dat (fun pre words => WOf pre words ∧ words.length = pre.length) "words*")
  (k_with "pyIter ref" => k_of "k" => k_search (fun pre => True))
  (k_with "pyIter ref" => k_of "x" => k_state (fun pre whole letters => LOf pre whole letters ∧ KBa.In letters ∧ letters.length ≤ pre.length ∧ letters.length ≤ 2000000) "whole" "letters")
  (k_with "exec While Name cons nil" => k_while_given ["num!"] (fun n₀ script num val => 0 ≤ num ∧ Sm n₀ ∧ WInv n₀ num val ∧ val.size ≤ 64) (fun n₀ script num val => num.toNat) "num" "val")
  (k_with "pyIter bytes" => (k_state (fun pre number => number = rdI pre) "number"; all_goals (try (have hLet := letter_of kEq)); all_goals (try (have hRd := rd_done kInv))))
  (k_with "state" => exact ⟨nof_start, rfl, by decide⟩)
  (k_with "state" => exact ⟨nof_neg (by assumption) (by assumption), by simp only [List.length_append, List.length_cons, List.length_nil]; omega, by simp only [List.length_append, List.length_cons, List.length_nil] at *; omega⟩)
  (k_with "state" => exact ⟨nof_pos (by assumption) (by assumption), by simp only [List.length_append, List.length_cons, List.length_nil]; omega, by simp only [List.length_append, List.length_cons, List.length_nil] at *; omega⟩)
  (k_with "state" => exact ⟨wof_start, rfl⟩)
  (k_with "state" => exact ⟨wof_step (by assumption), by simp only [List.length_append, List.length_cons, List.length_nil]; omega⟩)
  (k_with "state" => exact while_start (Nat.lt_trans (nof_small (by assumption) (by assumption)) (by decide)))
  (k_with "state" => exact while_start (lof_small (by assumption)))
  (k_with "state" => exact while_start (lof_small_neg (by assumption)))
  (k_with "state" => exact while_start (joined_small (nof_getD (by assumption)) (nof_getD (by assumption))))
  (k_with "state" => exact while_turn (by assumption) (by assumption) (by assumption) (by assumption))
  (k_with "state" => exact rd_step (by assumption))
  (k_with "state" => exact (rdI_app _ _).symm)
  (k_with "state" => exact rfl)
  (k_with "state" => exact ⟨lof_start, lof_in lof_start, Nat.le_refl _, by decide⟩)
  (k_with "state" => exact ⟨lof_some (by assumption) (by assumption), lof_in (lof_some (by assumption) (by assumption)), by simp only [List.length_append, List.length_cons, List.length_nil]; omega, by simp only [List.length_append, List.length_cons, List.length_nil] at *; omega⟩)
  (k_with "state" => exact ⟨lof_none (by assumption) (by assumption), by assumption, by simp only [List.length_append, List.length_cons, List.length_nil]; omega, by simp only [List.length_append, List.length_cons, List.length_nil] at *; omega⟩)
  (k_with "measure" => exact while_less (by assumption) (by assumption))
  open_k
