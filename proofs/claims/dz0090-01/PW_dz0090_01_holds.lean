import PyProof.Rows.All
import Wide.All
import OpenK.AllK
import Wide.FinOn
import PySem.Challenge.RW_dz0090_01
set_option Elab.async false
set_option maxRecDepth 100000
set_option maxHeartbeats 8000000
namespace Mine
section
open PySem PySem.W PyProof.Rows
open_top hd for PySem.Challenge.rw_dz0090_01
end
section
open PySem PySem.StrLaws PySem.Builtin PySem.Builtin.Str

/-- the scan of the law's own helper, from place k on, with fuel -/
def rp (x y z : Str) : Nat → Nat → Str
  | 0, _ => Str.empty
  | f + 1, k => if k < x.length then (if subAt x y k = true then z ++ rp x y z f (k + y.length) else strSub x k (k + 1) ++ rp x y z f (k + 1)) else Str.empty

def replaced (x y z : Str) : Str := rp x y z x.length 0

theorem rp_past (x y z : Str) {k : Nat} (h : x.length ≤ k) : ∀ f, rp x y z f k = Str.empty
  | 0 => rfl
  | f + 1 => by unfold rp; rw [if_neg (by omega)]

theorem rp_fuel (x y z : Str) (hy : 1 ≤ y.length) : ∀ (f g k : Nat), x.length - k ≤ f → x.length - k ≤ g → rp x y z f k = rp x y z g k
  | 0, g, k, hf, _ => by rw [rp_past x y z (by omega), rp_past x y z (by omega)]
  | f + 1, 0, k, _, hg => by rw [rp_past x y z (by omega), rp_past x y z (by omega)]
  | f + 1, g + 1, k, hf, hg => by
    unfold rp
    by_cases hk : k < x.length
    · rw [if_pos hk, if_pos hk, rp_fuel x y z hy f g (k + y.length) (by omega) (by omega), rp_fuel x y z hy f g (k + 1) (by omega) (by omega)]
    · rw [if_neg hk, if_neg hk]

theorem rp_hit (x y z : Str) (hy : 1 ≤ y.length) {k : Nat} (hk : k < x.length) (h : subAt x y k = true) (f : Nat) (hf : x.length - k ≤ f) :
    rp x y z f k = z ++ rp x y z x.length (k + y.length) := by
  obtain ⟨g, rfl⟩ : ∃ g, f = g + 1 := ⟨f - 1, by omega⟩
  rw [rp, if_pos hk, if_pos h, rp_fuel x y z hy g x.length (k + y.length) (by omega) (by omega)]
theorem rp_miss (x y z : Str) (hy : 1 ≤ y.length) {k : Nat} (hk : k < x.length) (h : ¬ subAt x y k = true) (f : Nat) (hf : x.length - k ≤ f) :
    rp x y z f k = strSub x k (k + 1) ++ rp x y z x.length (k + 1) := by
  obtain ⟨g, rfl⟩ : ∃ g, f = g + 1 := ⟨f - 1, by omega⟩
  rw [rp, if_pos hk, if_neg h, rp_fuel x y z hy g x.length (k + 1) (by omega) (by omega)]

theorem subAt_room {x y : Str} {k : Nat} (hy : 1 ≤ y.length) (h : subAt x y k = true) : k + y.length ≤ x.length := by
  rw [subAt_eq] at h
  have h := congrArg List.length (eq_of_beq h)
  rw [List.length_take, List.length_drop] at h
  have e1 : x.cps.toList.length = x.length := by simp [Str.length]
  have e2 : y.cps.toList.length = y.length := by simp [Str.length]
  rw [e1, e2] at h
  omega

/-- the greedy finds -/
def gr (x y : Str) : Nat → Nat → Nat → List Nat
  | 0, _, _ => []
  | n + 1, a, free => if free ≤ a ∧ subAt x y a = true then a :: gr x y n (a + 1) (a + y.length) else gr x y n (a + 1) free

theorem occ_gr (x y : Str) (hy : 1 ≤ y.length) : ∀ (n a : Nat) (st : Array Nat × Nat), a + n ≤ x.length + 1 → st.1.size ≤ st.2 → (a + 1 ≤ st.2 + 1 ∨ st.2 ≤ a) →
    (forIn (List.range' a n) st (occBody x y x.length (x.length + 1))).run.fst.toList = st.1.toList ++ gr x y n a st.2
  | 0, a, st, _, _, _ => by simp [gr]
  | n + 1, a, st, hn, hs, hd => by
    rw [List.range'_succ, List.forIn_cons]
    unfold occBody gr
    by_cases hc : st.2 ≤ a ∧ subAt x y a = true
    · have hr := subAt_room hy hc.2
      rw [if_pos ⟨⟨⟨by omega, hc.1⟩, hr⟩, hc.2⟩, if_pos hc]
      have := occ_gr x y hy n (a + 1) (st.1.push a, a + y.length) (by omega) (by simp only [Array.size_push]; omega) (by omega)
      refine Eq.trans this ?_
      simp
    · rw [if_neg (fun q => hc ⟨q.1.1.2, q.2⟩), if_neg hc]
      exact occ_gr x y hy n (a + 1) st (by omega) hs (by omega)

theorem occ_is (x y : Str) (hy : 1 ≤ y.length) : occurrences x y 0 x.length (x.length + 1) = gr x y (x.length + 1) 0 0 := by
  rw [occ_eq]
  have := occ_gr x y hy (x.length + 1) 0 (#[], 0) (by omega) (by simp) (by omega)
  simpa using this

theorem gr_skip (x y : Str) : ∀ (d n a : Nat), gr x y (d + n) a (a + d) = gr x y n (a + d) (a + d)
  | 0, n, a => by simp
  | d + 1, n, a => by
    rw [show d + 1 + n = (d + n) + 1 by omega, gr, if_neg (by omega)]
    have := gr_skip x y d n (a + 1)
    rw [show a + 1 + d = a + (d + 1) by omega] at this
    exact this

theorem strSub_step (x : Str) {a b : Nat} (h : a ≤ b) : strSub x a b ++ strSub x b (b + 1) = strSub x a (b + 1) := by
  apply Str.ext'
  apply Array.toList_inj.mp
  simp only [Str.cps_append, Array.toList_append, strSub_toList]
  generalize x.cps.toList = L
  have e : L.drop b = (L.drop a).drop (b - a) := by rw [List.drop_drop]; congr 1; omega
  rw [e, show b + 1 - b = 1 by omega, show b + 1 - a = (b - a) + 1 by omega, List.take_add]
theorem strSub_self (x : Str) (a : Nat) : strSub x a a = Str.empty := by
  apply Str.ext'
  apply Array.toList_inj.mp
  rw [strSub_toList]
  simp [Str.empty]
theorem app_empty (x : Str) : x ++ Str.empty = x := by
  apply Str.ext'
  rw [Str.cps_append]
  simp [Str.empty]
theorem empty_app (x : Str) : Str.empty ++ x = x := by
  apply Str.ext'
  rw [Str.cps_append]
  simp [Str.empty]
theorem app_assoc (x y z : Str) : x ++ y ++ z = x ++ (y ++ z) := by
  apply Str.ext'
  simp only [Str.cps_append, Array.append_assoc]
theorem strSub_end (x : Str) (a b : Nat) (h : x.length ≤ b) : strSub x a b = strSub x a x.length := by
  apply Str.ext'
  apply Array.toList_inj.mp
  rw [strSub_toList, strSub_toList]
  have e1 : x.cps.toList.length = x.length := by simp [Str.length]
  rw [List.take_of_length_le (by rw [List.length_drop]; omega), List.take_of_length_le (by rw [List.length_drop]; omega)]

theorem join_gr (x y z : Str) (hy : 1 ≤ y.length) : ∀ (n a free : Nat), free ≤ a → a + n = x.length + 1 →
    Str.join z (partsFrom x y.length free (gr x y n a free)) = strSub x free a ++ rp x y z x.length a := by
  intro n
  induction n using Nat.strongRecOn with
  | ind n ih =>
    intro a free hf hn
    match n, ih, hn with
    | 0, _, hn =>
      rw [gr, rp_past x y z (by omega), app_empty, strSub_end x free a (by omega)]
      rfl
    | n + 1, ih, hn =>
      rw [gr]
      by_cases hc : subAt x y a = true
      · rw [if_pos ⟨hf, hc⟩]
        have hr := subAt_room hy hc
        obtain ⟨n', hn'⟩ : ∃ n', n = (y.length - 1) + n' := ⟨n - (y.length - 1), by omega⟩
        have e : gr x y n (a + 1) (a + y.length) = gr x y n' (a + y.length) (a + y.length) := by
          have := gr_skip x y (y.length - 1) n' (a + 1)
          rw [show a + 1 + (y.length - 1) = a + y.length by omega] at this
          rw [hn']; exact this
        have ih' := ih n' (by omega) (a + y.length) (a + y.length) (Nat.le_refl _) (by omega)
        rw [strSub_self, empty_app] at ih'
        rw [e, rp_hit x y z hy (by omega) hc x.length (by omega), ← ih']
        obtain ⟨p, q, e'⟩ := partsFrom_ne x y.length (a + y.length) (gr x y n' (a + y.length) (a + y.length))
        show Str.join z (strSub x free a :: partsFrom x y.length (a + y.length) _) = _
        rw [e']
        show strSub x free a ++ z ++ Str.join z (p :: q) = _
        rw [app_assoc]
      · rw [if_neg (fun q => hc q.2), ih n (by omega) (a + 1) free (by omega) (by omega)]
        by_cases hk : a < x.length
        · rw [rp_miss x y z hy hk hc x.length (by omega), ← app_assoc, strSub_step x hf]
        · rw [rp_past x y z (show x.length ≤ a by omega), rp_past x y z (show x.length ≤ a + 1 by omega), app_empty, app_empty, strSub_end x free (a + 1) (by omega), strSub_end x free a (by omega)]

theorem kind_le {x y : Str} {i : Nat} (h : subAt x y i = true) : PySem.Builtin.Str.strKind y ≤ PySem.Builtin.Str.strKind x := by
  rw [subAt_eq] at h
  have h := eq_of_beq h
  have hm : ∀ c ∈ y.cps.toList, c ∈ x.cps.toList := by
    intro c hc
    rw [← h] at hc
    exact List.mem_of_mem_drop (List.mem_of_mem_take hc)
  have hall : ∀ p : Nat → Bool, x.cps.all p = true → y.cps.all p = true := by
    intro p hp
    rw [← Array.all_toList] at hp ⊢
    rw [List.all_eq_true] at hp ⊢
    exact fun c hc => hp c (hm c hc)
  unfold PySem.Builtin.Str.strKind
  by_cases h1 : (x.cps.all fun c => decide (c < 256)) = true
  · rw [if_pos h1, if_pos (hall _ h1)]; exact Nat.le_refl _
  · rw [if_neg h1]
    by_cases h2 : (x.cps.all fun c => decide (c < 65536)) = true
    · rw [if_pos h2, if_pos (hall _ h2)]; split <;> omega
    · rw [if_neg h2]; split <;> (try split) <;> omega

theorem rp_none (x y z : Str) (hy : 1 ≤ y.length) (h : ∀ i, ¬ subAt x y i = true) : replaced x y z = x := by
  have e : ∀ (n a : Nat), a + n = x.length → strSub x 0 a ++ rp x y z x.length a = x := by
    intro n
    induction n with
    | zero => intro a ha; rw [rp_past x y z (by omega), app_empty, show a = x.length by omega, sub_whole]
    | succ n ih =>
      intro a ha
      rw [rp_miss x y z hy (by omega) (h a) x.length (by omega), ← app_assoc, strSub_step x (Nat.zero_le a)]
      exact ih (a + 1) (by omega)
  have := e x.length 0 (by omega)
  rwa [strSub_self, empty_app] at this

/-- THE PLAIN LAW: what split and join give is what the scan gives -/
theorem join_split_is (x y z : Str) (hy : 1 ≤ y.length) : Str.join z (Txt.split x y) = replaced x y z := by
  unfold Txt.split
  split
  · rename_i h
    refine (rp_none x y z hy fun i hi => ?_).symm
    have h1 := subAt_room hy hi
    have h2 := kind_le hi
    simp only [Bool.or_eq_true, decide_eq_true_eq] at h
    omega
  · split
    · rename_i h
      have h0 : occurrences x y 0 x.length (x.length + 1) = [] := List.isEmpty_iff.mp h
      refine (rp_none x y z hy fun i hi => ?_).symm
      rcases occ_head x y (x.length + 1) (by omega) with ⟨_, hn⟩ | ⟨j, r, e, _⟩
      · exact hn i ⟨subAt_room hy hi, hi⟩
      · rw [h0] at e; cases e
    · rw [partsBetween_eq, occ_is x y hy, join_gr x y z hy (x.length + 1) 0 0 (Nat.le_refl _) (by omega), strSub_self, empty_app]
      rfl
theorem tjoin_split_is (x y z : Str) (hy : 1 ≤ y.length) : Txt.join z (Txt.split x y) = replaced x y z := by
  show glued z _ = _
  rw [StrLaws.glued_eq_join]
  exact join_split_is x y z hy

end
section
open PySem PySem.StrLaws PySem.Builtin PySem.Builtin.Str PyProof.Rows

theorem len_toList (x : Str) : x.cps.toList.length = x.length := by simp [Str.length]
theorem beq_of_toList (x y : Str) : (x == y) = (x.cps.toList == y.cps.toList) := by
  cases h : (x.cps.toList == y.cps.toList) with
  | true =>
    have e : x = y := Str.ext' (Array.toList_inj.mp (eq_of_beq h))
    rw [e]; exact beq_self_eq_true _
  | false =>
    cases h' : (x == y) with
    | false => rfl
    | true =>
      have e : x = y := eq_of_beq h'
      rw [e, beq_self_eq_true] at h
      cases h
theorem sliceIdx_clip (len : Nat) {i j : Int} (h : (len : Int) ≤ j) : strSliceIndices (some i) (some j) 1 len = strSliceIndices (some i) (some (len : Int)) 1 len := by
  have a1 : ¬ j < 0 := by omega
  have a2 : ¬ ((len : Int) < 0) := by omega
  have e1 : max (0 : Int) (min j (len : Int)) = len := by omega
  have e2 : max (0 : Int) (min (len : Int) (len : Int)) = len := by omega
  simp [strSliceIndices, a1, a2, e1, e2]
theorem slice_clip {x : Str} {i j : Int} (h : (x.length : Int) ≤ j) : Txt.slice x (some i) (some j) = Txt.slice x (some i) (some (x.length : Int)) := by
  unfold Txt.slice
  rw [sliceIdx_clip x.length h]
theorem slice_toList {x : Str} {k j : Nat} (h1 : k ≤ j) (h2 : j ≤ x.length) : (Txt.slice x (some (k : Int)) (some (j : Int))).cps.toList = (x.cps.toList.drop k).take (j - k) := by
  have h := eq_of_beq (slice_closesL (x := x) (i := (k : Int)) (j := (j : Int)) (by omega) (by omega) (by omega))
  rw [h]
  simp only [Int.toNat_natCast]
  congr 1
  omega
theorem slice_is {x y : Str} {k : Nat} (hk : k ≤ x.length) : (Txt.slice x (some (k : Int)) (some ((k : Int) + (y.length : Int))) == y) = subAt x y k := by
  rw [beq_of_toList, subAt_eq]
  by_cases h : k + y.length ≤ x.length
  · have := slice_toList (x := x) (k := k) (j := k + y.length) (by omega) h
    rw [show (k : Int) + (y.length : Int) = ((k + y.length : Nat) : Int) by omega, this]
    congr 2
    omega
  · rw [slice_clip (by omega), slice_toList hk (Nat.le_refl _)]
    have e1 : (x.cps.toList.drop k).take (x.length - k) = x.cps.toList.drop k := List.take_of_length_le (by rw [List.length_drop, len_toList]; omega)
    have e2 : (x.cps.toList.drop k).take y.length = x.cps.toList.drop k := List.take_of_length_le (by rw [List.length_drop, len_toList]; omega)
    rw [e1, e2]
theorem item_is {x : Str} {k : Nat} (hk : k < x.length) : Txt.item x (k : Int) = strSub x k (k + 1) := by
  have hk' : k < x.cps.size := hk
  have hl : k < x.cps.toList.length := by rw [len_toList]; exact hk
  have h3 : ¬ ((k : Int) < 0) := by omega
  have h4 : (k : Int) < (x.length : Int) := by omega
  have e : Txt.item x (k : Int) = ⟨#[x.cps[k]]⟩ := by
    simp [Txt.item, Txt.charAt, seqIndex?, h3, h4, hk']
  rw [e]
  apply Str.ext'
  apply Array.toList_inj.mp
  rw [strSub_toList, show k + 1 - k = 1 by omega, List.drop_eq_getElem_cons hl]
  simp

theorem rp_len (x y z : Str) (hz : z.length ≤ 2) (hy : 1 ≤ y.length) : ∀ (f k : Nat), (rp x y z f k).length ≤ 2 * (x.length - k)
  | 0, _ => Nat.zero_le _
  | f + 1, k => by
    unfold rp
    by_cases hk : k < x.length
    · rw [if_pos hk]
      by_cases hc : subAt x y k = true
      · rw [if_pos hc, Str.length_append]
        have := rp_len x y z hz hy f (k + y.length)
        omega
      · rw [if_neg hc, Str.length_append]
        have := rp_len x y z hz hy f (k + 1)
        have e : (strSub x k (k + 1)).length ≤ 1 := by
          rw [← len_toList, strSub_toList, List.length_take]
          omega
        omega
    · rw [if_neg hk]; exact Nat.zero_le _
theorem replaced_len {x y z : Str} (hz : z.length ≤ 2) (hy : 1 ≤ y.length) : (replaced x y z).length ≤ 2 * x.length := by
  have := rp_len x y z hz hy x.length 0
  unfold replaced
  omega

theorem split_total (x y : Str) : ((Txt.split x y).map (·.length)).sum ≤ x.length ∧ (Txt.split x y).length ≤ x.length + 2 := by
  unfold Txt.split
  split
  · simp
  · split
    · simp
    · have h1 := occ_length_le x y 0 x.length (x.length + 1)
      have hy : (glued y (partsBetween x (occurrences x y 0 x.length (x.length + 1)) y.length)).length = x.length := by rw [glued_between_self]
      rw [size_glued, length_partsBetween, Nat.add_sub_cancel] at hy
      rw [length_partsBetween]
      omega
theorem parts_count (x y : Str) : (partsBetween x (occurrences x y 0 x.length (x.length + 1)) y.length).length ≤ x.length + 2 := by
  have h1 := occ_length_le x y 0 x.length (x.length + 1)
  rw [length_partsBetween]; omega
theorem rp_len4 (x y z : Str) (hz : z.length ≤ 4) (hy : 1 ≤ y.length) : ∀ (f k : Nat), (rp x y z f k).length ≤ 4 * (x.length - k)
  | 0, _ => Nat.zero_le _
  | f + 1, k => by
    unfold rp
    by_cases hk : k < x.length
    · rw [if_pos hk]
      by_cases hc : subAt x y k = true
      · rw [if_pos hc, Str.length_append]
        have := rp_len4 x y z hz hy f (k + y.length)
        omega
      · rw [if_neg hc, Str.length_append]
        have := rp_len4 x y z hz hy f (k + 1)
        have e : (strSub x k (k + 1)).length ≤ 1 := by
          rw [← len_toList, strSub_toList, List.length_take]
          omega
        omega
    · rw [if_neg hk]; exact Nat.zero_le _
theorem replaced_len4 {x y z : Str} (hz : z.length ≤ 4) (hy : 1 ≤ y.length) : (replaced x y z).length ≤ 4 * x.length := by
  have := rp_len4 x y z hz hy x.length 0
  unfold replaced
  omega
theorem joinOk_split {x y z : Str} (hx : x.length ≤ 3000000) (hz : z.length ≤ 4) : JoinOk z (Txt.split x y) = true := by
  unfold JoinOk
  rw [joinTotal]
  obtain ⟨h1, h2⟩ := split_total x y
  have h3 : (Txt.split x y).length * z.length ≤ (x.length + 2) * 4 := Nat.mul_le_mul h2 hz
  have : tooLong (((Txt.split x y).map (·.length)).sum + (Txt.split x y).length * z.length) = false := by
    have e : (2 : Nat) ^ 24 = 16777216 := by decide
    unfold tooLong sizeLine
    exact decide_eq_false (by omega)
  rw [this]; rfl

end
section
open PySem PySem.W PyProof.Rows
theorem bind_rest {K : Frag} {S : Setting} {name qual : Str} {body : List Stmt} {scope : Scope} {doc pm cdv ct : Value} {an : Option Addr} {a1 a2 : PySem.Arg} {v : Value} {vs : List Value} (hz : vs.length ≤ sizeLine) :
    peek1 K S (bindArgs (fnOf name qual { posonlyargs := [], args := [a1], vararg := some a2, kwonlyargs := [], kw_defaults := [], kwarg := none, defaults := [] } body scope .none .none doc pm an cdv ct) ⟨v :: vs, []⟩)
      = some (({ cls := .type "tuple", data := .seq vs.toArray } : Obj), fun D => some [(a1.arg, v), (a2.arg, .ref D)]) := by
  have hz' : ¬ (vs.toArray.size > sizeLine) := by rw [List.size_toArray]; omega
  have hb : (decide (vs.length + 1 > 1) && false) = false := by simp
  have hs : seqItems? Value.none = pure none := rfl
  have hz2 : ¬ (sizeLine < vs.length) := by omega
  unfold bindArgs
  simp [newTuple, newObj, hz2, hs]
  rfl

end
section
open PySem PySem.W PyProof.Rows
theorem replaced_c (w : World) (mean : ExcName → Option Value) (mg mb : Str → Option Value) (news : List (Addr × Obj)) (x y z : Str) (t1 t2 t3 : Tok) :
    CbClaim PySem.Challenge.rw_dz0090_01.prog w (hd.heap_39 w.params) hd.view_39 (looseW hd.view_39 []) mean mg mb 28 news [] (1 ≤ y.length ∧ y.length ≤ 100 ∧ z.length ≤ 2 ∧ x.length ≤ 4000000) [.str x t1, .str y t2, .str z t3] (fun t => .str (replaced x y z) t) := by
  k_fill
  dsimp only [CbClaim, CbLists, CbRet]
  intro dp un gd cn cs a ccd cl outer A₀ base h₀ L m s Q E B F X N T hk hpre hd hu hret
  obtain ⟨hy1, hy2, hz, hx⟩ := hpre
  refine wpAny_call ?_
  w_strict (k_dflt cell_enter; repeat' ((fail_if_success (with_reducible show wpAny _ _ (exec (Stmt.While _ _ _ _) _) _ _ _)); first | (k_unfold; (try dsimp only)) | (k_end; wrow_close) | walk1 | (dsimp only; walk1) | (leave1; try dsimp only) | fail "no step"))
  rename Fr _ _ _ (fun y => if y = Str.ofString "k" then _ else _) => F1
  refine' ksw_while (σ := Nat × Str × Tok × Tok) (fun _ => news) (fun c => [(Str.ofString "k", .int (c.1 : Int) c.2.2.1), (Str.ofString "told", .str c.2.1 c.2.2.2)]) (fun _ => True) [] (fun c => c.1 ≤ x.length ∧ c.2.1.length ≤ 2 * c.1 ∧ c.2.1 ++ rp x y z x.length c.1 = replaced x y z) (fun c => x.length - c.1) (0, Str.ofString "", ?tk1, ?tk2) F1 (by assumption) trivial ?hkk ?hpp ?turn ?hE
  case hkk => exact List.forall_mem_cons.mpr ⟨by with_unfolding_all rfl, List.forall_mem_cons.mpr ⟨by with_unfolding_all rfl, List.forall_mem_nil _⟩⟩
  case hpp => exact ⟨Nat.zero_le _, Nat.zero_le _, empty_app _⟩
  case hE => with_unfolding_all passes_own
  case turn =>
    clear F1
    intro c u h tk' _ hP F2 N2
    obtain ⟨k, told, tkA, tkB⟩ := c
    obtain ⟨hk1, hk2, hk3⟩ := hP
    dsimp only at hk1 hk2 hk3 F2 N2 ⊢
    w_strict (repeat' ((fail_if_success (with_reducible show KswEnd _ _ _ _ _ _ _ _ _ _ _ _)); first | (k_unfold; (try dsimp only)) | (k_end; wrow_close) | walk1 | (dsimp only; walk1) | (leave1; try dsimp only) | fail "no step"))
    · rename (Txt.slice _ _ _ == _) = true => hc
      rename (k : Int) < (x.length : Int) => hlt
      rw [slice_is hk1] at hc
      have hr := subAt_room hy1 hc
      have hlt' : k < x.length := by omega
      refine ksw_end (k + y.length, told ++ z, _, _) (by assumption) (by assumption) (fun p hp => hp) trivial (List.forall_mem_cons.mpr ⟨by with_unfolding_all rfl, List.forall_mem_cons.mpr ⟨by with_unfolding_all rfl, List.forall_mem_nil _⟩⟩) (fun zz h2 _ => ?_) ⟨hr, ?_, ?_⟩ ?_
      · simp only [List.forall_mem_cons, List.not_mem_nil, false_implies, implies_true, and_true, ne_eq] at h2
        simp only [kstB, h2.1, h2.2, if_false, List.contains_nil, Bool.false_eq_true]
      · dsimp only; rw [Str.length_append]; omega
      · dsimp only; rw [app_assoc, ← rp_hit x y z hy1 hlt' hc x.length (by omega)]; exact hk3
      · dsimp only; omega
    · rename (Txt.slice _ _ _ == _) = false => hc
      rename (k : Int) < (x.length : Int) => hlt
      rw [slice_is hk1] at hc
      have hlt' : k < x.length := by omega
      have hi := item_is hlt'
      refine ksw_end (k + 1, told ++ Txt.item x (k : Int), _, _) (by assumption) (by assumption) (fun p hp => hp) trivial (List.forall_mem_cons.mpr ⟨by with_unfolding_all rfl, List.forall_mem_cons.mpr ⟨by with_unfolding_all rfl, List.forall_mem_nil _⟩⟩) (fun zz h2 _ => ?_) ⟨hlt', ?_, ?_⟩ ?_
      · simp only [List.forall_mem_cons, List.not_mem_nil, false_implies, implies_true, and_true, ne_eq] at h2
        simp only [kstB, h2.1, h2.2, if_false, List.contains_nil, Bool.false_eq_true]
      · dsimp only; rw [Str.length_append]; omega
      · dsimp only; rw [app_assoc, hi, ← rp_miss x y z hy1 hlt' (by rw [hc]; decide) x.length (by omega)]; exact hk3
      · dsimp only; omega
    · rename ¬ (k : Int) < (x.length : Int) => hge
      have e : told = replaced x y z := by
        rw [rp_past x y z (by omega), app_empty] at hk3
        exact hk3
      rw [e]
      exact hret _ _ _ (by assumption) (by assumption)
theorem replaced_call (w : World) (mean : ExcName → Option Value) (mg mb : Str → Option Value) (news : List (Addr × Obj)) (cn : Str) (cs : Scope) (a : Addr) (ccd : Value) (h₀ : Heap) (L : Addr) (m : Str → Option Value) (s : Shared) (Q E : Value → Shared → Prop) (x y z : Str) (t1 t2 t3 : Tok)
    (B : Below callerA h₀ [] h₀) (F : Fr h₀ L s.heap m) (X : (hd.heap_39 w.params).In h₀) (N : News h₀ L s.heap news) (T : Top hd.view_39 (looseW hd.view_39 []) mean mg mb h₀) (hck : cs.kind = .function)
    (hpre : 1 ≤ y.length ∧ y.length ≤ 100 ∧ z.length ≤ 2 ∧ x.length ≤ 4000000)
    (ret : ∀ t h' tk', Fr h₀ L h' m → News h₀ L h' news → Q (.str (replaced x y z) t) { s with heap := h', toks := tk' }) :
    wpAny (model PySem.Challenge.rw_dz0090_01.prog w) (callerA.deeper (envOf cn cs L a ccd)) (call (.ref 28) [.str x t1, .str y t2, .str z t3]) Q E s := by
  have c := replaced_c w mean mg mb news x y z t1 t2 t3
  dsimp only [CbClaim, CbLists, CbRet] at c
  exact c (callerA.deeper (envOf cn cs L a ccd)).depth (callerA.deeper (envOf cn cs L a ccd)).units (callerA.deeper (envOf cn cs L a ccd)).guards cn cs a ccd [] [] callerA h₀ h₀ L m s Q E B F X N T hck hpre (by ktr_room) (by ktr_units) ret

end
section
open PySem PySem.W PyProof.Rows
inductive Out where
  | ok (t : Str)
  | idx
  | val
def run : Str → List Str → Out
  | t, [] => .ok t
  | _, [_] => .idx
  | t, x :: y :: r => if x.length = 0 then .val else run (replaced t x y) r
abbrev tupOf (vs : List Value) (n : Nat) : Obj := { cls := .type "tuple", data := .seq vs.toArray n }
def SaidIs (r : Value) (extra : List (Addr × Obj)) : Out → Prop
  | .ok t => extra = [] ∧ ∃ tk, r = .str t tk
  | .idx => ∃ D t1 t2, r = .ref D ∧ extra = [(D, tupOf [.str (Str.ofString "half a pair") t1, .int 0 t2] 0)]
  | .val => ∃ D t1 t2, r = .ref D ∧ extra = [(D, tupOf [.str (Str.ofString "nothing is sought") t1, .int 0 t2] 0)]
section
variable {prog : Program} {w : World} {A : Around} {E : Value → Shared → Prop} {s : Shared} {h₀ : Heap} {L : Addr} {m : Str → Option Value} {news : List (Addr × Obj)}
theorem tup_at {value slice : PySem.Expr} {t : Addr} {l : List Value} {n j : Nat} {u : Tok} {v : Value} {Q : Value → Shared → Prop} (N : News h₀ L s.heap news) (hm : (t, tupOf l n) ∈ news) (hj : j ≤ 1000) (hx : l[j]? = some v) (h : Q v s)
    (hs : subscripted slice false (.ref t) (.int (j : Int) u) = operate [.ref t, .int (j : Int) u] (getItem (.ref t) (.int (j : Int) u)) := by with_unfolding_all rfl) :
    wpAny (model prog w) A (subscriptTail value slice (.ref t) (.int (j : Int) u)) Q E s :=
  have hlt : j < l.length := (List.getElem?_eq_some_iff.mp hx).1
  item_tupleT (l := l) (j := j) ⟨_, (N _ hm).1, rfl, n, rfl⟩ (by omega) (by omega) (by unfold seqIndex?; simp; omega) hx h hs
theorem tup_out {value slice : PySem.Expr} {t : Addr} {l : List Value} {n j : Nat} {u : Tok} {Q : Value → Shared → Prop} (hA : A.handled = none) (N : News h₀ L s.heap news) (hm : (t, tupOf l n) ∈ news) (hj : j ≤ 1000) (hx : l.length ≤ j)
    (hE : ∀ h' tk e, Heap.NewExc s.heap h' e "IndexError" → E (.ref e) { s with heap := h', toks := tk })
    (hs : subscripted slice false (.ref t) (.int (j : Int) u) = operate [.ref t, .int (j : Int) u] (getItem (.ref t) (.int (j : Int) u)) := by with_unfolding_all rfl) :
    wpAny (model prog w) A (subscriptTail value slice (.ref t) (.int (j : Int) u)) Q E s :=
  have ht := (N _ hm).1
  tail_any (T := "tuple") ⟨_, ht, rfl⟩ PySem.F.slot_tuple_getitem.lookup (getItem_meets ⟨_, ht, rfl⟩ (by decide) PySem.F.slot_tuple_getitem PySem.F.entry_tuple_getitem (PySem.F.args_tuple_getitem_2 _ _)
    (PySem.MeetsSeq.tuple_getitem_out t l.toArray n j u (by omega) (by omega) (by unfold seqIndex?; simp; omega)) ⟨ht, hA, hE⟩) hs
theorem kind_empty {x y : Str} (hy : y.length = 0) : (decide (x.length < y.length) || decide (PySem.Builtin.Str.strKind x < PySem.Builtin.Str.strKind y)) = false := by
  have e : y = Str.empty := Str.ext' (Array.eq_empty_of_size_eq_zero hy)
  subst e
  have h1 : PySem.Builtin.Str.strKind Str.empty = 1 := by decide +kernel
  have h2 : 1 ≤ PySem.Builtin.Str.strKind x := by unfold PySem.Builtin.Str.strKind; split <;> (try split) <;> omega
  rw [h1]
  simp only [Bool.or_eq_false_iff, decide_eq_false_iff_not]
  exact ⟨by rw [hy]; omega, by omega⟩
theorem split_empty {x y : Str} {t u : Tok} {Q : Value → Shared → Prop} (hA : A.handled = none) (hy : y.length = 0)
    (hE : ∀ h' tk e, Heap.NewExc s.heap h' e "ValueError" → E (.ref e) { s with heap := h', toks := tk }) :
    wpAny (model prog w) A (call (.builtin "str.split") [.str x t, .str y u]) Q E s :=
  call_meets PySem.F.slot_str_split (typeIs_str _ _ _) PySem.F.entry_str_split (PySem.F.args_str_split_2 _ _) (raises_str_split_empty x y t u (kind_empty hy) (by rw [hy]; rfl)) ⟨hA, hE⟩
theorem split_N {x y : Str} {t u : Tok} {Q : Value → Shared → Prop} (F : Fr h₀ L s.heap m) (N : News h₀ L s.heap news) (hy : 1 ≤ y.length) (hx : x.length ≤ 3000000)
    (h : ∀ D l h' k, l.map (·.1) = Txt.split x y → Fr h₀ L h' m → News h₀ L h' news → h'.IsList D (strValues l).toArray → Q (.ref D) { s with heap := h', toks := k }) :
    wpAny (model prog w) A (call (.builtin "str.split") [.str x t, .str y u]) Q E s :=
  SCH.split1 (P := fun h' => Fr h₀ L h' m ∧ News h₀ L h' news) (fun _ ob p => ⟨p.1.push ob, p.2.grown fun _ _ e => Heap.get?_push_of_some _ e⟩) ⟨F, N⟩ (by rw [beq_eq_false_iff_ne]; omega)
    (fun D l h' k e p hl => h D l h' k e p.1 p.2 hl) (by rw [sizeLine_eq]; omega) (by have := parts_count x y; rw [sizeLine_eq]; omega)
end

end
section
open PySem PySem.W PyProof.Rows
theorem said_c (w : World) (mean : ExcName → Option Value) (mg mb : Str → Option Value) (news : List (Addr × Obj)) (cn : Str) (cs : Scope) (a : Addr) (ccd : Value) (h₀ : Heap) (L : Addr) (m : Str → Option Value) (s : Shared) (Q E : Value → Shared → Prop)
    (text : Str) (t1 : Tok) (l : Addr) (ps : List Str) (vs : List Value) (nn : Nat)
    (B : Below callerA h₀ [] h₀) (F : Fr h₀ L s.heap m) (X : (hd.heap_39 w.params).In h₀) (N : News h₀ L s.heap news) (T : Top hd.view_39 (looseW hd.view_39 []) mean mg mb h₀) (hck : cs.kind = .function)
    (hm : (l, W.listOf vs.toArray nn) ∈ news) (hv : StrsAre vs ps) (hps : ps.length ≤ 100) (hlen : text.length * 2 ^ ps.length ≤ 3000000) (hall : ∀ y ∈ ps, y.length ≤ 4)
    (ret : ∀ r h' tk' extra, Fr h₀ L h' m → News h₀ L h' (extra ++ news) → SaidIs r extra (run text ps) → Q r { s with heap := h', toks := tk' }) :
    wpAny (model PySem.Challenge.rw_dz0090_01.prog w) (callerA.deeper (envOf cn cs L a ccd)) (call (.ref 35) [.str text t1, .ref l]) Q E s := by
  revert X; k_fill; intro X
  refine wpAny_call ?_
  have XB := X
  have TB := T
  w_strict (k_dflt (refine' code_defS0 ?k1 ?k2 ?k3 ?k4 ?k5 ?kA ?k6 ?k7 ?k8 ?k9 ?kB ?_ ?cK ?c2 ?c3 ?c4 ?c5; (case kA => exact rfl); (case k2 => k_asm); (case k1 => k_asm); (case k3 => k_asm); (case k4 => k_asm); (case k5 => k_asm); (case k6 => k_is); (case k7 => k_is); (case k8 => k_room); (case k9 => first | exact binds_K (by k_in) rfl (by k_is) rfl rfl rfl | exact BindsTo.of_eq rfl | fail "kts_go: no rule for these arguments"); (case kB => exact locs rfl); (case cK => exact hck); (case c2 => exact rfl); (case c3 => exact rfl); (case c4 => exact rfl); (case c5 => decide); k_whole; intro g' L' h' FG' F' N' B' X' T' D'; (try dsimp only); (try k_lift B'); (try k_fold)); k_steps)
  have hvl : vs.length ≤ 100 := by have := hv.length; omega
  have hvz : vs.length ≤ sizeLine := by rw [sizeLine_eq]; omega
  refine star_seq F' N' hm rfl rfl (.inl rfl) rfl (by rw [List.size_toArray]; exact hvz) ?_
  intro h2 F2 N2
  clear F' N'
  w_strict (repeat' ((fail_if_success (with_reducible show wpAny _ _ (call (Value.ref 21) _) _ _ _)); first | (k_unfold; (try dsimp only)) | (k_end; wrow_close) | walk1 | (dsimp only; walk1) | (leave1; try dsimp only) | fail "no step"))
  rw [List.append_nil]
  refine wpAny_call ?_
  w_strict (k_dflt ((refine' kp_rest ?k1 ?k2 ?k3 ?k4 ?k5 ?kA ?kF ?kK ?k6 ?k7 ?k8 ?kV ?kP ?kG ?kB ?_ ?c2 ?c3 ?c4 ?c5; (case kA => exact rfl); (case kF => exact rfl); (case kK => exact rfl); (case k1 => k_asm); (case k2 => k_asm); (case k3 => k_asm); (case k4 => k_asm); (case k5 => k_asm); (case k6 => k_is); (case k7 => k_is); (case k8 => k_room); (case kP => exact bind_rest hvz); (case kV => exact rfl); (case kG => exact fun _ => rfl); (case kB => exact fun _ => locs rfl); (case c5 => decide); (case c2 => exact rfl); (case c3 => exact rfl); (case c4 => exact rfl); k_whole; intro D3 g3 L3 h3 l3 FG3 F3 N3 B3 X3 T3; (try dsimp only); (try k_lift B3); (try k_fold))));  w_strict (repeat' ((fail_if_success (with_reducible show wpAny _ _ (exec (Stmt.While _ _ _ _) _) _ _ _)); first | (k_unfold; (try dsimp only)) | (k_end; wrow_close) | walk1 | (dsimp only; walk1) | (leave1; try dsimp only) | fail "no step"))
  refine' ksw_while (σ := Str × Tok × List Str × List Value × Addr) (fun c => (c.2.2.2.2, tupOf c.2.2.2.1 0) :: news) (fun c => [(Str.ofString "text", .str c.1 c.2.1), (Str.ofString "pairs", .ref c.2.2.2.2)]) (fun c => StrsAre c.2.2.2.1 c.2.2.1) []
    (fun c => run c.1 c.2.2.1 = run text ps ∧ c.1.length * 2 ^ c.2.2.1.length ≤ 3000000 ∧ c.2.2.1.length ≤ 100 ∧ ∀ y ∈ c.2.2.1, y.length ≤ 4) (fun c => c.2.2.1.length) (text, t1, ps, vs, D3) F3 N3 hv ?hkk ⟨rfl, hlen, hps, hall⟩ ?turn ?hE
  case hkk => exact List.forall_mem_cons.mpr ⟨by with_unfolding_all rfl, List.forall_mem_cons.mpr ⟨by with_unfolding_all rfl, List.forall_mem_nil _⟩⟩
  case hE => with_unfolding_all passes_own
  case turn =>
    clear F3 N3 l3
    intro c u h tk' hf hP F4 N4
    obtain ⟨tx, tkx, qs, us, D⟩ := c
    obtain ⟨hrun, hln, hqn, hqa⟩ := hP
    dsimp only at hf hrun hln hqn hqa F4 N4 ⊢
    rcases qs with _ | ⟨x, _ | ⟨y, r⟩⟩
    · cases hf
      w_strict k_steps
      rename Fr h₀ L _ m => kF
      rename News h₀ L _ ((_, _) :: _) => kN
      refine ret _ _ _ [] kF (fun p hp => kN p (List.Mem.tail _ hp)) ?_
      rw [← hrun]
      exact ⟨rfl, _, rfl⟩
    · cases hf with | cons x tkX hf =>
      cases hf
      w_strict (repeat' ((fail_if_success (with_reducible show wpAny _ _ (subscriptTail _ _ _ _) _ _ _));  first | (k_unfold; (try dsimp only)) | (k_end; wrow_close) | walk1 | (dsimp only; walk1) | (leave1; try dsimp only) | fail "no step"))
      refine tup_out (j := 1) (by rfl) (by assumption) (List.Mem.head _) (by decide) (Nat.le_refl _) ?_
      intro h5 tk5 e5 hx5
      w_strict k_steps
      rename Fr h₀ L _ m => kF
      rename News h₀ L _ ((_, _) :: (_, _) :: _) => kN
      refine ret _ _ _ [(_, _)] kF (fun p hp => kN p (by rcases List.mem_cons.mp hp with h | h; exact h ▸ .head _; exact .tail _ (.tail _ h))) ?_
      rw [← hrun]
      exact ⟨_, _, _, rfl, rfl⟩
    · cases hf with | cons x tkX hf =>
      cases hf with | cons y tkY hf =>
      have hl' := hf.length
      w_strict (repeat' ((fail_if_success (with_reducible show wpAny _ _ (truthy _) _ _ _));  first | (k_unfold; (try dsimp only)) | (k_end; wrow_close) | walk1 | (dsimp only; walk1) | (leave1; try dsimp only) | fail "no step"))
      refine ktl_truthyK (by assumption) (List.Mem.head _) (by simp only [List.length_cons] at hqn ⊢; omega) ?_
      rw [show (!(Value.str x tkX :: Value.str y tkY :: _ : List Value).isEmpty) = true from rfl]
      w_strict (repeat' ((fail_if_success (with_reducible show wpAny _ _ (subscriptTail _ _ _ _) _ _ _));  first | (k_unfold; (try dsimp only)) | (k_end; wrow_close) | walk1 | (dsimp only; walk1) | (leave1; try dsimp only) | fail "no step"))
      refine tup_at (j := 1) (by assumption) (List.Mem.head _) (by decide) rfl ?_
      w_strict (repeat' ((fail_if_success (with_reducible show wpAny _ _ (subscriptTail _ _ _ _) _ _ _));  first | (k_unfold; (try dsimp only)) | (k_end; wrow_close) | walk1 | (dsimp only; walk1) | (leave1; try dsimp only) | fail "no step"))
      refine tup_at (j := 0) (by assumption) (List.Mem.head _) (by decide) rfl ?_
      w_strict (repeat' ((fail_if_success (with_reducible show wpAny _ _ (call (Value.builtin "str.split") _) _ _ _));  first | (k_unfold; (try dsimp only)) | (k_end; wrow_close) | walk1 | (dsimp only; walk1) | (leave1; try dsimp only) | fail "no step"))
      by_cases hx0 : x.length = 0
      · refine split_empty (by rfl) hx0 ?_
        intro h5 tk5 e5 hx5
        w_strict k_steps
        rename Fr h₀ L _ m => kF
        rename News h₀ L _ ((_, _) :: (_, _) :: _) => kN
        refine ret _ _ _ [(_, _)] kF (fun p hp => kN p (by rcases List.mem_cons.mp hp with h | h; exact h ▸ .head _; exact .tail _ (.tail _ h))) ?_
        rw [← hrun]
        rw [show run tx (x :: y :: r) = .val from if_pos hx0]
        exact ⟨_, _, _, rfl, rfl⟩
      · have htx : tx.length ≤ 3000000 := by
          have : 1 ≤ 2 ^ (x :: y :: r).length := Nat.one_le_two_pow
          have := Nat.le_trans (Nat.le_mul_of_pos_right tx.length this) hln
          exact this
        have hyz : y.length ≤ 4 := hqa y (by simp)
        refine split_N (by assumption) (by assumption) (by omega) htx ?_
        intro D5 l5 h5 tk5 hl5 F5 N5 hD5
        w_strict (repeat' ((fail_if_success (with_reducible show wpAny _ _ (call (Value.builtin "str.join") _) _ _ _));  first | (k_unfold; (try dsimp only)) | (k_end; wrow_close) | walk1 | (dsimp only; walk1) | (leave1; try dsimp only) | fail "no step"))
        refine SC.join hD5 hl5 (joinOk_split htx hyz) ?_
        intro t6 k6
        rw [tjoin_split_is tx x y (by omega)]
        w_strict (repeat' ((fail_if_success (with_reducible show wpAny _ _ (subscriptTail _ _ _ _) _ _ _));  first | (k_unfold; (try dsimp only)) | (k_end; wrow_close) | walk1 | (dsimp only; walk1) | (leave1; try dsimp only) | fail "no step"))
        rename Fr g3 L3 _ _ => F6
        rename News g3 L3 _ _ => N6
        refine slice_tuple_from (a := 2) F6 N6 ⟨_, (N6 _ (List.Mem.head _)).1, rfl, _, rfl⟩ (by decide) (by simp) ?_ (hsz := ?hsz)
        case hsz => rw [List.size_toArray, sizeLine_eq]; simp only [List.length_cons] at hqn ⊢; omega
        intro h7 F7 N7
        clear F6 N6
        w_strict (repeat' ((fail_if_success (with_reducible show KswEnd _ _ _ _ _ _ _ _ _ _ _ _)); first | (k_unfold; (try dsimp only)) | (k_end; wrow_close) | walk1 | (dsimp only; walk1) | (leave1; try dsimp only) | fail "no step"))
        refine ksw_end (replaced tx x y, t6, r, _, _) (by assumption) (by assumption) (fun p hp => ?_) hf (List.forall_mem_cons.mpr ⟨by with_unfolding_all rfl, List.forall_mem_cons.mpr ⟨by with_unfolding_all rfl, List.forall_mem_nil _⟩⟩) (fun zz h2 _ => ?_) ⟨?_, ?_, ?_, fun y' hy' => hqa y' (by simp [hy'])⟩ ?_
        · rcases List.mem_cons.mp hp with h | h
          · exact h ▸ .head _
          · exact .tail _ (.tail _ h)
        · simp only [List.forall_mem_cons, List.not_mem_nil, false_implies, implies_true, and_true, ne_eq] at h2
          simp only [kstB, h2.1, h2.2, if_false, List.contains_nil, Bool.false_eq_true]
        · rw [← hrun]
          exact (if_neg hx0).symm
        · have e1 := replaced_len4 (x := tx) (y := x) hyz (by omega)
          have e2 : (2 : Nat) ^ (x :: y :: r).length = 4 * 2 ^ r.length := by rw [List.length_cons, List.length_cons, Nat.pow_succ, Nat.pow_succ]; omega
          rw [e2] at hln
          refine Nat.le_trans (Nat.mul_le_mul_right _ e1) ?_
          rw [Nat.mul_comm 4 tx.length, Nat.mul_assoc]
          exact hln
        · simp only [List.length_cons] at hqn ⊢; omega
        · simp only [List.length_cons]; omega

end
section
open PySem PySem.W PyProof.Rows
section
variable {prog : Program} {w : World} {A : Around} {h₀ : Heap} {L : Addr} {m : Str → Option Value} {env : Env} {elt : PySem.Expr} {x : Str} {scope : Scope} {cl : List (Str × Addr)} {s : Shared} {S : List (Addr × Obj) → Prop} {P : Nat → Value → Prop} {Fin : List Value → List (Addr × Obj) → Prop} {news : List (Addr × Obj)}
/-- a comprehension by an invariant over its turns' number, its items and its ledger -/
theorem comp_inv {n : Nat} (J : Nat → List Value → List (Addr × Obj) → Prop) (h0 : J 0 [] news)
    (turn : ∀ i v ys nw I oI C oC D m₂ h tk (E' : Value → Shared → Prop), i < n → P i v → J i ys nw → LCg.NsObj oC m₂ → m₂ x = some v → Fr h₀ L h m → News h₀ L h ((I, oI) :: (C, oC) :: (D, LCg.lst ys) :: nw) → LCg.Off3 I C D nw → ((@Ne Nat I C) ∧ (@Ne Nat I D) ∧ (@Ne Nat C D)) →
      wpAny (model prog w) A (eval elt (compEnvC scope cl C env)) (LCg.CompEnd h₀ L m { s with heap := h, toks := tk } I oI C oC D (LCg.lst ys) S (fun y nw' => J (i + 1) (ys ++ [y]) nw')) E' { s with heap := h, toks := tk })
    (fin : ∀ ys nw, J n ys nw → Fin ys nw) : LCg.CompRest prog w A h₀ L m env elt x scope cl s S P Fin n 0 [] news := by
  have key : ∀ (j i : Nat) (ys : List Value) (nw : List (Addr × Obj)), i + j = n → J i ys nw → LCg.CompRest prog w A h₀ L m env elt x scope cl s S P Fin j i ys nw := by
    intro j
    induction j with
    | zero =>
      intro i ys nw hi hJ
      have e : i = n := by omega
      subst e
      exact LCg.CompRest.zero (fin ys nw hJ)
    | succ j ih =>
      intro i ys nw hi hJ
      refine LCg.CompRest.succ ?_
      intro v I oI C oC D m₂ h tk E' hv hC hx F N off ne
      refine wpAny_mono (turn i v ys nw I oI C oC D m₂ h tk E' (by omega) hv hJ hC hx F N off ne) (fun y s₂ hq => ?_) fun _ _ e => e
      obtain ⟨h', tk', nw', e, F', N', off', hS, hJ'⟩ := hq
      exact ⟨h', tk', nw', e, F', N', off', hS, ih (i + 1) _ nw' (by omega) hJ'⟩
  exact key n 0 [] news (by omega) h0
end
theorem strs_snoc {y : Str} {t : Tok} {vs : List Value} {ys : List Str} (h : StrsAre vs ys) : StrsAre (vs ++ [.str y t]) (ys ++ [y]) := StrsAre.append' h (.cons y t .nil)
theorem strs_values : ∀ {vs : List Value} {ys : List Str}, StrsAre vs ys → ∃ l, vs = strValues l ∧ l.map (·.1) = ys
  | _, _, .nil => ⟨[], rfl, rfl⟩
  | _, _, .cons y t r => by
    obtain ⟨l, e1, e2⟩ := strs_values r
    exact ⟨(y, t) :: l, by rw [e1]; rfl, by rw [← e2]; rfl⟩
theorem ones_len {xs : List Str} (h : ∀ y ∈ xs, y.length = 1) : (xs.map (·.length)).sum = xs.length := by
  induction xs with
  | nil => rfl
  | cons x r ih =>
    rw [List.map_cons, List.sum_cons, ih fun y hy => h y (List.mem_cons_of_mem _ hy), h x (List.mem_cons_self ..), List.length_cons]
    omega
theorem ones_ok {xs : List Str} (h : ∀ y ∈ xs, y.length = 1) (hn : xs.length ≤ 16) : JoinOk (Str.ofString "") xs = true := by
  unfold JoinOk
  rw [StrLaws.joinTotal, ones_len h, show (Str.ofString "").length = 0 by decide, Nat.mul_zero]
  have : Builtin.Str.tooLong (xs.length + 0) = false := by
    have e : (2 : Nat) ^ 24 = 16777216 := by decide
    unfold Builtin.Str.tooLong sizeLine
    exact decide_eq_false (by omega)
  rw [this]; rfl
theorem ones_join {xs : List Str} (h : ∀ y ∈ xs, y.length = 1) : (Txt.join (Str.ofString "") xs).length ≤ xs.length := by
  show (Builtin.Str.glued _ xs).length ≤ _
  rw [size_glued, ones_len h, show (Str.ofString "").length = 0 by decide, Nat.mul_zero]
  omega

theorem off1_mem {D : Addr} : ∀ {l : List (Addr × Obj)}, LCg.Off1 D l → ∀ p ∈ l, p.1 ≠ D
  | [], _, _, h => nomatch h
  | _ :: _, x, p, h => by
    rcases List.mem_cons.mp h with rfl | h
    · exact x.1
    · exact off1_mem x.2 p h
/-- a list's values as texts' pairs, each a tuple of the ledger -/
inductive PairsIn (nw : List (Addr × Obj)) : List Value → List (Str × Str) → Prop
  | nil : PairsIn nw [] []
  | cons {a : Addr} {x y : Str} {t u : Tok} {vs : List Value} {ps : List (Str × Str)} : (a, tupOf [.str x t, .str y u] 0) ∈ nw → PairsIn nw vs ps → PairsIn nw (.ref a :: vs) ((x, y) :: ps)
theorem PairsIn.mono {nw nw' : List (Addr × Obj)} (hs : ∀ p ∈ nw, p ∈ nw') : ∀ {vs : List Value} {ps : List (Str × Str)}, PairsIn nw vs ps → PairsIn nw' vs ps
  | _, _, .nil => .nil
  | _, _, .cons hm r => .cons (hs _ hm) (r.mono hs)
theorem PairsIn.snoc {nw : List (Addr × Obj)} {a : Addr} {x y : Str} {t u : Tok} (hm : (a, tupOf [.str x t, .str y u] 0) ∈ nw) : ∀ {vs : List Value} {ps : List (Str × Str)}, PairsIn nw vs ps → PairsIn nw (vs ++ [.ref a]) (ps ++ [(x, y)])
  | _, _, .nil => .cons hm .nil
  | _, _, .cons h r => .cons h (PairsIn.snoc hm r)
theorem PairsIn.length {nw : List (Addr × Obj)} : ∀ {vs : List Value} {ps : List (Str × Str)}, PairsIn nw vs ps → vs.length = ps.length
  | _, _, .nil => rfl
  | _, _, .cons _ r => by rw [List.length_cons, List.length_cons, r.length]
section
variable {prog : Program} {w : World} {A : Around} {E : Value → Shared → Prop} {s : Shared} {h₀ : Heap} {L : Addr} {m : Str → Option Value} {news : List (Addr × Obj)}
/-- an item of a made list of texts at an open place -/
theorem list_atS {φ : Str → Prop} {value slice : PySem.Expr} {l : Addr} {vs : List Value} {n : Nat} {k : Int} {u : Tok} {Q : Value → Shared → Prop} (N : News h₀ L s.heap news) (hm : (l, W.listOf vs.toArray n) ∈ news) (h0 : 0 ≤ k) (h1 : k < (vs.length : Int)) (hz : vs.length ≤ 1000)
    (hall : ∀ v ∈ vs, ∃ y t, v = .str y t ∧ φ y) (h : ∀ y t, φ y → Q (.str y t) s)
    (hs : subscripted slice false (.ref l) (.int k u) = operate [.ref l, .int k u] (getItem (.ref l) (.int k u)) := by with_unfolding_all rfl) :
    wpAny (model prog w) A (subscriptTail value slice (.ref l) (.int k u)) Q E s := by
  have hlt : k.toNat < vs.length := by omega
  have hL : s.heap.IsList l vs.toArray := ⟨_, (N _ hm).1, rfl, n, rfl⟩
  obtain ⟨y, t, e, hy⟩ := hall vs[k.toNat] (List.getElem_mem hlt)
  refine tail_any hL.typeIs slot_list_getitem.lookup (wpAny_getItem_list (x := .str y t) hL h0 (by omega) ?_ (h y t hy)) hs
  rw [← e]
  simp [hlt]
end
section
variable {prog : Program} {w : World} {A : Around} {E : Value → Shared → Prop} {h₀ : Heap} {env : Env} {target : PySem.Expr} {body : List Stmt} {Q : Flow → Shared → Prop} {s : Shared} {I ax : Addr} {lo : Obj}
/-- a loop over a made list's values by an invariant over what is still to come, the frame's map and the ledger -/
theorem items_inv {L : Addr} {hx : Heap} {mx : Str → Option Value} (fF0 : Fr h₀ L hx mx) (hL : env.locals = L) (Inv : List Value → (Str → Option Value) → List (Addr × Obj) → Prop)
    (turn : ∀ v r m news h tk o, Inv (v :: r) m news → o.cls = .type "list_iterator" → Fr h₀ L h m → News h₀ L h ((I, o) :: news) →
      wpAny (model prog w) A (assign target env v) (fun _ s₂ => wpAny (model prog w) A (execs body env) (UnrPostW h₀ L { s with heap := h, toks := tk } [(I, o)] (fun m' n' => SubL [(ax, lo)] n' ∧ Inv r m' n') Q) E s₂) E { s with heap := h, toks := tk })
    (done : ∀ m news h tk, Inv [] m news → Fr h₀ L h m → News h₀ L h news → Q .next { s with heap := h, toks := tk }) :
    ∀ vs m news, Inv vs m news → ItemsRest prog w A E h₀ env target body Q s [(I, "list_iterator")] [(ax, lo)] (vs.map .val) m news := by
  subst hL
  intro vs
  induction vs with
  | nil => exact fun m news hi => ItemsRest.zero fun h tk F N => done m news h tk hi F N
  | cons v r ih =>
    intro m news hi
    refine ItemsRest.val fun h tk F => AllObj.cons fun o ho => AllObj.nil fun N => ?_
    refine wpAny_mono (turn v r m news h tk o hi ho F N) (fun _ s₂ h₂ => wpAny_mono h₂ (fun f s₃ p => ?_) fun _ _ e => e) fun _ _ e => e
    have fin : ∀ s₃, UnrEndW h₀ env.locals { s with heap := h, toks := tk } [(I, o)] (fun m' n' => SubL [(ax, lo)] n' ∧ Inv r m' n') s₃ →
        UnrEndW h₀ env.locals { s with heap := h, toks := tk } [(I, o)] (fun m' n' => SubL [(ax, lo)] n' ∧ ItemsRest prog w A E h₀ env target body Q s [(I, "list_iterator")] [(ax, lo)] (r.map .val) m' n') s₃ := by
      rintro s₃ ⟨h', tk', m', news', e, F', N', off, sub, hi'⟩
      exact ⟨h', tk', m', news', e, F', N', off, sub, ih m' news' hi'⟩
    cases f with
    | ret v => exact p
    | brk => exact p
    | next => exact fin _ p
    | cont => exact fin _ p
end
theorem run_app : ∀ {gs : List Str} {t d : Str} (r : List Str), run t gs = .ok d → run t (gs ++ r) = run d r
  | [], t, d, r, h => by
    have e : t = d := by injection h
    rw [e]; rfl
  | [_], _, _, _, h => by cases h
  | x :: y :: gs, t, d, r, h => by
    show (if x.length = 0 then Out.val else run (replaced t x y) (gs ++ r)) = _
    have h' : (if x.length = 0 then Out.val else run (replaced t x y) gs) = .ok d := h
    by_cases hx : x.length = 0
    · rw [if_pos hx] at h'; cases h'
    · rw [if_neg hx] at h' ⊢
      exact run_app r h'

end
section
open PySem PySem.W PyProof.Rows
theorem fillsI_list : fillsInplaceSlot (.type "list") "add" (Operator.Add == .Add) = pure false := by
  unfold fillsInplaceSlot
  show (typeLookup (.type "list") (dunderI "add") >>= fun fi => pure (fi.isSome && !isSeqSlot fi)) = pure false
  rw [PySem.F.slot_list_iadd.lookup]
  show (pure ((some (Value.builtin "list.__iadd__")).isSome && !isSeqSlot (some (Value.builtin "list.__iadd__"))) : Sem Bool) = pure false
  rw [show isSeqSlot (some (Value.builtin "list.__iadd__")) = true by decide +kernel]
  rfl
theorem seqI_list : seqSlot? (.type "list") (dunderI "add") = pure (some (.builtin "list.__iadd__")) := PySem.seqSlot_of PySem.F.slot_list_iadd.lookup (by decide +kernel)
section
variable {prog : Program} {w : World} {A : Around} {E : Value → Shared → Prop} {s : Shared} {h₀ : Heap} {L : Addr} {m : Str → Option Value} {news news' : List (Addr × Obj)}
theorem iadd_K {D b : Addr} {vs ws : List Value} {n n2 : Nat} {Q : Value → Shared → Prop} (F : Fr h₀ L s.heap m) (N : News h₀ L s.heap news) (hb : (b, W.listOf ws.toArray n2) ∈ news) (U : Upd D (W.listOf vs.toArray n) (W.listOf (vs ++ ws).toArray (n + 1)) news news')
    (h : ∀ h', Fr h₀ L h' m → News h₀ L h' news' → Q (.ref D) { s with heap := h' }) (hz : vs.length + ws.length ≤ 1000) (hw : ws ≠ []) : wpAny (model prog w) A (inplaceOp .Add (.ref D) (.ref b)) Q E s := by
  obtain ⟨pre, post, rfl, rfl, u1, u2⟩ := U.split
  have z := N (D, W.listOf vs.toArray n) (List.mem_append.mpr (.inr (.head _)))
  have zb := N _ hb
  have ha : s.TypeIs (.ref D) "list" := ⟨_, z.1, rfl⟩
  have hbT : s.TypeIs (.ref b) "list" := ⟨_, zb.1, rfl⟩
  have hc : wpAny (model prog w) A (call (.builtin "list.__iadd__") [.ref D, .ref b]) Q E s := by
    refine call_meets PySem.F.slot_list_iadd ha PySem.F.entry_list_iadd (PySem.F.args_list_iadd_2 _ _)
      (AutoSeq1.list___iadd___list_list_0 D vs.toArray n b ws.toArray n2 ?_ (by rw [List.size_toArray, sizeLine_eq]; omega) (by rw [List.size_toArray, List.size_toArray, sizeLine_eq]; omega)) ⟨z.1, zb.1, ?_⟩
    · have : Builtin.List.listTooLong (vs.toArray.size + ws.toArray.size) = false := by
        unfold Builtin.List.listTooLong
        rw [List.size_toArray, List.size_toArray]
        exact decide_eq_false (by rw [sizeLine_eq]; omega)
      rw [this]; simp
    · have e : Obj.mapSeq (fun x => x ++ ws.toArray) (W.listOf vs.toArray n) = W.listOf (vs ++ ws).toArray (n + 1) := by
        simp [Obj.mapSeq, hw]
      refine h _ (F.change (Heap.SameBut.update ..) z.2.1 z.2.2) (news_set N u1 u2 (Heap.SameBut.update ..) ?_)
      rw [Heap.get?_update_self _ z.1 (by rw [e]; rfl), e]
  unfold inplaceOp
  refine wpAny_holding ?_
  refine wpAny_bind (wpAny_typeOf ha (wpAny_bind (wpAny_of_eq fillsI_list ?_)))
  show wpAny _ A (if false = true then _ else _) Q E s
  rw [if_neg Bool.false_ne_true]
  refine wpAny_bind (wpAny_binaryOp1_none (nm := "add") ha hbT noFill_list_add ?_)
  refine wpAny_bind (wpAny_of_eq seqI_list ?_)
  exact wpAny_bind (wpAny_rule hc)
end
/-- what holds between the turns: what is still to come, what has been given, what is due -/
def LInv (text : Str) (G I ax : Addr) (lo : Obj) (tl : List (Addr × Obj)) (vs : List Value) (m : Str → Option Value) (news : List (Addr × Obj)) : Prop :=
  ((∀ p ∈ (ax, lo) :: tl, p.1 ≠ G ∧ p.1 ≠ I) ∧ G ≠ I) ∧
  ∃ prs gvs gs nn due t1 t2, PairsIn tl vs prs ∧ (∀ p ∈ prs, p.1.length ≤ 4 ∧ p.2.length ≤ 2) ∧ StrsAre gvs gs ∧ run text gs = .ok due ∧ gs.length + 2 * prs.length ≤ 14 ∧ (∀ y ∈ gs, y.length ≤ 4) ∧ due.length ≤ 21 * 2 ^ gs.length ∧
    m (Str.ofString "text") = some (.str text t1) ∧ m (Str.ofString "given") = some (.ref G) ∧ m (Str.ofString "due") = some (.str due t2) ∧ news = (G, W.listOf gvs.toArray nn) :: (ax, lo) :: tl
theorem loop_ledger {h₀ h : Heap} {L ax L0 T0 G Tc D3 : Addr} {o1 o3 o4 : Obj} {ys : List Value} {v1 v2 v3 v4 : Value} {nw : List (Addr × Obj)}
    (N : News h₀ L h ((ax, { cls := .type "list", data := .seq (#[Value.ref T0].toList ++ (ys.toArray.push (.ref Tc)).toList).toArray }) :: (L0, o1) :: (T0, { cls := .type "tuple", data := .seq #[v1, v2] }) :: (G, o4) :: (Tc, { cls := .type "tuple", data := .seq #[v3, v4] }) :: (D3, o3) :: nw)) :
    News h₀ L h ((G, o4) :: (ax, W.listOf (.ref T0 :: (ys ++ [.ref Tc])).toArray 0) :: (T0, tupOf [v1, v2] 0) :: (Tc, tupOf [v3, v4] 0) :: nw) := by
  intro p hp
  rcases List.mem_cons.mp hp with e | hp
  · exact e ▸ N _ (.tail _ (.tail _ (.tail _ (.head _))))
  rcases List.mem_cons.mp hp with e | hp
  · subst e
    have z := N _ (.head _)
    rw [Array.toList_push] at z
    exact z
  rcases List.mem_cons.mp hp with e | hp
  · exact e ▸ N _ (.tail _ (.tail _ (.head _)))
  rcases List.mem_cons.mp hp with e | hp
  · exact e ▸ N _ (.tail _ (.tail _ (.tail _ (.tail _ (.head _)))))
  · exact N _ (.tail _ (.tail _ (.tail _ (.tail _ (.tail _ (.tail _ hp))))))
theorem loop_apart {ax G I T0 Tc : Addr} {lo oG o1 o2 : Obj} {nw : List (Addr × Obj)} (hI : ∀ p ∈ (G, oG) :: (ax, lo) :: (T0, o1) :: (Tc, o2) :: nw, p.1 < I) (hax : @LT.lt Nat _ G ax) (h0 : @LT.lt Nat _ G T0) (hc : @LT.lt Nat _ Tc G) (hn : ∀ p ∈ nw, p.1 < G) :
    (∀ p ∈ (ax, lo) :: (T0, o1) :: (Tc, o2) :: nw, p.1 ≠ G ∧ p.1 ≠ I) ∧ G ≠ I := by
  refine ⟨fun p hp => ⟨?_, Nat.ne_of_lt (hI p (.tail _ hp))⟩, Nat.ne_of_lt (hI _ (.head _))⟩
  rcases List.mem_cons.mp hp with e | hp
  · exact e ▸ Nat.ne_of_gt hax
  rcases List.mem_cons.mp hp with e | hp
  · exact e ▸ Nat.ne_of_gt h0
  rcases List.mem_cons.mp hp with e | hp
  · exact e ▸ Nat.ne_of_lt hc
  · exact Nat.ne_of_lt (hn p hp)
theorem loop_init {h₀ h : Heap} {L ax G I T0 Tc : Addr} {lo : Obj} {nw : List (Addr × Obj)} {ys : List Value} {prs : List (Str × Str)} {text : Str} {m : Str → Option Value} {t1 t2 u1 u2 u3 u4 : Tok} (fF : Fr h₀ L h m)
    (hap : (∀ p ∈ (ax, lo) :: (T0, tupOf [.str (Str.ofString "") u1, .str (Str.ofString "") u2] 0) :: (Tc, tupOf [.str (Str.ofString "c") u3, .str (Str.ofString ".") u4] 0) :: nw, p.1 ≠ G ∧ p.1 ≠ I) ∧ G ≠ I)
    (hprs : PairsIn nw ys prs) (hpl : prs.length ≤ 5) (hpa : ∀ p ∈ prs, 1 ≤ p.1.length ∧ p.1.length ≤ 4 ∧ p.2.length ≤ 2) (htx : text.length ≤ 21)
    (h1 : m (Str.ofString "text") = some (.str text t1)) (h2 : m (Str.ofString "given") = some (.ref G)) (h3 : m (Str.ofString "due") = some (.str text t2)) :
    LInv text G I ax lo ((T0, tupOf [.str (Str.ofString "") u1, .str (Str.ofString "") u2] 0) :: (Tc, tupOf [.str (Str.ofString "c") u3, .str (Str.ofString ".") u4] 0) :: nw) (.ref T0 :: (ys ++ [.ref Tc])) m
      ((G, W.listOf #[] 0) :: (ax, lo) :: (T0, tupOf [.str (Str.ofString "") u1, .str (Str.ofString "") u2] 0) :: (Tc, tupOf [.str (Str.ofString "c") u3, .str (Str.ofString ".") u4] 0) :: nw) := by
  refine ⟨hap, (Str.ofString "", Str.ofString "") :: (prs ++ [(Str.ofString "c", Str.ofString ".")]), [], [], 0, text, t1, t2, .cons (.head _) (PairsIn.snoc (.tail _ (.head _)) (hprs.mono fun p hp => .tail _ (.tail _ hp))), ?_, .nil, rfl, ?_, (fun _ h => nomatch h), ?_, h1, h2, h3, rfl⟩
  · intro p hp
    rcases List.mem_cons.mp hp with e | hp
    · rw [e]; decide
    rcases List.mem_append.mp hp with hp | hp
    · exact (hpa p hp).2
    · rw [List.mem_singleton.mp hp]; decide
  · simp only [List.length_cons, List.length_append, List.length_nil]
    omega
  · simpa using htx
theorem loop_core {prog : Program} {w : World} {A : Around} {E : Value → Shared → Prop} {h₀ : Heap} {env : Env} {target : PySem.Expr} {body : List Stmt} {Q : Flow → Shared → Prop} {s : Shared} {text : Str} {G I ax : Addr} {lo : Obj} {tl : List (Addr × Obj)} {vs : List Value} {m : Str → Option Value} {news : List (Addr × Obj)}
    (hinv : LInv text G I ax lo tl vs m news) (k : ∀ G I ax lo tl vs m news, LInv text G I ax lo tl vs m news → ItemsRest prog w A E h₀ env target body Q s [(I, "list_iterator")] [(ax, lo)] (vs.map .val) m news) :
    ItemsRest prog w A E h₀ env target body Q s [(I, "list_iterator")] [(ax, lo)] (vs.map .val) m news := k _ _ _ _ _ _ _ _ hinv
theorem fr_kst {h₀ h : Heap} {L : Addr} {m : Str → Option Value} {ps : List (Str × Value)} (F : Fr h₀ L h m) (hp : ∀ p ∈ ps, m p.1 = some p.2) : Fr h₀ L h (kstB m ps) := by
  rw [show kstB m ps = m from funext fun y => kstB_eq hp fun _ => rfl]
  exact F
/-- behind the turn's first if: what has been given and what is due are of a piece again -/
def LMid (text : Str) (G I ax : Addr) (lo : Obj) (tl : List (Addr × Obj)) (h₀ : Heap) (L : Addr) (o : Obj) (s : Shared) (k : Nat) (f : Flow) (s' : Shared) : Prop :=
  f = .next ∧ ∃ m gvs gs nn due t1 t2 h tk, s' = { s with heap := h, toks := tk } ∧ Fr h₀ L h (kstB m [(Str.ofString "text", .str text t1), (Str.ofString "given", .ref G), (Str.ofString "due", .str due t2)]) ∧ News h₀ L h ((I, o) :: (G, W.listOf gvs.toArray nn) :: (ax, lo) :: tl) ∧
    StrsAre gvs gs ∧ run text gs = .ok due ∧ gs.length + 2 * k ≤ 14 ∧ (∀ y ∈ gs, y.length ≤ 4) ∧ due.length ≤ 21 * 2 ^ gs.length
theorem mid_intro {M : Model} {A : Around} {t : Sem Flow} {Q : Flow → Shared → Prop} {E : Value → Shared → Prop} {s : Shared} {h₀ : Heap} {L : Addr} {m : Str → Option Value} (text : Str) (G I ax : Addr) (lo : Obj) (tl : List (Addr × Obj)) (o : Obj) (k : Nat) (fF : Fr h₀ L s.heap m)
    (h1 : wpAny M A t (LMid text G I ax lo tl h₀ L o s k) E s) (h2 : ∀ f s', LMid text G I ax lo tl h₀ L o s k f s' → Q f s') : wpAny M A t Q E s := wpAny_mono h1 h2 fun _ _ e => e

end
section
open PySem PySem.W PyProof.Rows
theorem the_law : PySem.Challenge.rw_dz0090_01.Holds := by
  refine hd ?_
  w_on
  w_strict k_go0
  (all_goals try k_fold)
  w_strict (repeat' ((fail_if_success (with_reducible show wpAny _ _ (eval (Expr.ListComp _ _ _ _) _) _ _ _));  first | (k_unfold; (try dsimp only)) | (k_end; wrow_close) | walk1 | (dsimp only; walk1) | (leave1; try dsimp only) | fail "no step"))
  refine LCg.ListComp_U (F₀ := by k_asm) (by with_unfolding_all rfl) (by decide) (by rfl) (by decide) (by rfl) ?_
  w_strict (repeat' ((fail_if_success (with_reducible show LCg.CompSrc _ _ _ _ _ _ _ _ _ _ _ _ _ _));  first | (k_unfold; (try dsimp only)) | (k_end; wrow_close) | walk1 | (dsimp only; walk1) | (leave1; try dsimp only) | fail "no step"))
  rename IntsAre _ (List.take 16 _) => hI16
  have hl16 := hI16.length
  rw [List.length_take] at hl16
  refine LCg.CompSrc.ledger (by rfl) (by k_asm) (by k_asm) (by k_mem) (by rw [List.size_toArray, sizeLine_eq]; omega) ?_
  intro g1
  refine comp_inv (fun i ys nw => nw = _ ∧ ∃ xs, StrsAre ys xs ∧ xs.length = i ∧ ∀ y ∈ xs, y.length = 1) ⟨rfl, [], .nil, rfl, fun _ h => nomatch h⟩ ?_ ?_
  · rintro i v ys nw I oI C oC D m₂ h tk E' hi hP ⟨rfl, xs, hxs, hxl, hx1⟩ hC hx F1 N1 off ne
    obtain ⟨k, tkk, ev, hk⟩ := IntsAre.at hI16 i v (by simpa using hP)
    subst ev
    w_strict (repeat' ((fail_if_success (with_reducible show LCg.CompEnd _ _ _ _ _ _ _ _ _ _ _ _ _ _));  first | (k_unfold; (try dsimp only)) | (k_end; wrow_close) | walk1 | (dsimp only; walk1) | (leave1; try dsimp only) | fail "no step"))
    refine LCg.CompEnd.intro F1 N1 _ (fun p hp => hp) off (.inr ⟨_, .head _, rfl, _, rfl⟩) ⟨rfl, xs ++ [_], strs_snoc hxs, by rw [List.length_append, hxl]; rfl, ?_⟩
    intro y hy
    rcases List.mem_append.mp hy with hy | hy
    · exact hx1 y hy
    · rw [List.mem_singleton.mp hy]; assumption
  · rintro ys nw ⟨rfl, xs, hxs, hxl, hx1⟩
    unfold LCg.FinE
    intro D1 h1 tk1 F1 N1 off1
    rw [List.size_toArray] at hxl
    obtain ⟨l1, el1, em1⟩ := strs_values hxs
    w_strict (repeat' ((fail_if_success (with_reducible show wpAny _ _ (call (Value.builtin "str.join") _) _ _ _));  first | (k_unfold; (try dsimp only)) | (k_end; wrow_close) | walk1 | (dsimp only; walk1) | (leave1; try dsimp only) | fail "no step"))
    refine SC.join (l := l1) (texts := xs) ⟨_, (N1 _ (List.Mem.head _)).1, rfl, _, by rw [el1]⟩ em1 (ones_ok hx1 (by omega)) ?_
    intro t2 k2
    have hj1 := ones_join hx1
    w_strict (repeat' ((fail_if_success (with_reducible show wpAny _ _ (exec (Stmt.Assign _ (Expr.ListComp _ _ _ _) _) _) _ _ _));  first | (k_unfold; (try dsimp only)) | (k_end; wrow_close) | walk1 | (dsimp only; walk1) | (leave1; try dsimp only) | fail "no step"))
    have htx : (Txt.join (Str.ofString "") xs ++ Str.ofString "abcab").length ≤ 21 := by
      rw [Str.length_append, show (Str.ofString "abcab").length = 5 by decide]; omega
    rename Fr _ _ _ _ => F2
    generalize (Txt.join (Str.ofString "") xs ++ Str.ofString "abcab") = text at htx F2
    rename News _ _ _ [(D1, _), _] => N2
    replace N2 := cb_drop (news := []) N2 (fun _ h => nomatch h)
    refine LCg.Assign_ListComp_U (F₀ := by k_asm) (by rfl) (by with_unfolding_all rfl) (by with_unfolding_all rfl) (by decide) (by rfl) (by decide) (by rfl) (by rfl) (by rfl) ?_
    w_strict (repeat' ((fail_if_success (with_reducible show LCg.CompSrc _ _ _ _ _ _ _ _ _ _ _ _ _ _));  first | (k_unfold; (try dsimp only)) | (k_end; wrow_close) | walk1 | (dsimp only; walk1) | (leave1; try dsimp only) | fail "no step"))
    rename IntsAre _ (List.take 5 _) => hI5
    have hl5 := hI5.length
    rw [List.length_take] at hl5
    refine LCg.CompSrc.ledger (by rfl) (by k_asm) (by k_asm) (by k_mem) (by rw [List.size_toArray, sizeLine_eq]; omega) ?_
    intro g3
    refine comp_inv (fun i ys nw => (∀ p ∈ _, p ∈ nw) ∧ ∃ prs, PairsIn nw ys prs ∧ prs.length = i ∧ ∀ p ∈ prs, 1 ≤ p.1.length ∧ p.1.length ≤ 4 ∧ p.2.length ≤ 2) ⟨fun _ h => h, [], .nil, rfl, fun _ h => nomatch h⟩ ?_ ?_
    · rintro i v ys nw I oI C oC D m₂ h tk E' hi hP ⟨hsub, prs, hprs, hpl, hpa⟩ hC hx F1 N1 off ne
      obtain ⟨k, tkk, ev, hk⟩ := IntsAre.at hI5 i v (by simpa using hP)
      subst ev
      w_strict (repeat' ((fail_if_success (with_reducible show wpAny _ _ (subscriptTail _ _ (Value.ref _) _) _ _ _));  first | (k_unfold; (try dsimp only)) | (k_end; wrow_close) | walk1 | (dsimp only; walk1) | (leave1; try dsimp only) | fail "no step"))
      refine list_atS (φ := fun y => 1 ≤ y.length ∧ y.length ≤ 4) (by assumption) (List.Mem.head _) (fmod_lo _ (n := 6) (by decide)) (fmod_hi _ (n := 6) (by decide)) (Nat.le_of_ble_eq_true rfl) ?_ ?_
      · intro v hv
        simp only [List.mem_cons, List.not_mem_nil, or_false] at hv
        rcases hv with rfl | rfl | rfl | rfl | rfl | rfl <;> exact ⟨_, _, rfl, by decide⟩
      intro x tkx hxl
      w_strict (repeat' ((fail_if_success (with_reducible show wpAny _ _ (subscriptTail _ _ (Value.ref _) _) _ _ _));  first | (k_unfold; (try dsimp only)) | (k_end; wrow_close) | walk1 | (dsimp only; walk1) | (leave1; try dsimp only) | fail "no step"))
      refine list_atS (φ := fun y => y.length ≤ 2) (by assumption) (List.Mem.head _) (fmod_lo _ (n := 5) (by decide)) (fmod_hi _ (n := 5) (by decide)) (Nat.le_of_ble_eq_true rfl) ?_ ?_
      · intro v hv
        simp only [List.mem_cons, List.not_mem_nil, or_false] at hv
        rcases hv with rfl | rfl | rfl | rfl | rfl <;> exact ⟨_, _, rfl, by decide⟩
      intro y tky hyl
      w_strict (repeat' ((fail_if_success (with_reducible show LCg.CompEnd _ _ _ _ _ _ _ _ _ _ _ _ _ _));  first | (k_unfold; (try dsimp only)) | (k_end; wrow_close) | walk1 | (dsimp only; walk1) | (leave1; try dsimp only) | fail "no step"))
      rename Fr _ _ _ _ => F5
      rename News _ _ _ ((_, _) :: (_, W.listOf _ 0) :: (_, W.listOf _ 0) :: _) => N5
      rename _ ∧ _ ∧ _ ∧ _ ∧ _ ∧ AllLt _ nw => l5
      refine LCg.CompEnd.intro F5 N5 ((_, tupOf [.str x tkx, .str y tky] 0) :: nw) (fun p hp => ?_) ⟨⟨Nat.ne_of_gt l5.2.2.1, Nat.ne_of_gt l5.2.2.2.1, Nat.ne_of_gt l5.2.2.2.2.1⟩, off⟩ (.inr ⟨_, .tail _ (hsub _ (.head _)), rfl, _, rfl⟩)
        ⟨fun p hp => .tail _ (hsub p hp), prs ++ [(x, y)], PairsIn.snoc (.head _) (hprs.mono fun p hp => .tail _ hp), by rw [List.length_append, hpl]; rfl, ?_⟩
      · rcases List.mem_cons.mp hp with e | hp
        · exact e ▸ .tail _ (.tail _ (.tail _ (.head _)))
        · rcases List.mem_cons.mp hp with e | hp
          · exact e ▸ .tail _ (.tail _ (.tail _ (.tail _ (.head _))))
          · rcases List.mem_cons.mp hp with e | hp
            · exact e ▸ .tail _ (.tail _ (.tail _ (.tail _ (.tail _ (.head _)))))
            · rcases List.mem_cons.mp hp with e | hp
              · exact e ▸ .head _
              · exact .tail _ (.tail _ (.tail _ (.tail _ (.tail _ (.tail _ hp)))))
      · intro p hp
        rcases List.mem_append.mp hp with hp | hp
        · exact hpa p hp
        · rw [List.mem_singleton.mp hp]; exact ⟨hxl.1, hxl.2, hyl⟩
    · rintro ys nw ⟨hsub, prs, hprs, hpl, hpa⟩
      unfold LCg.FinA
      intro D3 h3 tk3 F3 N3 off3
      rw [List.size_toArray] at hpl
      w_strict (repeat' ((fail_if_success (with_reducible show wpAny _ _ (call (Value.builtin "list.append") _) _ _ _));  first | (k_unfold; (try dsimp only)) | (k_end; wrow_close) | walk1 | (dsimp only; walk1) | (leave1; try dsimp only) | fail "no step"))
      rename News _ _ _ ((_, _) :: (D3, _) :: nw) => N4
      rename D3 < _ ∧ AllLt _ nw => l4
      refine append_K (by k_asm) N4 (Upd.tail (Nat.ne_of_gt l4.1) (Upd.head (off1_mem off3))) ?_ (by rw [List.size_toArray, hprs.length, sizeLine_eq]; omega)
      clear N4
      intro h4 F4 N4
      w_strict (repeat' ((fail_if_success (with_reducible show wpAny _ _ (exec (Stmt.For _ _ _ _ _) _) _ _ _));  first | (k_unfold; (try dsimp only)) | (k_end; wrow_close) | walk1 | (dsimp only; walk1) | (leave1; try dsimp only) | fail "no step"))
      rename Fr _ _ _ _ => F6
      refine For_turns F6 ?_
      w_strict (repeat' ((fail_if_success (with_reducible show wpAny _ _ (binaryOp _ (Value.ref _) (Value.ref _)) _ _ _));  first | (k_unfold; (try dsimp only)) | (k_end; wrow_close) | walk1 | (dsimp only; walk1) | (leave1; try dsimp only) | fail "no step"))
      rename Fr _ _ _ _ => F7
      rename News _ _ _ _ => N7
      refine add_arrays F7 N7 ⟨_, (N7 _ (List.Mem.head _)).1, rfl, _, rfl⟩ ⟨_, (N7 _ (List.Mem.tail _ (List.Mem.tail _ (List.Mem.tail _ (List.Mem.tail _ (List.Mem.head _)))))).1, rfl, _, rfl⟩ ?_ ?hsz
      case hsz =>
        have := hprs.length
        rw [Array.size_push, sizeLine_eq]
        simp only [List.size_toArray, List.length_cons, List.length_nil]
        omega
      intro h8 F8 N8
      have hax := Heap.lt_size (N7 _ (List.Mem.tail _ (List.Mem.tail _ (List.Mem.head _)))).1
      clear F7 N7
      have N9 := loop_ledger N8
      clear N8
      w_strict (repeat' ((fail_if_success (with_reducible show wpAny _ _ (pyIter _) _ _ _));  first | (k_unfold; (try dsimp only)) | (k_end; wrow_close) | walk1 | (dsimp only; walk1) | (leave1; try dsimp only) | fail "no step"))
      refine iter_listTurns (by rfl) F8 N9 (List.Mem.tail _ (List.Mem.head _)) rfl rfl ?_
      intro I hI
      rename _ ∧ _ ∧ AllLt _ nw => lG
      rename _ ∧ _ ∧ _ ∧ AllLt _ nw => lT
      have hap := loop_apart hI hax lT.1 lG.1 (kst_ltOf lG.2.2)
      have hinv := loop_init F8 hap hprs (by omega) hpa htx (by with_unfolding_all rfl) (by with_unfolding_all rfl) (by with_unfolding_all rfl)
      refine loop_core hinv ?_
      clear hinv hap hI N9 hax lG lT hprs hpa hpl hsub off3 l4
      intro G I ax lo tl vs m news hinv
      refine items_inv F8 (by rfl) (LInv text G I ax lo tl) ?turn ?done _ _ _ hinv
      case done =>
        clear F8
        rintro m news h tk - F N
        w_strict k_steps
      case turn =>
        clear hinv vs m news F8
        rintro v r m news h tk o ⟨⟨hG, hGI⟩, prs, gvs, gs, nn, due, t1, t2, hpr, hpl, hgs, hrun, hcnt, hga, hdl, hmt, hmg, hmd, rfl⟩ ho F N
        have F1 := fr_kst (ps := [(Str.ofString "text", .str text t1), (Str.ofString "given", .ref G), (Str.ofString "due", .str due t2)]) F (List.forall_mem_cons.mpr ⟨hmt, List.forall_mem_cons.mpr ⟨hmg, List.forall_mem_cons.mpr ⟨hmd, List.forall_mem_nil _⟩⟩⟩)
        clear F hmt hmg hmd
        cases hpr with | @cons a x y tx ty r ps hm hpr =>
        (try k_fold)
        refine unpackN_ F1 N (News.isTup N (.tail _ (.tail _ (.tail _ hm)))) (by rfl) (by rfl) (by rfl) ?_
        clear F1 N
        intro h1 F1 N1
        w_strict (repeat' ((fail_if_success (with_reducible show wpAny _ _ (exec (Stmt.If _ _ _ _) _) _ _ _));  first | (k_unfold; (try dsimp only)) | (k_end; wrow_close) | walk1 | (dsimp only; walk1) | (leave1; try dsimp only) | fail "no step"))
        refine mid_intro text G I ax lo tl o ps.length (by assumption) ?_ ?_
        · (try k_fold)
          w_strict (repeat' ((fail_if_success (with_reducible show wpAny _ _ (call (Value.ref 28) _) _ _ _));  first | (k_unfold; (try dsimp only)) | (k_end; wrow_close) | walk1 | (dsimp only; walk1) | (leave1; try dsimp only) | fail "no step"))
          · rename (x != Str.ofString "") = true => hx0
            rename Fr _ _ _ _ => F2
            rename News _ _ _ _ => N2
            have hx1 : 1 ≤ x.length := by
              rcases Nat.eq_zero_or_pos x.length with e | e
              · have : x = Str.ofString "" := Str.ext' (Array.eq_empty_of_size_eq_zero e)
                rw [this] at hx0
                exact absurd hx0 (by decide)
              · exact e
            have hxy : x.length ≤ 4 ∧ y.length ≤ 2 := hpl (x, y) (List.Mem.head _)
            have hd2 : 2 ^ gs.length ≤ 2 ^ 12 := Nat.pow_le_pow_right (by decide) (by simp only [List.length_cons] at hcnt; omega)
            have hd3 : due.length ≤ 86016 := Nat.le_trans hdl (Nat.le_trans (Nat.mul_le_mul_left 21 hd2) (by decide))
            refine replaced_call _ _ _ _ _ _ _ _ _ _ _ _ _ _ _ _ _ _ _ _ _ (by k_asm) F2 (by k_asm) N2 (by k_asm) (by rfl) ⟨hx1, by omega, hxy.2, by omega⟩ ?_
            clear F2 N2
            intro t3 h3 tk3 F3 N3
            w_strict (repeat' ((fail_if_success (with_reducible show wpAny _ _ (inplaceOp _ (Value.ref _) (Value.ref _)) _ _ _));  first | (k_unfold; (try dsimp only)) | (k_end; wrow_close) | walk1 | (dsimp only; walk1) | (leave1; try dsimp only) | fail "no step"))
            rename News _ _ _ ((_, _) :: (I, o) :: _) => N4
            rename I < _ ∧ G < _ ∧ ax < _ ∧ AllLt _ tl => l4
            have hgl := hgs.length
            have hcnt' : gs.length + 2 * (ps.length + 1) ≤ 14 := hcnt
            refine iadd_K (by k_asm) N4 (List.Mem.head _) (Upd.tail (Nat.ne_of_gt l4.2.1) (Upd.tail (Ne.symm hGI) (Upd.head fun p hp => (hG p hp).1))) ?_ (by simp only [List.length_cons, List.length_nil]; omega) (by simp)
            clear N4
            intro h5 F5 N5
            w_strict (repeat' ((fail_if_success (with_reducible show LMid _ _ _ _ _ _ _ _ _ _ _ _ _));  first | (k_unfold; (try dsimp only)) | (k_end; wrow_close) | walk1 | (dsimp only; walk1) | (leave1; try dsimp only) | fail "no step"))
            rename Fr _ _ _ _ => F6
            rename News _ _ _ _ => N6
            refine ⟨rfl, _, gvs ++ [.str x tx, .str y ty], gs ++ [x, y], nn + 1, replaced due x y, t1, t3, _, _, rfl, fr_kst F6 (List.forall_mem_cons.mpr ⟨by with_unfolding_all rfl, List.forall_mem_cons.mpr ⟨by with_unfolding_all rfl, List.forall_mem_cons.mpr ⟨by with_unfolding_all rfl, List.forall_mem_nil _⟩⟩⟩), (fun p hp => N6 p (.tail _ hp)), StrsAre.append' hgs (.cons _ _ (.cons _ _ .nil)), ?_, ?_, ?_, ?_⟩
            · rw [run_app _ hrun]
              exact if_neg (by omega)
            · rw [List.length_append]; simp only [List.length_cons, List.length_nil]; omega
            · intro q hq
              rcases List.mem_append.mp hq with hq | hq
              · exact hga q hq
              · rcases List.mem_cons.mp hq with e | hq
                · rw [e]; exact hxy.1
                · rw [List.mem_singleton.mp hq]; omega
            · have e1 := replaced_len (x := due) hxy.2 hx1
              rw [List.length_append, show [x, y].length = 2 from rfl, Nat.pow_add, ← Nat.mul_assoc]
              omega
          · rename Fr _ _ _ _ => F6
            rename News _ _ _ _ => N6
            refine ⟨rfl, _, gvs, gs, nn, due, t1, t2, _, _, rfl, fr_kst F6 (List.forall_mem_cons.mpr ⟨by with_unfolding_all rfl, List.forall_mem_cons.mpr ⟨by with_unfolding_all rfl, List.forall_mem_cons.mpr ⟨by with_unfolding_all rfl, List.forall_mem_nil _⟩⟩⟩), N6, hgs, hrun, ?_, hga, hdl⟩
            simp only [List.length_cons] at hcnt
            omega
        · clear hgs hrun hga hdl hcnt
          rename Fr _ _ _ _ => Fold
          rename News _ _ _ _ => Nold
          clear Fold Nold
          rintro f s' ⟨rfl, m, gvs, gs, nn, due, t1, t2, h3, tk3, rfl, F3, N3, hgs, hrun, hcnt, hga, hdl⟩
          (try k_fold)
          have hp2 : 2 ^ gs.length ≤ 2 ^ 14 := Nat.pow_le_pow_right (by decide) (by omega)
          have hlen0 : text.length * 2 ^ (gs.length + 2) ≤ 3000000 := by
            rw [Nat.pow_add]
            refine Nat.le_trans (Nat.mul_le_mul htx (Nat.mul_le_mul_right _ hp2)) (by decide)
          have hlen1 : text.length * 2 ^ (gs.length + 1) ≤ 3000000 := Nat.le_trans (Nat.mul_le_mul_left _ (Nat.pow_le_pow_right (by decide) (by omega))) hlen0
          have hlen2 : text.length * 2 ^ gs.length ≤ 3000000 := Nat.le_trans (Nat.mul_le_mul_left _ (Nat.pow_le_pow_right (by decide) (by omega))) hlen0
          w_strict (repeat' ((fail_if_success (with_reducible show wpAny _ _ (call (Value.ref 35) _) _ _ _));  first | (k_unfold; (try dsimp only)) | (k_end; wrow_close) | walk1 | (dsimp only; walk1) | (leave1; try dsimp only) | fail "no step"))
          refine said_c _ _ _ _ _ _ _ _ _ _ _ _ _ _ _ text _ G gs gvs nn (by k_asm) F3 (by k_asm) N3 (by k_asm) (by rfl) (List.Mem.tail _ (List.Mem.head _)) hgs (by omega) hlen2 hga ?_
          rw [hrun]
          clear F3 N3
          rintro r4 h4 tk4 extra F4 N4 ⟨rfl, tkr, rfl⟩
          rw [List.nil_append] at N4
          w_strict (repeat' ((fail_if_success (with_reducible show wpAny _ _ (compareOp _ _ _) _ _ _));  first | (k_unfold; (try dsimp only)) | (k_end; wrow_close) | walk1 | (dsimp only; walk1) | (leave1; try dsimp only) | fail "no step"))
          refine ne_str ?_
          rw [show (due != due) = false by simp]
          w_strict (repeat' ((fail_if_success (with_reducible show wpAny _ _ (binaryOp _ (Value.ref _) (Value.ref _)) _ _ _));  first | (k_unfold; (try dsimp only)) | (k_end; wrow_close) | walk1 | (dsimp only; walk1) | (leave1; try dsimp only) | fail "no step"))
          rename Fr _ _ _ _ => F5
          rename News _ _ _ _ => N5
          refine add_arrays F5 N5 ⟨_, (N5 _ (List.Mem.tail _ (List.Mem.tail _ (List.Mem.head _)))).1, rfl, _, rfl⟩ ⟨_, (N5 _ (List.Mem.head _)).1, rfl, _, rfl⟩ ?_ ?hsz
          case hsz =>
            have := hgs.length
            rw [sizeLine_eq]
            simp only [List.size_toArray, List.length_cons, List.length_nil]
            omega
          clear F5 N5
          intro h6 F6 N6
          w_strict (repeat' ((fail_if_success (with_reducible show wpAny _ _ (call (Value.ref 35) _) _ _ _));  first | (k_unfold; (try dsimp only)) | (k_end; wrow_close) | walk1 | (dsimp only; walk1) | (leave1; try dsimp only) | fail "no step"))
          refine said_c _ _ _ _ _ _ _ _ _ _ _ _ _ _ _ text _ _ (gs ++ [Str.ofString "a"]) (gvs ++ [.str (Str.ofString "a") _]) 0 (by k_asm) F6 (by k_asm) N6 (by k_asm) (by rfl) (List.Mem.head _) (StrsAre.append' hgs (.cons _ _ .nil)) ?_ ?_ ?_ ?_
          · rw [List.length_append]; simp only [List.length_cons, List.length_nil]; omega
          · rw [List.length_append]; exact hlen1
          · intro q hq
            rcases List.mem_append.mp hq with hq | hq
            · exact hga q hq
            · rw [List.mem_singleton.mp hq]; decide
          rw [run_app _ hrun]
          clear F6 N6
          rintro r7 h7 tk7 extra F7 N7 ⟨D7, u7, v7, rfl, rfl⟩
          replace N7 : News _ _ _ ((D7, tupOf [.str (Str.ofString "half a pair") u7, .int 0 v7] 0) :: (I, o) :: (G, W.listOf gvs.toArray nn) :: (ax, lo) :: tl) := fun p hp => N7 p (by
            rcases List.mem_cons.mp hp with e | hp
            · exact e ▸ .head _
            · exact .tail _ (.tail _ (.tail _ hp)))
          w_strict (repeat' ((fail_if_success (with_reducible show wpAny _ _ (compareOp _ _ _) _ _ _));  first | (k_unfold; (try dsimp only)) | (k_end; wrow_close) | walk1 | (dsimp only; walk1) | (leave1; try dsimp only) | fail "no step"))
          w_strict (repeat' ((fail_if_success (with_reducible show wpAny _ _ (binaryOp _ (Value.ref _) (Value.ref _)) _ _ _));  first | (k_unfold; (try dsimp only)) | (k_end; wrow_close) | walk1 | (dsimp only; walk1) | (leave1; try dsimp only) | fail "no step"))
          rename Fr _ _ _ _ => F8
          rename News _ _ _ _ => N8
          refine add_arrays F8 N8 ⟨_, (N8 _ (List.Mem.tail _ (List.Mem.tail _ (List.Mem.tail _ (List.Mem.tail _ (List.Mem.head _)))))).1, rfl, _, rfl⟩ ⟨_, (N8 _ (List.Mem.head _)).1, rfl, _, rfl⟩ ?_ ?hsz
          case hsz =>
            have := hgs.length
            rw [sizeLine_eq]
            simp only [List.size_toArray, List.length_cons, List.length_nil]
            omega
          clear F8 N8
          intro h9 F9 N9
          w_strict (repeat' ((fail_if_success (with_reducible show wpAny _ _ (call (Value.ref 35) _) _ _ _));  first | (k_unfold; (try dsimp only)) | (k_end; wrow_close) | walk1 | (dsimp only; walk1) | (leave1; try dsimp only) | fail "no step"))
          refine said_c _ _ _ _ _ _ _ _ _ _ _ _ _ _ _ text _ _ (gs ++ [Str.ofString "", Str.ofString "a"]) (gvs ++ [.str (Str.ofString "") _, .str (Str.ofString "a") _]) 0 (by k_asm) F9 (by k_asm) N9 (by k_asm) (by rfl) (List.Mem.head _) (StrsAre.append' hgs (.cons _ _ (.cons _ _ .nil))) ?_ ?_ ?_ ?_
          · rw [List.length_append]; simp only [List.length_cons, List.length_nil]; omega
          · rw [List.length_append]; exact hlen0
          · intro q hq
            rcases List.mem_append.mp hq with hq | hq
            · exact hga q hq
            · rcases List.mem_cons.mp hq with e | hq
              · rw [e]; decide
              · rw [List.mem_singleton.mp hq]; decide
          rw [run_app _ hrun]
          clear F9 N9
          rintro r10 h10 tk10 extra F10 N10 ⟨D10, u10, v10, rfl, rfl⟩
          replace N10 : News _ _ _ ((D10, tupOf [.str (Str.ofString "nothing is sought") u10, .int 0 v10] 0) :: (I, o) :: (G, W.listOf gvs.toArray nn) :: (ax, lo) :: tl) := fun p hp => N10 p (by
            rcases List.mem_cons.mp hp with e | hp
            · exact e ▸ .head _
            · exact .tail _ (.tail _ (.tail _ (.tail _ (.tail _ hp)))))
          w_strict (repeat' ((fail_if_success (with_reducible show UnrEndW _ _ _ _ _ _));  first | (k_unfold; (try dsimp only)) | (k_end; wrow_close) | walk1 | (dsimp only; walk1) | (leave1; try dsimp only) | fail "no step"))
          rename Fr _ _ _ _ => F11
          rename News _ _ _ _ => N11
          refine ⟨_, _, _, (G, W.listOf gvs.toArray nn) :: (ax, lo) :: tl, rfl, F11, (fun p hp => N11 p (.tail _ (.tail _ hp))), ?_, ⟨.tail _ (.head _), trivial⟩, ⟨hG, hGI⟩, ps, gvs, gs, nn, due, t1, t2, hpr, (fun p hp => hpl p (.tail _ hp)), hgs, hrun, hcnt, hga, hdl, by with_unfolding_all rfl, by with_unfolding_all rfl, by with_unfolding_all rfl, rfl⟩
          intro p hp q hq
          rw [List.mem_singleton.mp hq]
          rcases List.mem_cons.mp hp with e | hp
          · rw [e]; exact hGI
          · exact (hG p hp).2

end
end Mine
theorem PySem.Challenge.cw_dz0090_01_holds : PySem.Challenge.rw_dz0090_01.Holds := by
  exact Mine.the_law
