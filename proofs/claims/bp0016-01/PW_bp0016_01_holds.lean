import PyProof.Rows.All
import PyProof.GenRules
import PyProof.GenQ
import PyProof.CollectWalk
import PyProof.TupleOfGen
import Wide.All
import OpenK.AllK
import Wide.FinOn
import KE.KNest
import KE.KNestM
import KE.KTryDeepN
import KE.KEqDat
import KE.KxText
import PySem.Challenge.RW_bp0016_01
set_option Elab.async false
set_option maxRecDepth 100000
set_option linter.unusedVariables false

section
open PySem PySem.W PyProof.Rows
namespace Mine
set_option maxRecDepth 100000 in
set_option maxHeartbeats 8000000 in
open_top hd for PySem.Challenge.rw_bp0016_01
end Mine
theorem Mine.top_off : True := by
  w_top off
  trivial
end

section
open PySem PySem.W PyProof.Rows PySem.Calls
namespace Mine

theorem sl_ss (x : Str) (a b : Nat) : Txt.slice x (some (a : Int)) (some (b : Int)) = ⟨((x.cps.toList.take b).drop a).toArray⟩ := by
  show StrLaws.sliceText x _ _ = _
  have clip : ∀ k : Nat, max (0:Int) (min (k:Int) (x.length:Int)) = ((min k x.length : Nat) : Int) := fun k => by omega
  have neg : ∀ k : Nat, ¬ ((k : Int) < 0) := fun k => by omega
  have e : StrLaws.sliceText x (some (a : Int)) (some (b : Int)) = StrLaws.sliceText x (some ((min a x.length : Nat) : Int)) (some ((min b x.length : Nat) : Int)) := by
    unfold StrLaws.sliceText
    have : Builtin.Str.strSliceIndices (some (a:Int)) (some (b:Int)) 1 x.length = Builtin.Str.strSliceIndices (some ((min a x.length : Nat) : Int)) (some ((min b x.length : Nat) : Int)) 1 x.length := by
      have m1 : min (min a x.length) x.length = min a x.length := by omega
      have m2 : min (min b x.length) x.length = min b x.length := by omega
      have p1 : (1:Int) > 0 := by decide
      simp only [Builtin.Str.strSliceIndices, neg, if_false, clip, m1, m2, if_pos p1]
    rw [this]
  rw [e]
  by_cases h : min a x.length ≤ min b x.length
  · rw [StrLaws.sliceText_nat x h (Nat.min_le_right _ _)]
    congr 2
    have hl : x.length = x.cps.toList.length := by simp [Str.length]
    rw [hl] at h ⊢
    generalize x.cps.toList = l at h ⊢
    rw [List.drop_take]
    by_cases ha : a ≤ l.length
    · rw [Nat.min_eq_left ha]
      by_cases hb : b ≤ l.length
      · rw [Nat.min_eq_left hb]
      · rw [Nat.min_eq_right (by omega), List.take_of_length_le (by simp), List.take_of_length_le (by simp; omega)]
    · rw [List.drop_of_length_le (i := a) (by omega), List.drop_of_length_le (i := min a l.length) (by omega)]
      simp
  · have h2 : min b x.length < min a x.length := by omega
    have hz : Builtin.Str.strSliceIndices (some ((min a x.length : Nat) : Int)) (some ((min b x.length : Nat) : Int)) 1 x.length = [] := by
      have m1 : min (min a x.length) x.length = min a x.length := by omega
      have m2 : min (min b x.length) x.length = min b x.length := by omega
      have p1 : (1:Int) > 0 := by decide
      simp only [Builtin.Str.strSliceIndices, neg, if_false, clip, m1, m2, if_pos p1]
      have : ¬ (((min a x.length : Nat) : Int) < ((min b x.length : Nat) : Int)) := by omega
      simp [sliceRange]
      omega
    unfold StrLaws.sliceText
    rw [hz]
    have hx : ¬ (0 = x.length) := by omega
    have : ((x.cps.toList.take b).drop a) = [] := by
      apply List.drop_of_length_le
      simp [Str.length] at h2 ⊢; omega
    rw [this]
    split
    · rename_i h3; simp at h3; omega
    · rfl

theorem sl_sn (x : Str) (a : Nat) : Txt.slice x (some (a : Int)) none = ⟨(x.cps.toList.drop a).toArray⟩ := by
  have e : Txt.slice x (some (a:Int)) none = Txt.slice x (some (a : Int)) (some (x.length : Int)) := by
    show StrLaws.sliceText x _ _ = StrLaws.sliceText x _ _
    unfold StrLaws.sliceText
    rw [StrLaws.sliceIdx_none_hi]
  rw [e, sl_ss]
  congr 3
  exact List.take_of_length_le (by simp [Str.length])
theorem sl_ns (x : Str) (b : Nat) : Txt.slice x none (some (b : Int)) = ⟨(x.cps.toList.take b).toArray⟩ := by
  have e : Txt.slice x none (some (b:Int)) = Txt.slice x (some ((0 : Nat) : Int)) (some (b : Int)) := by
    show StrLaws.sliceText x _ _ = StrLaws.sliceText x _ _
    unfold StrLaws.sliceText
    rw [StrLaws.sliceIdx_none_lo]
    rfl
  rw [e, sl_ss]
  rfl

theorem item_nat (x : Str) (k : Nat) (h : k < x.length) : Txt.item x (k : Int) = ⟨#[x.cps.toList.getD k 0]⟩ := by
  unfold Txt.item Txt.charAt
  rw [StrLaws.seqIndex_nonneg (by omega) (by omega)]
  simp
theorem str_list {x : Str} {l : List Nat} (h : x.cps.toList = l) : x = ⟨l.toArray⟩ := by
  subst h; simp

def cut (c : Nat) (l : List Nat) : List Nat := l.takeWhile (· != c)

theorem cut_length_lt {c : Nat} : ∀ {l : List Nat}, c ∈ l → (cut c l).length < l.length
  | a :: r, h => by
    unfold cut
    by_cases e : a = c
    · simp [e]
    · rw [List.takeWhile_cons_of_pos (by simp [e])]
      rcases List.mem_cons.mp h with h | h
      · exact absurd h.symm e
      · have := cut_length_lt h
        simp only [List.length_cons]
        unfold cut at this
        omega
theorem cut_none {c : Nat} {l : List Nat} (h : c ∉ l) : cut c l = l := by
  induction l with
  | nil => rfl
  | cons a r ih =>
    have h1 : a ≠ c := fun e => h (e ▸ List.mem_cons_self)
    unfold cut
    rw [List.takeWhile_cons_of_pos (by simp [h1])]
    congr 1
    exact ih fun e => h (List.mem_cons_of_mem _ e)
theorem cut_at {c : Nat} {l : List Nat} (h : c ∈ l) : l[(cut c l).length]? = some c := by
  induction l with
  | nil => cases h
  | cons a r ih =>
    unfold cut
    by_cases e : a = c
    · simp [e]
    · rw [List.takeWhile_cons_of_pos (by simp [e])]
      rcases List.mem_cons.mp h with h | h
      · exact absurd h.symm e
      · simpa [cut] using ih h
theorem cut_before {c : Nat} {l : List Nat} {k : Nat} (h : k < (cut c l).length) : l[k]? ≠ some c := by
  induction l generalizing k with
  | nil => simp
  | cons a r ih =>
    unfold cut at h
    by_cases e : a = c
    · simp [e] at h
    · rw [List.takeWhile_cons_of_pos (by simp [e])] at h
      cases k with
      | zero => simp [e]
      | succ k => simpa using ih (by simpa [cut] using h)
theorem cut_take {c : Nat} (l : List Nat) : l.take (cut c l).length = cut c l := by
  unfold cut
  induction l with
  | nil => rfl
  | cons a r ih =>
    by_cases e : a = c
    · simp [e]
    · rw [List.takeWhile_cons_of_pos (by simp [e])]
      simp [ih]

theorem occ_one (x : Str) (c : Nat) : (c ∉ x.cps.toList ∧ Builtin.Str.occurrences x ⟨#[c]⟩ 0 x.length 1 = []) ∨
    (c ∈ x.cps.toList ∧ ∃ r, Builtin.Str.occurrences x ⟨#[c]⟩ 0 x.length 1 = (cut c x.cps.toList).length :: r) := by
  have at_ : ∀ i, StrLaws.At x ⟨#[c]⟩ x.length i ↔ x.cps.toList[i]? = some c := fun i => StrLaws.subAt_one x c i
  rcases StrLaws.occ_head x ⟨#[c]⟩ 1 (Nat.le_refl _) with ⟨h0, hn⟩ | ⟨i, r, h0, ha, hn⟩
  · refine .inl ⟨fun hm => ?_, h0⟩
    obtain ⟨i, hi⟩ := List.mem_iff_getElem?.mp hm
    exact hn i ((at_ i).mpr hi)
  · have hi := (at_ i).mp ha
    have hm : c ∈ x.cps.toList := List.mem_of_getElem? hi
    refine .inr ⟨hm, r, ?_⟩
    rw [h0]
    congr 1
    rcases Nat.lt_trichotomy i (cut c x.cps.toList).length with h | h | h
    · exact absurd hi (cut_before h)
    · exact h
    · exact absurd ((at_ _).mpr (cut_at hm)) (hn _ h)

theorem find_one (x : Str) (c : Nat) : Txt.find x ⟨#[c]⟩ = if c ∈ x.cps.toList then (((cut c x.cps.toList).length : Nat) : Int) else -1 := by
  unfold Txt.find
  rcases occ_one x c with ⟨h1, h2⟩ | ⟨h1, r, h2⟩
  · rw [h2, if_neg h1]
  · rw [h2, if_pos h1]

theorem part_one (x : Str) (c : Nat) : Txt.partition x ⟨#[c]⟩ = if c ∈ x.cps.toList then (⟨(cut c x.cps.toList).toArray⟩, ⟨#[c]⟩, ⟨(x.cps.toList.drop ((cut c x.cps.toList).length + 1)).toArray⟩) else (x, Str.empty, Str.empty) := by
  unfold Txt.partition
  rcases occ_one x c with ⟨h1, h2⟩ | ⟨h1, r, h2⟩
  · rw [h2, if_neg h1]
  · rw [h2, if_pos h1]
    have := cut_length_lt h1
    have hl : x.length = x.cps.toList.length := by simp [Str.length]
    have e1 : Builtin.Str.strSub x 0 (cut c x.cps.toList).length = ⟨(cut c x.cps.toList).toArray⟩ := by
      apply Str.ext'
      show x.cps.extract 0 _ = _
      rw [← Array.toList_inj]
      simp [Array.toList_extract, cut_take]
    have e2 : Builtin.Str.strSub x ((cut c x.cps.toList).length + 1) x.length = ⟨(x.cps.toList.drop ((cut c x.cps.toList).length + 1)).toArray⟩ := by
      apply Str.ext'
      show x.cps.extract _ _ = _
      rw [← Array.toList_inj]
      simp only [Array.toList_extract, hl, List.extract_eq_take_drop]
      exact List.take_of_length_le (by simp)
    show (Builtin.Str.strSub x 0 (cut c x.cps.toList).length, _, Builtin.Str.strSub x ((cut c x.cps.toList).length + 1) x.length) = _
    rw [e1, e2]

theorem fr_over {h₀ h : Heap} {L : Addr} {m : Str → Option Value} (ps : List (Str × Value)) (F : Fr h₀ L h m) (hp : ∀ p ∈ ps, m p.1 = some p.2) : Fr h₀ L h (kstB m ps) := by
  have e : kstB m ps = m := funext fun y => kstB_eq hp fun _ => rfl
  rw [e]; exact F
/-- the length of the run of signs at the front -/
def pastN (signs : List Nat) (l : List Nat) : Nat := (l.takeWhile (signs.contains ·)).length
theorem pastN_cons_pos {signs l : List Nat} {c : Nat} (h : c ∈ signs) : pastN signs (c :: l) = pastN signs l + 1 := by
  unfold pastN; rw [List.takeWhile_cons_of_pos (by simpa using h)]; rfl
theorem pastN_cons_neg {signs l : List Nat} {c : Nat} (h : c ∉ signs) : pastN signs (c :: l) = 0 := by
  unfold pastN; rw [List.takeWhile_cons_of_neg (by simpa using h)]; rfl
theorem pastN_le (signs l : List Nat) : pastN signs l ≤ l.length := by
  unfold pastN
  exact (List.takeWhile_sublist _).length_le
end Mine
end

section
open PySem PySem.W PyProof.Rows PySem.Calls
namespace Mine
theorem fill_T1 : PySem.Challenge.rw_bp0016_01.Holds → ∀ P h, (hd.heap_39 P).In h → True := by
  k_fill
  intros; trivial
local macro_rules | `(tactic| walk_at "go1") => `(tactic| first | (k_unfold; (try dsimp only)) | walk1 | (dsimp only; walk1))
set_option maxHeartbeats 4000000 in
theorem past_call {prog : Program} {w : World} {A : Around} {E : Value → Shared → Prop} {s : Shared} {x y : Str} {t u ti : Tok} {i : Nat} {Q : Value → Shared → Prop}
    {loose : List Str} {mean : ExcName → Option Value} {mg mb : Str → Option Value}
    (X : (hd.heap_39 w.params).In s.heap) (T : Top topProg loose mean mg mb s.heap) (hroom : A.depth < recursionLimit)
    (hi : i ≤ x.length) (hx : x.length ≤ 1000)
    (h : ∀ h' tk t', (∀ b o, s.heap.get? b = some o → h'.get? b = some o) → Q (.int ((i + pastN y.cps.toList (x.cps.toList.drop i) : Nat) : Int) t') { s with heap := h', toks := tk }) :
    wpAny (model prog w) A (call (.ref 21) [.str x t, .int i ti, .str y u]) Q E s := by
  refine wpAny_call ?_
  refine call_plain_ret (binds := [("s", .str x t), ("i", .int i ti), ("signs", .str y u)]) hroom (X 21 _ rfl) rfl T.nolimit (codeRec_of X (by rfl)) rfl ?_ ?_ ?_ ?_ ?_ ?_
  case refine_5 => rfl
  case refine_6 => decide
  case refine_4 => rfl
  case refine_3 => rfl
  case refine_1 => exact locs rfl
  intro h₁ F
  have N : News s.heap s.heap.objs.size h₁ [] := News.nil
  refine wpAny_execs_cons ?_
  refine While_inv2 (n₀ := x.length - i) (fun n m nx => ∃ k t', i ≤ k ∧ k ≤ x.length ∧ n = x.length - k ∧ nx = [] ∧ i + pastN y.cps.toList (x.cps.toList.drop i) = k + pastN y.cps.toList (x.cps.toList.drop k) ∧
     m "s" = some (.str x t) ∧ m "i" = some (.int (k : Nat) t') ∧ m "signs" = some (.str y u)) F N ⟨i, ti, Nat.le_refl _, hi, rfl, rfl, rfl, rfl, rfl, rfl⟩ ?_ ?_
  · clear F N
    rintro n m₁ nx h₁ tk₁ F N ⟨k, t', hik, hk, rfl, rfl, he, m1, m2, m3⟩
    replace F := fr_over [("s", .str x t), ("i", .int (k : Nat) t'), ("signs", .str y u)] F (by simp [m1, m2, m3])
    refine wpAny_mono (Q := fun b s₂ => _) ?_ (fun b s₂ hb => hb) (fun _ _ e => e)
    repeat' walk_at "go1"
    · rename_i h2 h3 h4
      have h5 := congrArg Bool.not h4
      have h2' : k < x.cps.toList.length := by simp [Str.length] at h2; simpa using h2
      rw [item_nat _ _ (by omega), StrLaws.found_one] at h5
      have e : x.cps.toList.drop k = x.cps.toList[k] :: x.cps.toList.drop (k + 1) := List.drop_eq_getElem_cons h2'
      have h6 : x.cps.toList[k] ∉ y.cps.toList := by simpa [List.getD_eq_getElem?_getD, List.getElem?_eq_getElem h2'] using h5
      rw [e, pastN_cons_neg h6] at he
      have hq := h h₁ tk t' F.keep
      rw [he] at hq
      exact hq
    · rename_i h2 h3 h4 h' F' N'
      have h5 := congrArg Bool.not h4
      have h2' : k < x.cps.toList.length := by simp [Str.length] at h2; simpa using h2
      rw [item_nat _ _ (by omega), StrLaws.found_one] at h5
      have e : x.cps.toList.drop k = x.cps.toList[k] :: x.cps.toList.drop (k + 1) := List.drop_eq_getElem_cons h2'
      have h6 : x.cps.toList[k] ∈ y.cps.toList := by simpa [List.getD_eq_getElem?_getD, List.getElem?_eq_getElem h2'] using h5
      refine ⟨_, _, _, _, x.length - (k + 1), rfl, F', N', by omega, k + 1, _, by omega, by omega, rfl, rfl, ?_, rfl, rfl, rfl⟩
      rw [he, e, pastN_cons_pos h6]; omega
    · rename_i h2
      have h3 : k = x.length := by omega
      have hq := h h₁ tk t' F.keep
      have e : x.cps.toList.drop k = [] := List.drop_of_length_le (by rw [h3]; simp [Str.length])
      rw [he, e] at hq
      exact hq
  · passes_own
end Mine
end

section
open PySem PySem.W PyProof.Rows PySem.Calls
namespace Mine
theorem codes_list {x : Str} {l : List Int} (h : KStt.codes x = l) : x.cps.toList = l.map Int.toNat := by
  subst h
  unfold KStt.codes
  rw [List.map_map]
  exact ((List.map_congr_left (g := _root_.id) fun c _ => Int.toNat_natCast c).trans (List.map_id _)).symm
theorem pastN_app {S l r : List Nat} (h : ∀ z ∈ l, z ∈ S) : pastN S (l ++ r) = l.length + pastN S r := by
  induction l with
  | nil => simp
  | cons a l ih =>
    rw [List.cons_append, pastN_cons_pos (h a List.mem_cons_self), ih fun z hz => h z (List.mem_cons_of_mem _ hz)]
    simp; omega
theorem past_split {x : Str} {pre post : List Int} {n : Nat} {S : List Nat} (h : KStt.codes x = pre ++ (n : Int) :: post) (hp : ∀ z ∈ pre, z.toNat ∈ S) (hn : n ∉ S) :
    pastN S x.cps.toList = pre.length := by
  rw [codes_list h, List.map_append, List.map_cons, pastN_app (by simpa using hp)]
  rw [show ((n : Int).toNat) = n from Int.toNat_natCast n, pastN_cons_neg hn]
  simp
theorem past_all {x : Str} {S : List Nat} (hp : ∀ z ∈ KStt.codes x, z.toNat ∈ S) : pastN S x.cps.toList = (KStt.codes x).length := by
  have e := codes_list (x := x) rfl
  have h : pastN S ((KStt.codes x).map Int.toNat ++ []) = _ := pastN_app (S := S) (r := []) (by simpa using hp)
  rw [List.append_nil, ← e] at h
  rw [h, e]; simp [pastN, KStt.codes]
theorem fill_T2 : PySem.Challenge.rw_bp0016_01.Holds → ∀ P h, (hd.heap_39 P).In h → True := by
  k_fill
  intros; trivial
local macro_rules | `(tactic| walk_at "go1") => `(tactic| first | (k_unfold; (try dsimp only)) | walk1 | (dsimp only; walk1))
set_option maxHeartbeats 4000000 in
theorem run_call {prog : Program} {w : World} {A : Around} {E : Value → Shared → Prop} {s : Shared} {x y : Str} {t u : Tok} {Q : Value → Shared → Prop}
    {loose : List Str} {mean : ExcName → Option Value} {mg mb : Str → Option Value}
    (X : (hd.heap_39 w.params).In s.heap) (T : Top topProg loose mean mg mb s.heap) (hroom : A.depth < recursionLimit) (hh : A.handled = none)
    (hx : x.length ≤ 1000)
    (h : ∀ h' tk D n ta tb, (∀ b o, s.heap.get? b = some o → h'.get? b = some o) → s.heap.get? D = none →
      h'.get? D = some { cls := .type "tuple", data := .seq #[.str ⟨(x.cps.toList.take (pastN y.cps.toList x.cps.toList)).toArray⟩ ta, .str ⟨(x.cps.toList.drop (pastN y.cps.toList x.cps.toList)).toArray⟩ tb] n } → Q (.ref D) { s with heap := h', toks := tk }) :
    wpAny (model prog w) A (call (.ref 36) [.str x t, .str y u]) Q E s := by
  refine wpAny_call ?_
  refine call_plain_ret (binds := [("rest", .str x t), ("signs", .str y u)]) hroom (X 36 _ rfl) rfl T.nolimit (codeRec_of X (by rfl)) rfl ?_ ?_ ?_ ?_ ?_ ?_
  case refine_5 => rfl
  case refine_6 => decide
  case refine_4 => rfl
  case refine_3 => rfl
  case refine_1 => exact locs rfl
  intro h₁ F
  have N : News s.heap s.heap.objs.size h₁ [] := News.nil
  walk_at "go1"
  walk_at "go1"
  walk_at "go1"
  walk_at "go1"
  rename_i h₂ F2 N2
  refine wpAny_execs_cons ?_
  refine For_invVF F2 (by rfl) (by rfl) ?_
  refine ld F2 (by rfl) ?_
  refine KStt.kst_text (fun _ => []) (fun (c : Nat × Tok) => [("size", .int (c.1 : Nat) c.2)]) (fun _ => True) [] (fun pre c => c.1 = pre.length ∧ ∀ z ∈ pre, z.toNat ∈ y.cps.toList) (0, _) hh F2 N2 trivial (by simp; rfl) ⟨rfl, by simp⟩ ?_ ?_
  · clear F2 N2
    rintro ⟨c, tc⟩ pre post n t2 u2 h3 tk3 own hcode hoff hf ⟨rfl, hpre⟩ F N
    dsimp only at F N
    repeat' walk_at "go1"
    · rename_i h4 _ _ _ _ _ _ _ _ D' h' F' N' l1
      have h5 := congrArg Bool.not h4
      rw [StrLaws.found_one] at h5
      have h6 : n ∉ y.cps.toList := by simpa using h5
      have e := past_split hcode hpre h6
      have hD := N' _ List.mem_cons_self
      rw [sl_ns, sl_sn] at hD
      exact h h' _ D' 0 _ _ F'.keep hD.2.2 (by rw [e]; exact hD.1)
    · rename_i h4 h' F' N'
      have h5 := congrArg Bool.not h4
      rw [StrLaws.found_one] at h5
      have h6 : n ∈ y.cps.toList := by simpa using h5
      exact InvEndN.intro F' N' ⟨(pre.length + 1, _), rfl, trivial, by simp; rfl, by
        intro z h1 h2 h3
        simp at h2
        simp [h1, h2, kstB], by simp, by
          intro z hz
          rcases List.mem_append.mp hz with hz | hz
          · exact hpre z hz
          · rw [List.mem_singleton.mp hz]; simpa using h6⟩ rfl (by simp) (fun p hp => hp)
  · clear F2 N2
    rintro ⟨c, tc⟩ u2 h3 tk3 hf ⟨rfl, hpre⟩ F N
    dsimp only at F N
    repeat' walk_at "go1"
    · rename_i D' h' F' N' l1
      have e := past_all hpre
      have hD := N' _ List.mem_cons_self
      rw [sl_ns, sl_sn] at hD
      exact h h' _ D' 0 _ _ F'.keep hD.2.2 (by rw [e]; exact hD.1)
end Mine
end

section
open PySem PySem.W PyProof.Rows PySem.Calls
namespace Mine
def FL : List Nat := [35, 48, 43, 32, 45]
def DG : List Nat := [48, 49, 50, 51, 52, 53, 54, 55, 56, 57]
theorem FL_eq : (Str.ofString "#0+ -").cps.toList = FL := by decide
theorem DG_eq : (Str.ofString "0123456789").cps.toList = DG := by decide
def orNone (l : List Nat) : Dat := if l = [] then .none else .str ⟨l.toArray⟩
def keyOf : List Nat → Dat × List Nat
  | 40 :: r => if 41 ∈ r ∧ 40 ∉ cut 41 r then (.str ⟨(cut 41 r).toArray⟩, r.drop ((cut 41 r).length + 1)) else (.none, 40 :: r)
  | r => (.none, r)
def widOf (r : List Nat) : List Nat × List Nat :=
  if r.take 1 = [42] then ([42], r.drop 1) else (r.take (pastN DG r), r.drop (pastN DG r))
def precOf (r : List Nat) : List Nat × List Nat :=
  if r.take 2 = [46, 42] then ([46, 42], r.drop 2)
  else if r.take 1 = [46] then (46 :: (r.drop 1).take (pastN DG (r.drop 1)), (r.drop 1).drop (pastN DG (r.drop 1)))
  else ([], r)
def lenOf (r : List Nat) : List Nat := if r.take 1 = [104] ∨ r.take 1 = [108] ∨ r.take 1 = [76] then r.drop 1 else r
def endOf (k : Dat) (f w p : List Nat) : List Nat → Option (Dat × List Nat)
  | [] => none
  | c :: r => some (.tuple [k, orNone f, orNone w, orNone p, .str ⟨#[c]⟩], r)
def fmtOf (r : List Nat) : Option (Dat × List Nat) :=
  let k := keyOf r
  let n := pastN FL k.2
  let w := widOf (k.2.drop n)
  let p := precOf w.2
  endOf k.1 (k.2.take n) w.1 p.1 (lenOf p.2)

theorem keyOf_len (r : List Nat) : (keyOf r).2.length ≤ r.length := by
  unfold keyOf
  split
  · split
    · simp; omega
    · simp
  · simp
theorem widOf_len (r : List Nat) : (widOf r).2.length ≤ r.length := by unfold widOf; split <;> simp
theorem precOf_len (r : List Nat) : (precOf r).2.length ≤ r.length := by
  unfold precOf; split
  · simp
  · split <;> simp
theorem lenOf_len (r : List Nat) : (lenOf r).length ≤ r.length := by unfold lenOf; split <;> simp
theorem endOf_len {k : Dat} {f w p r r' : List Nat} {d : Dat} (h : endOf k f w p r = some (d, r')) : r'.length + 1 = r.length := by
  cases r with
  | nil => cases h
  | cons c r => simp [endOf] at h; simp [h.2]
theorem fmtOf_len {r r' : List Nat} {d : Dat} (h : fmtOf r = some (d, r')) : r'.length < r.length := by
  unfold fmtOf at h
  have h1 := endOf_len h
  have h2 := lenOf_len (precOf (widOf ((keyOf r).2.drop (pastN FL (keyOf r).2))).2).2
  have h3 := precOf_len (widOf ((keyOf r).2.drop (pastN FL (keyOf r).2))).2
  have h4 := widOf_len ((keyOf r).2.drop (pastN FL (keyOf r).2))
  have h5 := keyOf_len r
  simp at h4
  omega
noncomputable def rdg (l : List Nat) : List Dat × Bool :=
  if l = [] then ([], false)
  else if 37 ∈ l then
    match h : fmtOf (l.drop ((cut 37 l).length + 1)) with
    | none => ([], true)
    | some (d, r) => (Dat.tuple [.str ⟨(cut 37 l).toArray⟩, d] :: (rdg r).1, (rdg r).2)
  else ([Dat.tuple [.str ⟨l.toArray⟩, .none]], false)
termination_by l.length
decreasing_by
  all_goals
    have := fmtOf_len h
    simp at this
    omega
theorem rdg_nil : rdg [] = ([], false) := by rw [rdg]; simp
theorem rdg_last {l : List Nat} (h : l ≠ []) (h2 : 37 ∉ l) : rdg l = ([Dat.tuple [.str ⟨l.toArray⟩, .none]], false) := by rw [rdg]; simp [h, h2]
theorem rdg_bad {l : List Nat} (h2 : 37 ∈ l) (h3 : fmtOf (l.drop ((cut 37 l).length + 1)) = none) : rdg l = ([], true) := by
  rw [rdg]
  have h : l ≠ [] := fun e => by rw [e] at h2; cases h2
  rw [if_neg h, if_pos h2]
  split
  · rfl
  · rename_i h4; rw [h3] at h4; cases h4
theorem rdg_go {l r : List Nat} {d : Dat} (h2 : 37 ∈ l) (h3 : fmtOf (l.drop ((cut 37 l).length + 1)) = some (d, r)) : rdg l = (Dat.tuple [.str ⟨(cut 37 l).toArray⟩, d] :: (rdg r).1, (rdg r).2) := by
  rw [rdg]
  have h : l ≠ [] := fun e => by rw [e] at h2; cases h2
  rw [if_neg h, if_pos h2]
  split
  · rename_i h4; rw [h3] at h4; cases h4
  · rename_i h4; rw [h3] at h4; cases h4; rfl
end Mine
namespace Mine
def StR (h₀ : Heap) (L : Addr) (led : List (Addr × Obj)) (ps : List (Str × Value)) (s s' : Shared) : Prop :=
  ∃ h' tk m, s' = { s with heap := h', toks := tk } ∧ Fr h₀ L h' (kstB m ps) ∧ News h₀ L h' led
def CutN (P : Shared → Prop) (f : Flow) (s : Shared) : Prop := f = .next ∧ P s
theorem StR.mk' {h₀ h' : Heap} {L : Addr} {led led' : List (Addr × Obj)} {ps : List (Str × Value)} {s : Shared} {tk : Nat} {m : Str → Option Value}
    (F : Fr h₀ L h' m) (N : News h₀ L h' led') (hs : ∀ p ∈ led, p ∈ led') (hp : ∀ p ∈ ps, m p.1 = some p.2) : StR h₀ L led ps s { s with heap := h', toks := tk } :=
  ⟨h', tk, m, rfl, fr_over ps F hp, fun p h => N p (hs p h)⟩
theorem pct : Str.ofString "%" = ⟨#[37]⟩ := by decide
theorem lpar : Str.ofString "(" = ⟨#[40]⟩ := by decide
theorem rpar : Str.ofString ")" = ⟨#[41]⟩ := by decide
theorem star : Str.ofString "*" = ⟨#[42]⟩ := by decide
theorem dotc : Str.ofString "." = ⟨#[46]⟩ := by decide
theorem dotstar : Str.ofString ".*" = ⟨#[46, 42]⟩ := by decide
theorem hc : Str.ofString "h" = ⟨#[104]⟩ := by decide
theorem lc : Str.ofString "l" = ⟨#[108]⟩ := by decide
theorem Lc : Str.ofString "L" = ⟨#[76]⟩ := by decide
theorem emp : Str.ofString "" = ⟨#[]⟩ := by decide
theorem str_eq_iff {x : Str} {a : Array Nat} : (x = ⟨a⟩) ↔ x.cps.toList = a.toList := by
  constructor
  · rintro rfl; rfl
  · intro h; cases x; simp at h; simp [h]
theorem str_beq {x : Str} {a : Array Nat} : (x == (⟨a⟩ : Str)) = decide (x.cps.toList = a.toList) := by
  rw [Bool.eq_iff_iff]; simp [str_eq_iff]
theorem str_bne {x : Str} {a : Array Nat} : (x != (⟨a⟩ : Str)) = !decide (x.cps.toList = a.toList) := by
  rw [bne, str_beq]
theorem lcps (l : List Nat) : (⟨l.toArray⟩ : Str).cps.toList = l := by simp
end Mine
namespace Mine
theorem sl_n1 (x : Str) : Txt.slice x none (some 1) = ⟨(x.cps.toList.take 1).toArray⟩ := sl_ns x 1
theorem sl_n2 (x : Str) : Txt.slice x none (some 2) = ⟨(x.cps.toList.take 2).toArray⟩ := sl_ns x 2
theorem sl_1n (x : Str) : Txt.slice x (some 1) none = ⟨(x.cps.toList.drop 1).toArray⟩ := sl_sn x 1
theorem sl_2n (x : Str) : Txt.slice x (some 2) none = ⟨(x.cps.toList.drop 2).toArray⟩ := sl_sn x 2
theorem take1 {l : List Nat} {c : Nat} (h : l.take 1 = [c]) : l = c :: l.drop 1 := by
  cases l with
  | nil => cases h
  | cons a r => simp at h; simp [h]
theorem keyOf_pos {l : List Nat} (h : l.take 1 = [40]) (h1 : 41 ∈ l.drop 1) (h2 : 40 ∉ cut 41 (l.drop 1)) :
    keyOf l = (.str ⟨(cut 41 (l.drop 1)).toArray⟩, (l.drop 1).drop ((cut 41 (l.drop 1)).length + 1)) := by
  have e := take1 h
  generalize l.drop 1 = r at *
  subst e
  simp [keyOf, h1, h2]
theorem keyOf_neg {l : List Nat} (h1 : ¬ (41 ∈ l.drop 1 ∧ 40 ∉ cut 41 (l.drop 1))) : keyOf l = (.none, l) := by
  unfold keyOf
  split
  · simp only [List.drop_one, List.tail_cons] at h1
    rw [if_neg h1]
  · rfl
theorem keyOf_none {l : List Nat} (h : l.take 1 ≠ [40]) : keyOf l = (.none, l) := by
  unfold keyOf
  split
  · simp at h
  · rfl
theorem slen (x : Str) : x.length = x.cps.toList.length := by simp [Str.length]
theorem part_mark {x : Str} : ((Txt.partition x (Str.ofString ")")).2.1 == Str.ofString ")") = decide (41 ∈ x.cps.toList) := by
  rw [rpar, part_one]
  by_cases h : 41 ∈ x.cps.toList
  · simp [h]
  · rw [if_neg h]
    simp [h]
    decide
theorem in_str (x : Str) (c : Nat) : (Builtin.Str.occurrences x ⟨#[c]⟩ 0 x.length 1).isEmpty = !decide (c ∈ x.cps.toList) := by
  rw [← StrLaws.found_one, Bool.not_not]
end Mine
namespace Mine
theorem len_any {z : Str} : ([Str.ofString "h", Str.ofString "l", Str.ofString "L"].any fun x => x == Txt.slice z none (some 1)) = decide (z.cps.toList.take 1 = [104] ∨ z.cps.toList.take 1 = [108] ∨ z.cps.toList.take 1 = [76]) := by
  rw [sl_n1, hc, lc, Lc, Bool.eq_iff_iff]
  simp only [List.any_cons, List.any_nil, Bool.or_false, Bool.or_eq_true, beq_iff_eq, decide_eq_true_eq]
  have e : ∀ (c : Nat) (l : List Nat), ((⟨#[c]⟩ : Str) = ⟨l.toArray⟩) ↔ l = [c] := fun c l => by
    rw [eq_comm, str_eq_iff]
  rw [e, e, e]
end Mine
namespace Mine
theorem news_ne {h₀ h : Heap} {L a b : Addr} {oa ob : Obj} {led : List (Addr × Obj)} (N : News h₀ L h led) (ha : (a, oa) ∈ led) (hb : (b, ob) ∈ led) (hne : oa.cls ≠ ob.cls) : a ≠ b := fun e => by
  have h1 := (N _ ha).1
  have h2 := (N _ hb).1
  dsimp only at h1 h2
  rw [e, h2] at h1
  cases h1
  exact hne rfl
end Mine
end

section
open PySem PySem.W PyProof.Rows PySem.Calls
namespace Mine
section
variable {prog : Program} {w : World} {A : Around} {E : Value → Shared → Prop} {s : Shared} {x y : Str} {t u ti : Tok} {Q : Value → Shared → Prop}
    {loose : List Str} {mean : ExcName → Option Value} {mg mb : Str → Option Value} {h₀ : Heap} {L : Addr} {m : Str → Option Value} {news : List (Addr × Obj)}
theorem run_callN (F : Fr h₀ L s.heap m) (N : News h₀ L s.heap news) (X : (hd.heap_39 w.params).In h₀) (T : Top topProg loose mean mg mb h₀) (hroom : A.depth < recursionLimit) (hh : A.handled = none)
    (hx : x.length ≤ 1000)
    (h : ∀ h' tk D n ta tb, Fr h₀ L h' m → News h₀ L h' ((D, { cls := .type "tuple", data := .seq #[.str ⟨(x.cps.toList.take (pastN y.cps.toList x.cps.toList)).toArray⟩ ta, .str ⟨(x.cps.toList.drop (pastN y.cps.toList x.cps.toList)).toArray⟩ tb] n }) :: news) → Q (.ref D) { s with heap := h', toks := tk }) :
    wpAny (model prog w) A (call (.ref 36) [.str x t, .str y u]) Q E s := by
  refine run_call (X.keeps F.keep) (T.keeps F.keep) hroom hh hx ?_
  intro h6 tk6 D cn ta tb hk hD hD2
  have F6 : Fr h₀ L h6 m := ⟨F.ns.keeps hk, fun b o e => hk b o (F.keep b o e), F.above⟩
  exact h h6 tk6 D cn ta tb F6 (News.more F6 (fun p hp => ⟨hk _ _ (N p hp).1, (N p hp).2⟩) hD2 (by simp) (by
    cases q : h₀.get? D with
    | none => rfl
    | some o => rw [F.keep _ _ q] at hD; cases hD))
theorem past_callN {i : Int} (F : Fr h₀ L s.heap m) (N : News h₀ L s.heap news) (X : (hd.heap_39 w.params).In h₀) (T : Top topProg loose mean mg mb h₀) (hroom : A.depth < recursionLimit)
    (h0 : 0 ≤ i) (hi : i ≤ (x.length : Int)) (hx : x.length ≤ 1000)
    (h : ∀ h' tk t', Fr h₀ L h' m → News h₀ L h' news → Q (.int (i + (pastN y.cps.toList (x.cps.toList.drop i.toNat) : Nat)) t') { s with heap := h', toks := tk }) :
    wpAny (model prog w) A (call (.ref 21) [.str x t, .int i ti, .str y u]) Q E s := by
  obtain ⟨k, rfl⟩ := Int.eq_ofNat_of_zero_le h0
  refine past_call (X.keeps F.keep) (T.keeps F.keep) hroom (by omega) hx ?_
  intro h6 tk6 t' hk
  exact h h6 tk6 t' ⟨F.ns.keeps hk, fun b o e => hk b o (F.keep b o e), F.above⟩ fun p hp => ⟨hk _ _ (N p hp).1, (N p hp).2⟩
end
end Mine
namespace Mine
section
variable {M : Model} {A : Around} {E : Value → Shared → Prop} {s : Shared} {Q : Value → Shared → Prop} {h₀ : Heap} {L a : Addr} {m : Str → Option Value} {cn : Str} {cs : Scope} {cd : Value}
theorem datOr {f : Str} {tf : Tok} : f.cps.toList ≠ [] → DatIn [] (.str f tf) (orNone f.cps.toList) := fun h => by
  unfold orNone
  rw [if_neg h]
  have : f = ⟨f.cps.toList.toArray⟩ := by simp
  rw [← this]
  exact .str f tf
theorem datOrNone {f : Str} : f.cps.toList = [] → DatIn [] .none (orNone f.cps.toList) := fun h => by
  unfold orNone
  rw [if_pos h]
  exact .none
theorem ifexp_orNone {prog : Program} {w : World} {x f : Str} {tf : Tok} {p1 p2 p3 p4 p5 p6 : Pos} {k1 k2} (F : Fr h₀ L s.heap m) (hv : m x = some (.str f tf))
    (h : ∀ v tk, DatIn [] v (orNone f.cps.toList) → Q v { s with toks := tk })
    (hk : cs.kind = .function := by rfl) (hl : (envOf cn cs L a cd).kindOf x = some .local := by rfl) (hd : (x == ("__debug__" : Str)) = false := by decide) :
    wpAny (model prog w) A (eval (.IfExp (.Compare (.Name x p1) [.NotEq] [.Constant (.str (Str.ofString "")) k1 p2] p3) (.Name x p4) (.Constant .none k2 p5) p6) (envOf cn cs L a cd)) Q E s := by
  refine wpAny_IfExp (wpAny_isTrue_Compare1 (ld F hv (wpAny_Constant_str (ne_str (wpAny_truthy_bool ?_))) hk hl hd))
  rw [emp, str_bne]
  by_cases hf : f.cps.toList = []
  · rw [hf]
    simp only [decide_true, Bool.not_true, Bool.false_eq_true, if_false]
    refine wpAny_Constant_none ?_
    exact h _ _ (datOrNone hf)
  · have : (!decide (f.cps.toList = (#[] : Array Nat).toList)) = true := by simpa using hf
    rw [this]
    simp only [if_true]
    exact ld F hv (h _ _ (datOr hf)) hk hl hd
end
theorem item_0 (x : Str) (h : 0 < x.length) : Txt.item x 0 = ⟨#[x.cps.toList.getD 0 0]⟩ := item_nat x 0 h
end Mine
namespace Mine
theorem add_dot {prog : Program} {w : World} {A : Around} {E : Value → Shared → Prop} {s : Shared} {Q : Value → Shared → Prop} {l : List Nat} {t u : Tok} (hl : l.length ≤ 1000)
    (h : ∀ t' k, Q (.str ⟨(46 :: l).toArray⟩ t') { s with toks := k }) : wpAny (model prog w) A (binaryOp .Add (.str (Str.ofString ".") t) (.str ⟨l.toArray⟩ u)) Q E s := by
  refine KOpn.add ?_ fun t' k _ => ?_
  · rw [dotc]; simp [Str.length]; omega
  · have e : (Str.ofString "." ++ (⟨l.toArray⟩ : Str)) = ⟨(46 :: l).toArray⟩ := by
      rw [dotc]
      apply Str.ext'
      show #[46] ++ l.toArray = _
      simp
    rw [e]
    exact h t' k
end Mine
end

section
open PySem PySem.W PyProof.Rows PySem.Calls
namespace Mine
theorem fill_T3 : PySem.Challenge.rw_bp0016_01.Holds → ∀ P h, (hd.heap_39 P).In h → True := by
  k_fill
  intros; trivial
local macro_rules | `(tactic| walk_at "go1") => `(tactic| first | (k_unfold; (try dsimp only)) | walk1 | (dsimp only; walk1))

local macro_rules | `(tactic| walk_at "mem") => `(tactic| (intro p hp; repeat (first | exact hp | refine List.mem_cons_of_mem _ ?_)))

local macro_rules | `(tactic| walk_at "call ref") => `(tactic| ((with_reducible show wpAny _ _ (call (Value.ref 36) [Value.str _ _, Value.str _ _]) _ _ _); refine run_callN (by assumption) (by assumption) (by assumption) (by assumption) (by assumption) rfl (by omega) ?_; intro h' tk' D' n' ta' tb' F' N'))
local macro_rules | `(tactic| walk_at "eval IfExp Compare Name") => `(tactic| (refine ifexp_orNone (by assumption) (by rfl) ?_; intro v' tk' hv'))
local macro_rules | `(tactic| walk_at "binaryOp Add str str") => `(tactic| (refine add_dot ?hl ?_; (case hl => (rw [List.length_take, ← slen]; omega)); intro t' k'))
def ReadJ (x₀ : Str) (n : Nat) (m : Str → Option Value) (nx : List (Addr × Obj)) : Prop :=
  ∃ r items cnt tl ds x t, nx = (r, listOf items.toArray cnt) :: tl ∧ OwnOff tl [r] ∧ DatAll tl items ds ∧ m "rows" = some (.ref r) ∧ m "text" = some (.str x t) ∧
    items.length + x.length ≤ x₀.length ∧ n = x.length ∧ rdg x₀.cps.toList = (ds ++ (rdg x.cps.toList).1, (rdg x.cps.toList).2)

set_option maxHeartbeats 4000000 in
theorem read_call {prog : Program} {w : World} {A : Around} {E : Value → Shared → Prop} {s : Shared} {x₀ : Str} {t₀ : Tok} {Q : Value → Shared → Prop}
    {loose : List Str} {mean : ExcName → Option Value} {mg mb : Str → Option Value}
    (X : (hd.heap_39 w.params).In s.heap) (T : Top topProg loose mean mg mb s.heap) (hroom : A.depth + 1 < recursionLimit) (hh : A.handled = none)
    (hx : x₀.length ≤ 1000)
    (h : ∀ h' tk v, (∀ b o, s.heap.get? b = some o → h'.get? b = some o) → ((rdg x₀.cps.toList).2 = true → v = .none) →
      ((rdg x₀.cps.toList).2 = false → ∃ r items cnt led, v = .ref r ∧ (∀ p ∈ led, h'.get? p.1 = some p.2 ∧ s.heap.get? p.1 = none) ∧ (r, listOf items cnt) ∈ led ∧ DatAll led items.toList (rdg x₀.cps.toList).1) → Q v { s with heap := h', toks := tk }) :
    wpAny (model prog w) A (call (.ref 43) [.str x₀ t₀]) Q E s := by
  obtain ⟨ah, ad, af, ag, au⟩ := A
  obtain rfl : ah = none := hh
  refine wpAny_call ?_
  refine call_plain_ret (binds := [("text", .str x₀ t₀)]) (Nat.lt_of_le_of_lt (Nat.le_add_right _ 1) hroom) (X 43 _ rfl) rfl T.nolimit (codeRec_of X (by rfl)) rfl ?_ ?_ ?_ ?_ ?_ ?_
  case refine_5 => rfl
  case refine_6 => decide
  case refine_4 => rfl
  case refine_3 => rfl
  case refine_1 => exact locs rfl
  intro h₁ F
  have N : News s.heap s.heap.objs.size h₁ [] := News.nil
  walk_at "go1"
  walk_at "go1"
  walk_at "go1"
  walk_at "go1"
  walk_at "go1"
  walk_at "go1"
  try clear F N
  rename Fr _ _ _ _ => F2
  rename News _ _ _ _ => N2
  refine wpAny_execs_cons ?_
  refine While_inv2 (n₀ := x₀.length) (ReadJ x₀) F2 N2 ⟨_, [], 0, [], [], x₀, t₀, rfl, (by intro p hp; cases hp), .nil, rfl, rfl, by simp, rfl, by simp⟩ ?_ ?_
  · clear F2 N2
    rintro n m₁ nx h₁ tk₁ F N ⟨r, items, cnt, tl, ds, x, t, rfl, hoff, hds, m1, m2, hlen, rfl, he⟩
    replace F := fr_over [("rows", .ref r), ("text", .str x t)] F (by simp [m1, m2])
    refine wpAny_mono (Q := fun b s₂ => _) ?_ (fun b s₂ hb => hb) (fun _ _ e => e)
    walk_at "go1"
    walk_at "go1"
    walk_at "go1"
    walk_at "go1"
    walk_at "go1"
    walk_at "go1"
    · rename_i hne
      have hxne : x.cps.toList ≠ [] := by
        rw [emp, str_bne] at hne
        intro e; simp [e] at hne
      -- text.partition
      refine wpAny_execs_cons ?_
      refine wpAny_mono (E := fun _ _ => False) (Q := CutN fun s' => ∃ t1 t2 t3, StR s.heap s.heap.objs.size ((r, listOf items.toArray cnt) :: tl) [("rows", .ref r), ("text", .str x t), ("before", .str (Txt.partition x (Str.ofString "%")).1 t1), ("mark", .str (Txt.partition x (Str.ofString "%")).2.1 t2), ("rest", .str (Txt.partition x (Str.ofString "%")).2.2 t3)] s s') ?_ ?_ (fun _ _ e => e.elim)
      · repeat' walk_at "go1"
        rename Fr _ _ _ _ => F'
        rename News _ _ _ _ => N'
        exact ⟨rfl, _, _, _, StR.mk' F' N' (by walk_at "mem") (by kst_all)⟩
      rintro f s' ⟨rfl, t1, t2, t3, h2, tk2, m2, rfl, F2, N2⟩
      clear F N
      dsimp only
      rw [pct, part_one] at F2
      by_cases h37 : 37 ∈ x.cps.toList
      · rw [if_pos h37] at F2
        dsimp only at F2
        have hcut := cut_length_lt h37
        obtain ⟨b, hb⟩ : ∃ b : Str, b = ⟨(cut 37 x.cps.toList).toArray⟩ := ⟨_, rfl⟩
        obtain ⟨y, hy⟩ : ∃ y : Str, y = ⟨(x.cps.toList.drop ((cut 37 x.cps.toList).length + 1)).toArray⟩ := ⟨_, rfl⟩
        rw [← hb, ← hy] at F2
        have hyl : y.cps.toList = x.cps.toList.drop ((cut 37 x.cps.toList).length + 1) := by rw [hy]
        have hylen : y.length ≤ x₀.length := by
          have e : y.length = y.cps.toList.length := by simp [Str.length]
          have e2 : x.length = x.cps.toList.length := by simp [Str.length]
          rw [e, hyl, List.length_drop]; omega
        clear hy
        -- if mark == ''
        refine wpAny_execs_cons ?_
        refine wpAny_mono (E := fun _ _ => False) (Q := CutN fun s' => StR s.heap s.heap.objs.size ((r, listOf items.toArray cnt) :: tl) [("rows", .ref r), ("text", .str x t), ("before", .str b t1), ("rest", .str y t3)] s s') ?_ ?_ (fun _ _ e => e.elim)
        · repeat' walk_at "go1"
          exact ⟨rfl, StR.mk' F2 N2 (by walk_at "mem") (by kst_all)⟩
        rintro f s' ⟨rfl, h3, tk3, m3, rfl, F3, N3⟩
        clear F2 N2
        dsimp only
        -- key = None
        refine wpAny_execs_cons ?_
        refine wpAny_mono (E := fun _ _ => False) (Q := CutN fun s' => StR s.heap s.heap.objs.size ((r, listOf items.toArray cnt) :: tl) [("rows", .ref r), ("text", .str x t), ("before", .str b t1), ("rest", .str y t3), ("key", .none)] s s') ?_ ?_ (fun _ _ e => e.elim)
        · repeat' walk_at "go1"
          rename Fr _ _ _ _ => F'
          rename News _ _ _ _ => N'
          exact ⟨rfl, StR.mk' F' N' (by walk_at "mem") (by kst_all)⟩
        rintro f s' ⟨rfl, h4, tk4, m4, rfl, F4, N4⟩
        clear F3 N3
        dsimp only
        -- the key in its brackets
        refine wpAny_execs_cons ?_
        refine wpAny_mono (E := fun _ _ => False) (Q := CutN fun s' => ∃ kv z tz, DatIn [] kv (keyOf y.cps.toList).1 ∧ z.cps.toList = (keyOf y.cps.toList).2 ∧ StR s.heap s.heap.objs.size ((r, listOf items.toArray cnt) :: tl) [("rows", .ref r), ("text", .str x t), ("before", .str b t1), ("rest", .str z tz), ("key", kv)] s s') ?_ ?_ (fun _ _ e => e.elim)
        · repeat' walk_at "go1"
          all_goals (rename Fr _ _ _ _ => F'; rename News _ _ _ _ => N')
          · rename (_ == Str.ofString "(") = true => c1
            rename (_ == Str.ofString ")") = true => c2
            rename List.isEmpty _ = true => c3
            rw [sl_n1, lpar, str_beq] at c1
            have d1 : y.cps.toList.take 1 = [40] := by simpa using c1
            rw [part_mark, sl_1n] at c2
            have d2 : 41 ∈ y.cps.toList.drop 1 := by simpa using c2
            rw [lpar, in_str, rpar, part_one, sl_1n, lcps, if_pos d2] at c3
            have d3 : 40 ∉ cut 41 (y.cps.toList.drop 1) := by simpa using c3
            have hk := keyOf_pos d1 d2 d3
            rw [rpar, part_one, sl_1n, lcps, if_pos d2] at F'
            rw [hk]
            exact ⟨rfl, .str ⟨(cut 41 (y.cps.toList.drop 1)).toArray⟩ _, ⟨((y.cps.toList.drop 1).drop ((cut 41 (y.cps.toList.drop 1)).length + 1)).toArray⟩, _, .str _ _, by simp, StR.mk' F' N' (by walk_at "mem") (by kst_all)⟩
          · rename (_ == Str.ofString ")") = true => c2
            rename List.isEmpty _ = false => c3
            rw [part_mark, sl_1n] at c2
            have d2 : 41 ∈ y.cps.toList.drop 1 := by simpa using c2
            rw [lpar, in_str, rpar, part_one, sl_1n, lcps, if_pos d2] at c3
            have d3 : 40 ∈ cut 41 (y.cps.toList.drop 1) := by simpa using c3
            have hk := keyOf_neg (l := y.cps.toList) (by rintro ⟨_, q⟩; exact q d3)
            rw [hk]
            exact ⟨rfl, _, _, _, .none, rfl, StR.mk' F' N' (by walk_at "mem") (by kst_all)⟩
          · rename (_ == Str.ofString ")") = false => c2
            rw [part_mark, sl_1n] at c2
            have d2 : 41 ∉ y.cps.toList.drop 1 := by simpa using c2
            have hk := keyOf_neg (l := y.cps.toList) (by rintro ⟨q, _⟩; exact d2 q)
            rw [hk]
            exact ⟨rfl, _, _, _, .none, rfl, StR.mk' F' N' (by walk_at "mem") (by kst_all)⟩
          · rename (_ == Str.ofString "(") = false => c1
            rw [sl_n1, lpar, str_beq] at c1
            have d1 : y.cps.toList.take 1 ≠ [40] := by simpa using c1
            have hk := keyOf_none d1
            rw [hk]
            exact ⟨rfl, _, _, _, .none, rfl, StR.mk' F' N' (by walk_at "mem") (by kst_all)⟩
        rintro f s' ⟨rfl, kv, z, tz, hkv, hz, h5, tk5, m5, rfl, F5, N5⟩
        clear F4 N4
        dsimp only
        have hzlen : z.length ≤ 1000 := by
          have := keyOf_len y.cps.toList
          rw [slen, hz]; rw [slen] at hylen; omega
        -- flags
        refine wpAny_execs_cons ?_
        refine wpAny_mono (E := fun _ _ => False) (Q := CutN fun s' => ∃ f tf z2 tz, f.cps.toList = z.cps.toList.take (pastN FL z.cps.toList) ∧ z2.cps.toList = z.cps.toList.drop (pastN FL z.cps.toList) ∧ StR s.heap s.heap.objs.size ((r, listOf items.toArray cnt) :: tl) [("rows", .ref r), ("text", .str x t), ("before", .str b t1), ("rest", .str z2 tz), ("key", kv), ("flags", .str f tf)] s s') ?_ ?_ (fun _ _ e => e.elim)
        · repeat' walk_at "go1"
          rename Fr _ _ _ _ => F'
          rename News _ _ _ _ => N'
          rw [FL_eq] at F'
          exact ⟨rfl, _, _, _, _, lcps _, lcps _, StR.mk' F' N' (by walk_at "mem") (by kst_all)⟩
        rintro f s' ⟨rfl, fl, tf, z2, tz2, hfl, hz2, h6, tk6, m6, rfl, F6, N6⟩
        clear F5 N5
        dsimp only
        have hz2len : z2.length ≤ 1000 := by
          rw [slen, hz2, List.length_drop]; rw [slen] at hzlen; omega
        -- width
        refine wpAny_execs_cons ?_
        refine wpAny_mono (E := fun _ _ => False) (Q := CutN fun s' => ∃ tw, StR s.heap s.heap.objs.size ((r, listOf items.toArray cnt) :: tl) [("rows", .ref r), ("text", .str x t), ("before", .str b t1), ("rest", .str z2 tz2), ("key", kv), ("flags", .str fl tf), ("width", .str (Str.ofString "*") tw)] s s') ?_ ?_ (fun _ _ e => e.elim)
        · repeat' walk_at "go1"
          rename Fr _ _ _ _ => F'
          rename News _ _ _ _ => N'
          exact ⟨rfl, _, StR.mk' F' N' (by walk_at "mem") (by kst_all)⟩
        rintro f s' ⟨rfl, tw, h7, tk7, m7, rfl, F7, N7⟩
        clear F6 N6
        dsimp only
        refine wpAny_execs_cons ?_
        refine wpAny_mono (E := fun _ _ => False) (Q := CutN fun s' => ∃ wi tw z3 tz, wi.cps.toList = (widOf z2.cps.toList).1 ∧ z3.cps.toList = (widOf z2.cps.toList).2 ∧ StR s.heap s.heap.objs.size ((r, listOf items.toArray cnt) :: tl) [("rows", .ref r), ("text", .str x t), ("before", .str b t1), ("rest", .str z3 tz), ("key", kv), ("flags", .str fl tf), ("width", .str wi tw)] s s') ?_ ?_ (fun _ _ e => e.elim)
        · repeat' walk_at "go1"
          all_goals (rename Fr _ _ _ _ => F'; rename News _ _ _ _ => N')
          · rename (_ == Str.ofString "*") = true => c1
            rw [sl_n1, star, str_beq] at c1
            have d1 : z2.cps.toList.take 1 = [42] := by simpa using c1
            unfold widOf
            rw [if_pos d1]
            rw [sl_1n] at F'
            exact ⟨rfl, Str.ofString "*", _, _, _, by rw [star], lcps _, StR.mk' F' N' (by walk_at "mem") (by kst_all)⟩
          · rename (_ == Str.ofString "*") = false => c1
            rw [sl_n1, star, str_beq] at c1
            have d1 : z2.cps.toList.take 1 ≠ [42] := by simpa using c1
            unfold widOf
            rw [if_neg d1]
            rw [DG_eq] at F'
            exact ⟨rfl, _, _, _, _, lcps _, lcps _, StR.mk' F' N' (by walk_at "mem") (by kst_all)⟩
        rintro f s' ⟨rfl, wi, tw, z3, tz3, hwi, hz3, h8, tk8, m8, rfl, F8, N8⟩
        clear F7 N7
        dsimp only
        have hz3len : z3.length ≤ 1000 := by
          have := widOf_len z2.cps.toList
          rw [slen, hz3]; rw [slen] at hz2len; omega
        -- precision
        refine wpAny_execs_cons ?_
        refine wpAny_mono (E := fun _ _ => False) (Q := CutN fun s' => ∃ tp, StR s.heap s.heap.objs.size ((r, listOf items.toArray cnt) :: tl) [("rows", .ref r), ("text", .str x t), ("before", .str b t1), ("rest", .str z3 tz3), ("key", kv), ("flags", .str fl tf), ("width", .str wi tw), ("precision", .str (Str.ofString "") tp)] s s') ?_ ?_ (fun _ _ e => e.elim)
        · repeat' walk_at "go1"
          rename Fr _ _ _ _ => F'
          rename News _ _ _ _ => N'
          exact ⟨rfl, _, StR.mk' F' N' (by walk_at "mem") (by kst_all)⟩
        rintro f s' ⟨rfl, tp, h9, tk9, m9, rfl, F9, N9⟩
        clear F8 N8
        dsimp only
        refine wpAny_execs_cons ?_
        refine wpAny_mono (E := fun _ _ => False) (Q := CutN fun s' => ∃ pr tp z4 tz, pr.cps.toList = (precOf z3.cps.toList).1 ∧ z4.cps.toList = (precOf z3.cps.toList).2 ∧ StR s.heap s.heap.objs.size ((r, listOf items.toArray cnt) :: tl) [("rows", .ref r), ("text", .str x t), ("before", .str b t1), ("rest", .str z4 tz), ("key", kv), ("flags", .str fl tf), ("width", .str wi tw), ("precision", .str pr tp)] s s') ?_ ?_ (fun _ _ e => e.elim)
        · repeat' walk_at "go1"
          all_goals (rename Fr _ _ _ _ => F'; rename News _ _ _ _ => N')
          · rename (_ == Str.ofString ".*") = true => c1
            rw [sl_n2, dotstar, str_beq] at c1
            have d1 : z3.cps.toList.take 2 = [46, 42] := by simpa using c1
            unfold precOf
            rw [if_pos d1]
            rw [sl_2n] at F'
            exact ⟨rfl, Str.ofString ".*", _, _, _, by rw [dotstar], lcps _, StR.mk' F' N' (by walk_at "mem") (by kst_all)⟩
          · rename (_ == Str.ofString ".*") = false => c1
            rename (_ == Str.ofString ".") = true => c2
            rw [sl_n2, dotstar, str_beq] at c1
            have d1 : z3.cps.toList.take 2 ≠ [46, 42] := by simpa using c1
            rw [sl_n1, dotc, str_beq] at c2
            have d2 : z3.cps.toList.take 1 = [46] := by simpa using c2
            unfold precOf
            rw [if_neg d1, if_pos d2]
            rw [DG_eq, sl_1n, lcps] at F'
            exact ⟨rfl, _, _, _, _, lcps _, lcps _, StR.mk' F' N' (by walk_at "mem") (by kst_all)⟩
          · rename (_ == Str.ofString ".*") = false => c1
            rename (_ == Str.ofString ".") = false => c2
            rw [sl_n2, dotstar, str_beq] at c1
            have d1 : z3.cps.toList.take 2 ≠ [46, 42] := by simpa using c1
            rw [sl_n1, dotc, str_beq] at c2
            have d2 : z3.cps.toList.take 1 ≠ [46] := by simpa using c2
            unfold precOf
            rw [if_neg d1, if_neg d2]
            exact ⟨rfl, Str.ofString "", _, _, _, by rw [emp], rfl, StR.mk' F' N' (by walk_at "mem") (by kst_all)⟩
        rintro f s' ⟨rfl, pr, tp, z4, tz4, hpr, hz4, h10, tk10, m10, rfl, F10, N10⟩
        clear F9 N9
        dsimp only
        have hz4len : z4.length ≤ 1000 := by
          have := precOf_len z3.cps.toList
          rw [slen, hz4]; rw [slen] at hz3len; omega
        -- one letter of length
        refine wpAny_execs_cons ?_
        refine wpAny_mono (E := fun _ _ => False) (Q := CutN fun s' => ∃ z5 tz, z5.cps.toList = lenOf z4.cps.toList ∧ StR s.heap s.heap.objs.size ((r, listOf items.toArray cnt) :: tl) [("rows", .ref r), ("text", .str x t), ("before", .str b t1), ("rest", .str z5 tz), ("key", kv), ("flags", .str fl tf), ("width", .str wi tw), ("precision", .str pr tp)] s s') ?_ ?_ (fun _ _ e => e.elim)
        · repeat' walk_at "go1"
          all_goals (rename Fr _ _ _ _ => F'; rename News _ _ _ _ => N')
          · rename List.any _ _ = true => c1
            have d1 := c1.symm.trans len_any
            have d2 := of_decide_eq_true d1.symm
            unfold lenOf
            rw [if_pos d2]
            rw [sl_1n] at F'
            exact ⟨rfl, _, _, lcps _, StR.mk' F' N' (by walk_at "mem") (by kst_all)⟩
          · rename List.any _ _ = false => c1
            have d1 := c1.symm.trans len_any
            have d2 := of_decide_eq_false d1.symm
            unfold lenOf
            rw [if_neg d2]
            exact ⟨rfl, _, _, rfl, StR.mk' F' N' (by walk_at "mem") (by kst_all)⟩
        rintro f s' ⟨rfl, z5, tz5, hz5, h11, tk11, m11, rfl, F11, N11⟩
        clear F10 N10
        dsimp only
        have hz5len : z5.length ≤ 1000 := by
          have := lenOf_len z4.cps.toList
          rw [slen, hz5]; rw [slen] at hz4len; omega
        have hfmt : fmtOf (x.cps.toList.drop ((cut 37 x.cps.toList).length + 1)) = endOf (keyOf y.cps.toList).1 fl.cps.toList wi.cps.toList pr.cps.toList z5.cps.toList := by
          unfold fmtOf
          rw [← hyl, hfl, hwi, hpr, hz5, hz4, hz3, hz2, hz]
        by_cases h5 : z5.cps.toList = []
        · -- the end of the text: None
          rw [h5] at hfmt
          have hg := rdg_bad h37 hfmt
          have hz5e : z5 = ⟨#[]⟩ := str_eq_iff.mpr h5
          subst hz5e
          refine wpAny_execs_cons ?_
          refine wpAny_mono (E := fun _ _ => False) (Q := fun f s' => f = .ret .none ∧ CutN (fun s' => StR s.heap s.heap.objs.size ((r, listOf items.toArray cnt) :: tl) [("rows", .ref r)] s s') .next s') ?_ ?_ (fun _ _ e => e.elim)
          · refine wpAny_mono (E := fun _ _ => False) (Q := fun f s' => CutN (fun s' => f = .ret .none ∧ StR s.heap s.heap.objs.size ((r, listOf items.toArray cnt) :: tl) [("rows", .ref r)] s s') .next s') ?_ (fun f s' q => ⟨q.2.1, rfl, q.2.2⟩) (fun _ _ e => e.elim)
            repeat' walk_at "go1"
            exact ⟨rfl, rfl, StR.mk' F11 N11 (by walk_at "mem") (by kst_all)⟩
          rintro f s' ⟨rfl, -, h12, tk12, m12, rfl, F12, N12⟩
          rw [hg] at he
          exact h _ _ _ F12.keep (fun _ => rfl) fun e => by rw [he] at e; cases e
        · obtain ⟨c, r5, hr5⟩ : ∃ c r5, z5.cps.toList = c :: r5 := by
            cases q : z5.cps.toList with
            | nil => exact absurd q h5
            | cons c r5 => exact ⟨c, r5, rfl⟩
          rw [hr5] at hfmt
          have hg := rdg_go h37 hfmt
          have hz5pos : 0 < z5.length := by rw [slen, hr5]; simp
          refine wpAny_execs_cons ?_
          refine wpAny_mono (E := fun _ _ => False) (Q := CutN fun s' => StR s.heap s.heap.objs.size ((r, listOf items.toArray cnt) :: tl) [("rows", .ref r), ("text", .str x t), ("before", .str b t1), ("rest", .str z5 tz5), ("key", kv), ("flags", .str fl tf), ("width", .str wi tw), ("precision", .str pr tp)] s s') ?_ ?_ (fun _ _ e => e.elim)
          · repeat' walk_at "go1"
            · rename (_ == Str.ofString "") = true => c1
              exact absurd c1 (by rw [emp, str_beq, hr5]; simp)
            · exact ⟨rfl, StR.mk' F11 N11 (by walk_at "mem") (by kst_all)⟩
          rintro f s' ⟨rfl, h12, tk12, m12, rfl, F12, N12⟩
          clear F11 N11
          dsimp only
          repeat' walk_at "go1"
          rename Fr _ _ _ _ => F'
          rename News _ _ _ _ => N'
          rename_i v1 tv1 hv1 v2 tv2 hv2 v3 tv3 hv3 hi D1 hh1 l1 D2 hh2 l2 hh3 hh4 t' k' ha hh5
          simp only [List.push_toArray] at N'
          have hsl : (Txt.slice z5 (some 1) none).cps.toList = r5 := by rw [sl_1n, lcps, hr5]; rfl
          have hit : Txt.item z5 0 = ⟨#[c]⟩ := by rw [item_0 _ hz5pos, hr5]; rfl
          rw [hit] at N'
          have hxl : (Txt.slice z5 (some 1) none).length < x.length := by
            have := fmtOf_len hfmt
            rw [slen, hsl, slen x]
            rw [List.length_drop] at this
            omega
          refine ⟨_, _, _, (r, listOf (items ++ [Value.ref D2]).toArray (cnt + 1)) :: (D2, { cls := .type "tuple", data := .seq #[.str b t1, .ref D1] }) :: (D1, { cls := .type "tuple", data := .seq #[kv, v1, v2, v3, .str ⟨#[c]⟩ (tv3 + 1)] }) :: tl, _, rfl, F', fun p hp => N' p ?_, hxl, r, items ++ [Value.ref D2], cnt + 1, (D2, _) :: (D1, _) :: tl, ds ++ [Dat.tuple [.str ⟨(cut 37 x.cps.toList).toArray⟩, .tuple [(keyOf y.cps.toList).1, orNone fl.cps.toList, orNone wi.cps.toList, orNone pr.cps.toList, .str ⟨#[c]⟩]]], _, _, rfl, ?_, ?_, rfl, rfl, ?_, rfl, ?_⟩
          · rcases List.mem_cons.mp hp with hp | hp
            · exact List.mem_cons_of_mem _ (List.mem_cons_of_mem _ (hp ▸ List.mem_cons_self))
            · rcases List.mem_cons.mp hp with hp | hp
              · exact hp ▸ List.mem_cons_self
              · rcases List.mem_cons.mp hp with hp | hp
                · exact List.mem_cons_of_mem _ (hp ▸ List.mem_cons_self)
                · exact List.mem_cons_of_mem _ (List.mem_cons_of_mem _ (List.mem_cons_of_mem _ hp))
          · intro p hp q hq
            rw [List.mem_singleton.mp hq]
            rcases List.mem_cons.mp hp with hp | hp
            · rw [hp]
              exact news_ne N' List.mem_cons_self (List.mem_cons_of_mem _ (List.mem_cons_of_mem _ (List.mem_cons_self))) (by simp)
            · rcases List.mem_cons.mp hp with hp | hp
              · rw [hp]
                exact news_ne N' (List.mem_cons_of_mem _ List.mem_cons_self) (List.mem_cons_of_mem _ (List.mem_cons_of_mem _ (List.mem_cons_self))) (by simp)
              · exact hoff p hp r (List.mem_singleton.mpr rfl)
          · have nn : ∀ (l : List (Addr × Obj)), ∀ p ∈ ([] : List (Addr × Obj)), p ∈ l := fun l p hp => nomatch hp
            refine DatAll.append (hds.mono (by walk_at "mem")) (.one ?_)
            refine .tuple (n := 0) List.mem_cons_self (.cons (hb ▸ .str b t1) (.cons ?_ .nil))
            refine .tuple (n := 0) (List.mem_cons_of_mem _ List.mem_cons_self) (.cons (hkv.mono (nn _)) (.cons (DatIn.mono (nn _) (by assumption)) (.cons (DatIn.mono (nn _) (by assumption)) (.cons (DatIn.mono (nn _) (by assumption)) (.cons (.str _ _) .nil)))))
          · simp only [List.length_append, List.length_cons, List.length_nil]; omega
          · rw [he, hg, hsl]
            simp
      · rw [if_neg h37] at F2
        dsimp only at F2
        repeat' walk_at "go1"
        rename News _ _ _ _ => N'
        rename Fr _ _ _ _ => F'
        have hg := rdg_last hxne h37
        rw [hg] at he
        have hl := hds.length
        refine h _ _ _ F'.keep (fun e => ?_) fun e => ⟨_, (items ++ [_]).toArray, 0, _, rfl, fun p hp => ⟨(N' p hp).1, (N' p hp).2.2⟩, List.mem_cons_self, ?_⟩
        · rw [he] at e; cases e
        · rw [he]
          refine DatAll.append (hds.mono (by walk_at "mem")) (.one ?_)
          refine .tuple (n := 0) (List.mem_cons_of_mem _ (List.mem_cons_of_mem _ List.mem_cons_self)) (.cons ?_ (.cons .none .nil))
          have : x = ⟨x.cps.toList.toArray⟩ := by simp
          rw [← this]
          exact .str x t1
    · rename_i hne
      have hx0 : x.cps.toList = [] := by
        rw [emp, str_bne] at hne
        simpa using hne
      repeat' walk_at "go1"
      rw [hx0, rdg_nil, List.append_nil] at he
      refine h _ _ _ F.keep (fun e => ?_) fun e => ⟨_, items.toArray, cnt, _, rfl, fun p hp => ⟨(N p hp).1, (N p hp).2.2⟩, List.mem_cons_self, ?_⟩
      · rw [he] at e; cases e
      · rw [he]
        exact hds.mono (by walk_at "mem")
  · passes_own
end Mine
end

section
open PySem PySem.W PyProof.Rows PySem.Calls
namespace Mine
theorem drop_take1 (l : List Nat) (k : Nat) : (l.take (k + 1)).drop k = (l.drop k).take 1 := by
  rw [List.drop_take]; congr 1; omega
theorem sl_kk1 (x : Str) (k : Nat) : Txt.slice x (some (k : Int)) (some ((k : Int) + 1)) = ⟨((x.cps.toList.drop k).take 1).toArray⟩ := by
  rw [show ((k : Int) + 1) = ((k + 1 : Nat) : Int) by omega, sl_ss, drop_take1]
theorem sl_k1k2 (x : Str) (k : Nat) : Txt.slice x (some ((k : Int) + 1)) (some ((k : Int) + 2)) = ⟨((x.cps.toList.drop (k + 1)).take 1).toArray⟩ := by
  rw [show ((k : Int) + 1) = ((k + 1 : Nat) : Int) by omega, show ((k : Int) + 2) = ((k + 1 + 1 : Nat) : Int) by omega, sl_ss, drop_take1]
theorem sl_kn (x : Str) (k n : Nat) : Txt.slice x (some (k : Int)) (some ((k : Int) + (n : Int))) = ⟨((x.cps.toList.drop k).take n).toArray⟩ := by
  rw [show ((k : Int) + (n : Int)) = ((k + n : Nat) : Int) by omega, sl_ss, List.drop_take]
  congr 3; omega
theorem sl_k1 (x : Str) (k : Nat) {e : Int} (n : Nat) (he : e = ((k + 1 + n : Nat) : Int)) : Txt.slice x (some ((k : Int) + 1)) (some e) = ⟨(((x.cps.toList.drop k).drop 1).take n).toArray⟩ := by
  rw [he, show ((k : Int) + 1) = ((k + 1 : Nat) : Int) by omega, sl_ss, List.drop_take, List.drop_drop]
  congr 3; omega
theorem kseg_find {x : Str} {k : Nat} : Txt.find (Txt.slice x (some (k : Int)) none) (Str.ofString ")") = if 41 ∈ x.cps.toList.drop k then (((cut 41 (x.cps.toList.drop k)).length : Nat) : Int) else -1 := by
  rw [rpar, find_one, sl_sn, lcps]
theorem end_val {x : Str} {k : Nat} (h : (x.cps.toList.drop k).take 1 = [40]) :
    (k : Int) + Txt.find (Txt.slice x (some (k : Int)) none) (Str.ofString ")") = if 41 ∈ (x.cps.toList.drop k).drop 1 then ((k + 1 + (cut 41 ((x.cps.toList.drop k).drop 1)).length : Nat) : Int) else (k : Int) - 1 := by
  rw [kseg_find]
  have e := take1 h
  generalize (x.cps.toList.drop k).drop 1 = r at *
  rw [e]
  have c : cut 41 (40 :: r) = 40 :: cut 41 r := by
    unfold cut; rw [List.takeWhile_cons_of_pos (by decide)]
  rw [c]
  by_cases q : 41 ∈ r
  · rw [if_pos (List.mem_cons_of_mem _ q), if_pos q, List.length_cons]; omega
  · rw [if_neg (by simp [q]), if_neg q]; rfl
theorem take_drop_len {l : List Nat} {k n : Nat} (h : (l.drop k).take n ≠ []) : k < l.length := by
  rcases Nat.lt_or_ge k l.length with q | q
  · exact q
  · exfalso; apply h; rw [List.drop_of_length_le q]; simp
theorem in_drop {l : List Nat} {k n : Nat} {c : Nat} (h : l[k + n]? = some c) : (l.drop k)[n]? = some c := by rw [List.getElem?_drop]; exact h
theorem cut_cons {c a : Nat} {r : List Nat} (h : a ≠ c) : cut c (a :: r) = a :: cut c r := by
  unfold cut; rw [List.takeWhile_cons_of_pos (by simpa using h)]
/-- `s[j:j+n] or None` -/
theorem datOr' {z : Str} {l : List Nat} {t : Tok} (hz : z = ⟨l.toArray⟩) (h : (z != Str.empty) = true) : DatIn [] (.str z t) (orNone l) := by
  subst hz
  have : l ≠ [] := by rintro rfl; exact absurd h (by decide)
  unfold orNone; rw [if_neg this]; exact .str _ _
theorem datNone' {z : Str} {l : List Nat} (hz : z = ⟨l.toArray⟩) (h : (z != Str.empty) = false) : DatIn [] .none (orNone l) := by
  subst hz
  have : l = [] := by
    have := eq_of_beq (show ((⟨l.toArray⟩ : Str) == Str.empty) = true by simpa [bne] using h)
    simpa using str_eq_iff.mp this
  unfold orNone; rw [if_pos this]; exact .none
theorem dot_lt {x : Str} {k : Nat} {c : Nat} (h : (Txt.slice x (some (k : Int)) (some ((k : Int) + 1)) == (⟨#[c]⟩ : Str)) = true) : (k : Int) + 1 ≤ x.length := by
  rw [sl_kk1, str_beq] at h
  have : (x.cps.toList.drop k).take 1 = [c] := by simpa using h
  have := take_drop_len (l := x.cps.toList) (k := k) (n := 1) (by rw [this]; simp)
  rw [slen]; omega
theorem dot_lt' {x : Str} {k : Nat} (h : (Txt.slice x (some (k : Int)) (some ((k : Int) + 1)) == Str.ofString ".") = true) : (k : Int) + 1 ≤ x.length := by
  rw [dotc] at h; exact dot_lt h
theorem datOrL {z : Str} {l : List Nat} {t : Tok} (hz : z = ⟨l.toArray⟩) (h : (z.length : Int) ≠ 0) : DatIn [] (.str z t) (orNone l) := by
  subst hz
  have : l ≠ [] := by rintro rfl; exact h rfl
  unfold orNone; rw [if_neg this]; exact .str _ _
theorem datNoneL {z : Str} {l : List Nat} (hz : z = ⟨l.toArray⟩) (h : (z.length : Int) = 0) : DatIn [] .none (orNone l) := by
  subst hz
  have : l = [] := by
    rw [slen, lcps] at h
    exact List.length_eq_zero_iff.mp (by omega)
  unfold orNone; rw [if_pos this]; exact .none
theorem drop_nat (x : Str) (j n : Nat) : x.cps.toList.drop (j + n) = (x.cps.toList.drop j).drop n := by rw [List.drop_drop]
theorem widOf_star {z : List Nat} (h : z.take 1 = [42]) : widOf z = (z.take 1, z.drop 1) := by unfold widOf; rw [if_pos h, h]
theorem widOf_dig {z : List Nat} (h : z.take 1 ≠ [42]) : widOf z = (z.take (pastN DG z), z.drop (pastN DG z)) := by unfold widOf; rw [if_neg h]
theorem precOf_star {z : List Nat} (h : z.take 1 = [46]) (h2 : (z.drop 1).take 1 = [42]) : precOf z = (z.take 2, z.drop 2) := by
  have e := take1 h
  generalize z.drop 1 = r at *
  have e2 := take1 h2
  generalize r.drop 1 = q at *
  subst e2; subst e
  rfl
theorem precOf_dig {z : List Nat} (h : z.take 1 = [46]) (h2 : (z.drop 1).take 1 ≠ [42]) : precOf z = (z.take (1 + pastN DG (z.drop 1)), z.drop (1 + pastN DG (z.drop 1))) := by
  have e := take1 h
  generalize z.drop 1 = r at *
  subst e
  unfold precOf
  have : (46 :: r).take 2 ≠ [46, 42] := by
    intro q; apply h2; simpa using q
  rw [if_neg this, if_pos h, Nat.add_comm 1]
  rfl
theorem precOf_no {z : List Nat} (h : z.take 1 ≠ [46]) : precOf z = (z.take 0, z.drop 0) := by
  unfold precOf
  have : z.take 2 ≠ [46, 42] := by
    intro q; apply h
    cases z with
    | nil => cases q
    | cons a r => simp at q; simp [q.1]
  rw [if_neg this, if_neg h]; rfl
theorem lenOf_pos {z : List Nat} (h : z.take 1 = [104] ∨ z.take 1 = [108] ∨ z.take 1 = [76]) : lenOf z = z.drop 1 ∧ 0 < z.length := by
  refine ⟨by unfold lenOf; rw [if_pos h], ?_⟩
  cases z with
  | nil => simp at h
  | cons a r => simp
theorem lenOf_neg {z : List Nat} (h : ¬ (z.take 1 = [104] ∨ z.take 1 = [108] ∨ z.take 1 = [76])) : lenOf z = z := by unfold lenOf; rw [if_neg h]
theorem len_anyG {z : Str} {a : List Nat} (e : z = ⟨a.toArray⟩) : ([Str.ofString "h", Str.ofString "l", Str.ofString "L"].any fun x => x == z) = decide (a = [104] ∨ a = [108] ∨ a = [76]) := by
  subst e
  rw [hc, lc, Lc, Bool.eq_iff_iff]
  simp only [List.any_cons, List.any_nil, Bool.or_false, Bool.or_eq_true, beq_iff_eq, decide_eq_true_eq]
  have e : ∀ (c : Nat) (l : List Nat), ((⟨#[c]⟩ : Str) = ⟨l.toArray⟩) ↔ l = [c] := fun c l => by
    rw [eq_comm, str_eq_iff]
  rw [e, e, e]
end Mine
end

section
open PySem PySem.W PyProof.Rows PySem.Calls
namespace Mine
theorem fill_G1 : PySem.Challenge.rw_bp0016_01.Holds → ∀ P h, (hd.heap_39 P).In h → True := by
  k_fill
  intros; trivial
local macro_rules | `(tactic| walk_at "go1") => `(tactic| first | (k_unfold; (try dsimp only)) | walk1 | (dsimp only; walk1))
local macro_rules | `(tactic| walk_at "mem") => `(tactic| (intro p hp; repeat (first | exact hp | refine List.mem_cons_of_mem _ ?_)))

local macro_rules | `(tactic| walk_at "pad") => `(tactic| skip)
noncomputable def innerSt (P : Params) : Option Stmt := match (hd.heap_39 P).lookup 28 with
  | some ⟨_, _, .func fd, _⟩ => (match fd.body with | .stmts (st :: _) => some st | _ => none)
  | _ => none

section
variable {M : Model} {A : Around} {E : Value → Shared → Prop} {s : Shared} {h₀ : Heap} {L a c : Addr} {m : Str → Option Value} {cn : Str} {cs : Scope} {ccd : Value} {cl : List (Str × Addr)} {y : Str} {pos : Pos} {v : Value} {Q : Value → Shared → Prop} {oc : Obj}
theorem nameX_G (F : Fr h₀ L s.heap m) (hc : cl.lookup y = some c) (hv : h₀.get? c = some oc) (hd : oc.data = .cell (some v)) (h : Q v s)
    (hk : cs.kind = .function := by rfl) (hx : (envX cn cs L a ccd cl).kindOf y = some .free := by rfl) (hb : (y == ("__debug__" : Str)) = false := by decide) (hn : (y == ("__classdict__" : Str)) = false := by decide) :
    wpAny M A (eval (.Name y pos) (envX cn cs L a ccd cl)) Q E s := wpAny_Name (wpAny_loadName_free hk hx hc ⟨_, F.keep _ _ hv, hd⟩ h hn) hb
theorem ldnX {x : Str} (F : Fr h₀ L s.heap m) (hv : m x = some v) (h : Q v s)
    (hk : cs.kind = .function := by rfl) (hl : (envX cn cs L a ccd cl).kindOf x = some .local := by rfl) :
    wpAny M A (loadName (envX cn cs L a ccd cl) x) Q E s := wpAny_loadName_local hk hl F.ns hv h
end
local macro_rules | `(tactic| walk_at "loadName") => `(tactic| refine ldnX (by assumption) (by rfl) ?_)
local macro_rules | `(tactic| walk_at "eval Name") => `(tactic| (refine nameX_G (by assumption) (by with_unfolding_all rfl) (by assumption) (by assumption) ?_ (by with_unfolding_all rfl) (by with_unfolding_all rfl)))
local macro_rules | `(tactic| walk_at "call ref") => `(tactic| ((with_reducible show wpAny _ _ (call (Value.ref 21) [Value.str _ _, Value.int _ _, Value.str _ _]) _ _ _); refine past_callN (by assumption) (by assumption) (by assumption) (by assumption) (by assumption) (by omega) (by first | omega | exact dot_lt' (by assumption)) (by omega) ?_; intro h' tk' t' F' N'))

set_option maxHeartbeats 1000000 in
theorem blk1 {prog : Program} {w : World} {A : Around} {s : Shared}
    {loose : List Str} {mean : ExcName → Option Value} {mg mb : Str → Option Value} {h₀ : Heap} {L a c : Addr} {cd : Value} {oc : Obj} {x : Str} {t : Tok} {led : List (Addr × Obj)} {m : Str → Option Value} {k : Nat} {ti : Tok} {v1 v2 v3 : Value}
    {nm qual : Str} {prm : Arguments} {a1 a2 a3 a4 : Stmt} {test c1 : Expr} {b1 rest wr last : List Stmt} {s1 s2 s3 s4 s5 s6 s7 s8 s9 s10 : Stmt} {p1 pw ps : Pos} {wo : List Stmt} {dec : List Expr} {ret : Option Expr} {tp : List TypeParam} {scope : Scope} {ts : Option Scope} {bd : Str}
    (hb : innerSt w.params = some (.FunctionDef nm prm (a1 :: a2 :: a3 :: a4 :: .While test (.If c1 b1 (s1 :: s2 :: s3 :: s4 :: s5 :: s6 :: s7 :: s8 :: s9 :: s10 :: rest) p1 :: wr) wo pw :: last) dec ret tp scope ts bd ps))
    (X : (hd.heap_39 w.params).In h₀) (T : Top topProg loose mean mg mb h₀) (hroom : A.depth < recursionLimit) (hh : A.handled = none)
    (hoc : h₀.get? c = some oc) (hod : oc.data = .cell (some (.str x t))) (hx : x.length ≤ 1000) (hk : k ≤ x.length)
    (F : Fr h₀ L s.heap (kstB m [("string_start", v1), ("string_end", v2), ("in_fmt", v3), ("i", .int (k : Nat) ti)])) (N : News h₀ L s.heap led) :
    wpAny (model prog w) A (execs [s1, s2, s3, s4, s5, s6, s7, s8, s9, s10] (envX qual scope L a cd [("s", c)]))
      (CutN fun s' => ∃ (j : Nat) (tj : Tok) (kv fv wv pv : Value) (kd : Dat) (fl wd pr : List Nat), j ≤ x.length ∧ DatIn [] kv kd ∧ DatIn [] fv (orNone fl) ∧ DatIn [] wv (orNone wd) ∧ DatIn [] pv (orNone pr) ∧
        fmtOf (x.cps.toList.drop k) = endOf kd fl wd pr (x.cps.toList.drop j) ∧
        StR h₀ L led [("string_start", v1), ("string_end", v2), ("in_fmt", v3), ("i", .int (j : Nat) tj), ("key", kv), ("conversion_flag", fv), ("width", wv), ("precision", pv)] s s') (fun _ _ => False) s := by
  rw [show innerSt w.params = some _ from rfl] at hb
  cases hb
  obtain ⟨ah, ad, af, ag, au⟩ := A
  obtain rfl : ah = none := hh

  refine wpAny_execs_cons ?_
  refine wpAny_mono (E := fun _ _ => False) (Q := CutN fun s' => ∃ (e1 : Int) (te : Tok), e1 = (k : Int) + Txt.find (Txt.slice x (some (k : Int)) none) (Str.ofString ")") ∧ StR h₀ L led ([("string_start", v1), ("string_end", v2), ("in_fmt", v3), ("i", .int (k : Nat) ti), ("end", .int e1 te)]) s s') ?_ ?_ (fun _ _ e => e.elim)
  · repeat' walk_at "go1"
    rename Fr _ _ _ _ => F'
    rename News _ _ _ _ => N'
    exact ⟨rfl, _, _, rfl, StR.mk' F' N' (by walk_at "mem") (by kst_all)⟩
  rintro f s' ⟨rfl, e1, te, he1, h2, tk2, m2, rfl, F2, N2⟩
  clear F N
  dsimp only
  refine wpAny_execs_cons ?_
  refine wpAny_mono (E := fun _ _ => False) (Q := CutN fun s' => ∃ (j : Nat) (tj : Tok) (kv : Value), j ≤ x.length ∧ x.cps.toList.drop j = (keyOf (x.cps.toList.drop k)).2 ∧ DatIn [] kv (keyOf (x.cps.toList.drop k)).1 ∧ StR h₀ L led ([("string_start", v1), ("string_end", v2), ("in_fmt", v3), ("i", .int (j : Nat) tj), ("key", kv)]) s s') ?_ ?_ (fun _ _ e => e.elim)
  · repeat' walk_at "go1"
    all_goals (rename Fr _ _ _ _ => F'; rename News _ _ _ _ => N')
    · rename (_ == Str.ofString "(") = true => c1
      rename List.isEmpty _ = true => c3
      rename (k : Int) < e1 => c2
      rw [sl_kk1, lpar, str_beq] at c1
      have d1 : (x.cps.toList.drop k).take 1 = [40] := by simpa using c1
      rw [end_val d1] at he1
      by_cases d2 : 41 ∈ (x.cps.toList.drop k).drop 1
      · rw [if_pos d2] at he1
        have hsl := sl_k1 x k _ he1
        rw [cut_take] at hsl
        rw [hsl] at F' c3
        rw [lpar, in_str, lcps] at c3
        have d3 : 40 ∉ cut 41 ((x.cps.toList.drop k).drop 1) := by simpa using c3
        rw [keyOf_pos d1 d2 d3]
        have hl := cut_length_lt d2
        have e2 : e1 + 1 = ((k + 1 + (cut 41 ((x.cps.toList.drop k).drop 1)).length + 1 : Nat) : Int) := by omega
        rw [e2] at F'
        refine ⟨rfl, k + 1 + (cut 41 ((x.cps.toList.drop k).drop 1)).length + 1, _, .str ⟨(cut 41 ((x.cps.toList.drop k).drop 1)).toArray⟩ _, ?_, ?_, .str _ _, StR.mk' F' N' (by walk_at "mem") (by kst_all)⟩
        · rw [slen]; simp only [List.length_drop] at hl; omega
        · simp only [List.drop_drop]; congr 1
      · rw [if_neg d2] at he1; omega
    · rename (_ == Str.ofString "(") = true => c1
      rename List.isEmpty _ = false => c3
      rename (k : Int) < e1 => c2
      rw [sl_kk1, lpar, str_beq] at c1
      have d1 : (x.cps.toList.drop k).take 1 = [40] := by simpa using c1
      rw [end_val d1] at he1
      by_cases d2 : 41 ∈ (x.cps.toList.drop k).drop 1
      · rw [if_pos d2] at he1
        have hsl := sl_k1 x k _ he1
        rw [cut_take] at hsl
        rw [hsl] at c3
        rw [lpar, in_str, lcps] at c3
        have d3 : 40 ∈ cut 41 ((x.cps.toList.drop k).drop 1) := by simpa using c3
        rw [keyOf_neg (l := x.cps.toList.drop k) (by rintro ⟨_, q⟩; exact q d3)]
        exact ⟨rfl, k, _, _, hk, rfl, .none, StR.mk' F' N' (by walk_at "mem") (by kst_all)⟩
      · rw [if_neg d2] at he1; omega
    · rename (_ == Str.ofString "(") = true => c1
      rename ¬ ((k : Int) < e1) => c2
      rw [sl_kk1, lpar, str_beq] at c1
      have d1 : (x.cps.toList.drop k).take 1 = [40] := by simpa using c1
      rw [end_val d1] at he1
      have d2 : 41 ∉ (x.cps.toList.drop k).drop 1 := fun q => by rw [if_pos q] at he1; omega
      rw [keyOf_neg (l := x.cps.toList.drop k) (by rintro ⟨q, _⟩; exact d2 q)]
      exact ⟨rfl, k, _, _, hk, rfl, .none, StR.mk' F' N' (by walk_at "mem") (by kst_all)⟩
    · rename (_ == Str.ofString "(") = false => c1
      rw [sl_kk1, lpar, str_beq] at c1
      have d1 : (x.cps.toList.drop k).take 1 ≠ [40] := by simpa using c1
      rw [keyOf_none d1]
      exact ⟨rfl, k, _, _, hk, rfl, .none, StR.mk' F' N' (by walk_at "mem") (by kst_all)⟩
  rintro f s' ⟨rfl, j, tj, kv, hj, hkj, hkv, h3, tk3, m3, rfl, F3, N3⟩
  clear F2 N2
  dsimp only
  refine wpAny_execs_cons ?_
  refine wpAny_mono (E := fun _ _ => False) (Q := CutN fun s' => ∃ (e : Nat) (te : Tok), e ≤ x.length ∧ x.cps.toList.drop e = (x.cps.toList.drop j).drop (pastN FL (x.cps.toList.drop j)) ∧ Txt.slice x (some (j : Int)) (some (e : Int)) = ⟨((x.cps.toList.drop j).take (pastN FL (x.cps.toList.drop j))).toArray⟩ ∧ StR h₀ L led ([("string_start", v1), ("string_end", v2), ("in_fmt", v3), ("i", .int (j : Nat) tj), ("key", kv), ("end", .int (e : Nat) te)]) s s') ?_ ?_ (fun _ _ e => e.elim)
  · repeat' walk_at "go1"
    rename Fr _ _ _ _ => F'
    rename News _ _ _ _ => N'
    rw [FL_eq, Int.toNat_natCast] at F'
    have hpl := pastN_le FL (x.cps.toList.drop j)
    rw [List.length_drop, ← slen] at hpl
    have e9 : ((j : Int) + (pastN FL (x.cps.toList.drop j) : Nat)) = ((j + pastN FL (x.cps.toList.drop j) : Nat) : Int) := rfl
    have hsl := sl_kn x j (pastN FL (x.cps.toList.drop j))
    rw [e9] at F' hsl
    exact ⟨rfl, _, _, by omega, drop_nat .., hsl, StR.mk' F' N' (by walk_at "mem") (by kst_all)⟩
  rintro f s' ⟨rfl, e2, te2, he2, hd2, hs2, h4, tk4, m4, rfl, F4, N4⟩
  clear F3 N3
  dsimp only
  refine wpAny_execs_cons ?_
  refine wpAny_mono (E := fun _ _ => False) (Q := CutN fun s' => ∃ (ti' : Tok) (nv' : Value), DatIn [] nv' (orNone ((x.cps.toList.drop j).take (pastN FL (x.cps.toList.drop j)))) ∧ StR h₀ L led ([("string_start", v1), ("string_end", v2), ("in_fmt", v3), ("i", .int (e2 : Nat) ti'), ("key", kv), ("conversion_flag", nv')]) s s') ?_ ?_ (fun _ _ e => e.elim)
  · repeat' walk_at "go1"
    all_goals (rename Fr _ _ _ _ => F'; rename News _ _ _ _ => N')
    · rename ((_ : Nat) : Int) ≠ 0 => c1
      exact ⟨rfl, _, _, datOrL hs2 c1, StR.mk' F' N' (by walk_at "mem") (by kst_all)⟩
    · rename ((_ : Nat) : Int) = 0 => c1
      exact ⟨rfl, _, _, datNoneL hs2 c1, StR.mk' F' N' (by walk_at "mem") (by kst_all)⟩
  rintro f s' ⟨rfl, tj2, fv, hfv, h5, tk5, m5, rfl, F5, N5⟩
  clear F4 N4
  dsimp only
  refine wpAny_execs_cons ?_
  refine wpAny_mono (E := fun _ _ => False) (Q := CutN fun s' => ∃ (e : Nat) (te : Tok), e ≤ x.length ∧ x.cps.toList.drop e = (widOf (x.cps.toList.drop e2)).2 ∧ Txt.slice x (some (e2 : Int)) (some (e : Int)) = ⟨((widOf (x.cps.toList.drop e2)).1).toArray⟩ ∧ StR h₀ L led ([("string_start", v1), ("string_end", v2), ("in_fmt", v3), ("i", .int (e2 : Nat) tj2), ("key", kv), ("conversion_flag", fv), ("end", .int (e : Nat) te)]) s s') ?_ ?_ (fun _ _ e => e.elim)
  · repeat' walk_at "go1"
    all_goals (rename Fr _ _ _ _ => F'; rename News _ _ _ _ => N')
    · rename (_ == Str.ofString "*") = true => c1
      rw [sl_kk1, star, str_beq] at c1
      have d1 : (x.cps.toList.drop e2).take 1 = [42] := by simpa using c1
      rw [widOf_star d1]
      have hlt := take_drop_len (l := x.cps.toList) (k := e2) (n := 1) (by rw [d1]; simp)
      rw [← slen] at hlt
      have hsl := sl_kn x e2 (1)
      have e9 : ((e2 : Int) + 1) = ((e2 + (1) : Nat) : Int) := by omega
      have e7 : ((e2 : Int) + ((1 : Nat) : Int)) = ((e2 + (1) : Nat) : Int) := by omega
      rw [e9] at F'
      rw [e7] at hsl
      exact ⟨rfl, _, _, by omega, drop_nat .., hsl, StR.mk' F' N' (by walk_at "mem") (by kst_all)⟩
    · rename (_ == Str.ofString "*") = false => c1
      rw [sl_kk1, star, str_beq] at c1
      have d1 : (x.cps.toList.drop e2).take 1 ≠ [42] := by simpa using c1
      rw [widOf_dig d1]
      have hpl := pastN_le DG (x.cps.toList.drop e2)
      rw [List.length_drop, ← slen] at hpl
      rw [DG_eq, Int.toNat_natCast] at F'
      have hsl := sl_kn x e2 (pastN DG (x.cps.toList.drop e2))
      have e9 : ((e2 : Int) + (pastN DG (x.cps.toList.drop e2) : Nat)) = ((e2 + (pastN DG (x.cps.toList.drop e2)) : Nat) : Int) := by omega
      have e7 : ((e2 : Int) + ((pastN DG (x.cps.toList.drop e2) : Nat) : Int)) = ((e2 + (pastN DG (x.cps.toList.drop e2)) : Nat) : Int) := by omega
      rw [e9] at F'
      rw [e7] at hsl
      exact ⟨rfl, _, _, by omega, drop_nat .., hsl, StR.mk' F' N' (by walk_at "mem") (by kst_all)⟩

  rintro f s' ⟨rfl, e3, te3, he3, hd3, hs3, h6, tk6, m6, rfl, F6, N6⟩
  clear F5 N5
  dsimp only
  refine wpAny_execs_cons ?_
  refine wpAny_mono (E := fun _ _ => False) (Q := CutN fun s' => ∃ (ti' : Tok) (nv' : Value), DatIn [] nv' (orNone ((widOf (x.cps.toList.drop e2)).1)) ∧ StR h₀ L led ([("string_start", v1), ("string_end", v2), ("in_fmt", v3), ("i", .int (e3 : Nat) ti'), ("key", kv), ("conversion_flag", fv), ("width", nv')]) s s') ?_ ?_ (fun _ _ e => e.elim)
  · repeat' walk_at "go1"
    all_goals (rename Fr _ _ _ _ => F'; rename News _ _ _ _ => N')
    · rename ((_ : Nat) : Int) ≠ 0 => c1
      exact ⟨rfl, _, _, datOrL hs3 c1, StR.mk' F' N' (by walk_at "mem") (by kst_all)⟩
    · rename ((_ : Nat) : Int) = 0 => c1
      exact ⟨rfl, _, _, datNoneL hs3 c1, StR.mk' F' N' (by walk_at "mem") (by kst_all)⟩
  rintro f s' ⟨rfl, tj3, wv, hwv, h7, tk7, m7, rfl, F7, N7⟩
  clear F6 N6
  dsimp only
  refine wpAny_execs_cons ?_
  refine wpAny_mono (E := fun _ _ => False) (Q := CutN fun s' => ∃ (te : Tok), StR h₀ L led ([("string_start", v1), ("string_end", v2), ("in_fmt", v3), ("i", .int (e3 : Nat) tj3), ("key", kv), ("conversion_flag", fv), ("width", wv), ("end", .int (e3 : Nat) te)]) s s') ?_ ?_ (fun _ _ e => e.elim)
  · repeat' walk_at "go1"
    rename Fr _ _ _ _ => F'
    rename News _ _ _ _ => N'
    exact ⟨rfl, _, StR.mk' F' N' (by walk_at "mem") (by kst_all)⟩
  rintro f s' ⟨rfl, te3', h8, tk8, m8, rfl, F8, N8⟩
  clear F7 N7
  dsimp only
  refine wpAny_execs_cons ?_
  refine wpAny_mono (E := fun _ _ => False) (Q := CutN fun s' => ∃ (e : Nat) (te : Tok), e ≤ x.length ∧ x.cps.toList.drop e = (precOf (x.cps.toList.drop e3)).2 ∧ Txt.slice x (some (e3 : Int)) (some (e : Int)) = ⟨((precOf (x.cps.toList.drop e3)).1).toArray⟩ ∧ StR h₀ L led ([("string_start", v1), ("string_end", v2), ("in_fmt", v3), ("i", .int (e3 : Nat) tj3), ("key", kv), ("conversion_flag", fv), ("width", wv), ("end", .int (e : Nat) te)]) s s') ?_ ?_ (fun _ _ e => e.elim)
  · repeat' walk_at "go1"
    all_goals (rename Fr _ _ _ _ => F'; rename News _ _ _ _ => N')
    · rename (_ == Str.ofString ".") = true => c1
      rename (_ == Str.ofString "*") = true => c2
      rw [sl_kk1, dotc, str_beq] at c1
      rw [sl_k1k2, star, str_beq, drop_nat] at c2
      have d1 : (x.cps.toList.drop e3).take 1 = [46] := by simpa using c1
      have d2 : ((x.cps.toList.drop e3).drop 1).take 1 = [42] := by simpa using c2
      rw [precOf_star d1 d2]
      have hlt := take_drop_len (l := x.cps.toList) (k := e3 + 1) (n := 1) (by rw [drop_nat, d2]; simp)
      rw [← slen] at hlt
      have hsl := sl_kn x e3 (2)
      have e9 : ((e3 : Int) + 2) = ((e3 + (2) : Nat) : Int) := by omega
      have e7 : ((e3 : Int) + ((2 : Nat) : Int)) = ((e3 + (2) : Nat) : Int) := by omega
      rw [e9] at F'
      rw [e7] at hsl
      exact ⟨rfl, _, _, by omega, drop_nat .., hsl, StR.mk' F' N' (by walk_at "mem") (by kst_all)⟩
    · rename (_ == Str.ofString ".") = true => c1
      rename (_ == Str.ofString "*") = false => c2
      rw [sl_kk1, dotc, str_beq] at c1
      rw [sl_k1k2, star, str_beq, drop_nat] at c2
      have d1 : (x.cps.toList.drop e3).take 1 = [46] := by simpa using c1
      have d2 : ((x.cps.toList.drop e3).drop 1).take 1 ≠ [42] := by simpa using c2
      rw [precOf_dig d1 d2]
      have hlt := take_drop_len (l := x.cps.toList) (k := e3) (n := 1) (by rw [d1]; simp)
      rw [← slen] at hlt
      have hpl := pastN_le DG ((x.cps.toList.drop e3).drop 1)
      rw [List.length_drop, List.length_drop, ← slen] at hpl
      have e6 : ((e3 : Int) + 1).toNat = e3 + 1 := by omega
      rw [DG_eq, e6, drop_nat] at F'
      have hsl := sl_kn x e3 (1 + pastN DG ((x.cps.toList.drop e3).drop 1))
      have e9 : ((e3 : Int) + 1 + (pastN DG ((x.cps.toList.drop e3).drop 1) : Nat)) = ((e3 + (1 + pastN DG ((x.cps.toList.drop e3).drop 1)) : Nat) : Int) := by omega
      have e7 : ((e3 : Int) + ((1 + pastN DG ((x.cps.toList.drop e3).drop 1) : Nat) : Int)) = ((e3 + (1 + pastN DG ((x.cps.toList.drop e3).drop 1)) : Nat) : Int) := by omega
      rw [e9] at F'
      rw [e7] at hsl
      exact ⟨rfl, _, _, by omega, drop_nat .., hsl, StR.mk' F' N' (by walk_at "mem") (by kst_all)⟩
    · rename (_ == Str.ofString ".") = false => c1
      rw [sl_kk1, dotc, str_beq] at c1
      have d1 : (x.cps.toList.drop e3).take 1 ≠ [46] := by simpa using c1
      rw [precOf_no d1]
      have hsl := sl_kn x e3 0
      have e7 : ((e3 : Int) + ((0 : Nat) : Int)) = ((e3 : Nat) : Int) := by omega
      rw [e7] at hsl
      exact ⟨rfl, e3, _, he3, rfl, hsl, StR.mk' F' N' (by walk_at "mem") (by kst_all)⟩
  rintro f s' ⟨rfl, e4, te4, he4, hd4, hs4, h9, tk9, m9, rfl, F9, N9⟩
  clear F8 N8
  dsimp only
  refine wpAny_execs_cons ?_
  refine wpAny_mono (E := fun _ _ => False) (Q := CutN fun s' => ∃ (ti' : Tok) (nv' : Value), DatIn [] nv' (orNone ((precOf (x.cps.toList.drop e3)).1)) ∧ StR h₀ L led ([("string_start", v1), ("string_end", v2), ("in_fmt", v3), ("i", .int (e4 : Nat) ti'), ("key", kv), ("conversion_flag", fv), ("width", wv), ("precision", nv')]) s s') ?_ ?_ (fun _ _ e => e.elim)
  · repeat' walk_at "go1"
    all_goals (rename Fr _ _ _ _ => F'; rename News _ _ _ _ => N')
    · rename ((_ : Nat) : Int) ≠ 0 => c1
      exact ⟨rfl, _, _, datOrL hs4 c1, StR.mk' F' N' (by walk_at "mem") (by kst_all)⟩
    · rename ((_ : Nat) : Int) = 0 => c1
      exact ⟨rfl, _, _, datNoneL hs4 c1, StR.mk' F' N' (by walk_at "mem") (by kst_all)⟩
  rintro f s' ⟨rfl, tj4, pv, hpv, h10, tk10, m10, rfl, F10, N10⟩
  clear F9 N9
  dsimp only
  refine wpAny_execs_cons ?_
  refine wpAny_mono (E := fun _ _ => False) (Q := CutN fun s' => ∃ (e : Nat) (te : Tok), e ≤ x.length ∧ x.cps.toList.drop e = lenOf (x.cps.toList.drop e4) ∧ StR h₀ L led ([("string_start", v1), ("string_end", v2), ("in_fmt", v3), ("i", .int (e : Nat) te), ("key", kv), ("conversion_flag", fv), ("width", wv), ("precision", pv)]) s s') ?_ ?_ (fun _ _ e => e.elim)
  · repeat' walk_at "go1"
    all_goals (rename Fr _ _ _ _ => F'; rename News _ _ _ _ => N')
    · rename List.any _ _ = true => c1
      have d1 := c1.symm.trans (len_anyG (sl_kk1 x e4))
      have d2 := of_decide_eq_true d1.symm
      obtain ⟨d3, d4⟩ := lenOf_pos d2
      rw [d3]
      rw [List.length_drop, ← slen] at d4
      have e9 : ((e4 : Int) + 1) = ((e4 + 1 : Nat) : Int) := rfl
      rw [e9] at F'
      exact ⟨rfl, _, _, by omega, drop_nat .., StR.mk' F' N' (by walk_at "mem") (by kst_all)⟩
    · rename List.any _ _ = false => c1
      have d1 := c1.symm.trans (len_anyG (sl_kk1 x e4))
      have d2 := of_decide_eq_false d1.symm
      rw [lenOf_neg d2]
      exact ⟨rfl, e4, _, he4, rfl, StR.mk' F' N' (by walk_at "mem") (by kst_all)⟩
  rintro f s' ⟨rfl, e5, te5, he5, hd5, h11, tk11, m11, rfl, F11, N11⟩
  clear F10 N10
  dsimp only
  exact wpAny_execs_nil ⟨rfl, e5, te5, kv, fv, wv, pv, (keyOf (x.cps.toList.drop k)).1, (x.cps.toList.drop j).take (pastN FL (x.cps.toList.drop j)), (widOf (x.cps.toList.drop e2)).1, (precOf (x.cps.toList.drop e3)).1, he5, hkv, hfv, hwv, hpv, by
    unfold fmtOf
    dsimp only
    rw [← hkj, ← hd2, ← hd3, ← hd4, hd5], StR.mk' F11 N11 (by walk_at "mem") (by kst_all)⟩
end Mine
end

section
open PySem PySem.W PyProof.Rows PySem.Calls
namespace Mine
theorem entry_unchain : entryFor table "proto.unchain" = some Builtin.«proto.unchain» := entryFor_of_fast (by kernel_rfl)
theorem plain_unchain : plainId "proto.unchain" = true := by decide +kernel

/-- an exception with a trace of its own and no context -/
def Exc2 (B : Heap) (fl : List Env) (e T : Addr) (cls : Value) (h : Heap) : Prop :=
  B.StaysIn h ∧ h.FunFrames B fl ∧ B.get? e = none ∧ ∃ oe vs oT ts, h.get? e = some oe ∧ oe.cls = cls ∧ oe.data = .fields vs ∧ vs[1]? = some (.ref T) ∧ vs[2]? = some .none ∧ B.get? T = none ∧ T ≠ e ∧ h.get? T = some oT ∧ oT.data = .fields ts ∧ 3 < ts.size

section
variable {M : Model} {A : Around} {E : Value → Shared → Prop} {s : Shared}
theorem note_first {B : Heap} {env : Env} {outer : List Env} {L e : Addr} {oe : Obj} {vs : Array Value} {Q : Unit → Shared → Prop}
    (hfr : A.frames = some (env :: outer)) (hl : s.heap.FunFrames B (env :: outer)) (hf : env.frame = some L)
    (he : s.heap.get? e = some oe) (hkb : B.StaysIn s.heap) (hen : B.get? e = none) (hd : oe.data = .fields vs) (h1 : vs[1]? = some .none) (h2 : vs[2]? = some .none)
    (h : ∀ h' T, Exc2 B (env :: outer) e T oe.cls h' → s.heap.UpToSlots h' → Q () { s with heap := h' }) : wpAny M A (noteFrame (.ref e) env) Q E s := by
  have hsz : 1 < vs.size := (Array.getElem?_eq_some_iff.mp h1).1
  have hene : e ∉ (env :: outer).filterMap (·.frame) := fun hm => by
    obtain ⟨_, o, ho, hnf⟩ := hl.mem hm
    rw [he] at ho; cases ho; exact hnf vs hd
  unfold noteFrame
  simp only [hf]
  refine wpAny_bind (wpAny_field he hd h1 ?_)
  rw [if_neg (by decide)]
  refine wpAny_bind (wpAny_frameOf_fun hfr hl hf fun h₁ hs₁ => ?_)
  refine wpAny_bind (wpAny_entryPlaceOf fun pl hpl => ?_)
  unfold EntryCells.newEntry newFields
  refine wpAny_bind (wpAny_newObj_type ?_ (hpl.sizeOk5 _ _ _ _ _))
  have he₁ : h₁.get? e = some oe := (hs₁.2.1 e hene).trans he
  have kb₁ : B.StaysIn h₁ := fun b o q => (hs₁.2.1 b fun hm => by rw [(hl.mem hm).1] at q; cases q).trans (hkb b o q)
  generalize hob : ({ cls := .type "traceback", dict := none, data := .fields ([Value.none, .ref L, .none, rawInt L, .none] ++ (if pl.isEmpty then List.replicate 6 Value.none else pl)).toArray } : Obj) = ob
  have he₂ := Heap.get?_push_of_some (h := h₁) ob he₁
  refine wpAny_setField he₂ hd hsz ?_
  have hTe : h₁.objs.size ≠ e := Nat.ne_of_gt (Heap.lt_size he₁)
  have hd₃ := Obj.data_mapFields hd (·.setIfInBounds 1 (Value.ref h₁.objs.size))
  have he₃ := Heap.get?_update_self (Obj.mapFields (·.setIfInBounds 1 (Value.ref h₁.objs.size))) he₂ (Obj.isFreed_of_fields hd₃)
  have hT₃ := (Heap.get?_update_other (h₁.push ob) (Obj.mapFields (·.setIfInBounds 1 (Value.ref h₁.objs.size))) (Ne.symm hTe)).trans (Heap.get?_push_size h₁ (by rw [← hob]; rfl))
  have keep : ∀ b o, b ≠ e → h₁.get? b = some o → ((h₁.push ob).update e (Obj.mapFields (·.setIfInBounds 1 (Value.ref h₁.objs.size)))).get? b = some o := fun b o hbe hb => by
    rw [Heap.get?_update_other _ _ (Ne.symm hbe)]
    exact Heap.get?_push_of_some _ hb
  have noRecord : ∀ b o, s.heap.get? b = some o → (∀ vs, o.data ≠ .fields vs) → b ≠ e := fun b o hb hnf q => by
    rw [q, he] at hb; cases hb; exact hnf vs hd
  refine h _ h₁.objs.size ⟨fun b o q => keep b o (fun z => by rw [z, hen] at q; cases q) (kb₁ b o q), hl.of_keeps fun b o hb hnf => ?_, hen, ?_⟩ fun b o hb hnf => ?_
  · obtain ⟨sl, hs⟩ := hs₁.2.2 b o hb
    exact ⟨_, keep b _ (noRecord b o hb hnf) hs, rfl⟩
  · refine ⟨_, _, _, _, he₃, Obj.cls_mapFields _ _, hd₃, by simp [hsz], ?_, kb₁.fresh, hTe, hT₃, by rw [← hob], ?_⟩
    · rw [Array.getElem?_setIfInBounds_ne (by decide)]; exact h2
    · simp only [List.size_toArray, List.length_append, List.length_cons, List.length_nil] <;> omega
  · obtain ⟨sl, hs⟩ := hs₁.2.2 b o hb
    exact ⟨sl, keep b _ (noRecord b o hb hnf) hs⟩

theorem flight_any {B : Heap} {fl : List Env} {e T : Addr} {cls : Value} {fo : Option Addr} {Q : Unit → Shared → Prop} (x : Exc2 B fl e T cls s.heap)
    (h : ∀ h', Exc2 B fl e T cls h' → s.heap.UpToSlots h' → Q () { s with heap := h' }) : wpAny M A (setFlight (.ref e) fo) Q E s := by
  obtain ⟨x1, x2, x3, oe, vs, oT, ts, he, hc, hd, h1, h2, hnT, hTe, hT, hdT, hsz⟩ := x
  have other : ∀ b, b ≠ T → (s.heap.update T (Obj.mapFields (·.setIfInBounds 3 (fo.elim Value.none fun f => rawInt f)))).get? b = s.heap.get? b :=
    fun b hb => Heap.get?_update_other _ _ (Ne.symm hb)
  have noRecord : ∀ b o, s.heap.get? b = some o → (∀ vs, o.data ≠ .fields vs) → b ≠ T := fun b o hb hnf q => by
    rw [q, hT] at hb; cases hb; exact hnf ts hdT
  unfold setFlight
  refine wpAny_bind (wpAny_field he hd h1 ?_)
  rw [if_pos (show (Value.ref T != Value.none) = true from by simp)]
  refine wpAny_setField hT hdT hsz (h _ ⟨fun b o q => (other b fun z => by rw [z, hnT] at q; cases q).trans (x1 b o q),
    x2.of_keeps fun b o hb hnf => ⟨o, (other b (noRecord b o hb hnf)).trans hb, rfl⟩, x3, ?_⟩ fun b o hb hnf => ⟨o.slots, (other b (noRecord b o hb hnf)).trans hb⟩)
  exact ⟨oe, vs, _, _, (other e (Ne.symm hTe)).trans he, hc, hd, h1, h2, hnT, hTe, Heap.get?_update_self _ hT (Obj.isFreed_of_fields (Obj.data_mapFields hdT _)), Obj.data_mapFields hdT _, by simpa using hsz⟩
end

section
variable {prog : Program} {w : World} {A : Around} {E : Value → Shared → Prop} {s : Shared} {env : Env}
theorem unchain_none {v : Value} {e : Addr} {oe : Obj} {vs : Array Value} {Q : Value → Shared → Prop} (he : s.heap.get? e = some oe) (hd : oe.data = .fields vs) (h2 : vs[2]? = some .none) (h : Q .none s) :
    wpAny (model prog w) A (runValue (.builtin "proto.unchain" ⟨[v, .ref e, .ref e, .bool false], []⟩)) Q E s := by
  refine wpAny_runValue (codeAny_builtin entry_unchain ?_)
  rw [Around.under_plainId plain_unchain _]
  unfold Builtin.«proto.unchain»
  dsimp only
  refine wpAny_bind (wpAny_field he hd h2 ?_)
  rw [if_pos (by decide)]
  exact wpAny_pure h

theorem raiseNew_in {α : Type} {e e1 : Addr} {oe o1 : Obj} {ws vs : Array Value} {Q : α → Shared → Prop} (hh : A.handled = some (.ref e1)) (hne : e ≠ e1) (he1 : s.heap.get? e1 = some o1) (hd1 : o1.data = .fields vs) (h2 : vs[2]? = some .none)
    (he : s.heap.get? e = some oe) (hd : oe.data = .fields ws) (hsz : 2 < ws.size)
    (h : E (.ref e) { s with heap := s.heap.update e (Obj.mapFields (·.setIfInBounds 2 (.ref e1))) }) : wpAny (model prog w) A (raiseNew (.ref e) : Sem α) Q E s := by
  unfold raiseNew
  refine wpAny_bind (wpAny_handled ?_)
  rw [hh]
  dsimp only
  rw [if_pos (show (Value.ref e1 != Value.ref e) = true from by simp [Ne.symm hne])]
  refine wpAny_bind (wpAny_holding (unchain_none he1 hd1 h2 ?_))
  exact wpAny_bind (wpAny_setField he hd hsz (wpAny_throw h))

theorem raiseStmt_in {cls : String} (F : ExcRaiseFacts cls) {x : Sem Value} {e1 : Addr} {Q : Flow → Shared → Prop} (hh : A.handled = some (.ref e1))
    (h : wpAny (model prog w) A x (fun v s₁ => ∃ e t, v = .ref e ∧ e ≠ e1 ∧ s₁.heap.get? e = some { cls := .type cls, data := .fields #[.ref t, .none, .none, .none, .bool false, .none] } ∧
      (∃ o1 vs, s₁.heap.get? e1 = some o1 ∧ o1.data = .fields vs ∧ vs[2]? = some .none) ∧ E (.ref e) { s₁ with heap := s₁.heap.update e (Obj.mapFields (·.setIfInBounds 2 (.ref e1))) }) E s) :
    wpAny (model prog w) A (raiseStmt env (some x) none) Q E s := by
  unfold raiseStmt
  refine wpAny_bind (wpAny_mono h (fun v s₁ h₁ => ?_) fun _ _ x => x)
  obtain ⟨e, t, rfl, hne, he, ⟨o1, vs, he1, hd1, h2⟩, hE⟩ := h₁
  obtain ⟨hp, g, d, tk, os⟩ := s₁
  have hsub := F.isExc
  have hmeta := F.plainMeta
  have hE' := raiseNew_in (prog := prog) (w := w) (α := Flow) (Q := Q) hh hne he1 hd1 h2 he rfl (by simp) hE
  repeat (first | refine wpAny_loadPart he ?_ | wp_step)
  exact hE'

theorem Raise_in {cls newId initId : String} (F : ExcCallFacts cls newId initId) (G : ExcRaiseFacts cls) {x : Str} {np cpos pos kp : Pos} {lit : Str} {kk} {e1 : Addr} {o1 : Obj} {vs : Array Value} {Q : Flow → Shared → Prop} (hh : A.handled = some (.ref e1))
    (he1 : s.heap.get? e1 = some o1) (hd1 : o1.data = .fields vs) (h2 : vs[2]? = some .none)
    (hx : ∀ {Q' : Value → Shared → Prop}, Q' (.type cls) s → wpAny (model prog w) A (eval (.Name x np) env) Q' E s)
    (h : ∀ h' e tk t, Heap.MadeExc s.heap h' e cls [.str lit t] → E (.ref e) { s with heap := h'.update e (Obj.mapFields (·.setIfInBounds 2 (.ref e1))), toks := tk }) :
    wpAny (model prog w) A (exec (.Raise (some (.Call (.Name x np) [.Constant (.str lit) kk kp] [] cpos)) none pos) env) Q E s := by
  rw [arm_exec_Raise]
  refine wpAny_bind (wpAny_standAt (raiseStmt_in G hh ?_))
  refine wpAny_bind (wpAny_mono (Q := fun v s₁ => ∃ e t, v = .ref e ∧ e ≠ e1 ∧ s₁.heap.get? e = some { cls := .type cls, data := .fields #[.ref t, .none, .none, .none, .bool false, .none] } ∧
      (∃ o1 vs, s₁.heap.get? e1 = some o1 ∧ o1.data = .fields vs ∧ vs[2]? = some .none) ∧ E (.ref e) { s₁ with heap := s₁.heap.update e (Obj.mapFields (·.setIfInBounds 2 (.ref e1))) }) ?_ (fun v s₁ h₁ => wpAny_bind (wpAny_standAt (wpAny_pure h₁))) fun _ _ x => x)
  refine wpAny_Call_ofName (hx ?_)
  refine callWith_excType rfl (Calls.evalArgs_plain ?_)
  refine spliced_more (Calls.Constant_str ?_)
  refine spliced_none ?_
  obtain ⟨hp, g, d, tk, os⟩ := s
  refine wpAny_call_exc F fun h' e hm => ?_
  obtain ⟨t, ht, htn, htt⟩ := hm.there
  have hne : e ≠ e1 := fun q => by
    have := hm.new
    rw [q] at this
    rw [this] at he1; cases he1
  exact ⟨e, t, rfl, hne, ht, ⟨o1, vs, hm.keeps _ _ he1, hd1, h2⟩, h h' e _ _ hm⟩
end
section
variable {M : Model} {A : Around} {E : Value → Shared → Prop} {s : Shared} {env : Env}
theorem flight_held {B : Heap} {fl : List Env} {e L : Addr} {cls a0 : Value} {Q : Unit → Shared → Prop} (x : Heap.HeldW B fl e cls a0 L s.heap)
    (h : ∀ h', Heap.HeldW B fl e cls a0 L h' → s.heap.UpToSlots h' → Q () { s with heap := h' }) : wpAny M A (setFlight (.ref e) (some L)) Q E s := by
  obtain ⟨x1, x2, x3, oe, vs, T, oT, ts, he, hcls, hd, h1, hnT, hTe, hT, hdT, h3⟩ := x
  have hsz : 3 < ts.size := (Array.getElem?_eq_some_iff.mp h3).1
  have other : ∀ b, b ≠ T → (s.heap.update T (Obj.mapFields (·.setIfInBounds 3 ((some L : Option Addr).elim Value.none fun f => rawInt f)))).get? b = s.heap.get? b :=
    fun b hb => Heap.get?_update_other _ _ (Ne.symm hb)
  have noRecord : ∀ b o, s.heap.get? b = some o → (∀ vs, o.data ≠ .fields vs) → b ≠ T := fun b o hb hnf q => by
    rw [q, hT] at hb; cases hb; exact hnf ts hdT
  unfold setFlight
  refine wpAny_bind (wpAny_field he hd h1 ?_)
  rw [if_pos (show (Value.ref T != Value.none) = true from by simp)]
  refine wpAny_setField hT hdT hsz (h _ ⟨fun b o q => (other b fun z => by rw [z, hnT] at q; cases q).trans (x1 b o q), x2,
    x3.of_keeps fun b o hb hnf => ⟨o, (other b (noRecord b o hb hnf)).trans hb, rfl⟩, ?_⟩ fun b o hb hnf => ⟨o.slots, (other b (noRecord b o hb hnf)).trans hb⟩)
  exact ⟨oe, vs, T, _, _, (other e (Ne.symm hTe)).trans he, hcls, hd, h1, hnT, hTe, Heap.get?_update_self _ hT (Obj.isFreed_of_fields (Obj.data_mapFields hdT _)), Obj.data_mapFields hdT _, by simp [hsz]⟩

theorem came_held {B : Heap} {fl : List Env} {e L : Addr} {cls a0 : Value} (hf : env.frame = some L) (x : Heap.HeldW B fl e cls a0 L s.heap)
    (h : ∀ h', Heap.HeldW B fl e cls a0 L h' → s.heap.UpToSlots h' → E (.ref e) { s with heap := h' }) : cameBackBy M A env E (.ref e) s := by
  have x' := x
  obtain ⟨x1, x2, x3, oe, vs, T, oT, ts, he, hcls, hd, h1, hnT, hTe, hT, hdT, h3⟩ := x'
  unfold cameBackBy
  refine wpAny_bind (wpAny_field he hd h1 ?_)
  rw [if_neg (show ¬ ((Value.ref T == Value.none) = true) from by simp)]
  rw [hf]
  exact flight_held x h

/-- the first note of a fresh exception in its own frame -/
theorem note_held {B : Heap} {outer : List Env} {L e : Addr} {oe : Obj} {vs : Array Value} {a0 : Value} {Q : Unit → Shared → Prop}
    (hfr : A.frames = some (env :: outer)) (hl : s.heap.FunFrames B (env :: outer)) (hf : env.frame = some L)
    (he : s.heap.get? e = some oe) (hkb : B.StaysIn s.heap) (hen : B.get? e = none) (hd : oe.data = .fields vs) (h1 : vs[1]? = some .none) (h0 : vs[0]? = some a0)
    (h : ∀ h', Heap.HeldW B (env :: outer) e oe.cls a0 L h' → s.heap.UpToSlots h' → Q () { s with heap := h' }) : wpAny M A (noteFrame (.ref e) env) Q E s := by
  unfold noteFrame
  simp only [hf]
  refine wpAny_bind (wpAny_field he hd h1 ?_)
  rw [if_neg (by decide)]
  exact wpAny_entryW hfr hl hf he hkb hen hd (Array.getElem?_eq_some_iff.mp h1).1 h0 fun h' ⟨k1, k2, k3, k4⟩ => h h' ⟨k1, hen, k2, k3⟩ k4
end
end Mine
end

section
open PySem PySem.W PyProof.Rows PySem.Calls
namespace Mine
theorem fill_G2 : PySem.Challenge.rw_bp0016_01.Holds → ∀ P h, (hd.heap_39 P).In h → True := by
  k_fill
  intros; trivial
local macro_rules | `(tactic| walk_at "go1") => `(tactic| first | (k_unfold; (try dsimp only)) | walk1 | (dsimp only; walk1))
local macro_rules | `(tactic| walk_at "mem") => `(tactic| (intro p hp; repeat (first | exact hp | refine List.mem_cons_of_mem _ ?_)))
local macro_rules | `(tactic| walk_at "loadName") => `(tactic| refine ldnX (by assumption) (by rfl) ?_)
local macro_rules | `(tactic| walk_at "eval Name") => `(tactic| (refine nameX_G (by assumption) (by with_unfolding_all rfl) (by assumption) (by assumption) ?_ (by with_unfolding_all rfl) (by with_unfolding_all rfl)))

set_option maxHeartbeats 1000000 in
theorem try_stmt {prog : Program} {w : World} {A : Around} {s : Shared}
    {loose : List Str} {mean : ExcName → Option Value} {mg mb : Str → Option Value} {h₀ : Heap} {L a c : Addr} {cd : Value} {oc : Obj} {x : Str} {t : Tok} {led : List (Addr × Obj)} {m : Str → Option Value} {j : Nat} {ti : Tok} {v1 v2 v3 v4 v5 v6 v7 : Value}
    {nm qual : Str} {prm : Arguments} {a1 a2 a3 a4 : Stmt} {test c1 : Expr} {b1 rest wr last : List Stmt} {s1 s2 s3 s4 s5 s6 s7 s8 s9 s10 s11 : Stmt} {p1 pw ps : Pos} {wo : List Stmt} {dec : List Expr} {ret : Option Expr} {tp : List TypeParam} {scope : Scope} {ts : Option Scope} {bd : Str} {outer : List Env}
    (hb : innerSt w.params = some (.FunctionDef nm prm (a1 :: a2 :: a3 :: a4 :: .While test (.If c1 b1 (s1 :: s2 :: s3 :: s4 :: s5 :: s6 :: s7 :: s8 :: s9 :: s10 :: s11 :: rest) p1 :: wr) wo pw :: last) dec ret tp scope ts bd ps))
    (X : (hd.heap_39 w.params).In h₀) (T : Top topProg loose mean mg mb h₀) (hroom : A.depth < recursionLimit) (hh : A.handled = none)
    (hoc : h₀.get? c = some oc) (hod : oc.data = .cell (some (.str x t))) (hx : x.length ≤ 1000) (hj : j ≤ x.length)
    (hfr : A.frames = some (envX qual scope L a cd [("s", c)] :: outer)) {B₂ : Heap} (hB : h₀.StaysIn B₂) (hB2 : B₂.StaysIn s.heap) (hL0 : B₂.get? L = none) (hl : s.heap.FunFrames B₂ outer)
    (F : Fr h₀ L s.heap (kstB m [("string_start", v1), ("string_end", v2), ("in_fmt", v3), ("i", .int (j : Nat) ti), ("key", v4), ("conversion_flag", v5), ("width", v6), ("precision", v7)])) (N : News h₀ L s.heap led) :
    wpAny (model prog w) A (exec s11 (envX qual scope L a cd [("s", c)]))
      (CutN fun s' => ∃ (ch : Nat) (r : List Nat) (tc : Tok), x.cps.toList.drop j = ch :: r ∧
        StR h₀ L led [("string_start", v1), ("string_end", v2), ("in_fmt", v3), ("i", .int (j : Nat) ti), ("key", v4), ("conversion_flag", v5), ("width", v6), ("precision", v7), ("conversion", .str ⟨#[ch]⟩ tc)] s s')
      (fun v s' => x.cps.toList.drop j = [] ∧ ∃ e a0 h' tk, v = .ref e ∧ s' = { s with heap := h', toks := tk } ∧ Heap.HeldW B₂ (envX qual scope L a cd [("s", c)] :: outer) e (.type "ValueError") a0 L h' ∧ s.heap.UpToSlots h') s := by
  rw [show innerSt w.params = some _ from rfl] at hb
  cases hb
  obtain ⟨ah, ad, af, ag, au⟩ := A
  obtain rfl : ah = none := hh
  obtain rfl : af = _ := hfr
  refine wpAny_Try_except ?_
  repeat' walk_at "go1"
  · rename Heap.NewExc _ _ _ _ => hx1
    rename _ ∨ _ => hout
    rename_i hh1 tk1 e1
    have hend : x.cps.toList.drop j = [] := List.drop_of_length_le (by rw [← slen]; omega)
    obtain ⟨ob, tp, he, hcls, hd⟩ := hx1.there
    have K0 : B₂.StaysIn s.heap := hB2
    have hen : B₂.get? _ = none := fresh_of_stays K0 hx1.new
    have sm0 : s.heap.UpToSlots _ := Heap.UpToSlots.of_keeps hx1.keeps
    refine note_first rfl (Heap.FunFrames.cons (by intro q; cases q) rfl (F.ns.keeps hx1.keeps) hL0 (hl.of_keeps fun b o hb _ => ⟨o, hx1.keeps b o hb, rfl⟩)) rfl he (fun b o q => hx1.keeps b o (K0 b o q)) hen hd rfl rfl fun h1 T1 x1 sm1 => ?_
    rw [hcls] at x1
    refine flight_any x1 fun h2 x2 sm2 => ?_
    have F2 := F.of_stays (fun b o q => x2.1 b o (hB b o q)) ((sm0.trans sm1).trans sm2)
    refine wpAny_handleBy_builtin (X := "IndexError") (T := "IndexError") (b := true) PySem.F.isExc_IndexError PySem.F.notTuple_IndexError PySem.F.self_IndexError ?_
    have N0 : News h₀ L h2 [] := News.nil
    clear F N
    walk_at "go1"
    obtain ⟨x21, x22, x23, o2, ws2, oT2, ts2, he2, hc2, hd2, hw1, hw2, hnT2, hTe2, hT2, hdT2, hsz2⟩ := id x2
    refine ⟨rfl, ⟨o2, he2, hc2⟩, ?_⟩
    rw [if_pos rfl]
    refine flight_any x2 fun h3 x3 sm3 => ?_
    have F3 := F2.of_stays (fun b o q => x3.1 b o (hB b o q)) sm3
    clear F2
    obtain ⟨x31, x32, x33, o3, ws3, oT3, ts3, he3, hc3, hd3, hw31, hw32, hnT3, hTe3, hT3, hdT3, hsz3⟩ := id x3
    refine wpAny_execs_cons ?_
    refine Raise_in PySem.F.excCall_ValueError PySem.F.excRaise_ValueError rfl he3 hd3 hw32 (fun {Q'} q => ?_) fun h4 e4 tk4 t4 hm => ?_
    · walk_at "go1"
      exact q
    · obtain ⟨t5, h5, h5n, h5t⟩ := hm.there
      have h6 := Heap.get?_update_self (Obj.mapFields (·.setIfInBounds 2 (Value.ref e1))) h5 rfl
      have keep : ∀ b o, h3.get? b = some o → (h4.update e4 (Obj.mapFields (·.setIfInBounds 2 (Value.ref e1)))).get? b = some o := fun b o q => by
        rw [Heap.get?_update_other _ _ (fun z : e4 = b => by have := hm.new; rw [z] at this; rw [q] at this; cases this)]
        exact hm.keeps b o q
      refine note_held (B := B₂) rfl (x32.of_keeps fun b o q _ => ⟨o, keep b o q, rfl⟩) rfl h6 (fun b o q => keep b o (x31 b o q)) (fresh_of_stays x31 hm.new) rfl rfl rfl fun h7 x7 sm7 => ?_
      refine came_held rfl x7 fun h8 x8 sm8 => ?_
      exact ⟨hend, e4, _, _, _, rfl, rfl, x8, (((((sm0.trans sm1).trans sm2).trans sm3).trans (Heap.UpToSlots.of_keeps keep)).trans sm7).trans sm8⟩
  · rename Fr _ _ _ _ => F'
    rename News _ _ _ _ => N'
    have hjl : j < x.length := by omega
    have hc : x.cps.toList.drop j = x.cps.toList.getD j 0 :: x.cps.toList.drop (j + 1) := by
      have h9 : j < x.cps.toList.length := by rw [← slen]; exact hjl
      rw [List.drop_eq_getElem_cons h9, List.getD_eq_getElem?_getD, List.getElem?_eq_getElem h9]; rfl
    rw [item_nat x j hjl] at F'
    exact ⟨rfl, _, _, _, hc, StR.mk' F' N' (by walk_at "mem") (by kst_all)⟩
end Mine
end

section
open PySem PySem.W PyProof.Rows PySem.Calls
namespace Mine
section
variable {M : Model} {A : Around} {R : GenEnd} {Y : Protocol} {n : Nat} {s₀ : Shared} {c : Code} {fs : List Frame} {s : Shared} {env : Env}
  {K : Flow → Sem Fin} {H : Value → Sem Fin} {gd : Bool → Bool} {lv : List Value → List Value}
theorem execs_app_wrap (l₁ l₂ : List Stmt) : (execs (l₁ ++ l₂) env).wrap K H gd lv =
    (execs l₁ env).wrap (fun f => match f with | .next => (execs l₂ env).wrap K H gd lv | f => K f) H gd lv := by
  induction l₁ with
  | nil => rfl
  | cons st r ih =>
    rw [List.cons_append, execs_cons_wrap, execs_cons_wrap, ih]
    exact Sem.wrap_congr _ _ _ (fun f => by cases f <;> rfl) (fun _ => rfl)
theorem seg_app {l₁ l₂ : List Stmt} {P : Shared → Prop} {E' : Value → Shared → Prop}
    (h : wpAny M (A.over c fs) (execs l₁ env) (CutN P) E' s)
    (hP : ∀ s', P s' → Seg M A R Y n s₀ c ((execs l₂ env).wrap K H gd lv) fs s') (hE : ∀ x s', E' x s' → Seg M A R Y n s₀ c (H x) fs s') :
    Seg M A R Y n s₀ c ((execs (l₁ ++ l₂) env).wrap K H gd lv) fs s := by
  rw [execs_app_wrap]
  refine seg_wrap (wpAny_mono h (fun f s' q => ?_) hE)
  obtain ⟨rfl, q⟩ := q
  exact hP s' q
theorem seg_st {st : Stmt} {l₂ : List Stmt} {P : Shared → Prop} {E' : Value → Shared → Prop}
    (h : wpAny M (A.over c fs) (exec st env) (CutN P) E' s)
    (hP : ∀ s', P s' → Seg M A R Y n s₀ c ((execs l₂ env).wrap K H gd lv) fs s') (hE : ∀ x s', E' x s' → Seg M A R Y n s₀ c (H x) fs s') :
    Seg M A R Y n s₀ c ((execs (st :: l₂) env).wrap K H gd lv) fs s := by
  rw [execs_cons_wrap]
  refine seg_wrap (wpAny_mono h (fun f s' q => ?_) hE)
  obtain ⟨rfl, q⟩ := q
  exact hP s' q
theorem seg_If {test : Expr} {b1 b2 : List Stmt} {pos : Pos}
    (h : wpAny M (A.over c fs) (isTrue test env (eval test env)) (fun b s' => Seg M A R Y n s₀ c ((execs (if b = true then b1 else b2) env).wrap K H gd lv) fs s') (fun x s' => Seg M A R Y n s₀ c (H x) fs s') s) :
    Seg M A R Y n s₀ c ((exec (.If test b1 b2 pos) env).wrap K H gd lv) fs s := by
  rw [arm_exec_If]
  show Seg M A R Y n s₀ c ((standAt pos >>= fun _ => isTrue test env (eval test env) >>= fun b => if b = true then execs b1 env else execs b2 env).wrap K H gd lv) fs s
  rw [Sem.bind_eq_wrap', Sem.wrap_wrap]
  refine seg_wrap (wpAny_standAt ?_)
  rw [Sem.bind_eq_wrap', Sem.wrap_wrap]
  refine seg_wrap (wpAny_mono h (fun b s' q => ?_) fun _ _ q => q)
  cases b <;> exact q
end

/-- everything of a heap that is neither in the base nor the frame's own -/
def others (B : Heap) (C : Addr) (h : Heap) : List (Addr × Obj) := (List.range h.objs.size).filterMap fun b => if b = C then none else if (B.get? b).isSome then none else (h.get? b).map fun o => (b, o)
theorem others_mem {B h : Heap} {C b : Addr} {o : Obj} (ho : h.get? b = some o) (hC : b ≠ C) (hB : B.get? b = none) : (b, o) ∈ others B C h := by
  unfold others
  rw [List.mem_filterMap]
  exact ⟨b, List.mem_range.mpr (Heap.lt_size ho), by rw [if_neg hC, hB, ho]; rfl⟩
theorem others_news {B h : Heap} {C : Addr} : News B C h (others B C h) := by
  intro p hp
  unfold others at hp
  rw [List.mem_filterMap] at hp
  obtain ⟨b, _, hp⟩ := hp
  by_cases e : b = C
  · rw [if_pos e] at hp; cases hp
  · rw [if_neg e] at hp
    cases q : B.get? b with
    | some o => rw [q] at hp; cases hp
    | none =>
      rw [q] at hp
      cases q2 : h.get? b with
      | none => rw [q2] at hp; cases hp
      | some o => rw [q2] at hp; cases hp; exact ⟨q2, e, q⟩
theorem others_keep {B h h' : Heap} {C : Addr} (k : B.StaysIn h) (k' : B.StaysIn h') (N : News B C h' (others B C h)) : ∀ b o, b ≠ C → h.get? b = some o → h'.get? b = some o := fun b o hC ho => by
  cases q : B.get? b with
  | some o' => have := k b o' q; rw [ho] at this; cases this; exact k' b _ q
  | none => exact (N _ (others_mem ho hC q)).1
theorem funFrames_at {h h' B : Heap} : ∀ {l : List Env}, (∀ b ∈ l.filterMap (·.frame), ∀ o, h.get? b = some o → h'.get? b = some o) → h.FunFrames B l → h'.FunFrames B l
  | [], _, _ => trivial
  | env :: l, k, ⟨hk, ⟨L, o, hf, hn, ho, hd⟩, hr⟩ => by
    have hm : (env :: l).filterMap (·.frame) = L :: l.filterMap (·.frame) := by rw [List.filterMap_cons, hf]
    rw [hm] at k
    exact ⟨hk, ⟨L, o, hf, hn, k L List.mem_cons_self o ho, hd⟩, funFrames_at (fun b hb o ho => k b (List.mem_cons_of_mem _ hb) o ho) hr⟩

def YP (rows : List Dat) (B : Heap) (C : Addr) (outer : List Env) : Protocol := fun m s₀ v s kap =>
  (∃ h' tk, s = { s₀ with heap := h', toks := tk }) ∧ (∀ b o, b ≠ C → s₀.heap.get? b = some o → s.heap.get? b = some o) ∧ B.StaysIn s.heap ∧
  (∃ led d pre post, rows = pre ++ d :: post ∧ post.length = m ∧ DatIn led v d ∧ ∀ p ∈ led, s.heap.get? p.1 = some p.2 ∧ p.1 ≠ C ∧ B.get? p.1 = none ∧ ∃ its n, p.2 = { cls := .type "tuple", data := .seq its n }) ∧
  ∀ s'' : Shared, B.StaysIn s''.heap → (∀ o, s.heap.get? C = some o → s''.heap.get? C = some o) → s''.heap.FunFrames B outer → kap (.send .none) s''
/-- a heap without the frames' own dicts -/
def bare2 (C : Addr) (outer : List Env) (h : Heap) : Heap := hideAll h (C :: outer.filterMap (·.frame))
theorem bare2_self {C : Addr} {outer : List Env} {h : Heap} : (bare2 C outer h).get? C = none := hideAll_none _ List.mem_cons_self
theorem bare2_up {B h : Heap} {C : Addr} {outer : List Env} (k : B.StaysIn h) (hC : B.get? C = none) (hf : h.FunFrames B outer) : B.StaysIn (bare2 C outer h) := fun b o q => hideAll_get _ (k b o q) fun hm => by
  rcases List.mem_cons.mp hm with rfl | hm
  · rw [hC] at q; cases q
  · rw [(hf.mem hm).1] at q; cases q
theorem bare2_frames {B h : Heap} {C : Addr} {outer : List Env} (hf : h.FunFrames B outer) : h.FunFrames (bare2 C outer h) outer :=
  funFrames_hide hf fun env he a ha => List.mem_cons_of_mem _ (List.mem_filterMap.mpr ⟨env, he, ha⟩)
theorem bare2_stays {h h' : Heap} {C : Addr} {outer : List Env} (k : ∀ b o, b ≠ C → h.get? b = some o → h'.get? b = some o) : (bare2 C outer h).StaysIn h' := fun b o q =>
  k b o (fun e => by rw [e, bare2_self] at q; cases q) (of_hideAll _ q)
def RP (fin : Bool) (B : Heap) (C : Addr) (outer : List Env) : GenEnd := fun n s₀ r s₁ => n = 0 ∧ (∃ h' tk, s₁ = { s₀ with heap := h', toks := tk }) ∧
  ((fin = false ∧ r = .ok (.ret .none) ∧ B.StaysIn s₁.heap ∧ ∀ b o, b ≠ C → s₀.heap.get? b = some o → s₁.heap.get? b = some o) ∨
   (fin = true ∧ ∃ e a0, r = .error (.ref e) ∧ Heap.FlyingW (bare2 C outer s₀.heap) outer e (.type "ValueError") a0 s₁.heap ∧
     ∀ b o, b ≠ C → s₀.heap.get? b = some o → (∀ vs, o.data ≠ .fields vs) → ∃ sl, s₁.heap.get? b = some { o with slots := sl }))
end Mine
end

section
open PySem PySem.W PyProof.Rows PySem.Calls
namespace Mine
theorem fill_G3 : PySem.Challenge.rw_bp0016_01.Holds → ∀ P h, (hd.heap_39 P).In h → True := by
  k_fill
  intros; trivial
local macro_rules | `(tactic| walk_at "go1") => `(tactic| first | (k_unfold; (try dsimp only)) | walk1 | (dsimp only; walk1))
local macro_rules | `(tactic| walk_at "mem") => `(tactic| (intro p hp; repeat (first | exact hp | refine List.mem_cons_of_mem _ ?_)))
local macro_rules | `(tactic| walk_at "loadName") => `(tactic| refine ldnX (by assumption) (by rfl) ?_)
local macro_rules | `(tactic| walk_at "eval Name") => `(tactic| (refine nameX_G (by assumption) (by with_unfolding_all rfl) (by assumption) (by assumption) ?_ (by with_unfolding_all rfl) (by with_unfolding_all rfl)))
/-- the pieces of the generator's body -/
structure Pc where
  a1 : Stmt
  a2 : Stmt
  a3 : Stmt
  a4 : Stmt
  test : Expr
  c1 : Expr
  c2 : Expr
  y1 : Expr
  q1 : Pos
  q2 : Pos
  q3 : Pos
  q4 : Pos
  u1 : Stmt
  u2 : Stmt
  u3 : Stmt
  u4 : Stmt
  s1 : Stmt
  s2 : Stmt
  s3 : Stmt
  s4 : Stmt
  s5 : Stmt
  s6 : Stmt
  s7 : Stmt
  s8 : Stmt
  s9 : Stmt
  s10 : Stmt
  s11 : Stmt
  s12 : Stmt
  s13 : Stmt
  y2 : Expr
  q5 : Pos
  q6 : Pos
  s15 : Stmt
  s16 : Stmt
  p1 : Pos
  pw : Pos
  c3 : Expr
  r1 : Stmt
  q7 : Pos
def Pc.body (g : Pc) : List Stmt := [g.a1, g.a2, g.a3, g.a4, .While g.test [.If g.c1 [.If g.c2 [.Expr (.Yield (some g.y1) g.q1) g.q2, .Return none g.q3] [g.u1, g.u2, g.u3, g.u4] g.q4]
  ([g.s1, g.s2, g.s3, g.s4, g.s5, g.s6, g.s7, g.s8, g.s9, g.s10] ++ g.s11 :: ([g.s12, g.s13] ++ .Expr (.Yield (some g.y2) g.q5) g.q6 :: [g.s15, g.s16])) g.p1] [] g.pw, .If g.c3 [g.r1] [] g.q7]
theorem pc_there (P : Params) : ∃ (g : Pc) (nm : Str) (prm : Arguments) (dec : List Expr) (ret : Option Expr) (tp : List TypeParam) (scope : Scope) (ts : Option Scope) (bd : Str) (ps : Pos), innerSt P = some (.FunctionDef nm prm g.body dec ret tp scope ts bd ps) :=
  ⟨⟨_, _, _, _, _, _, _, _, _, _, _, _, _, _, _, _, _, _, _, _, _, _, _, _, _, _, _, _, _, _, _, _, _, _, _, _, _, _, _⟩, _, _, _, _, _, _, _, _, _, rfl⟩
def CutV {α : Type} (P : α → Shared → Prop) (b : α) (s : Shared) : Prop := P b s
set_option maxHeartbeats 1000000 in
theorem p0 {prog : Program} {w : World} {A : Around} {s : Shared}
    {loose : List Str} {mean : ExcName → Option Value} {mg mb : Str → Option Value} {h₀ : Heap} {L a c : Addr} {cd : Value} {oc : Obj} {x : Str} {t : Tok} {led : List (Addr × Obj)} {m : Str → Option Value} 
    {g : Pc} {nm qual : Str} {prm : Arguments} {dec : List Expr} {ret : Option Expr} {tp : List TypeParam} {scope : Scope} {ts : Option Scope} {bd : Str} {ps : Pos}
    (hb : innerSt w.params = some (.FunctionDef nm prm g.body dec ret tp scope ts bd ps))
    (X : (hd.heap_39 w.params).In h₀) (T : Top topProg loose mean mg mb h₀) (hroom : A.depth < recursionLimit) (hh : A.handled = none)
    (hoc : h₀.get? c = some oc) (hod : oc.data = .cell (some (.str x t))) (hx : x.length ≤ 1000) 
    (F : Fr h₀ L s.heap (m)) (N : News h₀ L s.heap led) :
    wpAny (model prog w) A (execs [g.a1, g.a2, g.a3, g.a4] (envX qual scope L a cd [("s", c)])) (CutN fun s' => ∃ t1 t2 t4, StR h₀ L led [("string_start", .int (0 : Nat) t1), ("string_end", .int (0 : Nat) t2), ("in_fmt", .bool false), ("i", .int (0 : Nat) t4)] s s') (fun _ _ => False) s := by
  obtain ⟨a1, a2, a3, a4, test, c1, c2, y1, q1, q2, q3, q4, u1, u2, u3, u4, s1, s2, s3, s4, s5, s6, s7, s8, s9, s10, s11, s12, s13, y2, q5, q6, s15, s16, p1, pw, c3, r1, q7⟩ := g
  rw [show innerSt w.params = some _ from rfl] at hb
  unfold Pc.body at hb
  dsimp only at hb
  cases hb
  obtain ⟨ah, ad, af, ag, au⟩ := A
  obtain rfl : ah = none := hh
  repeat' walk_at "go1"
  rename Fr _ _ _ _ => F'
  rename News _ _ _ _ => N'
  exact ⟨rfl, _, _, _, StR.mk' F' N' (by walk_at "mem") (by kst_all)⟩
set_option maxHeartbeats 1000000 in
theorem p1 {prog : Program} {w : World} {A : Around} {s : Shared}
    {loose : List Str} {mean : ExcName → Option Value} {mg mb : Str → Option Value} {h₀ : Heap} {L a c : Addr} {cd : Value} {oc : Obj} {x : Str} {t : Tok} {led : List (Addr × Obj)} {m : Str → Option Value} {v1 v2 v3 : Value} {i : Nat} {ti : Tok}
    {g : Pc} {nm qual : Str} {prm : Arguments} {dec : List Expr} {ret : Option Expr} {tp : List TypeParam} {scope : Scope} {ts : Option Scope} {bd : Str} {ps : Pos}
    (hb : innerSt w.params = some (.FunctionDef nm prm g.body dec ret tp scope ts bd ps))
    (X : (hd.heap_39 w.params).In h₀) (T : Top topProg loose mean mg mb h₀) (hroom : A.depth < recursionLimit) (hh : A.handled = none)
    (hoc : h₀.get? c = some oc) (hod : oc.data = .cell (some (.str x t))) (hx : x.length ≤ 1000) 
    (F : Fr h₀ L s.heap (kstB m [("string_start", v1), ("string_end", v2), ("in_fmt", v3), ("i", .int (i : Nat) ti)])) (N : News h₀ L s.heap led) :
    wpAny (model prog w) A (isTrue g.test (envX qual scope L a cd [("s", c)]) (eval g.test (envX qual scope L a cd [("s", c)]))) (CutV fun b s' => b = decide (i < x.length) ∧ StR h₀ L led [("string_start", v1), ("string_end", v2), ("in_fmt", v3), ("i", .int (i : Nat) ti)] s s') (fun _ _ => False) s := by
  obtain ⟨a1, a2, a3, a4, test, c1, c2, y1, q1, q2, q3, q4, u1, u2, u3, u4, s1, s2, s3, s4, s5, s6, s7, s8, s9, s10, s11, s12, s13, y2, q5, q6, s15, s16, p1, pw, c3, r1, q7⟩ := g
  rw [show innerSt w.params = some _ from rfl] at hb
  unfold Pc.body at hb
  dsimp only at hb
  cases hb
  obtain ⟨ah, ad, af, ag, au⟩ := A
  obtain rfl : ah = none := hh
  repeat' walk_at "go1"
  rename Fr _ _ _ _ => F'
  rename News _ _ _ _ => N'
  exact ⟨by rw [Bool.eq_iff_iff]; simp, StR.mk' F' N' (by walk_at "mem") (by kst_all)⟩
set_option maxHeartbeats 1000000 in
theorem p2 {prog : Program} {w : World} {A : Around} {s : Shared}
    {loose : List Str} {mean : ExcName → Option Value} {mg mb : Str → Option Value} {h₀ : Heap} {L a c : Addr} {cd : Value} {oc : Obj} {x : Str} {t : Tok} {led : List (Addr × Obj)} {m : Str → Option Value} {v1 v2 : Value} {bb : Bool} {i : Nat} {ti : Tok}
    {g : Pc} {nm qual : Str} {prm : Arguments} {dec : List Expr} {ret : Option Expr} {tp : List TypeParam} {scope : Scope} {ts : Option Scope} {bd : Str} {ps : Pos}
    (hb : innerSt w.params = some (.FunctionDef nm prm g.body dec ret tp scope ts bd ps))
    (X : (hd.heap_39 w.params).In h₀) (T : Top topProg loose mean mg mb h₀) (hroom : A.depth < recursionLimit) (hh : A.handled = none)
    (hoc : h₀.get? c = some oc) (hod : oc.data = .cell (some (.str x t))) (hx : x.length ≤ 1000) 
    (F : Fr h₀ L s.heap (kstB m [("string_start", v1), ("string_end", v2), ("in_fmt", .bool bb), ("i", .int (i : Nat) ti)])) (N : News h₀ L s.heap led) :
    wpAny (model prog w) A (isTrue g.c1 (envX qual scope L a cd [("s", c)]) (eval g.c1 (envX qual scope L a cd [("s", c)]))) (CutV fun b s' => b = !bb ∧ StR h₀ L led [("string_start", v1), ("string_end", v2), ("in_fmt", .bool bb), ("i", .int (i : Nat) ti)] s s') (fun _ _ => False) s := by
  obtain ⟨a1, a2, a3, a4, test, c1, c2, y1, q1, q2, q3, q4, u1, u2, u3, u4, s1, s2, s3, s4, s5, s6, s7, s8, s9, s10, s11, s12, s13, y2, q5, q6, s15, s16, p1, pw, c3, r1, q7⟩ := g
  rw [show innerSt w.params = some _ from rfl] at hb
  unfold Pc.body at hb
  dsimp only at hb
  cases hb
  obtain ⟨ah, ad, af, ag, au⟩ := A
  obtain rfl : ah = none := hh
  repeat' walk_at "go1"
  rename Fr _ _ _ _ => F'
  rename News _ _ _ _ => N'
  exact ⟨rfl, StR.mk' F' N' (by walk_at "mem") (by kst_all)⟩
set_option maxHeartbeats 1000000 in
theorem p3 {prog : Program} {w : World} {A : Around} {s : Shared}
    {loose : List Str} {mean : ExcName → Option Value} {mg mb : Str → Option Value} {h₀ : Heap} {L a c : Addr} {cd : Value} {oc : Obj} {x : Str} {t : Tok} {led : List (Addr × Obj)} {m : Str → Option Value} {v1 v2 v3 : Value} {i : Nat} {ti : Tok}
    {g : Pc} {nm qual : Str} {prm : Arguments} {dec : List Expr} {ret : Option Expr} {tp : List TypeParam} {scope : Scope} {ts : Option Scope} {bd : Str} {ps : Pos}
    (hb : innerSt w.params = some (.FunctionDef nm prm g.body dec ret tp scope ts bd ps))
    (X : (hd.heap_39 w.params).In h₀) (T : Top topProg loose mean mg mb h₀) (hroom : A.depth < recursionLimit) (hh : A.handled = none)
    (hoc : h₀.get? c = some oc) (hod : oc.data = .cell (some (.str x t))) (hx : x.length ≤ 1000) (hi : i ≤ x.length)
    (F : Fr h₀ L s.heap (kstB m [("string_start", v1), ("string_end", v2), ("in_fmt", v3), ("i", .int (i : Nat) ti)])) (N : News h₀ L s.heap led) :
    wpAny (model prog w) A (isTrue g.c2 (envX qual scope L a cd [("s", c)]) (eval g.c2 (envX qual scope L a cd [("s", c)]))) (CutV fun b s' => b = !decide (37 ∈ x.cps.toList.drop i) ∧ StR h₀ L led [("string_start", v1), ("string_end", v2), ("in_fmt", v3), ("i", .int (i : Nat) ti)] s s') (fun _ _ => False) s := by
  obtain ⟨a1, a2, a3, a4, test, c1, c2, y1, q1, q2, q3, q4, u1, u2, u3, u4, s1, s2, s3, s4, s5, s6, s7, s8, s9, s10, s11, s12, s13, y2, q5, q6, s15, s16, p1, pw, c3, r1, q7⟩ := g
  rw [show innerSt w.params = some _ from rfl] at hb
  unfold Pc.body at hb
  dsimp only at hb
  cases hb
  obtain ⟨ah, ad, af, ag, au⟩ := A
  obtain rfl : ah = none := hh
  repeat' walk_at "go1"
  rename Fr _ _ _ _ => F'
  rename News _ _ _ _ => N'
  refine ⟨?_, StR.mk' F' N' (by walk_at "mem") (by kst_all)⟩
  rw [pct, in_str, sl_sn, lcps]
  simp
set_option maxHeartbeats 1000000 in
theorem p4 {prog : Program} {w : World} {A : Around} {s : Shared}
    {loose : List Str} {mean : ExcName → Option Value} {mg mb : Str → Option Value} {h₀ : Heap} {L a c : Addr} {cd : Value} {oc : Obj} {x : Str} {t : Tok} {led : List (Addr × Obj)} {m : Str → Option Value} {v2 v3 v4 : Value} {i : Nat} {ti : Tok}
    {g : Pc} {nm qual : Str} {prm : Arguments} {dec : List Expr} {ret : Option Expr} {tp : List TypeParam} {scope : Scope} {ts : Option Scope} {bd : Str} {ps : Pos}
    (hb : innerSt w.params = some (.FunctionDef nm prm g.body dec ret tp scope ts bd ps))
    (X : (hd.heap_39 w.params).In h₀) (T : Top topProg loose mean mg mb h₀) (hroom : A.depth < recursionLimit) (hh : A.handled = none)
    (hoc : h₀.get? c = some oc) (hod : oc.data = .cell (some (.str x t))) (hx : x.length ≤ 1000) (hi : i ≤ x.length)
    (F : Fr h₀ L s.heap (kstB m [("string_start", .int (i : Nat) ti), ("string_end", v2), ("in_fmt", v3), ("i", v4)])) (N : News h₀ L s.heap led) :
    wpAny (model prog w) A (eval g.y1 (envX qual scope L a cd [("s", c)])) (CutV fun v s' => ∃ D t', v = .ref D ∧ StR h₀ L ((D, { cls := .type "tuple", data := .seq #[.str ⟨(x.cps.toList.drop i).toArray⟩ t', .none] }) :: led) [("i", v4)] s s') (fun _ _ => False) s := by
  obtain ⟨a1, a2, a3, a4, test, c1, c2, y1, q1, q2, q3, q4, u1, u2, u3, u4, s1, s2, s3, s4, s5, s6, s7, s8, s9, s10, s11, s12, s13, y2, q5, q6, s15, s16, p1, pw, c3, r1, q7⟩ := g
  rw [show innerSt w.params = some _ from rfl] at hb
  unfold Pc.body at hb
  dsimp only at hb
  cases hb
  obtain ⟨ah, ad, af, ag, au⟩ := A
  obtain rfl : ah = none := hh
  repeat' walk_at "go1"
  rename Fr _ _ _ _ => F'
  rename News _ _ _ _ => N'
  rw [sl_sn] at N'
  exact ⟨_, _, rfl, StR.mk' F' N' (by walk_at "mem") (by kst_all)⟩
set_option maxHeartbeats 1000000 in
theorem p5 {prog : Program} {w : World} {A : Around} {s : Shared}
    {loose : List Str} {mean : ExcName → Option Value} {mg mb : Str → Option Value} {h₀ : Heap} {L a c : Addr} {cd : Value} {oc : Obj} {x : Str} {t : Tok} {led : List (Addr × Obj)} {m : Str → Option Value} {v1 v2 v3 : Value} {i : Nat} {ti : Tok}
    {g : Pc} {nm qual : Str} {prm : Arguments} {dec : List Expr} {ret : Option Expr} {tp : List TypeParam} {scope : Scope} {ts : Option Scope} {bd : Str} {ps : Pos}
    (hb : innerSt w.params = some (.FunctionDef nm prm g.body dec ret tp scope ts bd ps))
    (X : (hd.heap_39 w.params).In h₀) (T : Top topProg loose mean mg mb h₀) (hroom : A.depth < recursionLimit) (hh : A.handled = none)
    (hoc : h₀.get? c = some oc) (hod : oc.data = .cell (some (.str x t))) (hx : x.length ≤ 1000) (hi : i ≤ x.length) (h37 : 37 ∈ x.cps.toList.drop i)
    (F : Fr h₀ L s.heap (kstB m [("string_start", v1), ("string_end", v2), ("in_fmt", v3), ("i", .int (i : Nat) ti)])) (N : News h₀ L s.heap led) :
    wpAny (model prog w) A (execs [g.u1, g.u2, g.u3, g.u4] (envX qual scope L a cd [("s", c)])) (CutN fun s' => ∃ t1 t2, StR h₀ L led [("string_start", v1), ("string_end", .int ((i + (cut 37 (x.cps.toList.drop i)).length : Nat) : Int) t1), ("in_fmt", .bool true), ("i", .int ((i + (cut 37 (x.cps.toList.drop i)).length + 1 : Nat) : Int) t2)] s s') (fun _ _ => False) s := by
  obtain ⟨a1, a2, a3, a4, test, c1, c2, y1, q1, q2, q3, q4, u1, u2, u3, u4, s1, s2, s3, s4, s5, s6, s7, s8, s9, s10, s11, s12, s13, y2, q5, q6, s15, s16, p1, pw, c3, r1, q7⟩ := g
  rw [show innerSt w.params = some _ from rfl] at hb
  unfold Pc.body at hb
  dsimp only at hb
  cases hb
  obtain ⟨ah, ad, af, ag, au⟩ := A
  obtain rfl : ah = none := hh
  have e37 : Txt.find (Txt.slice x (some (i : Int)) none) (Str.ofString "%") = (((cut 37 (x.cps.toList.drop i)).length : Nat) : Int) := by
    rw [pct, find_one, sl_sn, lcps, if_pos h37]
  repeat' walk_at "go1"
  rename Fr _ _ _ _ => F'
  rename News _ _ _ _ => N'
  rw [e37] at F'
  have e1 : ((i : Int) + ((cut 37 (x.cps.toList.drop i)).length : Nat) + 1) = ((i + (cut 37 (x.cps.toList.drop i)).length + 1 : Nat) : Int) := rfl
  have e2 : ((i : Int) + ((cut 37 (x.cps.toList.drop i)).length : Nat)) = ((i + (cut 37 (x.cps.toList.drop i)).length : Nat) : Int) := rfl
  rw [e1, e2] at F'
  exact ⟨rfl, _, _, StR.mk' F' N' (by walk_at "mem") (by kst_all)⟩
set_option maxHeartbeats 1000000 in
theorem p6 {prog : Program} {w : World} {A : Around} {s : Shared}
    {loose : List Str} {mean : ExcName → Option Value} {mg mb : Str → Option Value} {h₀ : Heap} {L a c : Addr} {cd : Value} {oc : Obj} {x : Str} {t : Tok} {led : List (Addr × Obj)} {m : Str → Option Value} {v1 v2 v3 kv fv wv pv cv : Value} {i : Nat} {ti : Tok}
    {g : Pc} {nm qual : Str} {prm : Arguments} {dec : List Expr} {ret : Option Expr} {tp : List TypeParam} {scope : Scope} {ts : Option Scope} {bd : Str} {ps : Pos}
    (hb : innerSt w.params = some (.FunctionDef nm prm g.body dec ret tp scope ts bd ps))
    (X : (hd.heap_39 w.params).In h₀) (T : Top topProg loose mean mg mb h₀) (hroom : A.depth < recursionLimit) (hh : A.handled = none)
    (hoc : h₀.get? c = some oc) (hod : oc.data = .cell (some (.str x t))) (hx : x.length ≤ 1000) (hi : i ≤ x.length)
    (F : Fr h₀ L s.heap (kstB m [("string_start", v1), ("string_end", v2), ("in_fmt", v3), ("i", .int (i : Nat) ti), ("key", kv), ("conversion_flag", fv), ("width", wv), ("precision", pv), ("conversion", cv)])) (N : News h₀ L s.heap led) :
    wpAny (model prog w) A (execs [g.s12, g.s13] (envX qual scope L a cd [("s", c)])) (CutN fun s' => ∃ D t', StR h₀ L ((D, { cls := .type "tuple", data := .seq #[kv, fv, wv, pv, cv] }) :: led) [("string_start", v1), ("string_end", v2), ("in_fmt", v3), ("i", .int ((i + 1 : Nat) : Int) t'), ("fmt", .ref D)] s s') (fun _ _ => False) s := by
  obtain ⟨a1, a2, a3, a4, test, c1, c2, y1, q1, q2, q3, q4, u1, u2, u3, u4, s1, s2, s3, s4, s5, s6, s7, s8, s9, s10, s11, s12, s13, y2, q5, q6, s15, s16, p1, pw, c3, r1, q7⟩ := g
  rw [show innerSt w.params = some _ from rfl] at hb
  unfold Pc.body at hb
  dsimp only at hb
  cases hb
  obtain ⟨ah, ad, af, ag, au⟩ := A
  obtain rfl : ah = none := hh
  repeat' walk_at "go1"
  rename Fr _ _ _ _ => F'
  rename News _ _ _ _ => N'
  have e1 : ((i : Int) + 1) = ((i + 1 : Nat) : Int) := rfl
  rw [e1] at F'
  exact ⟨rfl, _, _, StR.mk' F' N' (by walk_at "mem") (by kst_all)⟩
set_option maxHeartbeats 1000000 in
theorem p7 {prog : Program} {w : World} {A : Around} {s : Shared}
    {loose : List Str} {mean : ExcName → Option Value} {mg mb : Str → Option Value} {h₀ : Heap} {L a c : Addr} {cd : Value} {oc : Obj} {x : Str} {t : Tok} {led : List (Addr × Obj)} {m : Str → Option Value} {v3 v4 v5 : Value} {i n : Nat} {ti te : Tok}
    {g : Pc} {nm qual : Str} {prm : Arguments} {dec : List Expr} {ret : Option Expr} {tp : List TypeParam} {scope : Scope} {ts : Option Scope} {bd : Str} {ps : Pos}
    (hb : innerSt w.params = some (.FunctionDef nm prm g.body dec ret tp scope ts bd ps))
    (X : (hd.heap_39 w.params).In h₀) (T : Top topProg loose mean mg mb h₀) (hroom : A.depth < recursionLimit) (hh : A.handled = none)
    (hoc : h₀.get? c = some oc) (hod : oc.data = .cell (some (.str x t))) (hx : x.length ≤ 1000) (hi : i + n ≤ x.length)
    (F : Fr h₀ L s.heap (kstB m [("string_start", .int (i : Nat) ti), ("string_end", .int ((i + n : Nat) : Int) te), ("in_fmt", v3), ("i", v4), ("fmt", v5)])) (N : News h₀ L s.heap led) :
    wpAny (model prog w) A (eval g.y2 (envX qual scope L a cd [("s", c)])) (CutV fun v s' => ∃ D t', v = .ref D ∧ StR h₀ L ((D, { cls := .type "tuple", data := .seq #[.str ⟨((x.cps.toList.drop i).take n).toArray⟩ t', v5] }) :: led) [("string_end", .int ((i + n : Nat) : Int) te), ("i", v4)] s s') (fun _ _ => False) s := by
  obtain ⟨a1, a2, a3, a4, test, c1, c2, y1, q1, q2, q3, q4, u1, u2, u3, u4, s1, s2, s3, s4, s5, s6, s7, s8, s9, s10, s11, s12, s13, y2, q5, q6, s15, s16, p1, pw, c3, r1, q7⟩ := g
  rw [show innerSt w.params = some _ from rfl] at hb
  unfold Pc.body at hb
  dsimp only at hb
  cases hb
  obtain ⟨ah, ad, af, ag, au⟩ := A
  obtain rfl : ah = none := hh
  repeat' walk_at "go1"
  rename Fr _ _ _ _ => F'
  rename News _ _ _ _ => N'
  have e1 : ((i + n : Nat) : Int) = (i : Int) + (n : Int) := rfl
  rw [e1] at N'
  rw [sl_kn] at N'
  exact ⟨_, _, rfl, StR.mk' F' N' (by walk_at "mem") (by kst_all)⟩
set_option maxHeartbeats 1000000 in
theorem p8 {prog : Program} {w : World} {A : Around} {s : Shared}
    {loose : List Str} {mean : ExcName → Option Value} {mg mb : Str → Option Value} {h₀ : Heap} {L a c : Addr} {cd : Value} {oc : Obj} {x : Str} {t : Tok} {led : List (Addr × Obj)} {m : Str → Option Value} {v2 v4 : Value}
    {g : Pc} {nm qual : Str} {prm : Arguments} {dec : List Expr} {ret : Option Expr} {tp : List TypeParam} {scope : Scope} {ts : Option Scope} {bd : Str} {ps : Pos}
    (hb : innerSt w.params = some (.FunctionDef nm prm g.body dec ret tp scope ts bd ps))
    (X : (hd.heap_39 w.params).In h₀) (T : Top topProg loose mean mg mb h₀) (hroom : A.depth < recursionLimit) (hh : A.handled = none)
    (hoc : h₀.get? c = some oc) (hod : oc.data = .cell (some (.str x t))) (hx : x.length ≤ 1000) 
    (F : Fr h₀ L s.heap (kstB m [("string_end", v2), ("i", v4)])) (N : News h₀ L s.heap led) :
    wpAny (model prog w) A (execs [g.s15, g.s16] (envX qual scope L a cd [("s", c)])) (CutN fun s' => StR h₀ L led [("string_start", v4), ("string_end", v2), ("in_fmt", .bool false), ("i", v4)] s s') (fun _ _ => False) s := by
  obtain ⟨a1, a2, a3, a4, test, c1, c2, y1, q1, q2, q3, q4, u1, u2, u3, u4, s1, s2, s3, s4, s5, s6, s7, s8, s9, s10, s11, s12, s13, y2, q5, q6, s15, s16, p1, pw, c3, r1, q7⟩ := g
  rw [show innerSt w.params = some _ from rfl] at hb
  unfold Pc.body at hb
  dsimp only at hb
  cases hb
  obtain ⟨ah, ad, af, ag, au⟩ := A
  obtain rfl : ah = none := hh
  repeat' walk_at "go1"
  rename Fr _ _ _ _ => F'
  rename News _ _ _ _ => N'
  exact ⟨rfl, StR.mk' F' N' (by walk_at "mem") (by kst_all)⟩
set_option maxHeartbeats 1000000 in
theorem p9 {prog : Program} {w : World} {A : Around} {s : Shared}
    {loose : List Str} {mean : ExcName → Option Value} {mg mb : Str → Option Value} {h₀ : Heap} {L a c : Addr} {cd : Value} {oc : Obj} {x : Str} {t : Tok} {led : List (Addr × Obj)} {m : Str → Option Value} {bb : Bool}
    {g : Pc} {nm qual : Str} {prm : Arguments} {dec : List Expr} {ret : Option Expr} {tp : List TypeParam} {scope : Scope} {ts : Option Scope} {bd : Str} {ps : Pos}
    (hb : innerSt w.params = some (.FunctionDef nm prm g.body dec ret tp scope ts bd ps))
    (X : (hd.heap_39 w.params).In h₀) (T : Top topProg loose mean mg mb h₀) (hroom : A.depth < recursionLimit) (hh : A.handled = none)
    (hoc : h₀.get? c = some oc) (hod : oc.data = .cell (some (.str x t))) (hx : x.length ≤ 1000) 
    (F : Fr h₀ L s.heap (kstB m [("in_fmt", .bool bb)])) (N : News h₀ L s.heap led) :
    wpAny (model prog w) A (isTrue g.c3 (envX qual scope L a cd [("s", c)]) (eval g.c3 (envX qual scope L a cd [("s", c)]))) (CutV fun b s' => b = bb ∧ StR h₀ L led [("in_fmt", .bool bb)] s s') (fun _ _ => False) s := by
  obtain ⟨a1, a2, a3, a4, test, c1, c2, y1, q1, q2, q3, q4, u1, u2, u3, u4, s1, s2, s3, s4, s5, s6, s7, s8, s9, s10, s11, s12, s13, y2, q5, q6, s15, s16, p1, pw, c3, r1, q7⟩ := g
  rw [show innerSt w.params = some _ from rfl] at hb
  unfold Pc.body at hb
  dsimp only at hb
  cases hb
  obtain ⟨ah, ad, af, ag, au⟩ := A
  obtain rfl : ah = none := hh
  repeat' walk_at "go1"
  rename Fr _ _ _ _ => F'
  rename News _ _ _ _ => N'
  exact ⟨rfl, StR.mk' F' N' (by walk_at "mem") (by kst_all)⟩
set_option maxHeartbeats 1000000 in
theorem p10 {prog : Program} {w : World} {A : Around} {s : Shared}
    {loose : List Str} {mean : ExcName → Option Value} {mg mb : Str → Option Value} {h₀ : Heap} {L a c : Addr} {cd : Value} {oc : Obj} {x : Str} {t : Tok} {led : List (Addr × Obj)} {m : Str → Option Value} 
    {g : Pc} {nm qual : Str} {prm : Arguments} {dec : List Expr} {ret : Option Expr} {tp : List TypeParam} {scope : Scope} {ts : Option Scope} {bd : Str} {ps : Pos}
    (hb : innerSt w.params = some (.FunctionDef nm prm g.body dec ret tp scope ts bd ps))
    (X : (hd.heap_39 w.params).In h₀) (T : Top topProg loose mean mg mb h₀) (hroom : A.depth < recursionLimit) (hh : A.handled = none)
    (hoc : h₀.get? c = some oc) (hod : oc.data = .cell (some (.str x t))) (hx : x.length ≤ 1000) 
    (F : Fr h₀ L s.heap (m)) (N : News h₀ L s.heap led) :
    wpAny (model prog w) A (exec g.r1 (envX qual scope L a cd [("s", c)])) (fun _ _ => False) (fun v s' => ∃ e h' tk, v = .ref e ∧ Heap.NewExc s.heap h' e "ValueError" ∧ s' = { s with heap := h', toks := tk }) s := by
  obtain ⟨a1, a2, a3, a4, test, c1, c2, y1, q1, q2, q3, q4, u1, u2, u3, u4, s1, s2, s3, s4, s5, s6, s7, s8, s9, s10, s11, s12, s13, y2, q5, q6, s15, s16, p1, pw, c3, r1, q7⟩ := g
  rw [show innerSt w.params = some _ from rfl] at hb
  unfold Pc.body at hb
  dsimp only at hb
  cases hb
  obtain ⟨ah, ad, af, ag, au⟩ := A
  obtain rfl : ah = none := hh
  refine wpAny_Raise_call PySem.F.excCall_ValueError PySem.F.excRaise_ValueError rfl rfl ?_
  walk_at "go1"
  refine ⟨rfl, ?_⟩
  refine Calls.evalArgs_plain (spliced_more (Calls.Constant_str ?_))
  refine spliced_none ?_
  refine ⟨rfl, by size_fits, fun h' e hm => ?_⟩
  obtain ⟨t5, h5, h5n, h5t⟩ := hm.there
  exact ⟨e, h', _, rfl, ⟨hm.keeps, hm.new, _, _, h5, rfl, rfl⟩, rfl⟩
end Mine
end

section
open PySem PySem.W PyProof.Rows PySem.Calls
namespace Mine
def Kf : Flow → Sem Fin := fun f => .pure (.done (.ret (match f with | .ret v => v | _ => .none)))
def Hf (env : Env) : Value → Sem Fin := fun e => (leaving env e).wrap (fun _ => .raise e) .raise id id
def K1 (g : Pc) (env : Env) : Flow → Sem Fin := fun f => match f with | .next => (execs [.If g.c3 [g.r1] [] g.q7] env).wrap Kf (Hf env) id id | f => Kf f
def kW (g : Pc) (env : Env) : Result → Sem Fin := fun r => ((match r with | .ok f => (.pure f : Sem Flow) | .error e => .raise e).onRaise fun (x : Value) => do
        if (← field x 1) == Value.none then unsupported "frame.own-activation:exception-without-traceback"
        setFlight x env.frame).wrap (K1 g env) (Hf env) id id
def fsW (g : Pc) (env : Env) (p : Pos) : List Frame := [.ret (kW g env) none false [] (.func g.body env) p []]
def wBody (g : Pc) : List Stmt := [.If g.c1 [.If g.c2 [.Expr (.Yield (some g.y1) g.q1) g.q2, .Return none g.q3] [g.u1, g.u2, g.u3, g.u4] g.q4]
  ([g.s1, g.s2, g.s3, g.s4, g.s5, g.s6, g.s7, g.s8, g.s9, g.s10] ++ g.s11 :: ([g.s12, g.s13] ++ .Expr (.Yield (some g.y2) g.q5) g.q6 :: [g.s15, g.s16])) g.p1]
def cW (g : Pc) (env : Env) : Code := .whileLoop g.test (wBody g) [] env
theorem fmtOf_nil : fmtOf [] = none := by decide


section
variable {M : Model} {A : Around} {R : GenEnd} {Y : Protocol} {n : Nat} {s₀ : Shared} {c : Code} {s : Shared} {g : Pc} {env : Env} {outer : List Env} {B : Heap} {C : Addr} {e : Addr} {cls a0 : Value}
theorem kW_err (x : Value) : kW g env (.error x) = ((do
        if (← field x 1) == Value.none then unsupported "frame.own-activation:exception-without-traceback"
        setFlight x env.frame : Sem Unit)).wrap (fun _ => Hf env x) (Hf env) id id := by
  show ((Sem.raise x : Sem Flow).onRaise _).wrap _ _ _ _ = _
  rw [Sem.onRaise_eq_wrap]
  show (((_ : Sem Unit)).bind fun _ => (Sem.raise x : Sem Flow)).wrap _ _ _ _ = _
  rw [Sem.bind_eq_wrap, Sem.wrap_wrap]
  rfl
theorem seg_held (hf : env.frame = some C) (hh : Heap.HeldW B (env :: outer) e cls a0 C s.heap)
    (hR : ∀ h', Heap.FlyingW B outer e cls a0 h' → s.heap.UpToSlots h' → R n s₀ (.error (.ref e)) { s with heap := h' }) : Seg M A R Y n s₀ c (Hf env (.ref e)) [] s := by
  unfold Hf
  refine seg_wrap ?_
  unfold leaving
  refine wpAny_bind (wpAny_noteFrame_againW hf hh.2.2.2 ?_)
  refine wpAny_landsW hh fun h' hfl sm => ?_
  obtain ⟨k1, k2, ⟨_, _, k3⟩, k4⟩ := hfl
  exact seg_end (.error (.ref e)) (hR h' ⟨k1, k2, k3, k4⟩ sm)
theorem seg_held' (hf : env.frame = some C) (hh : Heap.HeldW B (env :: outer) e cls a0 C s.heap)
    (hR : ∀ h', Heap.FlyingW B outer e cls a0 h' → s.heap.UpToSlots h' → R n s₀ (.error (.ref e)) { s with heap := h' }) : Seg M A R Y n s₀ c (kW g env (.error (.ref e))) [] s := by
  rw [kW_err]
  have x' := hh
  obtain ⟨x1, x2, x3, oe, vs, T, oT, ts, he, hcls, hd, h1, hnT, hTe, hT, hdT, h3⟩ := x'
  refine seg_wrap (wpAny_bind (wpAny_field he hd h1 ?_))
  rw [if_neg (show ¬ ((Value.ref T == Value.none) = true) from by simp)]
  rw [hf]
  refine flight_held hh fun h' hh' sm => ?_
  exact seg_held hf hh' fun h2 x2 sm2 => hR h2 x2 (sm.trans sm2)
theorem seg_newx {h₁ : Heap} {cls : String} (hfr : (A.over c []).frames = some (env :: outer)) (hf : env.frame = some C) (hkb : B.StaysIn h₁) (hl : h₁.FunFrames B (env :: outer)) (hx : Heap.NewExc h₁ s.heap e cls)
    (hR : ∀ h' a0, Heap.FlyingW B outer e (.type cls) a0 h' → s.heap.UpToSlots h' → R n s₀ (.error (.ref e)) { s with heap := h' }) : Seg M A R Y n s₀ c (Hf env (.ref e)) [] s := by
  obtain ⟨ob, tp, he, hcls, hd⟩ := hx.there
  have hen : B.get? e = none := fresh_of_stays hkb hx.new
  unfold Hf
  refine seg_wrap (wpAny_leaving_firstW (a0 := tp) hfr (hl.of_keeps fun b o hb _ => ⟨o, hx.keeps b o hb, rfl⟩) hf he (fun b o hb => hx.keeps b o (hkb b o hb)) hen hd rfl rfl fun h' hL => ?_)
  obtain ⟨k1, ⟨_, _, k2⟩, k3, k4⟩ := hL
  exact seg_end (.error (.ref e)) (hR h' tp ⟨k1, hen, k2, by rw [← hcls]; exact k3⟩ k4)
end

abbrev gEnv (qual : Str) (scope : Scope) (C a c : Addr) (cd : Value) : Env := envX qual scope C a cd [("s", c)]

set_option maxHeartbeats 2000000 in
theorem gen_loop {prog : Program} {w : World} {ad : Nat} {ag : Option (List Code)} {au : Nat} {outer : List Env}
    {loose : List Str} {mean : ExcName → Option Value} {mg mb : Str → Option Value} {B : Heap} {C a c : Addr} {cd : Value} {oc : Obj} {x : Str} {t : Tok} {rows : List Dat} {fin : Bool}
    {g : Pc} {nm qual : Str} {prm : Arguments} {dec : List Expr} {ret : Option Expr} {tp : List TypeParam} {scope : Scope} {ts : Option Scope} {bd : Str} {ps : Pos}
    (hb : innerSt w.params = some (.FunctionDef nm prm g.body dec ret tp scope ts bd ps))
    (X : (hd.heap_39 w.params).In B) (T : Top topProg loose mean mg mb B) (hroom : ad + 1 < recursionLimit) 
    (hoc : B.get? c = some oc) (hod : oc.data = .cell (some (.str x t))) (hx : x.length ≤ 1000) (hCo : C ∉ outer.filterMap (·.frame)) (hCB : B.objs.size ≤ C)
    (hkind : scope.kind = .function) (hco : scope.isCoroutine = false) :
    ∀ k i, x.length - i < k → i ≤ x.length → 
    (∀ (s₀ s : Shared) (p : Pos) (pre : List Dat) (t1 t2 : Tok) (v2 : Value), s₀.heap.FunFrames B outer → B.StaysIn s₀.heap →
      rows = pre ++ (rdg (x.cps.toList.drop i)).1 → fin = (rdg (x.cps.toList.drop i)).2 →
      StR B C (others B C s₀.heap) [("string_start", .int (i : Nat) t1), ("string_end", v2), ("in_fmt", .bool false), ("i", .int (i : Nat) t2)] s₀ s →
      Seg (model prog w) ⟨none, ad, some outer, ag, au⟩ (RP fin B C outer) (YP rows B C outer) (rdg (x.cps.toList.drop i)).1.length s₀ (cW g (gEnv qual scope C a c cd)) ((model prog w).den (cW g (gEnv qual scope C a c cd))) (fsW g (gEnv qual scope C a c cd) p) s) ∧
    (∀ (s₀ s : Shared) (p : Pos) (pre : List Dat) (t1 t2 t3 : Tok) (st : Nat), s₀.heap.FunFrames B outer → B.StaysIn s₀.heap → 37 ∈ x.cps.toList.drop st → i = st + (cut 37 (x.cps.toList.drop st)).length + 1 →
      rows = pre ++ (rdg (x.cps.toList.drop st)).1 → fin = (rdg (x.cps.toList.drop st)).2 →
      StR B C (others B C s₀.heap) [("string_start", .int (st : Nat) t1), ("string_end", .int ((st + (cut 37 (x.cps.toList.drop st)).length : Nat) : Int) t2), ("in_fmt", .bool true), ("i", .int (i : Nat) t3)] s₀ s →
      Seg (model prog w) ⟨none, ad, some outer, ag, au⟩ (RP fin B C outer) (YP rows B C outer) (rdg (x.cps.toList.drop st)).1.length s₀ (cW g (gEnv qual scope C a c cd)) ((model prog w).den (cW g (gEnv qual scope C a c cd))) (fsW g (gEnv qual scope C a c cd) p) s) := by
  intro k
  induction k with
  | zero => intro i hik; omega
  | succ k ih =>
    intro i hik hi
    have hslen := slen x
    constructor
    · rintro s₀ s p pre t1 t2 v2 hfun hst hrows hfin ⟨h1, tk1, m1, rfl, F, N⟩
      refine seg_whileLoop ?_
      refine wpAny_mono (p1 hb X T hroom rfl hoc hod hx F N) ?_ (fun _ _ q => q.elim)
      rintro b s' ⟨hbv, h2, tk2, m2, rfl, F2, N2⟩
      clear F N
      by_cases hlt : i < x.length
      · have : b = true := by rw [hbv]; exact decide_eq_true hlt
        subst this
        rw [if_pos rfl]
        refine seg_execs_cons (seg_If ?_)
        refine wpAny_mono (p2 hb X T hroom rfl hoc hod hx F2 N2) ?_ (fun _ _ q => q.elim)
        rintro b s' ⟨rfl, h3, tk3, m3, rfl, F3, N3⟩
        clear F2 N2
        rw [if_pos (show (!false) = true from rfl)]
        refine seg_execs_cons (seg_If ?_)
        refine wpAny_mono (p3 hb X T hroom rfl hoc hod hx hi F3 N3) ?_ (fun _ _ q => q.elim)
        rintro b s' ⟨rfl, h4, tk4, m4, rfl, F4, N4⟩
        clear F3 N3
        by_cases h37 : 37 ∈ x.cps.toList.drop i
        · rw [if_neg (by simp [h37])]
          have hcl := cut_length_lt h37
          rw [List.length_drop] at hcl
          refine seg_app (l₁ := [g.u1, g.u2, g.u3, g.u4]) (l₂ := []) (p5 hb X T hroom rfl hoc hod hx hi h37 F4 N4) ?_ (fun _ _ q => q.elim)
          rintro s' ⟨t5, t6, h5, tk5, m5, rfl, F5, N5⟩
          clear F4 N4
          refine seg_again rfl ?_
          exact (ih _ (by omega) (by omega)).2 s₀ _ p pre _ _ _ i hfun hst h37 rfl hrows hfin ⟨h5, tk5, m5, rfl, F5, N5⟩
        · rw [if_pos (by simp [h37])]
          have hne : x.cps.toList.drop i ≠ [] := fun e => by
            have := congrArg List.length e
            rw [List.length_drop, List.length_nil] at this
            omega
          have hr := rdg_last hne h37
          rw [hr] at hrows hfin ⊢
          refine seg_execs_cons (seg_Expr_Yield (n := 0) rfl rfl rfl ?_ hco (by simp [interactive, hkind]))
          refine wpAny_mono (p4 hb X T hroom rfl hoc hod hx hi F4 N4) ?_ (fun _ _ q => q.elim)
          rintro v s' ⟨D, t', rfl, h5, tk5, m5, rfl, F5, N5⟩
          clear F4 N4
          intro kap hkap
          refine ⟨⟨_, _, rfl⟩, others_keep hst F5.keep (fun p hp => N5 p (List.mem_cons_of_mem _ hp)), F5.keep, ⟨[(D, _)], _, pre, [], hrows, rfl, .tuple (n := 0) List.mem_cons_self (.cons (.str _ t') (.cons .none .nil)), fun p hp => ?_⟩, fun s'' k1 k2 k3 => hkap .none s'' ?_⟩
          · rw [List.mem_singleton.mp hp]
            exact ⟨(N5 _ List.mem_cons_self).1, (N5 _ List.mem_cons_self).2.1, (N5 _ List.mem_cons_self).2.2, _, _, rfl⟩
          · refine seg_execs_cons (seg_wrap (wpAny_Return_none ?_))
            refine seg_leaf (.ok (.ret .none)) ?_
            exact seg_end (.ok (.ret .none)) ⟨rfl, ⟨_, _, rfl⟩, .inl ⟨hfin, rfl, k1, fun _ _ _ e => e⟩⟩
      · have hnil : x.cps.toList.drop i = [] := List.drop_of_length_le (by omega)
        have : b = false := by rw [hbv]; exact decide_eq_false hlt
        subst this
        rw [if_neg Bool.false_ne_true]
        rw [hnil, rdg_nil] at hrows hfin ⊢
        refine seg_leaf (.ok .next) ?_
        refine seg_execs_cons (seg_If ?_)
        refine wpAny_mono (p9 (bb := false) hb X T hroom rfl hoc hod hx (fr_over [("in_fmt", .bool false)] F2 (by kst_all)) N2) ?_ (fun _ _ q => q.elim)
        rintro b s' ⟨rfl, h3, tk3, m3, rfl, F3, N3⟩
        rw [if_neg Bool.false_ne_true]
        exact seg_end (.ok (.ret .none)) ⟨rfl, ⟨_, _, rfl⟩, .inl ⟨hfin, rfl, F3.keep, others_keep hst F3.keep N3⟩⟩
    · rintro s₀ s p pre t1 t2 t3 st hfun hst h37 hie hrows hfin ⟨h1, tk1, m1, rfl, F, N⟩
      have hdr : x.cps.toList.drop i = (x.cps.toList.drop st).drop ((cut 37 (x.cps.toList.drop st)).length + 1) := by
        rw [List.drop_drop, hie, Nat.add_assoc]
      refine seg_whileLoop ?_
      refine wpAny_mono (p1 hb X T hroom rfl hoc hod hx F N) ?_ (fun _ _ q => q.elim)
      rintro b s' ⟨hbv, h2, tk2, m2, rfl, F2, N2⟩
      clear F N
      have upC : ∀ b, b ∈ outer.filterMap (·.frame) → b ≠ C := fun b hm e => hCo (e ▸ hm)
      by_cases hlt : i < x.length
      · have : b = true := by rw [hbv]; exact decide_eq_true hlt
        subst this
        rw [if_pos rfl]
        refine seg_execs_cons (seg_If ?_)
        refine wpAny_mono (p2 hb X T hroom rfl hoc hod hx F2 N2) ?_ (fun _ _ q => q.elim)
        rintro b s' ⟨rfl, h3, tk3, m3, rfl, F3, N3⟩
        clear F2 N2
        rw [if_neg (show ¬ ((!true) = true) from Bool.false_ne_true)]
        refine seg_app (blk1 hb X T hroom rfl hoc hod hx hi F3 N3) ?_ (fun _ _ q => q.elim)
        rintro s' ⟨j, tj, kv, fv, wv, pv, kd, fl, wd, pr, hj, hkv, hfv, hwv, hpv, hfmt, h4, tk4, m4, rfl, F4, N4⟩
        clear F3 N3
        rw [hdr] at hfmt
        have hfl : (⟨h4, s₀.gens, s₀.drawn, tk4, s₀.os⟩ : Shared).heap.FunFrames (bare2 C outer s₀.heap) outer := funFrames_at (fun b hm o ho => others_keep hst F4.keep N4 b o (upC b hm) ho) (bare2_frames hfun)
        refine seg_st (try_stmt hb X T hroom rfl hoc hod hx hj rfl (bare2_up hst (kts_self F4) hfun) (bare2_stays (others_keep hst F4.keep N4)) bare2_self hfl F4 N4) ?_ ?_
        · rintro s' ⟨ch, r, tc, hch, h5, tk5, m5, rfl, F5, N5⟩
          rw [hch] at hfmt
          have hg := rdg_go h37 hfmt
          have hjl : j < x.length := by
            rcases Nat.lt_or_ge j x.length with q | q
            · exact q
            · rw [List.drop_of_length_le (by omega)] at hch; cases hch
          have hr : x.cps.toList.drop (j + 1) = r := by
            have : (x.cps.toList.drop j).drop 1 = r := by rw [hch]; rfl
            rw [List.drop_drop] at this; exact this
          have hij : i < j + 1 := by
            have := fmtOf_len hfmt
            rw [← hdr, ← hr, List.length_drop, List.length_drop] at this
            omega
          refine seg_app (l₁ := [g.s12, g.s13]) (p6 hb X T hroom rfl hoc hod hx hj F5 N5) ?_ (fun _ _ q => q.elim)
          rintro s' ⟨D1, t', h6, tk6, m6, rfl, F6, N6⟩
          clear F5 N5 F4 N4
          rw [hg] at hrows hfin ⊢
          refine seg_execs_cons (seg_Expr_Yield (n := (rdg r).1.length) rfl rfl rfl ?_ hco (by simp [interactive, hkind]))
          have hcl := cut_length_lt h37
          rw [List.length_drop] at hcl
          refine wpAny_mono (p7 hb X T hroom rfl hoc hod hx (by omega) F6 N6) ?_ (fun _ _ q => q.elim)
          rintro v s' ⟨D, t'', rfl, h7, tk7, m7, rfl, F7, N7⟩
          clear F6 N6
          rw [cut_take] at N7
          intro kap hkap
          have nn : ∀ (l : List (Addr × Obj)), ∀ p ∈ ([] : List (Addr × Obj)), p ∈ l := fun l p hp => nomatch hp
          refine ⟨⟨_, _, rfl⟩, others_keep hst F7.keep (fun p hp => N7 p (List.mem_cons_of_mem _ (List.mem_cons_of_mem _ hp))), F7.keep, ⟨[(D, _), (D1, _)], _, pre, (rdg r).1, hrows, rfl, .tuple (n := 0) List.mem_cons_self (.cons (.str _ t'') (.cons (.tuple (n := 0) (List.mem_cons_of_mem _ List.mem_cons_self) (.cons (hkv.mono (nn _)) (.cons (hfv.mono (nn _)) (.cons (hwv.mono (nn _)) (.cons (hpv.mono (nn _)) (.cons (.str _ tc) .nil)))))) .nil)), fun p hp => ?_⟩, fun s'' k1 k2 k3 => hkap .none s'' ?_⟩
          · rcases List.mem_cons.mp hp with hp | hp
            · rw [hp]
              exact ⟨(N7 _ List.mem_cons_self).1, (N7 _ List.mem_cons_self).2.1, (N7 _ List.mem_cons_self).2.2, _, _, rfl⟩
            · rw [List.mem_singleton.mp hp]
              exact ⟨(N7 _ (List.mem_cons_of_mem _ List.mem_cons_self)).1, (N7 _ (List.mem_cons_of_mem _ List.mem_cons_self)).2.1, (N7 _ (List.mem_cons_of_mem _ List.mem_cons_self)).2.2, _, _, rfl⟩
          · have F8 : Fr B C s''.heap (kstB m7 [("string_end", .int ((st + (cut 37 (x.cps.toList.drop st)).length : Nat) : Int) t2), ("i", .int ((j + 1 : Nat) : Int) t')]) := ⟨F7.ns.at' fun o e => k2 o e, k1, F7.above⟩
            refine seg_app (l₁ := [g.s15, g.s16]) (l₂ := []) (p8 hb X T hroom rfl hoc hod hx F8 (others_news (B := B) (C := C) (h := s''.heap))) ?_ (fun _ _ q => q.elim)
            rintro s9 ⟨h9, tk9, m9, rfl, F9, N9⟩
            refine seg_again rfl ?_
            have z := (ih (j + 1) (by omega) (by omega)).1 s'' { s'' with heap := h9, toks := tk9 } p (pre ++ [Dat.tuple [.str ⟨(cut 37 (x.cps.toList.drop st)).toArray⟩, Dat.tuple [kd, orNone fl, orNone wd, orNone pr, .str ⟨#[ch]⟩]]]) t' t' _ k3 k1 (by rw [hr, hrows, List.append_assoc]; rfl) (by rw [hr]; exact hfin) ⟨h9, tk9, m9, rfl, F9, N9⟩
            rw [hr] at z
            exact z
        · rintro v s' ⟨hnil, e, a0, h5, tk5, rfl, rfl, hheld, hsm⟩
          rw [hnil] at hfmt
          have hg := rdg_bad h37 hfmt
          rw [hg] at hrows hfin ⊢
          refine seg_wrap (wpAny_bind (wpAny_noteFrame_againW rfl hheld.2.2.2 (wpAny_theTreesLotGoes ?_)))
          refine seg_leaf (.error (.ref e)) ?_
          refine seg_held' rfl hheld fun h6 hfly sm6 => ?_
          refine ⟨rfl, ⟨_, _, rfl⟩, .inr ⟨hfin, e, a0, rfl, hfly, fun b o hC ho hnf => ?_⟩⟩
          exact (hsm.trans sm6) b o (others_keep hst F4.keep N4 b o hC ho) hnf
      · have hnil : x.cps.toList.drop i = [] := List.drop_of_length_le (by omega)
        have : b = false := by rw [hbv]; exact decide_eq_false hlt
        subst this
        rw [if_neg Bool.false_ne_true]
        have hg := rdg_bad h37 (by rw [← hdr, hnil]; exact fmtOf_nil)
        rw [hg] at hrows hfin ⊢
        refine seg_leaf (.ok .next) ?_
        refine seg_execs_cons (seg_If ?_)
        refine wpAny_mono (p9 (bb := true) hb X T hroom rfl hoc hod hx (fr_over [("in_fmt", .bool true)] F2 (by kst_all)) N2) ?_ (fun _ _ q => q.elim)
        rintro b s' ⟨rfl, h3, tk3, m3, rfl, F3, N3⟩
        rw [if_pos rfl]
        refine seg_execs_cons (seg_wrap ?_)
        refine wpAny_mono (p10 hb X T hroom rfl hoc hod hx F3 N3) (fun _ _ q => q.elim) ?_
        rintro v s' ⟨e, h4, tk4, rfl, hx4, rfl⟩
        have hfl : h3.FunFrames (bare2 C outer s₀.heap) outer := funFrames_at (fun b hm o ho => others_keep hst F3.keep N3 b o (upC b hm) ho) (bare2_frames hfun)
        refine seg_newx (B := bare2 C outer s₀.heap) (C := C) rfl rfl (bare2_stays (others_keep hst F3.keep N3)) (Heap.FunFrames.cons (by intro q; cases hkind.symm.trans q) rfl F3.ns bare2_self hfl) hx4 fun h5 a0 hfly sm => ?_
        refine ⟨rfl, ⟨_, _, rfl⟩, .inr ⟨hfin, e, a0, rfl, hfly, fun b o hC ho hnf => ?_⟩⟩
        exact sm b o (hx4.keeps b o (others_keep hst F3.keep N3 b o hC ho)) hnf
end Mine
end

section
open PySem PySem.W PyProof.Rows PySem.Calls
namespace Mine
theorem gen_seg {prog : Program} {w : World} {ad : Nat} {ag : Option (List Code)} {au : Nat} {outer : List Env} {s : Shared} {m : Str → Option Value}
    {loose : List Str} {mean : ExcName → Option Value} {mg mb : Str → Option Value} {B : Heap} {C a c : Addr} {cd : Value} {oc : Obj} {x : Str} {t : Tok}
    {g : Pc} {nm qual : Str} {prm : Arguments} {dec : List Expr} {ret : Option Expr} {tp : List TypeParam} {scope : Scope} {ts : Option Scope} {bd : Str} {ps : Pos}
    (hb : innerSt w.params = some (.FunctionDef nm prm g.body dec ret tp scope ts bd ps))
    (X : (hd.heap_39 w.params).In B) (T : Top topProg loose mean mg mb B) (hroom : ad + 1 < recursionLimit) 
    (hoc : B.get? c = some oc) (hod : oc.data = .cell (some (.str x t))) (hx : x.length ≤ 1000) (hCo : C ∉ outer.filterMap (·.frame))
    (hkind : scope.kind = .function) (hco : scope.isCoroutine = false) (hfun : s.heap.FunFrames B outer) (F : Fr B C s.heap m) :
    Seg (model prog w) ⟨none, ad, some outer, ag, au⟩ (RP (rdg x.cps.toList).2 B C outer) (YP (rdg x.cps.toList).1 B C outer) (rdg x.cps.toList).1.length s (.func g.body (gEnv qual scope C a c cd)) ((model prog w).den (.func g.body (gEnv qual scope C a c cd))) [] s := by
  refine seg_func ?_
  refine seg_app (l₁ := [g.a1, g.a2, g.a3, g.a4]) (p0 hb X T hroom rfl hoc hod hx F others_news) ?_ (fun _ _ q => q.elim)
  rintro s' ⟨t1, t2, t4, h1, tk1, m1, rfl, F1, N1⟩
  refine seg_execs_cons (seg_While fun p => ?_)
  exact (gen_loop (rows := (rdg x.cps.toList).1) (fin := (rdg x.cps.toList).2) hb X T hroom hoc hod hx hCo F.above hkind hco (x.length + 1) 0 (by omega) (Nat.zero_le _)).1 s _ p [] t1 t4 _ hfun F.keep rfl rfl ⟨h1, tk1, m1, rfl, F1, N1⟩
end Mine
end

section
open PySem PySem.W PyProof.Rows PySem.Calls
open Sem (wp)
namespace Mine
theorem isSubtype_vs : isSubtype (.type "ValueError") (.type "StopIteration") = pure false := by rw [isSubtype_type]; kernel_rfl
section
variable {prog : Program} {w : World} {A : Around} {E : Value → Shared → Prop} {s : Shared}
theorem next_gen {a : Addr} {g n : Nat} {gs : GenState} {R : GenEnd} {Y : Protocol} {Q : Option Value → Shared → Prop} (hh : A.handled = none)
    (hl : s.heap.NoLimit) (hroom : A.depth < recursionLimit)
    (hg : s.heap.IsGen a g) (hgs : s.gens[g]? = some gs)
    (hgo : gs.Goes (model prog w) A.in1 R Y n (.send .none) (s.setGen g .running))
    (hY : ∀ v s₁ gs', gs'.bare = true → Y (n - 1) (s.setGen g .running) v s₁ (fun r' s'' => match n with
        | 0 => False
        | m + 1 => gs'.Goes (model prog w) A.in1 R Y m r' s'') → Q (some v) (s₁.setGen g gs'))
    (hR : ∀ r s₁, R n (s.setGen g .running) r s₁ → (r = .ok (.ret .none) ∧ ∀ h', (∀ b o, s₁.heap.get? b = some o → h'.get? b = some o) → Q none { s₁.setGen g .finished with heap := h' }) ∨
      (∃ e, r = .error (.ref e) ∧ s₁.TypeIs (.ref e) "ValueError" ∧ s₁.heap.IsGen a g ∧ E (.ref e) (s₁.setGen g .finished))) :
    wpAny (model prog w) A (pyNext (.ref a)) Q E s := by
  unfold pyNext
  refine wpAny_bind (wpAny_attempt (wpAny_callSpecial?_slot (name := Str.ofString "__next__") hg.typeIs slot_gen_next
    (wpAny_call_entry slot_gen_next hg.typeIs entry_gen_next ?_ (args_gen_next _))))
  show wpAny _ A.in1 (Builtin.Generator.genWake (.ref a) (.send .none)) _ _ s
  unfold Builtin.Generator.genWake
  refine wpAny_bind (wpAny_holding (wpAny_genNumber hg (wpAny_bind (wpAny_genState hgs ?_))))
  cases gs with
  | running => exact hgo.elim
  | finished => exact hgo.elim
  | _ =>
    refine wpAny_bind (wpAny_roomToWake hl hroom ?_)
    show wpAny _ A.in1 (.resume g (.send .none) [] _) _ _ s
    refine wpAny_resumeQ hgs hgo (fun x s₁ hx => ?_) (fun v s₁ gs' hb hv => ?_)
    · rcases hR x s₁ hx with ⟨rfl, hp⟩ | ⟨e, rfl, hT, hG, hE⟩
      · show wpAny _ A.in1 (newExc (.type "StopIteration") [] >>= _) _ _ _
        refine wpAny_bind ?_
        simp only [newExc, newTuple]
        refine wpAny_bind (wpAny_newObj_type ?_ (by size_fits))
        refine wpAny_bind (m := firstArgMember _ _) (wpAny_of_eq (a := Value.none) (by first | rfl | (simp only [firstArgMember]; rfl)) ?_)
        refine wpAny_newObj_type ?_ (by size_fits)
        simp only [raiseNew]
        refine wpAny_bind (wpAny_bind (wpAny_handled ?_))
        first | rw [show A.in1.handled = none from hh] | rw [hh]
        refine wpAny_throw ?_
        refine wpAny_bind (wpAny_isInstance (T := "StopIteration") (b := true) ⟨_, Heap.get?_push_size _ rfl, rfl⟩ isSubtype_stop ?_)
        exact wpAny_pure (hp _ fun b o hb => Heap.get?_push_of_some _ (Heap.get?_push_of_some _ hb))
      · show wpAny _ A.in1 (Builtin.Generator.genLeft (.ref a) (.ref e)) _ _ _
        unfold Builtin.Generator.genLeft Builtin.Generator.madeByALambda
        obtain ⟨o, nm, qn, ho, hc, hd, hsl⟩ := hG
        have hT' : (s₁.setGen g (End.ret (Except.error (Value.ref e))).genState).TypeIs (.ref e) "ValueError" := hT
        refine wpAny_bind (wpAny_bind (m := load a) (wpAny_load (s := s₁.setGen g (End.ret (Except.error (Value.ref e))).genState) ho ?_))
        rw [hd, hc]
        refine wpAny_pure ?_
        refine wpAny_bind (wpAny_isInstance (b := false) hT' isSubtype_vs ?_)
        show wpAny _ A.in1 (Builtin.Generator.genEscaped (.ref e)) _ _ _
        unfold Builtin.Generator.genEscaped
        refine wpAny_bind (wpAny_isInstance (b := false) hT' isSubtype_vs ?_)
        refine wpAny_throw ?_
        refine wpAny_bind (wpAny_isInstance (b := false) hT' isSubtype_vs ?_)
        exact wpAny_throw hE
    · exact wpAny_pure ⟨v, rfl, wpAny_pure (hY v s₁ gs' hb hv)⟩
end
end Mine
namespace Mine
section
variable {prog : Program} {w : World}
structure GCx (B : Heap) (C S a : Addr) (g : Nat) (outer : List Env) (H : Shared) : Prop where
  stays : B.StaysIn H.heap
  bc : B.get? C = none
  frames : H.heap.FunFrames B outer
  cout : C ∉ outer.filterMap (·.frame)
  sfresh : H.heap.get? S = none
  isgen : H.heap.IsGen a g
  ac : a ≠ C
  sc : S ≠ C
  lim : B.NoLimit
structure GSt (prog : Program) (w : World) (Ag : Around) (rows : List Dat) (fin : Bool) (B : Heap) (C S a : Addr) (g : Nat) (outer : List Env) (H : Shared) (todo : List Dat) (acc : Array Value) (s : Shared) : Prop where
  rest : s.drawn = H.drawn ∧ s.os = H.os
  gens : ∃ gs, s.gens[g]? = some gs ∧ gs.bare = true ∧ GenOnly g H.gens s.gens ∧ ∀ s'' : Shared, B.StaysIn s''.heap → (∀ o, s.heap.get? C = some o → s''.heap.get? C = some o) → s''.heap.FunFrames B outer →
    gs.Goes (model prog w) Ag (RP fin B C outer) (YP rows B C outer) todo.length (.send .none) s''
  kept : ∀ b o, b ≠ C → b ≠ S → H.heap.get? b = some o → s.heap.get? b = some o
  led : ∃ led done, rows = done ++ todo ∧ DatAll led acc.toList done ∧ ∀ p ∈ led, s.heap.get? p.1 = some p.2 ∧ p.1 ≠ C ∧ B.get? p.1 = none ∧ ∃ its n, p.2 = { cls := .type "tuple", data := .seq its n }
structure GE (rows : List Dat) (B : Heap) (C S : Addr) (g : Nat) (H : Shared) (acc : Array Value) (s : Shared) : Prop where
  rest : s.drawn = H.drawn ∧ s.os = H.os
  gens : GenOnly g H.gens s.gens ∧ ∀ x, s.gens[g]? = some x → x.bare = true
  kept : ∀ b o, b ≠ C → b ≠ S → H.heap.get? b = some o → s.heap.get? b = some o
  led : ∃ led, DatAll led acc.toList rows ∧ ∀ p ∈ led, s.heap.get? p.1 = some p.2 ∧ p.1 ≠ C ∧ B.get? p.1 = none ∧ ∃ its n, p.2 = { cls := .type "tuple", data := .seq its n }
structure GX (B : Heap) (C S : Addr) (g : Nat) (outer : List Env) (H : Shared) (e : Addr) (s : Shared) : Prop where
  rest : s.drawn = H.drawn ∧ s.os = H.os
  gens : GenOnly g H.gens s.gens ∧ ∀ x, s.gens[g]? = some x → x.bare = true
  fly : ∃ B₂ a0, (∀ b o, b ≠ C → b ≠ S → b ∉ outer.filterMap (·.frame) → H.heap.get? b = some o → B₂.get? b = some o) ∧ Heap.FlyingW B₂ outer e (.type "ValueError") a0 s.heap
  slots : ∀ b o, b ≠ C → b ≠ S → H.heap.get? b = some o → (∀ vs, o.data ≠ .fields vs) → ∃ sl, s.heap.get? b = some { o with slots := sl }

variable {A Ag : Around} {E : Value → Shared → Prop} {rows : List Dat} {fin : Bool} {B : Heap} {C S a : Addr} {g : Nat} {outer : List Env} {H s : Shared} {todo ds : List Dat} {d : Dat} {acc : Array Value}
theorem GSt.stays (x : GSt prog w Ag rows fin B C S a g outer H todo acc s) (G : GCx B C S a g outer H) : B.StaysIn s.heap := fun b o q =>
  x.kept b o (fun e => by rw [e, G.bc] at q; cases q) (fun e => by have := G.stays b o q; rw [e, G.sfresh] at this; cases this) (G.stays b o q)
theorem GSt.frames (x : GSt prog w Ag rows fin B C S a g outer H todo acc s) (G : GCx B C S a g outer H) : s.heap.FunFrames B outer :=
  funFrames_at (fun b hb o ho => x.kept b o (fun e => G.cout (e ▸ hb)) (fun e => by rw [e, G.sfresh] at ho; cases ho) ho) G.frames
theorem GCx.as (G : GCx B C S a g outer H) : a ≠ S := fun e => by
  obtain ⟨o, _, _, ho, _⟩ := G.isgen
  rw [e, G.sfresh] at ho; cases ho
theorem GSt.isgen (x : GSt prog w Ag rows fin B C S a g outer H todo acc s) (G : GCx B C S a g outer H) : s.heap.IsGen a g := by
  obtain ⟨o, nm, qn, ho, r⟩ := G.isgen
  exact ⟨o, nm, qn, x.kept _ _ G.ac G.as ho, r⟩

theorem gst_item {Q : Option Value → Shared → Prop} (hA : A.in1 = Ag) (hh : A.handled = none) (hroom : A.depth < recursionLimit) (G : GCx B C S a g outer H)
    (x : GSt prog w Ag rows fin B C S a g outer H (d :: ds) acc s)
    (hQ : ∀ v s', GSt prog w Ag rows fin B C S a g outer H ds (acc.push v) s' → (∀ o, s.heap.get? S = some o → s'.heap.get? S = some o) → Q (some v) s') :
    wpAny (model prog w) A (pyNext (.ref a)) Q E s := by
  subst hA
  obtain ⟨gs, hgs, hbare, honly, hgo⟩ := x.gens
  obtain ⟨led, done, hrows, hdat, hled⟩ := x.led
  refine next_gen hh (G.lim.keeps (x.stays G)) hroom (x.isgen G) hgs (hgo (s.setGen g .running) (x.stays G) (fun _ e => e) (x.frames G)) (fun v s₁ gs' hb hy => ?_) (fun r s₁ hr => ?_)
  · obtain ⟨⟨h', tk, rfl⟩, keep, hst, ⟨led', d', pre, post, hrows', hpost, hdat', hled'⟩, hkap⟩ := hy
    have hsp : done ++ d :: ds = pre ++ d' :: post := hrows.symm.trans hrows'
    have hlen : (d :: ds).length = (d' :: post).length := by
      simp only [List.length_cons] at hpost ⊢
      omega
    obtain ⟨h1, h2⟩ := List.append_inj' hsp hlen
    obtain ⟨rfl, rfl⟩ := List.cons.inj h2
    refine hQ v _ ⟨x.rest, ⟨gs', setGen_self (s := s.setGen g .running) (setGen_self hgs), hb, (honly.trans (GenOnly.setGen s g _)).trans (GenOnly.setGen (s.setGen g .running) g gs'), fun s'' k1 k2 k3 => hkap s'' k1 k2 k3⟩, fun b o hC hS ho => keep b o hC (x.kept b o hC hS ho), led ++ led', done ++ [d], by rw [hrows]; simp, ?_, fun p hp => ?_⟩ (fun o ho => keep S o G.sc ho)
    · rw [Array.toList_push]
      exact DatAll.append (hdat.mono fun p hp => List.mem_append_left _ hp) (.one (hdat'.mono fun p hp => List.mem_append_right _ hp))
    · rcases List.mem_append.mp hp with hp | hp
      · exact ⟨keep _ _ (hled p hp).2.1 (hled p hp).1, (hled p hp).2⟩
      · exact hled' p hp
  · exact absurd hr.1 (by simp)

theorem gst_end {Q : Option Value → Shared → Prop} (hA : A.in1 = Ag) (hh : A.handled = none) (hroom : A.depth < recursionLimit) (G : GCx B C S a g outer H)
    (x : GSt prog w Ag rows fin B C S a g outer H [] acc s)
    (hQ : fin = false → ∀ s', GE rows B C S g H acc s' → (∀ o, s.heap.get? S = some o → s'.heap.get? S = some o) → Q none s')
    (hE : fin = true → ∀ e s', GX B C S g outer H e s' → E (.ref e) s') :
    wpAny (model prog w) A (pyNext (.ref a)) Q E s := by
  subst hA
  obtain ⟨gs, hgs, hbare, honly, hgo⟩ := x.gens
  obtain ⟨led, done, hrows, hdat, hled⟩ := x.led
  have hgen : ∀ s₁ : Shared, s₁.gens = (s.setGen g .running).gens → GenOnly g H.gens (s₁.setGen g .finished).gens ∧ ∀ y, (s₁.setGen g .finished).gens[g]? = some y → y.bare = true := fun s₁ e => by
    have h1 : s₁.gens[g]? = some .running := by rw [e]; exact setGen_self hgs
    refine ⟨(honly.trans (GenOnly.setGen s g _)).trans (e ▸ GenOnly.setGen s₁ g .finished), fun y hy => ?_⟩
    rw [setGen_self h1] at hy; cases hy; rfl
  refine next_gen hh (G.lim.keeps (x.stays G)) hroom (x.isgen G) hgs (hgo (s.setGen g .running) (x.stays G) (fun _ e => e) (x.frames G)) (fun v s₁ gs' hb hy => ?_) (fun r s₁ hr => ?_)
  · obtain ⟨_, keep, hst, _, hkap⟩ := hy
    exact (hkap s₁ hst (fun _ e => e) (funFrames_at (fun b hb o ho => keep b o (fun e => G.cout (e ▸ hb)) ho) (x.frames G))).elim
  · obtain ⟨_, ⟨h', tk, rfl⟩, ⟨hf, rfl, hst, keep⟩ | ⟨hf, e, a0, rfl, hfly, hsl⟩⟩ := hr
    · refine .inl ⟨rfl, fun h2 hk2 => hQ hf _ ⟨x.rest, hgen _ rfl, fun b o hC hS ho => hk2 b o (keep b o hC (x.kept b o hC hS ho)), led, by rw [hrows, List.append_nil]; exact hdat, fun p hp => ⟨hk2 _ _ (keep _ _ (hled p hp).2.1 (hled p hp).1), (hled p hp).2⟩⟩ fun o ho => hk2 _ _ (keep S o G.sc ho)⟩
    · refine .inr ⟨e, rfl, hfly.there, ?_, hE hf e _ ⟨x.rest, hgen _ rfl, ⟨_, a0, fun b o hC hS hm ho => hideAll_get _ (x.kept b o hC hS ho) fun q => ?_, hfly⟩, fun b o hC hS ho hnf => hsl b o hC (x.kept b o hC hS ho) hnf⟩⟩
      · obtain ⟨o, nm, qn, ho, r⟩ := x.isgen G
        refine ⟨o, nm, qn, hfly.1 _ _ (hideAll_get _ ho fun q => ?_), r⟩
        rcases List.mem_cons.mp q with q | q
        · exact G.ac q
        · obtain ⟨_, o', ho', hnf⟩ := (x.frames G).mem q
          rw [show s.heap.get? a = some o from ho] at ho'; cases ho'
          exact hnf _ r.2.1
      · rcases List.mem_cons.mp q with q | q
        · exact hC q
        · exact hm q
end
end Mine
end

section
open PySem PySem.W PyProof.Rows PySem.Calls
open Sem (wp)
open AutoSeq1 (wpAny_loadPart')
namespace Mine
section
variable {prog : Program} {w : World} {A Ag : Around} {E : Value → Shared → Prop} {rows : List Dat} {fin : Bool} {B : Heap} {C S a : Addr} {g : Nat} {outer : List Env} {H s : Shared} {todo ds : List Dat} {d : Dat} {acc : Array Value}
theorem GSt.bump (x : GSt prog w Ag rows fin B C S a g outer H todo acc s) (G : GCx B C S a g outer H) {h' : Heap} {tk : Nat} (hk : ∀ b o, b ≠ S → s.heap.get? b = some o → h'.get? b = some o) (hS : ∀ o, s.heap.get? S = some o → o.cls ≠ .type "tuple") :
    GSt prog w Ag rows fin B C S a g outer H todo acc { s with heap := h', toks := tk } := by
  obtain ⟨gs, hgs, hbare, honly, hgo⟩ := x.gens
  obtain ⟨led, done, hrows, hdat, hled⟩ := x.led
  refine ⟨x.rest, ⟨gs, hgs, hbare, honly, fun s'' k1 k2 k3 => hgo s'' k1 (fun o ho => k2 o (hk C o (Ne.symm G.sc) ho)) k3⟩, fun b o hC hb ho => hk b o hb (x.kept b o hC hb ho), led, done, hrows, hdat, fun p hp => ⟨hk _ _ (fun e => ?_) (hled p hp).1, (hled p hp).2⟩⟩
  have h1 := (hled p hp).1
  rw [e] at h1
  obtain ⟨_, _, q⟩ := (hled p hp).2.2.2
  exact hS _ h1 (by rw [q])
abbrev lstO (acc : Array Value) (c : Nat) : Obj := { cls := .type "list", dict := none, data := .seq acc c, slots := #[] }
theorem GSt.accsize (x : GSt prog w Ag rows fin B C S a g outer H todo acc s) : acc.size + todo.length = rows.length := by
  obtain ⟨led, done, hrows, hdat, hled⟩ := x.led
  have := hdat.length
  rw [Array.length_toList] at this
  rw [hrows, List.length_append, ← this]

theorem ext_loop {R : Result → Shared → Prop} (hA : A.in1.in1 = Ag) (hh : A.handled = none) (hroom : A.depth < recursionLimit) (G : GCx B C S a g outer H) (hn : rows.length ≤ sizeLine) (res : Value)
    (hR : fin = false → ∀ s' acc' c', GE rows B C S g H acc' s' → s'.heap.get? S = some (lstO acc' c') → R (.ok (.ret res)) s')
    (hE : fin = true → ∀ e s', GX B C S g outer H e s' → R (.error (.ref e)) s') :
    ∀ (todo : List Dat) (acc : Array Value) (c : Nat) (s : Shared), GSt prog w Ag rows fin B C S a g outer H todo acc s → s.heap.get? S = some (lstO acc c) →
    codeAny (model prog w) A (.builtin "list.extend.loop" ⟨[.ref S, .ref a, res], []⟩) R s := by
  intro todo
  induction todo with
  | nil =>
    intro acc c s x hS
    refine codeAny_builtin F.entry_extend_loop ?_
    rw [Around.under_plainId F.plain_extend_loop _]
    show wpAny _ A.in1 (pyNext (.ref a) >>= _) _ _ s
    refine wpAny_bind (gst_end (A := A.in1) hA hh hroom G x (fun hf s' ge hSk => ?_) (fun hf e s' gx => hE hf e s' gx))
    exact wpAny_pure (hR hf s' acc c ge (hSk _ hS))
  | cons d ds ih =>
    intro acc c s x hS
    refine codeAny_builtin F.entry_extend_loop ?_
    rw [Around.under_plainId F.plain_extend_loop _]
    show wpAny _ A.in1 (pyNext (.ref a) >>= _) _ _ s
    refine wpAny_bind (gst_item (A := A.in1) hA hh hroom G x (fun v s' x' hSk => ?_))
    have hS' := hSk _ hS
    have hsz := x.accsize
    rw [List.length_cons] at hsz
    show wpAny _ A.in1 (updateSeq S (·.push v) >>= _) _ _ _
    refine wpAny_bind ?_
    refine wpAny_updateSeq hS' rfl (wpAny_pure ⟨plainId_quiet F.plain_extend_loop _, ih (acc.push v) _ _ (x'.bump G (tk := s'.toks) (fun b o hb ho => (Heap.get?_update_other _ _ (Ne.symm hb)).trans ho) (fun o ho => ?_)) (Heap.get?_update_self _ hS' rfl)⟩) (by omega) (by show (acc.push v).size ≤ sizeLine + 1; rw [Array.size_push]; omega)
    rw [hS'] at ho; cases ho
    show (Value.type "list") ≠ Value.type "tuple"
    decide

theorem collect_g {R : Result → Shared → Prop} (hA : A.in1.in1 = Ag) (hh : A.handled = none) (hroom : A.depth < recursionLimit) (G : GCx B C S a g outer H) (hn : rows.length ≤ sizeLine) (hS : S = H.heap.objs.size)
    (x : GSt prog w Ag rows fin B C S a g outer H rows #[] H)
    (hQ : fin = false → ∀ s' acc c, GE rows B C S g H acc s' → s'.heap.get? S = some (lstO acc c) → R (.ok (.ret (.ref S))) s') (hE : fin = true → ∀ e s', GX B C S g outer H e s' → R (.error (.ref e)) s') :
    codeAny (model prog w) A (.builtin "proto.collect" ⟨[.ref a], []⟩) R H := by
  have hSa : S ≠ a := fun e => G.as e.symm
  have hgen := G.isgen
  refine codeAny_builtin F.entry_proto_collect ?_
  rw [Around.under_plainId F.plain_proto_collect _]
  show wpAny _ A.in1 (newList [] >>= fun l => again (.builtin "list.__iadd__" ⟨[l, .ref a], []⟩)) _ _ H
  refine wpAny_bind (wpAny_newObj_type ?_)
  refine wpAny_pure ⟨plainId_quiet F.plain_list_iadd _, codeAny_builtin F.entry_list_iadd ?_⟩
  rw [Around.under_plainId F.plain_list_iadd _]
  have hg₁ : (H.heap.push { cls := .type "list", data := .seq ([] : List Value).toArray }).IsGen a g := hgen.push _
  have hT₁ : ({ H with heap := H.heap.push { cls := .type "list", data := .seq ([] : List Value).toArray } } : Shared).TypeIs (.ref a) "generator" := Heap.IsGen.typeIs hg₁
  rw [← hS]
  show wpAny _ A.in1 (Builtin.List.listExtendWith (.ref S) (.ref a) (.ref S)) _ _ _
  unfold Builtin.List.listExtendWith
  refine wpAny_bind (wpAny_typeOf hT₁ ?_)
  have h1 : Builtin.List.listSameRef (.ref S) (.ref a) = false := by simp [Builtin.List.listSameRef, hSa]
  have h2 : (Value.type "generator" == Value.type "list") = false := by decide
  have h3 : (Value.type "generator" == Value.type "tuple") = false := by decide
  simp only [h1, h2, h3, Bool.or_false, Bool.false_eq_true, if_false]
  refine wpAny_bind (wpAny_pyIter_gen hg₁ ?_)
  refine wpAny_bind (wpAny_holding ?_)
  unfold Builtin.List.listLengthHint
  refine wpAny_bind (wpAny_specialOf hT₁ F.gen_no_len ?_)
  show wpAny _ A.in1 (specialOf (Value.ref a) (Str.ofString "__length_hint__") >>= _) _ _ _
  refine wpAny_bind (wpAny_specialOf hT₁ F.gen_no_hint ?_)
  refine wpAny_pure ?_
  show wpAny _ A.in1 (rule "list.extend.makes-room" >>= fun _ => Builtin.List.listTouch (.ref S) >>= fun _ =>
    again (.builtin "list.extend.loop" ⟨[.ref S, .ref a, .ref S], []⟩)) _ _ _
  refine wpAny_bind (wpAny_rule ?_)
  have hS₁ : (H.heap.push { cls := .type "list", data := .seq ([] : List Value).toArray }).get? S = some { cls := .type "list", data := .seq ([] : List Value).toArray } := by rw [hS]; exact Heap.get?_push_size _ rfl
  refine wpAny_bind ?_
  show wpAny _ A.in1 (updateSeq S (·.push .none) >>= fun _ => updateSeq S (·.pop)) _ _ _
  refine wpAny_bind (wpAny_updateSeq hS₁ rfl ?_)
  have hS₂ := Heap.get?_update_self (Obj.mapSeq (·.push Value.none)) hS₁ rfl
  refine wpAny_updateSeq hS₂ rfl ?_
  have hS₃ := Heap.get?_update_self (Obj.mapSeq (·.pop)) hS₂ rfl
  have oth : ∀ b o, b ≠ S → H.heap.get? b = some o →
      (((H.heap.push { cls := .type "list", data := .seq ([] : List Value).toArray }).update S (Obj.mapSeq (·.push Value.none))).update S (Obj.mapSeq (·.pop))).get? b = some o :=
    fun b o hb e => (Heap.get?_update_other _ _ (Ne.symm hb)).trans ((Heap.get?_update_other _ _ (Ne.symm hb)).trans (Heap.get?_push_of_some _ e))
  refine wpAny_pure ⟨plainId_quiet F.plain_extend_loop _, ext_loop (A := A) hA hh hroom G hn _ (fun hf s' acc' c' ge hS' => hQ hf s' acc' c' ge hS') (fun hf e s' gx => hE hf e s' gx) rows #[] _ _ (x.bump G (tk := H.toks) oth (fun o ho => by rw [G.sfresh] at ho; cases ho)) hS₃⟩
end
end Mine
end

section
open PySem PySem.W PyProof.Rows PySem.Calls
open Sem (wp)
open AutoSeq1 (wpAny_loadPart')
namespace Mine
section
variable {prog : Program} {w : World} {A Ag : Around} {E : Value → Shared → Prop} {rows : List Dat} {fin : Bool} {B : Heap} {C S a : Addr} {g : Nat} {outer : List Env} {H s : Shared} {todo ds : List Dat} {d : Dat} {acc : Array Value}
theorem code_tuple_g {Q₁ : Value → Shared → Prop} (hA : A.in1.in1.in1 = Ag) (hh : A.handled = none) (hroom : A.depth < recursionLimit) (G : GCx B C S a g outer H) (hn : rows.length ≤ sizeLine) (hS : S = H.heap.objs.size)
    (x : GSt prog w Ag rows fin B C S a g outer H rows #[] H)
    (hQ : fin = false → ∀ s' acc, GE rows B C S g H acc s' → Q₁ (.ref s'.heap.objs.size) { s' with heap := s'.heap.push { cls := .type "tuple", data := .seq acc } }) (hE : fin = true → ∀ e s', GX B C S g outer H e s' → E (.ref e) s') :
    codeAny (model prog w) A (.call (.builtin "tuple.__new__") ⟨[.type "tuple", .ref a], []⟩) (wants Q₁ E) H := by
  refine codeAny_of_tree ?_
  show wpAny _ A.in1 (do checkBuiltinCall "tuple.__new__" ⟨[.type "tuple", .ref a], []⟩; again (.builtin "tuple.__new__" ⟨[.type "tuple", .ref a], []⟩)) _ _ H
  refine wpAny_bind (wpAny_of_eq (F.newCall_tuple_1 _) (wpAny_pure ⟨plainId_quiet F.plain_tuple_new _, codeAny_builtin F.entry_tuple_new ?_⟩))
  rw [Around.under_plainId F.plain_tuple_new _]
  have hsub := sub_tuple_self
  have hinit := init_tuple_lookup
  have hmh := madeHere_tuple
  have hTI : H.TypeIs (.ref a) "generator" := Heap.IsGen.typeIs G.isgen
  have hge : ∀ acc s', GE rows B C S g H acc s' → acc.size = rows.length := fun acc s' ge => by
    obtain ⟨led, hdat, _⟩ := ge.led
    have := hdat.length
    rwa [Array.length_toList] at this
  wp_walk using wpAny_typeOf hTI
  refine collect_g (A := A.in1) hA hh hroom G hn hS x (fun hf s' acc c ge hS' => ?_) (fun hf e s' gx => hE hf e s' gx)
  dsimp only
  refine wpAny_bind (wpAny_load hS' (wpAny_pure ?_))
  show wpAny _ A.in1 (Builtin.Tuple.tupleExact acc.toList.toArray >>= fun v => ret v) _ _ _
  unfold Builtin.Tuple.tupleExact
  refine wpAny_bind (wpAny_newObj_type ?_ (by show acc.toList.toArray.size ≤ sizeLine; simp only [Array.toArray_toList]; rw [hge _ _ ge]; exact hn))
  refine wpAny_pure ?_
  have e : acc.toList.toArray = acc := by simp
  rw [e]
  exact hQ hf s' acc ge

theorem call_tuple_g {Q : Value → Shared → Prop} (hA : A.in1.in1.in1.in1 = Ag) (hh : A.handled = none) (hroom : A.depth < recursionLimit) (G : GCx B C S a g outer H) (hn : rows.length ≤ sizeLine) (hS : S = H.heap.objs.size)
    (x : GSt prog w Ag rows fin B C S a g outer H rows #[] H)
    (hQ : fin = false → ∀ s' acc, GE rows B C S g H acc s' → Q (.ref s'.heap.objs.size) { s' with heap := s'.heap.push { cls := .type "tuple", data := .seq acc } }) (hE : fin = true → ∀ e s', GX B C S g outer H e s' → E (.ref e) s') :
    wpAny (model prog w) A (call (.type "tuple") [.ref a]) Q E H := by
  refine callType_codes (Q₁ := fun obj s₁ => s₁.TypeIs obj "tuple" ∧ Q obj s₁) F.called_tuple (F.typeCall_tuple_1 _) F.entry_object_init
    (code_tuple_g (A := A.in1) hA hh hroom G hn hS x (fun hf s' acc ge => ⟨⟨_, Heap.get?_push_size _ rfl, rfl⟩, hQ hf s' acc ge⟩) hE) fun obj s₁ h₁ => ?_
  exact ⟨h₁.1, F.args_object_init_2 obj _, object_init_meets F.called_tuple.init.lookup F.called_tuple.made (by decide) prog w A.in1 _ s₁ ⟨h₁.1, rfl, h₁.2⟩⟩
end
end Mine
end

section
open PySem PySem.W PyProof.Rows PySem.Calls
namespace Mine
theorem pc_there2 (P : Params) : ∃ (g : Pc) (nm : Str) (prm : Arguments) (scope : Scope) (ps : Pos), innerSt P = some (.FunctionDef nm prm g.body [] none [] scope none nm ps) ∧ prm.defaults = [] ∧ prm.kw_defaults = [] ∧ (∀ e, annTrees prm none e = []) ∧
    (∀ (name qual : Str) (body : List Stmt) (sc : Scope) (cl : List (Str × Addr)) (doc pm cdv ct : Value), bindArgs (fnX name qual prm body sc cl .none .none doc pm none cdv ct) ⟨[], []⟩ = pure []) ∧ scope.kind = .function ∧ scope.isGenerator = true ∧ scope.isCoroutine = false ∧ (∀ y ∈ scope.names, y.2 ≠ .cell) ∧
    (∀ cn cs L a cd c, cs.kind = .function → closureFor scope (envX cn cs L a cd [("s", c)]) = (pure [("s", c)] : Sem (List (Str × Addr)))) ∧ nm = "_parse_inner" ∧ ps.line ≠ 0 :=
  ⟨⟨_, _, _, _, _, _, _, _, _, _, _, _, _, _, _, _, _, _, _, _, _, _, _, _, _, _, _, _, _, _, _, _, _, _, _, _, _, _, _⟩, _, _, _, _, rfl, rfl, rfl, fun _ => rfl, fun _ _ _ _ _ _ _ _ _ => rfl, rfl, rfl, rfl, by decide, fun cn cs L a cd c hk => rfl, rfl, by decide⟩

theorem rdg_len : ∀ (k : Nat) (l : List Nat), l.length < k → (rdg l).1.length ≤ l.length
  | 0, _, h => by omega
  | k + 1, l, h => by
    by_cases h0 : l = []
    · rw [h0, rdg_nil]; simp
    · have hp : 0 < l.length := List.length_pos_iff.mpr h0
      by_cases h1 : 37 ∈ l
      · cases q : fmtOf (l.drop ((cut 37 l).length + 1)) with
        | none => rw [rdg_bad h1 q]; simp
        | some p =>
          obtain ⟨d, r⟩ := p
          rw [rdg_go h1 q]
          have hl := fmtOf_len q
          rw [List.length_drop] at hl
          have := rdg_len k r (by omega)
          simp only [List.length_cons]; omega
      · rw [rdg_last h0 h1]; simp only [List.length_cons, List.length_nil]; omega
section
variable {prog : Program} {w : World} {A Ag : Around} {s : Shared} {R : Result → Shared → Prop}
    {loose : List Str} {mean : ExcName → Option Value} {mg mb : Str → Option Value} {base : Heap} {f c c' : Addr} {oc : Obj} {x : Str} {t : Tok} {doc pm ctv : Value}
    {g : Pc} {nm qual : Str} {prm : Arguments} {scope : Scope} {ps : Pos} {outer : List Env}
theorem gen_call (hb : innerSt w.params = some (.FunctionDef nm prm g.body [] none [] scope none nm ps))
    (hbind : ∀ (name qual : Str) (body : List Stmt) (sc : Scope) (cl : List (Str × Addr)) (doc pm cdv ct : Value), bindArgs (fnX name qual prm body sc cl .none .none doc pm none cdv ct) ⟨[], []⟩ = pure []) (hkind : scope.kind = .function) (hgen : scope.isGenerator = true) (hco : scope.isCoroutine = false) (hcell : ∀ y ∈ scope.names, y.2 ≠ .cell)
    (X : (hd.heap_39 w.params).In base) (T : Top topProg loose mean mg mb base) (hst : base.StaysIn s.heap) (hfun : s.heap.FunFrames base outer) (hroom : A.depth < recursionLimit)
    (hroom2 : Ag.depth + 1 < recursionLimit) (hAh : Ag.handled = none) (hAf : Ag.frames = some outer)
    (hf : s.heap.get? f = some (fnMade nm qual prm g.body scope [("s", c)] doc pm c' ctv)) (hrec : s.heap.CodeRec (.ref c') qual)
    (hoc : s.heap.get? c = some oc) (hcf : c ∉ outer.filterMap (·.frame)) (hod : oc.data = .cell (some (.str x t))) (hx : x.length ≤ 1000)
    (h : ∀ C S a H, GCx (hideAll s.heap (outer.filterMap (·.frame))) C S a s.gens.size outer H → S = H.heap.objs.size →
      GSt prog w Ag (rdg x.cps.toList).1 (rdg x.cps.toList).2 (hideAll s.heap (outer.filterMap (·.frame))) C S a s.gens.size outer H (rdg x.cps.toList).1 #[] H →
      (∀ b o, s.heap.get? b = some o → H.heap.get? b = some o) → s.heap.get? C = none → s.heap.get? S = none → H.drawn = s.drawn → H.os = s.os → (∀ k, k < s.gens.size → H.gens[k]? = s.gens[k]?) → H.gens.size = s.gens.size + 1 → R (.ok (.ret (.ref a))) H) :
    codeAny (model prog w) A (.call (.ref f) ⟨[], []⟩) R s := by
  refine codeAny_call_generator hroom hf rfl hco hgen rfl hrec ?_
  rw [hbind]
  refine wpAny_pure (wpAny_newFunctionEnv hcell (fun x hx => nomatch hx) (fun h₁ hns hsb => ?_) hkind)
  have hk₁ : ∀ b o, s.heap.get? b = some o → h₁.get? b = some o := fun b o e => hsb.extBut b o (Nat.ne_of_lt (Heap.lt_size e)) (Heap.get?_push_of_some _ e)
  refine ⟨((T.nolimit).keeps hst).keeps hk₁, ?_⟩
  have hCs : s.heap.get? s.heap.objs.size = none := Heap.get?_none_of_le (Nat.le_refl _)
  have hCn : s.heap.objs.size ∉ outer.filterMap (·.frame) := fun hm => by
    obtain ⟨_, o, ho, _⟩ := hfun.mem hm
    rw [hCs] at ho; cases ho
  have hBs : (hideAll s.heap (outer.filterMap (·.frame))).StaysIn s.heap := fun b o q => of_hideAll _ q
  have hbB : base.StaysIn (hideAll s.heap (outer.filterMap (·.frame))) := fun b o q => hideAll_get _ (hst b o q) fun hm => by rw [(hfun.mem hm).1] at q; cases q
  have hfB : s.heap.FunFrames (hideAll s.heap (outer.filterMap (·.frame))) outer := funFrames_hide hfun fun env he a ha => List.mem_filterMap.mpr ⟨env, he, ha⟩
  have hCh : s.heap.objs.size < h₁.objs.size := hns.lt
  have hBC : (hideAll s.heap (outer.filterMap (·.frame))).get? s.heap.objs.size = none := by
    cases q : (hideAll s.heap (outer.filterMap (·.frame))).get? s.heap.objs.size with
    | none => rfl
    | some o => have := of_hideAll _ q; rw [hCs] at this; cases this
  generalize hob : ({ cls := .type "generator", data := .fields #[.int s.gens.size 0, .str nm (s.toks + ([] : List (Str × Value)).length), .str qual (s.toks + ([] : List (Str × Value)).length + 1)] } : Obj) = ob
  have hsz : (h₁.push ob).objs.size = h₁.objs.size + 1 := Heap.size_push ..
  have hup : ∀ b o, s.heap.get? b = some o → (h₁.push ob).get? b = some o := fun b o e => Heap.get?_push_of_some _ (hk₁ b o e)
  obtain ⟨ah, ad, af, ag, au⟩ := Ag
  obtain rfl : ah = none := hAh
  obtain rfl : af = _ := hAf
  refine h s.heap.objs.size (h₁.objs.size + 1) h₁.objs.size _ ⟨fun b o q => hup b o (hBs b o q), hBC, hfB.of_keeps fun b o q _ => ⟨o, hup b o q, rfl⟩, hCn, Heap.get?_none_of_le (by rw [hsz]; exact Nat.le_refl _), ⟨_, _, _, Heap.get?_push_size _ (by rw [← hob]; rfl), by rw [← hob], by rw [← hob], by rw [← hob]⟩, Nat.ne_of_gt hCh, Nat.ne_of_gt (Nat.lt_succ_of_lt hCh), (T.nolimit).keeps hbB⟩ hsz.symm
    ⟨⟨rfl, rfl⟩, ⟨.fresh (.func g.body (gEnv qual scope s.heap.objs.size f c (.ref c'))), ?_, rfl, ⟨rfl, fun _ _ => rfl⟩, fun s'' k1 k2 k3 => ⟨rfl, ?_⟩⟩, fun b o _ _ e => e, [], [], rfl, .nil, fun p hp => nomatch hp⟩
    hup hCs (Heap.get?_none_of_le (by omega)) rfl rfl ?_ ?_
  · simp; rfl
  · refine gen_seg (m := fun _ => none) hb (X.keeps hbB) (T.keeps hbB) hroom2 (hideAll_get _ hoc hcf) hod hx hCn hkind hco k3 ⟨(hns.push ob).at' fun o e => k2 o e, k1, by rw [hideAll_size]; exact Nat.le_refl _⟩
  · intro k hk
    simp [Array.getElem?_push, Nat.ne_of_lt hk]
  · simp
theorem gen_callA (hb : innerSt w.params = some (.FunctionDef nm prm g.body [] none [] scope none nm ps))
    (hbind : ∀ (name qual : Str) (body : List Stmt) (sc : Scope) (cl : List (Str × Addr)) (doc pm cdv ct : Value), bindArgs (fnX name qual prm body sc cl .none .none doc pm none cdv ct) ⟨[], []⟩ = pure []) (hkind : scope.kind = .function) (hgen : scope.isGenerator = true) (hco : scope.isCoroutine = false) (hcell : ∀ y ∈ scope.names, y.2 ≠ .cell)
    (X : (hd.heap_39 w.params).In base) (T : Top topProg loose mean mg mb base) (hst : base.StaysIn s.heap) (hfun : s.heap.FunFrames base outer) (hroom : A.depth < recursionLimit)
    (hroom2 : A.depth + 1 < recursionLimit) (hAh : A.handled = none) (hAf : A.frames = some outer)
    (hf : s.heap.get? f = some (fnMade nm qual prm g.body scope [("s", c)] doc pm c' ctv)) (hrec : s.heap.CodeRec (.ref c') qual)
    (hoc : s.heap.get? c = some oc) (hcf : c ∉ outer.filterMap (·.frame)) (hod : oc.data = .cell (some (.str x t))) (hx : x.length ≤ 1000)
    (h : ∀ C S a H, GCx (hideAll s.heap (outer.filterMap (·.frame))) C S a s.gens.size outer H → S = H.heap.objs.size →
      GSt prog w A.in1.in1.in1.in1 (rdg x.cps.toList).1 (rdg x.cps.toList).2 (hideAll s.heap (outer.filterMap (·.frame))) C S a s.gens.size outer H (rdg x.cps.toList).1 #[] H →
      (∀ b o, s.heap.get? b = some o → H.heap.get? b = some o) → s.heap.get? C = none → s.heap.get? S = none → H.drawn = s.drawn → H.os = s.os → (∀ k, k < s.gens.size → H.gens[k]? = s.gens[k]?) → H.gens.size = s.gens.size + 1 → R (.ok (.ret (.ref a))) H) :
    codeAny (model prog w) A (.call (.ref f) ⟨[], []⟩) R s :=
  gen_call (Ag := A.in1.in1.in1.in1) hb hbind hkind hgen hco hcell X T hst hfun hroom hroom2 hAh hAf hf hrec hoc hcf hod hx h
end
end Mine
end

section
open PySem PySem.W PyProof.Rows PySem.Calls
namespace Mine
theorem fill_Q1 : PySem.Challenge.rw_bp0016_01.Holds → ∀ P h, (hd.heap_39 P).In h → True := by
  k_fill
  intros; trivial
local macro_rules | `(tactic| walk_at "go1") => `(tactic| first | (k_unfold; (try dsimp only)) | walk1 | (dsimp only; walk1))

theorem gens_bare {a b : Array GenState} (h : GenOnly 0 a b) (hb : ∀ x, b[0]? = some x → x.bare = true) (hs : a.size = 1) : ∀ y ∈ b, y.bare = true := fun y hy => by
  obtain ⟨i, hi, rfl⟩ := Array.mem_iff_getElem.mp hy
  have : i = 0 := by
    have := h.1
    omega
  subst this
  exact hb _ (Array.getElem?_eq_getElem hi)
theorem abs_stmt {M : Model} {A : Around} {E : Value → Shared → Prop} {s : Shared} {env : Env} {Q : Flow → Shared → Prop} {P : Params} {st st' : Stmt} (hb : innerSt P = some st') (h0 : innerSt P = some st) (h : wpAny M A (exec st' env) Q E s) : wpAny M A (exec st env) Q E s := by
  rw [h0] at hb; cases hb; exact h
set_option maxHeartbeats 1000000 in
theorem parse_call {prog : Program} {w : World} {A₀ A : Around} {s : Shared} {h₀ : Heap} {L a : Addr} {m : Str → Option Value} {cn : Str} {cs : Scope} {ccd : Value} {news : List (Addr × Obj)}
    {loose : List Str} {mean : ExcName → Option Value} {mg mb : Str → Option Value} {x : Str} {t : Tok} {R : Result → Shared → Prop}
    (B : Below A₀ h₀ [] h₀) (F : Fr h₀ L s.heap m) (N : News h₀ L s.heap ((23, tabObj #[]) :: news)) (X : (hd.heap_39 w.params).In h₀) (T : Top topProg loose mean mg mb h₀) (C : CodeHd h₀ 27 23)
    (hA : A.frames = some [envOf cn cs L a ccd]) (hck : cs.kind = .function) (hroom : A.depth + 5 < recursionLimit) (hh : A.handled = none) (hg : s.gens = #[]) (h23 : ∀ p ∈ news, p.1 ≠ 23) (hx : x.length ≤ 1000)
    (hok : (rdg x.cps.toList).2 = false → ∀ s' r items led ps, Fr h₀ L s'.heap m → News h₀ L s'.heap ((r, { cls := .type "tuple", data := .seq items }) :: led ++ (23, tabObj ps) :: news) → DatAll led items.toList (rdg x.cps.toList).1 →
      s'.drawn = s.drawn → s'.os = s.os → (∀ y ∈ s'.gens, y.bare = true) → R (.ok (.ret (.ref r))) s')
    (herr : (rdg x.cps.toList).2 = true → ∀ s' e ps g, Fr h₀ L g m → RaisedSN h₀ g [envOf cn cs L a ccd] e (.type "ValueError") ((23, tabObj ps) :: news) s'.heap → g.UpToSlots s'.heap →
      s'.drawn = s.drawn → s'.os = s.os → (∀ y ∈ s'.gens, y.bare = true) → R (.error (.ref e)) s') :
    codeAny (model prog w) A (.call (.ref 28) ⟨[.str x t], []⟩) R s := by
  obtain ⟨ah, ad, af, ag, au⟩ := A
  obtain rfl : ah = none := hh
  obtain rfl : af = _ := hA
  refine' code_defC (binds := [("s", .str x t)]) B F X N T rfl rfl hck ?k6 ?k7 (Nat.lt_of_le_of_lt (Nat.le_add_right _ 5) hroom) ?k9 ?kB ?kD ?_ ?c2 ?c3 ?c4
  case k6 => k_is
  case k7 => k_is
  case k9 => exact BindsTo.of_eq rfl
  case kB => exact rfl
  case kD => decide +kernel
  case c2 => exact rfl
  case c3 => exact rfl
  case c4 => exact rfl
  intro g L' h' tk' cells' FG F' N' Y' B' X' T' l1
  k_cells Y'
  rename _ = Data.cell _ => hod
  rename_i o9
  (try simp only [List.cons_append, List.nil_append] at N')
  (try dsimp only)
  obtain ⟨g0, nm, prm, scope, ps, hb, f1, f2, f3, f4, f5, f6, f7, f8, f9, rfl, f11⟩ := pc_there2 w.params
  refine wpAny_execs_cons (abs_stmt hb rfl ?_)
  refine nestDef_K f1 f2 (f3 _) ?_
  refine' nest_K (ps := #[]) F' N' T' (C.keeps (fun b o e => B'.stays b o e)) rfl ?U ?t ?na (f9 _ _ _ _ _ _ rfl) ?_
  case t => exact True.intro
  case na => rfl
  case U => exact .tail (Ne.symm (Nat.ne_of_lt (Nat.lt_succ_of_lt (l1 _ List.mem_cons_self)))) (.head h23)
  intro f' c' oc' vs' t' ct' dc' h' tk' F' N' d1' d2' l1 l2
  refine storeX_L F' N' (fun h3 F3 N3 => ?_)
  clear F' N'
  (try dsimp only at N3)
  repeat' walk_at "go1"
  have hst : h₀.StaysIn h3 := fun b o q => F3.keep b o (B'.stays b o q)
  have hLg : L < L' := by
    have h1 := FG.ns.lt
    exact Nat.lt_of_lt_of_le h1 F3.above
  have hfun := fun env (hf : env.frame = some L') (hk : env.scope.kind = .function) => (pushX (env := env) B' F3 hf hk).frames
  refine' wpAny_call (gen_callA hb f4 f5 f6 f7 f8 X T hst (hfun _ rfl rfl) ?r1 ?r2 rfl rfl (N3 _ List.mem_cons_self).1 (codeRec_news N3 (List.mem_cons_of_mem _ List.mem_cons_self) d1' d2') (N3 _ (List.mem_cons_of_mem _ (List.mem_cons_of_mem _ List.mem_cons_self))).1 ?hcf hod hx fun C S a H G hS gst k hC hS' hdr hos hgens hgsz => ?_)
  case r1 => exact Nat.lt_of_le_of_lt (by show ad + 1 ≤ ad + 5; omega) hroom
  case r2 => exact Nat.lt_of_le_of_lt (by show ad + 1 + 1 ≤ ad + 5; omega) hroom
  case hcf =>
    intro hm
    rcases List.mem_cons.mp (show L' + 1 ∈ [L', L] from hm) with q | q
    · exact absurd q (Nat.succ_ne_self L')
    · have h1 := List.mem_singleton.mp q
      have h2 : L < L' + 1 := Nat.lt_succ_of_lt hLg
      rw [h1] at h2
      exact Nat.lt_irrefl _ h2
  have hn : (rdg x.cps.toList).1.length ≤ sizeLine := by
    have := rdg_len (x.cps.toList.length + 1) x.cps.toList (Nat.lt_succ_self _)
    rw [slen] at hx
    rw [sizeLine_eq]; omega
  repeat' walk_at "go1"
  refine' call_tuple_g rfl rfl ?r3 G hn hS gst (fun hf s9 acc ge => ?_) (fun hf e s9 gx => ?_)
  case r3 => exact Nat.lt_of_le_of_lt (by show ad + 1 ≤ ad + 5; omega) hroom
  · repeat' walk_at "go1"
    have up : ∀ b o, h3.get? b = some o → s9.heap.get? b = some o := fun b o q => ge.kept b o (fun z => by rw [z] at q; rw [show h3.get? C = none from hC] at q; cases q) (fun z => by rw [z] at q; rw [show h3.get? S = none from hS'] at q; cases q) (k b o q)
    have up2 : ∀ b o, h3.get? b = some o → (s9.heap.push { cls := .type "tuple", data := .seq acc }).get? b = some o := fun b o q => Heap.get?_push_of_some _ (up b o q)
    obtain ⟨led, hdat, hled⟩ := ge.led
    have hgL : ∃ oL es ep, g.get? L = some oL ∧ oL.data = .dict es ep := by
      obtain ⟨o, es, ep, h1, h2, _⟩ := FG.ns
      exact ⟨o, es, ep, h1, h2⟩
    obtain ⟨oL, es, ep, hgL, hdL⟩ := hgL
    obtain ⟨oP, es', ep', h3P, hdP, _⟩ := id F3.ns
    have hnL : ∀ p ∈ led, p.1 ≠ L' := fun p hp z => by
      have h1 := (hled p hp).1
      obtain ⟨its, n, h2⟩ := (hled p hp).2.2.2
      rw [z, up _ _ h3P, h2] at h1
      cases h1; cases hdP
    have hnG : ∀ p ∈ led, g.get? p.1 = none := fun p hp => by
      have h1 := (hled p hp).1
      have h3 := (hled p hp).2.2.1
      obtain ⟨its, n, h2⟩ := (hled p hp).2.2.2
      cases q : g.get? p.1 with
      | none => rfl
      | some o =>
        have h4 := up _ _ (F3.keep _ _ q)
        rw [h1] at h4; cases h4
        have h5 := hideAll_get _ (F3.keep _ _ q) (fun hm => by
          rcases List.mem_cons.mp (show p.1 ∈ [L', L] from hm) with z | z
          · exact hnL p hp z
          · have z := List.mem_singleton.mp z
            rw [z, hgL] at q
            cases q
            rw [h2] at hdL; cases hdL)
        cases (h3.symm.trans h5 : none = some p.2)
    refine ⟨L', _, ((s9.heap.objs.size, { cls := .type "tuple", data := .seq acc }) :: led) ++ (23, tabObj (#[] ++ #[rawInt ps.line, rawInt ps.col, .ref c'])) :: news, ⟨F3.ns.keeps up2, fun b o q => up2 b o (F3.keep b o q), F3.above⟩, fun p hp => ?_, fun Fq Nq => ?_⟩
    · rcases List.mem_append.mp hp with hp | hp
      · rcases List.mem_cons.mp hp with rfl | hp
        · refine ⟨Heap.get?_push_size _ rfl, fun z => ?_, ?_⟩
          · have h1 := Heap.lt_size (up _ _ h3P)
            rw [← z] at h1
            exact Nat.lt_irrefl _ h1
          · cases q : g.get? s9.heap.objs.size with
            | none => rfl
            | some o => exact absurd (Heap.lt_size (up _ _ (F3.keep _ _ q))) (Nat.lt_irrefl _)
        · exact ⟨Heap.get?_push_of_some _ (hled p hp).1, hnL p hp, hnG p hp⟩
      · have h1 := N3 p (List.mem_cons_of_mem _ (List.mem_cons_of_mem _ (List.mem_cons_of_mem _ hp)))
        exact ⟨up2 _ _ h1.1, h1.2⟩
    · exact hok hf _ _ acc led _ Fq Nq hdat (ge.rest.1.trans hdr) (ge.rest.2.trans hos) (by
        have hz : s.gens.size = 0 := by rw [hg]; rfl
        have h1 := ge.gens
        rw [show (_ : Nat) = 0 from hz] at h1
        exact gens_bare h1.1 h1.2 (by rw [hgsz]; rw [show (_ : Nat) = 0 from hz]))
  · repeat' walk_at "go1"
    obtain ⟨B₂, a0, hB2, hfly⟩ := gx.fly
    refine wpAny_leaves_onW rfl rfl hfly fun h5 hfly' sm => ?_
    have hnC : ∀ b o, h3.get? b = some o → b ≠ C := fun b o q z => by rw [z] at q; rw [show h3.get? C = none from hC] at q; cases q
    have hnS : ∀ b o, h3.get? b = some o → b ≠ S := fun b o q z => by rw [z] at q; rw [show h3.get? S = none from hS'] at q; cases q
    have hnP : ∀ b o, g.get? b = some o → b ≠ L' := fun b o q z => by rw [z, kts_self F3] at q; cases q
    have hgL : ∃ oL, g.get? L = some oL := by
      obtain ⟨o, es, ep, h1, h2, _⟩ := FG.ns
      exact ⟨o, h1⟩
    obtain ⟨oL, hgL⟩ := hgL
    have inB : ∀ b o, h3.get? b = some o → b ≠ L' → b ≠ L → B₂.get? b = some o := fun b o q n1 n2 => hB2 b o (hnC b o q) (hnS b o q) (fun hm => by
      rcases List.mem_cons.mp (show b ∈ [L', L] from hm) with z | z
      · exact n1 z
      · exact n2 (List.mem_singleton.mp z)) (k b o q)
    refine herr hf _ _ (#[] ++ #[rawInt ps.line, rawInt ps.col, .ref c']) g FG ⟨B₂, a0, fun b o q => ?_, fun b o q nm => inB b o (F3.keep b o q) (hnP b o q) (fun z => nm (by rw [z]; exact List.mem_singleton.mpr rfl)), fun q hq => ?_, hfly'⟩ (fun b o q hnf => ?_) (gx.rest.1.trans hdr) (gx.rest.2.trans hos) (by
        have hz : s.gens.size = 0 := by rw [hg]; rfl
        have h1 := gx.gens
        rw [show (_ : Nat) = 0 from hz] at h1
        exact gens_bare h1.1 h1.2 (by rw [hgsz]; rw [show (_ : Nat) = 0 from hz]))
    · have h1 := B'.stays b o q
      refine inB b o (F3.keep b o h1) (hnP b o h1) (fun z => ?_)
      have := (B'.frames.mem (b := L) (show L ∈ [L] from List.mem_singleton.mpr rfl)).1
      rw [z, this] at q; cases q
    · have h1 := N3 q (List.mem_cons_of_mem _ (List.mem_cons_of_mem _ (List.mem_cons_of_mem _ hq)))
      refine ⟨inB _ _ h1.1 h1.2.1 (fun z => ?_), h1.2.2, kts_none B'.stays h1.2.2⟩
      have := h1.2.2
      rw [z, hgL] at this; cases this
    · obtain ⟨sl, hs⟩ := gx.slots b o (hnC b o (F3.keep b o q)) (hnS b o (F3.keep b o q)) (k b o (F3.keep b o q)) hnf
      exact sm b _ hs hnf |>.imp fun sl2 hs2 => hs2
end Mine
end

section
open PySem PySem.W PyProof.Rows PySem.Calls
namespace Mine
def Ok (l : List Nat) : Prop := ∀ c ∈ l, c < 1114112
theorem Ok.take {l : List Nat} (h : Ok l) (n : Nat) : Ok (l.take n) := fun c hc => h c (List.mem_of_mem_take hc)
theorem Ok.drop {l : List Nat} (h : Ok l) (n : Nat) : Ok (l.drop n) := fun c hc => h c (List.mem_of_mem_drop hc)
theorem Ok.cut {l : List Nat} (h : Ok l) (a : Nat) : Ok (cut a l) := fun c hc => h c (by
  unfold Mine.cut at hc
  exact (List.takeWhile_sublist _).subset hc)
theorem Ok.cons {l : List Nat} {a : Nat} (ha : a < 1114112) (h : Ok l) : Ok (a :: l) := fun c hc => by
  rcases List.mem_cons.mp hc with rfl | hc
  · exact ha
  · exact h c hc
theorem Ok.str {l : List Nat} (h : Ok l) (n : Nat) : kqdOk n (.str ⟨l.toArray⟩) = true := by
  have : PyData.strOk ⟨l.toArray⟩ = true := by
    unfold PyData.strOk
    rw [Array.all_eq_true]
    intro i hi
    exact decide_eq_true (h _ (by simp))
  cases n <;> simp [kqdOk, this]
theorem Ok.orNone {l : List Nat} (h : Ok l) (n : Nat) : kqdOk n (orNone l) = true := by
  unfold Mine.orNone
  split
  · cases n <;> rfl
  · exact h.str n
theorem Ok.keyOf {l : List Nat} (h : Ok l) (n : Nat) : kqdOk n (keyOf l).1 = true ∧ Ok (keyOf l).2 := by
  unfold Mine.keyOf
  split
  · rename_i r
    have hr : Ok r := fun c hc => h c (List.mem_cons_of_mem _ hc)
    split
    · exact ⟨(hr.cut 41).str n, hr.drop _⟩
    · exact ⟨by cases n <;> rfl, h⟩
  · exact ⟨by cases n <;> rfl, h⟩
theorem Ok.widOf {l : List Nat} (h : Ok l) : Ok (widOf l).1 ∧ Ok (widOf l).2 := by
  unfold Mine.widOf
  split
  · exact ⟨fun c hc => by rw [List.mem_singleton.mp hc]; decide, h.drop 1⟩
  · exact ⟨h.take _, h.drop _⟩
theorem Ok.precOf {l : List Nat} (h : Ok l) : Ok (precOf l).1 ∧ Ok (precOf l).2 := by
  unfold Mine.precOf
  split
  · exact ⟨Ok.cons (by decide) (Ok.cons (by decide) fun c hc => nomatch hc), h.drop 2⟩
  · split
    · exact ⟨Ok.cons (by decide) ((h.drop 1).take _), (h.drop 1).drop _⟩
    · exact ⟨fun c hc => (nomatch hc), h⟩
theorem Ok.lenOf {l : List Nat} (h : Ok l) : Ok (lenOf l) := by
  unfold Mine.lenOf
  split
  · exact h.drop 1
  · exact h
theorem Ok.fmtOf {l r : List Nat} {d : Dat} (h : Ok l) (e : fmtOf l = some (d, r)) : kqdOk 7 d = true ∧ Ok r := by
  unfold Mine.fmtOf at e
  dsimp only at e
  have h1 := h.keyOf 6
  have h2 := (h1.2.drop (pastN FL (Mine.keyOf l).2)).widOf
  have h3 := h2.2.precOf
  have h4 := h3.2.lenOf
  generalize Mine.lenOf _ = z at *
  cases z with
  | nil => cases e
  | cons c z =>
    simp only [endOf] at e
    cases e
    refine ⟨?_, fun x hx => h4 x (List.mem_cons_of_mem _ hx)⟩
    have hc : Ok [c] := fun x hx => h4 x (by rw [List.mem_singleton.mp hx]; exact List.mem_cons_self)
    have hcs := hc.str 6
    have k2 := (h1.2.take (pastN FL (Mine.keyOf l).2)).orNone 6
    have k3 := h2.1.orNone 6
    have k4 := h3.1.orNone 6
    rw [kqdOk]
    simp only [List.all_cons, List.all_nil, Bool.and_true, Bool.and_eq_true]
    exact ⟨h1.1, k2, k3, k4, hcs⟩
theorem rdg_ok : ∀ (k : Nat) (l : List Nat), l.length < k → Ok l → ∀ d ∈ (rdg l).1, kqdOk 8 d = true
  | 0, _, h, _ => by omega
  | k + 1, l, h, ho => by
    by_cases h0 : l = []
    · rw [h0, rdg_nil]; intro d hd; cases hd
    · by_cases h1 : 37 ∈ l
      · cases q : fmtOf (l.drop ((cut 37 l).length + 1)) with
        | none => rw [rdg_bad h1 q]; intro d hd; cases hd
        | some p =>
          obtain ⟨d, r⟩ := p
          rw [rdg_go h1 q]
          have hl := fmtOf_len q
          rw [List.length_drop] at hl
          have hf := (ho.drop ((cut 37 l).length + 1)).fmtOf q
          intro e he
          rcases List.mem_cons.mp he with rfl | he
          · rw [kqdOk]
            simp only [List.all_cons, List.all_nil, Bool.and_true, Bool.and_eq_true]
            exact ⟨(ho.cut 37).str 7, hf.1⟩
          · exact rdg_ok k r (by omega) hf.2 e he
      · rw [rdg_last h0 h1]
        intro e he
        rw [List.mem_singleton.mp he, kqdOk]
        simp only [List.all_cons, List.all_nil, Bool.and_true, Bool.and_eq_true]
        exact ⟨ho.str 7, rfl⟩

theorem text_len (ys : List Str) (h : ∀ y ∈ ys, y.length ≤ 10) : (Txt.join (Str.ofString "") ys).length ≤ 10 * ys.length := by
  show (Builtin.Str.glued (Str.ofString "") ys).length ≤ _
  rw [StrLaws.glued_eq_join]
  have h1 := StrLaws.join_length_le (Str.ofString "") ys
  have z : (Str.ofString "").length = 0 := by decide
  rw [z, Nat.mul_zero, Nat.add_zero] at h1
  have h2 : ∀ ys : List Str, (∀ y ∈ ys, y.length ≤ 10) → (ys.map (·.length)).sum ≤ 10 * ys.length := by
    intro ys
    induction ys with
    | nil => intro _; simp
    | cons y r ih =>
      intro h
      have a := h y List.mem_cons_self
      have b := ih fun z hz => h z (List.mem_cons_of_mem _ hz)
      simp only [List.map_cons, List.sum_cons, List.length_cons]; omega
  exact Nat.le_trans h1 (h2 ys h)
theorem text_ok (ys : List Str) (h : ∀ y ∈ ys, Ok y.cps.toList) : Ok (Txt.join (Str.ofString "") ys).cps.toList := by
  show Ok (Builtin.Str.glued (Str.ofString "") ys).cps.toList
  rw [StrLaws.glued_eq_join]
  induction ys with
  | nil => intro c hc; simp [Str.join, Str.empty] at hc
  | cons y r ih =>
    have a := h y List.mem_cons_self
    have b := ih fun z hz => h z (List.mem_cons_of_mem _ hz)
    cases r with
    | nil => exact a
    | cons z r =>
      intro c hc
      have e : Str.join (Str.ofString "") (y :: z :: r) = y ++ Str.ofString "" ++ Str.join (Str.ofString "") (z :: r) := rfl
      rw [e, KT.app_list, KT.app_list] at hc
      rcases List.mem_append.mp hc with hc | hc
      · rcases List.mem_append.mp hc with hc | hc
        · exact a c hc
        · rw [emp] at hc; cases hc
      · exact b c hc

section
variable {prog : Program} {w : World} {A : Around} {E : Value → Shared → Prop} {s : Shared} {h₀ : Heap} {L a b : Addr} {news : List (Addr × Obj)} {xs ys : Array Value} {ka kb : Nat} {ds : List Dat} {Q : Value → Shared → Prop}
theorem tup_eq (N : News h₀ L s.heap news) (ma : (a, ({ cls := .type "tuple", data := .seq xs ka } : Obj)) ∈ news) (Da : DatAll news xs.toList ds) (mb : (b, ({ cls := .type "tuple", data := .seq ys kb } : Obj)) ∈ news) (Db : DatAll news ys.toList ds)
    (hk : ∀ d ∈ ds, kqdOk 8 d = true) (hu : A.units + 64 < cLine) (h : Q (.bool true) s) : wpAny (model prog w) A (compareOp .Eq (.ref a) (.ref b)) Q E s := by
  obtain ⟨as, ra⟩ := kqd_all N 8 Da hk
  obtain ⟨bs, rb⟩ := kqd_all N 8 Db hk
  have la := kqd_lay 9 (.tuple ds) (by simpa [kqdOk] using hk)
  rw [kqdP] at la
  have e : PyData.eqv (.tuple (kqdPs ds)) (.tuple (kqdPs ds)) = true := by
    have q := kqd_eqv 9 (.tuple ds) (.tuple ds) 9 (by simpa [kqdOk] using hk) (by simpa [kqdOk] using hk)
    rw [kqdP] at q
    exact q.mpr rfl
  refine eq_dataH (reads_tuple_at (N.get ma) rfl rfl ra) (reads_tuple_at (N.get mb) rfl rfl rb) ?_ ?_ hu (by rw [e]; exact h)
  · unfold SeqAt.shaped; rw [la.1, Bool.true_and]; exact decide_eq_true (Nat.le_trans la.2 (by decide))
  · unfold SeqAt.shaped; rw [la.1, Bool.true_and]; exact decide_eq_true (Nat.le_trans la.2 (by decide))
end
end Mine
end

section
open PySem PySem.W PyProof.Rows PySem.Calls
namespace Mine
theorem read_callN {prog : Program} {w : World} {A : Around} {E : Value → Shared → Prop} {s : Shared} {x : Str} {t : Tok} {Q : Value → Shared → Prop}
    {loose : List Str} {mean : ExcName → Option Value} {mg mb : Str → Option Value} {h₀ : Heap} {L : Addr} {m : Str → Option Value} {news : List (Addr × Obj)}
    (F : Fr h₀ L s.heap m) (N : News h₀ L s.heap news) (X : (hd.heap_39 w.params).In h₀) (T : Top topProg loose mean mg mb h₀) (hroom : A.depth + 1 < recursionLimit) (hh : A.handled = none) (hx : x.length ≤ 1000)
    (h : ∀ h' tk v led, Fr h₀ L h' m → News h₀ L h' (news ++ led) → ((rdg x.cps.toList).2 = true → v = .none) → ((rdg x.cps.toList).2 = false → ∃ r items cnt, v = .ref r ∧ (r, listOf items cnt) ∈ led ∧ DatAll led items.toList (rdg x.cps.toList).1) →
      (∀ p ∈ led, ∀ q ∈ news, p.1 ≠ q.1) → Q v { s with heap := h', toks := tk }) :
    wpAny (model prog w) A (call (.ref 43) [.str x t]) Q E s := by
  refine read_call (X.keeps F.keep) (T.keeps F.keep) hroom hh hx fun h' tk v hk hn hy => ?_
  have F' : Fr h₀ L h' m := ⟨F.ns.keeps hk, fun b o e => hk b o (F.keep b o e), F.above⟩
  cases hb : (rdg x.cps.toList).2 with
  | true => exact h h' tk v [] F' (fun p hp => by rw [List.append_nil] at hp; exact ⟨hk _ _ (N p hp).1, (N p hp).2⟩) (fun _ => hn hb) (fun q => by rw [hb] at q; cases q) (fun p hp => nomatch hp)
  | false =>
    obtain ⟨r, items, cnt, led, hv, hled, hm, hd⟩ := hy hb
    refine h h' tk v led F' (fun p hp => ?_) (fun q => by rw [hb] at q; cases q) (fun _ => ⟨r, items, cnt, hv, hm, hd⟩) (fun p hp q hq z => ?_)
    · rcases List.mem_append.mp hp with hp | hp
      · exact ⟨hk _ _ (N p hp).1, (N p hp).2⟩
      · refine ⟨(hled p hp).1, fun z => ?_, ?_⟩
        · obtain ⟨o, _, _, ho, _⟩ := F.ns
          have := (hled p hp).2
          rw [z, ho] at this; cases this
        · cases q : h₀.get? p.1 with
          | none => rfl
          | some o => have := (hled p hp).2; rw [F.keep _ _ q] at this; cases this
    · have := (hled p hp).2
      rw [z, (N q hq).1] at this; cases this
end Mine
end

section
open PySem PySem.W PyProof.Rows PySem.Calls
namespace Mine
local macro_rules | `(tactic| walk_at "go1") => `(tactic| first | (k_unfold; (try dsimp only)) | walk1 | (dsimp only; walk1))
def pieceOk (y : Str) : Bool := decide (y.length ≤ 10) && y.cps.toList.all fun c => decide (c < 1114112)
theorem pieceOk_iff {y : Str} (h : pieceOk y = true) : y.length ≤ 10 ∧ Ok y.cps.toList := by
  unfold pieceOk at h
  rw [Bool.and_eq_true] at h
  exact ⟨of_decide_eq_true h.1, fun c hc => of_decide_eq_true (List.all_eq_true.mp h.2 c hc)⟩
theorem pieces_ok {c : Prop} [Decidable c] {L : List Str} {i : Nat} (h : L.all pieceOk = true) : (if c then L.getD i Str.empty else Str.empty).length ≤ 10 ∧ Ok (if c then L.getD i Str.empty else Str.empty).cps.toList := by
  have h0 : pieceOk Str.empty = true := by decide
  split
  · rw [List.getD_eq_getElem?_getD]
    cases q : L[i]? with
    | none => exact pieceOk_iff h0
    | some y => exact pieceOk_iff (List.all_eq_true.mp h y (List.mem_of_getElem? q))
  · exact pieceOk_iff h0
theorem cut_stmt {M : Model} {A : Around} {E : Value → Shared → Prop} {s : Shared} {env : Env} {st : Stmt} {rest : List Stmt} {Q : Flow → Shared → Prop} (P : Shared → Shared → Prop)
    (h : wpAny M A (exec st env) (CutN (P s)) (fun _ _ => False) s) (k : ∀ s', P s s' → wpAny M A (execs rest env) Q E s') : wpAny M A (execs (st :: rest) env) Q E s :=
  wpAny_execs_cons (wpAny_mono h (fun f s' q => by obtain ⟨rfl, q⟩ := q; exact k s' q) fun _ _ e => e.elim)
local macro_rules | `(tactic| walk_at "mem") => `(tactic| (intro p hp; repeat (first | exact hp | refine List.mem_cons_of_mem _ ?_)))
local macro_rules | `(tactic| walk_at "call builtin:str.join") => `(tactic| ((try dsimp only [List.cons_append, List.nil_append]); (with_reducible rename CarriedAll _ _ => ktC); refine KT.join_B 10 (News.isList (by k_asm) (by k_mem)) ktC (fun a ha => (pieces_ok (by kernel_rfl)).1) (by omega) (by decide) ?_; intro tj kj))
local macro_rules | `(tactic| walk_at "CompSrc") => `(tactic| (k_dflt (refine LCg.CompSrc.ledger (by rfl) (by k_asm) (by k_asm) (by k_mem) (by kcf_size) ?_; intro g'; (refine' kct_list _ (by first | assumption | l_ints) (fun k' t' I' oI' C' oC' D' m' ys' h' tk' E' hk' hC' hx' F' N' off' ne' hMark' => ?_) ?_); (all_goals (try (simp only [LCg.Off3, and_true] at off'))); kcf_last)))
local macro_rules | `(tactic| walk_at "call ref") => `(tactic| ((with_reducible show wpAny _ _ (call (Value.ref 43) [Value.str _ _]) _ _ _); k_dflt (refine read_callN (by assumption) (by assumption) (by assumption) (by assumption) ?room rfl (by assumption) ?_; (case room => k_room)); intro h' tk' v' led' F' N' hn' hy' hq'))
theorem kn_postB {M : Model} {A : Around} {cd : Code} {s s₁ : Shared} {cw : ClaimW} {cl : Str → Option Addr} {mean : ExcName → Option Value} {args : List WData} {tabs : List (Addr × Addr)} (hT : TabsAt tabs s₁.heap)
    (hr : ∀ cls, cw.raises args cls = false) (hp : cw.post args (.bool true) args = true)
    (h : codeAny M A cd (fun r s' => r = .ok (.ret (.bool true)) ∧ (∀ b o, (ghostOf s₁.heap tabs).get? b = some o → s'.heap.get? b = some o) ∧ s'.os = s₁.os ∧ AllBare s'.gens ∧ GrownAll tabs s'.heap) s) : codeAny M A cd (GoodWG cw cl mean args s₁) s :=
  codeAny_mono h fun r s' ⟨hc, hk, hos, hg, hgr⟩ => by
    have keep : ∀ b o, b ∉ tabs.map (·.2) → s₁.heap.get? b = some o → s'.heap.get? b = some o := fun b o hb e => hk b o (ghost_ne e hb)
    have grown : ∀ b o, b ∈ tabs.map (·.2) → s₁.heap.get? b = some o → isCodeTable s₁.heap b ∧ o = tabObj #[] ∧ ∃ ps, s'.heap.get? b = some (tabObj ps) := fun b o hb e => by
      obtain ⟨q, hq, rfl⟩ := List.mem_map.mp hb
      have e2 := (hT q hq).2
      rw [e] at e2
      exact ⟨((hT q hq).1.tab (hT q hq).2).isCodeTable, Option.some.inj e2, hgr.get q hq⟩
    refine ⟨.inl ⟨_, .bool true, [], hc, hr, .bool _, hp, fun _ => ⟨List.nodup_nil, fun a ha => nomatch ha⟩⟩, ⟨fun b o e => ?_, fun b o e => ?_⟩, hos, hg⟩
    · by_cases hb : b ∈ tabs.map (·.2)
      · obtain ⟨ht, rfl, ps, hP⟩ := grown b o hb e
        exact .inr (.inl ⟨ht, rfl, #[], ps, rfl, by rw [Array.empty_append]; exact hP⟩)
      · exact .inl (keep b o hb e)
    · by_cases hb : b ∈ tabs.map (·.2)
      · obtain ⟨_, _, ps, hP⟩ := grown b o hb e
        exact ⟨_, hP⟩
      · exact ⟨o, keep b o hb e⟩
set_option maxHeartbeats 8000000 in
theorem law_holds : PySem.Challenge.rw_bp0016_01.Holds := Mine.hd (by
  k_fill
  intro w s₀ s₁ mg mb G Y fa o pm cd doc dV kV ho hd hcd hD hmg hg args vals as hpre hlay hrd hwl hlo
  have KX := km_in_of Y
  km_tabs Y
  have X := (Ground.X G).1
  have V := (Ground.X G).2
  refine Ground.open G ?_
  intro T B D TE TW
  try (refine guard_noD D (by decide +kernel) ?_; clear D)
  km_lay T hmg ho hd cd
  clear hmg
  wrow_args hpre hlay hrd hwl hlo
  all_goals (
    first | refine callC_kw (enter_call ?_) | refine enter_call ?_
    w_top on
    refine kn_postB hT9 (fun _ => rfl) ?hp ?_
    case hp => first | with_unfolding_all rfl | kernel_rfl | (with_unfolding_all decide) | (simp [OpenLaw.row]; done) | trace_state
    w_call any ho hd hcd hD T F
    clear hd
    kn_ghosts F T
    k_drop
    skip)
  all_goals try k_fold
  refine cut_stmt (fun s s' => ∃ (text : Str) (t : Tok), text.length ≤ 1000 ∧ Ok text.cps.toList ∧ StR (ghostOf s₁.heap [(27, 23)]) s₁.heap.objs.size [(23, tabObj #[])] [("text", .str text t)] s s') ?_ ?_
  · repeat' walk_at "go1"
    rename Fr _ _ _ _ => F'
    rename News _ _ _ _ => N'
    refine ⟨rfl, _, _, Nat.le_trans (text_len _ fun y hy => ?_) ?_, text_ok _ fun y hy => ?_, StR.mk' F' N' (by walk_at "mem") (by kst_all)⟩
    · obtain ⟨a, _, rfl⟩ := List.mem_map.mp hy
      exact (pieces_ok (by kernel_rfl)).1
    · rw [List.length_map]
      omega
    · obtain ⟨a, _, rfl⟩ := List.mem_map.mp hy
      exact (pieces_ok (by kernel_rfl)).2
  rintro s' ⟨text, t, hx, hok, h2, tk2, m2, rfl, F2, N2⟩
  rename Below _ _ _ _ => K9
  rename (Mine.hd.heap_39 _).In (ghostOf _ _) => X9
  rename Top _ _ _ _ _ (ghostOf _ _) => T9
  refine cut_stmt (fun s s' => ∃ v led, ((rdg text.cps.toList).2 = true → v = .none) ∧ ((rdg text.cps.toList).2 = false → ∃ r items cnt, v = .ref r ∧ (r, W.listOf items cnt) ∈ led ∧ DatAll led items.toList (rdg text.cps.toList).1) ∧ (∀ p ∈ led, p.1 ≠ 23) ∧
    StR (ghostOf s₁.heap [(27, 23)]) s₁.heap.objs.size ((23, tabObj #[]) :: led) [("text", .str text t), ("due", v)] s s') ?_ ?_
  · repeat' walk_at "go1"
    rename Fr _ _ _ _ => F'
    rename News _ _ _ _ => N'
    rename _ = true → _ = Value.none => hn'
    rename _ = false → _ => hy'
    rename ∀ (_ : _ × _), _ → ∀ (_ : _ × _), _ → _ => hq'
    exact ⟨rfl, _, _, hn', hy', fun p hp => hq' p hp (23, tabObj #[]) (List.mem_singleton.mpr rfl), StR.mk' F' N' (fun p hp => hp) (by kst_all)⟩
  rintro s' ⟨v, led, hn, hy, h23, h3, tk3, m3, rfl, F3, N3⟩
  clear F2 N2
  refine wpAny_execs_cons ?_
  refine wpAny_Try_except ?_
  iterate 9 (walk_at "go1")
  refine wpAny_call (parse_call K9 (by assumption) (by assumption) X9 T9 codeHd rfl rfl ?room rfl ?hg0 h23 hx (fun hb s9 r items led2 ps9 Fq Nq hdat hdr hos hgens => ?_) (fun hb s9 e ps9 g9 FG9 R9 sm9 hdr hos hgens => ?_))
  case room => k_room
  case hg0 => exact hg
  · obtain ⟨rd, its, cnt, rfl, hmem, hdat2⟩ := hy hb
    have N9 : News (ghostOf s₁.heap [(27, 23)]) s₁.heap.objs.size s9.heap ((rd, W.listOf its cnt) :: (r, { cls := .type "tuple", data := .seq items }) :: (led2 ++ (23, tabObj ps9) :: led)) := fun p hp => by
      rcases List.mem_cons.mp hp with rfl | hp
      · exact Nq _ (List.mem_append_right _ (List.mem_cons_of_mem _ hmem))
      · exact Nq _ (by rw [List.cons_append]; exact hp)
    clear Nq F3 N3
    have hok8 := rdg_ok (text.cps.toList.length + 1) text.cps.toList (Nat.lt_succ_self _) hok
    have hrl := rdg_len (text.cps.toList.length + 1) text.cps.toList (Nat.lt_succ_self _)
    have hsz : its.size ≤ 16384 := by
      have h8 := hdat2.length
      rw [Array.length_toList] at h8
      rw [slen] at hx
      omega
    repeat' walk_at "go1"
    rename Fr _ _ _ _ => F8
    rename News _ _ _ _ => N8
    refine kde_tupleOf F8 N8 (News.isList N8 List.mem_cons_self) hsz rfl fun D8 h8 F8' N8' l8 => ?_
    refine tup_eq N8' (List.mem_cons_of_mem _ (List.mem_cons_of_mem _ List.mem_cons_self)) (hdat.mono fun p hp => List.mem_cons_of_mem _ (List.mem_cons_of_mem _ (List.mem_cons_of_mem _ (List.mem_append_left _ hp)))) List.mem_cons_self
      (hdat2.mono fun p hp => List.mem_cons_of_mem _ (List.mem_cons_of_mem _ (List.mem_cons_of_mem _ (List.mem_append_right _ (List.mem_cons_of_mem _ hp))))) hok8 ?hu ?_
    case hu => ke_room
    have N7 : News (ghostOf s₁.heap [(27, 23)]) s₁.heap.objs.size h8 [(23, tabObj ps9)] := fun p hp => N8' p (by
      rw [List.mem_singleton.mp hp]
      exact List.mem_cons_of_mem _ (List.mem_cons_of_mem _ (List.mem_cons_of_mem _ (List.mem_append_right _ List.mem_cons_self))))
    clear N8' N8
    repeat' walk_at "go1"
    exact hgens
  · obtain rfl := hn hb
    refine' caught_SN0 (T' := "ValueError") (g₀ := ghostOf s₁.heap [(27, 23)]) R9 FG9 K9 sm9 X9 T9 ktsDicts_nil KtsTurn.refl ?ex PyProof.Rows.Boot.«ValueError» ?hn PySem.F.isExc_ValueError PySem.F.notTuple_ValueError PySem.F.self_ValueError ?_
    case ex => k_is
    case hn => decide
    intro h' g' Tn F' N' K' X' T' D'
    clear F3 N3
    repeat' walk_at "go1"
    · exact F'.keep _ _ (Tn.other _ _ (by assumption) List.not_mem_nil)
    · exact hgens)
end Mine
end

set_option maxRecDepth 100000 in
set_option maxHeartbeats 8000000 in
theorem PySem.Challenge.cw_bp0016_01_holds : PySem.Challenge.rw_bp0016_01.Holds := by
  exact Mine.law_holds
