import PyProof.Rows.All
import Wide.All
import OpenK.AllK
import Wide.FinOn
import PySem.Challenge.RW_wb0029_01
-- The walker keeps the lines for a key as long as as many walk_at lines are in force: the rows "MINE none" say nothing, they keep the numbers of two parts that follow one another apart.
set_option Elab.async false
set_option linter.all false
section Part0x
open PySem PySem.W PyProof.Rows
set_option Elab.async false
set_option maxRecDepth 100000
set_option maxHeartbeats 8000000
namespace Mine
open_top hd for PySem.Challenge.rw_wb0029_01
end Mine
end Part0x
theorem Mine.topOff : True := by
  w_top off
  trivial
section Part1x
open PySem PySem.W PyProof.Rows PySem.Spec PySem.Calls
set_option Elab.async false
set_option maxRecDepth 100000
namespace Mine
noncomputable abbrev PR : Program := Challenge.rw_wb0029_01.row.prog
noncomputable abbrev KK (w : World) : Frag := hd.heap_39 w.params
noncomputable abbrev TopX (mean : ExcName → Option Value) (mg mb : Str → Option Value) (h : Heap) : Prop := Top hd.view_39 (looseW hd.view_39 []) mean mg mb h
noncomputable def topStmt (n : Nat) : Stmt := Challenge.pw_wb0029_01.main.body.getD n default
noncomputable def bodyOf : Stmt → List Stmt
  | .FunctionDef _ _ b _ _ _ _ _ _ _ => b
  | _ => []
noncomputable def scopeOf : Stmt → Scope
  | .FunctionDef _ _ _ _ _ _ s _ _ _ => s
  | _ => default
noncomputable def parseBody : List Stmt := bodyOf (topStmt 3)
noncomputable def parseScope : Scope := scopeOf (topStmt 3)
end Mine
end Part1x
section Part2x
open PySem PySem.W PyProof.Rows PySem.Spec PySem.Calls
set_option Elab.async false
set_option maxRecDepth 100000
namespace Mine
noncomputable def S (l : List Nat) : Str := ⟨l.toArray⟩
theorem S_cps (l : List Nat) : (S l).cps.toList = l := by simp [S]
theorem S_of (x : Str) : S x.cps.toList = x := by cases x; simp [S]
theorem S_len (l : List Nat) : (S l).length = l.length := by simp [S, Str.length]
theorem len_eq (x : Str) : x.length = x.cps.toList.length := by simp [Str.length]
theorem S_inj {a b : List Nat} (h : S a = S b) : a = b := by have := congrArg (fun x => x.cps.toList) h; simpa [S] using this
theorem S_app (a b : List Nat) : S a ++ S b = S (a ++ b) := by
  show Str.append _ _ = _
  simp [Str.append, S]
theorem app_S (x : Str) (b : List Nat) : x ++ S b = S (x.cps.toList ++ b) := by rw [← S_app, S_of]
theorem S_beq (a b : List Nat) : (S a == S b) = (a == b) := by
  by_cases h : a = b
  · subst h; rw [beq_self_eq_true, beq_self_eq_true]
  · have h' : S a ≠ S b := fun e => h (S_inj e)
    rw [beq_eq_false_iff_ne.mpr h, beq_eq_false_iff_ne.mpr h']
theorem S_beq' (a b : Str) : (a == b) = (a.cps.toList == b.cps.toList) := by rw [← S_beq, S_of, S_of]
theorem fr_put {g : Heap} {L : Addr} {h : Heap} {m : Str → Option Value} {x : Str} {v : Value} (e : m x = some v) (F : Fr g L h m) : Fr g L h (fun y => if y = x then some v else m y) := by
  have : (fun y => if y = x then some v else m y) = m := by
    funext y
    by_cases q : y = x
    · subst q; simp [e]
    · simp [q]
  rw [this]; exact F
theorem put_eq {m k : Str → Option Value} {x : Str} {v : Value} (e : m x = some v) (hk : k = m) : (fun y => if y = x then some v else k y) = m := by
  funext y
  by_cases q : y = x
  · subst q; simp [e]
  · simp [q, hk]
theorem put_in {m k : Str → Option Value} {x : Str} {v : Value} (hk : k = m) : (fun y => if y = x then some v else k y) = (fun y => if y = x then some v else m y) := by rw [hk]
theorem fr_eq {g : Heap} {L : Addr} {h : Heap} {m m' : Str → Option Value} (e : m' = m) (F : Fr g L h m) : Fr g L h m' := by rw [e]; exact F
theorem seqIndex_at {i : Int} {n : Nat} (h0 : 0 ≤ i) (h1 : i < n) : seqIndex? i n = some i.toNat := by
  unfold seqIndex?
  have : ¬ i < 0 := by omega
  simp only [this, if_false]
  first | (rw [if_neg (by omega)]) | (simp; omega)
theorem item_at {x : Str} {i : Int} (h0 : 0 ≤ i) (h1 : i < x.length) : Txt.item x i = S [x.cps.toList.getD i.toNat 0] := by
  unfold Txt.item Txt.charAt
  rw [seqIndex_at h0 h1]
  simp only [Option.bind_some]
  have h2 : i.toNat < x.cps.size := by unfold Str.length at h1; omega
  simp [S, List.getD, h2]
theorem q_is : Str.ofString "\"" = S [34] := by decide +kernel
theorem drop_cons {l : List Nat} {k : Nat} (h : k < l.length) : l.drop k = l.getD k 0 :: l.drop (k + 1) := by
  rw [List.drop_eq_getElem_cons h]; simp [List.getD, h]
noncomputable def clipI (v : Option Int) (d n : Nat) : Nat := match v with
  | none => d
  | some i => if i < 0 then (i + n).toNat else min i.toNat n
noncomputable def slF (l u : Option Int) (x : List Nat) : List Nat := (x.take (clipI u x.length x.length)).drop (clipI l 0 x.length)
theorem cl_neg {a : Int} {n : Nat} (h : a ≤ n) : max 0 (min a (n : Int)) = max 0 (min (a.toNat : Int) (n : Int)) := by
  by_cases h0 : 0 ≤ a
  · rw [Int.toNat_of_nonneg h0]
  · have h1 : a ≤ 0 := Int.le_of_lt (Int.not_le.mp h0)
    rw [Int.min_eq_left h, Int.toNat_of_nonpos h1, Int.max_eq_left h1]
    show (0 : Int) = max 0 (min 0 (n : Int))
    rw [Int.min_eq_left (Int.natCast_nonneg n)]; rfl
theorem cl_pos {i : Int} {n : Nat} (h : 0 ≤ i) : max 0 (min i (n : Int)) = max 0 (min ((min i.toNat n : Nat) : Int) (n : Int)) := by
  by_cases g : i.toNat ≤ n
  · rw [Nat.min_eq_left g, Int.toNat_of_nonneg h]
  · have g' : n ≤ i.toNat := Nat.le_of_not_le g
    have g2 : (n : Int) ≤ i := by rw [← Int.toNat_of_nonneg h]; exact Int.ofNat_le.mpr g'
    rw [Nat.min_eq_right g', Int.min_eq_right g2, Int.min_self]
theorem nn (n : Nat) : ¬ (n : Int) < 0 := Int.not_lt.mpr (Int.natCast_nonneg n)
theorem cl_none {d n : Nat} (h : d ≤ n) : (d : Int) = max 0 (min (d : Int) (n : Int)) := by
  rw [Int.min_eq_left (Int.ofNat_le.mpr h), Int.max_eq_right (Int.natCast_nonneg d)]
theorem clip_le {v : Option Int} {d n : Nat} (h : d ≤ n) : clipI v d n ≤ n := by
  cases v with
  | none => exact h
  | some i =>
    unfold clipI; dsimp only; split
    · rename_i h; exact Int.toNat_le.mpr (by omega)
    · exact Nat.min_le_right _ _
open Builtin.Str in
theorem idx_clip (l u : Option Int) (n : Nat) : strSliceIndices l u 1 n = strSliceIndices (some (clipI l 0 n : Int)) (some (clipI u n n : Int)) 1 n := by
  have key : ∀ (v : Option Int) (d : Nat), d ≤ n → (match v with
    | none => (d : Int)
    | some i => max 0 (min (if i < 0 then i + (n : Int) else i) (n : Int))) = max 0 (min (if (clipI v d n : Int) < 0 then (clipI v d n : Int) + (n : Int) else (clipI v d n : Int)) (n : Int)) := by
    intro v d hd
    cases v with
    | none => unfold clipI; dsimp only; rw [if_neg (nn _)]; exact cl_none hd
    | some i =>
      unfold clipI; dsimp only; split
      · rename_i h; rw [if_neg (nn _)]; exact cl_neg (by omega)
      · rename_i h; rw [if_neg (nn _)]; exact cl_pos (Int.not_lt.mp h)
  unfold strSliceIndices
  simp only [show (1 : Int) > 0 by decide, if_true]
  have a := key l 0 (Nat.zero_le _)
  have b := key u n (Nat.le_refl _)
  rw [← a, ← b]
  cases l <;> cases u <;> rfl
open Builtin.Str in
theorem slice_S (x : Str) (l u : Option Int) : Txt.slice x l u = S (slF l u x.cps.toList) := by
  have hn : x.length = x.cps.toList.length := len_eq x
  have e : Txt.slice x l u = StrLaws.sliceText x (some (clipI l 0 x.length : Int)) (some (clipI u x.length x.length : Int)) := by
    unfold Txt.slice StrLaws.sliceText
    rw [idx_clip]
  rw [e]
  unfold slF
  rw [← hn]
  generalize ha : clipI l 0 x.length = a
  generalize hb : clipI u x.length x.length = b
  have hb' : b ≤ x.length := by rw [← hb]; exact clip_le (Nat.le_refl _)
  have ha' : a ≤ x.length := by rw [← ha]; exact clip_le (Nat.zero_le _)
  by_cases hab : a ≤ b
  · rw [StrLaws.sliceText_nat x hab hb', S, List.drop_take]
  · unfold StrLaws.sliceText
    have e2 : strSliceIndices (some (a : Int)) (some (b : Int)) 1 x.length = [] := by
      unfold strSliceIndices sliceRange
      simp only [show (1 : Int) > 0 by decide, if_true]
      rw [if_neg (nn b), if_neg (nn a), if_neg (by omega)]
      rfl
    rw [e2]
    have e3 : ¬ (([] : List Nat).length = x.length) := by simp only [List.length_nil]; omega
    have e4 : (x.cps.toList.take b).drop a = [] := by
      rw [List.drop_eq_nil_iff, List.length_take]; exact Nat.le_trans (Nat.min_le_left _ _) (Nat.le_of_lt (Nat.not_le.mp hab))
    rw [e4]
    simp only [List.length_nil, List.filterMap_nil]
    rw [if_neg (by simp only [Bool.and_eq_true, beq_iff_eq, not_and]; intro _ h; exact e3 h)]
    rfl
theorem slF_to {x : List Nat} {k : Nat} : slF none (some (k : Int)) x = x.take k := by
  unfold slF clipI
  dsimp only
  rw [if_neg (nn _), List.drop_zero, Int.toNat_natCast]
  by_cases h : k ≤ x.length
  · rw [Nat.min_eq_left h]
  · rw [Nat.min_eq_right (by omega), List.take_length, List.take_of_length_le (by omega)]
theorem slF_from {x : List Nat} {k : Nat} : slF (some (k : Int)) none x = x.drop k := by
  unfold slF clipI
  dsimp only
  rw [if_neg (nn _), List.take_length, Int.toNat_natCast]
  by_cases h : k ≤ x.length
  · rw [Nat.min_eq_left h]
  · rw [Nat.min_eq_right (by omega), List.drop_length, List.drop_of_length_le (by omega)]
theorem slF_ft {x : List Nat} {j k : Nat} : slF (some (j : Int)) (some (k : Int)) x = (x.take k).drop j := by
  have e : slF (some (j : Int)) (some (k : Int)) x = (slF none (some (k : Int)) x).drop (clipI (some (j : Int)) 0 x.length) := by
    unfold slF
    rw [show clipI none 0 x.length = 0 from rfl, List.drop_zero]
  rw [e, slF_to]
  unfold clipI
  dsimp only
  rw [if_neg (nn _), Int.toNat_natCast]
  by_cases h : j ≤ x.length
  · rw [Nat.min_eq_left h]
  · rw [Nat.min_eq_right (by omega), List.drop_of_length_le (by rw [List.length_take]; exact Nat.min_le_right _ _), List.drop_of_length_le (by rw [List.length_take]; exact Nat.le_trans (Nat.min_le_right _ _) (Nat.le_of_lt (Nat.not_le.mp h)))]
noncomputable abbrev Claim (w : World) (mean : ExcName → Option Value) (mg mb : Str → Option Value) (f : Addr) (need : Nat) (news : List (Addr × Obj)) (vs : List Value) (R : Tok → Value) : Prop :=
  ∀ (dp un : Nat) (gd : Option (List Code)) (cn : Str) (cs : Scope) (a : Addr) (ccd : Value) (cl : List (Str × Addr)) (outer : List Env) (A₀ : Around) (base h₀ : Heap) (L : Addr) (m : Str → Option Value) (s : Shared) (Q E : Value → Shared → Prop),
    Below A₀ base outer h₀ → Fr h₀ L s.heap m → (hd.heap_39 w.params).In h₀ → News h₀ L s.heap news → Top hd.view_39 (looseW hd.view_39 []) mean mg mb h₀ → cs.kind = .function →
    dp + need < recursionLimit → un + 8 * need < cLine → CbRet h₀ L m news s Q R →
      wpAny (model Challenge.rw_wb0029_01.row.prog w) (ktrTop dp un gd cn cs L a ccd cl outer) (call (.ref f) vs) Q E s
end Mine
end Part2x
section Part3x
open PySem PySem.W PyProof.Rows PySem.Spec PySem.Calls
set_option Elab.async false
set_option maxRecDepth 100000
set_option maxHeartbeats 2000000
namespace Mine
noncomputable def readF : List Nat → List Nat
  | [] => []
  | c :: r => if c = 34 then (match r with
    | d :: r' => if d = 34 then 34 :: readF r' else []
    | [] => []) else c :: readF r
theorem readF_other {c : Nat} {r : List Nat} (h : c ≠ 34) : readF (c :: r) = c :: readF r := by rw [readF.eq_def]; simp only [if_neg h]
theorem readF_two {r : List Nat} : readF (34 :: 34 :: r) = 34 :: readF r := by rw [readF.eq_def]; rfl
theorem readF_one : readF [34] = [] := by rw [readF.eq_def]; rfl
theorem readF_end {c : Nat} {r : List Nat} (h : c ≠ 34) : readF (34 :: c :: r) = [] := by rw [readF.eq_def]; simp only [if_neg h, if_true]
theorem it_eq {x : Str} {i : Int} (h0 : 0 ≤ i) (h1 : i < x.length) (h : (Txt.item x i == Str.ofString "\"") = true) : x.cps.toList.getD i.toNat 0 = 34 := by
  rw [item_at h0 h1, q_is, S_beq] at h
  simpa using h
theorem it_ne {x : Str} {i : Int} (h0 : 0 ≤ i) (h1 : i < x.length) (h : (Txt.item x i == Str.ofString "\"") = false) : x.cps.toList.getD i.toNat 0 ≠ 34 := by
  rw [item_at h0 h1, q_is, S_beq] at h
  simpa using h
theorem rd_drop {x : Str} {i : Int} (h0 : 0 ≤ i) (h1 : i < x.length) : x.cps.toList.drop i.toNat = x.cps.toList.getD i.toNat 0 :: x.cps.toList.drop (i + 1).toNat := by
  rw [drop_cons (by rw [len_eq] at h1; omega), show (i + 1).toNat = i.toNat + 1 by omega]
theorem rd_end {x : Str} {i : Int} (h1 : (x.length : Int) ≤ i) : x.cps.toList.drop i.toNat = [] := by
  rw [List.drop_eq_nil_iff]; rw [len_eq] at h1; omega
theorem pe1 {x d : Str} {i : Int} {D : List Nat} (hd : d.cps.toList ++ readF (x.cps.toList.drop i.toNat) = D) (h0 : 0 ≤ i) (h1 : i < x.length) (h : (Txt.item x i == Str.ofString "\"") = true) (h2 : (x.length : Int) ≤ i + 1) : d = ⟨D.toArray⟩ := by
  rw [rd_drop h0 h1, it_eq h0 h1 h, rd_end h2, readF_one, List.append_nil] at hd
  subst hd; exact (S_of d).symm
theorem pe2 {x d : Str} {i : Int} {D : List Nat} (hd : d.cps.toList ++ readF (x.cps.toList.drop i.toNat) = D) (h0 : 0 ≤ i) (h1 : i < x.length) (h : (Txt.item x i == Str.ofString "\"") = true) (h2 : ¬ (x.length : Int) ≤ i + 1) (h3 : (Txt.item x (i + 1) != Str.ofString "\"") = true) : d = ⟨D.toArray⟩ := by
  rw [rd_drop h0 h1, it_eq h0 h1 h, rd_drop (by omega) (by omega), readF_end (it_ne (by omega) (by omega) (by simpa [bne] using h3)), List.append_nil] at hd
  subst hd; exact (S_of d).symm
theorem pe3 {x d : Str} {i : Int} {D : List Nat} (hd : d.cps.toList ++ readF (x.cps.toList.drop i.toNat) = D) (h0 : 0 ≤ i) (h1 : i < x.length) (h : (Txt.item x i == Str.ofString "\"") = true) (h2 : ¬ (x.length : Int) ≤ i + 1) (h3 : (Txt.item x (i + 1) != Str.ofString "\"") = false) :
    (d ++ Txt.item x i).cps.toList ++ readF (x.cps.toList.drop (i + 1 + 1).toNat) = D := by
  rw [rd_drop h0 h1, it_eq h0 h1 h, rd_drop (by omega) (by omega), it_eq (by omega) (by omega) (by simpa [bne] using h3), readF_two] at hd
  rw [← hd, item_at h0 h1, it_eq h0 h1 h, app_S, S_cps, List.append_assoc]; rfl
theorem pe4 {x d : Str} {i : Int} {D : List Nat} (hd : d.cps.toList ++ readF (x.cps.toList.drop i.toNat) = D) (h0 : 0 ≤ i) (h1 : i < x.length) (h : (Txt.item x i == Str.ofString "\"") = false) :
    (d ++ Txt.item x i).cps.toList ++ readF (x.cps.toList.drop (i + 1).toNat) = D := by
  rw [rd_drop h0 h1, readF_other (it_ne h0 h1 h)] at hd
  rw [← hd, item_at h0 h1, app_S, S_cps, List.append_assoc]; rfl
theorem pe5 {x d : Str} {i : Int} {D : List Nat} (hd : d.cps.toList ++ readF (x.cps.toList.drop i.toNat) = D) (h1 : ¬ i < x.length) : d = ⟨D.toArray⟩ := by
  rw [rd_end (by omega)] at hd
  subst hd; rw [readF, List.append_nil]

theorem parse_while (w : World) {A : Around} {g : Heap} {L a : Addr} {cd : Value} {qn : Str} {mean mg mb} {m : Str → Option Value} {news : List (Addr × Obj)} {s : Shared} {Q}
   {resp : Str} {tr ti tn td : Tok} (hr : resp.length ≤ 1048576)
   (X : (KK w).In g) (T : TopX mean mg mb g) (F : Fr g L s.heap m) (N : News g L s.heap news)
   (e1 : m "resp" = some (.str resp tr)) (e2 : m "i" = some (.int 5 ti)) (e3 : m "n" = some (.int resp.length tn)) (e4 : m "dirname" = some (.str Str.empty td))
   (hQ : ∀ (u : Str → Option Value) (t : Tok) h' tk', Fr g L h' (fun y => if y = "dirname" then some (.str ⟨(readF (resp.cps.toList.drop 5)).toArray⟩ t) else u y) → News g L h' news → Q .next { s with heap := h', toks := tk' }) :
   wpAny (model PR w) A (exec (parseBody.getD 5 default) (envOf qn parseScope L a cd)) Q (fun _ _ => False) s := by
  k_fill
  refine' While_inv2 (fun n m₁ n₁ => n₁ = news ∧ ∃ (i : Int) (d : Str) (ti td : Tok), m₁ "dirname" = some (.str d td) ∧ m₁ "i" = some (.int i ti) ∧ m₁ "n" = some (.int resp.length tn) ∧ m₁ "resp" = some (.str resp tr) ∧ 5 ≤ i ∧ d.cps.toList ++ readF (resp.cps.toList.drop i.toNat) = readF (resp.cps.toList.drop 5) ∧ (d.length : Int) ≤ i ∧ n = ((resp.length : Int) - i).toNat) (n₀ := ((resp.length : Int) - 5).toNat) F N ?hJ ?turn PassesOwn.never
  case hJ =>
    exact ⟨rfl, 5, Str.empty, ti, td, e4, e2, e3, e1, by omega, by rfl, by decide, rfl⟩
  case turn =>
    rintro n m₁ n₁ h₁ tk₁ F₁ N₁ ⟨rfl, i, d, ti, td, q1, q2, q3, q4, hi, hd, hl, rfl⟩
    replace F₁ := fr_eq (put_eq q1 (put_eq q2 (put_eq q3 (put_eq q4 rfl)))) F₁
    try k_fold
    k_steps
    · have e := pe1 hd (by omega) (by assumption) (by assumption) (by assumption)
      rw [← e] at hQ
      exact hQ _ _ _ _ (fr_put rfl (by assumption)) (by assumption)
    · have e := pe2 hd (by omega) (by assumption) (by assumption) (by assumption) (by assumption)
      rw [← e] at hQ
      exact hQ _ _ _ _ (fr_put rfl (by assumption)) (by assumption)
    · have e := pe3 hd (by omega) (by assumption) (by assumption) (by assumption) (by assumption)
      have e2 : (Txt.item resp i).length = 1 := rfl
      refine ⟨_, _, _, _, _, rfl, by assumption, by assumption, ?_, rfl, _, _, _, _, rfl, rfl, rfl, rfl, ?_, e, ?_, rfl⟩
      · omega
      · omega
      · rw [Str.length_append, e2]; omega
    · have e := pe4 hd (by omega) (by assumption) (by assumption)
      have e2 : (Txt.item resp i).length = 1 := rfl
      refine ⟨_, _, _, _, _, rfl, by assumption, by assumption, ?_, rfl, _, _, _, _, rfl, rfl, rfl, rfl, ?_, e, ?_, rfl⟩
      · omega
      · omega
      · rw [Str.length_append, e2]; omega
    · have e := pe5 hd (by assumption)
      rw [← e] at hQ
      exact hQ _ _ _ _ (fr_put rfl (by assumption)) (by assumption)
end Mine
end Part3x
section Part4x
open PySem PySem.W PyProof.Rows PySem.Spec PySem.Calls
set_option Elab.async false
set_option maxRecDepth 100000
set_option maxHeartbeats 2000000
namespace Mine
local macro_rules | `(tactic| walk_at "MINE none") => `(tactic| skip)
noncomputable def parseF (x : List Nat) : Option (List Nat) := if x.take 3 = [50, 53, 55] then some (if (x.take 5).drop 3 = [32, 34] then readF (x.drop 5) else []) else none
theorem t257 : Str.ofString "257" = S [50, 53, 55] := by decide +kernel
theorem tbq : Str.ofString " \"" = S [32, 34] := by decide +kernel
theorem tno : Str.ofString "" = S [] := by decide +kernel
theorem sl3 (x : Str) : Txt.slice x none (some 3) = S (x.cps.toList.take 3) := by rw [slice_S]; exact congrArg S (slF_to (k := 3))
theorem sl35 (x : Str) : Txt.slice x (some 3) (some 5) = S ((x.cps.toList.take 5).drop 3) := by rw [slice_S]; exact congrArg S (slF_ft (j := 3) (k := 5))
theorem pc0 {x : Str} (h : (Txt.slice x none (some 3) != Str.ofString "257") = true) : parseF x.cps.toList = none := by
  rw [sl3, t257, bne, S_beq] at h
  unfold parseF
  rw [if_neg (by simpa using h)]
theorem pc1 {x : Str} {D : List Nat} (hp : parseF x.cps.toList = some D) (h2 : (Txt.slice x (some 3) (some 5) != Str.ofString " \"") = true) : Str.ofString "" = S D := by
  rw [sl35, tbq, bne, S_beq] at h2
  unfold parseF at hp
  split at hp
  · rw [if_neg (by simpa using h2)] at hp
    rw [← Option.some.inj hp]; exact tno
  · cases hp
theorem pc2 {x : Str} {D : List Nat} (hp : parseF x.cps.toList = some D) (h2 : (Txt.slice x (some 3) (some 5) != Str.ofString " \"") = false) : (⟨(readF (x.cps.toList.drop 5)).toArray⟩ : Str) = S D := by
  rw [sl35, tbq, bne, S_beq] at h2
  unfold parseF at hp
  split at hp
  · rw [if_pos (by simpa using h2)] at hp
    rw [← Option.some.inj hp]; rfl
  · cases hp
local macro_rules | `(tactic| walk_at "exec While Compare cons nil") => `(tactic| (k_here; k_dflt (refine wpAny_noRaise ?_; refine' parse_while _ ?hr ?X ?T ?F ?N ?e1 ?e2 ?e3 ?e4 ?_; (case hr => assumption); (case X => k_asm); (case T => k_asm); (case F => k_asm); (case N => k_asm); (case e1 => exact rfl); (case e2 => exact rfl); (case e3 => exact rfl); (case e4 => exact rfl); intro u t h' tk' F' N'; (try dsimp only))))
theorem parse_ok (w : World) (mean : ExcName → Option Value) (mg mb : Str → Option Value) (news : List (Addr × Obj)) (resp : Str) (tk : Tok) {D : List Nat} (hr : resp.length ≤ 1048576) (hp : parseF resp.cps.toList = some D) :
   Claim w mean mg mb 46 1 news [Value.str resp tk] (fun t => Value.str (S D) t) := by
  dsimp only [Claim, CbRet]
  k_fill
  intros
  rename_i hret
  refine wpAny_call ?_
  k_dflt cell_enter
  k_steps
  · rw [pc0 (by assumption)] at hp; cases hp
  · rw [pc1 hp (by assumption)]
    exact hret _ _ _ (by assumption) (by assumption)
  · rw [pc2 hp (by assumption)]
    exact hret _ _ _ (by assumption) (by assumption)
end Mine
end Part4x
section Part5x
open PySem PySem.W PyProof.Rows PyProof.Rows.LCg PySem.Spec PySem.Calls
set_option Elab.async false
set_option maxRecDepth 100000
namespace Mine
inductive Encs {α : Type} (enc : α → Value → Prop) : List Value → List α → Prop
  | nil : Encs enc [] []
  | snoc {vs : List Value} {as : List α} {v : Value} {a : α} : Encs enc vs as → enc a v → Encs enc (vs ++ [v]) (as ++ [a])
noncomputable def IsS (x : Str) (v : Value) : Prop := ∃ t, v = .str x t
noncomputable def IsI (x : Int) (v : Value) : Prop := ∃ t, v = .int x t
theorem is_of {x y : Str} {t : Tok} (h : y = x) : IsS x (.str y t) := ⟨t, by rw [h]⟩
theorem ii_of {x y : Int} {t : Tok} (h : y = x) : IsI x (.int y t) := ⟨t, by rw [h]⟩
section
variable {prog : Program} {w : World} {A : Around} {E : Value → Shared → Prop} {h₀ : Heap} {L : Addr} {m : Str → Option Value} {env : Env} {elt iter : Expr} {x : Str} {scope : Scope} {cl : List (Str × Addr)} {s : Shared} {S : List (Addr × Obj) → Prop} {P : Nat → Value → Prop} {Fin : List Value → List (Addr × Obj) → Prop} {news : List (Addr × Obj)}
theorem rest_map {α : Type} {n : Nat} (enc : α → Value → Prop) (outs : List α) (hlen : outs.length = n)
    (turn : ∀ i o v I oI C oC D m₂ ys h tk (E' : Value → Shared → Prop), outs[i]? = some o → P i v → NsObj oC m₂ → m₂ x = some v → Fr h₀ L h m → News h₀ L h ((I, oI) :: (C, oC) :: (D, lst ys) :: news) → Off3 I C D news → ((@Ne Nat I C) ∧ (@Ne Nat I D) ∧ (@Ne Nat C D)) →
      wpAny (model prog w) A (eval elt (compEnvC scope cl C env)) (CompEnd h₀ L m { s with heap := h, toks := tk } I oI C oC D (lst ys) S (fun y news' => news' = news ∧ enc o y)) E' { s with heap := h, toks := tk })
    (fin : ∀ ys, Encs enc ys outs → Fin ys news) : CompRest prog w A h₀ L m env elt x scope cl s S P Fin n 0 [] news := by
  have key : ∀ (j i : Nat) (ys : List Value), i + j = n → Encs enc ys (outs.take i) → CompRest prog w A h₀ L m env elt x scope cl s S P Fin j i ys news := by
    intro j
    induction j with
    | zero =>
      intro i ys hi hy
      have e : i = outs.length := by omega
      subst e
      rw [List.take_length] at hy
      exact CompRest.zero (fin ys hy)
    | succ j ih =>
      intro i ys hi hy
      refine CompRest.succ ?_
      intro v I oI C oC D m₂ h tk E' hv hC hx F N off ne
      have hk : outs[i]? = some outs[i] := List.getElem?_eq_getElem (by omega)
      refine wpAny_mono (turn i _ v I oI C oC D m₂ ys h tk E' hk hv hC hx F N off ne) (fun y s₂ hq => ?_) fun _ _ e => e
      obtain ⟨h', tk', nw, e, F', N', off', hS, hn, hy'⟩ := hq
      subst hn
      refine ⟨h', tk', nw, e, F', N', off', hS, ih (i + 1) _ (by omega) ?_⟩
      rw [List.take_add_one, hk]
      exact Encs.snoc hy hy'
  exact key n 0 [] (by omega) Encs.nil

theorem fresh_off (N : News h₀ L s.heap news) : ∀ p ∈ news, p.1 ≠ s.heap.objs.size := fun p hp => Nat.ne_of_lt (Heap.lt_size (N p hp).1)
theorem fresh_none (F : Fr h₀ L s.heap m) : h₀.get? s.heap.objs.size = none := by
  cases e : h₀.get? s.heap.objs.size with
  | none => rfl
  | some o => exact absurd (Heap.lt_size (F.keep _ _ e)) (Nat.lt_irrefl _)
noncomputable def StrSrc (prog : Program) (w : World) (A : Around) (h₀ : Heap) (L : Addr) (m : Str → Option Value) (env : Env) (elt : Expr) (x : Str) (scope : Scope) (cl : List (Str × Addr)) (Q : Value → Shared → Prop) (xv : Value) (s₁ : Shared) : Prop :=
  ∃ y t news, xv = .str y t ∧ A.handled = none ∧ Fr h₀ L s₁.heap m ∧ News h₀ L s₁.heap news ∧ y.cps.size ≤ sizeLine ∧
      ∀ g, CompRest prog w A h₀ L m env elt x scope cl { s₁ with heap := g } (fun _ => True) (SignAt y) (FinE h₀ L m { s₁ with heap := g } Q) y.cps.size 0 [] news
theorem ListComp_str {px : Pos} {pos : Pos} {Q : Value → Shared → Prop} (_F₀ : Fr h₀ L s.heap m)
    (hclos : closureFor scope env = pure cl) (hcell : ∀ y ∈ scope.names, y.2 ≠ .cell) (hkind : scope.kind = .function)
    (hnames : ∀ y ∈ scope.names, y.2 = .local → scope.names.lookup y.1 = some .local) (hx : scope.names.lookup x = some .local)
    (h : wpAny (model prog w) A (eval iter env) (StrSrc prog w A h₀ L m env elt x scope cl Q) E s)
    (hs : ∀ x, foldedSetIterable iter env x = pure x := by intro _; rfl) :
    wpAny (model prog w) A (eval (.ListComp elt [⟨.Name x px, iter, [], 0⟩] scope pos) env) Q E s := by
  rw [eval_ListComp]
  refine wpAny_comprehension_free (use := none) rfl hs hclos hkind hnames (wpAny_mono h (fun xv s₁ h₁ => ?_) fun _ _ e => e)
  obtain ⟨y, t, news, rfl, hh, F, N, hsz, R⟩ := h₁
  have up : ∀ (o' : Obj) b o, s₁.heap.get? b = some o → (s₁.heap.push o').get? b = some o := fun _ b o e => Heap.get?_push_of_some _ e
  have lt1 : ∀ (o' : Obj), ∀ b ∈ [s₁.heap.objs.size], b < (s₁.heap.push o').objs.size := fun o' b hb => by
    rw [Heap.size_push, List.mem_singleton.mp hb]; exact Nat.lt_succ_self _
  have stp : ∀ (c : String) i (h h' : Heap) (o : Obj) (nw : List (Addr × Obj)), h.IsStrIter s₁.heap.objs.size c y t i → h.get? s₁.heap.objs.size = some o → h'.get? s₁.heap.objs.size = some o →
      (∀ b o, h₀.get? b = some o → h'.get? b = some o) → News h₀ L h' nw → True → h'.IsStrIter s₁.heap.objs.size c y t i := by
    rintro c i h h' o nw ⟨o', e', r⟩ e1 e2 _ _ _
    rw [e1] at e'; cases e'
    exact ⟨o, e2, r⟩
  have fin : ∀ (s₂ : Shared) D C h tk m' ys news', Fr h₀ L h m → News h₀ L h ((D, lst ys) :: news') → Off1 D news' → h.Ns C m' → h₀.get? C = none → h₀.get? D = none → C ≠ L → D ≠ L → C ≠ D → (∀ p ∈ news', p.1 ≠ C) → FinE h₀ L m s₂ Q ys news' →
      compPost (model prog w) A E none Q (.ref D) C (.ok .next) { s₂ with heap := h, toks := tk } := by
    intro s₂ D C h' tk m' ys news' F' N' o1 hn hC₀ hD₀ hCL hDL hCD offC fin
    refine ⟨m', hn, fun h'' hs'' => fin D h'' tk (F'.change hs'' hCL hC₀) (fun p hp => ?_) o1⟩
    refine ⟨hs''.extBut _ _ ?_ (N' p hp).1, (N' p hp).2⟩
    rcases List.mem_cons.mp hp with rfl | hp
    · exact Ne.symm hCD
    · exact offC p hp
  cases ha : y.cps.all (· < 128) with
  | true =>
    refine wpAny_pyIter_ascii ha ?_
    exact block_U (Walks.strAscii hh s₁.heap.objs.size y t) hsz (fun i h st => ⟨_, st.choose_spec.1⟩) (stp _) hcell hkind hx ⟨_, Heap.get?_push_size _ rfl, rfl, rfl⟩ (lt1 _)
      (F.keeps (up _)) (N.grown (up _)) (Nat.ne_of_lt F.ns.lt) (fresh_none F) (fresh_off N) trivial (R _) (fin _)
  | false =>
    refine wpAny_pyIter_wide ha ?_
    exact block_U (Walks.strWide hh s₁.heap.objs.size y t) hsz (fun i h st => ⟨_, st.choose_spec.1⟩) (stp _) hcell hkind hx ⟨_, Heap.get?_push_size _ rfl, rfl, rfl⟩ (lt1 _)
      (F.keeps (up _)) (N.grown (up _)) (Nat.ne_of_lt F.ns.lt) (fresh_none F) (fresh_off N) trivial (R _) (fin _)
end
theorem strs_snoc {v : Value} {a : Str} (h : IsS a v) : ∀ {vs : List Value} {as : List Str}, StrsAre vs as → StrsAre (vs ++ [v]) (as ++ [a])
  | _, _, .nil => by obtain ⟨t, rfl⟩ := h; exact .cons a t .nil
  | _, _, .cons y t r => .cons y t (strs_snoc h r)
theorem encs_strs {vs : List Value} {as : List Str} (h : Encs IsS vs as) : StrsAre vs as := by
  induction h with
  | nil => exact .nil
  | snoc _ hv ih => exact strs_snoc hv ih
theorem ints_snoc {v : Value} {a : Int} (h : IsI a v) : ∀ {vs : List Value} {as : List Int}, IntsAre vs as → IntsAre (vs ++ [v]) (as ++ [a])
  | _, _, .nil => by obtain ⟨t, rfl⟩ := h; exact .cons a t .nil
  | _, _, .cons y t r => .cons y t (ints_snoc h r)
theorem encs_ints {vs : List Value} {as : List Int} (h : Encs IsI vs as) : IntsAre vs as := by
  induction h with
  | nil => exact .nil
  | snoc _ hv ih => exact ints_snoc hv ih
theorem sjoin_S : ∀ ls : List (List Nat), Str.join (S []) (ls.map S) = S ls.flatten
  | [] => rfl
  | [x] => by simp [Str.join]
  | x :: y :: r => by
    show S x ++ S [] ++ Str.join (S []) ((y :: r).map S) = _
    rw [sjoin_S (y :: r), S_app, S_app]
    simp
theorem e_is : Str.ofString "" = S [] := by decide +kernel
theorem join_S (ls : List (List Nat)) : Txt.join (Str.ofString "") (ls.map S) = S ls.flatten := by
  show Builtin.Str.glued _ _ = _
  rw [StrLaws.glued_eq_join, e_is, sjoin_S]
end Mine
end Part5x
section Part6x
open PySem PySem.W PyProof.Rows PyProof.Rows.LCg PySem.Spec PySem.Calls
set_option Elab.async false
set_option maxRecDepth 100000
set_option maxHeartbeats 2000000
namespace Mine
local macro_rules | `(tactic| walk_at "MINE none") => `(tactic| skip)
local macro_rules | `(tactic| walk_at "MINE none") => `(tactic| skip)
local macro_rules | `(tactic| walk_at "MINE none") => `(tactic| skip)
open Builtin.Str in
theorem rev_S (x : Str) (u : Tok) : Txt.sliceBy x none none (-1, u) = S x.cps.toList.reverse := by
  unfold Txt.sliceBy
  rw [if_neg (by exact Bool.false_ne_true)]
  have e : slicePicked x none none (some (-1, u)) = (List.range x.length).map fun (k : Nat) => x.length - 1 - k := by
    unfold slicePicked strSliceIndices sliceRange
    simp only [Option.map_none, Option.map_some, Option.getD_some]
    rw [if_neg (show ¬ ((-1 : Int) > 0) by decide), if_neg (show ¬ ((-1 : Int) > 0) by decide), if_neg (show ¬ ((-1 : Int) > 0) by decide)]
    have e1 : (if (x.length : Int) - 1 > -1 then ((x.length : Int) - 1 - -1 - -1 - 1) / - -1 else 0).toNat = x.length := by
      split
      · rw [show (- -1 : Int) = 1 by decide, Int.ediv_one]; omega
      · omega
    rw [e1]
    apply List.map_congr_left
    intro k hk
    have := List.mem_range.mp hk
    omega
  rw [e]
  unfold S
  congr 2
  rw [len_eq]
  generalize hl : x.cps.toList = l
  have hg : ∀ i, x.cps[i]? = l[i]? := fun i => by rw [← hl, Array.getElem?_toList]
  have h2 : ∀ (n : Nat) (hn : n ≤ l.length), (List.filterMap (fun (k : Nat) => x.cps[k]?) ((List.range n).map fun (k : Nat) => l.length - 1 - k)) = (l.reverse).take n := by
    intro n
    induction n with
    | zero => intro _; rfl
    | succ n ih =>
      intro hn
      rw [List.range_succ, List.map_append, List.filterMap_append, ih (by omega), List.take_add_one]
      congr 1
      have : l.length - 1 - n < l.length := by omega
      simp only [List.map_cons, List.map_nil, List.filterMap_cons, List.filterMap_nil]
      rw [List.getElem?_reverse (by omega), hg, List.getElem?_eq_getElem this]
      rfl
  rw [h2 _ (Nat.le_refl _), List.take_of_length_le (by simp)]
noncomputable def turn1 (c : Nat) : Nat := if c = 40 then 41 else 40
noncomputable def turnedF (l : List Nat) : List Nat := l.reverse.map turn1
theorem tl : Str.ofString "(" = S [40] := by decide +kernel
theorem tr : Str.ofString ")" = S [41] := by decide +kernel
theorem turn_t {c : Nat} (h : ((⟨#[c]⟩ : Str) == Str.ofString "(") = true) : Str.ofString ")" = S [turn1 c] := by
  rw [tl, show (⟨#[c]⟩ : Str) = S [c] from rfl, S_beq] at h
  rw [tr, turn1, if_pos (by simpa using h)]
theorem turn_f {c : Nat} (h : ((⟨#[c]⟩ : Str) == Str.ofString "(") = false) : Str.ofString "(" = S [turn1 c] := by
  rw [tl, show (⟨#[c]⟩ : Str) = S [c] from rfl, S_beq] at h
  rw [tl, turn1, if_neg (by simpa using h)]
theorem sum_ones (l : List Nat) : ((l.map fun c => S [turn1 c]).map (·.length)).sum = l.length := by
  induction l with
  | nil => rfl
  | cons a r ih => simp only [List.map_cons, List.sum_cons, ih, List.length_cons]; show 1 + r.length = _; omega
theorem flat_ones (l : List Nat) (f : Nat → Nat) : (l.map fun c => [f c]).flatten = l.map f := by
  induction l with
  | nil => rfl
  | cons a r ih => simp [ih]
local macro_rules | `(tactic| walk_at "eval ListComp") => `(tactic| (k_here; k_dflt (refine ListComp_str (by k_asm) (by rfl) (by decide) (by rfl) (by decide) (by rfl) ?_)))
local macro_rules | `(tactic| walk_at "call builtin:str.join") => `(tactic| (k_here; k_dflt (refine join_list (News.isList (by k_asm) (by k_mem)) (by assumption) (by assumption) ?_); intro t' k'))
theorem turned_ok (w : World) (mean : ExcName → Option Value) (mg mb : Str → Option Value) (news : List (Addr × Obj)) (row : Str) (tk : Tok) (hr : row.length ≤ 1000) :
   Claim w mean mg mb 79 1 news [Value.str row tk] (fun t => Value.str (S (turnedF row.cps.toList)) t) := by
  dsimp only [Claim, CbRet]
  k_fill
  intros
  rename_i hret
  refine wpAny_call ?_
  k_dflt cell_enter
  k_steps
  unfold StrSrc
  simp only [rev_S]
  refine ⟨_, _, _, rfl, rfl, by assumption, by assumption, ?_, fun g => ?_⟩
  · rw [sizeLine_eq, Array.size_eq_length_toList, S_cps, List.length_reverse]; rw [len_eq] at hr; omega
  refine rest_map IsS (row.cps.toList.reverse.map fun c => S [turn1 c]) (by simp [S]) ?_ ?_
  · rintro i o v I oI C oC D m₂ ys h tk E' ho ⟨c, u, hc, rfl⟩ hC hx F N off ne
    have ho' : o = S [turn1 c] := by
      rw [List.getElem?_map] at ho
      have hc' : row.cps.toList.reverse[i]? = some c := by simpa [S] using hc
      rw [hc'] at ho
      exact (Option.some.inj ho).symm
    subst ho'
    k_steps
    · exact CompEnd.intro (by assumption) (by assumption) _ (fun p hp => hp) off trivial ⟨rfl, is_of (turn_t (by assumption))⟩
    · exact CompEnd.intro (by assumption) (by assumption) _ (fun p hp => hp) off trivial ⟨rfl, is_of (turn_f (by assumption))⟩
  · intro ys hys D h tk F N o1
    have hi := encs_strs hys
    have hok : ((row.cps.toList.reverse.map fun c => S [turn1 c]).map (·.length)).sum + (row.cps.toList.reverse.map fun c => S [turn1 c]).length * (Str.ofString "").length ≤ 16777216 := by
      rw [sum_ones, e_is, S_len]; simp only [List.length_reverse, List.length_map, List.length_nil]; rw [len_eq] at hr; omega
    k_steps
    rw [show (row.cps.toList.reverse.map fun c => S [turn1 c]) = (row.cps.toList.reverse.map fun c => [turn1 c]).map S by simp, join_S, flat_ones]
    exact hret _ _ _ (by assumption) (cb_drop (by assumption) (fun p hp => List.mem_cons_of_mem _ hp))
end Mine
end Part6x
section Part7x
open PySem PySem.W PyProof.Rows PyProof.Rows.LCg PySem.Spec PySem.Calls
set_option Elab.async false
set_option maxRecDepth 100000
namespace Mine
/-- how a loop's turn ends -/
noncomputable def TurnEnd (h₀ : Heap) (L I : Addr) (oI : Obj) (S : List (Addr × Obj) → Prop) (T : Shared → Prop) (J : (Str → Option Value) → List (Addr × Obj) → Prop) (Q : Flow → Shared → Prop) (f : Flow) (s : Shared) : Prop :=
  match f with
  | .brk => Q .next s
  | .ret v => Q (.ret v) s
  | _ => ∃ m news, T s ∧ Fr h₀ L s.heap m ∧ News h₀ L s.heap ((I, oI) :: news) ∧ (∀ p ∈ news, p.1 ≠ I) ∧ S news ∧ J m news
noncomputable def Turns (prog : Program) (w : World) (A : Around) (h₀ : Heap) (L : Addr) (env : Env) (x : Str) (body : List Stmt) (Q : Flow → Shared → Prop) (E : Value → Shared → Prop) (T : Shared → Prop) (S : List (Addr × Obj) → Prop) (n : Nat) (P : Nat → Value → Prop)
    (J : Nat → (Str → Option Value) → List (Addr × Obj) → Prop) : Prop :=
  ∀ i v m news s I oI, i < n → P i v → J i m news → T s → Fr h₀ L s.heap (fun y => if y = x then some v else m y) → News h₀ L s.heap ((I, oI) :: news) → (∀ p ∈ news, p.1 ≠ I) → S news →
    wpAny (model prog w) A (execs body env) (TurnEnd h₀ L I oI S T (J (i + 1)) Q) E s
noncomputable def Dones (h₀ : Heap) (L : Addr) (Q : Flow → Shared → Prop) (T : Shared → Prop) (n : Nat) (J : Nat → (Str → Option Value) → List (Addr × Obj) → Prop) : Prop :=
  ∀ m news s, T s → Fr h₀ L s.heap m → News h₀ L s.heap news → J n m news → Q .next s
structure Still (T : Shared → Prop) : Prop where
  out : ∀ s h tk, T s → T { s with heap := h, toks := tk }
section
variable {prog : Program} {w : World} {A : Around} {h₀ : Heap} {L : Addr} {env : Env} {x : Str} {px pos : Pos} {iter : Expr} {body : List Stmt} {Q : Flow → Shared → Prop} {E : Value → Shared → Prop} {T : Shared → Prop} {S : List (Addr × Obj) → Prop} {n : Nat} {P : Nat → Value → Prop}
  {J : Nat → (Str → Option Value) → List (Addr × Obj) → Prop} {m : Str → Option Value} {news : List (Addr × Obj)} {s : Shared} {R : Result → Shared → Prop} {I : Addr} {fp : List Addr} {St : Nat → Heap → Prop}
theorem loop_core (W : Walks prog w A I fp [I] n P St) (hx : env.kindOf x = some .local) (hp : (env.scope.kind == .class || (env.scope.kind == .module && env.locals != env.globals)) = false) (hL : env.locals = L)
    (hIo : ∀ i h, St i h → ∃ o, h.get? I = some o) (hLf : L ∉ fp) (hI₀ : h₀.get? I = none)
    (hSt : ∀ i h h' o nw, St i h → h.get? I = some o → h'.get? I = some o → (∀ b o, h₀.get? b = some o → h'.get? b = some o) → News h₀ L h' nw → S nw → St i h')
    (still : Still T) (hst : St 0 s.heap) (F : Fr h₀ L s.heap m) (N : News h₀ L s.heap news) (off : ∀ p ∈ news, p.1 ≠ I) (hS : S news) (hT : T s) (hJ : J 0 m news)
    (turn : Turns prog w A h₀ L env x body (fun f s => R (.ok f) s) (notedBy (model prog w) A env fun e s' => R (.error e) s') T S n P J)
    (done : Dones h₀ L (fun f s => R (.ok f) s) T n J) : codeAny (model prog w) A (.forLoop (.Name x px) (.ref I) body [] env) R s := by
  have hLI : L ≠ I := fun e => hLf (e ▸ W.sub I (by simp))
  refine codeAny_forLoop (fun k s' => ∃ i m' news', k = n + 1 - i ∧ i ≤ n ∧ St i s'.heap ∧ Fr h₀ L s'.heap m' ∧ News h₀ L s'.heap news' ∧ (∀ p ∈ news', p.1 ≠ I) ∧ S news' ∧ T s' ∧ J i m' news') ?_ (n + 1)
    ⟨0, m, news, rfl, Nat.zero_le _, hst, F, N, off, hS, hT, hJ⟩
  rintro k s' ⟨i, m', news', rfl, hi, hst', F', N', off', hS', hT', hJ'⟩
  by_cases hlt : i < n
  · refine W.item i _ _ _ hlt hst' fun v h₁ tk₁ hP hst₁ hk₁ => ?_
    have F₁ : Fr h₀ L h₁ m' := fr_but F' hk₁ hLI hI₀
    have N₁ : News h₀ L h₁ news' := news_but N' hk₁ off'
    subst hL
    refine wpAny_assign_Name (wpAny_storeName_local hx F₁.ns (fun h₂ hn₂ hs₂ => ?_) hp)
    have F₂ := F₁.set hn₂ hs₂
    have N₂ := N₁.set hs₂
    have hst₂ : St (i + 1) h₂ := W.frame _ _ _ hst₁ fun b hb o e => (hs₂.2 b fun q => hLf (q ▸ hb)).trans e
    obtain ⟨oI, heI⟩ := hIo _ _ hst₂
    have N₃ : News h₀ env.locals h₂ ((I, oI) :: news') := fun p hp => by
      rcases List.mem_cons.mp hp with rfl | hp
      · exact ⟨heI, Ne.symm hLI, hI₀⟩
      · exact N₂ p hp
    refine wpAny_mono (turn i v m' news' { s' with heap := h₂, toks := tk₁ + 1 } I oI hlt hP hJ' (still.out _ _ _ hT') F₂ N₃ off' hS') (fun f s₃ h₃ => ?_) fun _ _ e => e
    have next : (∃ m news, T s₃ ∧ Fr h₀ env.locals s₃.heap m ∧ News h₀ env.locals s₃.heap ((I, oI) :: news) ∧ (∀ p ∈ news, p.1 ≠ I) ∧ S news ∧ J (i + 1) m news) → ∃ k', k' < n + 1 - i ∧ ∃ i' m' news', k' = n + 1 - i' ∧ i' ≤ n ∧ St i' s₃.heap ∧ Fr h₀ env.locals s₃.heap m' ∧ News h₀ env.locals s₃.heap news' ∧ (∀ p ∈ news', p.1 ≠ I) ∧ S news' ∧ T s₃ ∧ J i' m' news' := by
      rintro ⟨m₃, news₃, hT₃, F₃, N₃, off₃, hS₃, hJ₃⟩
      have N₃' : News h₀ env.locals s₃.heap news₃ := fun p hp => N₃ p (List.mem_cons_of_mem _ hp)
      exact ⟨n + 1 - (i + 1), by omega, i + 1, m₃, news₃, rfl, hlt, hSt _ _ _ _ _ hst₂ heI (N₃ _ List.mem_cons_self).1 F₃.keep N₃' hS₃, F₃, N₃', off₃, hS₃, hT₃, hJ₃⟩
    cases f with
    | next => exact next h₃
    | cont => exact next h₃
    | brk => exact h₃
    | ret v => exact h₃
  · have hin : i = n := by omega
    subst hin
    refine W.done _ _ _ hst' fun h₁ tk₁ hk₁ => wpAny_execs_nil ?_
    exact done m' news' _ (still.out _ _ _ hT') (fr_but F' hk₁ hLI hI₀) (news_but N' hk₁ off') hJ'

noncomputable def TupAt (h₀ : Heap) (ax : Addr) (its : Array Value) (news : List (Addr × Obj)) : Prop := IsTup h₀ ax its ∨ ∃ o, (ax, o) ∈ news ∧ o.cls = .type "tuple" ∧ ∃ n, o.data = .seq its n
theorem TupAt.tup {ax : Addr} {its : Array Value} {h : Heap} (x : TupAt h₀ ax its news) (k : ∀ b o, h₀.get? b = some o → h.get? b = some o) (N : News h₀ L h news) : IsTup h ax its := by
  rcases x with ⟨o, e, r⟩ | ⟨o, hm, r⟩
  · exact ⟨o, k _ _ e, r⟩
  · exact ⟨o, (N _ hm).1, r⟩
inductive Source (h₀ : Heap) (h : Heap) : Value → (List (Addr × Obj) → Prop) → Nat → (Nat → Value → Prop) → Prop
  | str (y : Str) (t : Tok) : Source h₀ h (.str y t) (fun _ => True) y.cps.size (SignAt y)
  | list (ax : Addr) (its : Array Value) : Source h₀ h (.ref ax) (SrcAt h₀ ax its) its.size (fun i v => its[i]? = some v)
  | tup (ax : Addr) (its : Array Value) : Source h₀ h (.ref ax) (TupAt h₀ ax its) its.size (fun i v => its[i]? = some v)
  | range (r : Addr) (a b : Int) (t u v : Tok) (n : Nat) : IsRange h r a b 1 t u v → Builtin.Range.small a b 1 = true → Builtin.Range.rangeSize a b 1 = ((n : Nat) : Int) → Source h₀ h (.ref r) (fun _ => True) n (fun i w => ∃ t, w = .int (a + (i : Int)) t)
noncomputable def LoopSrc (prog : Program) (w : World) (A : Around) (h₀ : Heap) (L : Addr) (env : Env) (x : Str) (body : List Stmt) (Q : Flow → Shared → Prop) (E : Value → Shared → Prop) (xv : Value) (s : Shared) : Prop :=
  ∃ (T : Shared → Prop) (S : List (Addr × Obj) → Prop) (n : Nat) (P : Nat → Value → Prop) (J : Nat → (Str → Option Value) → List (Addr × Obj) → Prop) (m : Str → Option Value) (news : List (Addr × Obj)),
    Source h₀ s.heap xv S n P ∧ A.handled = none ∧ Fr h₀ L s.heap m ∧ News h₀ L s.heap news ∧ S news ∧ Still T ∧ T s ∧ J 0 m news ∧ Turns prog w A h₀ L env x body Q E T S n P J ∧ Dones h₀ L Q T n J
theorem For_src (_F₀ : Fr h₀ L s.heap m) (hx : env.kindOf x = some .local) (hp : (env.scope.kind == .class || (env.scope.kind == .module && env.locals != env.globals)) = false) (hL : env.locals = L)
    (h : wpAny (model prog w) A (eval iter env) (LoopSrc prog w A h₀ L env x body Q E) E s)
    (hs : ∀ x, foldedSetIterable iter env x = pure x := by intro _; rfl) (hE : PassesOwn (model prog w) A env E := by passes_own) :
    wpAny (model prog w) A (exec (.For (.Name x px) iter body [] pos) env) Q E s := by
  refine wpAny_For (wpAny_mono h (fun xv s₁ h₁ => ?_) fun _ _ e => e) hs
  obtain ⟨T, S, n, P, J, m, news, src, hh, F, N, hS, still, hT, hJ, turn, done⟩ := h₁
  have turn' : Turns prog w A h₀ L env x body Q (notedBy (model prog w) A env (cameBackBy (model prog w) A env E)) T S n P J := fun i v m news s I oI a b c d e f g h => wpAny_passesOwn hE (turn i v m news s I oI a b c d e f g h)
  have up : ∀ (o' : Obj) b o, s₁.heap.get? b = some o → (s₁.heap.push o').get? b = some o := fun _ b o e => Heap.get?_push_of_some _ e
  have hLne : L ≠ s₁.heap.objs.size := Nat.ne_of_lt F.ns.lt
  have offN : ∀ p ∈ news, p.1 ≠ s₁.heap.objs.size := fun p hp => Nat.ne_of_lt (Heap.lt_size (N p hp).1)
  have none0 : h₀.get? s₁.heap.objs.size = none := fresh_none F
  cases src with
  | str y t =>
    have stp : ∀ (c : String) i (h h' : Heap) (o : Obj) (nw : List (Addr × Obj)), h.IsStrIter s₁.heap.objs.size c y t i → h.get? s₁.heap.objs.size = some o → h'.get? s₁.heap.objs.size = some o →
        (∀ b o, h₀.get? b = some o → h'.get? b = some o) → News h₀ L h' nw → True → h'.IsStrIter s₁.heap.objs.size c y t i := by
      rintro c i h h' o nw ⟨o', e', r⟩ e1 e2 _ _ _
      rw [e1] at e'; cases e'
      exact ⟨o, e2, r⟩
    cases ha : y.cps.all (· < 128) with
    | true =>
      refine wpAny_pyIter_ascii ha ?_
      exact loop_core (R := fun r s' => match r with | .ok f => Q f s' | .error e => cameBackBy (model prog w) A env E e s') (Walks.strAscii hh s₁.heap.objs.size y t) hx hp hL (fun i h st => ⟨_, st.choose_spec.1⟩) (by simpa using hLne) none0 (stp _) still ⟨_, Heap.get?_push_size _ rfl, rfl, rfl⟩
        (F.keeps (up _)) (N.grown (up _)) offN trivial (still.out _ _ _ hT) hJ turn' done
    | false =>
      refine wpAny_pyIter_wide ha ?_
      exact loop_core (R := fun r s' => match r with | .ok f => Q f s' | .error e => cameBackBy (model prog w) A env E e s') (Walks.strWide hh s₁.heap.objs.size y t) hx hp hL (fun i h st => ⟨_, st.choose_spec.1⟩) (by simpa using hLne) none0 (stp _) still ⟨_, Heap.get?_push_size _ rfl, rfl, rfl⟩
        (F.keeps (up _)) (N.grown (up _)) offN trivial (still.out _ _ _ hT) hJ turn' done
  | list ax its =>
    have hl := hS.list F.keep N
    have hlt : ax < s₁.heap.objs.size := by obtain ⟨_, e, _⟩ := hl; exact Heap.lt_size e
    have hLa : L ≠ ax := by
      rintro rfl
      rcases hS with ⟨o, e, _⟩ | ⟨o, hm, _⟩
      · exact absurd (Heap.lt_size e) (Nat.not_lt.mpr F.above)
      · exact (N _ hm).2.1 rfl
    refine wpAny_pyIter_list hl ?_
    exact loop_core (R := fun r s' => match r with | .ok f => Q f s' | .error e => cameBackBy (model prog w) A env E e s') (Walks.list hh s₁.heap.objs.size ax (Nat.ne_of_lt hlt) its) hx hp hL (fun i h st => by obtain ⟨o, e, _⟩ := st.1; exact ⟨o, e⟩) (by simp [hLne, hLa]) none0
      (fun i h h' o nw st e e' k N S => ⟨by obtain ⟨o', q, r⟩ := st.1; rw [e] at q; cases q; exact ⟨o, e', r⟩, S.list k N⟩) still ⟨⟨_, Heap.get?_push_size _ rfl, rfl, rfl⟩, hl.push _⟩
      (F.keeps (up _)) (N.grown (up _)) offN hS (still.out _ _ _ hT) hJ turn' done
  | tup ax its =>
    have hl := hS.tup F.keep N
    have hlt : ax < s₁.heap.objs.size := by obtain ⟨_, e, _⟩ := hl; exact Heap.lt_size e
    have hLa : L ≠ ax := by
      rintro rfl
      rcases hS with ⟨o, e, _⟩ | ⟨o, hm, _⟩
      · exact absurd (Heap.lt_size e) (Nat.not_lt.mpr F.above)
      · exact (N _ hm).2.1 rfl
    refine wpAny_pyIter_tuple hl ?_
    exact loop_core (R := fun r s' => match r with | .ok f => Q f s' | .error e => cameBackBy (model prog w) A env E e s') (Walks.tuple hh s₁.heap.objs.size ax (Nat.ne_of_lt hlt) its) hx hp hL (fun i h st => by obtain ⟨o, e, _⟩ := st.1; exact ⟨o, e⟩) (by simp [hLne, hLa]) none0
      (fun i h h' o nw st e e' k N S => ⟨by obtain ⟨o', q, r⟩ := st.1; rw [e] at q; cases q; exact ⟨o, e', r⟩, S.tup k N⟩) still ⟨⟨_, Heap.get?_push_size _ rfl, rfl, rfl⟩, IsTup.keeps hl (up _)⟩
      (F.keeps (up _)) (N.grown (up _)) offN hS (still.out _ _ _ hT) hJ turn' done
  | range r a b t u v n hr hsm hn =>
    refine wpAny_pyIter_range hr hsm ?_
    exact loop_core (R := fun r s' => match r with | .ok f => Q f s' | .error e => cameBackBy (model prog w) A env E e s') (range_walks hh a n) hx hp hL (fun i h st => ⟨_, st⟩) (by simpa using hLne) none0 range_st still (by show IsRangeIter _ _ _ _ _; rw [hn]; simpa using Heap.get?_push_size _ rfl)
      (F.keeps (up _)) (N.grown (up _)) offN trivial (still.out _ _ _ hT) hJ turn' done
end
noncomputable def HT (s s' : Shared) : Prop := ∃ h tk, s' = { s with heap := h, toks := tk }
theorem HT.still {s : Shared} : Still (HT s) := ⟨fun a h tk ⟨h', tk', e⟩ => ⟨h, tk, by rw [e]⟩⟩
theorem HT.mk {s : Shared} {h : Heap} {tk : Nat} : HT s { s with heap := h, toks := tk } := ⟨_, _, rfl⟩
end Mine
end Part7x
local macro_rules | `(tactic| walk_at "MINE src") => `(tactic| (k_here; k_dflt (refine PySem.wpAny_noRaise ?_; refine Mine.For_src (by k_asm) (by rfl) (by rfl) (by rfl) ?_)))
section Part8x
open PySem PySem.W PyProof.Rows PyProof.Rows.LCg PySem.Spec PySem.Calls
set_option Elab.async false
set_option maxRecDepth 100000
set_option maxHeartbeats 2000000
namespace Mine
local macro_rules | `(tactic| walk_at "MINE none") => `(tactic| skip)
local macro_rules | `(tactic| walk_at "MINE none") => `(tactic| skip)
local macro_rules | `(tactic| walk_at "MINE none") => `(tactic| skip)
local macro_rules | `(tactic| walk_at "MINE none") => `(tactic| skip)
local macro_rules | `(tactic| walk_at "MINE none") => `(tactic| skip)
local macro_rules | `(tactic| walk_at "MINE none") => `(tactic| skip)
theorem readF_len : ∀ (n : Nat) (l : List Nat), l.length ≤ n → (readF l).length ≤ l.length
  | 0, [], _ => by simp [readF]
  | n + 1, [], _ => by simp [readF]
  | n + 1, c :: r, h => by
    rw [readF.eq_def]
    dsimp only
    split
    · cases r with
      | nil => simp
      | cons d r' =>
        dsimp only
        split
        · have := readF_len n r' (by simp at h; omega)
          simp; omega
        · simp
    · have := readF_len n r (by simp at h; omega)
      simp; omega
theorem readF_le (l : List Nat) : (readF l).length ≤ l.length := readF_len _ l (Nat.le_refl _)
theorem t257q : Str.ofString "257 \"" = S [50, 53, 55, 32, 34] := by decide +kernel
theorem parse_pre (l : List Nat) : parseF ([50, 53, 55, 32, 34] ++ l) = some (readF l) := by
  unfold parseF
  simp
theorem cps_app (a b : Str) : (a ++ b).cps.toList = a.cps.toList ++ b.cps.toList := by
  show (Str.append a b).cps.toList = _
  simp [Str.append]
theorem hp1 {x : Str} : parseF (Str.ofString "257 \"" ++ x).cps.toList = some (readF x.cps.toList) := by
  rw [cps_app, t257q, S_cps, parse_pre]
theorem hp2 {x y : Str} : parseF (Str.ofString "257 \"" ++ x ++ y).cps.toList = some (readF (x.cps.toList ++ y.cps.toList)) := by
  rw [cps_app, cps_app, t257q, S_cps, List.append_assoc, parse_pre]
theorem use_claim {w : World} {mean mg mb} {f : Addr} {need : Nat} {vs : List Value} {R : Tok → Value} {dp un : Nat} {gd : Option (List Code)} {cn : Str} {cs : Scope} {a : Addr} {ccd : Value} {cl : List (Str × Addr)} {outer : List Env} {A₀ : Around} {base h₀ : Heap} {L : Addr} {m : Str → Option Value} {s : Shared} {Q E : Value → Shared → Prop} {news : List (Addr × Obj)}
   (C : Claim w mean mg mb f need news vs R) (B : Below A₀ base outer h₀) (F : Fr h₀ L s.heap m) (X : (KK w).In h₀) (N : News h₀ L s.heap news) (T : TopX mean mg mb h₀) (hk : cs.kind = .function)
   (hd : dp + need < recursionLimit) (hu : un + 8 * need < cLine) (hQ : CbRet h₀ L m news s Q R) :
   wpAny (model PR w) (ktrTop dp un gd cn cs L a ccd cl outer) (call (.ref f) vs) Q E s := C dp un gd cn cs a ccd cl outer A₀ base h₀ L m s Q E B F X N T hk hd hu hQ
noncomputable def lastS (t : List Nat) : List Nat := slF (some (-1)) none t
noncomputable def loopF (sign : List Nat) : List Nat → List Nat → List Nat
  | [], _ => []
  | f :: fs, t => if lastS (readF t) = sign then loopF sign fs (readF t) else if lastS (readF (readF t ++ sign)) = sign then [f] else turnedF [f]
noncomputable def creaseF (place : Nat) (folds front sign : List Nat) : List Nat := loopF sign folds (front ++ List.replicate place 34 ++ sign)
theorem drop_at {x : Str} {i c : Nat} (h : x.cps[i]? = some c) : x.cps.toList.drop i = c :: x.cps.toList.drop (i + 1) := by
  have h' : x.cps.toList[i]? = some c := by rw [Array.getElem?_toList]; exact h
  obtain ⟨hlt, e⟩ := List.getElem?_eq_some_iff.mp h'
  rw [List.drop_eq_getElem_cons hlt, e]
theorem ls_eq {t : List Nat} {x : Str} (h : (Txt.slice (S t) (some (-1)) none != x) = false) : lastS t = x.cps.toList := by
  rw [slice_S, S_cps, bne, S_beq', S_cps] at h
  simpa [lastS] using h
theorem ls_ne {t : List Nat} {x : Str} (h : (Txt.slice (S t) (some (-1)) none != x) = true) : lastS t ≠ x.cps.toList := by
  rw [slice_S, S_cps, bne, S_beq', S_cps] at h
  simpa [lastS] using h
theorem ls_eq' {t : List Nat} {x : Str} (h : (Txt.slice (S t) (some (-1)) none == x) = true) : lastS t = x.cps.toList := by
  rw [slice_S, S_cps, S_beq', S_cps] at h
  simpa [lastS] using h
theorem ls_ne' {t : List Nat} {x : Str} (h : (Txt.slice (S t) (some (-1)) none == x) = false) : lastS t ≠ x.cps.toList := by
  rw [slice_S, S_cps, S_beq', S_cps] at h
  simpa [lastS] using h
theorem told_eq {front sign : Str} {place : Int} : front ++ Txt.mul (Str.ofString "\"") place ++ sign = S (front.cps.toList ++ List.replicate place.toNat 34 ++ sign.cps.toList) := by
  rw [← S_of (front ++ Txt.mul (Str.ofString "\"") place ++ sign), cps_app, cps_app, q_is, show S [34] = ⟨#[34]⟩ from rfl, mul_one_list]
theorem lp1 {u : List Nat} {x sign : Str} {i c : Nat} {C : List Nat} (hc : x.cps[i]? = some c) (hl : loopF sign.cps.toList (x.cps.toList.drop i) u = C)
    (a : (Txt.slice (S (readF (S u).cps.toList)) (some (-1)) none != sign) = true) (b : (Txt.slice (S (readF ((S (readF (S u).cps.toList)).cps.toList ++ sign.cps.toList))) (some (-1)) none == sign) = true) : (⟨#[c]⟩ : Str) = S C := by
  rw [S_cps] at a b
  rw [S_cps] at b
  rw [drop_at hc, loopF, if_neg (ls_ne a), if_pos (ls_eq' b)] at hl
  rw [← hl]; rfl
theorem lp2 {u : List Nat} {x sign : Str} {i c : Nat} {C : List Nat} (hc : x.cps[i]? = some c) (hl : loopF sign.cps.toList (x.cps.toList.drop i) u = C)
    (a : (Txt.slice (S (readF (S u).cps.toList)) (some (-1)) none != sign) = true) (b : (Txt.slice (S (readF ((S (readF (S u).cps.toList)).cps.toList ++ sign.cps.toList))) (some (-1)) none == sign) = false) : S (turnedF [c]) = S C := by
  rw [S_cps] at a b
  rw [S_cps] at b
  rw [drop_at hc, loopF, if_neg (ls_ne a), if_neg (ls_ne' b)] at hl
  rw [← hl]
theorem lp3 {u : List Nat} {x sign : Str} {i c : Nat} {C : List Nat} (hc : x.cps[i]? = some c) (hl : loopF sign.cps.toList (x.cps.toList.drop i) u = C)
    (a : (Txt.slice (S (readF (S u).cps.toList)) (some (-1)) none != sign) = false) : loopF sign.cps.toList (x.cps.toList.drop (i + 1)) (readF (S u).cps.toList) = C := by
  rw [S_cps] at a ⊢
  rw [drop_at hc, loopF, if_pos (ls_eq a)] at hl
  exact hl
theorem lp4 {u : List Nat} {x sign : Str} {C : List Nat} (hl : loopF sign.cps.toList (x.cps.toList.drop x.cps.size) u = C) : Str.ofString "" = S C := by
  rw [List.drop_of_length_le (by simp), loopF] at hl
  rw [← hl]; exact tno
local macro_rules | `(tactic| walk_at "exec For") => `(tactic| walk_at "MINE src")
local macro_rules | `(tactic| walk_at "MINE use") => `(tactic| ((case B => k_asm); (case F => k_asm); (case X => k_asm); (case N => k_asm); (case T => k_asm); (case hk => first | rfl | assumption); (case hd => ktr_room); (case hu => ktr_units); intro t h' tk' F' N'; (try dsimp only)))
local macro_rules | `(tactic| walk_at "call ref") => `(tactic| (k_here; (with_reducible show wpAny _ _ (call (Value.ref 46) _) _ _ _); k_dflt (refine' use_claim (parse_ok _ _ _ _ _ _ _ ?hr ?hp) ?B ?F ?X ?N ?T ?hk ?hd ?hu ?_; (case hp => first | exact hp1 | exact hp2); (case hr => size_fits)); walk_at "MINE use"))
local macro_rules | `(tactic| walk_at "call ref") => `(tactic| (k_here; (with_reducible show wpAny _ _ (call (Value.ref 79) _) _ _ _); k_dflt (refine' use_claim (turned_ok _ _ _ _ _ _ _ ?hr) ?B ?F ?X ?N ?T ?hk ?hd ?hu ?_; (case hr => exact Nat.le_of_ble_eq_true rfl)); walk_at "MINE use"))
inductive CJ (place : Int) (folds front sign : Str) (ts : Tok) (news : List (Addr × Obj)) (i : Nat) (m₁ : Str → Option Value) (n₁ : List (Addr × Obj)) : Prop
  | mk (h0 : n₁ = news) (u : List Nat) (tu : Tok) (h1 : m₁ "told" = some (.str (S u) tu)) (h2 : m₁ "sign" = some (.str sign ts)) (h3 : u.length ≤ 300) (h4 : loopF sign.cps.toList (folds.cps.toList.drop i) u = creaseF place.toNat folds.cps.toList front.cps.toList sign.cps.toList) : CJ place folds front sign ts news i m₁ n₁
theorem crease_ok (w : World) (mean : ExcName → Option Value) (mg mb : Str → Option Value) (news : List (Addr × Obj)) (place : Int) (folds front sign : Str) (tp tf tr ts : Tok) (h1 : folds.length ≤ 100) (h2 : front.length ≤ 100) (h3 : sign.length ≤ 100) (h4 : 0 ≤ place) (h5 : place ≤ 100) :
   Claim w mean mg mb 86 3 news [Value.int place tp, Value.str folds tf, Value.str front tr, Value.str sign ts] (fun t => Value.str (S (creaseF place.toNat folds.cps.toList front.cps.toList sign.cps.toList)) t) := by
  dsimp only [Claim, CbRet]
  k_fill
  intro dp un gd cn cs a ccd cl outer A₀ base h₀ L m s Q E B0 F00 X0 N0 T0 hk0 hd0 hu0 hret
  refine wpAny_call ?_
  k_dflt cell_enter
  k_steps
  unfold LoopSrc
  rename Fr _ _ _ _ => F0
  refine ⟨HT s, _, _, _, CJ place folds front sign ts news, _, _, Source.str _ _, rfl, F0, by assumption, trivial, HT.still, HT.mk, ?_, ?_, ?_⟩
  · refine ⟨rfl, _, _, congrArg (fun z => some (Value.str z _)) told_eq, rfl, ?_, ?_⟩
    · simp only [List.length_append, List.length_replicate]
      rw [len_eq] at h2 h3; omega
    · rw [List.drop_zero]; rfl
  · rintro i v m₁ n₁ s₁ I oI hi ⟨c, tc, hc, rfl⟩ ⟨rfl, u, tu, q1, q2, hu, hl⟩ ⟨h, tk, rfl⟩ F N off _
    replace F := fr_eq (put_in (put_eq q1 (put_eq q2 rfl))) F
    have hul : (S u).length ≤ 300 := by rw [S_len]; exact hu
    have hb1 : (S (readF (S u).cps.toList)).length ≤ 300 := by rw [S_len, S_cps]; have := readF_le u; omega
    have hb2 : (S (readF ((S (readF (S u).cps.toList)).cps.toList ++ sign.cps.toList))).length ≤ 500 := by
      rw [S_len, S_cps]
      have h1 := readF_le (readF (S u).cps.toList ++ sign.cps.toList)
      rw [List.length_append] at h1
      rw [S_len] at hb1
      rw [len_eq] at h3
      omega
    have hb3 : (Str.ofString "257 \"").length = 5 := by rw [t257q, S_len]; rfl
    clear F0
    k_steps
    · dsimp only [TurnEnd]
      k_steps
      rw [lp1 hc hl (by assumption) (by assumption)]
      exact hret _ _ _ (by assumption) (cb_drop (by assumption) (fun p hp => List.mem_cons_of_mem _ hp))
    · dsimp only [TurnEnd]
      k_steps
      rw [lp2 hc hl (by assumption) (by assumption)]
      exact hret _ _ _ (by assumption) (cb_drop (by assumption) (fun p hp => List.mem_cons_of_mem _ hp))
    · dsimp only [TurnEnd]
      exact ⟨_, _, HT.mk, by assumption, by assumption, off, trivial, rfl, _, _, rfl, rfl, by rw [S_len] at hb1; exact hb1, lp3 hc hl (by assumption)⟩
  · intro m₁ n₁ s₁ ⟨h, tk, e⟩ F N ⟨e2, u, tu, q1, q2, hu, hl⟩
    subst e e2
    clear F0
    k_steps
    rw [lp4 hl]
    exact hret _ _ _ (by assumption) (by assumption)
end Mine
end Part8x
section Part9x
open PySem PySem.W PyProof.Rows PyProof.Rows.LCg PySem.Spec PySem.Calls
set_option Elab.async false
set_option maxRecDepth 100000
namespace Mine
section
variable {prog : Program} {w : World} {A₀ A : Around} {s : Shared} {base h₀ : Heap} {outer : List Env} {L : Addr} {m : Str → Option Value} {env : Env} {K : Frag} {p : Program} {loose : List Str} {mean : ExcName → Option Value} {mg mb : Str → Option Value}
  {R : Result → Shared → Prop} {name qual : Str} {params : Arguments} {body : List Stmt} {scope : Scope} {dV kV doc pm cdv ct oc : Value} {an od : Option Addr} {osl : Array (Option Value)} {f : Addr} {args : Args} {binds : List (Str × Value)}
theorem enter_own (B : Below A₀ base outer h₀) (F : Fr h₀ L s.heap m) (X₀ : K.In h₀) (T : Top p loose mean mg mb h₀) (hA : A.frames = some (env :: outer)) (hf : env.frame = some L) (hke : env.scope.kind = .function)
    (ho : K.lookup f = some ⟨oc, od, .func (fnOf name qual params body scope dV kV doc pm an cdv ct), osl⟩) (hcd : codeIn K cdv qual = true) (hroom : A.depth < recursionLimit)
    (hbind : BindsTo s (fnOf name qual params body scope dV kV doc pm an cdv ct) args binds) (hloc : ∀ y ∈ binds, scope.names.lookup y.1 = some .local)
    (h : ∀ L' h₁, Fr s.heap L' h₁ (fun y => binds.reverse.lookup y) → News s.heap L' h₁ [] → Below A base (env :: outer) s.heap → K.In s.heap → Top p loose mean mg mb s.heap →
      wpAny (model prog w) (A.deeper (envOf qual scope L' f cdv)) (execs body (envOf qual scope L' f cdv))
        (fun fl s' => R (.ok (.ret (match fl with | .ret v => v | _ => .none))) s')
        (fun e s' => wpAny (model prog w) (A.deeper (envOf qual scope L' f cdv)) (leaving (envOf qual scope L' f cdv) e) (fun _ s'' => R (.error e) s'') (fun e' s'' => R (.error e') s'') s')
        { s with heap := h₁, toks := s.toks + binds.length })
    (hco : scope.isCoroutine = false) (hgen : scope.isGenerator = false) (hk : scope.kind = .function)
    (hcell : ∀ x ∈ scope.names, x.2 ≠ .cell) : codeAny (model prog w) A (.call (.ref f) args) R s := by
  have X := X₀.keeps F.keep
  have BG : Below A base (env :: outer) s.heap := by
    have P := pushX B F hf hke
    exact ⟨hA, P.stays, P.frames⟩
  refine codeAny_call_def (fd := fnOf name qual params body scope dV kV doc pm an cdv ct) (body := body) (binds := binds) hroom (X _ _ ho) rfl (T.nolimit.keeps F.keep) (codeRec_of X hcd) rfl hbind hcell hloc (fun h₁ hns hk₁ => ?_) hco hgen hk
  exact h s.heap.objs.size h₁ ⟨hns, hk₁, Nat.le_refl _⟩ News.nil BG X (T.keeps F.keep)
end
noncomputable abbrev Keeps (h h' : Heap) : Prop := ∀ b o, h.get? b = some o → h'.get? b = some o
noncomputable abbrev ClaimK (w : World) (mean : ExcName → Option Value) (mg mb : Str → Option Value) (f : Addr) (need : Nat) (vs : List Value) (R : Tok → Value) : Prop :=
  ∀ (dp un : Nat) (gd : Option (List Code)) (cn : Str) (cs : Scope) (a : Addr) (ccd : Value) (cl : List (Str × Addr)) (outer : List Env) (A₀ : Around) (base h₀ : Heap) (L : Addr) (m : Str → Option Value) (s : Shared) (Q E : Value → Shared → Prop),
    Below A₀ base outer h₀ → Fr h₀ L s.heap m → (hd.heap_39 w.params).In h₀ → Top hd.view_39 (looseW hd.view_39 []) mean mg mb h₀ → cs.kind = .function →
    dp + need < recursionLimit → un + 8 * need < cLine → (∀ t h' tk', Keeps s.heap h' → Q (R t) { s with heap := h', toks := tk' }) →
      wpAny (model Challenge.rw_wb0029_01.row.prog w) (ktrTop dp un gd cn cs L a ccd cl outer) (call (.ref f) vs) Q E s
theorem ClaimK.to {w : World} {mean : ExcName → Option Value} {mg mb : Str → Option Value} {f : Addr} {need : Nat} {vs : List Value} {R : Tok → Value} (C : ClaimK w mean mg mb f need vs R) (news : List (Addr × Obj)) : Claim w mean mg mb f need news vs R :=
  fun dp un gd cn cs a ccd cl outer A₀ base h₀ L m s Q E B F X N T hk hd hu hQ => C dp un gd cn cs a ccd cl outer A₀ base h₀ L m s Q E B F X T hk hd hu fun t h' tk' k => hQ t h' tk' (F.keeps k) (N.grown k)
/-- a goal that the walk leaves alone -/
noncomputable def Halt (P : Prop) : Prop := P
theorem halt {P : Prop} (h : Halt P) : P := h
theorem Halt.out {P : Prop} (h : P) : Halt P := h
end Mine
end Part9x
local macro_rules | `(tactic| walk_at "MINE enter") => `(tactic| (refine' Mine.enter_own ?k1 ?k2 ?k3 ?k5 ?kA ?kF ?kK ?k6 ?k7 ?k8 ?k9 ?kB ?_ ?c2 ?c3 ?c4 ?c5; (case kA => exact rfl); (case kF => exact rfl); (case kK => assumption); (case k1 => k_asm); (case k2 => k_asm); (case k3 => k_asm); (case k5 => k_asm); (case k6 => k_is); (case k7 => k_is); (case k8 => ktr_room); (case k9 => exact PySem.BindsTo.of_eq rfl); (case c5 => decide); (case kB => exact PyProof.Rows.locs rfl); (case c2 => exact rfl); (case c3 => exact rfl); (case c4 => exact rfl)))
section Part10x
open PySem PySem.W PyProof.Rows PyProof.Rows.LCg PySem.Spec PySem.Calls
open Builtin Builtin.Str
set_option Elab.async false
set_option maxRecDepth 100000
namespace Mine
theorem d3 : (Str.ofString "...").length = 3 := by decide +kernel
theorem k1 : Builtin.Str.strKind (Str.ofString "...") = 1 := by decide +kernel
theorem k_ge (x : Str) : 1 ≤ Builtin.Str.strKind x := by unfold Builtin.Str.strKind; split <;> (try split) <;> omega
theorem split_le {x : Str} : (Txt.split x (Str.ofString "...")).length ≤ x.length + 2 := by
  unfold Txt.split
  split
  · simp
  · split
    · simp
    · rw [length_partsBetween]
      have := StrLaws.occ_length_le x (Str.ofString "...") 0 x.length (x.length + 1)
      omega
theorem split_ge {x : Str} (hc : (occurrences x (Str.ofString "...") 0 x.length 1).isEmpty = false) : 2 ≤ (Txt.split x (Str.ofString "...")).length := by
  have h1 : ∃ i, i + (Str.ofString "...").length ≤ x.length ∧ subAt x (Str.ofString "...") i = true := (StrLaws.found_iff x _).mp (by rw [hc]; rfl)
  have h2 : (occurrences x (Str.ofString "...") 0 x.length (x.length + 1)).isEmpty = false := by
    rcases StrLaws.occ_head x (Str.ofString "...") (x.length + 1) (by omega) with ⟨_, hn⟩ | ⟨i, r, e, _⟩
    · obtain ⟨i, hi⟩ := h1
      exact absurd hi (hn i)
    · rw [e]; rfl
  obtain ⟨i, hi, _⟩ := h1
  unfold Txt.split
  rw [if_neg (by
    simp only [Bool.or_eq_true, decide_eq_true_eq, not_or]
    have := k_ge x
    rw [k1]
    omega), if_neg (by rw [h2]; decide), length_partsBetween]
  have : (occurrences x (Str.ofString "...") 0 x.length (x.length + 1)) ≠ [] := by intro e; rw [e] at h2; cases h2
  have := List.length_pos_iff.mpr this
  omega
end Mine
end Part10x
section Part11x
open PySem PySem.W PyProof.Rows PyProof.Rows.LCg PySem.Spec PySem.Calls
open Builtin Builtin.Str
set_option Elab.async false
set_option maxRecDepth 100000
set_option maxHeartbeats 2000000
namespace Mine
local macro_rules | `(tactic| walk_at "MINE none") => `(tactic| skip)
local macro_rules | `(tactic| walk_at "MINE none") => `(tactic| skip)
local macro_rules | `(tactic| walk_at "MINE none") => `(tactic| skip)
local macro_rules | `(tactic| walk_at "MINE none") => `(tactic| skip)
local macro_rules | `(tactic| walk_at "MINE none") => `(tactic| skip)
local macro_rules | `(tactic| walk_at "MINE none") => `(tactic| skip)
local macro_rules | `(tactic| walk_at "MINE none") => `(tactic| skip)
local macro_rules | `(tactic| walk_at "MINE none") => `(tactic| skip)
local macro_rules | `(tactic| walk_at "MINE none") => `(tactic| skip)
local macro_rules | `(tactic| walk_at "MINE none") => `(tactic| skip)
local macro_rules | `(tactic| walk_at "MINE none") => `(tactic| skip)
noncomputable def find4 (x y : Str) (i j : Int) : Int := match occurrences x y (fromIndex x.length i) (min (fromIndex x.length j) x.length) 1 with | k :: _ => (k : Int) | [] => -1
theorem gives_find4 (x y : Str) (i j : Int) (t u v v' : Tok) : Gives (Builtin.«str.find» ⟨[.str x t, .str y u, .int i v, .int j v'], []⟩) (.int (find4 x y i j)) := by
  show Gives (match occurrences x y (fromIndex x.length i) (min (fromIndex x.length j) x.length) 1 with | k :: _ => retInt k | [] => (do rule "str.find.not-found"; retInt (-1))) _
  unfold find4
  cases occurrences x y (fromIndex x.length i) (min (fromIndex x.length j) x.length) 1 with
  | nil => exact .rule (.of_eq rfl)
  | cons k _ => exact .of_eq rfl
section
variable {prog : Program} {w : World} {A : Around} {E : Value → Shared → Prop} {s : Shared} {x y : Str} {t u v v' : Tok} {i j : Int} {Q : Value → Shared → Prop}
theorem call_find4 (hq : Q (.int (find4 x y i j) s.toks) { s with toks := s.toks + 1 }) : wpAny (model prog w) A (call (.builtin "str.find") [.str x t, .str y u, .int i v, .int j v']) Q E s :=
  call_gives F.slot_str_find (typeIs_str _ _ _) F.entry_str_find (F.args_str_find_4 _ _ _ _) (gives_find4 x y i j t u v v') hq
end
noncomputable def dots : Str := Str.ofString "..."
theorem split_two {l : List (Str × Tok)} (h2 : 2 ≤ (l.length : Int)) : ∃ a ta l2 b tb, l = (a, ta) :: (l2 ++ [(b, tb)]) := by
  cases l with
  | nil => simp at h2
  | cons p r =>
    rcases List.eq_nil_or_concat r with rfl | ⟨l2, q, rfl⟩
    · simp at h2
    · exact ⟨p.1, p.2, l2, q.1, q.2, by simp⟩
noncomputable def ellLoop (got : Str) (e : Int) : List Str → Int → Bool
  | [], _ => true
  | w :: r, s => if find4 got w s e < 0 then false else ellLoop got e r (find4 got w s e + w.length)
noncomputable def ellTail (got : Str) (e : Int) (ws : List Str) (s : Int) : Bool := if s > e then false else ellLoop got e ws s
noncomputable def ellWs (a b : Str) (l : List Str) : List Str := (if a.length = 0 then [a] else []) ++ l ++ (if b.length = 0 then [b] else [])
noncomputable def ell2 (got : Str) : List Str → Bool
  | [] => false
  | a :: r => if a.length ≠ 0 ∧ Txt.startswith got a = false then false
    else if (r.getLast?.getD a).length ≠ 0 ∧ Txt.endswith got (r.getLast?.getD a) = false then false
    else ellTail got (got.length - (r.getLast?.getD a).length) (ellWs a (r.getLast?.getD a) r.dropLast) a.length
noncomputable def ellF (want got : Str) : Bool := if (occurrences want dots 0 want.length 1).isEmpty then want == got else ell2 got (Txt.split want dots)
noncomputable abbrev lo (l : List (Str × Tok)) (n : Nat) : Obj := { cls := .type "list", data := .seq (strValues l).toArray n }
section
variable {prog : Program} {w : World} {A : Around} {E : Value → Shared → Prop} {s : Shared} {h₀ : Heap} {L D : Addr} {m : Str → Option Value} {news news' : List (Addr × Obj)} {u : Tok} {p : Str × Tok} {l : List (Str × Tok)} {n : Nat}
theorem del_core {l l' : List (Str × Tok)} {i : Int} {k : Nat} {Q : Unit → Shared → Prop} (F : Fr h₀ L s.heap m) (N : News h₀ L s.heap news) (U : Upd D (lo l n) (lo l' (n + 1)) news news') (hi : Builtin.List.listFitsIndex i = true) (hk : seqIndex? i l.length = some k)
    (he : (strValues l).toArray.eraseIdxIfInBounds k = (strValues l').toArray) (hl : l'.length + 1 = l.length) (hsz : l.length ≤ 10000) (h : ∀ h', Fr h₀ L h' m → News h₀ L h' news' → Q () { s with heap := h' }) : wpAny (model prog w) A (delItem (.ref D) (.int i u)) Q E s := by
  obtain ⟨pre, post, rfl, rfl, a, b⟩ := U.split
  have z := N (D, lo l n) (List.mem_append.mpr (.inr (.head _)))
  have hs : (strValues l).toArray.size = l.length := by simp [strValues]
  have hs' : (strValues l').toArray.size = l'.length := by simp [strValues]
  have ef : Obj.mapSeq (fun xs => xs.eraseIdxIfInBounds k) (lo l n) = lo l' (n + 1) := by
    show ({ cls := .type "list", data := .seq ((strValues l).toArray.eraseIdxIfInBounds k) (if ((strValues l).toArray.eraseIdxIfInBounds k).size == (strValues l).toArray.size then n else n + 1) } : Obj) = _
    rw [he, hs, hs', if_neg (by simp; omega)]
  have U2 := news_upd F N a b ef rfl
  refine P.delItem_list (n := n) z.1 hi (by rw [hs]; exact hk) (h _ U2.1 U2.2) (by rw [hs, sizeLine_eq]; omega)
theorem del_first {Q : Unit → Shared → Prop} (F : Fr h₀ L s.heap m) (N : News h₀ L s.heap news) (U : Upd D (lo (p :: l) n) (lo l (n + 1)) news news') (hsz : l.length ≤ 5000) (h : ∀ h', Fr h₀ L h' m → News h₀ L h' news' → Q () { s with heap := h' }) :
    wpAny (model prog w) A (delItem (.ref D) (.int 0 u)) Q E s :=
  del_core F N U rfl (seqIndex_at (Int.le_refl 0) (by simp)) (by apply Array.toList_inj.mp; simp [strValues]) rfl (by simp; omega) h
theorem del_last {Q : Unit → Shared → Prop} (F : Fr h₀ L s.heap m) (N : News h₀ L s.heap news) (U : Upd D (lo (l ++ [p]) n) (lo l (n + 1)) news news') (hsz : l.length ≤ 5000) (h : ∀ h', Fr h₀ L h' m → News h₀ L h' news' → Q () { s with heap := h' }) :
    wpAny (model prog w) A (delItem (.ref D) (.int (-1) u)) Q E s :=
  del_core F N U rfl (k := l.length) (by rw [seqIndex_neg (by decide) (by simp; omega)]; simp; omega) (by
    apply Array.toList_inj.mp
    simp only [strValues, List.map_append, List.map_cons, List.map_nil, Array.toList_eraseIdxIfInBounds]
    rw [List.eraseIdx_append_of_length_le (by simp)]
    simp) (by simp) (by simp; omega) h
theorem item_last {value slice : Expr} {Q : Value → Shared → Prop} (N : News h₀ L s.heap news) (hm : (D, lo (l ++ [p]) n) ∈ news) (h : Q (.str p.1 p.2) s)
    (hs : subscripted slice false (.ref D) (.int (-1) u) = operate [.ref D, .int (-1) u] (getItem (.ref D) (.int (-1) u)) := by with_unfolding_all rfl) :
    wpAny (model prog w) A (subscriptTail value slice (.ref D) (.int (-1) u)) Q E s := by
  have hL : s.heap.IsList D (strValues (l ++ [p])).toArray := News.isList N hm
  refine tail_any hL.typeIs slot_list_getitem.lookup ?_ hs
  refine wpAny_getItem_list_neg hL (by decide) (by simp [strValues]; omega) (by decide) ?_ h
  simp only [strValues, List.map_append, List.map_cons, List.map_nil]
  have : (-1 + (((List.map (fun p : Str × Tok => Value.str p.1 p.2) l ++ [Value.str p.1 p.2]).toArray.size : Nat) : Int)).toNat = (List.map (fun p : Str × Tok => Value.str p.1 p.2) l).length := by simp; omega
  rw [this]
  simp
end
local macro_rules | `(tactic| walk_at "call builtin:str.find") => `(tactic| (k_here; (with_reducible show wpAny _ _ (call (Value.builtin "str.find") [Value.str _ _, Value.str _ _, Value.int _ _, Value.int _ _]) _ _ _); refine call_find4 ?_))
local macro_rules | `(tactic| walk_at "exec For") => `(tactic| walk_at "MINE src")
inductive EJ (got : Str) (tg te : Tok) (sp ep : Int) (D : Addr) (l : List (Str × Tok)) (n i : Nat) (m₁ : Str → Option Value) (n₁ : List (Addr × Obj)) : Prop
  | mk (h0 : n₁ = [(D, lo l n)]) (p : Int) (tp : Tok) (h1 : m₁ "startpos" = some (.int p tp)) (h2 : m₁ "got" = some (.str got tg)) (h3 : m₁ "endpos" = some (.int ep te)) (h4 : ellLoop got ep ((l.map (·.1)).drop i) p = ellLoop got ep (l.map (·.1)) sp) : EJ got tg te sp ep D l n i m₁ n₁
theorem ell_tail (w : World) {A : Around} {g : Heap} {L a : Addr} {cd : Value} {qn : Str} {mean mg mb} {m : Str → Option Value} {news : List (Addr × Obj)} {s : Shared} {Q E} {got : Str} {sp ep : Int} {tg ts te : Tok} {D : Addr} {l : List (Str × Tok)} {n : Nat} (hA : A.handled = none)
   (X : (hd.heap_39 w.params).In g) (T : Top hd.view_39 (looseW hd.view_39 []) mean mg mb g) (F : Fr g L s.heap m) (N : News g L s.heap news) (hm : (D, lo l n) ∈ news) (hl : ∀ p ∈ l, p.1.length ≤ 1000)
   (e1 : m "got" = some (.str got tg)) (e2 : m "startpos" = some (.int sp ts)) (e3 : m "endpos" = some (.int ep te)) (e4 : m "ws" = some (.ref D))
   (hQ : ∀ h' tk' m', Fr g L h' m' → Q (.ret (.bool (ellTail got ep (l.map (·.1)) sp))) { s with heap := h', toks := tk' }) :
   wpAny (model Challenge.rw_wb0029_01.row.prog w) A (execs ((bodyOf (topStmt 6)).drop 8) (envOf qn (scopeOf (topStmt 6)) L a cd)) Q E s := by
  revert X
  k_fill
  intro X
  replace F := fr_eq (put_eq e1 (put_eq e2 (put_eq e3 (put_eq e4 rfl)))) F
  refine wpAny_noRaise ?_
  k_dflt (show wpAny _ A (execs (_ :: _) _) _ _ _)
  k_steps
  · dsimp only
    have e : ellTail got ep (l.map (·.1)) sp = false := by unfold ellTail; rw [if_pos (by omega)]
    rw [e] at hQ
    exact hQ _ _ _ (by assumption)
  · have hle : ¬ sp > ep := by omega
    have e : ellTail got ep (l.map (·.1)) sp = ellLoop got ep (l.map (·.1)) sp := by unfold ellTail; rw [if_neg hle]
    rw [e] at hQ
    unfold LoopSrc
    rename Fr _ _ _ _ => F0
    refine ⟨HT s, _, _, _, EJ got tg te sp ep D l n, _, [(D, lo l n)], Source.list D (strValues l).toArray, hA, F0, fun p hp => ?_, Or.inr ⟨_, List.mem_singleton.mpr rfl, rfl, n, rfl⟩, HT.still, HT.mk, ?_, ?_, ?_⟩
    · rw [List.mem_singleton.mp hp]; exact N _ hm
    · exact ⟨rfl, sp, ts, rfl, rfl, rfl, rfl⟩
    · rintro i v m₁ n₁ s₁ I oI hi hP ⟨rfl, p, tp, q1, q2, q3, q4⟩ ⟨h, tk, rfl⟩ F N off _
      have hi' : i < l.length := by simpa [strValues] using hi
      obtain ⟨wd, tw, rfl⟩ : ∃ wd tw, v = .str wd tw := by
        simp only [strValues] at hP
        rw [List.getElem?_toArray, List.getElem?_map] at hP
        rw [List.getElem?_eq_getElem hi'] at hP
        exact ⟨_, _, (Option.some.inj hP).symm⟩
      have hw : (l.map (·.1)).drop i = wd :: (l.map (·.1)).drop (i + 1) := by
        simp only [strValues] at hP
        rw [List.getElem?_toArray, List.getElem?_map, List.getElem?_eq_getElem hi'] at hP
        have hP' : (Value.str l[i].1 l[i].2) = Value.str wd tw := Option.some.inj hP
        injection hP' with h1 h2
        rw [List.drop_eq_getElem_cons (by simpa using hi')]
        simp [h1]
      have hwl : wd.length ≤ 1000 := by
        have : wd ∈ l.map (·.1) := List.mem_of_mem_drop (hw ▸ List.mem_cons_self)
        obtain ⟨p, hp, e⟩ := List.mem_map.mp this
        rw [← e]; exact hl p hp
      replace F := fr_eq (put_in (put_eq q1 (put_eq q2 (put_eq q3 rfl)))) F
      clear F0
      rw [hw, ellLoop] at q4
      k_steps
      · dsimp only [TurnEnd]
        rw [if_pos (by assumption)] at q4
        rw [← q4] at hQ
        exact hQ _ _ _ (by assumption)
      · dsimp only [TurnEnd]
        rw [if_neg (by assumption)] at q4
        exact ⟨_, _, HT.mk, by assumption, by assumption, off, Or.inr ⟨_, List.mem_singleton.mpr rfl, rfl, n, rfl⟩, rfl, _, _, rfl, rfl, rfl, q4⟩
    · rintro m₁ n₁ s₁ ⟨h, tk, rfl⟩ F N ⟨rfl, p, tp, q1, q2, q3, q4⟩
      have hd : (l.map (·.1)).drop (strValues l).toArray.size = [] := by rw [List.drop_eq_nil_iff]; simp [strValues]
      rw [hd, ellLoop] at q4
      rw [← q4] at hQ
      clear F0
      k_steps
      exact hQ _ _ _ (by assumption)
noncomputable def ellSec (got : Str) (ep sp : Int) (l : List Str) (b : Str) : Bool :=
  if b.length ≠ 0 ∧ Txt.endswith got b = false then false else ellTail got (ep - b.length) (l ++ (if b.length = 0 then [b] else [])) sp
local macro_rules | `(tactic| walk_at "truthy str") => `(tactic| (k_here; (with_reducible show wpAny _ _ (truthy (Value.str _ _)) _ _ _); refine halt ?_))
local macro_rules | `(tactic| walk_at "delItem ref int") => `(tactic| (k_here; refine halt ?_))
local macro_rules | `(tactic| walk_at "execs cons") => `(tactic| (k_here; (with_reducible show wpAny _ _ (execs (Stmt.If (Expr.Compare (Expr.Name (Str.ofString "startpos") _) _ _ _) _ _ _ :: Stmt.For _ _ _ _ _ :: _) _) _ _ _); refine halt ?_))
local macro_rules | `(tactic| walk_at "subscriptTail") => `(tactic| (k_here; (with_reducible show wpAny _ _ (subscriptTail _ _ (Value.ref _) (Value.int _ _)) _ _ _); k_dflt (refine item_last (by k_asm) (by k_mem) ?_); (try dsimp only)))
theorem ell_second (w : World) {A : Around} {g : Heap} {L a : Addr} {cd : Value} {qn : Str} {mean mg mb} {m : Str → Option Value} {s : Shared} {Q E} {got : Str} {sp ep : Int} {tg ts te tb : Tok} {D : Addr} {l : List (Str × Tok)} {n : Nat} {pb : Str} (hA : A.handled = none)
   (X : (hd.heap_39 w.params).In g) (T : Top hd.view_39 (looseW hd.view_39 []) mean mg mb g) (F : Fr g L s.heap m) (N : News g L s.heap [(D, lo (l ++ [(pb, tb)]) n)]) (hl : ∀ p ∈ l, p.1.length ≤ 1000) (hb : pb.length ≤ 1000) (hll : l.length ≤ 5000)
   (e1 : m "got" = some (.str got tg)) (e2 : m "startpos" = some (.int sp ts)) (e3 : m "endpos" = some (.int ep te)) (e4 : m "ws" = some (.ref D))
   (hQ : ∀ h' tk' m', Fr g L h' m' → Q (.ret (.bool (ellSec got ep sp (l.map (·.1)) pb))) { s with heap := h', toks := tk' }) :
   wpAny (model Challenge.rw_wb0029_01.row.prog w) A (execs ((bodyOf (topStmt 6)).drop 6) (envOf qn (scopeOf (topStmt 6)) L a cd)) Q E s := by
  revert X
  k_fill
  intro X
  replace F := fr_eq (put_eq e1 (put_eq e2 (put_eq e3 (put_eq e4 rfl)))) F
  refine wpAny_noRaise ?_
  k_dflt (show wpAny _ A (execs (_ :: _) _) _ _ _)
  k_steps
  refine Halt.out (P.truthy_str (by omega) ?_)
  k_steps
  · rename ¬ (_ : Int) = 0 => hne
    refine Halt.out (del_last (by assumption) (by assumption) (by k_upd) hll ?_)
    intro h' F' N'
    k_steps
    refine Halt.out (ell_tail w hA X T (by assumption) (by assumption) (List.mem_singleton.mpr rfl) hl rfl rfl rfl rfl ?_)
    intro h' tk' m' F'
    have hz : pb.length ≠ 0 := by omega
    have e : ellSec got ep sp (l.map (·.1)) pb = ellTail got (ep - pb.length) (l.map (·.1)) sp := by
      unfold ellSec
      rw [if_neg (by rintro ⟨_, h⟩; simp_all), if_neg hz, List.append_nil]
    rw [e] at hQ
    exact hQ _ _ _ F'
  · rename ¬ (_ : Int) = 0 => hne
    have e : ellSec got ep sp (l.map (·.1)) pb = false := by
      unfold ellSec
      rw [if_pos ⟨by omega, by assumption⟩]
    rw [e] at hQ
    dsimp only
    exact hQ _ _ _ (by assumption)
  · rename (_ : Int) = 0 => hz
    refine Halt.out (ell_tail w hA X T (by assumption) (by assumption) (List.mem_singleton.mpr rfl) (fun p hp => ?_) rfl rfl rfl rfl ?_)
    · rcases List.mem_append.mp hp with h | h
      · exact hl p h
      · rw [List.mem_singleton.mp h]; exact hb
    intro h' tk' m' F'
    have hz' : pb.length = 0 := by omega
    have e : ellSec got ep sp (l.map (·.1)) pb = ellTail got ep ((l ++ [(pb, tb)]).map (·.1)) sp := by
      unfold ellSec
      rw [if_neg (by rintro ⟨h, _⟩; exact h hz'), if_pos hz', List.map_append]
      have : ep - (pb.length : Int) = ep := by omega
      rw [this]; rfl
    rw [e] at hQ
    exact hQ _ _ _ F'
theorem ellF_no {want got : Str} (h : (occurrences want (Str.ofString "...") 0 want.length 1).isEmpty = true) : ellF want got = (want == got) := by
  unfold ellF dots; rw [if_pos h]
theorem ellF_two {want got pa pb : Str} {ta tb : Tok} {l2 : List (Str × Tok)} (h : (occurrences want (Str.ofString "...") 0 want.length 1).isEmpty = false) (hl : List.map (fun x => x.1) ((pa, ta) :: (l2 ++ [(pb, tb)])) = Txt.split want (Str.ofString "...")) :
    ellF want got = if pa.length ≠ 0 ∧ Txt.startswith got pa = false then false else ellSec got got.length pa.length ((if pa.length = 0 then [pa] else []) ++ l2.map (·.1)) pb := by
  unfold ellF
  rw [if_neg (by rw [show dots = Str.ofString "..." from rfl, h]; decide), show dots = Str.ofString "..." from rfl, ← hl]
  simp only [List.map_cons, List.map_append, List.map_nil, ell2, ellSec, ellWs, List.getLast?_concat, Option.getD_some, List.dropLast_concat]
local macro_rules | `(tactic| walk_at "execs cons") => `(tactic| (k_here; (with_reducible show wpAny _ _ (execs (Stmt.Assign [Expr.Name (Str.ofString "w") _] (Expr.Subscript _ (Expr.UnaryOp _ _ _) _) _ :: _) _) _ _ _); refine halt ?_))
theorem ell_ok (w : World) (mean : ExcName → Option Value) (mg mb : Str → Option Value) (want got : Str) (tw tg : Tok) (h1 : want.length ≤ 1000) (h2 : got.length ≤ 1000) :
   ClaimK w mean mg mb 53 1 [Value.str want tw, Value.str got tg] (fun t => Value.bool (ellF want got)) := by
  dsimp only [ClaimK]
  k_fill
  intro dp un gd cn cs a ccd cl outer A₀ base h₀ L m s Q E B0 F00 X0 T0 hk0 hd0 hu0 hret
  refine wpAny_call ?_
  k_dflt (walk_at "MINE enter")
  intro L' h₁ F1 N1 B1 X1 T1
  have hF1 : Keeps s.heap h₁ := F1.keep
  clear F00 B0 X0 T0
  (try dsimp only)
  (try k_fold)
  k_steps
  · dsimp only
    rw [ellF_no (by assumption)] at hret
    rename Fr _ _ _ _ => F2
    exact hret 0 _ _ F2.keep
  · rename List (Str × Tok) => l
    rename (_ : Option Str) = some _ => e0
    rename (2 : Int) ≤ _ => e2
    rename ∀ z : Str, _ → z.length ≤ want.length => eb
    obtain ⟨pa, ta, l2, pb, tb, rfl⟩ := split_two e2
    obtain rfl : pa = _ := Option.some.inj e0
    have ha : pa.length ≤ 1000 := Nat.le_trans (eb pa (by simp)) h1
    have hb : pb.length ≤ 1000 := Nat.le_trans (eb pb (by simp)) h1
    have hl2 : ∀ p ∈ l2, p.1.length ≤ 1000 := fun p hp => Nat.le_trans (eb p.1 (by simp; exact Or.inr (Or.inl ⟨p.2, hp⟩))) h1
    have hcnt : l2.length ≤ 4000 := by
      have h3 := split_le (x := want)
      rename List.map _ _ = Txt.split _ _ => e3
      rw [← e3] at h3
      simp at h3
      omega
    refine Halt.out (P.truthy_str (by omega) ?_)
    k_steps
    · rename ¬ (_ : Int) = 0 => hne
      have hz : pa.length ≠ 0 := by omega
      refine Halt.out (del_first (by assumption) (by assumption) (by k_upd) (by simp; omega) ?_)
      intro h' F' N'
      k_steps
      refine Halt.out (ell_second (tb := tb) (n := 0 + 1) w rfl X1 T1 (by assumption) (cb_drop (by assumption) ?_) hl2 hb (by omega) rfl rfl rfl rfl ?_)
      · intro p hp; rw [List.mem_singleton.mp hp]; k_mem
      intro h' tk' m' F'
      rw [ellF_two (by assumption) (by assumption), if_neg (by rintro ⟨_, h⟩; simp_all), if_neg hz] at hret
      dsimp only
      exact hret 0 _ _ F'.keep
    · rename ¬ (_ : Int) = 0 => hne
      have hz : pa.length ≠ 0 := by omega
      rw [ellF_two (by assumption) (by assumption), if_pos ⟨hz, by assumption⟩] at hret
      rename Fr _ _ _ _ => F2
      dsimp only
      exact hret 0 _ _ F2.keep
    · rename (_ : Int) = 0 => hz0
      have hz : pa.length = 0 := by omega
      refine Halt.out (ell_second (l := (pa, ta) :: l2) (tb := tb) (n := 0) w rfl X1 T1 (by assumption) (cb_drop (by assumption) ?_) ?_ hb (by simp; omega) rfl rfl rfl rfl ?_)
      · intro p hp; rw [List.mem_singleton.mp hp]; k_mem
      · intro p hp
        rcases List.mem_cons.mp hp with rfl | hp
        · exact ha
        · exact hl2 p hp
      intro h' tk' m' F'
      rw [ellF_two (by assumption) (by assumption), if_neg (by rintro ⟨h, _⟩; exact h hz), if_pos hz, hz] at hret
      dsimp only
      exact hret 0 _ _ F'.keep
  · rename ¬ (2 : Int) ≤ _ => e2
    exfalso
    have h3 := split_ge (by assumption)
    rename List.map _ _ = Txt.split _ _ => e3
    rw [← e3, List.length_map] at h3
    omega
end Mine
end Part11x
section Part12x
open PySem PySem.W PySem.W.X PyProof.Rows PyProof.Rows.LCg PySem.Spec PySem.Calls
set_option Elab.async false
set_option maxRecDepth 100000
namespace Mine
noncomputable abbrev NoE : Value → Shared → Prop := fun _ _ => False
section
variable {prog : Program} {w : World} {A : Around} {c : Code} {fs : List Frame} {P : End → Shared → Prop} {s : Shared}
theorem sx_wrap {α : Type} {m : Sem α} {K : α → Sem Fin} {H : Value → Sem Fin} {gd : Bool → Bool} {lv : List Value → List Value}
    (h : wpAny (model prog w) (A.over c fs) m (fun a s' => SegX (model prog w) A c (K a) fs s' P) NoE s) : SegX (model prog w) A c (m.wrap K H gd lv) fs s P := by
  rintro Γ p rfl hΓ
  obtain ⟨e, s', hr, hq⟩ := runs_wrap_of_wp (Φ := fun e s' => e.quiet = true ∧ P e s') K H gd lv m (h (Γ.over fs) p (hΓ.over fs)) (fun a p' s' h' => h' Γ p' rfl hΓ) (fun x p' s' h' => h'.elim)
  exact ⟨e, s', hr, hq⟩
theorem sx_execs_nil {env : Env} {K : Flow → Sem Fin} {H : Value → Sem Fin} {gd : Bool → Bool} {lv : List Value → List Value} (h : SegX (model prog w) A c (K .next) fs s P) :
    SegX (model prog w) A c ((execs [] env).wrap K H gd lv) fs s P := h
theorem sx_execs_cons {env : Env} {K : Flow → Sem Fin} {H : Value → Sem Fin} {gd : Bool → Bool} {lv : List Value → List Value} {st : Stmt} {rest : List Stmt}
    (h : SegX (model prog w) A c ((exec st env).wrap (fun f => match f with | .next => (execs rest env).wrap K H gd lv | f => K f) H gd lv) fs s P) :
    SegX (model prog w) A c ((execs (st :: rest) env).wrap K H gd lv) fs s P := by rw [execs_cons_wrap]; exact h
theorem sx_plain {env : Env} {K : Flow → Sem Fin} {H : Value → Sem Fin} {gd : Bool → Bool} {lv : List Value → List Value} {st : Stmt}
    (h : wpAny (model prog w) (A.over c fs) (exec st env) (fun f s' => SegX (model prog w) A c (K f) fs s' P) NoE s) :
    SegX (model prog w) A c ((exec st env).wrap K H gd lv) fs s P := sx_wrap h
theorem sx_If {env : Env} {K : Flow → Sem Fin} {H : Value → Sem Fin} {gd : Bool → Bool} {lv : List Value → List Value} {test : Expr} {body orelse : List Stmt} {pos : Pos}
    (h : wpAny (model prog w) (A.over c fs) (isTrue test env (eval test env)) (fun b s' => if b = true then SegX (model prog w) A c ((execs body env).wrap K H gd lv) fs s' P else SegX (model prog w) A c ((execs orelse env).wrap K H gd lv) fs s' P) NoE s) :
    SegX (model prog w) A c ((exec (.If test body orelse pos) env).wrap K H gd lv) fs s P := by
  rw [arm_exec_If, Sem.bind_eq_wrap', Sem.wrap_wrap]
  refine sx_wrap (wpAny_standAt ?_)
  rw [Sem.bind_eq_wrap', Sem.wrap_wrap]
  refine sx_wrap (wpAny_mono h (fun b s' hb => ?_) fun _ _ e => e)
  cases b with
  | true => simpa using hb
  | false => simpa using hb
/-- what stands when a generator has handed something out: the walk goes on behind the yield -/
noncomputable def Wakes0 (prog : Program) (w : World) (c : Code) (fs : List Frame) (k : Resume → Sem Fin) (t : Sem Fin) : Prop :=
  ∀ (A : Around) s P, SegX (model prog w) A c t fs s P → SegX (model prog w) A c (k (.send .none)) fs s P
theorem sx_Yield {env : Env} {K : Flow → Sem Fin} {H : Value → Sem Fin} {gd : Bool → Bool} {lv : List Value → List Value} {e : Expr} {ypos pos : Pos} (hfs : splitAtGen fs = none) (hgd : gd false = false) (hfg : fs.any Frame.guarded = false)
    (h : wpAny (model prog w) (A.over c fs) (eval e env) (fun v s' => ∀ l k p, Wakes0 prog w c fs k (K .next) → P (.susp v false l k c p fs) s') NoE s)
    (hco : env.scope.isCoroutine = false) (hi : interactive env = false) :
    SegX (model prog w) A c ((exec (.Expr (.Yield (some e) ypos) pos) env).wrap K H gd lv) fs s P := by
  rw [exec_Expr env _ pos hi rfl]
  have hy : ∀ v, yieldOut env v = yieldValue v := fun v => by simp only [yieldOut, hco, Bool.false_eq_true, if_false]
  show SegX _ A c ((standAt pos >>= fun _ => (eval e env >>= fun v => (standAt ypos >>= fun _ => yieldOut env v)) >>= fun x => dropValue (.Yield (some e) ypos) pos x).wrap K H gd lv) fs s P
  simp only [hy]
  rw [Sem.bind_eq_wrap', Sem.wrap_wrap]
  refine sx_wrap (wpAny_standAt ?_)
  rw [Sem.bind_eq_wrap', Sem.bind_eq_wrap', Sem.wrap_wrap, Sem.wrap_wrap]
  refine sx_wrap (wpAny_mono h (fun v s' h' => ?_) fun _ _ x => x)
  rw [Sem.bind_eq_wrap', Sem.wrap_wrap]
  refine sx_wrap (wpAny_standAt ?_)
  show SegX _ A c (.yield v (gd false) _ _) fs s' P
  rw [hgd]
  refine s_yield prog w A c fs P s' v _ _ hfs hfg fun p => h' _ _ p ?_
  intro A' s'' P' hx
  exact hx
theorem sx_func {body : List Stmt} {env : Env}
    (h : SegX (model prog w) A (.func body env) ((execs body env).wrap (fun f => .pure (.done (.ret (match f with | .ret v => v | _ => .none)))) (fun e => (leaving env e).wrap (fun _ => .raise e) .raise id id) id id) fs s P) :
    SegX (model prog w) A (.func body env) (denote table (.func body env)) fs s P := by
  show SegX _ A _ (.point [] fun _ => ((execs body env).onRaise (leaving env)) >>= _) fs s P
  refine s_skim prog w A _ fs P s _ 1 ?_
  show SegX _ A _ (((execs body env).onRaise (leaving env)) >>= _) fs s P
  rw [Sem.onRaise_eq_wrap, Sem.bind_eq_wrap', Sem.wrap_wrap]
  rw [Sem.wrap_congr (execs body env) _ _ (K' := fun f => .pure (.done (.ret (match f with | .ret v => v | _ => .none))))
    (H' := fun e => (leaving env e).wrap (fun _ => .raise e) .raise id id) (fun f => by cases f <;> rfl)
    (fun e => by rw [Sem.bind_eq_wrap, Sem.wrap_wrap]; rfl)]
  exact h
theorem sx_For {env : Env} {K : Flow → Sem Fin} {H : Value → Sem Fin} {gd : Bool → Bool} {lv : List Value → List Value} {target iter : Expr} {body orelse : List Stmt} {pos : Pos} (hgd : gd false = false)
    (h : wpAny (model prog w) (A.over c fs) (eval iter env) (fun xv s₁ => wpAny (model prog w) (A.over c fs) (pyIter xv) (fun it s₂ => ∀ kf l p, (∀ A' f s' P', SegX (model prog w) A' c (K f) fs s' P' → SegX (model prog w) A' c (kf (.ok f)) fs s' P') →
      SegX (model prog w) A (.forLoop target it body orelse env) (denote table (.forLoop target it body orelse env)) (.ret kf none false l c p [] :: fs) s₂ P) NoE s₁) NoE s)
    (hs : ∀ x, foldedSetIterable iter env x = pure x := by intro _; rfl) :
    SegX (model prog w) A c ((exec (.For target iter body orelse pos) env).wrap K H gd lv) fs s P := by
  rw [exec_For, Sem.bind_eq_wrap', Sem.wrap_wrap]
  refine sx_wrap (wpAny_standAt ?_)
  rw [Sem.bind_eq_wrap', Sem.wrap_wrap]
  refine sx_wrap (wpAny_mono h (fun xv s₁ h₁ => ?_) fun _ _ e => e)
  rw [Sem.bind_eq_wrap', Sem.wrap_wrap]
  refine sx_wrap (wpAny_of_eq (hs xv) ?_)
  rw [Sem.bind_eq_wrap', Sem.wrap_wrap]
  refine sx_wrap (wpAny_standAt ?_)
  rw [Sem.bind_eq_wrap', Sem.wrap_wrap]
  refine sx_wrap (wpAny_holding (wpAny_mono h₁ (fun it s₂ h₂ => ?_) fun _ _ e => e))
  show SegX _ A c (.call _ none (gd false) _ _) fs s₂ P
  rw [hgd]
  exact s_call prog w A c fs P s₂ _ none false _ _ fun p => h₂ _ _ p fun A' f s' P' hx => hx
noncomputable def kLoop (c : Code) : Flow → Sem Fin := fun f => match f with
  | .next | .cont => .pure (.again c)
  | .brk => .pure (.done .next)
  | .ret v => .pure (.done (.ret v))
theorem sx_forLoop {target : Expr} {it : Value} {body : List Stmt} {env : Env}
    (h : wpAny (model prog w) (A.over (.forLoop target it body [] env) fs) (pyNext it) (fun r s₁ => match r with
      | none => SegX (model prog w) A (.block [] env) (.pure (.done .next)) fs s₁ P
      | some v => wpAny (model prog w) (A.over (.forLoop target it body [] env) fs) (letOwnedTupleGo target it v) (fun _ s₂ => wpAny (model prog w) (A.over (.forLoop target it body [] env) fs) (assign target env v) (fun _ s₃ =>
          ∀ H, SegX (model prog w) A (.forLoop target it body [] env) ((execs body env).wrap (kLoop (.forLoop target it body [] env)) H id id) fs s₃ P) NoE s₂) NoE s₁) NoE s) :
    SegX (model prog w) A (.forLoop target it body [] env) (denote table (.forLoop target it body [] env)) fs s P := by
  show SegX _ A _ ((forTurn target it body [] env).onRaise (fun x => do noteFrame x env; theTreesLotGoes x)) fs s P
  unfold forTurn
  rw [Sem.onRaise_eq_wrap, Sem.bind_eq_wrap', Sem.wrap_wrap]
  refine sx_wrap (wpAny_standAt ?_)
  rw [Sem.bind_eq_wrap', Sem.wrap_wrap]
  refine sx_wrap (wpAny_onRaise (wpAny_mono h (fun r s₁ h₁ => ?_) fun _ _ e => e.elim))
  cases r with
  | none => exact s_again prog w A _ fs P s₁ _ rfl h₁
  | some v =>
    show SegX _ A _ (Sem.wrap _ _ _ _ (letOwnedTupleGo target it v >>= _)) fs s₁ P
    rw [Sem.bind_eq_wrap', Sem.wrap_wrap]
    refine sx_wrap (wpAny_mono h₁ (fun _ s₂ h₂ => ?_) fun _ _ e => e)
    rw [Sem.bind_eq_wrap', Sem.wrap_wrap]
    refine sx_wrap (wpAny_mono h₂ (fun _ s₃ h₃ => ?_) fun _ _ e => e)
    rw [Sem.bind_eq_wrap', Sem.wrap_wrap]
    rw [Sem.wrap_congr (execs body env) _ _ (K' := kLoop (.forLoop target it body [] env)) (fun f => by cases f <;> rfl) (fun e => rfl)]
    exact h₃ _
/-- how a generator goes on -/
noncomputable def Res (prog : Program) (w : World) (A : Around) (gs : GenState) (s : Shared) (P : End → Shared → Prop) : Prop := match gs with
  | .fresh c => SegX (model prog w) A c (denote table c) [] s P
  | .suspended k _ c _ fs _ => SegX (model prog w) A c (k (.send .none)) fs s P
  | _ => False
theorem res_any {α : Type} {E : Value → Shared → Prop} {g : Nat} {gs : GenState} {l : List Value} {k : GenResult → Sem α} {Q : α → Shared → Prop} (hg : s.gens[g]? = some gs)
    (x : Res prog w A gs (s.setGen g .running) (fun e s₁ => wpAny (model prog w) A (k e.result) Q E (s₁.setGen g e.genState))) :
    wpAny (model prog w) A (.resume g (.send .none) l k) Q E s := by
  cases gs with
  | fresh c₀ => exact fun Γ p hΓ => wake_any α prog w (Q := Q) (E := E) (r := .send .none) hg (.inl ⟨rfl, rfl, rfl, rfl⟩) (fun Γ => Γ.In A) (fun _ h => h) (SegX.mono x fun e s₁ h Γ p hΓ => h Γ p hΓ) Γ p hΓ
  | suspended k₀ l₀ c₀ p₀ fs₀ cl => exact fun Γ p hΓ => wake_any α prog w (Q := Q) (E := E) (r := .send .none) hg (.inr ⟨k₀, l₀, p₀, cl, rfl, rfl⟩) (fun Γ => Γ.In A) (fun _ h => h) (SegX.mono x fun e s₁ h Γ p hΓ => h Γ p hΓ) Γ p hΓ
  | running => exact x.elim
  | finished => exact x.elim
end
end Mine
end Part12x
section Part13x
open PySem PySem.W PySem.W.X PyProof.Rows PyProof.Rows.LCg PySem.Spec PySem.Calls
set_option Elab.async false
set_option maxRecDepth 100000
namespace Mine
section
variable {prog : Program} {w : World} {A : Around} {E : Value → Shared → Prop} {s : Shared}
noncomputable def NextEnd (g : Nat) (Q : Option Value → Shared → Prop) (e : End) (s₁ : Shared) : Prop := match e with
  | .ret r => r = .ok (.ret .none) ∧ ∀ h', Keeps s₁.heap h' → Q none { s₁.setGen g .finished with heap := h' }
  | .susp v gd l k c p fs => Q (some v) (s₁.setGen g (End.susp v gd l k c p fs).genState)
theorem pyNext_gen {a : Addr} {g : Nat} {gs : GenState} {Q : Option Value → Shared → Prop} (hh : A.handled = none) (hl : s.heap.NoLimit) (hroom : A.depth < recursionLimit)
    (hg : s.heap.IsGen a g) (hgs : s.gens[g]? = some gs) (x : Res prog w A.in1 gs (s.setGen g .running) (NextEnd g Q)) : wpAny (model prog w) A (pyNext (.ref a)) Q E s := by
  unfold pyNext
  refine wpAny_bind (wpAny_attempt (wpAny_callSpecial?_slot (name := Str.ofString "__next__") hg.typeIs slot_gen_next
    (wpAny_call_entry slot_gen_next hg.typeIs entry_gen_next ?_ (args_gen_next _))))
  show wpAny _ A.in1 (Builtin.Generator.genWake (.ref a) (.send .none)) _ _ s
  unfold Builtin.Generator.genWake
  refine wpAny_bind (wpAny_holding (wpAny_genNumber hg (wpAny_bind (wpAny_genState hgs ?_))))
  have key : ∀ (α : Type) (k : GenResult → Sem α) (Q' : α → Shared → Prop) (E' : Value → Shared → Prop) (l : List Value),
      (∀ e s₁, NextEnd g Q e s₁ → wpAny (model prog w) A.in1 (k e.result) Q' E' (s₁.setGen g e.genState)) → wpAny (model prog w) A.in1 (.resume g (.send .none) l k) Q' E' s := fun α k Q' E' l hk => by
    refine res_any hgs ?_
    cases gs with
    | fresh c => exact SegX.mono x hk
    | suspended k₀ l₀ c₀ p₀ fs₀ cl => exact SegX.mono x hk
    | running => exact x
    | finished => exact x
  cases gs with
  | running => exact x.elim
  | finished => exact x.elim
  | _ =>
    refine wpAny_bind (wpAny_roomToWake hl hroom ?_)
    show wpAny _ A.in1 (.resume g (.send .none) [] _) _ _ s
    refine key _ _ _ _ _ fun e s₁ he => ?_
    cases e with
    | ret r =>
      obtain ⟨rfl, hp⟩ := he
      show wpAny _ A.in1 (newExc (.type "StopIteration") [] >>= _) _ _ _
      refine wpAny_bind ?_
      simp only [newExc, newTuple]
      refine wpAny_bind (wpAny_newObj_type ?_ (by size_fits))
      refine wpAny_bind (m := firstArgMember _ _) (wpAny_of_eq (a := Value.none) (by first | rfl | (simp only [firstArgMember]; rfl)) ?_)
      refine wpAny_newObj_type ?_ (by size_fits)
      simp only [raiseNew]
      refine wpAny_bind (wpAny_bind (wpAny_handled ?_))
      rw [show A.in1.handled = none from hh]
      refine wpAny_throw ?_
      refine wpAny_bind (wpAny_isInstance (T := "StopIteration") (b := true) ⟨_, Heap.get?_push_size _ rfl, rfl⟩ isSubtype_stop ?_)
      exact wpAny_pure (hp _ fun b o hb => Heap.get?_push_of_some _ (Heap.get?_push_of_some _ hb))
    | susp v gd l k c p fs => exact wpAny_pure ⟨v, rfl, wpAny_pure he⟩
end
end Mine
end Part13x
section Part14x
open PySem PySem.W PySem.W.X PyProof.Rows PyProof.Rows.LCg PySem.Spec PySem.Calls
set_option Elab.async false
set_option maxRecDepth 100000
set_option maxHeartbeats 2000000
namespace Mine
noncomputable abbrev gEnv (qn : Str) (L a : Addr) (cd : Value) : Env := envOf qn (scopeOf (topStmt 8)) L a cd
noncomputable def gFor : Stmt := (bodyOf (topStmt 8)).getD 2 default
noncomputable def forBody : Stmt → List Stmt
  | .For _ _ b _ _ => b
  | _ => []
noncomputable def forIter : Stmt → Expr
  | .For _ i _ _ _ => i
  | _ => default
noncomputable def ifTest : Stmt → Expr
  | .If t _ _ _ => t
  | _ => default
noncomputable def ifThen : Stmt → List Stmt
  | .If _ b _ _ => b
  | _ => []
noncomputable def ifElse : Stmt → List Stmt
  | .If _ _ b _ => b
  | _ => []
noncomputable def yieldOf : Stmt → Expr
  | .Expr (.Yield (some e) _) _ => e
  | _ => default
noncomputable abbrev tupObj (i : Int) (t1 : Tok) (l : List Nat) (t2 : Tok) : Obj := { cls := .type "tuple", data := .seq #[.int i t1, .str (S l) t2] }
theorem bs_is : Str.ofString "\\" = S [92] := by decide +kernel
theorem b_eq (c : Nat) : ((⟨#[c]⟩ : Str) == Str.ofString "\\") = (c == 92) := by
  rw [bs_is, show (⟨#[c]⟩ : Str) = S [c] from rfl, S_beq]
  by_cases h : c = 92
  · subst h; decide
  · rw [beq_eq_false_iff_ne.mpr h, beq_eq_false_iff_ne.mpr (fun e => h (by simpa using e))]
theorem bs_app (c : Nat) : Str.ofString "\\" ++ (⟨#[c]⟩ : Str) = S [92, c] := by rw [bs_is, show (⟨#[c]⟩ : Str) = S [c] from rfl, S_app]; rfl
section
variable (w : World) {A : Around} {g : Heap} {L a : Addr} {cd : Value} {qn : Str} {mean : ExcName → Option Value} {mg mb : Str → Option Value} {m : Str → Option Value} {news : List (Addr × Obj)} {s : Shared}
theorem g_pos {Q E} (hA : A.handled = none) (X : (hd.heap_39 w.params).In g) (T : Top hd.view_39 (looseW hd.view_39 []) mean mg mb g) (F : Fr g L s.heap m) (N : News g L s.heap news)
   (hQ : ∀ h' tk' t, Fr g L h' (fun y => if y = "pos" then some (.int 0 t) else m y) → News g L h' news → Q .next { s with heap := h', toks := tk' }) :
   wpAny (model Challenge.rw_wb0029_01.row.prog w) A (exec ((bodyOf (topStmt 8)).getD 0 default) (gEnv qn L a cd)) Q E s := by
  revert X; k_fill; intro X
  k_dflt (show wpAny _ A (exec (Stmt.Assign _ _ _) _) _ _ _)
  k_steps
  exact hQ _ _ _ (by assumption) (by assumption)
theorem g_esc0 {Q E} (hA : A.handled = none) (X : (hd.heap_39 w.params).In g) (T : Top hd.view_39 (looseW hd.view_39 []) mean mg mb g) (F : Fr g L s.heap m) (N : News g L s.heap news)
   (hQ : ∀ h' tk' (_ : Tok), Fr g L h' (fun y => if y = "escape" then some (.bool false) else m y) → News g L h' news → Q .next { s with heap := h', toks := tk' }) :
   wpAny (model Challenge.rw_wb0029_01.row.prog w) A (exec ((bodyOf (topStmt 8)).getD 1 default) (gEnv qn L a cd)) Q E s := by
  revert X; k_fill; intro X
  k_dflt (show wpAny _ A (exec (Stmt.Assign _ _ _) _) _ _ _)
  k_steps
  exact hQ _ _ 0 (by assumption) (by assumption)
theorem g_esc1 {Q E} (hA : A.handled = none) (X : (hd.heap_39 w.params).In g) (T : Top hd.view_39 (looseW hd.view_39 []) mean mg mb g) (F : Fr g L s.heap m) (N : News g L s.heap news)
   (hQ : ∀ h' tk' (_ : Tok), Fr g L h' (fun y => if y = "escape" then some (.bool false) else m y) → News g L h' news → Q .next { s with heap := h', toks := tk' }) :
   wpAny (model Challenge.rw_wb0029_01.row.prog w) A (exec ((ifThen ((forBody ((bodyOf (topStmt 8)).getD 2 default)).getD 0 default)).getD 1 default) (gEnv qn L a cd)) Q E s := by
  revert X; k_fill; intro X
  k_dflt (show wpAny _ A (exec (Stmt.Assign _ _ _) _) _ _ _)
  k_steps
  exact hQ _ _ 0 (by assumption) (by assumption)
theorem g_esc2 {Q E} (hA : A.handled = none) (X : (hd.heap_39 w.params).In g) (T : Top hd.view_39 (looseW hd.view_39 []) mean mg mb g) (F : Fr g L s.heap m) (N : News g L s.heap news)
   (hQ : ∀ h' tk' (_ : Tok), Fr g L h' (fun y => if y = "escape" then some (.bool true) else m y) → News g L h' news → Q .next { s with heap := h', toks := tk' }) :
   wpAny (model Challenge.rw_wb0029_01.row.prog w) A (exec ((ifThen ((ifElse ((forBody ((bodyOf (topStmt 8)).getD 2 default)).getD 0 default)).getD 0 default)).getD 0 default) (gEnv qn L a cd)) Q E s := by
  revert X; k_fill; intro X
  k_dflt (show wpAny _ A (exec (Stmt.Assign _ _ _) _) _ _ _)
  k_steps
  exact hQ _ _ 0 (by assumption) (by assumption)
theorem g_t1 {Q E} (hA : A.handled = none) (X : (hd.heap_39 w.params).In g) (T : Top hd.view_39 (looseW hd.view_39 []) mean mg mb g) (F : Fr g L s.heap m) (N : News g L s.heap news) {b : Bool} (e1 : m "escape" = some (.bool b))
   (hQ : ∀ tk' h', Fr g L h' m → News g L h' news → Q (b) { s with heap := h', toks := tk' }) :
   wpAny (model Challenge.rw_wb0029_01.row.prog w) A (isTrue (ifTest ((forBody ((bodyOf (topStmt 8)).getD 2 default)).getD 0 default)) (gEnv qn L a cd) (eval (ifTest ((forBody ((bodyOf (topStmt 8)).getD 2 default)).getD 0 default)) (gEnv qn L a cd))) Q E s := by
  revert X; k_fill; intro X
  replace F := fr_eq (put_eq e1 rfl) F
  k_dflt (show wpAny _ A (isTrue (Expr.Name _ _) _ (eval (Expr.Name _ _) _)) _ _ _)
  k_steps
  exact hQ _ _ (fr_eq (put_eq e1 rfl).symm F) N
theorem g_t2 {Q E} (hA : A.handled = none) (X : (hd.heap_39 w.params).In g) (T : Top hd.view_39 (looseW hd.view_39 []) mean mg mb g) (F : Fr g L s.heap m) (N : News g L s.heap news) {c : Nat} {t : Tok} (e1 : m "ch" = some (.str ⟨#[c]⟩ t))
   (hQ : ∀ tk' h', Fr g L h' m → News g L h' news → Q (c == 92) { s with heap := h', toks := tk' }) :
   wpAny (model Challenge.rw_wb0029_01.row.prog w) A (isTrue (ifTest ((ifElse ((forBody ((bodyOf (topStmt 8)).getD 2 default)).getD 0 default)).getD 0 default)) (gEnv qn L a cd) (eval (ifTest ((ifElse ((forBody ((bodyOf (topStmt 8)).getD 2 default)).getD 0 default)).getD 0 default)) (gEnv qn L a cd))) Q E s := by
  revert X; k_fill; intro X
  replace F := fr_eq (put_eq e1 rfl) F
  k_dflt (show wpAny _ A (isTrue (Expr.Compare _ _ _ _) _ (eval (Expr.Compare _ _ _ _) _)) _ _ _)
  k_steps
  rw [show ((⟨#[c]⟩ : Str) == Str.ofString "\\") = (c == 92) from b_eq c]
  exact hQ _ _ (fr_eq (put_eq e1 rfl).symm F) N
theorem g_t3 {Q E} (hA : A.handled = none) (X : (hd.heap_39 w.params).In g) (T : Top hd.view_39 (looseW hd.view_39 []) mean mg mb g) (F : Fr g L s.heap m) (N : News g L s.heap news) {b : Bool} (e1 : m "escape" = some (.bool b))
   (hQ : ∀ tk' h', Fr g L h' m → News g L h' news → Q (b) { s with heap := h', toks := tk' }) :
   wpAny (model Challenge.rw_wb0029_01.row.prog w) A (isTrue (ifTest ((bodyOf (topStmt 8)).getD 3 default)) (gEnv qn L a cd) (eval (ifTest ((bodyOf (topStmt 8)).getD 3 default)) (gEnv qn L a cd))) Q E s := by
  revert X; k_fill; intro X
  replace F := fr_eq (put_eq e1 rfl) F
  k_dflt (show wpAny _ A (isTrue (Expr.Name _ _) _ (eval (Expr.Name _ _) _)) _ _ _)
  k_steps
  exact hQ _ _ (fr_eq (put_eq e1 rfl).symm F) N
theorem g_y1 {Q E} (hA : A.handled = none) (X : (hd.heap_39 w.params).In g) (T : Top hd.view_39 (looseW hd.view_39 []) mean mg mb g) (F : Fr g L s.heap m) (N : News g L s.heap news) {c : Nat} {i : Int} {tc ti : Tok} (e1 : m "ch" = some (.str ⟨#[c]⟩ tc)) (e2 : m "pos" = some (.int i ti))
   (hQ : ∀ h' tk' T t1 t2, Fr g L h' m → News g L h' ((T, tupObj i t1 [92, c] t2) :: news) → (∀ p ∈ news, p.1 < T) → Q (.ref T) { s with heap := h', toks := tk' }) :
   wpAny (model Challenge.rw_wb0029_01.row.prog w) A (eval (yieldOf ((ifThen ((forBody ((bodyOf (topStmt 8)).getD 2 default)).getD 0 default)).getD 0 default)) (gEnv qn L a cd)) Q E s := by
  revert X; k_fill; intro X
  replace F := fr_eq (put_eq e1 (put_eq e2 rfl)) F
  k_dflt (show wpAny _ A (eval (Expr.Tuple _ _ _) _) _ _ _)
  k_steps
  rw [bs_app c] at *
  exact hQ _ _ _ _ _ (fr_eq (put_eq e1 (put_eq e2 rfl)).symm (by assumption)) (by assumption) (by assumption)
theorem g_y2 {Q E} (hA : A.handled = none) (X : (hd.heap_39 w.params).In g) (T : Top hd.view_39 (looseW hd.view_39 []) mean mg mb g) (F : Fr g L s.heap m) (N : News g L s.heap news) {c : Nat} {i : Int} {tc ti : Tok} (e1 : m "ch" = some (.str ⟨#[c]⟩ tc)) (e2 : m "pos" = some (.int i ti))
   (hQ : ∀ h' tk' T t1 t2, Fr g L h' m → News g L h' ((T, tupObj i t1 [c] t2) :: news) → (∀ p ∈ news, p.1 < T) → Q (.ref T) { s with heap := h', toks := tk' }) :
   wpAny (model Challenge.rw_wb0029_01.row.prog w) A (eval (yieldOf ((ifElse ((ifElse ((forBody ((bodyOf (topStmt 8)).getD 2 default)).getD 0 default)).getD 0 default)).getD 0 default)) (gEnv qn L a cd)) Q E s := by
  revert X; k_fill; intro X
  replace F := fr_eq (put_eq e1 (put_eq e2 rfl)) F
  k_dflt (show wpAny _ A (eval (Expr.Tuple _ _ _) _) _ _ _)
  k_steps
  exact hQ _ _ _ _ _ (fr_eq (put_eq e1 (put_eq e2 rfl)).symm (by assumption)) (by assumption) (by assumption)
theorem g_y3 {Q E} (hA : A.handled = none) (X : (hd.heap_39 w.params).In g) (T : Top hd.view_39 (looseW hd.view_39 []) mean mg mb g) (F : Fr g L s.heap m) (N : News g L s.heap news) {i : Int} {ti : Tok} (e2 : m "pos" = some (.int i ti))
   (hQ : ∀ h' tk' T t1 t2, Fr g L h' m → News g L h' ((T, tupObj i t1 [92] t2) :: news) → (∀ p ∈ news, p.1 < T) → Q (.ref T) { s with heap := h', toks := tk' }) :
   wpAny (model Challenge.rw_wb0029_01.row.prog w) A (eval (yieldOf ((ifThen ((bodyOf (topStmt 8)).getD 3 default)).getD 0 default)) (gEnv qn L a cd)) Q E s := by
  revert X; k_fill; intro X
  replace F := fr_eq (put_eq e2 rfl) F
  k_dflt (show wpAny _ A (eval (Expr.Tuple _ _ _) _) _ _ _)
  k_steps
  rw [bs_is] at *
  exact hQ _ _ _ _ _ (fr_eq (put_eq e2 rfl).symm (by assumption)) (by assumption) (by assumption)
theorem g_it {Q E} (hA : A.handled = none) (X : (hd.heap_39 w.params).In g) (T : Top hd.view_39 (looseW hd.view_39 []) mean mg mb g) (F : Fr g L s.heap m) (N : News g L s.heap news) {x : Str} {t : Tok} (e1 : m "addr" = some (.str x t))
   (hQ : ∀ h', Fr g L h' m → News g L h' news → IsEnum h' (s.heap.objs.size + 1) s.heap.objs.size 0 .none → h'.IsStrIter s.heap.objs.size (strIterType x) x t 0 → Keeps s.heap h' → Q (.ref (s.heap.objs.size + 1)) { s with heap := h' }) :
   wpAny (model Challenge.rw_wb0029_01.row.prog w) A (eval (forIter ((bodyOf (topStmt 8)).getD 2 default)) (gEnv qn L a cd)) Q E s := by
  revert X; k_fill; intro X
  replace F := fr_eq (put_eq e1 rfl) F
  k_dflt (show wpAny _ A (eval (Expr.Call _ _ _ _) _) _ _ _)
  k_steps
  refine call_enumerate_str fun h' he hi hs hk => ?_
  exact hQ _ (fr_eq (put_eq e1 rfl).symm (F.keeps hk)) (N.grown hk) he hi hk
end
end Mine
end Part14x
section Part15x
open PySem PySem.W PySem.W.X PyProof.Rows PyProof.Rows.LCg PySem.Spec PySem.Calls
set_option Elab.async false
set_option maxRecDepth 100000
set_option maxHeartbeats 2000000
namespace Mine
local macro_rules | `(tactic| walk_at "MINE none") => `(tactic| skip)
section
variable {prog : Program} {w : World} {A : Around} {fs : List Frame} {P : End → Shared → Prop} {s : Shared} {h₀ : Heap} {env : Env}
theorem sx_pairStep {xi xc : Str} {pk pv pt : Pos} {x1 : Nat} {body : List Stmt} {I : Addr} {fp wr : List Addr} {n i : Nat} {Pt : Nat → Array Value → Prop} {St : Nat → Heap → Prop} {Mid : Nat → Addr → Heap → Prop}
    {P2 : Nat → Value → Value → Prop} {m : Str → Option Value} {news : List (Addr × Obj)} (hh : (A.over (.forLoop (.Tuple [.Name xi pk, .Name xc pv] x1 pt) (.ref I) body [] env) fs).handled = none)
    (W : WalksT prog w (A.over (.forLoop (.Tuple [.Name xi pk, .Name xc pv] x1 pt) (.ref I) body [] env) fs) I fp wr n Pt St Mid) (h2 : ∀ i vals, Pt i vals → ∃ v0 v1, vals = #[v0, v1] ∧ P2 i v0 v1)
    (hxi : env.kindOf xi = some .local) (hxc : env.kindOf xc = some .local)
    (hp : (env.scope.kind == .class || (env.scope.kind == .module && env.locals != env.globals)) = false)
    (hLf : env.locals ∉ fp) (hwr : ∀ b ∈ wr, h₀.get? b = none) (hnw : ∀ p ∈ news, p.1 ∉ wr)
    (hi : i ≤ n) (hst : St i s.heap) (F : Fr h₀ env.locals s.heap m) (N : News h₀ env.locals s.heap news)
    (item : i < n → ∀ v0 v1 h' tk', P2 i v0 v1 → St (i + 1) h' → Fr h₀ env.locals h' (fun y => if y = xc then some v1 else if y = xi then some v0 else m y) → News h₀ env.locals h' news →
      ∀ H, SegX (model prog w) A (.forLoop (.Tuple [.Name xi pk, .Name xc pv] x1 pt) (.ref I) body [] env) ((execs body env).wrap (kLoop (.forLoop (.Tuple [.Name xi pk, .Name xc pv] x1 pt) (.ref I) body [] env)) H id id) fs { s with heap := h', toks := tk' } P)
    (done : i = n → ∀ h' tk', Fr h₀ env.locals h' m → News h₀ env.locals h' news → SegX (model prog w) A (.block [] env) (.pure (.done .next)) fs { s with heap := h', toks := tk' } P) :
    SegX (model prog w) A (.forLoop (.Tuple [.Name xi pk, .Name xc pv] x1 pt) (.ref I) body [] env) (denote table (.forLoop (.Tuple [.Name xi pk, .Name xc pv] x1 pt) (.ref I) body [] env)) fs s P := by
  have hLw : env.locals ∉ wr := fun h => hLf (W.sub _ h)
  have old : ∀ b o, h₀.get? b = some o → b ∉ wr := fun b o e hb => by rw [hwr b hb] at e; cases e
  have next : ∀ h₁ : Heap, (∀ b o, b ∉ wr → s.heap.get? b = some o → h₁.get? b = some o) → Fr h₀ env.locals h₁ m ∧ News h₀ env.locals h₁ news := fun h₁ hk₁ =>
    ⟨⟨F.ns.at' fun o e => hk₁ _ o hLw e, fun b o e => hk₁ b o (old b o e) (F.keep b o e), F.above⟩, fun p hp => ⟨hk₁ _ _ (hnw p hp) (N p hp).1, (N p hp).2⟩⟩
  refine sx_forLoop ?_
  by_cases hlt : i < n
  · refine W.item i _ _ _ hlt hst fun T vals h₁ tk₁ hPt _ hT hMid hk₁ => ?_
    obtain ⟨v0, v1, rfl, hP2⟩ := h2 i vals hPt
    refine W.go _ x1 pt i T _ _ _ hMid fun h₂ hst₂ hk₂ => ?_
    have ht₂ : h₂.IsTuple T #[v0, v1] := hT.at fun o e => hk₂ T o (W.apart i T h₁ hMid) e
    refine wpAny_assign_Tuple hh ht₂ rfl rfl fun h₃ hx₃ => ?_
    replace hx₃ : Heap.ExtBut h₂.objs.size h₂ h₃ := hx₃
    have up₃ : ∀ b o, h₂.get? b = some o → h₃.get? b = some o := fun b o x => hx₃ b o (Nat.ne_of_lt (Heap.lt_size x)) x
    obtain ⟨F₃, N₃⟩ := next h₃ fun b o hb x => up₃ b o (hk₂ b o hb (hk₁ b o hb x))
    show wpAny _ _ (do holding [v1] (assign (.Name xi pk) env v0); do holding [] (assign (.Name xc pv) env v1); pure ()) _ _ _
    refine wpAny_bind (wpAny_holding (wpAny_assign_Name (wpAny_storeName_local hxi F₃.ns (fun h₄ hn₄ hs₄ => ?_) hp)))
    replace hs₄ : Heap.SameBut env.locals h₃ h₄ := hs₄
    have F₄ := F₃.set hn₄ hs₄
    refine wpAny_bind (wpAny_holding (wpAny_assign_Name (wpAny_storeName_local hxc F₄.ns (fun h₅ hn₅ hs₅ => wpAny_pure ?_) hp)))
    replace hs₅ : Heap.SameBut env.locals h₄ h₅ := hs₅
    have F₅ := F₄.set hn₅ hs₅
    have N₅ : News h₀ env.locals h₅ news := (N₃.set hs₄).set hs₅
    have hst₅ : St (i + 1) h₅ := W.frame _ _ _ hst₂ fun b hb o e => hs₅.extBut b o (fun q => hLf (q ▸ hb)) (hs₄.extBut b o (fun q => hLf (q ▸ hb)) (up₃ b o e))
    exact item hlt v0 v1 h₅ _ hP2 hst₅ F₅ N₅
  · have : i = n := by omega
    refine W.done _ _ _ (this ▸ hst) fun h₁ tk₁ hk₁ => ?_
    obtain ⟨F', N'⟩ := next h₁ hk₁
    exact done this h₁ tk₁ F' N'
end
noncomputable def itemsF : List Nat → Nat → Bool → List (Nat × List Nat)
  | [], i, true => [(i - 1, [92])]
  | [], _, false => []
  | c :: r, i, true => (i, [92, c]) :: itemsF r (i + 1) false
  | c :: r, i, false => if (c == 92) = true then itemsF r (i + 1) true else (i, [c]) :: itemsF r (i + 1) false
noncomputable abbrev Holds1 (h : Heap) (own : List (Addr × Obj)) : Prop := ∀ p ∈ own, h.get? p.1 = some p.2
section
variable (w : World) (g : Heap) (L e it : Addr)
noncomputable abbrev Mine3 (own : List (Addr × Obj)) : Prop := ∀ p ∈ own, p.1 = L ∨ p.1 = e ∨ p.1 = it
noncomputable def RY : List (Nat × List Nat) → GenState → List (Addr × Obj) → Prop
  | [], gs, own => ∀ (A : Around) (s : Shared) (news : List (Addr × Obj)) (P : End → Shared → Prop), A.handled = none → Holds1 s.heap own → Keeps g s.heap → News g L s.heap news → (∀ p ∈ news, p.1 ≠ e ∧ p.1 ≠ it) →
      (∀ h' tk', Keeps g h' → News g L h' news → P (.ret (.ok (.ret .none))) { s with heap := h', toks := tk' }) → Res PR w A gs s P
  | (p, cs) :: r, gs, own => ∀ (A : Around) (s : Shared) (news : List (Addr × Obj)) (P : End → Shared → Prop), A.handled = none → Holds1 s.heap own → Keeps g s.heap → News g L s.heap news → (∀ p ∈ news, p.1 ≠ e ∧ p.1 ≠ it) →
      (∀ h' tk' T t1 t2 own' l k c ps fs, Keeps g h' → News g L h' ((T, tupObj p t1 cs t2) :: news) → Holds1 h' own' → Mine3 L e it own' → fs.any Frame.guarded = false → RY r (.suspended k l c ps fs false) own' →
        P (.susp (.ref T) false l k c ps fs) { s with heap := h', toks := tk' }) → Res PR w A gs s P
noncomputable def NEXT (s : Shared) (news : List (Addr × Obj)) (P : End → Shared → Prop) : List (Nat × List Nat) → Prop
  | [] => ∀ h' tk', Keeps g h' → News g L h' news → P (.ret (.ok (.ret .none))) { s with heap := h', toks := tk' }
  | (p, cs) :: r => ∀ h' tk' T t1 t2 own' l k c ps fs, Keeps g h' → News g L h' ((T, tupObj p t1 cs t2) :: news) → Holds1 h' own' → Mine3 L e it own' → fs.any Frame.guarded = false → RY w g L e it r (.suspended k l c ps fs false) own' →
        P (.susp (.ref T) false l k c ps fs) { s with heap := h', toks := tk' }
theorem RY_of {items : List (Nat × List Nat)} {gs : GenState} {own : List (Addr × Obj)} (h : ∀ (A : Around) (s : Shared) (news : List (Addr × Obj)) (P : End → Shared → Prop), A.handled = none → Holds1 s.heap own → Keeps g s.heap → News g L s.heap news → (∀ p ∈ news, p.1 ≠ e ∧ p.1 ≠ it) → NEXT w g L e it s news P items → Res PR w A gs s P) :
    RY w g L e it items gs own := by
  cases items with
  | nil => exact h
  | cons p r => exact h
theorem RY.use {items : List (Nat × List Nat)} {gs : GenState} {own : List (Addr × Obj)} (h : RY w g L e it items gs own) {A : Around} {s : Shared} {news : List (Addr × Obj)} {P : End → Shared → Prop} (hh : A.handled = none) (x : Holds1 s.heap own) (k : Keeps g s.heap) (N : News g L s.heap news) (off : ∀ p ∈ news, p.1 ≠ e ∧ p.1 ≠ it) (n : NEXT w g L e it s news P items) : Res PR w A gs s P := by
  cases items with
  | nil => exact h A s news P hh x k N off n
  | cons p r => exact h A s news P hh x k N off n
end
theorem skip2 {α : Type} {p a b c : α} {r : List α} (h : p ∈ a :: r) : p ∈ a :: b :: c :: r := by
  rcases List.mem_cons.mp h with rfl | h
  · exact List.mem_cons_self
  · exact List.mem_cons_of_mem _ (List.mem_cons_of_mem _ (List.mem_cons_of_mem _ h))
noncomputable def kTop : Flow → Sem Fin := fun f => .pure (.done (.ret (match f with | .ret v => v | _ => .none)))
section
variable {w : World} {A : Around} {g : Heap} {L e it a : Addr} {cd : Value} {qn : Str} {mean : ExcName → Option Value} {mg mb : Str → Option Value} {s : Shared} {news : List (Addr × Obj)} {P : End → Shared → Prop}
/-- what lies behind the loop -/
theorem g_tail {H : Value → Sem Fin} {m : Str → Option Value} {i : Nat} {esc : Bool} (hA : A.handled = none) (X : (hd.heap_39 w.params).In g) (T : Top hd.view_39 (looseW hd.view_39 []) mean mg mb g)
    (F : Fr g L s.heap m) (N : News g L s.heap news)
    (e1 : m "escape" = some (.bool esc)) (e2 : esc = true → ∃ tp, m "pos" = some (.int ((i - 1 : Nat) : Int) tp)) (n : NEXT w g L e it s news P (itemsF [] i esc)) :
    SegX (model PR w) A (.func (bodyOf (topStmt 8)) (gEnv qn L a cd)) ((execs ((bodyOf (topStmt 8)).drop 3) (gEnv qn L a cd)).wrap kTop H id id) [] s P := by
  k_dflt (show SegX _ _ _ ((execs (Stmt.If _ [Stmt.Expr (Expr.Yield _ _) _] [] _ :: []) _).wrap _ _ _ _) _ _ _)
  refine sx_execs_cons (sx_If ?_)
  refine g_t3 w hA X T F N e1 fun tk' h' F' N' => ?_
  cases esc with
  | false =>
    rw [if_neg Bool.false_ne_true]
    refine sx_execs_nil (sx_execs_nil ?_)
    exact s_end PR w _ _ P _ (.ok (.ret .none)) _ rfl (n h' tk' F'.keep N')
  | true =>
    rw [if_pos rfl]
    obtain ⟨tp, e2⟩ := e2 rfl
    refine sx_execs_cons (sx_Yield rfl rfl rfl ?_ rfl rfl)
    refine g_y3 w hA X T F' N' e2 fun h' tk' T t1 t2 F' N' lt l k p hw => ?_
    refine n h' tk' T t1 t2 [] l k _ p [] F'.keep N' (fun p hp => by cases hp) (fun p hp => by cases hp) rfl ?_
    refine RY_of w g L e it fun A s news P hh x k N off n => ?_
    refine hw A s P ?_
    refine sx_execs_nil (sx_execs_nil ?_)
    exact s_end PR w _ _ P _ (.ok (.ret .none)) _ rfl (n _ _ k N)
end
end Mine
end Part15x
section Part16x
open PySem PySem.W PySem.W.X PyProof.Rows PyProof.Rows.LCg PySem.Spec PySem.Calls
set_option Elab.async false
set_option maxRecDepth 100000
set_option maxHeartbeats 2000000
namespace Mine
noncomputable def forTarget : Stmt → Expr
  | .For t _ _ _ _ => t
  | _ => default
theorem over_h {A : Around} {c c' : Code} {k : Result → Sem Fin} {l : List Value} {p : Pos} (hA : A.handled = none) : (A.over c [Frame.ret k none false l c' p []]).handled = none := by
  simp only [Around.over, marksOver, List.foldr, Frame.marks, hA]
  rfl
noncomputable def IsCh (x : Str) (i : Nat) (v0 v1 : Value) : Prop := ∃ t c u, x.cps[i]? = some c ∧ v0 = .int i t ∧ v1 = .str ⟨#[c]⟩ u
noncomputable abbrev gSt (e it : Addr) (x : Str) (t : Tok) (i : Nat) (h : Heap) : Prop := (∃ old, IsEnum h e it i old) ∧ h.IsStrIter it "str_ascii_iterator" x t i
noncomputable abbrev gLoopC (qn : Str) (L a : Addr) (cd : Value) (e : Addr) : Code := .forLoop (forTarget gFor) (.ref e) (forBody gFor) [] (gEnv qn L a cd)
section
variable {w : World} {g : Heap} {L e it a : Addr} {cd : Value} {qn : Str} {mean : ExcName → Option Value} {mg mb : Str → Option Value} {x : Str} {t : Tok}
theorem at_drop {i c : Nat} {r : List Nat} (h : x.cps.toList.drop i = c :: r) : x.cps[i]? = some c ∧ x.cps.toList.drop (i + 1) = r ∧ i < x.cps.size := by
  have hi : i < x.cps.toList.length := by
    by_cases hi : i < x.cps.toList.length
    · exact hi
    · rw [List.drop_of_length_le (by omega)] at h; cases h
  rw [List.drop_eq_getElem_cons hi] at h
  injection h with h1 h2
  refine ⟨?_, h2, by simpa using hi⟩
  rw [← Array.getElem?_toList, List.getElem?_eq_getElem hi, h1]
theorem g_walk {A : Around} (hA : A.handled = none) (hei : e ≠ it) : WalksT PR w A e [e, it] [e, it] x.cps.size (fun i vals => ∃ t' v, (∃ c u, x.cps[i]? = some c ∧ v = .str ⟨#[c]⟩ u) ∧ vals = #[.int i t', v]) (gSt e it x t) (fun i T h => (∃ x, IsEnumOut h e it ((i : Int) + 1) x T) ∧ h.IsStrIter it "str_ascii_iterator" x t (i + 1) ∧ T ≠ e ∧ T ≠ it) :=
  WalksT.enumerateD (Draws.strAscii (A := A.in1) hA it x t) e hei (by simpa using hei) (by simp)
theorem g_p2 : ∀ (i : Nat) (vals : Array Value), (∃ t' v, (∃ c u, x.cps[i]? = some c ∧ v = .str ⟨#[c]⟩ u) ∧ vals = #[.int i t', v]) → ∃ v0 v1, vals = #[v0, v1] ∧ IsCh x i v0 v1 := fun i vals ⟨t, v, ⟨c, u, h1, h2⟩, h3⟩ => ⟨_, _, h3, t, c, u, h1, rfl, h2⟩
theorem NEXT.move {w : World} {g : Heap} {L e it : Addr} {s : Shared} {news : List (Addr × Obj)} {P : End → Shared → Prop} {items : List (Nat × List Nat)} {h : Heap} {tk : Nat} (n : NEXT w g L e it s news P items) : NEXT w g L e it { s with heap := h, toks := tk } news P items := by
  cases items with
  | nil => exact n
  | cons p r => exact n
theorem off_led {h : Heap} {oe oi : Obj} {news : List (Addr × Obj)} (N : News g L h news) (hge : g.get? e = none) (hgi : g.get? it = none) (hLe : L ≠ e) (hLi : L ≠ it) (e2 : h.get? e = some oe) (e3 : h.get? it = some oi) : News g L h ((e, oe) :: (it, oi) :: news) := fun p hp => by
  rcases List.mem_cons.mp hp with rfl | hp
  · exact ⟨e2, Ne.symm hLe, hge⟩
  rcases List.mem_cons.mp hp with rfl | hp
  · exact ⟨e3, Ne.symm hLi, hgi⟩
  · exact N p hp
theorem fr_at {h h' : Heap} {m : Str → Option Value} {oL : Obj} (F : Fr g L h m) (e : h.get? L = some oL) (e' : h'.get? L = some oL) (k : Keeps g h') : Fr g L h' m :=
  ⟨F.ns.at' fun o q => by rw [e] at q; rw [← q]; exact e', k, F.above⟩
theorem own3 {h : Heap} {oL oe oi : Obj} (x : h.get? L = some oL) (y : h.get? e = some oe) (z : h.get? it = some oi) : Holds1 h [(L, oL), (e, oe), (it, oi)] := fun p hp => by
  rcases List.mem_cons.mp hp with rfl | hp
  · exact x
  rcases List.mem_cons.mp hp with rfl | hp
  · exact y
  rw [List.mem_singleton.mp hp]; exact z
theorem own3' {h : Heap} {oL oe oi : Obj} (x : Holds1 h [(L, oL), (e, oe), (it, oi)]) : h.get? L = some oL ∧ h.get? e = some oe ∧ h.get? it = some oi := ⟨x _ (.head _), x _ (.tail _ (.head _)), x _ (.tail _ (.tail _ (.head _)))⟩
theorem mine3 {oL oe oi : Obj} : Mine3 L e it [(L, oL), (e, oe), (it, oi)] := fun p hp => by
  rcases List.mem_cons.mp hp with rfl | hp
  · exact .inl rfl
  rcases List.mem_cons.mp hp with rfl | hp
  · exact .inr (.inl rfl)
  rw [List.mem_singleton.mp hp]; exact .inr (.inr rfl)
theorem off2 {h : Heap} {oe oi : Obj} {news : List (Addr × Obj)} (N : News g L h ((e, oe) :: (it, oi) :: news)) : News g L h news := fun p hp => N p (List.mem_cons_of_mem _ (List.mem_cons_of_mem _ hp))
theorem g_loop (X : (hd.heap_39 w.params).In g) (T : Top hd.view_39 (looseW hd.view_39 []) mean mg mb g) (hge : g.get? e = none) (hgi : g.get? it = none) (hLe : L ≠ e) (hLi : L ≠ it) (hei : e ≠ it) :
   ∀ (rest : List Nat) (i : Nat) (esc : Bool), x.cps.toList.drop i = rest → ∀ (A : Around) (s : Shared) (news : List (Addr × Obj)) (P : End → Shared → Prop) (m : Str → Option Value) (kf : Result → Sem Fin) (l : List Value) (p : Pos) (H : Value → Sem Fin), A.handled = none →
     (∀ A' s' P', SegX (model PR w) A' (.func (bodyOf (topStmt 8)) (gEnv qn L a cd)) ((execs ((bodyOf (topStmt 8)).drop 3) (gEnv qn L a cd)).wrap kTop H id id) [] s' P' → SegX (model PR w) A' (.func (bodyOf (topStmt 8)) (gEnv qn L a cd)) (kf (.ok .next)) [] s' P') →
     Fr g L s.heap m → gSt e it x t i s.heap → News g L s.heap news → (∀ p ∈ news, p.1 ≠ e ∧ p.1 ≠ it) → i ≤ x.cps.size →
     m "escape" = some (.bool esc) → (esc = true → ∃ tp, m "pos" = some (.int ((i - 1 : Nat) : Int) tp)) → NEXT w g L e it s news P (itemsF rest i esc) →
     SegX (model PR w) A (gLoopC qn L a cd e) (denote table (gLoopC qn L a cd e)) [.ret kf none false l (.func (bodyOf (topStmt 8)) (gEnv qn L a cd)) p []] s P := by
  intro rest
  induction rest with
  | nil =>
    intro i esc hd A s news P m kf l p H hA hk F st N off hi e1 e2 n
    have hn : i = x.cps.size := by
      have := List.drop_eq_nil_iff.mp hd
      simp at this; omega
    k_dflt (show SegX _ _ (.forLoop (.Tuple [.Name _ _, .Name _ _] _ _) _ _ _ _) _ _ _ _)
    refine sx_pairStep (h₀ := g) (over_h hA) (g_walk (over_h hA) hei) (P2 := IsCh x) (g_p2 (x := x)) rfl rfl rfl ?_ ?_ ?_ hi st F N ?_ ?_
    · intro h; simp at h; rcases h with h | h; exact hLe h; exact hLi h
    · intro b hb; simp at hb; rcases hb with rfl | rfl; exact hge; exact hgi
    · intro p hp hb; simp at hb; rcases hb with hb | hb; exact (off p hp).1 hb; exact (off p hp).2 hb
    · intro h; omega
    · rintro _ h₁ tk₁ F₁ N₁
      refine s_pop PR w A _ _ P _ (.ok .next) _ rfl kf none false l _ p [] ?_
      refine hk _ _ _ ?_
      exact g_tail hA X T F₁ N₁ e1 e2 n.move
  | cons c r ih =>
    intro i esc hdr A s news P m kf l p H hA hk F st N off hi e1 e2 n
    obtain ⟨hc, hr, hlt⟩ := at_drop hdr
    k_dflt (show SegX _ _ (.forLoop (.Tuple [.Name _ _, .Name _ _] _ _) _ _ _ _) _ _ _ _)
    refine sx_pairStep (h₀ := g) (over_h hA) (g_walk (over_h hA) hei) (P2 := IsCh x) (g_p2 (x := x)) rfl rfl rfl ?_ ?_ ?_ hi st F N ?_ ?_
    · intro h; simp at h; rcases h with h | h; exact hLe h; exact hLi h
    · intro b hb; simp at hb; rcases hb with rfl | rfl; exact hge; exact hgi
    · intro p hp hb; simp at hb; rcases hb with hb | hb; exact (off p hp).1 hb; exact (off p hp).2 hb
    · rintro _ v0 v1 h₁ tk₁ ⟨t0, c', u, q1, rfl, rfl⟩ st₁ F₁ N₁ H'
      obtain rfl : c = c' := Option.some.inj (hc.symm.trans q1)
      obtain ⟨⟨old, he⟩, ⟨oi, hi1, hi2⟩⟩ := st₁
      have N₂ := off_led N₁ hge hgi hLe hLi he hi1
      k_dflt (show SegX _ _ _ ((execs (Stmt.If _ [Stmt.Expr (Expr.Yield (some _) _) _, _] [Stmt.If _ [_] [Stmt.Expr (.Yield (some _) _) _] _] _ :: []) _).wrap _ _ _ _) _ _ _)
      refine sx_execs_cons (sx_If ?_)
      refine g_t1 w (over_h hA) X T F₁ N₂ (b := esc) e1 fun tk₂ h₂ F₂ N₂ => ?_
      cases esc with
      | true =>
        rw [if_pos rfl]
        refine sx_execs_cons (sx_Yield rfl rfl rfl ?_ rfl rfl)
        refine g_y1 w (over_h hA) X T F₂ N₂ (c := c) (i := i) rfl rfl fun h₃ tk₃ T₃ t1 t2 F₃ N₃ lt l₃ k₃ p₃ hw => ?_
        obtain ⟨oL, es, ep, hoL, _⟩ := id F₃.ns
        refine n h₃ tk₃ T₃ t1 t2 [(L, oL), (e, _), (it, oi)] l₃ k₃ _ p₃ _ F₃.keep (fun p hp => N₃ p (skip2 hp)) (own3 hoL (N₃ _ (.tail _ (.head _))).1 (N₃ _ (.tail _ (.tail _ (.head _)))).1) mine3 rfl ?_
        refine RY_of w g L e it fun A s news P hh xx k N off n => ?_
        obtain ⟨x1, x2, x3⟩ := own3' xx
        refine hw A s P ?_
        refine sx_execs_cons (sx_plain ?_)
        refine g_esc1 w (over_h hh) X T (fr_at F₃ hoL x1 k) (off_led N hge hgi hLe hLi x2 x3) fun h₄ tk₄ _ F₄ N₄ => ?_
        refine sx_execs_nil (sx_execs_nil ?_)
        refine s_again PR w A _ _ P _ _ rfl ?_
        exact ih (i + 1) false hr A _ news P _ kf l p H hh hk F₄ ⟨⟨_, (N₄ _ (.head _)).1⟩, ⟨oi, (N₄ _ (.tail _ (.head _))).1, hi2⟩⟩ (off2 N₄) off hlt rfl (fun h => by cases h) n.move
      | false =>
        rw [if_neg Bool.false_ne_true]
        refine sx_execs_cons (sx_If ?_)
        refine g_t2 w (over_h hA) X T F₂ N₂ (c := c) rfl fun tk₂' h₂' F₂' N₂' => ?_
        rw [itemsF] at n
        by_cases hc92 : (c == 92) = true
        · rw [if_pos hc92]
          rw [if_pos hc92] at n
          refine sx_execs_cons (sx_plain ?_)
          refine g_esc2 w (over_h hA) X T F₂' N₂' fun h₄ tk₄ _ F₄ N₄ => ?_
          refine sx_execs_nil (sx_execs_nil (sx_execs_nil ?_))
          refine s_again PR w A _ _ P _ _ rfl ?_
          exact ih (i + 1) true hr A _ news P _ kf l p H hA hk F₄ ⟨⟨_, (N₄ _ (.head _)).1⟩, ⟨oi, (N₄ _ (.tail _ (.head _))).1, hi2⟩⟩ (off2 N₄) off hlt rfl (fun _ => ⟨t0, rfl⟩) n.move
        · rw [if_neg hc92]
          rw [if_neg hc92] at n
          refine sx_execs_cons (sx_Yield rfl rfl rfl ?_ rfl rfl)
          refine g_y2 w (over_h hA) X T F₂' N₂' (c := c) (i := i) rfl rfl fun h₃ tk₃ T₃ t1 t2 F₃ N₃ lt l₃ k₃ p₃ hw => ?_
          obtain ⟨oL, es, ep, hoL, _⟩ := id F₃.ns
          refine n h₃ tk₃ T₃ t1 t2 [(L, oL), (e, _), (it, oi)] l₃ k₃ _ p₃ _ F₃.keep (fun p hp => N₃ p (skip2 hp)) (own3 hoL (N₃ _ (.tail _ (.head _))).1 (N₃ _ (.tail _ (.tail _ (.head _)))).1) mine3 rfl ?_
          refine RY_of w g L e it fun A s news P hh xx k N off n => ?_
          obtain ⟨x1, x2, x3⟩ := own3' xx
          refine hw A s P ?_
          refine sx_execs_nil (sx_execs_nil (sx_execs_nil ?_))
          refine s_again PR w A _ _ P _ _ rfl ?_
          exact ih (i + 1) false hr A _ news P _ kf l p H hh hk (fr_at F₃ hoL x1 k) ⟨⟨_, x2⟩, ⟨oi, x3, hi2⟩⟩ N off hlt e1 (fun h => by cases h) n
    · intro h; omega
end
end Mine
end Part16x
section Part17x
open PySem PySem.W PySem.W.X PyProof.Rows PyProof.Rows.LCg PySem.Spec PySem.Calls
set_option Elab.async false
set_option maxRecDepth 100000
set_option maxHeartbeats 2000000
namespace Mine
local macro_rules | `(tactic| walk_at "MINE none") => `(tactic| skip)
noncomputable def RF (w : World) (g : Heap) (L : Addr) (items : List (Nat × List Nat)) (gs : GenState) (own : List (Addr × Obj)) : Prop :=
  ∀ (A : Around) (s : Shared) (news : List (Addr × Obj)) (P : End → Shared → Prop), A.handled = none → Holds1 s.heap own → Keeps g s.heap → News g L s.heap news →
    (∀ e it, (∀ p ∈ news, p.1 < e ∧ p.1 < it) → L < e → L < it → NEXT w g L e it s news P items) → Res PR w A gs s P
theorem g_fresh {w : World} {g h0 : Heap} {L a : Addr} {cd : Value} {qn : Str} {mean : ExcName → Option Value} {mg mb : Str → Option Value} {m : Str → Option Value} {oL : Obj} {x : Str} {t : Tok} (X : (hd.heap_39 w.params).In g) (T : Top hd.view_39 (looseW hd.view_39 []) mean mg mb g)
   (F0 : Fr g L h0 m) (hoL : h0.get? L = some oL) (ea : m "addr" = some (.str x t)) (ha : x.cps.all (· < 128) = true) :
   RF w g L (itemsF x.cps.toList 0 false) (.fresh (.func (bodyOf (topStmt 8)) (gEnv qn L a cd))) [(L, oL)] := by
  intro A s news P hA hx hk N hn
  have F : Fr g L s.heap m := fr_at F0 hoL (hx _ (.head _)) hk
  refine sx_func ?_
  show SegX _ A _ ((execs (bodyOf (topStmt 8)) (gEnv qn L a cd)).wrap kTop _ id id) [] s P
  k_dflt (show SegX _ A _ ((execs (_ :: _ :: Stmt.For _ _ _ _ _ :: _) _).wrap _ _ _ _) _ _ _)
  refine sx_execs_cons (sx_plain ?_)
  refine g_pos w hA X T F N fun h1 tk1 t1 F N => ?_
  refine sx_execs_cons (sx_plain ?_)
  refine g_esc0 w hA X T F N fun h2 tk2 _ F2 N2 => ?_
  refine sx_execs_cons (sx_For rfl ?_)
  refine g_it w hA X T F2 N2 ea fun h3 F N he hi hk3 => ?_
  refine wpAny_pyIter_enum he ?_
  intro kf l p hK
  have hLt : L < h2.objs.size := by
    have := F0
    obtain ⟨_, _, _, q, _⟩ := F2.ns
    exact Heap.lt_size q
  have hge : g.get? (h2.objs.size + 1) = none := Heap.get?_none_of_le (Nat.le_trans F2.above (Nat.le_of_lt (Nat.lt_succ_of_lt hLt)))
  have hgi : g.get? h2.objs.size = none := Heap.get?_none_of_le (Nat.le_trans F2.above (Nat.le_of_lt hLt))
  have off : ∀ p ∈ news, p.1 < h2.objs.size := fun p hp => Heap.lt_size (N2 p hp).1
  refine g_loop (x := x) (t := t) (it := h2.objs.size) X T hge hgi (Nat.ne_of_lt (Nat.lt_succ_of_lt hLt)) (Nat.ne_of_lt hLt) (Nat.succ_ne_self _) x.cps.toList 0 false rfl A _ news P _ kf l p _ hA (fun A' s' P' y => hK A' .next s' P' y) F ⟨⟨_, he⟩, ?_⟩ N (fun p hp => ?_) (Nat.zero_le _) rfl (fun h => by cases h) ?_
  · simpa [strIterType, ha] using hi
  · exact ⟨Nat.ne_of_lt (Nat.lt_succ_of_lt (off p hp)), Nat.ne_of_lt (off p hp)⟩
  · exact (hn _ _ (fun p hp => ⟨Nat.lt_succ_of_lt (off p hp), off p hp⟩) (Nat.lt_succ_of_lt hLt) hLt).move
end Mine
end Part17x
section Part18x
open PySem PySem.W PySem.W.X PyProof.Rows PyProof.Rows.LCg PySem.Spec PySem.Calls
set_option Elab.async false
set_option maxRecDepth 100000
set_option maxHeartbeats 2000000
namespace Mine
noncomputable abbrev genObj (k : Nat) (nm qn : Value) : Obj := { cls := .type "generator", data := .fields #[.int k 0, nm, qn] }
section
variable {prog : Program} {w : World} {A : Around} {s : Shared} {h₀ : Heap} {L : Addr} {m : Str → Option Value} {K : Frag} {p : Program} {loose : List Str} {mean : ExcName → Option Value} {mg mb : Str → Option Value}
  {R : Result → Shared → Prop} {name qual : Str} {params : Arguments} {body : List Stmt} {scope : Scope} {dV kV doc pm cdv ct oc : Value} {an od : Option Addr} {osl : Array (Option Value)} {f : Addr} {args : Args} {binds : List (Str × Value)}
theorem gen_enter (F : Fr h₀ L s.heap m) (X₀ : K.In h₀) (T : Top p loose mean mg mb h₀)
    (ho : K.lookup f = some ⟨oc, od, .func (fnOf name qual params body scope dV kV doc pm an cdv ct), osl⟩) (hcd : codeIn K cdv qual = true) (hroom : A.depth < recursionLimit)
    (hbind : bindArgs (fnOf name qual params body scope dV kV doc pm an cdv ct) args = pure binds) (hloc : ∀ y ∈ binds, scope.names.lookup y.1 = some .local)
    (h : ∀ L' a h₁ h₂ tk v1 v2, Fr s.heap L' h₁ (fun y => binds.reverse.lookup y) → Keeps h₁ h₂ → L' < a → s.heap.objs.size ≤ L' → h₂.get? a = some (genObj s.gens.size v1 v2) →
      R (.ok (.ret (.ref a))) { s with heap := h₂, gens := s.gens.push (.fresh (.func body (envOf qual scope L' f cdv))), toks := tk })
    (hco : scope.isCoroutine = false) (hgen : scope.isGenerator = true) (hk : scope.kind = .function)
    (hcell : ∀ x ∈ scope.names, x.2 ≠ .cell) : codeAny (model prog w) A (.call (.ref f) args) R s := by
  have X := X₀.keeps F.keep
  refine codeAny_call_generator (fd := fnOf name qual params body scope dV kV doc pm an cdv ct) (body := body) hroom (X _ _ ho) rfl hco hgen rfl (codeRec_of X hcd) ?_
  rw [hbind]
  refine wpAny_pure ?_
  refine wpAny_newFunctionEnv hcell hloc (fun h₁ hns hsb => ⟨(T.nolimit.keeps F.keep).fresh _ hsb, ?_⟩) hk
  have up : ∀ b o, s.heap.get? b = some o → h₁.get? b = some o := fun b o e => hsb.extBut b o (Nat.ne_of_lt (Heap.lt_size e)) (Heap.get?_push_of_some _ e)
  exact h s.heap.objs.size h₁.objs.size h₁ _ _ _ _ ⟨hns, up, Nat.le_refl _⟩ (fun b o e => Heap.get?_push_of_some _ e) (by obtain ⟨_, _, _, q, _⟩ := hns; exact Heap.lt_size q) (Nat.le_refl _) (Heap.get?_push_size _ rfl)
end
end Mine
end Part18x
section Part19x
open PySem PySem.W PySem.W.X PyProof.Rows PyProof.Rows.LCg PySem.Spec PySem.Calls
set_option Elab.async false
set_option maxRecDepth 100000
set_option maxHeartbeats 2000000
namespace Mine
theorem gen_new (w : World) {A : Around} {s : Shared} {h₀ : Heap} {L : Addr} {m : Str → Option Value} {mean : ExcName → Option Value} {mg mb : Str → Option Value} {x : Str} {t : Tok} {Q E : Value → Shared → Prop}
    (F : Fr h₀ L s.heap m) (X : (hd.heap_39 w.params).In h₀) (T : Top hd.view_39 (looseW hd.view_39 []) mean mg mb h₀) (hroom : A.depth < recursionLimit) (ha : x.cps.all (· < 128) = true)
    (h : ∀ L' a h₂ tk v1 v2 oL gs, Keeps s.heap h₂ → L' < a → s.heap.objs.size ≤ L' → h₂.get? L' = some oL → h₂.get? a = some (genObj s.gens.size v1 v2) → GenState.bare gs = true → RF w h₀ L' (itemsF x.cps.toList 0 false) gs [(L', oL)] →
      Q (.ref a) { s with heap := h₂, gens := s.gens.push gs, toks := tk }) :
    wpAny (model Challenge.rw_wb0029_01.row.prog w) A (call (.ref 60) [.str x t]) Q E s := by
  revert X
  k_fill
  intro X
  refine wpAny_call ?_
  k_dflt (refine' gen_enter ?kF ?kX ?kT ?ho ?hcd ?hroom ?hb ?hl ?_ ?c2 ?c3 ?c4 ?c5)
  case kF => exact F
  case kX => exact X
  case kT => exact T
  case ho => k_is
  case hcd => k_is
  case hroom => exact hroom
  case hb => exact rfl
  case hl => exact locs rfl
  case c2 => exact rfl
  case c3 => exact rfl
  case c4 => exact rfl
  case c5 => decide
  intro L' a h₁ h₂ tk v1 v2 F1 k1 hlt hle ga
  obtain ⟨oL, es, ep, hoL, r⟩ := id F1.ns
  have F2 : Fr h₀ L' h₁ _ := ⟨F1.ns, fun b o e => F1.keep b o (F.keep b o e), Nat.le_trans F.above (Nat.le_trans (Nat.le_of_lt F.ns.lt) hle)⟩
  k_dflt (refine h L' a h₂ tk v1 v2 oL _ (fun b o e => k1 b o (F1.keep b o e)) hlt hle (k1 _ _ hoL) ga rfl ?_; exact g_fresh X T F2 hoL (x := x) (t := t) rfl ha)
end Mine
end Part19x
section Part20x
open PySem PySem.W PySem.W.X PyProof.Rows PyProof.Rows.LCg PySem.Spec PySem.Calls
set_option Elab.async false
set_option maxRecDepth 100000
set_option maxHeartbeats 2000000
namespace Mine
theorem bare_at {gens : Array GenState} {k : Nat} {gs : GenState} (h : AllBare gens) (hg : gs.bare = true) : AllBare (gens.setIfInBounds k gs) := fun y hy => by
  obtain ⟨i, hi, e⟩ := Array.mem_iff_getElem.mp hy
  rw [Array.getElem_setIfInBounds (by simpa using hi)] at e
  split at e
  · rw [← e]; exact hg
  · rw [← e]; exact h _ (Array.getElem_mem (by simpa using hi))
theorem bare_set {gens : Array GenState} {k : Nat} {r gs : GenState} (h : AllBare gens) (hg : gs.bare = true) : AllBare ((gens.setIfInBounds k r).setIfInBounds k gs) := by
  rw [show (gens.setIfInBounds k r).setIfInBounds k gs = gens.setIfInBounds k gs by simp]
  exact bare_at h hg
noncomputable def SG (s s' : Shared) : Prop := s'.os = s.os ∧ (AllBare s.gens → AllBare s'.gens)
theorem SG.refl {s : Shared} : SG s s := ⟨rfl, id⟩
theorem SG.trans {s s' s'' : Shared} (a : SG s s') (b : SG s' s'') : SG s s'' := ⟨b.1.trans a.1, fun h => b.2 (a.2 h)⟩
theorem SG.ht {s s' s'' : Shared} (a : SG s s') (b : HT s' s'') : SG s s'' := by
  obtain ⟨h, tk, rfl⟩ := b
  exact a
noncomputable def GI (w : World) (g : Heap) (Lg a : Addr) (k : Nat) (r : List (Nat × List Nat)) (s : Shared) (own : List (Addr × Obj)) : Prop :=
  ∃ gs, s.gens[k]? = some gs ∧ (∀ p ∈ own, Lg ≤ p.1) ∧ ((∃ e it, Lg < e ∧ Lg < it ∧ a ≠ e ∧ a ≠ it ∧ RY w g Lg e it r gs own) ∨ RF w g Lg r gs own)
noncomputable def GNext (w : World) (g : Heap) (L Lg a : Addr) (oa : Obj) (k : Nat) (m : Str → Option Value) (news : List (Addr × Obj)) (s : Shared) (Q : Option Value → Shared → Prop) : List (Nat × List Nat) → Prop
  | [] => ∀ s', SG s s' → Fr g L s'.heap m → News g L s'.heap news → Q none s'
  | (p, cs) :: r => ∀ s' T t1 t2 own', SG s s' → Fr g L s'.heap m → News g L s'.heap ((T, tupObj p t1 cs t2) :: (own' ++ (a, oa) :: news)) → GI w g Lg a k r s' own' → Q (some (.ref T)) s'
theorem set_get {gens : Array GenState} {k : Nat} {r gs x : GenState} (h : gens[k]? = some x) : ((gens.setIfInBounds k r).setIfInBounds k gs)[k]? = some gs := by
  have : k < gens.size := by
    by_cases hk : k < gens.size
    · exact hk
    · rw [Array.getElem?_eq_none (by omega)] at h; cases h
  simp [this]
theorem gen_next {w : World} {A : Around} {E : Value → Shared → Prop} {s : Shared} {g : Heap} {L Lg a : Addr} {k : Nat} {v1 v2 : Value} {m : Str → Option Value} {news own : List (Addr × Obj)} {r : List (Nat × List Nat)} {Q : Option Value → Shared → Prop}
    (hh : A.handled = none) (hl : g.NoLimit) (hroom : A.depth < recursionLimit) (hL : L < Lg) (ha : Lg < a) (hn : ∀ p ∈ news, p.1 < Lg)
    (F : Fr g L s.heap m) (N : News g L s.heap (own ++ (a, genObj k v1 v2) :: news)) (G : GI w g Lg a k r s own) (hQ : GNext w g L Lg a (genObj k v1 v2) k m news s Q r) :
    wpAny (model PR w) A (pyNext (.ref a)) Q E s := by
  obtain ⟨gs, hgs, hown, G⟩ := G
  have hga := N (a, genObj k v1 v2) (List.mem_append_right _ (.head _))
  have hx : Holds1 s.heap own := fun p hp => (N p (List.mem_append_left _ hp)).1
  obtain ⟨oL, es, ep, hoL, hdL, _⟩ := id F.ns
  have fresh : ∀ b, Lg ≤ b → g.get? b = none := fun b hb => Heap.get?_none_of_le (Nat.le_trans F.above (Nat.le_trans (Nat.le_of_lt hL) hb))
  have N' : News g Lg s.heap ((L, oL) :: (a, genObj k v1 v2) :: news) := fun p hp => by
    rcases List.mem_cons.mp hp with rfl | hp
    · exact ⟨hoL, Nat.ne_of_lt hL, Heap.get?_none_of_le F.above⟩
    rcases List.mem_cons.mp hp with rfl | hp
    · exact ⟨hga.1, Nat.ne_of_gt ha, hga.2.2⟩
    · have := N p (List.mem_append_right _ (List.mem_cons_of_mem _ hp))
      exact ⟨this.1, Nat.ne_of_lt (hn p hp), this.2.2⟩
  have back : ∀ (h' : Heap), Keeps g h' → News g Lg h' ((L, oL) :: (a, genObj k v1 v2) :: news) → Fr g L h' m ∧ News g L h' ((a, genObj k v1 v2) :: news) := fun h' kk N₁ =>
    ⟨fr_at F hoL (N₁ _ (.head _)).1 kk, fun p hp => ⟨(N₁ p (List.mem_cons_of_mem _ hp)).1, (N p (List.mem_append_right _ hp)).2⟩⟩
  have next : ∀ e it, Lg < e → Lg < it → a ≠ e → a ≠ it → NEXT w g Lg e it (s.setGen k .running) ((L, oL) :: (a, genObj k v1 v2) :: news) (NextEnd k Q) r := by
    intro e it he hi hae hai
    cases r with
    | nil =>
      intro h' tk' kk N₁
      refine ⟨rfl, fun h'' k2 => ?_⟩
      obtain ⟨F2, N2⟩ := back h' kk N₁
      exact hQ _ ⟨rfl, fun hb => bare_set hb rfl⟩ (F2.keeps k2) (fun p hp => (N2.grown k2) p (List.mem_cons_of_mem _ hp))
    | cons pc r =>
      obtain ⟨p, cs⟩ := pc
      intro h' tk' T t1 t2 own' l kk c ps fs ke N₁ ho hm hfs hR
      obtain ⟨F2, N2⟩ := back h' ke fun p hp => N₁ p (List.mem_cons_of_mem _ hp)
      have hbare : (false || fs.any Frame.guarded) = false := by rw [hfs]; rfl
      have hge : ∀ p ∈ own', Lg ≤ p.1 := fun p hp => by
        rcases hm p hp with e | e | e
        · rw [e]; exact Nat.le_refl _
        · rw [e]; exact Nat.le_of_lt he
        · rw [e]; exact Nat.le_of_lt hi
      have hT := N₁ _ (.head _)
      refine hQ _ T t1 t2 own' ⟨rfl, fun hb => bare_set hb (by show GenState.bare (.suspended _ _ _ _ _ (false || fs.any Frame.guarded)) = true; rw [hbare]; rfl)⟩ F2 (fun q hq => ?_) ⟨.suspended kk l c ps fs false, ?_, hge, .inl ⟨e, it, he, hi, hae, hai, hR⟩⟩
      · rcases List.mem_cons.mp hq with rfl | hq
        · refine ⟨hT.1, fun q => ?_, hT.2.2⟩
          have hLh := (N₁ _ (.tail _ (.head _))).1
          have e1 := hT.1
          rw [show T = L from q, hLh] at e1
          have e2 : oL = tupObj p t1 cs t2 := Option.some.inj e1
          rw [e2] at hdL
          cases hdL
        rcases List.mem_append.mp hq with hq | hq
        · exact ⟨ho q hq, Nat.ne_of_gt (Nat.lt_of_lt_of_le hL (hge q hq)), fresh _ (hge q hq)⟩
        · exact N2 q hq
      · show ((s.gens.setIfInBounds k .running).setIfInBounds k (.suspended kk l c ps fs (false || fs.any Frame.guarded)))[k]? = _
        rw [hbare]
        exact set_get hgs
  refine pyNext_gen (g := k) (gs := gs) hh (hl.keeps F.keep) hroom ⟨_, v1, v2, hga.1, rfl, rfl, rfl⟩ hgs ?_
  rcases G with ⟨e, it, he, hi, hae, hai, hR⟩ | hR
  · refine hR.use w g Lg e it (A := A.in1) hh hx F.keep N' (fun p hp => ?_) (next e it he hi hae hai)
    rcases List.mem_cons.mp hp with rfl | hp
    · exact ⟨Nat.ne_of_lt (Nat.lt_trans hL he), Nat.ne_of_lt (Nat.lt_trans hL hi)⟩
    rcases List.mem_cons.mp hp with rfl | hp
    · exact ⟨hae, hai⟩
    · exact ⟨Nat.ne_of_lt (Nat.lt_trans (hn p hp) he), Nat.ne_of_lt (Nat.lt_trans (hn p hp) hi)⟩
  · refine hR A.in1 (s.setGen k .running) _ _ hh hx F.keep N' fun e it off he hi => next e it he hi ?_ ?_
    · exact Nat.ne_of_lt (off _ (.tail _ (.head _))).1
    · exact Nat.ne_of_lt (off _ (.tail _ (.head _))).2
end Mine
end Part20x
section Part21x
open PySem PySem.W PySem.W.X PyProof.Rows PyProof.Rows.LCg PySem.Spec PySem.Calls
set_option Elab.async false
set_option maxRecDepth 100000
set_option maxHeartbeats 2000000
namespace Mine
noncomputable def GEnd (h₀ : Heap) (L Lg a : Addr) (oa : Obj) (s' : Shared) (own : List (Addr × Obj)) (J : (Str → Option Value) → List (Addr × Obj) → Prop) (Q : Flow → Shared → Prop) (f : Flow) (s : Shared) : Prop :=
  match f with
  | .brk => Q .next s
  | .ret v => Q (.ret v) s
  | _ => ∃ m news, HT s' s ∧ Fr h₀ L s.heap m ∧ News h₀ L s.heap (own ++ (a, oa) :: news) ∧ (∀ q ∈ news, q.1 < Lg) ∧ J m news
noncomputable def GTurns (w : World) (A : Around) (h₀ : Heap) (L : Addr) (env : Env) (xi xc : Str) (body : List Stmt) (Q : Flow → Shared → Prop) (E : Value → Shared → Prop) (s : Shared) (Lg a : Addr) (oa : Obj) (J : List (Nat × List Nat) → (Str → Option Value) → List (Addr × Obj) → Prop) : Prop :=
  ∀ p cs r m news s' own t1 t2, SG s s' → J ((p, cs) :: r) m news → (∀ q ∈ news, q.1 < Lg) → (∀ q ∈ own, Lg ≤ q.1) → Fr h₀ L s'.heap (fun y => if y = xc then some (.str (S cs) t2) else if y = xi then some (.int (p : Nat) t1) else m y) →
    News h₀ L s'.heap (own ++ (a, oa) :: news) → wpAny (model PR w) A (execs body env) (GEnd h₀ L Lg a oa s' own (J r) Q) E s'
noncomputable def GDone (h₀ : Heap) (L : Addr) (Q : Flow → Shared → Prop) (s : Shared) (J : List (Nat × List Nat) → (Str → Option Value) → List (Addr × Obj) → Prop) : Prop :=
  ∀ m news s', SG s s' → J [] m news → Fr h₀ L s'.heap m → News h₀ L s'.heap news → Q .next s'
noncomputable def GLoop (w : World) (A : Around) (h₀ : Heap) (L : Addr) (env : Env) (xi xc : Str) (body : List Stmt) (Q : Flow → Shared → Prop) (E : Value → Shared → Prop) (xv : Value) (s : Shared) : Prop :=
  ∃ (Lg a : Addr) (k : Nat) (v1 v2 : Value) (r : List (Nat × List Nat)) (own : List (Addr × Obj)) (m : Str → Option Value) (news : List (Addr × Obj)) (J : List (Nat × List Nat) → (Str → Option Value) → List (Addr × Obj) → Prop),
    xv = .ref a ∧ A.handled = none ∧ h₀.NoLimit ∧ A.depth < recursionLimit ∧ L < Lg ∧ Lg < a ∧ (∀ p ∈ news, p.1 < Lg) ∧ Fr h₀ L s.heap m ∧ News h₀ L s.heap (own ++ (a, genObj k v1 v2) :: news) ∧ GI w h₀ Lg a k r s own ∧ J r m news ∧
    GTurns w A h₀ L env xi xc body Q E s Lg a (genObj k v1 v2) J ∧ GDone h₀ L Q s J
section
variable {w : World} {A : Around} {h₀ : Heap} {L : Addr} {env : Env} {xi xc : Str} {pk pv pt pos : Pos} {x1 : Nat} {iter : Expr} {body : List Stmt} {Q : Flow → Shared → Prop} {E : Value → Shared → Prop} {m : Str → Option Value} {s : Shared}
theorem go_gen {elts : List Expr} {a T : Addr} {k : Nat} {v1 v2 : Value} {Q : Unit → Shared → Prop} (hg : s.heap.get? a = some (genObj k v1 v2)) (hQ : Q () s) : wpAny (model PR w) A (letOwnedTupleGo (.Tuple elts x1 pos) (.ref a) (.ref T)) Q E s := by
  unfold letOwnedTupleGo
  refine wpAny_bind (wpAny_load hg ?_)
  exact wpAny_pure hQ
theorem For_gen (_F₀ : Fr h₀ L s.heap m) (hxi : env.kindOf xi = some .local) (hxc : env.kindOf xc = some .local) (hp : (env.scope.kind == .class || (env.scope.kind == .module && env.locals != env.globals)) = false) (hL : env.locals = L)
    (h : wpAny (model PR w) A (eval iter env) (GLoop w A h₀ L env xi xc body Q E) E s)
    (hs : ∀ x, foldedSetIterable iter env x = pure x := by intro _; rfl) (hE : PassesOwn (model PR w) A env E := by passes_own) :
    wpAny (model PR w) A (exec (.For (.Tuple [.Name xi pk, .Name xc pv] x1 pt) iter body [] pos) env) Q E s := by
  refine wpAny_For (wpAny_mono h (fun xv s₁ h₁ => ?_) fun _ _ e => e) hs
  obtain ⟨Lg, a, k, v1, v2, r, own, m, news, J, rfl, hh, hl, hroom, hLg, hga, hn, F, N, G, hJ, turn, done⟩ := h₁
  refine wpAny_pyIter_gen (g := k) ⟨_, v1, v2, (N _ (List.mem_append_right _ (.head _))).1, rfl, rfl, rfl⟩ ?_
  refine codeAny_forLoop_any (fun n s' => ∃ r own m news, n = r.length ∧ SG s₁ s' ∧ (∀ p ∈ news, p.1 < Lg) ∧ Fr h₀ L s'.heap m ∧ News h₀ L s'.heap (own ++ (a, genObj k v1 v2) :: news) ∧ GI w h₀ Lg a k r s' own ∧ J r m news) ?_ r.length ⟨r, own, m, news, rfl, SG.refl, hn, F, N, G, hJ⟩
  clear hJ G N F hn m news own r
  rintro n s' ⟨r, own, m, news, rfl, hsg, hn, F, N, G, hJ⟩
  refine gen_next hh hl hroom hLg hga hn F N G ?_
  cases r with
  | nil =>
    intro s₂ hsg₂ F₂ N₂
    exact wpAny_execs_nil (done m news s₂ (hsg.trans hsg₂) hJ F₂ N₂)
  | cons pc r =>
    obtain ⟨p, cs⟩ := pc
    intro s₂ T t1 t2 own' hsg₂ F₂ N₂ G₂
    have N₂' : News h₀ L s₂.heap (own' ++ (a, genObj k v1 v2) :: news) := fun q hq => N₂ q (List.mem_cons_of_mem _ hq)
    refine go_gen (N₂' _ (List.mem_append_right _ (.head _))).1 ?_
    have hT : s₂.heap.get? T = some (tupObj p t1 cs t2) := (N₂ _ (.head _)).1
    refine wpAny_assign_Tuple hh (items := #[.int p t1, .str (S cs) t2]) ⟨_, hT, rfl, _, rfl⟩ rfl rfl fun h₃ hx₃ => ?_
    have up₃ : ∀ b o, s₂.heap.get? b = some o → h₃.get? b = some o := fun b o x => hx₃ b o (Nat.ne_of_lt (Heap.lt_size x)) x
    have F₃ := F₂.keeps up₃
    have N₃ := N₂'.grown up₃
    show wpAny _ _ (do holding [_] (assign (.Name xi pk) env _); do holding [] (assign (.Name xc pv) env _); pure ()) _ _ _
    subst hL
    refine wpAny_bind (wpAny_holding (wpAny_assign_Name (wpAny_storeName_local hxi F₃.ns (fun h₄ hn₄ hs₄ => ?_) hp)))
    replace hs₄ : Heap.SameBut env.locals h₃ h₄ := hs₄
    have F₄ := F₃.set hn₄ hs₄
    refine wpAny_bind (wpAny_holding (wpAny_assign_Name (wpAny_storeName_local hxc F₄.ns (fun h₅ hn₅ hs₅ => wpAny_pure ?_) hp)))
    replace hs₅ : Heap.SameBut env.locals h₄ h₅ := hs₅
    have F₅ := F₄.set hn₅ hs₅
    have N₅ : News h₀ env.locals h₅ (own' ++ (a, genObj k v1 v2) :: news) := (N₃.set hs₄).set hs₅
    obtain ⟨gs₂, hg₂, hown, G₂⟩ := G₂
    refine wpAny_passesOwn hE (wpAny_mono (turn p cs r m news { s₂ with heap := h₅, toks := _ } own' t1 t2 (hsg.trans hsg₂) hJ hn hown F₅ N₅) (fun f s₃ h₃ => ?_) fun _ _ e => e)
    have next : (∃ m news, HT { s₂ with heap := h₅, toks := s₂.toks + 1 + 1 } s₃ ∧ Fr h₀ env.locals s₃.heap m ∧ News h₀ env.locals s₃.heap (own' ++ (a, genObj k v1 v2) :: news) ∧ (∀ q ∈ news, q.1 < Lg) ∧ J r m news) →
        ∃ n', n' < ((p, cs) :: r).length ∧ ∃ r own m news, n' = r.length ∧ SG s₁ s₃ ∧ (∀ p ∈ news, p.1 < Lg) ∧ Fr h₀ env.locals s₃.heap m ∧ News h₀ env.locals s₃.heap (own ++ (a, genObj k v1 v2) :: news) ∧ GI w h₀ Lg a k r s₃ own ∧ J r m news := by
      rintro ⟨m, news, ht, F, N, hn, hJ⟩
      refine ⟨r.length, Nat.lt_succ_self _, r, own', m, news, rfl, (hsg.trans hsg₂).ht (s' := { s₂ with heap := h₅, toks := s₂.toks + 1 + 1 }) ht, hn, F, N, ⟨gs₂, ?_, hown, G₂⟩, hJ⟩
      obtain ⟨_, _, rfl⟩ := ht
      exact hg₂
    cases f with
    | next => exact next h₃
    | cont => exact next h₃
    | brk => exact h₃
    | ret v => exact h₃
end
end Mine
end Part21x
section Part22x
open PySem PySem.W PySem.W.X PyProof.Rows PyProof.Rows.LCg PySem.Spec PySem.Calls
set_option Elab.async false
set_option maxRecDepth 100000
set_option maxHeartbeats 2000000
namespace Mine
local macro_rules | `(tactic| walk_at "MINE none") => `(tactic| skip)
noncomputable abbrev ClaimG (w : World) (mean : ExcName → Option Value) (mg mb : Str → Option Value) (f : Addr) (need : Nat) (vs : List Value) (R : Tok → Value) : Prop :=
  ∀ (dp un : Nat) (gd : Option (List Code)) (cn : Str) (cs : Scope) (a : Addr) (ccd : Value) (cl : List (Str × Addr)) (outer : List Env) (A₀ : Around) (base h₀ : Heap) (L : Addr) (m : Str → Option Value) (s : Shared) (Q E : Value → Shared → Prop),
    Below A₀ base outer h₀ → Fr h₀ L s.heap m → (hd.heap_39 w.params).In h₀ → Top hd.view_39 (looseW hd.view_39 []) mean mg mb h₀ → cs.kind = .function →
    dp + need < recursionLimit → un + 8 * need < cLine → (∀ t s', Keeps s.heap s'.heap → SG s s' → Q (R t) s') →
      wpAny (model Challenge.rw_wb0029_01.row.prog w) (ktrTop dp un gd cn cs L a ccd cl outer) (call (.ref f) vs) Q E s
noncomputable def stripLoop (x : List Nat) : List (Nat × List Nat) → Nat → Option Nat → List (List Nat) → Nat × List (List Nat)
  | [], st, _, acc => (st, acc)
  | (p, cs) :: r, st, op, acc => if (cs == [34]) = true then (match op with
      | none => stripLoop x r st (some p) acc
      | some o => stripLoop x r (p + 1) none (if st = o then acc else acc ++ [(x.take o).drop st])) else stripLoop x r st op acc
noncomputable def stripEnd (x : List Nat) (y : Nat × List (List Nat)) : List Nat := (if y.1 < x.length then y.2 ++ [x.drop y.1] else y.2).flatten
noncomputable def stripF (x : List Nat) : List Nat := stripEnd x (stripLoop x (itemsF x 0 false) 0 none [])
theorem upd_last {D a : Addr} {o oa : Obj} (ha : a ≠ D) (o' : Obj) : ∀ {own : List (Addr × Obj)}, (∀ p ∈ own, p.1 ≠ D) → Upd D o o' (own ++ (a, oa) :: [(D, o)]) (own ++ (a, oa) :: [(D, o')])
  | [], _ => .tail ha (.head fun _ h => nomatch h)
  | p :: r, h => .tail (h p (.head _)) (upd_last ha o' fun q hq => h q (.tail _ hq))
noncomputable def opV : Option Nat → Value → Prop
  | none, v => v = .none
  | some o, v => ∃ t, v = .int (o : Nat) t
inductive SJ (x : Str) (t : Tok) (D : Addr) (r : List (Nat × List Nat)) (m₁ : Str → Option Value) (n₁ : List (Addr × Obj)) : Prop
  | mk (st : Nat) (op : Option Nat) (vo : Value) (l : List (Str × Tok)) (acc : List (List Nat)) (n : Nat) (ts : Tok) (h0 : m₁ "addr" = some (.str x t)) (h1 : m₁ "start" = some (.int st ts)) (h2 : m₁ "open_pos" = some vo) (h3 : opV op vo) (h4 : m₁ "result" = some (.ref D)) (h5 : n₁ = [(D, lo l n)]) (h6 : l.map (·.1) = acc.map S) (h7 : stripLoop x.cps.toList r st op acc = stripLoop x.cps.toList (itemsF x.cps.toList 0 false) 0 none []) (h8 : acc.length + r.length ≤ 2000) (h9 : (∀ y ∈ acc, y.length ≤ 1000)) (h10 : (∀ q ∈ r, q.1 ≤ 1000)) (h11 : st ≤ 1001) (h12 : (∀ o, op = some o → o ≤ 1000)) : SJ x t D r m₁ n₁
theorem items_bound : ∀ (x : List Nat) (i : Nat) (esc : Bool), (itemsF x i esc).length ≤ x.length + 1 ∧ ∀ q ∈ itemsF x i esc, q.1 ≤ i + x.length ∧ q.2.length ≤ 2
  | [], i, true => ⟨Nat.le_refl _, fun q hq => by rw [List.mem_singleton.mp hq]; exact ⟨by show i - 1 ≤ i + 0; omega, by show 1 ≤ 2; omega⟩⟩
  | [], _, false => ⟨Nat.zero_le _, fun q hq => nomatch hq⟩
  | c :: r, i, true => by
    obtain ⟨h1, h2⟩ := items_bound r (i + 1) false
    rw [itemsF]
    refine ⟨by simp only [List.length_cons]; omega, fun q hq => ?_⟩
    rcases List.mem_cons.mp hq with rfl | hq
    · exact ⟨Nat.le_add_right _ _, Nat.le_refl _⟩
    · have := h2 q hq; simp only [List.length_cons]; exact ⟨by omega, this.2⟩
  | c :: r, i, false => by
    rw [itemsF]
    split
    · obtain ⟨h1, h2⟩ := items_bound r (i + 1) true
      refine ⟨by simp only [List.length_cons]; omega, fun q hq => ?_⟩
      have := h2 q hq; simp only [List.length_cons]; exact ⟨by omega, this.2⟩
    · obtain ⟨h1, h2⟩ := items_bound r (i + 1) false
      refine ⟨by simp only [List.length_cons]; omega, fun q hq => ?_⟩
      rcases List.mem_cons.mp hq with rfl | hq
      · exact ⟨Nat.le_add_right _ _, by show 1 ≤ 2; decide⟩
      · have := h2 q hq; simp only [List.length_cons]; exact ⟨by omega, this.2⟩
section
variable {prog : Program} {w : World} {A : Around} {E : Value → Shared → Prop} {s : Shared} {h₀ : Heap} {L D : Addr} {m : Str → Option Value} {news news' : List (Addr × Obj)}
theorem append_lo {l : List (Str × Tok)} {n : Nat} {x : Str} {t : Tok} {Q : Value → Shared → Prop} (F : Fr h₀ L s.heap m) (N : News h₀ L s.heap news) (U : Upd D (lo l n) (lo (l ++ [(x, t)]) (n + 1)) news news')
    (hsz : l.length ≤ 5000) (h : ∀ h', Fr h₀ L h' m → News h₀ L h' news' → Q .none { s with heap := h' }) : wpAny (model prog w) A (call (.builtin "list.append") [.ref D, .str x t]) Q E s := by
  refine append_K (its := (strValues l).toArray) (n := n) F N ?_ h (by rw [sizeLine_eq]; simp [strValues]; omega)
  have e : (strValues (l ++ [(x, t)])).toArray = (strValues l).toArray.push (.str x t) := by simp [strValues]
  rw [← e]; exact U
end
theorem cq (c : List Nat) : (S c == Str.ofString "\"") = (c == [34]) := by rw [q_is, S_beq]
section
variable {prog : Program} {w : World} {A : Around} {E : Value → Shared → Prop} {s : Shared} {h₀ : Heap} {L D : Addr} {m : Str → Option Value} {news news' : List (Addr × Obj)}
theorem sum_bound {ls : List (List Nat)} (h : ∀ y ∈ ls, y.length ≤ 1000) : ((ls.map S).map (·.length)).sum ≤ ls.length * 1000 := by
  induction ls with
  | nil => simp
  | cons a r ih =>
    have h1 := h a (.head _)
    have h2 := ih fun y hy => h y (.tail _ hy)
    simp only [List.map_cons, List.sum_cons, List.length_cons, S_len]
    omega
theorem strip_fin {l : List (Str × Tok)} {n : Nat} {acc : List (List Nat)} {tk : Tok} {Q : Value → Shared → Prop} (N : News h₀ L s.heap [(D, lo l n)]) (el : l.map (·.1) = acc.map S) (hl : acc.length ≤ 3000) (hacc : ∀ y ∈ acc, y.length ≤ 1000)
    (h : ∀ t k, Q (.str (S acc.flatten) t) { s with toks := k }) : wpAny (model prog w) A (call (.builtin "str.join") [.str (Str.ofString "") tk, .ref D]) Q E s := by
  refine SC.join (News.isList N (.head _)) el (joinOk_of ?_) ?_
  · have := sum_bound hacc
    have h0 : (Str.ofString "").length = 0 := by rw [e_is, S_len]; rfl
    rw [h0]; omega
  · intro t k
    rw [join_S]
    exact h t k
end
local macro_rules | `(tactic| walk_at "exec For") => `(tactic| (k_here; k_dflt (refine wpAny_noRaise ?_; refine For_gen (by k_asm) (by rfl) (by rfl) (by rfl) (by rfl) ?_)))
local macro_rules | `(tactic| walk_at "call ref") => `(tactic| (k_here; (with_reducible show wpAny _ _ (call (Value.ref 60) [Value.str _ _]) _ _ _); refine halt ?_))
local macro_rules | `(tactic| walk_at "call builtin:str.join") => `(tactic| (k_here; refine halt ?_))
local macro_rules | `(tactic| walk_at "call builtin:list.append") => `(tactic| (k_here; refine halt ?_))
theorem strip_loop (w : World) {A : Around} {g : Heap} {L a : Addr} {cd : Value} {qn : Str} {mean mg mb} {m : Str → Option Value} {s : Shared} {Q E} {x : Str} {t ts : Tok} {D : Addr} (hA : A.handled = none) (hroom : A.depth < recursionLimit)
   (X : (hd.heap_39 w.params).In g) (T : Top hd.view_39 (looseW hd.view_39 []) mean mg mb g) (F : Fr g L s.heap m) (N : News g L s.heap [(D, lo [] 0)]) (h1 : x.length ≤ 1000) (ha : x.cps.all (· < 128) = true)
   (e1 : m "addr" = some (.str x t)) (e2 : m "start" = some (.int 0 ts)) (e3 : m "open_pos" = some .none) (e4 : m "result" = some (.ref D))
   (hQ : ∀ t s', Keeps g s'.heap → SG s s' → Q (.ret (.str (S (stripF x.cps.toList)) t)) s') :
   wpAny (model Challenge.rw_wb0029_01.row.prog w) A (execs ((bodyOf (topStmt 9)).drop 4) (envOf qn (scopeOf (topStmt 9)) L a cd)) Q E s := by
  revert X
  k_fill
  intro X
  replace F := fr_eq (put_eq e1 (put_eq e2 (put_eq e3 (put_eq e4 rfl)))) F
  refine wpAny_noRaise ?_
  k_dflt (show wpAny _ A (execs (_ :: _) _) _ _ _)
  k_steps
  refine Halt.out ?_
  k_dflt (refine gen_new w F X T hroom ha ?_)
  intro Lg ag h₂ tk₂ v1 v2 oL gs k₂ hlt hle hoL hga hb hRF
  refine ⟨Lg, ag, s.gens.size, v1, v2, _, _, _, [(D, lo [] 0)], SJ x t D, rfl, hA, T.nolimit, hroom, ?_, hlt, ?_, F.keeps k₂, ?_, ⟨gs, ?_, ?_, .inr hRF⟩, ?_, ?_, ?_⟩
  · exact Nat.lt_of_lt_of_le F.ns.lt hle
  · intro p hp; exact Nat.lt_of_lt_of_le (Heap.lt_size (N p hp).1) hle
  · intro p hp
    have hf : ∀ b, Lg ≤ b → b ≠ L ∧ g.get? b = none := fun b hb => by
      have : L < b := Nat.lt_of_lt_of_le (Nat.lt_of_lt_of_le F.ns.lt hle) hb
      exact ⟨Nat.ne_of_gt this, Heap.get?_none_of_le (Nat.le_trans F.above (Nat.le_of_lt this))⟩
    rcases List.mem_cons.mp hp with rfl | hp
    · exact ⟨hoL, hf _ (Nat.le_refl _)⟩
    rcases List.mem_cons.mp hp with rfl | hp
    · exact ⟨hga, hf _ (Nat.le_of_lt hlt)⟩
    · exact (N.grown k₂) p hp
  · show (s.gens.push gs)[s.gens.size]? = _
    simp
  · intro p hp; rw [List.mem_singleton.mp hp]; exact Nat.le_refl _
  · obtain ⟨b1, b2⟩ := items_bound x.cps.toList 0 false
    have hl : x.cps.toList.length ≤ 1000 := by rw [← len_eq]; exact h1
    refine ⟨0, none, .none, [], [], 0, _, rfl, rfl, rfl, rfl, rfl, rfl, rfl, rfl, by simp only [List.length_nil]; omega, (fun y hy => nomatch hy), (fun q hq => by have := b2 q hq; omega), by omega, (fun o h => nomatch h)⟩
  · rintro p c r m₁ n₁ s₁ own t1 t2 hsg ⟨st, op, vo, l, acc, n, ts, e1, e2, e3, ho, e4, rfl, el, eq, hlen, hacc, hr, hst, hop⟩ hn hown F₁ N₁
    replace F₁ := fr_eq (put_in (put_in (put_eq e1 (put_eq e2 (put_eq e3 (put_eq e4 rfl)))))) F₁
    clear F N
    have hDa : ∀ q ∈ own, q.1 ≠ D := fun q hq => Nat.ne_of_gt (Nat.lt_of_lt_of_le (hn _ (.head _)) (hown q hq))
    have hDg : ag ≠ D := Nat.ne_of_gt (Nat.lt_trans (hn _ (.head _)) hlt)
    have hU : ∀ o', Upd D (lo l n) o' (own ++ (ag, genObj s.gens.size v1 v2) :: [(D, lo l n)]) (own ++ (ag, genObj s.gens.size v1 v2) :: [(D, o')]) := fun o' => upd_last hDg o' hDa
    have hm : (D, lo l n) ∈ own ++ (ag, genObj s.gens.size v1 v2) :: [(D, lo l n)] := by simp
    cases op with
    | none =>
      obtain rfl := ho
      rw [stripLoop] at eq
      k_steps
      · dsimp only [GEnd]
        rename (S c == _) = true => hc
        rw [cq] at hc
        rw [if_pos hc] at eq
        exact ⟨_, _, HT.mk, by assumption, by assumption, hn, st, some p, _, l, acc, n, _, rfl, rfl, rfl, ⟨_, rfl⟩, rfl, rfl, el, eq, by simp only [List.length_cons] at hlen; omega, hacc, fun q hq => hr q (.tail _ hq), hst, fun o h => by cases h; exact hr _ (.head _)⟩
      · dsimp only [GEnd]
        rename (S c == _) = false => hc
        rw [cq] at hc
        rw [if_neg (by rw [hc]; decide)] at eq
        exact ⟨_, _, HT.mk, by assumption, by assumption, hn, st, none, _, l, acc, n, _, rfl, rfl, rfl, rfl, rfl, rfl, el, eq, by simp only [List.length_cons] at hlen; omega, hacc, fun q hq => hr q (.tail _ hq), hst, fun o h => nomatch h⟩
    | some o =>
      obtain ⟨to, rfl⟩ := ho
      rw [stripLoop] at eq
      have ho' := hop o rfl
      have hp' := hr _ (.head _)
      have hll : l.length = acc.length := by have := congrArg List.length el; simpa using this
      k_steps
      · rename (S c == _) = true => hc
        rename (_ : Int) ≠ _ => hne
        rw [cq] at hc
        rw [if_pos hc, if_neg (fun h => hne (by rw [h]))] at eq
        refine Halt.out (append_lo (by assumption) (by assumption) (hU _) (by simp only [List.length_cons] at hlen; omega) ?_)
        intro h' F' N'
        k_steps
        dsimp only [GEnd]
        refine ⟨_, _, HT.mk, by assumption, by assumption, fun q hq => ?_, p + 1, none, _, _, acc ++ [(x.cps.toList.take o).drop st], n + 1, _, rfl, rfl, rfl, rfl, rfl, rfl, ?_, eq, by simp only [List.length_cons, List.length_append, List.length_nil] at hlen ⊢; omega, ?_, fun q hq => hr q (.tail _ hq), ?_, fun o h => nomatch h⟩
        · rw [List.mem_singleton.mp hq]; exact hn (D, lo l n) (.head _)
        · rw [List.map_append, el, List.map_append, slice_S, slF_ft]; rfl
        · intro y hy
          rcases List.mem_append.mp hy with hy | hy
          · exact hacc y hy
          · rw [List.mem_singleton.mp hy, List.length_drop, List.length_take]; omega
        · show p + 1 ≤ 1001
          have : p ≤ 1000 := hp'
          omega
      · rename (S c == _) = true => hc
        rename (_ : Int) = _ => hne
        rw [cq] at hc
        rw [if_pos hc, if_pos (by omega)] at eq
        dsimp only [GEnd]
        refine ⟨_, _, HT.mk, by assumption, by assumption, hn, p + 1, none, _, l, acc, n, _, rfl, rfl, rfl, rfl, rfl, rfl, el, eq, by simp only [List.length_cons] at hlen; omega, hacc, fun q hq => hr q (.tail _ hq), ?_, fun o h => nomatch h⟩
        show p + 1 ≤ 1001
        have : p ≤ 1000 := hp'
        omega
      · dsimp only [GEnd]
        rename (S c == _) = false => hc
        rw [cq] at hc
        rw [if_neg (by rw [hc]; decide)] at eq
        exact ⟨_, _, HT.mk, by assumption, by assumption, hn, st, some o, _, l, acc, n, _, rfl, rfl, rfl, ⟨_, rfl⟩, rfl, rfl, el, eq, by simp only [List.length_cons] at hlen; omega, hacc, fun q hq => hr q (.tail _ hq), hst, hop⟩
  · rintro m₁ n₁ s₁ hsg ⟨st, op, vo, l, acc, n, ts, e1, e2, e3, ho, e4, rfl, el, eq, hlen, hacc, hr, hst, hop⟩ F₁ N₁
    replace F₁ := fr_eq (put_eq e1 (put_eq e2 (put_eq e3 (put_eq e4 rfl)))) F₁
    clear F N
    have hU : ∀ o', Upd D (lo l n) o' [(D, lo l n)] [(D, o')] := fun o' => .head (fun _ h => nomatch h)
    have hll : l.length = acc.length := by have := congrArg List.length el; simpa using this
    have hsg0 : SG s s₁ := ⟨hsg.1, fun hb0 => hsg.2 (AllBare.push hb0 hb)⟩
    rw [stripLoop] at eq
    simp only [List.length_nil] at hlen
    k_steps
    · rename (_ : Int) < _ => hlt
      refine Halt.out (append_lo (by assumption) (by assumption) (hU _) (by omega) ?_)
      intro h' F' N'
      k_steps
      have hsx : st < x.cps.toList.length := by rw [← len_eq]; omega
      have hx1 : x.cps.toList.length ≤ 1000 := by rw [← len_eq]; exact h1
      refine Halt.out (strip_fin (acc := acc ++ [x.cps.toList.drop st]) (by assumption) ?_ ?_ ?_ ?_)
      · rw [List.map_append, el, List.map_append, slice_S, slF_from]; rfl
      · rw [List.length_append]; show acc.length + 1 ≤ 3000; omega
      · intro y hy
        rcases List.mem_append.mp hy with hy | hy
        · exact hacc y hy
        · rw [List.mem_singleton.mp hy, List.length_drop]; exact Nat.le_trans (Nat.sub_le _ _) hx1
      · intro t k
        have e : (acc ++ [x.cps.toList.drop st]).flatten = stripF x.cps.toList := by
          unfold stripF stripEnd
          rw [← eq]
          dsimp only
          rw [if_pos hsx]
        rw [e]
        rename Fr _ _ _ _ => F₂
        exact hQ t _ F₂.keep (hsg0.ht HT.mk)
    · rename ¬ (_ : Int) < _ => hlt
      have hsx : ¬ st < x.cps.toList.length := by rw [← len_eq]; omega
      refine Halt.out (strip_fin (acc := acc) N₁ el (by omega) hacc ?_)
      intro t k
      have e : acc.flatten = stripF x.cps.toList := by
        unfold stripF stripEnd
        rw [← eq]
        dsimp only
        rw [if_neg hsx]
      rw [e]
      exact hQ t _ F₁.keep (hsg0.ht HT.mk)
local macro_rules | `(tactic| walk_at "execs cons") => `(tactic| (k_here; (with_reducible show wpAny _ _ (execs (Stmt.For _ _ _ _ _ :: _) _) _ _ _); refine halt ?_))
theorem items_no : ∀ (l : List Nat) (i : Nat) (esc : Bool), (∀ c ∈ l, c ≠ 34) → ∀ q ∈ itemsF l i esc, (q.2 == [34]) = false
  | [], i, true, _ => fun q hq => by rw [List.mem_singleton.mp hq]; rfl
  | [], _, false, _ => fun q hq => nomatch hq
  | c :: r, i, true, h => fun q hq => by
    rw [itemsF] at hq
    rcases List.mem_cons.mp hq with rfl | hq
    · exact beq_eq_false_iff_ne.mpr fun e => by simp at e
    · exact items_no r (i + 1) false (fun c hc => h c (.tail _ hc)) q hq
  | c :: r, i, false, h => fun q hq => by
    rw [itemsF] at hq
    split at hq
    · exact items_no r (i + 1) true (fun c hc => h c (.tail _ hc)) q hq
    · rcases List.mem_cons.mp hq with rfl | hq
      · exact beq_eq_false_iff_ne.mpr fun e => h c (.head _) (by simpa using e)
      · exact items_no r (i + 1) false (fun c hc => h c (.tail _ hc)) q hq
theorem loop_no (x : List Nat) : ∀ (r : List (Nat × List Nat)) (st : Nat) (op : Option Nat) (acc : List (List Nat)), (∀ q ∈ r, (q.2 == [34]) = false) → stripLoop x r st op acc = (st, acc)
  | [], _, _, _, _ => rfl
  | (p, c) :: r, st, op, acc, h => by
    have ih := loop_no x r st op acc fun q hq => h q (.tail _ hq)
    cases op <;> rw [stripLoop, if_neg (by rw [h _ (.head _)]; decide)] <;> exact ih
theorem stripF_no {x : List Nat} (h : ∀ c ∈ x, c ≠ 34) : stripF x = x := by
  unfold stripF stripEnd
  rw [loop_no x _ 0 none [] (items_no x 0 false h)]
  dsimp only
  split
  · simp
  · have : x = [] := List.length_eq_zero_iff.mp (by omega)
    rw [this]; rfl
theorem strip_no {x : Str} (h : (Builtin.Str.occurrences x (Str.ofString "\"") 0 x.length 1).isEmpty = true) : stripF x.cps.toList = x.cps.toList := by
  refine stripF_no fun c hc he => ?_
  obtain ⟨i, hi, e⟩ := List.mem_iff_getElem.mp hc
  have hs : (!(Builtin.Str.occurrences x (Str.ofString "\"") 0 x.length 1).isEmpty) = true := by
    refine (StrLaws.found_iff x _).mpr ⟨i, ?_, ?_⟩
    · rw [q_is, S_len, len_eq]; exact hi
    · unfold Builtin.Str.subAt
      have h1 : (Str.ofString "\"").cps = #[34] := by rw [q_is]; rfl
      have h2 : (Str.ofString "\"").length = 1 := by rw [q_is]; rfl
      rw [h1, h2]
      have h3 : x.cps.extract i (i + 1) = #[34] := by
        apply Array.toList_inj.mp
        rw [Array.toList_extract, List.extract, Nat.add_sub_cancel_left, drop_cons hi]
        simp only [List.take_succ_cons, List.take_zero]
        rw [List.getD_eq_getElem?_getD, List.getElem?_eq_getElem hi, e, he]; rfl
      rw [h3]; rfl
  rw [h] at hs; cases hs
theorem strip_ok (w : World) (mean : ExcName → Option Value) (mg mb : Str → Option Value) (x : Str) (t : Tok) (h1 : x.length ≤ 1000) (ha : x.cps.all (· < 128) = true) :
   ClaimG w mean mg mb 67 1 [Value.str x t] (fun t => Value.str (S (stripF x.cps.toList)) t) := by
  dsimp only [ClaimG]
  k_fill
  intro dp un gd cn cs a ccd cl outer A₀ base h₀ L m s Q E B0 F00 X0 T0 hk0 hd0 hu0 hret
  refine wpAny_call ?_
  k_dflt (walk_at "MINE enter")
  intro L' h₁ F1 N1 B1 X1 T1
  have hF1 : Keeps s.heap h₁ := F1.keep
  clear F00 B0 X0 T0
  (try dsimp only)
  (try k_fold)
  k_steps
  · rename (Builtin.Str.occurrences _ _ _ _ _).isEmpty = true => hno
    dsimp only
    rw [strip_no hno, S_of] at hret
    rename Fr _ _ _ _ => F2
    exact hret _ _ F2.keep SG.refl
  · refine Halt.out ?_
    refine strip_loop w rfl (by ktr_room) X1 T1 (by assumption) (by assumption) h1 ha rfl rfl rfl rfl ?_
    intro t s' k g
    dsimp only
    exact hret t s' k g
end Mine
end Part22x
section Part23x
open PySem PySem.W PySem.W.X PyProof.Rows PyProof.Rows.LCg PySem.Spec PySem.Calls
set_option Elab.async false
set_option maxRecDepth 100000
set_option maxHeartbeats 2000000
namespace Mine
local macro_rules | `(tactic| walk_at "MINE none") => `(tactic| skip)
local macro_rules | `(tactic| walk_at "MINE none") => `(tactic| skip)
local macro_rules | `(tactic| walk_at "MINE none") => `(tactic| skip)
local macro_rules | `(tactic| walk_at "MINE none") => `(tactic| skip)
local macro_rules | `(tactic| walk_at "MINE none") => `(tactic| skip)
local macro_rules | `(tactic| walk_at "MINE none") => `(tactic| skip)
local macro_rules | `(tactic| walk_at "MINE none") => `(tactic| skip)
theorem use_claimG {w : World} {mean mg mb} {f : Addr} {need : Nat} {vs : List Value} {R : Tok → Value} {dp un : Nat} {gd : Option (List Code)} {cn : Str} {cs : Scope} {a : Addr} {ccd : Value} {cl : List (Str × Addr)} {outer : List Env} {A₀ : Around} {base h₀ : Heap} {L : Addr} {m : Str → Option Value} {s : Shared} {Q E : Value → Shared → Prop}
   (C : ClaimG w mean mg mb f need vs R) (B : Below A₀ base outer h₀) (F : Fr h₀ L s.heap m) (X : (KK w).In h₀) (T : TopX mean mg mb h₀) (hk : cs.kind = .function)
   (hd : dp + need < recursionLimit) (hu : un + 8 * need < cLine) (hQ : ∀ t s', Keeps s.heap s'.heap → SG s s' → Q (R t) s') :
   wpAny (model PR w) (ktrTop dp un gd cn cs L a ccd cl outer) (call (.ref f) vs) Q E s := C dp un gd cn cs a ccd cl outer A₀ base h₀ L m s Q E B F X T hk hd hu hQ
noncomputable def checkLoop : List (Nat × List Nat) → Int → Bool
  | [], n => n == 0
  | (_, cs) :: r, n => if (cs == [40]) = true then checkLoop r (n + 1) else if (cs == [41]) = true then (if n - 1 < 0 then false else checkLoop r (n - 1)) else checkLoop r n
noncomputable def checkF (x : List Nat) : Bool := checkLoop (itemsF (stripF x) 0 false) 0
theorem cq1 (c : List Nat) : (S c == Str.ofString "(") = (c == [40]) := by rw [show Str.ofString "(" = S [40] by decide +kernel, S_beq]
theorem cq2 (c : List Nat) : (S c == Str.ofString ")") = (c == [41]) := by rw [show Str.ofString ")" = S [41] by decide +kernel, S_beq]
local macro_rules | `(tactic| walk_at "exec For") => `(tactic| (k_here; k_dflt (refine wpAny_noRaise ?_; refine For_gen (by k_asm) (by rfl) (by rfl) (by rfl) (by rfl) ?_)))
local macro_rules | `(tactic| walk_at "call ref") => `(tactic| (k_here; (with_reducible show wpAny _ _ (call (Value.ref _) [Value.str _ _]) _ _ _); refine halt ?_))
inductive KJ (x : Str) (r : List (Nat × List Nat)) (m₁ : Str → Option Value) (n₁ : List (Addr × Obj)) : Prop
  | mk (n : Int) (tn : Tok) (h1 : m₁ "opens" = some (.int n tn)) (h2 : n₁ = []) (h3 : checkLoop r n = checkLoop (itemsF x.cps.toList 0 false) 0) : KJ x r m₁ n₁
theorem check_loop (w : World) {A : Around} {g : Heap} {L a : Addr} {cd : Value} {qn : Str} {mean mg mb} {m : Str → Option Value} {s : Shared} {Q E} {x : Str} {t ts : Tok} (hA : A.handled = none) (hroom : A.depth < recursionLimit)
   (X : (hd.heap_39 w.params).In g) (T : Top hd.view_39 (looseW hd.view_39 []) mean mg mb g) (F : Fr g L s.heap m) (ha : x.cps.all (· < 128) = true)
   (e1 : m "addr" = some (.str x t)) (e2 : m "opens" = some (.int 0 ts))
   (hQ : ∀ s', Keeps g s'.heap → SG s s' → Q (.ret (.bool (checkLoop (itemsF x.cps.toList 0 false) 0))) s') :
   wpAny (model Challenge.rw_wb0029_01.row.prog w) A (execs ((bodyOf (topStmt 10)).drop 2) (envOf qn (scopeOf (topStmt 10)) L a cd)) Q E s := by
  have N : News g L s.heap [] := News.nil
  revert X
  k_fill
  intro X
  replace F := fr_eq (put_eq e1 (put_eq e2 rfl)) F
  refine wpAny_noRaise ?_
  k_dflt (show wpAny _ A (execs (_ :: _) _) _ _ _)
  k_steps
  refine Halt.out ?_
  k_dflt (refine gen_new w F X T hroom ha ?_)
  intro Lg ag h₂ tk₂ v1 v2 oL gs k₂ hlt hle hoL hga hb hRF
  refine ⟨Lg, ag, s.gens.size, v1, v2, _, _, _, [], KJ x, rfl, hA, T.nolimit, hroom, ?_, hlt, ?_, F.keeps k₂, ?_, ⟨gs, ?_, ?_, .inr hRF⟩, ?_, ?_, ?_⟩
  · exact Nat.lt_of_lt_of_le F.ns.lt hle
  · intro p hp; exact nomatch hp
  · intro p hp
    have hf : ∀ b, Lg ≤ b → b ≠ L ∧ g.get? b = none := fun b hb => by
      have : L < b := Nat.lt_of_lt_of_le (Nat.lt_of_lt_of_le F.ns.lt hle) hb
      exact ⟨Nat.ne_of_gt this, Heap.get?_none_of_le (Nat.le_trans F.above (Nat.le_of_lt this))⟩
    rcases List.mem_cons.mp hp with rfl | hp
    · exact ⟨hoL, hf _ (Nat.le_refl _)⟩
    rcases List.mem_cons.mp hp with rfl | hp
    · exact ⟨hga, hf _ (Nat.le_of_lt hlt)⟩
    · exact nomatch hp
  · show (s.gens.push gs)[s.gens.size]? = _
    simp
  · intro p hp; rw [List.mem_singleton.mp hp]; exact Nat.le_refl _
  · exact ⟨0, _, rfl, rfl, rfl⟩
  · rintro p c r m₁ n₁ s₁ own t1 t2 hsg ⟨n, tn, e1, rfl, eq⟩ hn hown F₁ N₁
    replace F₁ := fr_eq (put_in (put_in (put_eq e1 rfl))) F₁
    have hsg0 : SG s s₁ := ⟨hsg.1, fun hb0 => hsg.2 (AllBare.push hb0 hb)⟩
    clear F N
    rw [checkLoop] at eq
    k_steps
    · rename (S c == _) = true => hc
      rw [cq1] at hc
      rw [if_pos hc] at eq
      dsimp only [GEnd]
      exact ⟨_, _, HT.mk, by assumption, by assumption, hn, _, _, rfl, rfl, eq⟩
    · rename (S c == _) = false => hc1
      rename (S c == _) = true => hc
      rename (_ : Int) < _ => hlt
      rw [cq1] at hc1
      rw [cq2] at hc
      rw [if_neg (by rw [hc1]; decide), if_pos hc, if_pos hlt] at eq
      dsimp only [GEnd]
      rename Fr _ _ _ _ => F₂
      rw [← eq] at hQ
      exact hQ _ F₂.keep (hsg0.ht HT.mk)
    · rename (S c == _) = false => hc1
      rename (S c == _) = true => hc
      rename ¬ (_ : Int) < _ => hlt
      rw [cq1] at hc1
      rw [cq2] at hc
      rw [if_neg (by rw [hc1]; decide), if_pos hc, if_neg hlt] at eq
      dsimp only [GEnd]
      exact ⟨_, _, HT.mk, by assumption, by assumption, hn, _, _, rfl, rfl, eq⟩
    · have h2 : (S c == Str.ofString ")") = false := by assumption
      have h1 : (S c == Str.ofString "(") = false := by assumption
      rw [cq1] at h1
      rw [cq2] at h2
      rw [if_neg (by rw [h1]; decide), if_neg (by rw [h2]; decide)] at eq
      dsimp only [GEnd]
      exact ⟨_, _, HT.mk, by assumption, by assumption, hn, _, _, rfl, rfl, eq⟩
  · rintro m₁ n₁ s₁ hsg ⟨n, tn, e1, rfl, eq⟩ F₁ N₁
    replace F₁ := fr_eq (put_eq e1 rfl) F₁
    have hsg0 : SG s s₁ := ⟨hsg.1, fun hb0 => hsg.2 (AllBare.push hb0 hb)⟩
    clear F N
    rw [checkLoop] at eq
    k_steps
    dsimp only
    rw [← eq] at hQ
    exact hQ _ F₁.keep (hsg0.ht HT.mk)
local macro_rules | `(tactic| walk_at "execs cons") => `(tactic| (k_here; (with_reducible show wpAny _ _ (execs (Stmt.For _ _ _ _ _ :: _) _) _ _ _); refine halt ?_))
theorem loop_sub (x : List Nat) : ∀ (r : List (Nat × List Nat)) (st : Nat) (op : Option Nat) (acc : List (List Nat)), (∀ y ∈ acc, ∀ c ∈ y, c ∈ x) → ∀ y ∈ (stripLoop x r st op acc).2, ∀ c ∈ y, c ∈ x
  | [], _, _, _, h => h
  | (p, c) :: r, st, op, acc, h => by
    cases op with
    | none =>
      rw [stripLoop]
      split
      · exact loop_sub x r _ _ _ h
      · exact loop_sub x r _ _ _ h
    | some o =>
      rw [stripLoop]
      split
      · refine loop_sub x r _ _ _ ?_
        split
        · exact h
        · intro y hy
          rcases List.mem_append.mp hy with hy | hy
          · exact h y hy
          · rw [List.mem_singleton.mp hy]
            intro c hc
            exact List.mem_of_mem_take (List.mem_of_mem_drop hc)
      · exact loop_sub x r _ _ _ h
theorem strip_sub {x : List Nat} : ∀ c ∈ stripF x, c ∈ x := by
  intro c hc
  unfold stripF stripEnd at hc
  have h := loop_sub x (itemsF x 0 false) 0 none [] (fun y hy => nomatch hy)
  obtain ⟨y, hy, hcy⟩ := List.mem_flatten.mp hc
  split at hy
  · rcases List.mem_append.mp hy with hy | hy
    · exact h y hy c hcy
    · rw [List.mem_singleton.mp hy] at hcy
      exact List.mem_of_mem_drop hcy
  · exact h y hy c hcy
theorem strip_ascii {x : Str} (h : x.cps.all (· < 128) = true) : (S (stripF x.cps.toList)).cps.all (· < 128) = true := by
  rw [Array.all_eq_true'] at h ⊢
  intro c hc
  refine h c ?_
  have : c ∈ stripF x.cps.toList := by simpa [S] using hc
  simpa using strip_sub c this
theorem check_ok (w : World) (mean : ExcName → Option Value) (mg mb : Str → Option Value) (x : Str) (t : Tok) (h1 : x.length ≤ 1000) (ha : x.cps.all (· < 128) = true) :
   ClaimG w mean mg mb 74 2 [Value.str x t] (fun _ => Value.bool (checkF x.cps.toList)) := by
  dsimp only [ClaimG]
  k_fill
  intro dp un gd cn cs a ccd cl outer A₀ base h₀ L m s Q E B0 F00 X0 T0 hk0 hd0 hu0 hret
  refine wpAny_call ?_
  k_dflt (walk_at "MINE enter")
  intro L' h₁ F1 N1 B1 X1 T1
  have hF1 : Keeps s.heap h₁ := F1.keep
  clear F00 B0 X0 T0
  (try dsimp only)
  (try k_fold)
  k_steps
  refine Halt.out ?_
  k_dflt (refine' use_claimG (strip_ok w mean mg mb x t h1 ha) ?B ?F ?X ?T ?hk ?hd ?hu ?_)
  case B => assumption
  case F => assumption
  case X => assumption
  case T => assumption
  case hk => rfl
  case hd => ktr_room
  case hu => ktr_units
  intro t' s' kp sg
  have F2 := F1.keeps (h' := s'.heap) kp
  have hkk : Keeps s.heap s'.heap := fun b o e => kp b o (hF1 b o e)
  have sg' : SG s s' := sg
  clear F1 hF1 sg kp
  k_steps
  refine Halt.out ?_
  refine check_loop w rfl (by ktr_room) X1 T1 (by assumption) (strip_ascii ha) rfl rfl ?_
  intro s'' k2 g2
  dsimp only
  rw [S_cps]
  exact hret 0 s'' k2 (sg'.trans g2)
end Mine
end Part23x
section Part24x
open PySem PySem.W PyProof.Rows PyProof.Rows.LCg PySem.Spec PySem.Calls
open Builtin Builtin.Str
open AutoSeq1 (wpAny_loadPart')
set_option Elab.async false
set_option maxRecDepth 100000
set_option maxHeartbeats 1000000
namespace Mine
section
variable {prog : Program} {w : World} {A : Around} {E : Value → Shared → Prop} {s : Shared}
theorem nextOf_tuple_item {it t : Addr} {i : Nat} {items} {x : Value} {Q : Value → Shared → Prop} (hit : s.heap.IsTupleIter it t i)
    (ht : s.heap.IsTuple t items) (hx : items[i]? = some x)
    (hQ : ∀ h', h'.IsTupleIter it t (i + 1) → Heap.SameBut it s.heap h' → Q x { s with heap := h' }) :
    wpAny (model prog w) A (Builtin.SmallTypes.nextOf (.ref it)) Q E s := by
  obtain ⟨o, ho, hc, hd⟩ := id hit
  obtain ⟨ol, hol, _, nl, hdl⟩ := ht
  unfold Builtin.SmallTypes.nextOf
  refine wpAny_bind (wpAny_callSpecial?_slot (name := Str.ofString "__next__") hit.typeIs F.slot_tuple_iterator_next
    (wpAny_call_entry F.slot_tuple_iterator_next hit.typeIs F.entry_tuple_iterator_next ?_ (F.args_tuple_iterator_next_1 _)))
  show wpAny _ _ (field (.ref it) 0 >>= _) _ _ s
  refine wpAny_bind (wpAny_field ho hd (x := .ref t) rfl ?_)
  show wpAny _ _ (if (Value.ref t == Value.none) = true then _ else _) _ _ s
  rw [if_neg (show ¬ ((Value.ref t == Value.none) = true) from Bool.false_ne_true)]
  show wpAny _ _ (field (.ref it) 1 >>= _) _ _ s
  refine wpAny_bind (wpAny_field ho hd (x := .int i 0) rfl ?_)
  show wpAny _ _ (seqItems? (.ref t) >>= _) _ _ s
  refine wpAny_bind (wpAny_seqItems hol hdl ?_)
  simp only [Int.toNat_natCast, hx]
  refine wpAny_bind (wpAny_setField ho hd (by simp) (wpAny_pure ⟨x, rfl, wpAny_pure (hQ _ ?_ (Heap.SameBut.update ..))⟩))
  exact ⟨_, Heap.get?_update_self _ ho (Obj.isFreed_of_fields (Obj.data_mapFields hd _)), (Obj.cls_mapFields ..).trans hc, by
    rw [Obj.data_mapFields hd]; simp [rawInt]⟩
theorem nextOf_tuple_end {it t : Addr} {i : Nat} {items} {Q : Value → Shared → Prop} (hh : A.handled = none)
    (hit : s.heap.IsTupleIter it t i) (ht : s.heap.IsTuple t items) (hx : items[i]? = none)
    (hE : ∀ h' e, Heap.ExtBut it s.heap h' → (∃ o, h'.get? e = some o ∧ o.cls = .type "StopIteration") → E (.ref e) { s with heap := h' }) :
    wpAny (model prog w) A (Builtin.SmallTypes.nextOf (.ref it)) Q E s := by
  obtain ⟨o, ho, hc, hd⟩ := id hit
  obtain ⟨ol, hol, _, nl, hdl⟩ := ht
  unfold Builtin.SmallTypes.nextOf
  refine wpAny_bind (wpAny_callSpecial?_slot (name := Str.ofString "__next__") hit.typeIs F.slot_tuple_iterator_next
    (wpAny_call_entry F.slot_tuple_iterator_next hit.typeIs F.entry_tuple_iterator_next ?_ (F.args_tuple_iterator_next_1 _)))
  show wpAny _ _ (field (.ref it) 0 >>= _) _ _ s
  refine wpAny_bind (wpAny_field ho hd (x := .ref t) rfl ?_)
  show wpAny _ _ (if (Value.ref t == Value.none) = true then _ else _) _ _ s
  rw [if_neg (show ¬ ((Value.ref t == Value.none) = true) from Bool.false_ne_true)]
  show wpAny _ _ (field (.ref it) 1 >>= _) _ _ s
  refine wpAny_bind (wpAny_field ho hd (x := .int i 0) rfl ?_)
  show wpAny _ _ (seqItems? (.ref t) >>= _) _ _ s
  refine wpAny_bind (wpAny_seqItems hol hdl ?_)
  simp only [Int.toNat_natCast, hx]
  refine wpAny_bind (wpAny_rule (wpAny_bind (wpAny_setField ho hd (by simp) ?_)))
  show wpAny _ _ (newExc (.type "StopIteration") [] >>= _) _ _ _
  refine wpAny_bind ?_
  simp only [newExc, newTuple]
  refine wpAny_bind (wpAny_newObj_type ?_ (by size_fits))
  refine wpAny_bind (m := firstArgMember _ _) (wpAny_of_eq (a := Value.none) (by first | rfl | (simp only [firstArgMember]; rfl)) ?_)
  refine wpAny_newObj_type ?_ (by size_fits)
  simp only [raiseNew]
  refine wpAny_bind (wpAny_handled ?_)
  first | rw [show A.in1.handled = none from hh] | rw [hh]
  refine wpAny_bind (wpAny_pure (wpAny_throw ?_))
  exact hE _ _ (((Heap.SameBut.update ..).extBut.push _).push _) ⟨_, Heap.get?_push_size _ rfl, rfl⟩
end
theorem draws_tuple {prog : Program} {w : World} {A : Around} (hh : A.handled = none) (it l : Addr) (hne : l ≠ it) (items : Array Value) :
    Draws prog w A it [it, l] items.size (fun i v => items[i]? = some v) (fun i h => h.IsTupleIter it l i ∧ h.IsTuple l items) where
  live := fun _ _ st => let ⟨o, ho, _⟩ := st.1; ⟨o, ho⟩
  frame := fun _ _ _ st hk => ⟨let ⟨o, ho, r⟩ := st.1; ⟨o, hk it (by simp) o ho, r⟩, let ⟨o, ho, r⟩ := st.2; ⟨o, hk l (by simp) o ho, r⟩⟩
  item := fun i s Q E hi st hQ => by
    refine nextOf_tuple_item st.1 st.2 (x := items[i]) (by simp [hi]) fun h' hit' hs' => ?_
    exact hQ _ h' s.toks (by simp [hi]) ⟨hit', st.2.extBut hs'.extBut hne⟩ hs'
  done := fun s Q E st hE => nextOf_tuple_end hh st.1 st.2 (by simp) hE
theorem meets_enumerate_newT (l : Addr) (items : Array Value) (n : Nat) (dct : Option Addr) (sl : Array (Option Value)) :
    Meets (Builtin.«enumerate.__new__» ⟨[.type "enumerate", .ref l], []⟩) (fun _ R s => s.heap.get? l = some { cls := .type "tuple", dict := dct, data := .seq items n, slots := sl } ∧
      R (.ok (.ret (.ref (s.heap.push { cls := .type "tuple_iterator", data := .fields #[.ref l, .int 0 0] }).objs.size)))
        { s with heap := (s.heap.push { cls := .type "tuple_iterator", data := .fields #[.ref l, .int 0 0] }).push { cls := .type "enumerate", data := .fields #[.none, .bool false, .ref s.heap.objs.size, rawInt 0, .none, .none] } }) :=
  .of_wp fun prog w A R s h => by
    obtain ⟨hp, g, d, tk, os⟩ := s; obtain ⟨hl, h⟩ := h
    have hsub := sub_enumerate
    have hL : Heap.IsTuple (Shared.heap ⟨hp, g, d, tk, os⟩) l items := ⟨_, hl, rfl, n, rfl⟩
    wp_walk using wpAny_loadPart' hl
    refine wpAny_stack_any fun st => wpAny_pure ?_
    split
    · rename_i c _ _ _ _ _
      cases (c == Value.type "enumerate")
      · wp_walk using wpAny_loadPart' hl, wpAny_pyIter_tuple hL
        exact ⟨_, rfl, h⟩
      · wp_walk using wpAny_loadPart' hl, wpAny_pyIter_tuple hL
        exact ⟨_, rfl, h⟩
    · wp_walk using wpAny_loadPart' hl, wpAny_pyIter_tuple hL
      exact ⟨_, rfl, h⟩
section
variable {prog : Program} {w : World} {A : Around} {E : Value → Shared → Prop} {s : Shared}
theorem call_enumerate_tuple {l : Addr} {items : Array Value} {Q : Value → Shared → Prop} (hL : s.heap.IsTuple l items)
    (h : ∀ h', IsEnum h' (s.heap.objs.size + 1) s.heap.objs.size 0 .none → h'.IsTupleIter s.heap.objs.size l 0 → h'.objs.size = s.heap.objs.size + 2 →
      (∀ b o, s.heap.get? b = some o → h'.get? b = some o) → Q (.ref (s.heap.objs.size + 1)) { s with heap := h' }) :
    wpAny (model prog w) A (call (.type "enumerate") [.ref l]) Q E s := by
  obtain ⟨⟨c, dct, dt, sl⟩, hl, hc, n, hd⟩ := hL
  replace hc : c = .type "tuple" := hc
  replace hd : dt = .seq items n := hd
  subst hc hd
  refine callType_new F.called_enumerate (by decide) (F.typeCall_enumerate_1 _) (F.newCall_enumerate_1 _) (fun obj => F.args_object_init_2 obj _) F.entry_enumerate_new
    (meets_enumerate_newT l items n dct sl) ⟨hl, ?_⟩
  have hz : (s.heap.push { cls := .type "tuple_iterator", data := .fields #[.ref l, .int 0 0] }).objs.size = s.heap.objs.size + 1 := Heap.size_push ..
  show _ ∧ _
  rw [hz]
  have he : IsEnum ((s.heap.push { cls := .type "tuple_iterator", data := .fields #[.ref l, .int 0 0] }).push
      { cls := .type "enumerate", data := .fields #[.none, .bool false, .ref s.heap.objs.size, rawInt 0, .none, .none] }) (s.heap.objs.size + 1) s.heap.objs.size 0 .none := by
    have := Heap.get?_push_size (s.heap.push { cls := .type "tuple_iterator", data := .fields #[.ref l, .int 0 0] })
      (o := { cls := .type "enumerate", data := .fields #[.none, .bool false, .ref s.heap.objs.size, rawInt 0, .none, .none] }) rfl
    rw [hz] at this; exact this
  refine ⟨⟨_, he, rfl⟩, h _ he ⟨_, Heap.get?_push_of_some _ (Heap.get?_push_size _ rfl), rfl, rfl⟩ (by rw [Heap.size_push, hz]) fun b o x => Heap.get?_push_of_some _ (Heap.get?_push_of_some _ x)⟩
end
end Mine
end Part24x
section Part25x
open PySem PySem.W PyProof.Rows PyProof.Rows.LCg PySem.Spec PySem.Calls
set_option Elab.async false
set_option maxRecDepth 100000
set_option maxHeartbeats 1000000
namespace Mine
section
variable {prog : Program} {w : World} {A : Around} {E : Value → Shared → Prop} {s : Shared} {h₀ : Heap} {L : Addr} {m : Str → Option Value} {env : Env}
noncomputable def PairTurns (prog : Program) (w : World) (A : Around) (h₀ : Heap) (L : Addr) (m : Str → Option Value) (env : Env) (elt : Expr) (x x₂ : Str) (scope : Scope) (cl : List (Str × Addr)) (s : Shared) {α : Type} (enc : α → Value → Prop) (outs : List α) (P2 : Nat → Value → Value → Prop) (news : List (Addr × Obj)) : Prop :=
  ∀ i o v₁ v₂ I oI J oJ C oC D m₂ ys h tk (E' : Value → Shared → Prop), outs[i]? = some o → P2 i v₁ v₂ → NsObj oC m₂ → m₂ x = some v₁ → m₂ x₂ = some v₂ → Fr h₀ L h m → News h₀ L h ((I, oI) :: (C, oC) :: (D, lst ys) :: (J, oJ) :: news) → Off3 I C D ((J, oJ) :: news) → ((@Ne Nat I C) ∧ (@Ne Nat I D) ∧ (@Ne Nat C D)) →
    wpAny (model prog w) A (eval elt (compEnvC scope cl C env)) (CompEnd h₀ L m { s with heap := h, toks := tk } I oI C oC D (lst ys) (fun _ => True) (fun y news' => news' = (J, oJ) :: news ∧ enc o y)) E' { s with heap := h, toks := tk }
theorem block_E {α : Type} {elt iter : Expr} {x x₂ : Str} {px px₂ tp : Pos} {x1} {scope : Scope} {cl : List (Str × Addr)} {pos : Pos} {s₂ : Shared} {e it : Addr} {fp : List Addr} {n : Nat} {Pt : Nat → Array Value → Prop} {St : Nat → Heap → Prop} {Mid : Nat → Addr → Heap → Prop} {P2 : Nat → Value → Value → Prop} {news : List (Addr × Obj)}
    {enc : α → Value → Prop} {outs : List α} {RR : Value → Addr → Result → Shared → Prop}
    (W : WalksT prog w A e fp [e, it] n Pt St Mid) (h2 : ∀ i vals, Pt i vals → ∃ v0 v1, vals = #[v0, v1] ∧ P2 i v0 v1) (hsz : n ≤ sizeLine) (hn : outs.length = n) (hIo : ∀ i h, St i h → ∃ oe oi, h.get? e = some oe ∧ h.get? it = some oi)
    (hSt : ∀ i h h' oe oi, St i h → h.get? e = some oe → h.get? it = some oi → h'.get? e = some oe → h'.get? it = some oi → News h₀ L h' news → (∀ b o, h₀.get? b = some o → h'.get? b = some o) → St i h')
    (hcell : ∀ y ∈ scope.names, y.2 ≠ .cell) (hkind : scope.kind = .function) (hx : scope.names.lookup x = some .local) (hx₂ : scope.names.lookup x₂ = some .local) (hxx : x ≠ x₂) (hh : A.handled = none) (hst : St 0 s₂.heap) (hfp : ∀ b ∈ fp, b < s₂.heap.objs.size)
    (F : Fr h₀ L s₂.heap m) (N : News h₀ L s₂.heap news) (heL : L ≠ e) (hiL : L ≠ it) (hei : it ≠ e) (he₀ : h₀.get? e = none) (hi₀ : h₀.get? it = none) (off : ∀ p ∈ news, p.1 ≠ e ∧ p.1 ≠ it)
    (R : PairTurns prog w A h₀ L m env elt x x₂ scope cl s₂ enc outs P2 news)
    (hRR : ∀ D C h tk m' ys, Fr h₀ L h m → News h₀ L h ((D, lst ys) :: news) → Off1 D news → h.Ns C m' → h₀.get? C = none → h₀.get? D = none → C ≠ L → D ≠ L → C ≠ D → (∀ p ∈ news, p.1 ≠ C) → Encs enc ys outs → RR (.ref D) C (.ok .next) { s₂ with heap := h, toks := tk }) :
    wpAny (model prog w) A (newList []) (fun acc s₃ => wpAny (model prog w) A (newFunctionEnv scope env.globals cl [] env.qual none .none (some env)) (fun cenv s₄ =>
      codeAny (model prog w) A (.compStart (.ListComp elt [⟨.Tuple [.Name x px, .Name x₂ px₂] x1 tp, iter, [], 0⟩] scope pos) 0 (.ref e) acc { cenv with scope := relabel scope env }) (RR acc cenv.locals) s₄) E s₃) E s₂ := by
  refine wpAny_newObj_type (wpAny_newFunctionEnv hcell (by intro y hy; simp at hy) (fun h₁ hns₁ hsb₁ => ?_) hkind)
  dsimp only at hns₁ hsb₁ ⊢
  generalize hH2 : s₂.heap.push { cls := .type "list", dict := none, data := .seq ([] : List Value).toArray } = H2 at hns₁ hsb₁ ⊢
  have hC : H2.objs.size = s₂.heap.objs.size + 1 := by rw [← hH2, Heap.size_push]
  have hDC : s₂.heap.objs.size ≠ H2.objs.size := by rw [hC]; exact Nat.ne_of_lt (Nat.lt_succ_self _)
  have below : ∀ b, b < s₂.heap.objs.size → b ≠ H2.objs.size ∧ b ≠ s₂.heap.objs.size := fun b hb => ⟨by rw [hC]; exact Nat.ne_of_lt (Nat.lt_succ_of_lt hb), Nat.ne_of_lt hb⟩
  have hDf : s₂.heap.objs.size ∉ fp := fun hm => Nat.lt_irrefl _ (hfp _ hm)
  have hCf : H2.objs.size ∉ fp := fun hm => by have := hfp _ hm; rw [hC] at this; exact Nat.lt_irrefl _ (Nat.lt_of_succ_lt this)
  have hef : e ∈ fp := W.sub e (by simp)
  have hif : it ∈ fp := W.sub it (by simp)
  have helt : e < s₂.heap.objs.size := hfp e hef
  have hilt : it < s₂.heap.objs.size := hfp it hif
  have old : ∀ b o, s₂.heap.get? b = some o → h₁.get? b = some o := fun b o e => hsb₁.extBut b o (below b (Heap.lt_size e)).1 (Heap.get?_push_of_some _ (hH2 ▸ Heap.get?_push_of_some _ e))
  have hacc : h₁.get? s₂.heap.objs.size = some (lst []) := hsb₁.extBut _ _ hDC (Heap.get?_push_of_some _ (hH2 ▸ Heap.get?_push_size _ rfl))
  have hst₁ : St 0 h₁ := W.frame _ _ _ hst fun b _ o e => old b o e
  have fresh₀ : ∀ a, s₂.heap.objs.size ≤ a → h₀.get? a = none := fun a ha => by
    cases e : h₀.get? a with
    | none => rfl
    | some o' => exact absurd (Heap.lt_size (F.keep a o' e)) (Nat.not_lt.mpr ha)
  have hD₀ : h₀.get? s₂.heap.objs.size = none := fresh₀ _ (Nat.le_refl _)
  have hC₀ : h₀.get? H2.objs.size = none := fresh₀ _ (by rw [hC]; exact Nat.le_succ _)
  have hLlt : L < s₂.heap.objs.size := F.ns.lt
  have hDL : s₂.heap.objs.size ≠ L := Ne.symm (below L hLlt).2
  have hCL : H2.objs.size ≠ L := Ne.symm (below L hLlt).1
  have hCe : e ≠ H2.objs.size := (below e helt).1
  have hDe : e ≠ s₂.heap.objs.size := (below e helt).2
  have hCi : it ≠ H2.objs.size := (below it hilt).1
  have hDi : it ≠ s₂.heap.objs.size := (below it hilt).2
  have offC : ∀ p ∈ news, p.1 ≠ H2.objs.size := fun p hp => (below _ (Heap.lt_size (N p hp).1)).1
  have offD : ∀ p ∈ news, p.1 ≠ s₂.heap.objs.size := fun p hp => (below _ (Heap.lt_size (N p hp).1)).2
  have one : Off1 s₂.heap.objs.size news := (Off3.of (I := e) (C := H2.objs.size) (D := s₂.heap.objs.size) fun p hp => ⟨(off p hp).1, offC p hp, offD p hp⟩).one
  have ew : e ∈ [e, it] := by simp
  have iw : it ∈ [e, it] := by simp
  have nw : ∀ b, b ≠ e → b ≠ it → b ∉ [e, it] := fun b h1 h2 hb => by
    rcases List.mem_cons.mp hb with h | hb
    · exact h1 h
    · exact h2 (List.mem_singleton.mp hb)
  have hold : ∀ b o, h₀.get? b = some o → b ∉ [e, it] := fun b o q => nw b (fun h => by rw [h, he₀] at q; cases q) (fun h => by rw [h, hi₀] at q; cases q)
  have loop : ∀ s₃ : Shared, s₃ = { s₂ with heap := h₁, toks := s₂.toks + ([] : List (Str × Value)).length } →
      codeAny (model prog w) A (.compLoop (.ListComp elt [⟨.Tuple [.Name x px, .Name x₂ px₂] x1 tp, iter, [], 0⟩] scope pos) 0 (.ref e) (.ref s₂.heap.objs.size) (compEnvC scope cl H2.objs.size env))
        (RR (.ref s₂.heap.objs.size) H2.objs.size) s₃ := by
    rintro s₃ rfl
    refine LCp.codeAny_compLoop_pair
      (fun k s' => ∃ h' tk i ys m', s' = { s₂ with heap := h', toks := tk } ∧ i ≤ n ∧ k = n + 1 - i ∧ ys.length = i ∧ St i h' ∧ Fr h₀ L h' m ∧ h'.Ns H2.objs.size m' ∧ News h₀ L h' ((s₂.heap.objs.size, lst ys) :: news) ∧ Encs enc ys (outs.take i)) ?_ (n + 1)
      ⟨h₁, _, 0, [], _, rfl, Nat.zero_le _, rfl, rfl, hst₁, F.keeps old, hns₁, fun p hp => ?_, Encs.nil⟩
    · rintro k s' ⟨h', tk, i, ys, m', rfl, hi, rfl, hyl, hst', F', hn', N', hE⟩
      have next : ∀ h₁ : Heap, (∀ b o, b ∉ [e, it] → h'.get? b = some o → h₁.get? b = some o) → Fr h₀ L h₁ m ∧ News h₀ L h₁ ((s₂.heap.objs.size, lst ys) :: news) ∧ h₁.Ns H2.objs.size m' := fun h₁ hk₁ =>
        ⟨⟨F'.ns.at' fun o q => hk₁ _ o (nw L heL hiL) q, fun b o q => hk₁ b o (hold b o q) (F'.keep b o q), F'.above⟩, fun p hp => ⟨hk₁ _ _ (by
          rcases List.mem_cons.mp hp with rfl | hp
          · exact nw _ (Ne.symm hDe) (Ne.symm hDi)
          · exact nw _ (off p hp).1 (off p hp).2) (N' p hp).1, (N' p hp).2⟩, hn'.at' fun o q => hk₁ _ o (nw _ (Ne.symm hCe) (Ne.symm hCi)) q⟩
      by_cases hlt : i < n
      · refine W.item i _ _ _ hlt hst' fun T vals h₂ tk₂ hPt _ hT hMid hk₂ => ?_
        obtain ⟨v0, v1, rfl, hP2⟩ := h2 i vals hPt
        refine W.go _ x1 tp i T _ _ _ hMid fun h₂' hst₂ hk₂' => ?_
        have ht₂ : h₂'.IsTuple T #[v0, v1] := hT.at fun o q => hk₂' T o (W.apart i T h₂ hMid) q
        refine wpAny_assign_Tuple hh ht₂ rfl rfl fun h₅ hx₅ => ?_
        replace hx₅ : Heap.ExtBut h₂'.objs.size h₂' h₅ := hx₅
        have he' : ∀ b o, h₂'.get? b = some o → h₅.get? b = some o := fun b o q => hx₅ b o (Nat.ne_of_lt (Heap.lt_size q)) q
        obtain ⟨F₅, N₅, hn₅⟩ := next h₅ fun b o hb q => he' b o (hk₂' b o hb (hk₂ b o hb q))
        refine assignInOrder_cons (wpAny_assign_Name (wpAny_storeName_local (lookup_relabel_local hx) hn₅ (fun h₆ hn₆ hs₆ => ?_) (by simp [compEnvC, relabel, hkind])))
        refine assignInOrder_cons (wpAny_assign_Name (wpAny_storeName_local (lookup_relabel_local hx₂) hn₆ (fun h₃ hn₃ hs₃ => ?_) (by simp [compEnvC, relabel, hkind])))
        refine assignInOrder_nil ?_
        have old3 : ∀ b o, b ≠ H2.objs.size → h₅.get? b = some o → h₃.get? b = some o := fun b o hb q => hs₃.extBut b o hb (hs₆.extBut b o hb q)
        have hst₃ : St (i + 1) h₃ := W.frame _ _ _ hst₂ fun b hb o q => old3 b o (fun q => hCf (by rw [← q]; exact hb)) (he' b o q)
        obtain ⟨oe, oi, hoe, hoi⟩ := hIo _ _ hst₃
        obtain ⟨oC, heC, hoC⟩ := ns_obj hn₃
        have F₃ : Fr h₀ L h₃ m := (F₅.change hs₆ hCL hC₀).change hs₃ hCL hC₀
        have N₃ : News h₀ L h₃ ((e, oe) :: (H2.objs.size, oC) :: (s₂.heap.objs.size, lst ys) :: (it, oi) :: news) := fun p hp => by
          rcases List.mem_cons.mp hp with rfl | hp
          · exact ⟨hoe, Ne.symm heL, he₀⟩
          rcases List.mem_cons.mp hp with rfl | hp
          · exact ⟨heC, hCL, hC₀⟩
          rcases List.mem_cons.mp hp with rfl | hp
          · have z := N₅ _ List.mem_cons_self
            exact ⟨old3 _ _ hDC z.1, z.2⟩
          rcases List.mem_cons.mp hp with rfl | hp
          · exact ⟨hoi, Ne.symm hiL, hi₀⟩
          · have z := N₅ p (List.mem_cons_of_mem _ hp)
            exact ⟨old3 _ _ (offC p hp) z.1, z.2⟩
        have hk : outs[i]? = some outs[i] := List.getElem?_eq_getElem (by omega)
        have off' : Off3 e H2.objs.size s₂.heap.objs.size ((it, oi) :: news) := Off3.of fun p hp => by
          rcases List.mem_cons.mp hp with rfl | hp
          · exact ⟨hei, hCi, hDi⟩
          · exact ⟨(off p hp).1, offC p hp, offD p hp⟩
        refine wpAny_mono (R i _ v0 v1 e oe it oi H2.objs.size oC s₂.heap.objs.size _ ys h₃ _ _ hk hP2 hoC (by simp [hxx]) (by simp) F₃ N₃ off' ⟨hCe, hDe, Ne.symm hDC⟩) (fun y s₄ h₄ => ?_) fun _ _ e => e
        obtain ⟨h₄, tk₄, news₄, rfl, F₄, N₄, off₄, _, rfl, hy⟩ := h₄
        have zI := (N₄ (e, oe) (.head _)).1
        have zC := (N₄ (H2.objs.size, oC) (.tail _ (.head _))).1
        have zD := (N₄ (s₂.heap.objs.size, lst ys) (.tail _ (.tail _ (.head _)))).1
        have zJ := (N₄ (it, oi) (.tail _ (.tail _ (.tail _ (.head _))))).1
        have N₄' : News h₀ L h₄ news := fun p hp => N₄ p (.tail _ (.tail _ (.tail _ (.tail _ hp))))
        have hst₄ : St (i + 1) h₄ := hSt _ _ _ _ _ hst₃ hoe hoi zI zJ N₄' F₄.keep
        refine append_at (hsz := by show ys.toArray.size ≤ sizeLine; rw [List.size_toArray, hyl]; exact Nat.le_trans hi hsz) zD fun h₅ hs₅ hD₅ => ?_
        refine ⟨n + 1 - (i + 1), by omega, h₅, tk₄, i + 1, ys ++ [y], _, rfl, hlt, rfl, by rw [List.length_append, List.length_singleton, hyl], W.frame _ _ _ hst₄ fun b hb o e => hs₅.extBut b o (fun q => hDf (q ▸ hb)) e, F₄.change hs₅ hDL hD₀,
          (hoC.ns zC).sameBut hs₅ (Ne.symm hDC), fun p hp => ?_, ?_⟩
        · rcases List.mem_cons.mp hp with rfl | hp
          · exact ⟨hD₅.trans (congrArg some (lst_snoc ys y)), hDL, hD₀⟩
          · exact ⟨hs₅.extBut _ _ (offD p hp) (N₄' p hp).1, (N₄' p hp).2⟩
        · rw [List.take_add_one, hk]
          exact Encs.snoc hE hy
      · obtain rfl : i = n := Nat.le_antisymm hi (Nat.not_lt.mp hlt)
        refine W.done _ _ _ hst' fun h₂ tk₂ hk₂ => ?_
        obtain ⟨F₂, N₂, hn₂⟩ := next h₂ hk₂
        rw [← hn, List.take_length] at hE
        exact hRR _ _ h₂ tk₂ _ ys F₂ N₂ one hn₂ hC₀ hD₀ hCL hDL (Ne.symm hDC) offC hE
    · rcases List.mem_cons.mp hp with rfl | hp
      · exact ⟨hacc, hDL, hD₀⟩
      · exact ⟨old _ _ (N p hp).1, (N p hp).2⟩
  exact codeAny_compStart_list (loop _ rfl) (W.self 0 _ _ _ hst₁ (loop _ rfl))
end
end Mine
end Part25x
section Part26x
open PySem PySem.W PyProof.Rows PyProof.Rows.LCg PySem.Spec PySem.Calls
set_option Elab.async false
set_option maxRecDepth 100000
set_option maxHeartbeats 1000000
namespace Mine
section
variable {prog : Program} {w : World} {A : Around} {E : Value → Shared → Prop} {s : Shared} {h₀ : Heap} {L : Addr} {m : Str → Option Value} {env : Env}
noncomputable abbrev eSt (e it l : Addr) (its : Array Value) (i : Nat) (h : Heap) : Prop := (∃ old, IsEnum h e it i old) ∧ h.IsTupleIter it l i ∧ h.IsTuple l its
noncomputable def PairIn (prog : Program) (w : World) (A : Around) (h₀ : Heap) (L : Addr) (m : Str → Option Value) (env : Env) (elt : Expr) (x x₂ y : Str) (scope : Scope) (cl : List (Str × Addr)) (Q : Flow → Shared → Prop) (xv : Value) (s : Shared) : Prop :=
  ∃ (e it l : Addr) (its : Array Value) (ol : Obj) (news : List (Addr × Obj)) (outs : List Int), xv = .ref e ∧ A.handled = none ∧ Fr h₀ L s.heap m ∧ News h₀ L s.heap news ∧ eSt e it l its 0 s.heap ∧ (l, ol) ∈ news ∧ outs.length = its.size ∧ its.size ≤ 100 ∧
    it ≠ e ∧ L ≠ e ∧ L ≠ it ∧ h₀.get? e = none ∧ h₀.get? it = none ∧ (∀ p ∈ news, p.1 ≠ e ∧ p.1 ≠ it) ∧
    PairTurns prog w A h₀ L m env elt x x₂ scope cl s IsI outs (fun i v₁ v₂ => (∃ t, v₁ = .int i t) ∧ its[i]? = some v₂) news ∧
    (∀ D h tk ys, Fr h₀ L h (fun z => if z = y then some (.ref D) else m z) → News h₀ L h ((D, lst ys) :: news) → Off1 D news → Encs IsI ys outs → Q .next { s with heap := h, toks := tk })
theorem Assign_pairs {elt iter : Expr} {x x₂ y : Str} {px px₂ tp py : Pos} {x1} {scope : Scope} {cl : List (Str × Addr)} {pos spos : Pos} {Q : Flow → Shared → Prop} (_F₀ : Fr h₀ L s.heap m) (hLe : env.locals = L)
    (hsw : swapsWith (.ListComp elt [⟨.Tuple [.Name x px, .Name x₂ px₂] x1 tp, iter, [], 0⟩] scope pos) (some (.Name y py)) spos.line env = pure true)
    (hclos : closureFor scope env = pure cl) (hcell : ∀ z ∈ scope.names, z.2 ≠ .cell) (hkind : scope.kind = .function)
    (hnames : ∀ z ∈ scope.names, z.2 = .local → scope.names.lookup z.1 = some .local) (hx : scope.names.lookup x = some .local) (hx₂ : scope.names.lookup x₂ = some .local) (hxx : x ≠ x₂)
    (hy : env.kindOf y = some .local) (hp : (env.scope.kind == .class || (env.scope.kind == .module && env.locals != env.globals)) = false)
    (h : wpAny (model prog w) A (eval iter env) (PairIn prog w A h₀ L m env elt x x₂ y scope cl Q) E s)
    (hs : ∀ x, foldedSetIterable iter env x = pure x := by intro _; rfl) :
    wpAny (model prog w) A (exec (.Assign [.Name y py] (.ListComp elt [⟨.Tuple [.Name x px, .Name x₂ px₂] x1 tp, iter, [], 0⟩] scope pos) spos) env) Q E s := by
  subst hLe
  rw [exec_Assign_Name_used _ _ _ _ hsw]
  refine wpAny_bind (wpAny_standAt (wpAny_bind ?_))
  show wpAny _ A (do let _ ← comprehension (.ListComp elt [⟨.Tuple [.Name x px, .Name x₂ px₂] x1 tp, iter, [], 0⟩] scope pos) scope env _ (newList []) false (eval iter env) (some (assign (.Name y py) env))) _ _ s
  refine wpAny_bind (wpAny_mono (wpAny_comprehension_free (use := some (assign (.Name y py) env)) (Q := fun _ s' => Q .next s') rfl hs hclos hkind hnames
    (wpAny_mono h (fun xv s₁ h₁ => ?_) fun _ _ e => e)) (fun _ s' hq => wpAny_pure (wpAny_pure hq)) fun _ _ e => e)
  obtain ⟨e, it, l, its, ol, news, outs, rfl, hh, F, N, st, hl, hlen, hsz, hie, hLe, hLi, he₀, hi₀, off, turns, fin⟩ := h₁
  obtain ⟨⟨old, he⟩, hit, htl⟩ := id st
  refine wpAny_pyIter_enum he ?_
  have hli := off _ hl
  have hol : ol.cls = .type "tuple" ∧ ∃ n, ol.data = .seq its n := by
    obtain ⟨o', ho', r⟩ := htl
    have this : s₁.heap.get? l = some ol := (N _ hl).1
    rw [show s₁.heap.get? l = some o' from ho'] at this
    obtain rfl : o' = ol := Option.some.inj this
    exact r
  refine block_E (WalksT.enumerateD (draws_tuple (A := A.in1) hh it l hli.2 its) e (Ne.symm hie) (by simp; exact ⟨Ne.symm hie, Ne.symm hli.1⟩) (by simp)) (fun i vals ⟨t, v, h1, h2⟩ => ⟨_, _, h2, ⟨t, rfl⟩, h1⟩) (by rw [sizeLine_eq]; omega) hlen (fun i h st => ?_) (fun i h h' oe oi st a b c d N' k => ?_)
    hcell hkind hx hx₂ hxx hh st (fun b hb => ?_) F N hLe hLi hie he₀ hi₀ off turns ?_
  · obtain ⟨⟨old, he⟩, ⟨o, ho, _⟩, _⟩ := st
    exact ⟨_, _, he, ho⟩
  · obtain ⟨⟨old, he⟩, ⟨o, ho, r⟩, ⟨o', ho', r'⟩⟩ := st
    refine ⟨⟨old, ?_⟩, ⟨o, ?_, r⟩, ⟨ol, ?_, hol⟩⟩
    · have he' : h.get? e = some _ := he
      rw [a] at he'
      exact c.trans he'
    · rw [b] at ho; exact d.trans ho
    · exact (N' _ hl).1
  · rcases List.mem_cons.mp hb with rfl | hb
    · exact Heap.lt_size he
    rcases List.mem_cons.mp hb with rfl | hb
    · obtain ⟨_, ho, _⟩ := hit; exact Heap.lt_size ho
    rw [List.mem_singleton.mp hb]
    obtain ⟨_, ho, _⟩ := htl; exact Heap.lt_size ho
  · intro D C h' tk m' ys F' N' o1 hn hC₀ hD₀ hCL hDL hCD offC fin'
    show wpAny _ A (assign (.Name y py) env (.ref D)) _ _ _
    refine wpAny_assign_Name (wpAny_storeName_local hy F'.ns (fun h₂ hn₂ hs₂ => ?_) hp)
    have hL₀ : h₀.get? env.locals = none := Heap.get?_none_of_le F'.above
    have F₂ : Fr h₀ env.locals h₂ (fun z => if z = y then some (.ref D) else m z) := ⟨hn₂, fun b o e => hs₂.extBut b o (fun q => by rw [q, hL₀] at e; cases e) (F'.keep b o e), F'.above⟩
    refine ⟨m', hn.sameBut hs₂ hCL, fun h'' hs'' => fin D h'' _ ys (F₂.change hs'' hCL hC₀) (fun p hp => ?_) o1 fin'⟩
    have z : h₂.get? p.1 = some p.2 := hs₂.extBut _ _ (N' p hp).2.1 (N' p hp).1
    refine ⟨hs''.extBut _ _ ?_ z, (N' p hp).2⟩
    rcases List.mem_cons.mp hp with rfl | hp
    · exact Ne.symm hCD
    · exact offC p hp
end
end Mine
end Part26x
section Part27x
open PySem PySem.W PyProof.Rows PyProof.Rows.LCg PySem.Spec PySem.Calls
set_option Elab.async false
set_option maxRecDepth 100000
set_option maxHeartbeats 400000
namespace Mine
noncomputable abbrev lEnv (L a : Addr) (cd : Value) : Env := envOfC "law" (scopeOf (topStmt 14)) L a cd
noncomputable abbrev lA (L a : Addr) (cd : Value) : Around := callerA.deeper (lEnv L a cd)
theorem ints_get {vs : List Value} {ns : List Int} (h : IntsAre vs ns) : ∀ (i : Nat) (v : Value), vs[i]? = some v → ∃ n t, v = .int n t := by
  induction h with
  | nil => intro i v hv; cases i <;> cases hv
  | cons n t r ih =>
    intro i v hv
    cases i with
    | zero => exact ⟨n, t, (Option.some.inj hv).symm⟩
    | succ i => exact ih i v hv
theorem ints_picks {vs : List Value} {ns : List Int} (h : IntsAre vs ns) : ∀ (l : List Nat), ∃ zs, IntsAre (l.filterMap (vs.toArray[·]?)) zs
  | [] => ⟨[], .nil⟩
  | i :: r => by
    obtain ⟨zs, hz⟩ := ints_picks h r
    rw [List.filterMap_cons]
    cases e : vs.toArray[i]? with
    | none => exact ⟨zs, hz⟩
    | some v =>
      obtain ⟨n, t, rfl⟩ := ints_get h i v (by simpa using e)
      exact ⟨n :: zs, .cons n t hz⟩
theorem ints_pick {vs : List Value} {ns : List Int} (h : IntsAre vs ns) (k : Nat) : ∃ zs, IntsAre (slicePick vs.toArray (some (k : Int)) none (some 4)).toList zs := by
  unfold slicePick
  exact ints_picks h _
noncomputable def cellOf (own : Int) (zs : List Int) : Int := (own + zs.sum).fmod (10 ^ Int.toNat 6)
theorem cellOf_bd (own : Int) (zs : List Int) : 0 ≤ cellOf own zs ∧ cellOf own zs < 1000000 := ⟨Int.fmod_nonneg_of_pos _ (by decide), Int.fmod_lt_of_pos _ (by decide)⟩
noncomputable abbrev InC (c : Int) : Prop := 0 ≤ c ∧ c < 1000000
noncomputable abbrev cell4 (L : Addr) (o1 o2 o3 o4 : Obj) : List (Addr × Obj) := [(L + 1 + 1 + 1 + 1, o4), (L + 1 + 1 + 1, o3), (L + 1 + 1, o2), (L + 1, o1)]
section
variable (w : World) {g : Heap} {L a : Addr} {cd : Value} {mean : ExcName → Option Value} {mg mb : Str → Option Value} {m : Str → Option Value} {s : Shared}
local macro_rules | `(tactic| walk_at "call type:enumerate") => `(tactic| (k_here; refine halt ?_))
theorem law_s1 {Q E} {l : Addr} {vs : List Value} {ks : List Int} {o1 o2 o3 o4 : Obj} (X : (hd.heap_39 w.params).In g) (T : Top hd.view_39 (looseW hd.view_39 []) mean mg mb g) (K0 : Below callerA g [] g)
   (F : Fr g L s.heap m) (N : News g L s.heap [(L + 1 + 1 + 1 + 1, o4), (L + 1 + 1 + 1, o3), (L + 1 + 1, o2), (L + 1, o1)]) (d1 : o1.data = .cell (some (.ref l))) (d2 : o2.data = .cell none) (d3 : o3.data = .cell none) (d4 : o4.data = .cell none)
   (hL : g.IsList l vs.toArray) (hI : IntsAre vs ks) (h63 : ks.length ≤ 63)
   (hQ : ∀ (D : Addr) h' tk' ys (c0 c1 c2 c3 : Int), InC c0 → InC c1 → InC c2 → InC c3 → IntsAre ys [c0, c1, c2, c3] → Fr g L h' (fun z => if z = "cells" then some (.ref D) else m z) → News g L h' ((D, lst ys) :: cell4 L o1 o2 o3 o4) → Q .next { s with heap := h', toks := tk' }) :
   wpAny (model Challenge.rw_wb0029_01.row.prog w) (lA L a cd) (exec ((bodyOf (topStmt 14)).getD 0 default) (lEnv L a cd)) Q E s := by
  revert X; k_fill; intro X
  k_dflt (show wpAny _ _ (exec (Stmt.Assign [Expr.Name _ _] (Expr.ListComp _ [⟨Expr.Tuple [_, _] _ _, Expr.Call _ [_] [] _, [], 0⟩] _ _) _) _) _ _ _)
  refine Assign_pairs F rfl (by rfl) (by rfl) (by decide) (by rfl) (by decide) (by rfl) (by rfl) (by decide) (by rfl) (by rfl) ?_
  k_steps
  obtain ⟨z, hz⟩ := Classical.axiomOfChoice (ints_pick hI)
  rename News _ _ _ _ => N1
  rename Fr _ _ _ _ => F1
  refine Halt.out (call_enumerate_tuple (items := #[.int 9 s.toks, .int 4 (s.toks + 1), .int 26 (s.toks + 1 + 1), .int 63 (s.toks + 1 + 1 + 1)]) ⟨_, (N1 _ (.head _)).1, rfl, _, rfl⟩ fun h' he hit hsz hk => ?_)
  refine ⟨_, _, _, _, _, _, [cellOf 9 (z 0), cellOf 4 (z 1), cellOf 26 (z 2), cellOf 63 (z 3)], rfl, rfl, F1.keeps hk, N1.grown hk, ⟨⟨_, he⟩, hit, ⟨_, hk _ _ (N1 _ (.head _)).1, rfl, _, rfl⟩⟩, .head _, rfl, by show 4 ≤ 100; omega, Nat.ne_of_lt (Nat.lt_succ_self _), ?_, ?_, ?_, ?_, ?_, ?_, ?_⟩
  · exact Nat.ne_of_lt (Nat.lt_succ_of_lt F1.ns.lt)
  · exact Nat.ne_of_lt F1.ns.lt
  · exact Heap.get?_none_of_le (Nat.le_trans F1.above (Nat.le_of_lt (Nat.lt_succ_of_lt F1.ns.lt)))
  · exact Heap.get?_none_of_le (Nat.le_trans F1.above (Nat.le_of_lt F1.ns.lt))
  · intro p hp
    have := Heap.lt_size (N1 p hp).1
    exact ⟨Nat.ne_of_lt (Nat.lt_succ_of_lt this), Nat.ne_of_lt this⟩
  · rintro i o v₁ v₂ I oI J oJ C oC D m₂ ys h tk E' ho ⟨⟨t, rfl⟩, hv⟩ hC hx hx2 F2 N2 off ne
    rcases i with _ | _ | _ | _ | i
    · obtain rfl := Option.some.inj ho
      obtain rfl : v₂ = .int 9 s.toks := (Option.some.inj hv).symm
      have hz0 := hz (0)
      k_dflt (show wpAny _ _ (eval (Expr.BinOp _ _ _ _) _) _ _ _)
      k_steps
      exact CompEnd.intro (by assumption) (by assumption) _ (fun p hp => List.mem_cons_of_mem _ hp) off trivial ⟨rfl, _, rfl⟩
    · obtain rfl := Option.some.inj ho
      obtain rfl : v₂ = .int 4 (s.toks + 1) := (Option.some.inj hv).symm
      have hz0 := hz (0 + 1)
      k_dflt (show wpAny _ _ (eval (Expr.BinOp _ _ _ _) _) _ _ _)
      k_steps
      exact CompEnd.intro (by assumption) (by assumption) _ (fun p hp => List.mem_cons_of_mem _ hp) off trivial ⟨rfl, _, rfl⟩
    · obtain rfl := Option.some.inj ho
      obtain rfl : v₂ = .int 26 (s.toks + 1 + 1) := (Option.some.inj hv).symm
      have hz0 := hz (0 + 1 + 1)
      k_dflt (show wpAny _ _ (eval (Expr.BinOp _ _ _ _) _) _ _ _)
      k_steps
      exact CompEnd.intro (by assumption) (by assumption) _ (fun p hp => List.mem_cons_of_mem _ hp) off trivial ⟨rfl, _, rfl⟩
    · obtain rfl := Option.some.inj ho
      obtain rfl : v₂ = .int 63 (s.toks + 1 + 1 + 1) := (Option.some.inj hv).symm
      have hz0 := hz (0 + 1 + 1 + 1)
      k_dflt (show wpAny _ _ (eval (Expr.BinOp _ _ _ _) _) _ _ _)
      k_steps
      exact CompEnd.intro (by assumption) (by assumption) _ (fun p hp => List.mem_cons_of_mem _ hp) off trivial ⟨rfl, _, rfl⟩
    · exact nomatch ho
  · intro D h tk ys F' N' _ hE
    exact hQ D h tk ys _ _ _ _ (cellOf_bd _ _) (cellOf_bd _ _) (cellOf_bd _ _) (cellOf_bd _ _) (encs_ints hE) F' fun p hp => N' p (by
      rcases List.mem_cons.mp hp with rfl | hp
      · exact .head _
      · exact .tail _ (.tail _ hp))
end
end Mine
end Part27x
section Part28x
open PySem PySem.W PyProof.Rows PyProof.Rows.LCg PySem.Spec PySem.Calls
set_option Elab.async false
set_option maxRecDepth 100000
set_option maxHeartbeats 400000
namespace Mine
local macro_rules | `(tactic| walk_at "MINE none") => `(tactic| skip)
local macro_rules | `(tactic| walk_at "MINE none") => `(tactic| skip)
section
variable (w : World) {g : Heap} {L a : Addr} {cd : Value} {mean : ExcName → Option Value} {mg mb : Str → Option Value} {m : Str → Option Value} {s : Shared}
end
theorem nek (a k : Nat) : a ≠ a + (k + 1) := Nat.ne_of_lt (Nat.lt_add_of_pos_right (Nat.succ_pos k))
theorem ne12 (L : Nat) : L + 1 ≠ L + 1 + 1 := nek (L + 1) 0
theorem ne13 (L : Nat) : L + 1 ≠ L + 1 + 1 + 1 := nek (L + 1) 1
theorem ne14 (L : Nat) : L + 1 ≠ L + 1 + 1 + 1 + 1 := nek (L + 1) 2
theorem ne23 (L : Nat) : L + 1 + 1 ≠ L + 1 + 1 + 1 := nek (L + 1 + 1) 0
theorem ne24 (L : Nat) : L + 1 + 1 ≠ L + 1 + 1 + 1 + 1 := nek (L + 1 + 1) 1
theorem ne32 (L : Nat) : L + 1 + 1 + 1 ≠ L + 1 + 1 := (nek (L + 1 + 1) 0).symm
theorem ne34 (L : Nat) : L + 1 + 1 + 1 ≠ L + 1 + 1 + 1 + 1 := nek (L + 1 + 1 + 1) 0
theorem ne42 (L : Nat) : L + 1 + 1 + 1 + 1 ≠ L + 1 + 1 := (nek (L + 1 + 1) 1).symm
theorem ne43 (L : Nat) : L + 1 + 1 + 1 + 1 ≠ L + 1 + 1 + 1 := (nek (L + 1 + 1 + 1) 0).symm
theorem updF_pre {c : Addr} {o : Obj} {l : List (Addr × Obj)} {f : Obj → List (Addr × Obj)} (h : UpdF c o l f) : ∀ {pre : List (Addr × Obj)}, (∀ p ∈ pre, p.1 ≠ c) → UpdF c o (pre ++ l) (fun o' => pre ++ f o')
  | [], _ => h
  | p :: r, hp => .tail (hp p (.head _)) (updF_pre h fun q hq => hp q (.tail _ hq))
theorem updF_2 {L : Addr} {o1 o2 o3 o4 : Obj} : UpdF (L + 1 + 1) o2 (cell4 L o1 o2 o3 o4) (fun o' => cell4 L o1 o' o3 o4) :=
  .tail (by exact ne42 L) (.tail (by exact ne32 L) (.head fun p hp => by rw [List.mem_singleton.mp hp]; exact ne12 L))
theorem updF_3 {L : Addr} {o1 o2 o3 o4 : Obj} : UpdF (L + 1 + 1 + 1) o3 (cell4 L o1 o2 o3 o4) (fun o' => cell4 L o1 o2 o' o4) :=
  .tail (by exact ne43 L) (.head fun p hp => by
    rcases List.mem_cons.mp hp with rfl | hp
    · exact ne23 L
    · rw [List.mem_singleton.mp hp]; exact ne13 L)
theorem updF_4 {L : Addr} {o1 o2 o3 o4 : Obj} : UpdF (L + 1 + 1 + 1 + 1) o4 (cell4 L o1 o2 o3 o4) (fun o' => cell4 L o1 o2 o3 o') :=
  .head fun p hp => by
    rcases List.mem_cons.mp hp with rfl | hp
    · exact ne34 L
    rcases List.mem_cons.mp hp with rfl | hp
    · exact ne24 L
    · rw [List.mem_singleton.mp hp]; exact ne14 L
theorem lst_ne {g h : Heap} {L D c : Addr} {ys : List Value} {o : Obj} {v : Option Value} {news : List (Addr × Obj)} (N : News g L h news) (h1 : (D, lst ys) ∈ news) (h2 : (c, o) ∈ news) (d : o.data = .cell v) : D ≠ c :=
  N.twoPlaces h1 h2 fun e => by
    have e' : lst ys = o := e
    rw [← e'] at d
    cases d
theorem tail1 {g h : Heap} {L : Addr} {p : Addr × Obj} {news : List (Addr × Obj)} (N : News g L h (p :: news)) : News g L h news := fun q hq => N q (.tail _ hq)
noncomputable def CSrc (prog : Program) (w : World) (A : Around) (h₀ : Heap) (L : Addr) (m : Str → Option Value) (env : Env) (elt : Expr) (x : Str) (scope : Scope) (cl : List (Str × Addr)) (Fin : Shared → List Value → List (Addr × Obj) → Prop) (xv : Value) (s₁ : Shared) : Prop := CompSrc prog w A h₀ L m env elt x scope cl Fin xv s₁
theorem ListComp_own {prog : Program} {w : World} {A : Around} {E : Value → Shared → Prop} {s : Shared} {h₀ : Heap} {L : Addr} {m : Str → Option Value} {env : Env} {elt iter : Expr} {x : Str} {px : Pos} {scope : Scope} {cl : List (Str × Addr)} {pos : Pos} {Q : Value → Shared → Prop} (F₀ : Fr h₀ L s.heap m)
    (hclos : closureFor scope env = pure cl) (hcell : ∀ y ∈ scope.names, y.2 ≠ .cell) (hkind : scope.kind = .function)
    (hnames : ∀ y ∈ scope.names, y.2 = .local → scope.names.lookup y.1 = some .local) (hx : scope.names.lookup x = some .local)
    (h : wpAny (model prog w) A (eval iter env) (CSrc prog w A h₀ L m env elt x scope cl (fun s₂ => FinE h₀ L m s₂ Q)) E s)
    (hs : ∀ x, foldedSetIterable iter env x = pure x := by intro _; rfl) :
    wpAny (model prog w) A (eval (.ListComp elt [⟨.Name x px, iter, [], 0⟩] scope pos) env) Q E s := ListComp_U F₀ hclos hcell hkind hnames hx h hs
theorem ints_at {vs : List Value} {ns : List Int} (h : IntsAre vs ns) : ∀ (i : Nat) (v : Value), vs[i]? = some v → ∃ n t, ns[i]? = some n ∧ v = .int n t := by
  induction h with
  | nil => intro i v hv; cases i <;> cases hv
  | cons n t r ih =>
    intro i v hv
    cases i with
    | zero => exact ⟨n, t, rfl, (Option.some.inj hv).symm⟩
    | succ i => exact ih i v hv
theorem four {cs : List Int} (h : cs.length = 4) : ∃ c0 c1 c2 c3, cs = [c0, c1, c2, c3] := by
  match cs, h with
  | [a, b, c, d], _ => exact ⟨a, b, c, d, rfl⟩
theorem flat_of {α : Type} (l : List α) (f : α → Nat) : (l.map fun c => [f c]).flatten = l.map f := by
  induction l with
  | nil => rfl
  | cons a r ih => simp [ih]
noncomputable def foldC (c : Int) : Nat := if c.fmod 2 = 1 then 41 else 40
section
variable (w : World) {g : Heap} {L a : Addr} {cd : Value} {mean : ExcName → Option Value} {mg mb : Str → Option Value} {m : Str → Option Value} {s : Shared}
local macro_rules | `(tactic| walk_at "eval ListComp") => `(tactic| (k_here; k_dflt (refine ListComp_own (F₀ := by k_asm) (by rfl) (by decide) (by rfl) (by decide) (by rfl) ?_)))
local macro_rules | `(tactic| walk_at "storeName") => `(tactic| (k_here; (with_reducible show wpAny _ _ (storeName _ (PySem.Str.ofString "folds") _) _ _ _); refine halt ?_))
local macro_rules | `(tactic| walk_at "call builtin:str.join") => `(tactic| (k_here; refine halt ?_))
theorem law_s2 {Q E} {D : Addr} {ys : List Value} {cs : List Int} {o1 o2 o3 o4 : Obj} (X : (hd.heap_39 w.params).In g) (T : Top hd.view_39 (looseW hd.view_39 []) mean mg mb g)
   (F : Fr g L s.heap m) (N : News g L s.heap ((D, lst ys) :: cell4 L o1 o2 o3 o4)) (e1 : m "cells" = some (.ref D)) (hI : IntsAre ys cs)
   (hQ : ∀ h' tk' t, Fr g L h' (fun z => if z = "total" then some (.int cs.sum t) else m z) → News g L h' ((D, lst ys) :: cell4 L o1 o2 o3 o4) → Q .next { s with heap := h', toks := tk' }) :
   wpAny (model Challenge.rw_wb0029_01.row.prog w) (lA L a cd) (exec ((bodyOf (topStmt 14)).getD 1 default) (lEnv L a cd)) Q E s := by
  revert X; k_fill; intro X
  have hI' : IntsAre ys.toArray.toList cs := by simpa using hI
  replace F := fr_eq (put_eq e1 rfl) F
  k_dflt (show wpAny _ _ (exec (Stmt.Assign _ _ _) _) _ _ _)
  k_steps
  exact hQ _ _ _ (fr_eq (put_in (put_eq e1 rfl)).symm (by assumption)) (by assumption)
theorem law_s3 {Q E} {D : Addr} {ys : List Value} {cs : List Int} {o1 o2 o3 o4 : Obj} (X : (hd.heap_39 w.params).In g) (T : Top hd.view_39 (looseW hd.view_39 []) mean mg mb g)
   (F : Fr g L s.heap m) (N : News g L s.heap ((D, lst ys) :: cell4 L o1 o2 o3 o4)) (e1 : m "cells" = some (.ref D)) (hI : IntsAre ys cs) (hl : cs.length = 4) (d2 : o2.data = .cell none)
   (hQ : ∀ h' tk' o2' t, o2'.data = .cell (some (.str (Mine.S (cs.map foldC)) t)) → Fr g L h' m → News g L h' ((D, lst ys) :: cell4 L o1 o2' o3 o4) → Q .next { s with heap := h', toks := tk' }) :
   wpAny (model Challenge.rw_wb0029_01.row.prog w) (lA L a cd) (exec ((bodyOf (topStmt 14)).getD 2 default) (lEnv L a cd)) Q E s := by
  revert X; k_fill; intro X
  have hI' : IntsAre ys.toArray.toList cs := by simpa using hI
  replace F := fr_eq (put_eq e1 rfl) F
  k_dflt (show wpAny _ _ (exec (Stmt.Assign _ _ _) _) _ _ _)
  k_steps
  unfold CSrc
  refine CompSrc.ledger rfl (by assumption) N (.head _) ?_ fun g => ?_
  · have := hI'.length; rw [hl] at this; show (Array.size _) ≤ _; rw [sizeLine_eq]; simp at this ⊢; omega
  refine rest_map IsS (cs.map fun c => Mine.S [foldC c]) ?_ ?_ ?_
  · have := hI'.length; simp at this ⊢; exact this.symm
  · rintro i o v I oI C oC D m₂ ys h tk E' ho hv hC hx F N off ne
    have hc : ∃ c t, v = .int c t ∧ o = Mine.S [foldC c] := by
      obtain ⟨c, t, h1, rfl⟩ := ints_at hI i v (by simpa using hv)
      rw [List.getElem?_map, h1] at ho
      exact ⟨c, t, rfl, (Option.some.inj ho).symm⟩
    obtain ⟨c, t, rfl, rfl⟩ := hc
    dsimp only
    k_steps
    · exact CompEnd.intro (by assumption) (by assumption) _ (fun p hp => hp) off (.inr ⟨_, .head _, rfl, _, rfl⟩) ⟨rfl, is_of (by rw [foldC, if_pos (by assumption), tr])⟩
    · exact CompEnd.intro (by assumption) (by assumption) _ (fun p hp => hp) off (.inr ⟨_, .head _, rfl, _, rfl⟩) ⟨rfl, is_of (by rw [foldC, if_neg (by assumption), tl])⟩
  · intro ys hys D h tk F N o1
    dsimp only
    k_steps
    have hok : ((cs.map fun c => Mine.S [foldC c]).map (·.length)).sum + (cs.map fun c => Mine.S [foldC c]).length * (Str.ofString "").length ≤ 16777216 := by
      obtain ⟨c0, c1, c2, c3, rfl⟩ := four hl
      rw [e_is, S_len]; simp [S_len]
    refine Halt.out (join_list (News.isList N (.head _)) (encs_strs hys) hok ?_)
    intro t' k'
    rw [show (cs.map fun c => Mine.S [foldC c]) = (cs.map fun c => [foldC c]).map Mine.S by simp, join_S, flat_of]
    have N' := tail1 N
    k_dflt (refine' storeX_C F N' ?c (updF_pre (pre := [(_, _)]) updF_2 ?U) d2 ?_ ?a ?b)
    case c => rfl
    case a => rfl
    case b => rfl
    case U => intro p hp; rw [List.mem_singleton.mp hp]; exact lst_ne N' (.head _) (.tail _ (.tail _ (.tail _ (.head _)))) d2
    intro h' o' F' N' d'
    exact hQ _ _ _ _ d' (fr_eq (put_eq e1 rfl).symm F') N'
end
end Mine
end Part28x
section Part29x
open PySem PySem.W PyProof.Rows PyProof.Rows.LCg PySem.Spec PySem.Calls
set_option Elab.async false
set_option maxRecDepth 100000
set_option maxHeartbeats 400000
namespace Mine
local macro_rules | `(tactic| walk_at "MINE none") => `(tactic| skip)
local macro_rules | `(tactic| walk_at "MINE none") => `(tactic| skip)
local macro_rules | `(tactic| walk_at "MINE none") => `(tactic| skip)
local macro_rules | `(tactic| walk_at "MINE none") => `(tactic| skip)
local macro_rules | `(tactic| walk_at "MINE none") => `(tactic| skip)
local macro_rules | `(tactic| walk_at "MINE none") => `(tactic| skip)
noncomputable def frontOf : Nat → List Nat
  | 0 => []
  | 1 => [92]
  | 2 => [32]
  | _ => [10]
theorem fr0 : Str.ofString "" = S (frontOf 0) := by decide +kernel
theorem fr1 : Str.ofString "\\" = S (frontOf 1) := by decide +kernel
theorem fr2 : Str.ofString " " = S (frontOf 2) := by decide +kernel
theorem fr3 : Str.ofString "\n" = S (frontOf 3) := by decide +kernel
section
variable (w : World) {g : Heap} {L a : Addr} {cd : Value} {mean : ExcName → Option Value} {mg mb : Str → Option Value} {m : Str → Option Value} {s : Shared}
local macro_rules | `(tactic| walk_at "call builtin:chr") => `(tactic| (k_here; refine halt ?_))
local macro_rules | `(tactic| walk_at "storeName") => `(tactic| (k_here; (with_reducible show wpAny _ _ (storeName _ (PySem.Str.ofString "front") _) _ _ _); refine halt ?_))
local macro_rules | `(tactic| walk_at "storeName") => `(tactic| (k_here; (with_reducible show wpAny _ _ (storeName _ (PySem.Str.ofString "sign") _) _ _ _); refine halt ?_))
theorem law_s4 {Q E} {D : Addr} {ys : List Value} {tot : Int} {tt : Tok} {o1 o2 o3 o4 : Obj} (X : (hd.heap_39 w.params).In g) (T : Top hd.view_39 (looseW hd.view_39 []) mean mg mb g)
   (F : Fr g L s.heap m) (N : News g L s.heap ((D, lst ys) :: cell4 L o1 o2 o3 o4)) (e1 : m "total" = some (.int tot tt)) (d3 : o3.data = .cell none)
   (hQ : ∀ h' tk' o3' t (i : Nat), i < 4 → (i : Int) = tot.fmod 4 → o3'.data = .cell (some (.str (Mine.S (frontOf i)) t)) → Fr g L h' m → News g L h' ((D, lst ys) :: cell4 L o1 o2 o3' o4) → Q .next { s with heap := h', toks := tk' }) :
   wpAny (model Challenge.rw_wb0029_01.row.prog w) (lA L a cd) (exec ((bodyOf (topStmt 14)).getD 3 default) (lEnv L a cd)) Q E s := by
  revert X; k_fill; intro X
  replace F := fr_eq (put_eq e1 rfl) F
  k_dflt (show wpAny _ _ (exec (Stmt.Assign _ _ _) _) _ _ _)
  k_steps
  all_goals
    refine Halt.out ?_
    rename Int.fmod _ _ = _ => hk
    rename News _ _ _ _ => N1
    k_dflt (refine' storeX_C (by assumption) (tail1 N1) ?c (updF_pre (pre := [(_, _)]) updF_3 ?U) d3 ?_ ?a ?b)
    case c => rfl
    case a => rfl
    case b => rfl
    case U => intro p hp; rw [List.mem_singleton.mp hp]; exact lst_ne (tail1 N1) (.head _) (.tail _ (.tail _ (.head _))) d3
    intro h' o' F' N' d'
    first
    | (rw [fr0] at d'; exact hQ _ _ _ _ 0 (by decide) (by rw [hk]; rfl) d' (fr_eq (put_eq e1 rfl).symm F') N')
    | (rw [fr1] at d'; exact hQ _ _ _ _ 1 (by decide) (by rw [hk]; rfl) d' (fr_eq (put_eq e1 rfl).symm F') N')
    | (rw [fr2] at d'; exact hQ _ _ _ _ 2 (by decide) (by rw [hk]; rfl) d' (fr_eq (put_eq e1 rfl).symm F') N')
    | (rw [fr3] at d'; exact hQ _ _ _ _ 3 (by decide) (by rw [hk]; rfl) d' (fr_eq (put_eq e1 rfl).symm F') N')
theorem law_s5 {Q E} {D : Addr} {ys : List Value} {tot : Int} {tt : Tok} {o1 o2 o3 o4 : Obj} (X : (hd.heap_39 w.params).In g) (T : Top hd.view_39 (looseW hd.view_39 []) mean mg mb g)
   (F : Fr g L s.heap m) (N : News g L s.heap ((D, lst ys) :: cell4 L o1 o2 o3 o4)) (e1 : m "total" = some (.int tot tt)) (d3 : o4.data = .cell none)
   (hQ : ∀ h' tk' o4' t (c : Nat), 192 ≤ c → c < 50192 → o4'.data = .cell (some (.str (Mine.S [c]) t)) → Fr g L h' m → News g L h' ((D, lst ys) :: cell4 L o1 o2 o3 o4') → Q .next { s with heap := h', toks := tk' }) :
   wpAny (model Challenge.rw_wb0029_01.row.prog w) (lA L a cd) (exec ((bodyOf (topStmt 14)).getD 4 default) (lEnv L a cd)) Q E s := by
  revert X; k_fill; intro X
  replace F := fr_eq (put_eq e1 rfl) F
  k_dflt (show wpAny _ _ (exec (Stmt.Assign _ _ _) _) _ _ _)
  k_steps
  have b0 : 0 ≤ tot.fmod 50000 := Int.fmod_nonneg_of_pos _ (by decide)
  have b1 : tot.fmod 50000 < 50000 := Int.fmod_lt_of_pos _ (by decide)
  refine Halt.out (chr_of_range (by omega) (by omega) ?_)
  k_steps
  refine Halt.out ?_
  k_dflt (refine' storeX_C F N ?c (updF_pre (pre := [(_, _)]) updF_4 ?U) d3 ?_ ?a ?b)
  case c => rfl
  case a => rfl
  case b => rfl
  case U => intro p hp; rw [List.mem_singleton.mp hp]; exact lst_ne N (.head _) (.tail _ (.head _)) d3
  intro h' o' F' N' d'
  exact hQ _ _ _ _ (192 + tot.fmod 50000).toNat (by omega) (by omega) d' (fr_eq (put_eq e1 rfl).symm F') N'
end
end Mine
end Part29x
section Part30x
open PySem PySem.W PyProof.Rows PyProof.Rows.LCg PySem.Spec PySem.Calls
set_option Elab.async false
set_option maxRecDepth 100000
set_option maxHeartbeats 400000
namespace Mine
theorem loopF_len (sign : List Nat) : ∀ (f t : List Nat), (loopF sign f t).length ≤ 1
  | [], _ => Nat.zero_le _
  | f :: fs, t => by
    rw [loopF]
    split
    · exact loopF_len sign fs _
    · split
      · exact Nat.le_refl _
      · simp [turnedF]
theorem crease_len (p : Nat) (f r g : List Nat) : (creaseF p f r g).length ≤ 1 := loopF_len _ _ _
noncomputable def rowL (f r g : List Nat) : List (List Nat) := (List.range 15).map fun i => creaseF (i + 1) f r g
noncomputable def rowF (f r g : List Nat) : List Nat := (rowL f r g).flatten
section
variable (w : World) {g : Heap} {L a : Addr} {cd : Value} {mean : ExcName → Option Value} {mg mb : Str → Option Value} {m : Str → Option Value} {s : Shared}
local macro_rules | `(tactic| walk_at "eval ListComp") => `(tactic| (k_here; k_dflt (refine ListComp_own (F₀ := by k_asm) (by rfl) (by decide) (by rfl) (by decide) (by rfl) ?_)))
local macro_rules | `(tactic| walk_at "call builtin:str.join") => `(tactic| (k_here; refine halt ?_))
local macro_rules | `(tactic| walk_at "call ref") => `(tactic| (k_here; (with_reducible show wpAny _ _ (call (Value.ref 86) _) _ _ _); refine halt ?_))
theorem law_s6 {Q E} {D : Addr} {ys : List Value} {f4 fr sg : List Nat} {t2 t3 t4 : Tok} {o1 o2 o3 o4 : Obj} (X : (hd.heap_39 w.params).In g) (T : Top hd.view_39 (looseW hd.view_39 []) mean mg mb g) (K0 : Below callerA g [] g)
   (F : Fr g L s.heap m) (N : News g L s.heap ((D, lst ys) :: cell4 L o1 o2 o3 o4)) (d2 : o2.data = .cell (some (.str (Mine.S f4) t2))) (d3 : o3.data = .cell (some (.str (Mine.S fr) t3))) (d4 : o4.data = .cell (some (.str (Mine.S sg) t4)))
   (h1 : f4.length ≤ 100) (h2 : fr.length ≤ 100) (h3 : sg.length ≤ 100)
   (hQ : ∀ h' tk' t, Fr g L h' (fun z => if z = "row" then some (.str (Mine.S (rowF f4 fr sg)) t) else m z) → News g L h' ((D, lst ys) :: cell4 L o1 o2 o3 o4) → Q .next { s with heap := h', toks := tk' }) :
   wpAny (model Challenge.rw_wb0029_01.row.prog w) (lA L a cd) (exec ((bodyOf (topStmt 14)).getD 5 default) (lEnv L a cd)) Q E s := by
  revert X; k_fill; intro X
  k_dflt (show wpAny _ _ (exec (Stmt.Assign _ _ _) _) _ _ _)
  k_steps
  unfold CSrc
  refine CompSrc.range (n := 15) rfl (by assumption) (by assumption) (by assumption) (by decide) (by decide) (by rw [sizeLine_eq]; omega) fun g' => ?_
  refine rest_map IsS ((rowL f4 fr sg).map Mine.S) (by simp [rowL]) ?_ ?_
  · rintro i o v I oI C oC D m₂ ys h tk E' ho ⟨t, rfl⟩ hC hx F2 N2 off ne
    have hi : i < 15 ∧ o = Mine.S (creaseF (i + 1) f4 fr sg) := by
      have hi : i < 15 := by
        have := (List.getElem?_eq_some_iff.mp ho).1
        simpa [rowL] using this
      refine ⟨hi, ?_⟩
      rw [rowL, List.map_map, List.getElem?_map, List.getElem?_range hi] at ho
      exact (Option.some.inj ho).symm
    obtain ⟨hi, rfl⟩ := hi
    dsimp only
    k_steps
    refine Halt.out ?_
    k_dflt (refine' use_claim (crease_ok w mean mg mb _ (1 + (i : Int)) (Mine.S f4) (Mine.S fr) (Mine.S sg) _ _ _ _ ?l1 ?l2 ?l3 ?l4 ?l5) K0 F2 X N2 T ?hk ?hd ?hu ?_)
    case l1 => rw [S_len]; exact h1
    case l2 => rw [S_len]; exact h2
    case l3 => rw [S_len]; exact h3
    case l4 => omega
    case l5 => omega
    case hk => rfl
    case hd => ktr_room
    case hu => ktr_units
    intro t' h' tk' F' N'
    dsimp only
    rw [S_cps, S_cps, S_cps, show (1 + (i : Int)).toNat = i + 1 by omega]
    exact CompEnd.intro (by assumption) (by assumption) _ (fun p hp => hp) off trivial ⟨rfl, _, rfl⟩
  · intro ys hys D h tk F2 N2 o1
    dsimp only
    k_steps
    have hok : (((rowL f4 fr sg).map Mine.S).map (·.length)).sum + ((rowL f4 fr sg).map Mine.S).length * (Str.ofString "").length ≤ 16777216 := by
      have hb := sum_bound (ls := rowL f4 fr sg) fun y hy => by
        obtain ⟨i, _, rfl⟩ := List.mem_map.mp hy
        exact Nat.le_trans (crease_len _ _ _ _) (by omega)
      have : (rowL f4 fr sg).length = 15 := by simp [rowL]
      rw [e_is, S_len]; simp only [List.length_map, List.length_nil] at *; omega
    refine Halt.out (join_list (News.isList N2 (.head _)) (encs_strs hys) hok ?_)
    intro t' k'
    rw [join_S]
    k_steps
    rename Fr _ _ _ _ => F3
    rename News _ _ _ _ => N3
    exact hQ _ _ _ F3 (tail1 N3)
end
end Mine
end Part30x
section Part31x
open PySem PySem.W PyProof.Rows PyProof.Rows.LCg PySem.Spec PySem.Calls
set_option Elab.async false
set_option maxRecDepth 100000
set_option maxHeartbeats 400000
namespace Mine
local macro_rules | `(tactic| walk_at "MINE none") => `(tactic| skip)
local macro_rules | `(tactic| walk_at "MINE none") => `(tactic| skip)
local macro_rules | `(tactic| walk_at "MINE none") => `(tactic| skip)
local macro_rules | `(tactic| walk_at "MINE none") => `(tactic| skip)
noncomputable def paperL : List Nat → List Nat → List Nat
  | [], p => p
  | f :: r, p => paperL r (p ++ [f] ++ turnedF p)
structure Live (D : Addr) (tot : Int) (row : List Nat) (m : Str → Option Value) : Prop where
  c : m "cells" = some (.ref D)
  t : ∃ t, m "total" = some (.int tot t)
  r : ∃ t, m "row" = some (.str (Mine.S row) t)
inductive PJ (D : Addr) (tot : Int) (row f4 : List Nat) (ns : List (Addr × Obj)) (i : Nat) (m₁ : Str → Option Value) (n₁ : List (Addr × Obj)) : Prop
  | mk (h0 : n₁ = ns) (h1 : Live D tot row m₁) (p : List Nat) (tu : Tok) (h2 : m₁ "paper" = some (.str (Mine.S p) tu)) (h3 : p.length + 1 ≤ 2 ^ i) (h4 : paperL (f4.drop i) p = paperL f4 []) : PJ D tot row f4 ns i m₁ n₁
inductive LJ (ns : List (Addr × Obj)) (D : Addr) (tot : Int) (row : List Nat) (i : Nat) (m₁ : Str → Option Value) (n₁ : List (Addr × Obj)) : Prop
  | mk (h0 : ∀ p ∈ ns, p ∈ n₁) (h1 : Live D tot row m₁) : LJ ns D tot row i m₁ n₁
inductive LJ2 (P : Addr) (ns : List (Addr × Obj)) (D : Addr) (tot : Int) (row : List Nat) (i : Nat) (m₁ : Str → Option Value) (n₁ : List (Addr × Obj)) : Prop
  | mk (h0 : ∀ p ∈ ns, p ∈ n₁) (h1 : Live D tot row m₁) (h2 : m₁ "pieces" = some (.ref P)) : LJ2 P ns D tot row i m₁ n₁
section
variable (w : World) {g : Heap} {L a : Addr} {cd : Value} {mean : ExcName → Option Value} {mg mb : Str → Option Value} {m : Str → Option Value} {s : Shared}
theorem law_s7 {Q E} {news : List (Addr × Obj)} (X : (hd.heap_39 w.params).In g) (T : Top hd.view_39 (looseW hd.view_39 []) mean mg mb g)
   (F : Fr g L s.heap m) (N : News g L s.heap news) 
   (hQ : ∀ h' tk' t, Fr g L h' (fun z => if z = "paper" then some (.str (Mine.S []) t) else m z) → News g L h' news → Q .next { s with heap := h', toks := tk' }) :
   wpAny (model Challenge.rw_wb0029_01.row.prog w) (lA L a cd) (exec ((bodyOf (topStmt 14)).getD 6 default) (lEnv L a cd)) Q E s := by
  revert X; k_fill; intro X
  k_dflt (show wpAny _ _ (exec (Stmt.Assign _ _ _) _) _ _ _)
  k_steps
  rename Fr _ _ _ _ => F1
  rw [e_is] at F1
  exact hQ _ _ _ F1 (by assumption)
local macro_rules | `(tactic| walk_at "exec For") => `(tactic| walk_at "MINE src")
local macro_rules | `(tactic| walk_at "call ref") => `(tactic| (k_here; (with_reducible show wpAny _ _ (call (Value.ref 79) _) _ _ _); refine halt ?_))
theorem law_s8 {Q E} {D : Addr} {tot : Int} {row : List Nat} {ys : List Value} {f4 : List Nat} {t2 tp : Tok} {o1 o2 o3 o4 : Obj} (X : (hd.heap_39 w.params).In g) (T : Top hd.view_39 (looseW hd.view_39 []) mean mg mb g) (K0 : Below callerA g [] g)
   (F : Fr g L s.heap m) (N : News g L s.heap ((D, lst ys) :: cell4 L o1 o2 o3 o4)) (d2 : o2.data = .cell (some (.str (Mine.S f4) t2))) (e1 : m "paper" = some (.str (Mine.S []) tp)) (h1 : f4.length = 4) (hv : Live D tot row m)
   (hQ : ∀ h' tk' m' t, Fr g L h' m' → Live D tot row m' → m' "paper" = some (.str (Mine.S (paperL f4 [])) t) → News g L h' ((D, lst ys) :: cell4 L o1 o2 o3 o4) → Q .next { s with heap := h', toks := tk' }) :
   wpAny (model Challenge.rw_wb0029_01.row.prog w) (lA L a cd) (exec ((bodyOf (topStmt 14)).getD 7 default) (lEnv L a cd)) Q E s := by
  revert X; k_fill; intro X
  obtain ⟨l1, ⟨ta, l2⟩, ⟨tb, l3⟩⟩ := hv
  replace F := fr_eq (put_eq e1 (put_eq l1 (put_eq l2 (put_eq l3 rfl)))) F
  k_dflt (show wpAny _ _ (exec (Stmt.For _ _ _ _ _) _) _ _ _)
  k_steps
  unfold LoopSrc
  refine ⟨HT s, _, _, _, PJ D tot row f4 ((D, lst ys) :: cell4 L o1 o2 o3 o4), _, _, Source.str _ _, rfl, F, N, trivial, HT.still, HT.mk, ?_, ?_, ?_⟩
  · exact ⟨rfl, ⟨rfl, ⟨_, rfl⟩, ⟨_, rfl⟩⟩, [], _, rfl, by decide, rfl⟩
  · rintro i v m₁ n₁ s₁ I oI hi ⟨c, tc, hc, rfl⟩ ⟨rfl, ⟨l1, ⟨ta, l2⟩, ⟨tb, l3⟩⟩, p, tu, q1, hp, hl⟩ ⟨h, tk, rfl⟩ F1 N1 off _
    replace F1 := fr_eq (put_in (put_eq q1 (put_eq l1 (put_eq l2 (put_eq l3 rfl))))) F1
    have hi4 : i < 4 := by
      have : i < (Mine.S f4).cps.size := hi
      rw [Array.size_eq_length_toList, S_cps] at this; omega
    have hp16 : p.length ≤ 16 := by
      have : 2 ^ i ≤ 2 ^ 4 := Nat.pow_le_pow_right (by decide) (by omega)
      omega
    have hdr : f4.drop i = c :: f4.drop (i + 1) := by
      have := drop_at hc
      rw [S_cps] at this; exact this
    clear F
    have hpl : (Mine.S p).length ≤ 16 := by rw [S_len]; exact hp16
    dsimp only at F1 N1 ⊢
    k_steps
    refine Halt.out ?_
    k_dflt (refine' use_claim (turned_ok w mean mg mb _ (Mine.S p) _ ?l1) K0 F1 X N1 T ?hk ?hd ?hu ?_)
    case l1 => exact Nat.le_trans hpl (by decide)
    case hk => rfl
    case hd => ktr_room
    case hu => ktr_units
    intro t' h' tk' F' N'
    have hq : (Mine.S (turnedF (Mine.S p).cps.toList)).length ≤ 16 := by rw [S_len, S_cps]; simp [turnedF]; exact hp16
    dsimp only
    k_steps
    dsimp only [TurnEnd]
    refine ⟨_, _, HT.mk, by assumption, by assumption, off, trivial, rfl, ⟨rfl, ⟨_, rfl⟩, ⟨_, rfl⟩⟩, p ++ [c] ++ turnedF p, _, congrArg (fun z => some (Value.str z _)) ?_, ?_, ?_⟩
    · rw [show (⟨#[c]⟩ : Str) = Mine.S [c] from rfl, S_app, S_cps, S_app]
    · simp [turnedF]; rw [Nat.pow_succ]; omega
    · rw [hdr, paperL] at hl; exact hl
  · rintro m₁ n₁ s₁ ⟨h, tk, rfl⟩ F1 N1 ⟨rfl, lv, p, tu, q1, hp, hl⟩
    rw [List.drop_of_length_le (by rw [Array.size_eq_length_toList, S_cps]; exact Nat.le_refl _), paperL] at hl
    rw [hl] at q1
    exact hQ _ _ _ _ F1 lv q1 N1
theorem law_s9 {Q E} {D : Addr} {tot : Int} {row : List Nat} {news : List (Addr × Obj)} {tp : Tok} (X : (hd.heap_39 w.params).In g) (T : Top hd.view_39 (looseW hd.view_39 []) mean mg mb g)
   (F : Fr g L s.heap m) (N : News g L s.heap news) (e1 : m "paper" = some (.str (Mine.S row) tp)) (hv : Live D tot row m)
   (hQ : ∀ h' tk' m', Fr g L h' m' → Live D tot row m' → News g L h' news → Q .next { s with heap := h', toks := tk' }) :
   wpAny (model Challenge.rw_wb0029_01.row.prog w) (lA L a cd) (exec ((bodyOf (topStmt 14)).getD 8 default) (lEnv L a cd)) Q E s := by
  revert X; k_fill; intro X
  obtain ⟨l1, ⟨ta, l2⟩, ⟨tb, l3⟩⟩ := hv
  replace F := fr_eq (put_eq e1 (put_eq l1 (put_eq l2 (put_eq l3 rfl)))) F
  k_dflt (show wpAny _ _ (exec (Stmt.If _ _ _ _) _) _ _ _)
  k_steps
  · rename (_ != _) = true => h
    simp at h
  · exact hQ _ _ _ F ⟨rfl, ⟨_, rfl⟩, ⟨_, rfl⟩⟩ N
end
end Mine
end Part31x
section Part32x
open PySem PySem.W PyProof.Rows PyProof.Rows.LCg PySem.Spec PySem.Calls
set_option Elab.async false
set_option maxRecDepth 100000
set_option maxHeartbeats 400000
namespace Mine
noncomputable def hidAll : List (List Nat) := [[], [92, 40], [92, 41], [34, 40, 34], [34, 92, 34, 41, 34], [92, 92]]
inductive Pieces : List Nat → List (List Nat) → Prop
  | nil : Pieces [] []
  | snoc {r : List Nat} {ps : List (List Nat)} {c : Nat} {h : List Nat} : Pieces r ps → h ∈ hidAll → Pieces (r ++ [c]) (ps ++ [c :: h])
inductive QJ (P : Addr) (ns : List (Addr × Obj)) (D : Addr) (tot : Int) (row : List Nat) (i : Nat) (m₁ : Str → Option Value) (n₁ : List (Addr × Obj)) : Prop
  | mk (l : List (Str × Tok)) (n : Nat) (pcs : List (List Nat)) (h0 : n₁ = (P, lo l n) :: ns) (h1 : Live D tot row m₁) (h2 : m₁ "pieces" = some (.ref P)) (h3 : l.map (·.1) = pcs.map Mine.S) (h4 : Pieces (row.take i) pcs) : QJ P ns D tot row i m₁ n₁
theorem Pieces.len {r : List Nat} {ps : List (List Nat)} (h : Pieces r ps) : ps.length = r.length := by
  induction h with
  | nil => rfl
  | snoc _ _ ih => simp [ih]
theorem all5 {D P L : Nat} {o o1 o2 o3 o4 : Obj} (h : D < P ∧ L + 1 + 1 + 1 + 1 < P ∧ L + 1 + 1 + 1 < P ∧ L + 1 + 1 < P ∧ L + 1 < P) : ∀ p ∈ (D, o) :: cell4 L o1 o2 o3 o4, p.1 < P := fun p hp => by
  rcases List.mem_cons.mp hp with rfl | hp
  · exact h.1
  rcases List.mem_cons.mp hp with rfl | hp
  · exact h.2.1
  rcases List.mem_cons.mp hp with rfl | hp
  · exact h.2.2.1
  rcases List.mem_cons.mp hp with rfl | hp
  · exact h.2.2.2.1
  rw [List.mem_singleton.mp hp]; exact h.2.2.2.2
theorem hy1 : Str.ofString "\\(" = S [92, 40] := by decide +kernel
theorem hy2 : Str.ofString "\\)" = S [92, 41] := by decide +kernel
theorem hy3 : Str.ofString "\"(\"" = S [34, 40, 34] := by decide +kernel
theorem hy4 : Str.ofString "\"\\\")\"" = S [34, 92, 34, 41, 34] := by decide +kernel
theorem hy5 : Str.ofString "\\\\" = S [92, 92] := by decide +kernel
theorem app_row {prog : Program} {w : World} {A : Around} {E : Value → Shared → Prop} {s : Shared} {g : Heap} {L P I : Addr} {oI : Obj} {m : Str → Option Value} {pT : Addr × Obj} {rest : List (Addr × Obj)} {l : List (Str × Tok)} {n i : Nat} {y : Str} {t : Tok} {row h : List Nat} {Q : Value → Shared → Prop} (hy : y = S h)
    (F : Fr g L s.heap m) (N : News g L s.heap (pT :: (I, oI) :: (P, lo l n) :: rest)) (hIP : I ≠ P) (hr : ∀ p ∈ rest, p.1 ≠ P) (hsz : l.length ≤ 5000) (hi : i < row.length)
    (k : ∀ h' x, x = S (row.getD i 0 :: h) → Fr g L h' m → News g L h' ((I, oI) :: (P, lo (l ++ [(x, t)]) (n + 1)) :: rest) → Q .none { s with heap := h' }) :
    wpAny (model prog w) A (call (.builtin "list.append") [.ref P, .str (Txt.item (S row) (0 + (i : Int)) ++ y) t]) Q E s :=
  append_lo F (tail1 N) (.tail hIP (.head hr)) hsz fun h' F' N' => k h' _ (by
    have hi' : (0 : Int) + (i : Int) < (S row).length := by rw [S_len]; omega
    rw [hy, item_at (by omega) hi', S_cps, S_app, show ((0 : Int) + (i : Int)).toNat = i by omega]; rfl) F' N'
section
variable (w : World) {g : Heap} {L a : Addr} {cd : Value} {mean : ExcName → Option Value} {mg mb : Str → Option Value} {m : Str → Option Value} {s : Shared}
theorem law_s10 {Q E} {D : Addr} {tot : Int} {row : List Nat} {ys : List Value} {o1 o2 o3 o4 : Obj} (X : (hd.heap_39 w.params).In g) (T : Top hd.view_39 (looseW hd.view_39 []) mean mg mb g)
   (F : Fr g L s.heap m) (N : News g L s.heap ((D, lst ys) :: cell4 L o1 o2 o3 o4)) (hv : Live D tot row m)
   (hQ : ∀ h' tk' m' P, Fr g L h' m' → Live D tot row m' → m' "pieces" = some (.ref P) → News g L h' ((P, lo [] 0) :: (D, lst ys) :: cell4 L o1 o2 o3 o4) → (∀ p ∈ (D, lst ys) :: cell4 L o1 o2 o3 o4, p.1 < P) → Q .next { s with heap := h', toks := tk' }) :
   wpAny (model Challenge.rw_wb0029_01.row.prog w) (lA L a cd) (exec ((bodyOf (topStmt 14)).getD 9 default) (lEnv L a cd)) Q E s := by
  revert X; k_fill; intro X
  obtain ⟨l1, ⟨ta, l2⟩, ⟨tb, l3⟩⟩ := hv
  replace F := fr_eq (put_eq l1 (put_eq l2 (put_eq l3 rfl))) F
  k_dflt (show wpAny _ _ (exec (Stmt.Assign _ _ _) _) _ _ _)
  k_steps
  exact hQ _ _ _ _ (by assumption) ⟨rfl, ⟨_, rfl⟩, ⟨_, rfl⟩⟩ rfl (by assumption) (all5 (by assumption))
local macro_rules | `(tactic| walk_at "exec For") => `(tactic| walk_at "MINE src")
local macro_rules | `(tactic| walk_at "call builtin:list.append") => `(tactic| (k_here; refine halt ?_))
theorem law_s11 {Q E} {D P : Addr} {tot : Int} {row : List Nat} {ys : List Value} {cs : List Int} {o1 o2 o3 o4 : Obj} (X : (hd.heap_39 w.params).In g) (T : Top hd.view_39 (looseW hd.view_39 []) mean mg mb g)
   (F : Fr g L s.heap m) (N : News g L s.heap ((P, lo [] 0) :: (D, lst ys) :: cell4 L o1 o2 o3 o4)) (hv : Live D tot row m) (e1 : m "pieces" = some (.ref P)) (hDP : ∀ p ∈ (D, lst ys) :: cell4 L o1 o2 o3 o4, p.1 < P) (hI : IntsAre ys cs) (h4 : cs.length = 4) (hC : ∀ c ∈ cs, InC c) (h15 : row.length = 15)
   (hQ : ∀ h' tk' m' l n pcs, Fr g L h' m' → Live D tot row m' → m' "pieces" = some (.ref P) → News g L h' ((P, lo l n) :: (D, lst ys) :: cell4 L o1 o2 o3 o4) → l.map (·.1) = pcs.map Mine.S → Pieces row pcs → Q .next { s with heap := h', toks := tk' }) :
   wpAny (model Challenge.rw_wb0029_01.row.prog w) (lA L a cd) (exec ((bodyOf (topStmt 14)).getD 10 default) (lEnv L a cd)) Q E s := by
  revert X; k_fill; intro X
  obtain ⟨l1, ⟨ta, l2⟩, ⟨tb, l3⟩⟩ := hv
  replace F := fr_eq (put_eq e1 (put_eq l1 (put_eq l2 (put_eq l3 rfl)))) F
  k_dflt (show wpAny _ _ (exec (Stmt.For _ _ _ _ _) _) _ _ _)
  k_steps
  unfold LoopSrc
  refine ⟨HT s, _, _, _, QJ P ((D, lst ys) :: cell4 L o1 o2 o3 o4) D tot row, _, _, Source.range _ 0 15 _ _ _ 15 (by assumption) (by decide) (by decide), rfl, (by assumption), (by assumption), trivial, HT.still, HT.mk, ?_, ?_, ?_⟩
  · exact ⟨[], 0, [], rfl, ⟨rfl, ⟨_, rfl⟩, ⟨_, rfl⟩⟩, rfl, rfl, Pieces.nil⟩
  · rintro i v m₁ n₁ s₁ I oI hi ⟨tv, rfl⟩ ⟨l, n, pcs, rfl, ⟨l1, ⟨ta, l2⟩, ⟨tb, l3⟩⟩, q1, el, hp⟩ ⟨h, tk, rfl⟩ F1 N1 off _
    replace F1 := fr_eq (put_in (put_eq q1 (put_eq l1 (put_eq l2 (put_eq l3 rfl))))) F1
    skip
    have hk0 : (0 : Int) ≤ 0 + (i : Int) := by omega
    have hk1 : (0 : Int) + (i : Int) < 15 := by omega
    have hrl : (Mine.S row).length = 15 := by rw [S_len]; exact h15
    have hir : i < row.length := by omega
    have hIP : I ≠ P := Ne.symm (off _ (.head _))
    have hpl := hp.len
    have hl5 : l.length ≤ 5000 := by
      have := congrArg List.length el
      simp only [List.length_map] at this
      rw [this, hpl, List.length_take]; omega
    have fin : ∀ (h : List Nat) (x : Str) (t : Tok), h ∈ hidAll → x = Mine.S (row.getD i 0 :: h) → (l ++ [(x, t)]).map (·.1) = (pcs ++ [row.getD i 0 :: h]).map Mine.S ∧ Pieces (row.take (i + 1)) (pcs ++ [row.getD i 0 :: h]) := fun h x t hh hx => by
      refine ⟨by rw [List.map_append, List.map_append, el, hx]; rfl, ?_⟩
      rw [List.take_add_one, List.getElem?_eq_getElem hir, show row.getD i 0 = row[i] by simp [List.getD, hir]]
      exact Pieces.snoc hp hh
    have offIP : ∀ (o : Obj), ∀ p ∈ (P, o) :: (D, lst ys) :: cell4 L o1 o2 o3 o4, p.1 ≠ I := fun o p hp => by
      rcases List.mem_cons.mp hp with rfl | hp
      · exact Ne.symm hIP
      · exact off p (.tail _ hp)
    dsimp only at F1 N1 ⊢
    k_steps
    all_goals
      first
      | (refine Halt.out (app_row (h := []) e_is (by assumption) (by assumption) hIP (fun p hp => Nat.ne_of_lt (hDP p hp)) hl5 hir ?_); intro h' x hx F' N'; obtain ⟨el', hp'⟩ := fin [] x _ (by decide) hx; k_steps; dsimp only [TurnEnd]; exact ⟨_, _, HT.mk, by assumption, by assumption, offIP _, trivial, _, _, _, rfl, ⟨rfl, ⟨_, rfl⟩, ⟨_, rfl⟩⟩, rfl, el', hp'⟩)
      | (refine Halt.out (app_row (h := [92, 40]) hy1 (by assumption) (by assumption) hIP (fun p hp => Nat.ne_of_lt (hDP p hp)) hl5 hir ?_); intro h' x hx F' N'; obtain ⟨el', hp'⟩ := fin [92, 40] x _ (by decide) hx; k_steps; dsimp only [TurnEnd]; exact ⟨_, _, HT.mk, by assumption, by assumption, offIP _, trivial, _, _, _, rfl, ⟨rfl, ⟨_, rfl⟩, ⟨_, rfl⟩⟩, rfl, el', hp'⟩)
      | (refine Halt.out (app_row (h := [92, 41]) hy2 (by assumption) (by assumption) hIP (fun p hp => Nat.ne_of_lt (hDP p hp)) hl5 hir ?_); intro h' x hx F' N'; obtain ⟨el', hp'⟩ := fin [92, 41] x _ (by decide) hx; k_steps; dsimp only [TurnEnd]; exact ⟨_, _, HT.mk, by assumption, by assumption, offIP _, trivial, _, _, _, rfl, ⟨rfl, ⟨_, rfl⟩, ⟨_, rfl⟩⟩, rfl, el', hp'⟩)
      | (refine Halt.out (app_row (h := [34, 40, 34]) hy3 (by assumption) (by assumption) hIP (fun p hp => Nat.ne_of_lt (hDP p hp)) hl5 hir ?_); intro h' x hx F' N'; obtain ⟨el', hp'⟩ := fin [34, 40, 34] x _ (by decide) hx; k_steps; dsimp only [TurnEnd]; exact ⟨_, _, HT.mk, by assumption, by assumption, offIP _, trivial, _, _, _, rfl, ⟨rfl, ⟨_, rfl⟩, ⟨_, rfl⟩⟩, rfl, el', hp'⟩)
      | (refine Halt.out (app_row (h := [34, 92, 34, 41, 34]) hy4 (by assumption) (by assumption) hIP (fun p hp => Nat.ne_of_lt (hDP p hp)) hl5 hir ?_); intro h' x hx F' N'; obtain ⟨el', hp'⟩ := fin [34, 92, 34, 41, 34] x _ (by decide) hx; k_steps; dsimp only [TurnEnd]; exact ⟨_, _, HT.mk, by assumption, by assumption, offIP _, trivial, _, _, _, rfl, ⟨rfl, ⟨_, rfl⟩, ⟨_, rfl⟩⟩, rfl, el', hp'⟩)
      | (refine Halt.out (app_row (h := [92, 92]) hy5 (by assumption) (by assumption) hIP (fun p hp => Nat.ne_of_lt (hDP p hp)) hl5 hir ?_); intro h' x hx F' N'; obtain ⟨el', hp'⟩ := fin [92, 92] x _ (by decide) hx; k_steps; dsimp only [TurnEnd]; exact ⟨_, _, HT.mk, by assumption, by assumption, offIP _, trivial, _, _, _, rfl, ⟨rfl, ⟨_, rfl⟩, ⟨_, rfl⟩⟩, rfl, el', hp'⟩)
  · rintro m₁ n₁ s₁ ⟨h, tk, rfl⟩ F1 N1 ⟨l, n, pcs, rfl, lv, q1, el, hp⟩
    rw [List.take_of_length_le (by omega)] at hp
    exact hQ _ _ _ _ _ _ F1 lv q1 N1 el hp
end
end Mine
end Part32x
section Part33x
open PySem PySem.W PyProof.Rows PyProof.Rows.LCg PySem.Spec PySem.Calls
set_option Elab.async false
set_option maxRecDepth 100000
set_option maxHeartbeats 400000
namespace Mine
local macro_rules | `(tactic| walk_at "MINE none") => `(tactic| skip)
local macro_rules | `(tactic| walk_at "MINE none") => `(tactic| skip)
local macro_rules | `(tactic| walk_at "MINE none") => `(tactic| skip)
noncomputable abbrev led (P D L : Addr) (l : List (Str × Tok)) (n : Nat) (ys : List Value) (o1 o2 o3 o4 : Obj) : List (Addr × Obj) := (P, lo l n) :: (D, lst ys) :: cell4 L o1 o2 o3 o4
noncomputable def rep (n : Int) (c : Nat) : List Nat := List.replicate n.toNat c
theorem mulS {c : Nat} {y : Str} (h : y = S [c]) (n : Int) : Txt.mul y n = S (rep n c) := by
  rw [h, ← S_of (Txt.mul (S [c]) n), show S [c] = ⟨#[c]⟩ from rfl, mul_one_list]; rfl
theorem rep_le {c : Nat} {n : Int} {k : Nat} (hn : n ≤ k) : (rep n c).length ≤ k := by
  rw [rep, List.length_replicate]; exact Int.toNat_le.mpr hn
theorem len3 {a b c : List Nat} {i j k n : Nat} (ha : a.length ≤ i) (hb : b.length ≤ j) (hc : c.length ≤ k) (h : i + j + k ≤ n) : (a ++ b ++ c).length ≤ n := by
  rw [List.length_append, List.length_append]; exact Nat.le_trans (Nat.add_le_add (Nat.add_le_add ha hb) hc) h
theorem len4 {a b c d : List Nat} {i j k l n : Nat} (ha : a.length ≤ i) (hb : b.length ≤ j) (hc : c.length ≤ k) (hd : d.length ≤ l) (h : i + j + k + l ≤ n) : (a ++ b ++ c ++ d).length ≤ n := by
  rw [List.length_append]; exact Nat.le_trans (Nat.add_le_add (len3 ha hb hc (Nat.le_refl _)) hd) h
theorem mul_le {c : Nat} {y : Str} (h : y = S [c]) {n : Int} {k : Nat} (hn : n ≤ k) : (Txt.mul y n).length ≤ k := by
  rw [mulS h, S_len, rep, List.length_replicate]; exact Int.toNat_le.mpr hn
theorem mul40 (n : Int) : Txt.mul (Str.ofString "(") n = S (rep n 40) := mulS tl n
theorem mul41 (n : Int) : Txt.mul (Str.ofString ")") n = S (rep n 41) := mulS tr n
theorem mul92 (n : Int) : Txt.mul (Str.ofString "\\") n = S (rep n 92) := mulS bs_is n
theorem mul34 (n : Int) : Txt.mul (Str.ofString "\"") n = S (rep n 34) := mulS q_is n
theorem asc {l : List Nat} (h : ∀ c ∈ l, c < 128) : (S l).cps.all (· < 128) = true := by
  rw [Array.all_eq_true']
  intro c hc
  simpa using h c (by simpa [S] using hc)
theorem asc_app {a b : List Nat} (ha : ∀ c ∈ a, c < 128) (hb : ∀ c ∈ b, c < 128) : ∀ c ∈ a ++ b, c < 128 := fun c hc => (List.mem_append.mp hc).elim (ha c) (hb c)
theorem asc_rep {n : Int} {k : Nat} (h : k < 128) : ∀ c ∈ rep n k, c < 128 := fun c hc => by rw [(List.mem_replicate.mp hc).2]; exact h
theorem SG.still {s : Shared} : Still (SG s) := ⟨fun a h tk x => x⟩
section
variable (w : World) {g : Heap} {L a : Addr} {cd : Value} {mean : ExcName → Option Value} {mg mb : Str → Option Value} {m : Str → Option Value} {s : Shared}
local macro_rules | `(tactic| walk_at "exec For Name Tuple cons nil") => `(tactic| walk_at "MINE src")
local macro_rules | `(tactic| walk_at "call ref") => `(tactic| (k_here; (with_reducible show wpAny _ _ (call (Value.ref 74) _) _ _ _); refine halt ?_))
theorem law_cB {Q E} {D P : Addr} {tot r ri : Int} {row b tx : List Nat} {ys : List Value} {l : List (Str × Tok)} {n : Nat} {tb tt tr ti : Tok} {o1 o2 o3 o4 oI : Obj} {I : Addr} (X : (hd.heap_39 w.params).In g) (T : Top hd.view_39 (looseW hd.view_39 []) mean mg mb g) (K0 : Below callerA g [] g)
   (F : Fr g L s.heap m) (N : News g L s.heap ((I, oI) :: led P D L l n ys o1 o2 o3 o4)) (hv : Live D tot row m) (e1 : m "pieces" = some (.ref P)) (e2 : m "bare" = some (.str (Mine.S b) tb)) (e3 : m "text" = some (.str (Mine.S tx) tt)) (e4 : m "ridges" = some (.int r tr)) (e5 : m "rise" = some (.int ri ti))
   (r0 : 0 ≤ r) (r4 : r ≤ 4) (i0 : -1 ≤ ri) (i1 : ri ≤ 1) (hb : b.length ≤ 15) (hx : tx.length ≤ 200) (ab : ∀ c ∈ b, c < 128) (ax : ∀ c ∈ tx, c < 128)
   (c1 : checkF (rep r 40 ++ tx ++ rep (r + ri) 41 ++ rep ((tot.fdiv 2).fmod 2) 92) = true) (c2 : checkF (rep (r - 1) 40 ++ b ++ rep (r - 1 + ri) 41) = false) (c3 : checkF (rep (r + 1) 40 ++ b ++ rep (r + ri) 41) = false)
   (hQ : ∀ s' m', SG s s' → Fr g L s'.heap m' → Live D tot row m' → m' "pieces" = some (.ref P) → News g L s'.heap ((I, oI) :: led P D L l n ys o1 o2 o3 o4) → Q .next s') :
   wpAny (model Challenge.rw_wb0029_01.row.prog w) (lA L a cd) (execs ((forBody ((bodyOf (topStmt 14)).getD 11 default)).drop 4) (lEnv L a cd)) Q E s := by
  revert X; k_fill; intro X
  obtain ⟨l1, ⟨ta, l2⟩, ⟨tb, l3⟩⟩ := hv
  replace F := fr_eq (put_eq e1 (put_eq e2 (put_eq e3 (put_eq e4 (put_eq e5 (put_eq l1 (put_eq l2 (put_eq l3 rfl)))))))) F
  have hbl : (Mine.S b).length ≤ 15 := by rw [S_len]; exact hb
  have hxl : (Mine.S tx).length ≤ 200 := by rw [S_len]; exact hx
  have q0 : 0 ≤ (tot.fdiv 2).fmod 2 := Int.fmod_nonneg_of_pos _ (by decide)
  have q1 : (tot.fdiv 2).fmod 2 < 2 := Int.fmod_lt_of_pos _ (by decide)
  have z1 : (Txt.mul (Str.ofString "(") r).length ≤ 4 := mul_le tl r4
  have z2 : (Txt.mul (Str.ofString "(") (r - 1)).length ≤ 4 := mul_le tl (by omega)
  have z3 : (Txt.mul (Str.ofString "(") (r + 1)).length ≤ 5 := mul_le tl (by omega)
  have z4 : (Txt.mul (Str.ofString ")") (r + ri)).length ≤ 5 := mul_le Mine.tr (by omega)
  have z5 : (Txt.mul (Str.ofString ")") (r - 1 + ri)).length ≤ 5 := mul_le Mine.tr (by omega)
  have z6 : (Txt.mul (Str.ofString "\\") ((tot.fdiv 2).fmod 2)).length ≤ 2 := mul_le bs_is (by omega)
  refine wpAny_noRaise ?_
  k_dflt (show wpAny _ _ (execs (_ :: _) _) _ _ _)
  k_steps
  refine Halt.out ?_
  simp only [mul40, mul41, mul92, S_app]
  k_dflt (refine' use_claimG (check_ok w mean mg mb (Mine.S (rep r 40 ++ tx ++ rep (r + ri) 41 ++ rep ((tot.fdiv 2).fmod 2) 92)) _ ?l1 ?l2) K0 F X T ?hk ?hd ?hu ?_)
  case l1 => rw [S_len]; exact len4 (rep_le (k := 4) r4) hx (rep_le (k := 5) (Int.add_le_add r4 i1)) (rep_le (k := 2) (Int.le_of_lt q1)) (by decide)
  case l2 => exact asc (asc_app (asc_app (asc_app (asc_rep (by decide)) ax) (asc_rep (by decide))) (asc_rep (by decide)))
  case hk => rfl
  case hd => ktr_room
  case hu => ktr_units
  intro t' s' kp sg
  rw [S_cps, c1]
  have F' := F.keeps kp
  have N' := N.grown kp
  have sg0 : SG s s' := sg
  clear F N sg kp
  (try dsimp only)
  k_steps
  unfold LoopSrc
  rename Fr _ _ _ _ => F2
  rename News _ _ _ _ => N2
  refine ⟨SG s', _, _, _, LJ2 P ((I, oI) :: led P D L l n ys o1 o2 o3 o4) D tot row, _, _, Source.tup _ _, rfl, F2, N2, .inr ⟨_, .head _, rfl, _, rfl⟩, SG.still, ⟨rfl, id⟩, ⟨fun p hp => .tail _ hp, ⟨rfl, ⟨_, rfl⟩, ⟨_, rfl⟩⟩, rfl⟩, ?_, ?_⟩
  · rintro i v m₁ n₁ s₁ I2 oI2 hi hP ⟨hsub, ⟨l1, ⟨ta, l2⟩, ⟨tb, l3⟩⟩, q1⟩ hsg F1 N1 off hS
    replace F1 := fr_eq (put_in (put_eq q1 (put_eq l1 (put_eq l2 (put_eq l3 rfl))))) F1
    simp only [mul40, mul41, S_app] at hP
    have hPv : ∃ (x : List Nat) (t : Tok), v = .str (Mine.S x) t ∧ checkF x = false ∧ x.length ≤ 1000 ∧ ∀ c ∈ x, c < 128 := by
      rcases i with _ | _ | i
      · exact ⟨_, _, (Option.some.inj hP).symm, c2, len3 (rep_le (k := 4) (by omega)) hb (rep_le (k := 5) (by omega)) (by decide), asc_app (asc_app (asc_rep (by decide)) ab) (asc_rep (by decide))⟩
      · exact ⟨_, _, (Option.some.inj hP).symm, c3, len3 (rep_le (k := 5) (by omega)) hb (rep_le (k := 5) (by omega)) (by decide), asc_app (asc_app (asc_rep (by decide)) ab) (asc_rep (by decide))⟩
      · exact absurd hi (by show ¬ (i + 1 + 1 < 2); omega)
    obtain ⟨x, tx', rfl, hcx, hxl', hxa⟩ := hPv
    clear F2 N2
    k_steps
    refine Halt.out ?_
    k_dflt (refine' use_claimG (check_ok w mean mg mb (Mine.S x) _ ?l1 ?l2) K0 F1 X T ?hk ?hd ?hu ?_)
    case l1 => rw [S_len]; exact hxl'
    case l2 => exact asc hxa
    case hk => rfl
    case hd => ktr_room
    case hu => ktr_units
    intro t' s₂ kp sg2
    rw [S_cps, hcx]
    have F3 := F1.keeps kp
    have N3 := N1.grown kp
    have sg3 : SG s' s₂ := hsg.trans sg2
    clear F1 N1 kp sg2
    (try dsimp only)
    k_steps
    dsimp only [TurnEnd]
    exact ⟨_, _, sg3.ht HT.mk, F3, N3, off, hS, hsub, ⟨rfl, ⟨_, rfl⟩, ⟨_, rfl⟩⟩, rfl⟩
  · rintro m₁ n₁ s₁ hsg F1 N1 ⟨hsub, lv, q1⟩
    k_dflt (refine wpAny_execs_nil ?_)
    exact hQ s₁ m₁ (sg0.trans hsg) F1 lv q1 fun p hp => N1 p (hsub p hp)
end
end Mine
end Part33x
section Part34x
open PySem PySem.W PyProof.Rows PyProof.Rows.LCg PySem.Spec PySem.Calls
set_option Elab.async false
set_option maxRecDepth 100000
set_option maxHeartbeats 400000
namespace Mine
local macro_rules | `(tactic| walk_at "MINE none") => `(tactic| skip)
local macro_rules | `(tactic| walk_at "MINE none") => `(tactic| skip)
local macro_rules | `(tactic| walk_at "MINE none") => `(tactic| skip)
local macro_rules | `(tactic| walk_at "MINE none") => `(tactic| skip)
local macro_rules | `(tactic| walk_at "MINE none") => `(tactic| skip)
local macro_rules | `(tactic| walk_at "MINE none") => `(tactic| skip)
noncomputable def ridg (f4 : List Nat) (k : Int) : Int := Txt.count (Txt.slice (S f4) none (some k)) (Str.ofString ")")
noncomputable def rise (f4 : List Nat) (k : Int) : Int := if (Txt.item (S f4) (k - 1) == Str.ofString "(") = true then 1 else -1
structure Cok (f4 b tx : List Nat) (tot k : Int) : Prop where
  r0 : 0 ≤ ridg f4 k
  r4 : ridg f4 k ≤ 4
  c1 : checkF (rep (ridg f4 k) 40 ++ tx ++ rep (ridg f4 k + rise f4 k) 41 ++ rep ((tot.fdiv 2).fmod 2) 92) = true
  c2 : checkF (rep (ridg f4 k - 1) 40 ++ b ++ rep (ridg f4 k - 1 + rise f4 k) 41) = false
  c3 : checkF (rep (ridg f4 k + 1) 40 ++ b ++ rep (ridg f4 k + rise f4 k) 41) = false
theorem pcs_len {r : List Nat} {ps : List (List Nat)} (h : Pieces r ps) : ∀ y ∈ ps, y.length ≤ 6 := by
  induction h with
  | nil => intro y hy; cases hy
  | snoc _ hh ih =>
    intro y hy
    rcases List.mem_append.mp hy with hy | hy
    · exact ih y hy
    · rw [List.mem_singleton.mp hy]
      revert hh
      simp only [hidAll, List.mem_cons, List.not_mem_nil, or_false]
      rintro (rfl | rfl | rfl | rfl | rfl | rfl) <;> simp
theorem pcs_asc {r : List Nat} {ps : List (List Nat)} (h : Pieces r ps) (hr : ∀ c ∈ r, c < 128) : ∀ c ∈ ps.flatten, c < 128 := by
  induction h with
  | nil => intro c hc; cases hc
  | snoc _ hh ih =>
    rw [List.flatten_append]
    refine asc_app (ih fun c hc => hr c (List.mem_append_left _ hc)) ?_
    intro c hc
    rw [List.flatten_singleton] at hc
    rcases List.mem_cons.mp hc with rfl | hc
    · exact hr _ (by simp)
    · revert hh hc
      simp only [hidAll, List.mem_cons, List.not_mem_nil, or_false]
      rintro (rfl | rfl | rfl | rfl | rfl | rfl) hc <;> simp at hc <;> omega
theorem flat_len {ps : List (List Nat)} (h : ∀ y ∈ ps, y.length ≤ 6) : ps.flatten.length ≤ ps.length * 6 := by
  induction ps with
  | nil => simp
  | cons a r ih =>
    have h1 := h a (.head _)
    have h2 := ih fun y hy => h y (.tail _ hy)
    simp only [List.flatten_cons, List.length_append, List.length_cons]
    omega
section
variable (w : World) {g : Heap} {L a : Addr} {cd : Value} {mean : ExcName → Option Value} {mg mb : Str → Option Value} {m : Str → Option Value} {s : Shared}
local macro_rules | `(tactic| walk_at "execs cons") => `(tactic| (k_here; (with_reducible show wpAny _ _ (execs (Stmt.If (Expr.Compare (Expr.Call _ _ _ _) _ _ _) _ _ _ :: Stmt.For _ _ _ _ _ :: _) _) _ _ _); refine halt ?_))
local macro_rules | `(tactic| walk_at "call builtin:str.join") => `(tactic| (k_here; refine halt ?_))
theorem law_cA {Q E} {D P : Addr} {tot k : Int} {b : Nat} {row f4 : List Nat} {pcs : List (List Nat)} {ys : List Value} {l : List (Str × Tok)} {n : Nat} {t2 tc : Tok} {o1 o2 o3 o4 oI : Obj} {I : Addr} (X : (hd.heap_39 w.params).In g) (T : Top hd.view_39 (looseW hd.view_39 []) mean mg mb g) (K0 : Below callerA g [] g)
   (F : Fr g L s.heap m) (N : News g L s.heap ((I, oI) :: led P D L l n ys o1 o2 o3 o4)) (hv : Live D tot row m) (e1 : m "pieces" = some (.ref P)) (e2 : m "count" = some (.int k tc)) (hk1 : 1 ≤ k) (hk3 : k ≤ 3) (hkb : (2 : Int) ^ k.toNat - 1 = (b : Nat)) (hb7 : b ≤ 7) (d2 : o2.data = .cell (some (.str (Mine.S f4) t2))) (h4 : f4.length = 4) (h15 : row.length = 15) (hp : Pieces row pcs) (el : l.map (·.1) = pcs.map Mine.S) (har : ∀ c ∈ row, c < 128)
   (hc : Cok f4 (row.take b) (row.take b) tot k)
   (hQ : ∀ s' m', SG s s' → Fr g L s'.heap m' → Live D tot row m' → m' "pieces" = some (.ref P) → News g L s'.heap ((I, oI) :: led P D L l n ys o1 o2 o3 o4) → Q .next s') :
   wpAny (model Challenge.rw_wb0029_01.row.prog w) (lA L a cd) (execs (forBody ((bodyOf (topStmt 14)).getD 11 default)) (lEnv L a cd)) Q E s := by
  revert X; k_fill; intro X
  obtain ⟨l1, ⟨ta, l2⟩, ⟨tb, l3⟩⟩ := hv
  replace F := fr_eq (put_eq e1 (put_eq e2 (put_eq l1 (put_eq l2 (put_eq l3 rfl))))) F
  have hfl : (Mine.S f4).length = 4 := by rw [S_len]; exact h4
  have hrl : (Mine.S row).length = 15 := by rw [S_len]; exact h15
  have hsl : Txt.slice (Mine.S row) none (some ((2 : Int) ^ Int.toNat k - 1)) = Mine.S (row.take b) := by
    rw [slice_S, S_cps, hkb, slF_to]
  refine wpAny_noRaise ?_
  k_dflt (show wpAny _ _ (execs (_ :: _) _) _ _ _)
  k_steps
  · refine Halt.out ?_
    rename Fr _ _ _ _ => F9
    rename News _ _ _ _ => N9
    rw [hsl] at F9
    rename (Txt.item _ _ == _) = true => hit
    have hri : rise f4 k = 1 := if_pos hit
    obtain ⟨r0, r4, c1, c2, c3⟩ := hc
    rw [hri] at c1 c2 c3
    exact law_cB w X T K0 F9 N9 ⟨rfl, ⟨_, rfl⟩, ⟨_, rfl⟩⟩ rfl rfl rfl rfl rfl r0 r4 (by decide) (by decide) (by rw [List.length_take]; omega) (by rw [List.length_take]; omega) (fun c hc => har c (List.mem_of_mem_take hc)) (fun c hc => har c (List.mem_of_mem_take hc)) c1 c2 c3 fun s' m' sg F' lv q N' => hQ s' m' sg F' lv q N'
  · refine Halt.out ?_
    rename Fr _ _ _ _ => F9
    rename News _ _ _ _ => N9
    rw [hsl] at F9
    rename (Txt.item _ _ == _) = false => hit
    have hri : rise f4 k = -1 := if_neg (by rw [hit]; decide)
    obtain ⟨r0, r4, c1, c2, c3⟩ := hc
    rw [hri] at c1 c2 c3
    exact law_cB w X T K0 F9 N9 ⟨rfl, ⟨_, rfl⟩, ⟨_, rfl⟩⟩ rfl rfl rfl rfl rfl r0 r4 (by decide) (by decide) (by rw [List.length_take]; omega) (by rw [List.length_take]; omega) (fun c hc => har c (List.mem_of_mem_take hc)) (fun c hc => har c (List.mem_of_mem_take hc)) c1 c2 c3 fun s' m' sg F' lv q N' => hQ s' m' sg F' lv q N'
theorem law_c4 {Q E} {D P : Addr} {tot : Int} {row f4 : List Nat} {pcs : List (List Nat)} {ys : List Value} {l : List (Str × Tok)} {n : Nat} {t2 tc : Tok} {o1 o2 o3 o4 oI : Obj} {I : Addr} (X : (hd.heap_39 w.params).In g) (T : Top hd.view_39 (looseW hd.view_39 []) mean mg mb g) (K0 : Below callerA g [] g)
   (F : Fr g L s.heap m) (N : News g L s.heap ((I, oI) :: led P D L l n ys o1 o2 o3 o4)) (hv : Live D tot row m) (e1 : m "pieces" = some (.ref P)) (e2 : m "count" = some (.int 4 tc)) (d2 : o2.data = .cell (some (.str (Mine.S f4) t2))) (h4 : f4.length = 4) (h15 : row.length = 15) (hp : Pieces row pcs) (el : l.map (·.1) = pcs.map Mine.S) (har : ∀ c ∈ row, c < 128)
   (hc : Cok f4 (row.take 15) (pcs.flatten ++ rep (tot.fmod 2) 34) tot 4)
   (hQ : ∀ s' m', SG s s' → Fr g L s'.heap m' → Live D tot row m' → m' "pieces" = some (.ref P) → News g L s'.heap ((I, oI) :: led P D L l n ys o1 o2 o3 o4) → Q .next s') :
   wpAny (model Challenge.rw_wb0029_01.row.prog w) (lA L a cd) (execs (forBody ((bodyOf (topStmt 14)).getD 11 default)) (lEnv L a cd)) Q E s := by
  revert X; k_fill; intro X
  obtain ⟨l1, ⟨ta, l2⟩, ⟨tb, l3⟩⟩ := hv
  replace F := fr_eq (put_eq e1 (put_eq e2 (put_eq l1 (put_eq l2 (put_eq l3 rfl))))) F
  have hfl : (Mine.S f4).length = 4 := by rw [S_len]; exact h4
  have hrl : (Mine.S row).length = 15 := by rw [S_len]; exact h15
  have hsl : Txt.slice (Mine.S row) none (some ((2 : Int) ^ Int.toNat 4 - 1)) = Mine.S (row.take 15) := by
    rw [slice_S, S_cps, show ((2 : Int) ^ Int.toNat 4 - 1) = ((15 : Nat) : Int) from rfl, slF_to]
  refine wpAny_noRaise ?_
  k_dflt (show wpAny _ _ (execs (_ :: _) _) _ _ _)
  k_steps
  have hpl := pcs_len hp
  have hfl6 := flat_len hpl
  have hpn := hp.len
  refine Halt.out (SC.join (News.isList (news := (I, oI) :: led P D L l n ys o1 o2 o3 o4) (by assumption) (.tail _ (.head _))) el (joinOk_of ?hok) ?_)
  case hok =>
    have := sum_bound (ls := pcs) fun y hy => Nat.le_trans (hpl y hy) (by decide)
    rw [e_is, S_len]; simp only [List.length_map, List.length_nil]; omega
  intro tj kj
  rw [join_S]
  have hfx : (Mine.S pcs.flatten).length ≤ 100 := by rw [S_len]; omega
  have q0 : 0 ≤ tot.fmod 2 := Int.fmod_nonneg_of_pos _ (by decide)
  have q1 : tot.fmod 2 < 2 := Int.fmod_lt_of_pos _ (by decide)
  k_steps
  · refine Halt.out ?_
    rename Fr _ _ _ _ => F9
    rename News _ _ _ _ => N9
    rw [hsl] at F9
    rw [mul34, S_app] at F9
    rename (Txt.item _ _ == _) = true => hit
    have hri : rise f4 4 = 1 := if_pos hit
    obtain ⟨r0, r4, c1, c2, c3⟩ := hc
    rw [hri] at c1 c2 c3
    exact law_cB w X T K0 F9 N9 ⟨rfl, ⟨_, rfl⟩, ⟨_, rfl⟩⟩ rfl rfl rfl rfl rfl r0 r4 (by decide) (by decide) (by rw [List.length_take]; omega) (by simp only [List.length_append, rep, List.length_replicate]; omega) (fun c hc => har c (List.mem_of_mem_take hc)) (asc_app (pcs_asc hp har) (asc_rep (by decide))) c1 c2 c3 fun s' m' sg F' lv q N' => hQ s' m' sg F' lv q N'
  · refine Halt.out ?_
    rename Fr _ _ _ _ => F9
    rename News _ _ _ _ => N9
    rw [hsl] at F9
    rw [mul34, S_app] at F9
    rename (Txt.item _ _ == _) = false => hit
    have hri : rise f4 4 = -1 := if_neg (by rw [hit]; decide)
    obtain ⟨r0, r4, c1, c2, c3⟩ := hc
    rw [hri] at c1 c2 c3
    exact law_cB w X T K0 F9 N9 ⟨rfl, ⟨_, rfl⟩, ⟨_, rfl⟩⟩ rfl rfl rfl rfl rfl r0 r4 (by decide) (by decide) (by rw [List.length_take]; omega) (by simp only [List.length_append, rep, List.length_replicate]; omega) (fun c hc => har c (List.mem_of_mem_take hc)) (asc_app (pcs_asc hp har) (asc_rep (by decide))) c1 c2 c3 fun s' m' sg F' lv q N' => hQ s' m' sg F' lv q N'
local macro_rules | `(tactic| walk_at "exec For") => `(tactic| walk_at "MINE src")
local macro_rules | `(tactic| walk_at "exec For Name Call cons nil") => `(tactic| walk_at "MINE src")
theorem law_s12 {Q E} {D P : Addr} {tot : Int} {row f4 : List Nat} {pcs : List (List Nat)} {ys : List Value} {l : List (Str × Tok)} {n : Nat} {t2 : Tok} {o1 o2 o3 o4 : Obj} (X : (hd.heap_39 w.params).In g) (T : Top hd.view_39 (looseW hd.view_39 []) mean mg mb g) (K0 : Below callerA g [] g)
   (F : Fr g L s.heap m) (N : News g L s.heap (led P D L l n ys o1 o2 o3 o4)) (hv : Live D tot row m) (e1 : m "pieces" = some (.ref P)) (d2 : o2.data = .cell (some (.str (Mine.S f4) t2))) (h4 : f4.length = 4) (h15 : row.length = 15) (hp : Pieces row pcs) (el : l.map (·.1) = pcs.map Mine.S) (har : ∀ c ∈ row, c < 128)
   (hc1 : Cok f4 (row.take 1) (row.take 1) tot 1) (hc2 : Cok f4 (row.take 3) (row.take 3) tot 2) (hc3 : Cok f4 (row.take 7) (row.take 7) tot 3) (hc4 : Cok f4 (row.take 15) (pcs.flatten ++ rep (tot.fmod 2) 34) tot 4)
   (hQ : ∀ s' m', SG s s' → Fr g L s'.heap m' → Live D tot row m' → News g L s'.heap ((D, lst ys) :: cell4 L o1 o2 o3 o4) → Q .next s') :
   wpAny (model Challenge.rw_wb0029_01.row.prog w) (lA L a cd) (exec ((bodyOf (topStmt 14)).getD 11 default) (lEnv L a cd)) Q E s := by
  revert X; k_fill; intro X
  obtain ⟨l1, ⟨ta, l2⟩, ⟨tb, l3⟩⟩ := hv
  replace F := fr_eq (put_eq e1 (put_eq l1 (put_eq l2 (put_eq l3 rfl)))) F
  refine wpAny_noRaise ?_
  k_dflt (show wpAny _ _ (exec (Stmt.For _ _ _ _ _) _) _ _ _)
  k_steps
  unfold LoopSrc
  refine ⟨SG s, _, _, _, fun i m₁ n₁ => n₁ = led P D L l n ys o1 o2 o3 o4 ∧ Live D tot row m₁ ∧ m₁ "pieces" = some (.ref P), _, _, Source.range _ 1 5 _ _ _ 4 (by assumption) (by decide) (by decide), rfl, (by assumption), (by assumption), trivial, SG.still, ⟨rfl, id⟩, ⟨rfl, ⟨rfl, ⟨_, rfl⟩, ⟨_, rfl⟩⟩, rfl⟩, ?_, ?_⟩
  · rintro i v m₁ n₁ s₁ I oI hi ⟨tv, rfl⟩ ⟨rfl, ⟨l1, ⟨ta, l2⟩, ⟨tb, l3⟩⟩, q1⟩ hsg F1 N1 off _
    have fin : ∀ s' m', SG s₁ s' → Fr g L s'.heap m' → Live D tot row m' → m' "pieces" = some (.ref P) → News g L s'.heap ((I, oI) :: led P D L l n ys o1 o2 o3 o4) → TurnEnd g L I oI (fun _ => True) (SG s) (fun m₁ n₁ => n₁ = led P D L l n ys o1 o2 o3 o4 ∧ Live D tot row m₁ ∧ m₁ "pieces" = some (.ref P)) Q .next s' :=
      fun s' m' sg F' lv q N' => ⟨_, _, hsg.trans sg, F', N', off, trivial, rfl, lv, q⟩
    have lv : Live D tot row (fun y => if y = "count" then some (.int (1 + (i : Int)) tv) else m₁ y) := ⟨l1, ⟨_, l2⟩, ⟨_, l3⟩⟩
    rcases i with _ | _ | _ | _ | i
    · exact law_cA w X T K0 F1 N1 lv q1 rfl (k := 1) (b := 1) (by decide) (by decide) rfl (by decide) d2 h4 h15 hp el har hc1 fin
    · exact law_cA w X T K0 F1 N1 lv q1 rfl (k := 2) (b := 3) (by decide) (by decide) rfl (by decide) d2 h4 h15 hp el har hc2 fin
    · exact law_cA w X T K0 F1 N1 lv q1 rfl (k := 3) (b := 7) (by decide) (by decide) rfl (by decide) d2 h4 h15 hp el har hc3 fin
    · exact law_c4 w X T K0 F1 N1 lv q1 rfl d2 h4 h15 hp el har hc4 fin
    · omega
  · rintro m₁ n₁ s₁ hsg F1 N1 ⟨rfl, lv, q1⟩
    exact hQ s₁ m₁ hsg F1 lv (tail1 N1)
end
end Mine
end Part34x
section Part35x
open PySem PySem.W PyProof.Rows PyProof.Rows.LCg PySem.Spec PySem.Calls
set_option Elab.async false
set_option maxRecDepth 100000
set_option maxHeartbeats 400000
namespace Mine
theorem use_claimK {w : World} {mean mg mb} {f : Addr} {need : Nat} {vs : List Value} {R : Tok → Value} {dp un : Nat} {gd : Option (List Code)} {cn : Str} {cs : Scope} {a : Addr} {ccd : Value} {cl : List (Str × Addr)} {outer : List Env} {A₀ : Around} {base h₀ : Heap} {L : Addr} {m : Str → Option Value} {s : Shared} {Q E : Value → Shared → Prop} {news : List (Addr × Obj)}
   (C : ClaimK w mean mg mb f need vs R) (B : Below A₀ base outer h₀) (F : Fr h₀ L s.heap m) (N : News h₀ L s.heap news) (X : (KK w).In h₀) (T : TopX mean mg mb h₀) (hk : cs.kind = .function)
   (hd : dp + need < recursionLimit) (hu : un + 8 * need < cLine) (hQ : ∀ t h' tk', Fr h₀ L h' m → News h₀ L h' news → Q (R t) { s with heap := h', toks := tk' }) :
   wpAny (model PR w) (ktrTop dp un gd cn cs L a ccd cl outer) (call (.ref f) vs) Q E s := C dp un gd cn cs a ccd cl outer A₀ base h₀ L m s Q E B F X T hk hd hu fun t h' tk' k => hQ t h' tk' (F.keeps k) (N.grown k)
noncomputable def stepsT (row : List Nat) : Str := Txt.mul (Txt.item (S row) 0 ++ Str.ofString "..." ++ Txt.item (S row) 14 ++ Str.ofString "...") 4
section
variable (w : World) {g : Heap} {L a : Addr} {cd : Value} {mean : ExcName → Option Value} {mg mb : Str → Option Value} {m : Str → Option Value} {s : Shared}
local macro_rules | `(tactic| walk_at "call ref") => `(tactic| (k_here; (with_reducible show wpAny _ _ (call (Value.ref 53) _) _ _ _); refine halt ?_))
local macro_rules | `(tactic| walk_at "binaryOp Mult str int") => `(tactic| (k_here; (with_reducible show wpAny _ _ (binaryOp Operator.Mult (Value.str _ _) (Value.int _ _)) _ _ _); refine halt ?_))
local macro_rules | `(tactic| walk_at "exec For Name Tuple cons nil") => `(tactic| walk_at "MINE src")
theorem law_s13 {Q E} {D : Addr} {tot : Int} {row : List Nat} {ys : List Value} {o1 o2 o3 o4 : Obj} (X : (hd.heap_39 w.params).In g) (T : Top hd.view_39 (looseW hd.view_39 []) mean mg mb g) (K0 : Below callerA g [] g)
   (F : Fr g L s.heap m) (N : News g L s.heap ((D, lst ys) :: cell4 L o1 o2 o3 o4)) (hv : Live D tot row m) (h15 : row.length = 15)
   (hQ : ∀ h' tk' m' t, Fr g L h' m' → Live D tot row m' → m' "steps" = some (.str (stepsT row) t) → News g L h' ((D, lst ys) :: cell4 L o1 o2 o3 o4) → Q .next { s with heap := h', toks := tk' }) :
   wpAny (model Challenge.rw_wb0029_01.row.prog w) (lA L a cd) (exec ((bodyOf (topStmt 14)).getD 12 default) (lEnv L a cd)) Q E s := by
  revert X; k_fill; intro X
  obtain ⟨l1, ⟨ta, l2⟩, ⟨tb, l3⟩⟩ := hv
  replace F := fr_eq (put_eq l1 (put_eq l2 (put_eq l3 rfl))) F
  have hrl : (Mine.S row).length = 15 := by rw [S_len]; exact h15
  k_dflt (show wpAny _ _ (exec (Stmt.Assign _ _ _) _) _ _ _)
  k_steps
  have hd3 := d3
  have hst : (Txt.item (Mine.S row) 0 ++ Str.ofString "..." ++ Txt.item (Mine.S row) 14 ++ Str.ofString "...").length ≤ 8 := by omega
  refine Halt.out (SB.mul (mulOk_of 8 4 hst (by omega) (by omega) (by decide) (by decide)) ?_)
  intro tm km
  k_steps
  exact hQ _ _ _ _ (by assumption) ⟨rfl, ⟨_, rfl⟩, ⟨_, rfl⟩⟩ rfl (by assumption)
theorem law_s14 {Q E} {D : Addr} {tot : Int} {row : List Nat} {ys : List Value} {o1 o2 o3 o4 : Obj} {st : Str} {ts : Tok} (X : (hd.heap_39 w.params).In g) (T : Top hd.view_39 (looseW hd.view_39 []) mean mg mb g) (K0 : Below callerA g [] g)
   (F : Fr g L s.heap m) (N : News g L s.heap ((D, lst ys) :: cell4 L o1 o2 o3 o4)) (hv : Live D tot row m) (h15 : row.length = 15) (e1 : m "steps" = some (.str st ts)) (hst : st.length ≤ 32)
   (hE1 : ellF (Txt.slice st none (some (-3))) (Mine.S row) = true) (hE2 : ellF (Txt.slice (Mine.S row) none (some 7) ++ Str.ofString "..." ++ Txt.slice (Mine.S row) (some 8) none) (Mine.S row) = true)
   (hQ : ∀ h' tk' m', Fr g L h' m' → Live D tot row m' → m' "steps" = some (.str st ts) → News g L h' ((D, lst ys) :: cell4 L o1 o2 o3 o4) → Q .next { s with heap := h', toks := tk' }) :
   wpAny (model Challenge.rw_wb0029_01.row.prog w) (lA L a cd) (exec ((bodyOf (topStmt 14)).getD 13 default) (lEnv L a cd)) Q E s := by
  revert X; k_fill; intro X
  obtain ⟨l1, ⟨ta, l2⟩, ⟨tb, l3⟩⟩ := hv
  replace F := fr_eq (put_eq e1 (put_eq l1 (put_eq l2 (put_eq l3 rfl)))) F
  have hrl : (Mine.S row).length = 15 := by rw [S_len]; exact h15
  have hd3 := d3
  refine wpAny_noRaise ?_
  k_dflt (show wpAny _ _ (exec (Stmt.If _ _ _ _) _) _ _ _)
  k_steps
  refine Halt.out ?_
  k_dflt (refine' use_claimK (ell_ok w mean mg mb (Txt.slice st none (some (-3))) (Mine.S row) _ _ ?l1 ?l2) K0 (by assumption) (by assumption) X T ?hk ?hd ?hu ?_)
  case l1 => omega
  case l2 => omega
  case hk => rfl
  case hd => ktr_room
  case hu => ktr_units
  intro t h' tk' F' N'
  rw [hE1]
  (try dsimp only)
  k_steps
  refine Halt.out ?_
  k_dflt (refine' use_claimK (ell_ok w mean mg mb (Txt.slice (Mine.S row) none (some 7) ++ Str.ofString "..." ++ Txt.slice (Mine.S row) (some 8) none) (Mine.S row) _ _ ?l1 ?l2) K0 (by assumption) (by assumption) X T ?hk ?hd ?hu ?_)
  case l1 => omega
  case l2 => omega
  case hk => rfl
  case hd => ktr_room
  case hu => ktr_units
  intro t h' tk' F' N'
  rw [hE2]
  (try dsimp only)
  k_steps
  exact hQ _ _ _ (by assumption) ⟨rfl, ⟨_, rfl⟩, ⟨_, rfl⟩⟩ rfl (by assumption)
theorem law_s15 {Q E} {D : Addr} {tot : Int} {row : List Nat} {ys : List Value} {o1 o2 o3 o4 : Obj} {st : Str} {ts : Tok} (X : (hd.heap_39 w.params).In g) (T : Top hd.view_39 (looseW hd.view_39 []) mean mg mb g) (K0 : Below callerA g [] g)
   (F : Fr g L s.heap m) (N : News g L s.heap ((D, lst ys) :: cell4 L o1 o2 o3 o4)) (hv : Live D tot row m) (h15 : row.length = 15) (e1 : m "steps" = some (.str st ts)) (hst : st.length ≤ 32)
   (hE1 : ellF (st ++ Txt.item (Mine.S row) 0 ++ Str.ofString "...") (Mine.S row) = false) (hE2 : ellF (Txt.slice (Mine.S row) none (some 8) ++ Str.ofString "..." ++ Txt.slice (Mine.S row) (some 7) none) (Mine.S row) = false)
   (hE3 : ellF (Txt.slice (Mine.S row) (some 1) (some 7) ++ Str.ofString "..." ++ Txt.slice (Mine.S row) (some 8) none) (Mine.S row) = false) (hE4 : ellF (Txt.slice (Mine.S row) none (some 7) ++ Str.ofString "..." ++ Txt.slice (Mine.S row) (some 8) (some 14)) (Mine.S row) = false)
   (hQ : ∀ h' tk' m', Fr g L h' m' → Live D tot row m' → News g L h' ((D, lst ys) :: cell4 L o1 o2 o3 o4) → Q .next { s with heap := h', toks := tk' }) :
   wpAny (model Challenge.rw_wb0029_01.row.prog w) (lA L a cd) (exec ((bodyOf (topStmt 14)).getD 14 default) (lEnv L a cd)) Q E s := by
  revert X; k_fill; intro X
  obtain ⟨l1, ⟨ta, l2⟩, ⟨tb, l3⟩⟩ := hv
  replace F := fr_eq (put_eq e1 (put_eq l1 (put_eq l2 (put_eq l3 rfl)))) F
  have hrl : (Mine.S row).length = 15 := by rw [S_len]; exact h15
  have hd3 := d3
  refine wpAny_noRaise ?_
  k_dflt (show wpAny _ _ (exec (Stmt.For _ _ _ _ _) _) _ _ _)
  k_steps
  unfold LoopSrc
  rename Fr _ _ _ _ => F2
  rename News _ _ _ _ => N2
  refine ⟨HT s, _, _, _, LJ ((D, lst ys) :: cell4 L o1 o2 o3 o4) D tot row, _, _, Source.tup _ _, rfl, F2, N2, .inr ⟨_, .head _, rfl, _, rfl⟩, HT.still, HT.mk, ⟨fun p hp => .tail _ hp, ⟨rfl, ⟨_, rfl⟩, ⟨_, rfl⟩⟩⟩, ?_, ?_⟩
  · rintro i v m₁ n₁ s₁ I2 oI2 hi hP ⟨hsub, ⟨l1, ⟨ta, l2⟩, ⟨tb, l3⟩⟩⟩ ⟨h, tk, rfl⟩ F1 N1 off hS
    replace F1 := fr_eq (put_in (put_eq l1 (put_eq l2 (put_eq l3 rfl)))) F1
    have hPv : ∃ (x : Str) (t : Tok), v = .str x t ∧ ellF x (Mine.S row) = false ∧ x.length ≤ 1000 := by
      rcases i with _ | _ | _ | _ | i
      · exact ⟨_, _, (Option.some.inj hP).symm, hE1, by omega⟩
      · exact ⟨_, _, (Option.some.inj hP).symm, hE2, by omega⟩
      · exact ⟨_, _, (Option.some.inj hP).symm, hE3, by omega⟩
      · exact ⟨_, _, (Option.some.inj hP).symm, hE4, by omega⟩
      · exact absurd hi (by show ¬ (i + 1 + 1 + 1 + 1 < 4); omega)
    obtain ⟨x, tx', rfl, hcx, hxl'⟩ := hPv
    clear F2 N2
    dsimp only at F1 N1 ⊢
    k_steps
    refine Halt.out ?_
    k_dflt (refine' use_claimK (ell_ok w mean mg mb x (Mine.S row) _ _ ?l1 ?l2) K0 F1 N1 X T ?hk ?hd ?hu ?_)
    case l1 => exact hxl'
    case l2 => omega
    case hk => rfl
    case hd => ktr_room
    case hu => ktr_units
    intro t h' tk' F' N'
    rw [hcx]
    (try dsimp only)
    k_steps
    dsimp only [TurnEnd]
    exact ⟨_, _, HT.mk, by assumption, by assumption, off, hS, hsub, ⟨rfl, ⟨_, rfl⟩, ⟨_, rfl⟩⟩⟩
  · rintro m₁ n₁ s₁ ⟨h, tk, rfl⟩ F1 N1 ⟨hsub, lv⟩
    exact hQ _ _ m₁ F1 lv fun p hp => N1 p (hsub p hp)
end
end Mine
end Part35x
section Part36x
open PySem PySem.W PyProof.Rows PyProof.Rows.LCg PySem.Spec PySem.Calls
set_option Elab.async false
set_option maxRecDepth 100000
set_option maxHeartbeats 400000
namespace Mine
local macro_rules | `(tactic| walk_at "MINE none") => `(tactic| skip)
local macro_rules | `(tactic| walk_at "MINE none") => `(tactic| skip)
local macro_rules | `(tactic| walk_at "MINE none") => `(tactic| skip)
local macro_rules | `(tactic| walk_at "MINE none") => `(tactic| skip)
theorem small_n : ∀ n : Nat, n < 20 → Builtin.Range.small 0 (n : Int) 1 = true := by decide
theorem size_n : ∀ n : Nat, n < 20 → Builtin.Range.rangeSize 0 (n : Int) 1 = (n : Int) := by decide
noncomputable def twS (row : List Nat) (fi sz : Int) : Str := Txt.mul (Txt.slice (S row) (some fi) (some (fi + sz))) 2
noncomputable def twOk (row : List Nat) (fi sz : Int) : Prop := ellF (Str.ofString "..." ++ twS row fi sz ++ Str.ofString "...") (S row) = (([3, 5].any fun x => x == sz) && !(Builtin.Str.occurrences (S row) (twS row fi sz) 0 (S row).length 1).isEmpty)
section
variable (w : World) {g : Heap} {L a : Addr} {cd : Value} {mean : ExcName → Option Value} {mg mb : Str → Option Value} {m : Str → Option Value} {s : Shared}
local macro_rules | `(tactic| walk_at "call ref") => `(tactic| (k_here; (with_reducible show wpAny _ _ (call (Value.ref 53) _) _ _ _); refine halt ?_))
local macro_rules | `(tactic| walk_at "binaryOp Mult str int") => `(tactic| (k_here; (with_reducible show wpAny _ _ (binaryOp Operator.Mult (Value.str _ _) (Value.int _ _)) _ _ _); refine halt ?_))
local macro_rules | `(tactic| walk_at "exec For Name Call cons nil") => `(tactic| walk_at "MINE src")
theorem law_inner {Q E} {D : Addr} {tot sz fi : Int} {row : List Nat} {tsz tfi : Tok} {news : List (Addr × Obj)} (X : (hd.heap_39 w.params).In g) (T : Top hd.view_39 (looseW hd.view_39 []) mean mg mb g) (K0 : Below callerA g [] g)
   (F : Fr g L s.heap m) (N : News g L s.heap news) (hv : Live D tot row m) (h15 : row.length = 15) (e1 : m "size" = some (.int sz tsz)) (e2 : m "first" = some (.int fi tfi)) (z0 : 2 ≤ sz) (z1 : sz < 8) (f0 : 0 ≤ fi) (f1 : fi < 16 - 2 * sz)
   (hE : twOk row fi sz)
   (hQ : ∀ h' tk' m', Fr g L h' m' → Live D tot row m' → m' "size" = some (.int sz tsz) → News g L h' news → Q .next { s with heap := h', toks := tk' }) :
   wpAny (model Challenge.rw_wb0029_01.row.prog w) (lA L a cd) (execs (forBody ((forBody ((bodyOf (topStmt 14)).getD 15 default)).getD 0 default)) (lEnv L a cd)) Q E s := by
  revert X; k_fill; intro X
  obtain ⟨l1, ⟨ta, l2⟩, ⟨tb, l3⟩⟩ := hv
  replace F := fr_eq (put_eq e1 (put_eq e2 (put_eq l1 (put_eq l2 (put_eq l3 rfl))))) F
  have hrl : (Mine.S row).length = 15 := by rw [S_len]; exact h15
  have hd3 := d3
  refine wpAny_noRaise ?_
  k_dflt (show wpAny _ _ (execs (_ :: _) _) _ _ _)
  k_steps
  have hst : (Txt.slice (Mine.S row) (some fi) (some (fi + sz))).length ≤ 15 := by omega
  refine Halt.out (SB.mul (mulOk_of 15 2 hst (by omega) (by omega) (by decide) (by decide)) ?_)
  intro tm km
  have hml : (Txt.mul (Txt.slice (Mine.S row) (some fi) (some (fi + sz))) 2).length ≤ 30 := by
    have := len_mul (Txt.slice (Mine.S row) (some fi) (some (fi + sz))) 2
    rw [if_neg (by decide)] at this
    omega
  k_steps
  refine Halt.out ?_
  k_dflt (refine' use_claimK (ell_ok w mean mg mb (Str.ofString "..." ++ Txt.mul (Txt.slice (Mine.S row) (some fi) (some (fi + sz))) 2 ++ Str.ofString "...") (Mine.S row) _ _ ?l1 ?l2) K0 (by assumption) (by assumption) X T ?hk ?hd ?hu ?_)
  case l1 => omega
  case l2 => omega
  case hk => rfl
  case hd => ktr_room
  case hu => ktr_units
  intro t h' tk' F' N'
  unfold twOk twS at hE
  rw [hE]
  (try dsimp only)
  k_steps
  · rename ([3, 5].any _) = true => ha
    rename (_ != _) = true => hb
    rw [ha, Bool.true_and, bne_self_eq_false] at hb
    cases hb
  · exact hQ _ _ _ (by assumption) ⟨rfl, ⟨_, rfl⟩, ⟨_, rfl⟩⟩ rfl (tail1 (by assumption))
  · rename ([3, 5].any _) = false => ha
    rename (_ != _) = true => hb
    rw [ha, Bool.false_and, bne_self_eq_false] at hb
    cases hb
  · exact hQ _ _ _ (by assumption) ⟨rfl, ⟨_, rfl⟩, ⟨_, rfl⟩⟩ rfl (tail1 (by assumption))
theorem law_s16 {Q E} {D : Addr} {tot : Int} {row : List Nat} {news : List (Addr × Obj)} (X : (hd.heap_39 w.params).In g) (T : Top hd.view_39 (looseW hd.view_39 []) mean mg mb g) (K0 : Below callerA g [] g)
   (F : Fr g L s.heap m) (N : News g L s.heap news) (hv : Live D tot row m) (h15 : row.length = 15)
   (hE : ∀ i j : Nat, i < 6 → j < 12 - 2 * i → twOk row (0 + (j : Int)) (2 + (i : Int)))
   (hQ : ∀ h' tk' m', Fr g L h' m' → Live D tot row m' → News g L h' news → Q .next { s with heap := h', toks := tk' }) :
   wpAny (model Challenge.rw_wb0029_01.row.prog w) (lA L a cd) (exec ((bodyOf (topStmt 14)).getD 15 default) (lEnv L a cd)) Q E s := by
  revert X; k_fill; intro X
  obtain ⟨l1, ⟨ta, l2⟩, ⟨tb, l3⟩⟩ := hv
  replace F := fr_eq (put_eq l1 (put_eq l2 (put_eq l3 rfl))) F
  refine wpAny_noRaise ?_
  k_dflt (show wpAny _ _ (exec (Stmt.For _ _ _ _ _) _) _ _ _)
  k_steps
  unfold LoopSrc
  refine ⟨HT s, _, _, _, fun i m₁ n₁ => n₁ = news ∧ Live D tot row m₁, _, _, Source.range _ 2 8 _ _ _ 6 (by assumption) (by decide) (by decide), rfl, (by assumption), (by assumption), trivial, HT.still, HT.mk, ⟨rfl, ⟨rfl, ⟨_, rfl⟩, ⟨_, rfl⟩⟩⟩, ?_, ?_⟩
  · rintro i v m₁ n₁ s₁ I oI hi ⟨tv, rfl⟩ ⟨rfl, ⟨l1, ⟨ta, l2⟩, ⟨tb, l3⟩⟩⟩ ⟨h, tk, rfl⟩ F1 N1 off _
    replace F1 := fr_eq (put_in (put_eq l1 (put_eq l2 (put_eq l3 rfl)))) F1
    dsimp only at F1 N1 ⊢
    k_dflt (show wpAny _ _ (execs (Stmt.For _ _ _ _ _ :: []) _) _ _ _)
    k_steps
    unfold LoopSrc
    rename IsRange _ _ _ _ _ _ _ _ => hR
    rename Fr _ _ _ _ => F2
    rename News _ _ _ _ => N2
    have e16 : (16 : Int) - 2 * (2 + (i : Int)) = ((12 - 2 * i : Nat) : Int) := by omega
    have hn : 12 - 2 * i < 20 := by omega
    rw [e16] at hR
    refine ⟨HT s, _, _, _, fun j m₂ n₂ => n₂ = (I, oI) :: n₁ ∧ Live D tot row m₂ ∧ m₂ "size" = some (.int (2 + (i : Int)) tv), _, _, Source.range _ 0 ((12 - 2 * i : Nat) : Int) _ _ _ (12 - 2 * i) hR (small_n _ hn) (size_n _ hn), rfl, F2, N2, trivial, HT.still, HT.mk, ⟨rfl, ⟨rfl, ⟨_, rfl⟩, ⟨_, rfl⟩⟩, rfl⟩, ?_, ?_⟩
    · rintro j v m₂ n₂ s₂ I2 oI2 hj ⟨tv2, rfl⟩ ⟨rfl, ⟨l1, ⟨ta, l2⟩, ⟨tb, l3⟩⟩, q1⟩ ⟨h2, tk2, rfl⟩ F3 N3 off2' _
      refine law_inner w X T K0 F3 N3 (tot := tot) (row := row) (D := D) ⟨l1, ⟨_, l2⟩, ⟨_, l3⟩⟩ h15 q1 rfl (by omega) (by omega) (by omega) (by omega) (hE i j hi hj) ?_
      intro h' tk' m' F' lv q' N'
      exact ⟨_, _, HT.mk, F', N', off2', trivial, rfl, lv, q'⟩
    · rintro m₂ n₂ s₂ ⟨h2, tk2, rfl⟩ F3 N3 ⟨rfl, lv, q1⟩
      k_dflt (refine wpAny_execs_nil ?_)
      exact ⟨_, _, HT.mk, F3, N3, off, trivial, rfl, lv⟩
  · rintro m₁ n₁ s₁ ⟨h, tk, rfl⟩ F1 N1 ⟨rfl, lv⟩
    exact hQ _ _ m₁ F1 lv N1
end
end Mine
end Part36x
section Part37x
open PySem PySem.W PyProof.Rows PyProof.Rows.LCg PySem.Spec PySem.Calls
set_option Elab.async false
set_option maxRecDepth 100000
set_option maxHeartbeats 400000
namespace Mine
section
variable {prog : Program} {w : World} {A₀ : Around} {E : Value → Shared → Prop} {s' : Shared} {h₀ h : Heap} {outer : List Env} {L a e t : Addr} {m : Str → Option Value} {name : Str} {scope : Scope} {cd : Value} {cl : List (Str × Addr)}
  {vs : List Value} {n : Str} {b₀ : Stmt} {suite : List Stmt} {pos np : Pos} {rest : List ExceptHandler} {Q : Flow → Shared → Prop} {news : List (Addr × Obj)} {KF : Frag} {C : Addr} {bmB : List Value} {newId : String}
  {p : Program} {loose : List Str} {mean : ExcName → Option Value} {mg mb : Str → Option Value} {x : Str}
/-- an own exception is caught by name in a def that has cells -/
theorem caught_C (K : Below A₀ h₀ outer h₀) (F : Fr h₀ L h m) (hsm : h.UpToSlots s'.heap) (R : RaisedK h₀ (envX name scope L a cd cl :: outer) e (.ref C) t vs news s'.heap)
    (X : KF.In h₀) (T : TopRead p loose mg mb h₀) (ex : nsIn KF mainGlobals x = some (some (.ref C))) (q : excIn KF C bmB newId = true) (hbase : bmB.contains (.type "BaseException") = true)
    (k : ∀ h' news₂ tk, Fr h₀ L h' (fun y => if y = n then some (.ref e) else m y) → News h₀ L h' news₂ → Got news₂ e t (.ref C) vs → News h₀ L h' news →
      wpAny (model prog w) ((A₀.deeper (envX name scope L a cd cl)).mark (some (.ref e))) (execs (b₀ :: suite) (envX name scope L a cd cl))
        (fun f s₄ => wpAny (model prog w) (A₀.deeper (envX name scope L a cd cl)) (do bindName (envX name scope L a cd cl) n .none; unbindBehindTheSuite (envX name scope L a cd cl) n pos) (fun _ s₅ => Q f s₅) E s₄)
        (AsSuiteRaised (model prog w) ((A₀.deeper (envX name scope L a cd cl)).mark (some (.ref e))) (envX name scope L a cd cl) n pos (notedBy (model prog w) ((A₀.deeper (envX name scope L a cd cl)).mark (some (.ref e))) (envX name scope L a cd cl) (cameBackBy (model prog w) (A₀.deeper (envX name scope L a cd cl)) (envX name scope L a cd cl) E)))
        { s' with heap := h', toks := tk })
    (hk : scope.kind = .function) (hlo : (envX name scope L a cd cl).kindOf n = some .local) (hx : (envX name scope L a cd cl).kindOf x = some .globalImplicit) (hd : (x == ("__debug__" : Str)) = false) :
    wpAny (model prog w) (A₀.deeper (envX name scope L a cd cl)) (noteFrame (.ref e) (envX name scope L a cd cl))
      (fun _ s₂ => wpAny (model prog w) (A₀.deeper (envX name scope L a cd cl)) (setFlight (.ref e) none) (fun _ s₃ =>
        wpAny (model prog w) (A₀.deeper (envX name scope L a cd cl)) (handleBy (.ref e) (envX name scope L a cd cl) (.ExceptHandler (some (.Name x np)) (some n) (b₀ :: suite) pos :: rest)) Q E s₃) E s₂) E s' := by
  obtain ⟨⟨B, hB, hl, hfl, hnew⟩, htup⟩ := R
  have hL : B.get? L = none := by
    obtain ⟨_, ⟨L', _, hf, hn', _⟩, _⟩ := hfl.2.2.1
    obtain rfl : L = L' := Option.some.inj hf
    exact hn'
  refine wpAny_looks_onW (Around.frames_deeper K.stack) rfl hfl fun h₄ hheld₄ hsm₄ => ?_
  refine wpAny_landsW hheld₄ fun h₅ hheld hsm₅' => ?_
  have hsm₅ := hsm₄.trans hsm₅'
  have hheld' := flyingW_base hB hheld
  have F₅ := F.of_stays hheld'.1 (hsm.trans hsm₅)
  obtain ⟨ob, hob, hobc⟩ := hheld'.there
  refine wpAny_handleBy_cons (codeAny_handlers_test (nameX_K F₅ X T ex ?_ hk hx hd)) (by intro q; cases q)
  obtain ⟨bm, N, nm, qn, bs, hdct, sn, sub, ab, col, dd, k0, k1, k2, k3, k5, mN, hC, hN, hni, TL⟩ := ((own_of_in X T ex q).keeps F₅.keep).obj
  refine wpAny_excMatches_sub_self hC hob hobc (TL.hasType hbase) (codeAny_handlers_suite_as ?_)
  refine lands_againW hheld fun h₆ hfl₆ hsm₆ => ?_
  have hfl₆' := flyingW_base hB hfl₆
  have F₆ := F.of_stays hfl₆'.1 ((hsm.trans hsm₅).trans hsm₆)
  obtain ⟨oe, ws, hoe, hoec, hoed, hoe0⟩ := hfl₆'.first
  obtain ⟨ot, nt, hot, hotc, hotd⟩ := (htup.of_slots hsm₅).of_slots hsm₆
  have N₆ := News.more F₆ (News.more F₆ News.nil hot (fun es n q => by rw [hotd] at q; cases q) (fresh_of_stays hB hnew)) hoe (fun es n q => by rw [hoed] at q; cases q) hfl₆'.2.1
  have Nl : News h₀ L h₆ news := fun q hq => ⟨hfl₆.1 _ _ (hl q hq).1, (fun z => by have := (hl q hq).1; rw [z, hL] at this; cases this), (hl q hq).2⟩
  refine storeX_L F₆ (news := _ ++ news) (fun q hq => (List.mem_append.mp hq).elim (N₆ q) (Nl q)) (fun h₇ F₇ N₇ => ?_) hk hlo
  exact k h₇ _ _ F₇ (fun q hq => N₇ q (List.mem_append_left _ hq)) ⟨oe, ot, ws, nt, .head _, .tail _ (.head _), hoec, hoed, hoe0, hotc, hotd⟩ fun q hq => N₇ q (List.mem_append_right _ hq)
end
theorem goes_C {M : Model} {A : Around} {E : Value → Shared → Prop} {s : Shared} {name : Str} {scope : Scope} {L a : Addr} {cd : Value} {cl : List (Str × Addr)} {h₀ : Heap} {m : Str → Option Value} {news : List (Addr × Obj)} {n : Str} {pos : Pos} {Q : Unit → Shared → Prop} (F : Fr h₀ L s.heap m) (N : News h₀ L s.heap news)
    (h : ∀ h' v, Fr h₀ L h' (fun y => if y = n then v else m y) → News h₀ L h' news → Q () { s with heap := h', toks := s.toks + 1 })
    (hk : scope.kind = .function) (hl : (envX name scope L a cd cl).kindOf n = some .local) :
    wpAny M A (do bindName (envX name scope L a cd cl) n .none; unbindBehindTheSuite (envX name scope L a cd cl) n pos) Q E s :=
  wpAny_nameGoes_keeps hl F.ns (by show (scope.kind == .class || (scope.kind == .module && L != mainGlobals)) = false; rw [hk]; rfl) fun h' v hn hs => h h' v (F.set hn hs) (N.set hs)
end Mine
end Part37x
section Part38x
open PySem PySem.W PyProof.Rows PyProof.Rows.LCg PySem.Spec PySem.Calls
open Builtin Builtin.Str Builtin.BaseException Builtin.Exceptions
set_option Elab.async false
set_option maxRecDepth 100000
set_option maxHeartbeats 400000
namespace Mine
section
variable {prog : Program} {w : World} {A : Around} {E : Value → Shared → Prop} {s : Shared} {K : Frag} {e t0 C : Addr} {o ot : Obj} {vs : Array Value} {m : Str} {tk : Tok} {k : Nat}
theorem ty_own {M : Model} (ho : s.heap.get? e = some o) (hc : o.cls = .ref C) : Looks M s.heap (typeOf (.ref e)) (.ref C) := hc ▸ (Looks.ld ho).andThen .now
theorem bexc_own {Q : Fin → Shared → Prop} (ho : s.heap.get? e = some o) (hd : o.data = .fields vs) (h0 : vs[0]? = some (.ref t0)) (hto : s.heap.get? t0 = some ot) (htd : ot.data = .seq [Value.str m tk].toArray k) (hq : Q (.done (.ret (.str m tk))) s) :
    wpAny (model prog w) A (Builtin.«BaseException.__str__» ⟨[.ref e], []⟩) Q E s := by
  have key : ∀ (Q' : Value × List Value → Shared → Prop), Q' (.ref t0, [.str m tk]) s → wpAny (model prog w) A (bexcArgs (.ref e)) Q' E s := fun Q' hq' => by
    unfold bexcArgs
    refine wpAny_bind (wpAny_field ho hd h0 (wpAny_bind (wpAny_seqItems hto htd ?_)))
    exact wpAny_pure hq'
  unfold Builtin.«BaseException.__str__»
  repeat (first | with_reducible refine key _ ?_ | wp_step)
  exact hq
theorem call_own {Q : Value → Shared → Prop} (X : K.In s.heap) (hm : mroIn K C (.type "BaseException") = some true) (ho : s.heap.get? e = some o) (hc : o.cls = .ref C) (hd : o.data = .fields vs) (h0 : vs[0]? = some (.ref t0)) (hto : s.heap.get? t0 = some ot) (htd : ot.data = .seq [Value.str m tk].toArray k) (hq : Q (.str m tk) s) :
    wpAny (model prog w) A (call (.builtin "BaseException.__str__") [.ref e]) Q E s := by
  refine wpAny_call (codeAny_call_builtin PySem.F.excStr_Exception.str.plain PySem.F.entry_bexc_str (check_slot (i := "BaseException.__str__") (owner := "BaseException") (n := "__str__") (by decide +kernel) (by decide +kernel) ((ty_own ho hc).andThen (looks_mroIn X hm)) (PySem.F.args_bexc_str _) ?_))
  exact bexc_own ho hd h0 hto htd hq
theorem str_own {Q : Value → Shared → Prop} (X : K.In s.heap) (hs : findIn K (.ref C) "__str__" = some (some (.builtin "BaseException.__str__"))) (hm : mroIn K C (.type "BaseException") = some true) (hu : A.units + 2 < cLine) (ho : s.heap.get? e = some o) (hc : o.cls = .ref C) (hd : o.data = .fields vs) (h0 : vs[0]? = some (.ref t0)) (hto : s.heap.get? t0 = some ot) (htd : ot.data = .seq [Value.str m tk].toArray k) (hq : Q (.str m tk) s) :
    wpAny (model prog w) A (call (.type "str") [.ref e]) Q E s :=
  callType_new F.called_str (by decide) (F.typeCall_str_1 _) (F.newCall_str_1 _) (fun obj => F.args_object_init_2 obj _) F.entry_str_new
    (meets_str_new (S := fun A' R s' => A'.units + 1 < cLine ∧ s' = s ∧ R (.ok (.ret (.str m tk))) s')
      fun prog' w' A' R s' hq' => by
        obtain ⟨hu', rfl, hq'⟩ := hq'
        unfold PySem.Builtin.Str.strOf
        rw [show isExactStr (.ref e) = false from rfl]
        refine wpAny_bind (m := cRoomFor _ _) (wpAny_cRoomFor (by exact hu') ?_)
        refine wpAny_bind (m := callSpecial? (.ref e) (Str.ofString "__str__")) ?_
        refine wpAny_bind (wpAny_bind ((ty_own ho hc).here ((looks_findIn X hs).here (wpAny_holding (wpAny_bind ((Looks.of_pure (PySem.F.excStr_Exception.str.bind _)).here (wpAny_bind ?_)))))))
        refine call_own X hm ho hc hd h0 hto htd ?_
        exact wpAny_pure (wpAny_pure hq'))
    ⟨(show A.units + 1 + 1 < cLine from hu), rfl, typeIs_str _ _ _, hq⟩
end
end Mine
end Part38x
section Part39x
open PySem PySem.W PyProof.Rows PyProof.Rows.LCg PySem.Spec PySem.Calls
set_option Elab.async false
set_option maxRecDepth 100000
set_option maxHeartbeats 400000
namespace Mine
section
variable (w : World) {g : Heap} {L a : Addr} {cd : Value} {mean : ExcName → Option Value} {mg mb : Str → Option Value} {m : Str → Option Value} {s : Shared}
local macro_rules | `(tactic| walk_at "exec Try") => `(tactic| (k_here; k_dflt (refine wpAny_Try_except ?_)))
local macro_rules | `(tactic| walk_at "noteFrame ref") => `(tactic| (k_here; k_dflt (refine' caught_C (bmB := [.type "Exception", .type "BaseException", .type "object"]) (newId := "Exception.__new__") ?K ?F ?U ?R ?X ?T ?ex ?q ?hb ?_ ?c1 ?c2 ?c3 ?c4; (case K => assumption); (case F => assumption); (case U => assumption); (case R => assumption); (case X => k_asm); (case T => k_asm); (case ex => k_is); (case q => k_exc); (case hb => rfl); (case c1 => rfl); (case c2 => rfl); (case c3 => rfl); (case c4 => decide); k_whole); intro h' n₂ tk' F' N₂ G' N'; (try k_sweep)))
local macro_rules | `(tactic| walk_at "call type:str") => `(tactic| (k_here; (with_reducible show wpAny _ _ (call (Value.type "str") [Value.ref _]) _ _ _); refine halt ?_))
theorem law_t18 {Q E} {D : Addr} {tot : Int} {row : List Nat} {x : Str} {tx : Tok} {news : List (Addr × Obj)} (X : (hd.heap_39 w.params).In g) (T : Top hd.view_39 (looseW hd.view_39 []) mean mg mb g) (K0 : Below callerA g [] g)
   (F : Fr g L s.heap m) (N : News g L s.heap news) (hv : Live D tot row m) (e1 : m "reply" = some (.str x tx)) (hx : x.length ≤ 100) (hne : (Txt.slice x none (some 3) != Str.ofString "257") = true)
   (hQ : ∀ h' tk' m', Fr g L h' m' → Live D tot row m' → News g L h' news → Q .next { s with heap := h', toks := tk' }) :
   wpAny (model Challenge.rw_wb0029_01.row.prog w) (lA L a cd) (execs (forBody ((bodyOf (topStmt 14)).getD 17 default)) (lEnv L a cd)) Q E s := by
  revert X; k_fill; intro X
  obtain ⟨l1, ⟨ta, l2⟩, ⟨tb, l3⟩⟩ := hv
  replace F := fr_eq (put_eq e1 (put_eq l1 (put_eq l2 (put_eq l3 rfl)))) F
  refine wpAny_noRaise ?_
  k_dflt (show wpAny _ _ (execs (_ :: _) _) _ _ _)
  k_steps
  rename Got _ _ _ _ _ => hG
  rename Fr _ _ _ _ => F9
  obtain ⟨oe, ot, ws, nt, g1, g2, g3, g4, g5, g6, g7⟩ := hG
  refine Halt.out ?_
  k_dflt (refine' str_own (X.keeps F9.keep) ?s ?b ?u (News.get (by assumption) g1) g3 g4 g5 (News.get (by assumption) g2) g7 ?_)
  case s => k_is
  case b => k_is
  case u => (have hcL9 := cLine_is; simp only [Around.mark_units, units_deeper, units_caller]; omega)
  k_steps
  · rename (_ != _) = true => hb
    rw [bne_self_eq_false] at hb
    cases hb
  · rename News g L _ news => N9
    k_dflt (refine' goes_C F9 N9 ?_ ?c1 ?c2)
    case c1 => rfl
    case c2 => rfl
    intro h'' v F'' N''
    k_dflt (refine wpAny_execs_nil ?_)
    exact hQ _ _ _ F'' ⟨rfl, ⟨_, rfl⟩, ⟨_, rfl⟩⟩ N''
end
end Mine
end Part39x
section Part40x
open PySem PySem.W PyProof.Rows PyProof.Rows.LCg PySem.Spec PySem.Calls
set_option Elab.async false
set_option maxRecDepth 100000
set_option maxHeartbeats 400000
namespace Mine
local macro_rules | `(tactic| walk_at "MINE none") => `(tactic| skip)
local macro_rules | `(tactic| walk_at "MINE none") => `(tactic| skip)
local macro_rules | `(tactic| walk_at "MINE none") => `(tactic| skip)
local macro_rules | `(tactic| walk_at "MINE none") => `(tactic| skip)
section
variable (w : World) {g : Heap} {L a : Addr} {cd : Value} {mean : ExcName → Option Value} {mg mb : Str → Option Value} {m : Str → Option Value} {s : Shared}
local macro_rules | `(tactic| walk_at "call ref") => `(tactic| (k_here; (with_reducible show wpAny _ _ (call (Value.ref 46) _) _ _ _); refine halt ?_))
local macro_rules | `(tactic| walk_at "exec For Name Tuple cons nil") => `(tactic| walk_at "MINE src")
theorem law_s19 {Q E} {D : Addr} {tot : Int} {row : List Nat} {ys : List Value} {o1 o2 o3 o4 : Obj} (X : (hd.heap_39 w.params).In g) (T : Top hd.view_39 (looseW hd.view_39 []) mean mg mb g) (K0 : Below callerA g [] g)
   (F : Fr g L s.heap m) (N : News g L s.heap ((D, lst ys) :: cell4 L o1 o2 o3 o4)) (hv : Live D tot row m) (h15 : row.length = 15)
   (p1 : parseF (Str.ofString "257").cps.toList = some []) (p2 : parseF (Str.ofString "257 " ++ Mine.S row).cps.toList = some []) (p3 : parseF (Str.ofString "257 " ++ Mine.S row ++ Str.ofString "\"" ++ Mine.S row ++ Str.ofString "\"").cps.toList = some []) (p4 : parseF (Str.ofString "257-\"" ++ Mine.S row).cps.toList = some [])
   (hQ : ∀ h' tk' m', Fr g L h' m' → Live D tot row m' → News g L h' ((D, lst ys) :: cell4 L o1 o2 o3 o4) → Q .next { s with heap := h', toks := tk' }) :
   wpAny (model Challenge.rw_wb0029_01.row.prog w) (lA L a cd) (exec ((bodyOf (topStmt 14)).getD 18 default) (lEnv L a cd)) Q E s := by
  revert X; k_fill; intro X
  obtain ⟨l1, ⟨ta, l2⟩, ⟨tb, l3⟩⟩ := hv
  replace F := fr_eq (put_eq l1 (put_eq l2 (put_eq l3 rfl))) F
  have hrl : (Mine.S row).length = 15 := by rw [S_len]; exact h15
  have z1 : (Str.ofString "257").length = 3 := by decide +kernel
  have z2 : (Str.ofString "257 ").length = 4 := by decide +kernel
  have z3 : (Str.ofString "257-\"").length = 5 := by decide +kernel
  have z4 : (Str.ofString "\"").length = 1 := by decide +kernel
  refine wpAny_noRaise ?_
  k_dflt (show wpAny _ _ (exec (Stmt.For _ _ _ _ _) _) _ _ _)
  k_steps
  unfold LoopSrc
  rename Fr _ _ _ _ => F2
  rename News _ _ _ _ => N2
  refine ⟨HT s, _, _, _, LJ ((D, lst ys) :: cell4 L o1 o2 o3 o4) D tot row, _, _, Source.tup _ _, rfl, F2, N2, .inr ⟨_, .head _, rfl, _, rfl⟩, HT.still, HT.mk, ⟨fun p hp => .tail _ hp, ⟨rfl, ⟨_, rfl⟩, ⟨_, rfl⟩⟩⟩, ?_, ?_⟩
  · rintro i v m₁ n₁ s₁ I2 oI2 hi hP ⟨hsub, ⟨l1, ⟨ta, l2⟩, ⟨tb, l3⟩⟩⟩ ⟨h, tk, rfl⟩ F1 N1 off hS
    replace F1 := fr_eq (put_in (put_eq l1 (put_eq l2 (put_eq l3 rfl)))) F1
    have hPv : ∃ (x : Str) (t : Tok), v = .str x t ∧ parseF x.cps.toList = some [] ∧ x.length ≤ 1000 := by
      rcases i with _ | _ | _ | _ | i
      · exact ⟨_, _, (Option.some.inj hP).symm, p1, by omega⟩
      · exact ⟨_, _, (Option.some.inj hP).symm, p2, by omega⟩
      · exact ⟨_, _, (Option.some.inj hP).symm, p3, by omega⟩
      · exact ⟨_, _, (Option.some.inj hP).symm, p4, by omega⟩
      · exact absurd hi (by show ¬ (i + 1 + 1 + 1 + 1 < 4); omega)
    obtain ⟨x, tx', rfl, hcx, hxl'⟩ := hPv
    clear F2 N2
    dsimp only at F1 N1 ⊢
    k_steps
    refine Halt.out ?_
    k_dflt (refine' use_claim (parse_ok w mean mg mb _ x tx' ?l1 hcx) K0 F1 X N1 T ?hk ?hd ?hu ?_)
    case l1 => omega
    case hk => rfl
    case hd => ktr_room
    case hu => ktr_units
    intro t h' tk' F' N'
    (try dsimp only)
    k_steps
    all_goals dsimp only [TurnEnd]
    all_goals exact ⟨_, _, HT.mk, by assumption, by assumption, off, hS, hsub, ⟨rfl, ⟨_, rfl⟩, ⟨_, rfl⟩⟩⟩
  · rintro m₁ n₁ s₁ ⟨h, tk, rfl⟩ F1 N1 ⟨hsub, lv⟩
    exact hQ _ _ m₁ F1 lv fun p hp => N1 p (hsub p hp)
theorem law_s20a {Q E} {D : Addr} {tot : Int} {row fr : List Nat} {t3 : Tok} {ys : List Value} {o1 o2 o3 o4 : Obj} (X : (hd.heap_39 w.params).In g) (T : Top hd.view_39 (looseW hd.view_39 []) mean mg mb g)
   (F : Fr g L s.heap m) (N : News g L s.heap ((D, lst ys) :: cell4 L o1 o2 o3 o4)) (hv : Live D tot row m) (h15 : row.length = 15) (d3' : o3.data = .cell (some (.str (Mine.S fr) t3))) (hfr : fr.length ≤ 1)
   (hQ : ∀ h' tk' m' t, Fr g L h' m' → Live D tot row m' → m' "name" = some (.str (Mine.S (fr ++ row ++ fr)) t) → News g L h' ((D, lst ys) :: cell4 L o1 o2 o3 o4) → Q .next { s with heap := h', toks := tk' }) :
   wpAny (model Challenge.rw_wb0029_01.row.prog w) (lA L a cd) (exec ((bodyOf (topStmt 14)).getD 19 default) (lEnv L a cd)) Q E s := by
  revert X; k_fill; intro X
  obtain ⟨l1, ⟨ta, l2⟩, ⟨tb, l3⟩⟩ := hv
  replace F := fr_eq (put_eq l1 (put_eq l2 (put_eq l3 rfl))) F
  have hrl : (Mine.S row).length = 15 := by rw [S_len]; exact h15
  have hfl : (Mine.S fr).length ≤ 1 := by rw [S_len]; exact hfr
  k_dflt (show wpAny _ _ (exec (Stmt.Assign _ _ _) _) _ _ _)
  k_steps
  rename Fr _ _ _ _ => F1
  rw [S_app, S_app] at F1
  exact hQ _ _ _ _ F1 ⟨rfl, ⟨_, rfl⟩, ⟨_, rfl⟩⟩ rfl (by assumption)
theorem law_s20 {Q E} {D : Addr} {tot : Int} {row xs : List Nat} {tn : Tok} {ys : List Value} {o1 o2 o3 o4 : Obj} (X : (hd.heap_39 w.params).In g) (T : Top hd.view_39 (looseW hd.view_39 []) mean mg mb g) (K0 : Below callerA g [] g)
   (F : Fr g L s.heap m) (N : News g L s.heap ((D, lst ys) :: cell4 L o1 o2 o3 o4)) (hv : Live D tot row m) (e1 : m "name" = some (.str (Mine.S xs) tn)) (hxs : xs.length ≤ 17)
   (pA : parseF (Str.ofString "257 \"" ++ Mine.S xs ++ Str.ofString "\" \"" ++ Mine.S xs ++ Str.ofString "\"").cps.toList = some xs)
   (pB : parseF (Str.ofString "257 \"" ++ Mine.S xs ++ Txt.mul (Str.ofString "\"") ((tot.fdiv 4).fmod 16)).cps.toList = some (xs ++ rep (((tot.fdiv 4).fmod 16).fdiv 2) 34))
   (hQ : ∀ h' tk', Keeps g h' → Q (.ret (.bool true)) { s with heap := h', toks := tk' }) :
   wpAny (model Challenge.rw_wb0029_01.row.prog w) (lA L a cd) (execs ((bodyOf (topStmt 14)).drop 20) (lEnv L a cd)) Q E s := by
  revert X; k_fill; intro X
  obtain ⟨l1, ⟨ta, l2⟩, ⟨tb, l3⟩⟩ := hv
  replace F := fr_eq (put_eq e1 (put_eq l1 (put_eq l2 (put_eq l3 rfl)))) F
  have hfl : (Mine.S xs).length ≤ 17 := by rw [S_len]; exact hxs
  have z1 : (Str.ofString "257 \"").length = 5 := by decide +kernel
  have z2 : (Str.ofString "\" \"").length = 3 := by decide +kernel
  have z4 : (Str.ofString "\"").length = 1 := by decide +kernel
  refine wpAny_noRaise ?_
  k_dflt (show wpAny _ _ (execs (_ :: _) _) _ _ _)
  k_steps
  refine Halt.out ?_
  k_dflt (refine' use_claim (parse_ok w mean mg mb _ _ _ ?l1 pA) K0 (by assumption) X (by assumption) T ?hk ?hd ?hu ?_)
  case l1 => omega
  case hk => rfl
  case hd => ktr_room
  case hu => ktr_units
  intro t h' tk' F' N'
  clear F
  (try dsimp only)
  k_steps
  · rename (_ != _) = true => hb
    rw [bne_self_eq_false] at hb
    cases hb
  have q0 : 0 ≤ (tot.fdiv 4).fmod 16 := Int.fmod_nonneg_of_pos _ (by decide)
  have q1 : (tot.fdiv 4).fmod 16 < 16 := Int.fmod_lt_of_pos _ (by decide)
  have z5 : (Txt.mul (Str.ofString "\"") ((tot.fdiv 4).fmod 16)).length ≤ 16 := mul_le q_is (Int.le_of_lt q1)
  refine Halt.out ?_
  k_dflt (refine' use_claim (parse_ok w mean mg mb _ _ _ ?l1 pB) K0 (by assumption) X (by assumption) T ?hk ?hd ?hu ?_)
  case l1 => omega
  case hk => rfl
  case hd => ktr_room
  case hu => ktr_units
  intro t h' tk' F' N'
  (try dsimp only)
  k_steps
  rw [mul34, S_app, beq_self_eq_true]
  rename Fr _ _ _ _ => F9
  exact hQ _ _ F9.keep
end
end Mine
end Part40x
section Part41x
open PySem PySem.W PyProof.Rows PyProof.Rows.LCg PySem.Spec PySem.Calls
set_option Elab.async false
set_option maxRecDepth 100000
set_option maxHeartbeats 400000
namespace Mine
noncomputable def digs (k : Nat) : List Nat := (Str.ofString (toString ((1000 : Int) + (k : Int)))).cps.toList
theorem digs_ok : (List.range 1000).all (fun k => (digs k).length == 4 && (k == 257 || (digs k).drop 1 != [50, 53, 55])) = true := by decide +kernel
theorem digs_at {k : Nat} (h : k < 1000) : (digs k).length = 4 ∧ (k ≠ 257 → (digs k).drop 1 ≠ [50, 53, 55]) := by
  have := List.all_eq_true.mp digs_ok k (List.mem_range.mpr h)
  simp only [Bool.and_eq_true, beq_iff_eq, Bool.or_eq_true, bne_iff_ne, ne_eq] at this
  exact ⟨this.1, fun hk => this.2.resolve_left hk⟩
section
variable (w : World) {g : Heap} {L a : Addr} {cd : Value} {mean : ExcName → Option Value} {mg mb : Str → Option Value} {m : Str → Option Value} {s : Shared}
local macro_rules | `(tactic| walk_at "call type:str") => `(tactic| (k_here; (with_reducible show wpAny _ _ (call (Value.type "str") [Value.int _ _]) _ _ _); refine halt ?_))
theorem law_s17 {Q E} {tot : Int} {D : Addr} {row : List Nat} {news : List (Addr × Obj)} (X : (hd.heap_39 w.params).In g) (T : Top hd.view_39 (looseW hd.view_39 []) mean mg mb g) (K0 : Below callerA g [] g)
   (F : Fr g L s.heap m) (N : News g L s.heap news) (hv : Live D tot row m)
   (hQ : ∀ h' tk' m' c t, Fr g L h' m' → Live D tot row m' → m' "code" = some (.str (Mine.S c) t) → c.length = 3 → c ≠ [50, 53, 55] → News g L h' news → Q .next { s with heap := h', toks := tk' }) :
   wpAny (model Challenge.rw_wb0029_01.row.prog w) (lA L a cd) (exec ((bodyOf (topStmt 14)).getD 16 default) (lEnv L a cd)) Q E s := by
  revert X; k_fill; intro X
  obtain ⟨l1, ⟨ta, l2⟩, ⟨tb, l3⟩⟩ := hv
  replace F := fr_eq (put_eq l1 (put_eq l2 (put_eq l3 rfl))) F
  have q0 : 0 ≤ tot.fmod 999 := Int.fmod_nonneg_of_pos _ (by decide)
  have q1 : tot.fmod 999 < 999 := Int.fmod_lt_of_pos _ (by decide)
  have r0 : (258 + tot.fmod 999).fmod 1000 = (258 + tot.fmod 999) % 1000 := Int.fmod_eq_emod_of_nonneg _ (by decide)
  obtain ⟨k, hk⟩ : ∃ k : Nat, (258 + tot.fmod 999).fmod 1000 = (k : Int) := ⟨((258 + tot.fmod 999).fmod 1000).toNat, by omega⟩
  have hk1 : k < 1000 := by omega
  have hk2 : k ≠ 257 := by omega
  obtain ⟨g1, g2⟩ := digs_at hk1
  k_dflt (show wpAny _ _ (exec (Stmt.Assign _ _ _) _) _ _ _)
  k_steps
  rw [hk]
  refine Halt.out (P.str_of_int (shown (N := 2 ^ 1920) (by omega) (by omega) (Int.le_refl _)) ?_)
  rw [show Str.ofString (toString ((1000 : Int) + (k : Int))) = Mine.S (digs k) from (S_of _).symm]
  have hl : (Mine.S (digs k)).length = 4 := by rw [S_len]; exact g1
  dsimp only
  k_steps
  rename Fr _ _ _ _ => F9
  rw [slice_S, S_cps, show (some (1 : Int)) = some ((1 : Nat) : Int) from rfl, slF_from] at F9
  exact hQ _ _ _ ((digs k).drop 1) _ F9 ⟨rfl, ⟨_, rfl⟩, ⟨_, rfl⟩⟩ rfl (by rw [List.length_drop, g1]) (g2 hk2) (by assumption)
end
end Mine
end Part41x
section Part42x
open PySem PySem.W PyProof.Rows PyProof.Rows.LCg PySem.Spec PySem.Calls
set_option Elab.async false
set_option maxRecDepth 100000
set_option maxHeartbeats 400000
namespace Mine
local macro_rules | `(tactic| walk_at "MINE none") => `(tactic| skip)
local macro_rules | `(tactic| walk_at "MINE none") => `(tactic| skip)
theorem t3ne {c r : List Nat} (h3 : c.length = 3) (hne : c ≠ [50, 53, 55]) {x : Str} (hx : x = S (c ++ r)) : (Txt.slice x none (some 3) != Str.ofString "257") = true := by
  rw [hx, slice_S, S_cps, show (some (3 : Int)) = some ((3 : Nat) : Int) from rfl, slF_to, List.take_left' h3, show Str.ofString "257" = S [50, 53, 55] by decide +kernel, bne, S_beq, beq_eq_false_iff_ne.mpr hne]; rfl
section
variable (w : World) {g : Heap} {L a : Addr} {cd : Value} {mean : ExcName → Option Value} {mg mb : Str → Option Value} {m : Str → Option Value} {s : Shared}
local macro_rules | `(tactic| walk_at "exec For Name Tuple cons nil") => `(tactic| walk_at "MINE src")
theorem law_s18 {Q E} {D : Addr} {tot : Int} {row c : List Nat} {tc : Tok} {ys : List Value} {o1 o2 o3 o4 : Obj} (X : (hd.heap_39 w.params).In g) (T : Top hd.view_39 (looseW hd.view_39 []) mean mg mb g) (K0 : Below callerA g [] g)
   (F : Fr g L s.heap m) (N : News g L s.heap ((D, lst ys) :: cell4 L o1 o2 o3 o4)) (hv : Live D tot row m) (h15 : row.length = 15) (e1 : m "code" = some (.str (Mine.S c) tc)) (h3 : c.length = 3) (hne : c ≠ [50, 53, 55])
   (hQ : ∀ h' tk' m', Fr g L h' m' → Live D tot row m' → News g L h' ((D, lst ys) :: cell4 L o1 o2 o3 o4) → Q .next { s with heap := h', toks := tk' }) :
   wpAny (model Challenge.rw_wb0029_01.row.prog w) (lA L a cd) (exec ((bodyOf (topStmt 14)).getD 17 default) (lEnv L a cd)) Q E s := by
  revert X; k_fill; intro X
  obtain ⟨l1, ⟨ta, l2⟩, ⟨tb, l3⟩⟩ := hv
  replace F := fr_eq (put_eq e1 (put_eq l1 (put_eq l2 (put_eq l3 rfl)))) F
  have hrl : (Mine.S row).length = 15 := by rw [S_len]; exact h15
  have hcl : (Mine.S c).length = 3 := by rw [S_len]; exact h3
  have z1 : (Str.ofString " \"").length = 2 := by decide +kernel
  have z2 : (Str.ofString " 257 \"").length = 6 := by decide +kernel
  refine wpAny_noRaise ?_
  k_dflt (show wpAny _ _ (exec (Stmt.For _ _ _ _ _) _) _ _ _)
  k_steps
  unfold LoopSrc
  rename Fr _ _ _ _ => F2
  rename News _ _ _ _ => N2
  refine ⟨HT s, _, _, _, LJ ((D, lst ys) :: cell4 L o1 o2 o3 o4) D tot row, _, _, Source.tup _ _, rfl, F2, N2, .inr ⟨_, .head _, rfl, _, rfl⟩, HT.still, HT.mk, ⟨fun p hp => .tail _ hp, ⟨rfl, ⟨_, rfl⟩, ⟨_, rfl⟩⟩⟩, ?_, ?_⟩
  · rintro i v m₁ n₁ s₁ I2 oI2 hi hP ⟨hsub, ⟨l1, ⟨ta, l2⟩, ⟨tb, l3⟩⟩⟩ ⟨h, tk, rfl⟩ F1 N1 off hS
    have hPv : ∃ (x : Str) (t : Tok), v = .str x t ∧ (Txt.slice x none (some 3) != Str.ofString "257") = true ∧ x.length ≤ 100 := by
      rcases i with _ | _ | i
      · refine ⟨_, _, (Option.some.inj hP).symm, t3ne (r := (Str.ofString " \"").cps.toList ++ row) h3 hne ?_, by omega⟩
        rw [← List.append_assoc, ← S_app, ← S_app, S_of]
      · refine ⟨_, _, (Option.some.inj hP).symm, t3ne (r := (Str.ofString " 257 \"").cps.toList ++ row) h3 hne ?_, by omega⟩
        rw [← List.append_assoc, ← S_app, ← S_app, S_of]
      · exact absurd hi (by show ¬ (i + 1 + 1 < 2); omega)
    obtain ⟨x, tx', rfl, hcx, hxl'⟩ := hPv
    clear F2 N2
    refine law_t18 w X T K0 F1 N1 (D := D) (tot := tot) (row := row) ⟨l1, ⟨_, l2⟩, ⟨_, l3⟩⟩ rfl hxl' hcx ?_
    intro h' tk' m' F' lv N'
    exact ⟨_, _, HT.mk, F', N', off, hS, hsub, lv⟩
  · rintro m₁ n₁ s₁ ⟨h, tk, rfl⟩ F1 N1 ⟨hsub, lv⟩
    exact hQ _ _ m₁ F1 lv fun p hp => N1 p (hsub p hp)
end
end Mine
end Part42x
section Part43x
open PySem PySem.W PyProof.Rows PyProof.Rows.LCg PySem.Spec PySem.Calls
set_option Elab.async false
set_option maxRecDepth 100000
set_option maxHeartbeats 400000
namespace Mine
noncomputable abbrev dts : Str := Str.ofString "..."
structure PlainOk (f4 fr row : List Nat) (tot : Int) : Prop where
  h15 : row.length = 15
  har : ∀ c ∈ row, c < 128
  hc1 : Cok f4 (row.take 1) (row.take 1) tot 1
  hc2 : Cok f4 (row.take 3) (row.take 3) tot 2
  hc3 : Cok f4 (row.take 7) (row.take 7) tot 3
  hc4 : ∀ pcs, Pieces row pcs → Cok f4 (row.take 15) (pcs.flatten ++ rep (tot.fmod 2) 34) tot 4
  e1 : ellF (Txt.slice (stepsT row) none (some (-3))) (S row) = true
  e2 : ellF (Txt.slice (S row) none (some 7) ++ dts ++ Txt.slice (S row) (some 8) none) (S row) = true
  e3 : ellF (stepsT row ++ Txt.item (S row) 0 ++ dts) (S row) = false
  e4 : ellF (Txt.slice (S row) none (some 8) ++ dts ++ Txt.slice (S row) (some 7) none) (S row) = false
  e5 : ellF (Txt.slice (S row) (some 1) (some 7) ++ dts ++ Txt.slice (S row) (some 8) none) (S row) = false
  e6 : ellF (Txt.slice (S row) none (some 7) ++ dts ++ Txt.slice (S row) (some 8) (some 14)) (S row) = false
  st : (stepsT row).length ≤ 32
  tw : ∀ i j : Nat, i < 6 → j < 12 - 2 * i → twOk row (0 + (j : Int)) (2 + (i : Int))
  p1 : parseF (Str.ofString "257").cps.toList = some []
  p2 : parseF (Str.ofString "257 " ++ S row).cps.toList = some []
  p3 : parseF (Str.ofString "257 " ++ S row ++ Str.ofString "\"" ++ S row ++ Str.ofString "\"").cps.toList = some []
  p4 : parseF (Str.ofString "257-\"" ++ S row).cps.toList = some []
  pA : parseF (Str.ofString "257 \"" ++ (S fr ++ S row ++ S fr) ++ Str.ofString "\" \"" ++ (S fr ++ S row ++ S fr) ++ Str.ofString "\"").cps.toList = some (fr ++ row ++ fr)
  pB : parseF (Str.ofString "257 \"" ++ (S fr ++ S row ++ S fr) ++ Txt.mul (Str.ofString "\"") ((tot.fdiv 4).fmod 16)).cps.toList = some (fr ++ row ++ fr ++ rep (((tot.fdiv 4).fmod 16).fdiv 2) 34)
noncomputable def Plain : Prop := ∀ (f4 : List Nat) (i : Nat) (tot : Int), f4.length = 4 → (∀ c ∈ f4, c = 40 ∨ c = 41) → i < 4 → PlainOk f4 (frontOf i) (paperL f4 []) tot
noncomputable def PlainR : Prop := ∀ (f4 : List Nat) (i c : Nat), f4.length = 4 → (∀ c ∈ f4, c = 40 ∨ c = 41) → i < 4 → 192 ≤ c → rowF f4 (frontOf i) [c] = paperL f4 []
theorem body_len : (bodyOf (topStmt 14)).length = 23 := by rfl
theorem step_at {prog : Program} {w : World} {A : Around} {env : Env} {Q : Flow → Shared → Prop} {E : Value → Shared → Prop} {s : Shared} (k : Nat) (hk : k < 23)
    (h : wpAny (model prog w) A (exec ((bodyOf (topStmt 14)).getD k default) env) (fun f s₁ => match f with | .next => wpAny (model prog w) A (execs ((bodyOf (topStmt 14)).drop (k + 1)) env) Q E s₁ | f => Q f s₁) E s) :
    wpAny (model prog w) A (execs ((bodyOf (topStmt 14)).drop k) env) Q E s := by
  have hk' : k < (bodyOf (topStmt 14)).length := by rw [body_len]; exact hk
  rw [List.drop_eq_getElem_cons hk']
  rw [List.getD_eq_getElem?_getD, List.getElem?_eq_getElem hk', Option.getD_some] at h
  exact wpAny_execs_cons h
theorem foldC_or (c : Int) : foldC c = 40 ∨ foldC c = 41 := by unfold foldC; split <;> simp
theorem front_len {i : Nat} : (frontOf i).length ≤ 1 := by
  unfold frontOf; split <;> simp
theorem law_body (w : World) {g : Heap} {L a : Addr} {cd : Value} {mean : ExcName → Option Value} {mg mb : Str → Option Value} {m : Str → Option Value} {s : Shared} {Q E} {l : Addr} {vs : List Value} {ks : List Int} {o1 o2 o3 o4 : Obj} (hP : Plain) (hR : PlainR) (X : (hd.heap_39 w.params).In g) (T : Top hd.view_39 (looseW hd.view_39 []) mean mg mb g) (K0 : Below callerA g [] g)
   (F : Fr g L s.heap m) (N : News g L s.heap (cell4 L o1 o2 o3 o4)) (d1 : o1.data = .cell (some (.ref l))) (d2 : o2.data = .cell none) (d3 : o3.data = .cell none) (d4 : o4.data = .cell none)
   (hL : g.IsList l vs.toArray) (hI : IntsAre vs ks) (h63 : ks.length ≤ 63)
   (hQ : ∀ s', SG s s' → Keeps g s'.heap → Q (.ret (.bool true)) s') :
   wpAny (model Challenge.rw_wb0029_01.row.prog w) (lA L a cd) (execs (bodyOf (topStmt 14)) (lEnv L a cd)) Q E s := by
  refine step_at 0 (by decide) ?_
  refine law_s1 w X T K0 F N d1 d2 d3 d4 hL hI h63 ?_
  intro D h1 k1 ys c0 c1 c2 c3 b0 b1 b2 b3 hI1 F1 N1
  refine step_at 1 (by decide) ?_
  refine law_s2 w X T F1 N1 rfl hI1 ?_
  intro h2 k2 t2 F2 N2
  refine step_at 2 (by decide) ?_
  refine law_s3 w X T F2 N2 rfl hI1 rfl d2 ?_
  intro h3 k3 p2 t3 q2 F3 N3
  refine step_at 3 (by decide) ?_
  refine law_s4 w X T F3 N3 rfl d3 ?_
  intro h4 k4 p3 t4 i hi _ q3 F4 N4
  refine step_at 4 (by decide) ?_
  refine law_s5 w X T F4 N4 rfl d4 ?_
  intro h5 k5 p4 t5 c hc1 hc2 q4 F5 N5
  have hf4 : ([c0, c1, c2, c3].map foldC).length = 4 := rfl
  have hfc : ∀ c ∈ [c0, c1, c2, c3].map foldC, c = 40 ∨ c = 41 := fun c hc => by
    obtain ⟨x, _, rfl⟩ := List.mem_map.mp hc
    exact foldC_or x
  have hrow := hR _ i c hf4 hfc hi hc1
  have P := hP _ i ([c0, c1, c2, c3].sum) hf4 hfc hi
  refine step_at 5 (by decide) ?_
  refine law_s6 w X T K0 F5 N5 q2 q3 q4 (by rw [hf4]; decide) (Nat.le_trans front_len (by decide)) (by simp) ?_
  intro h6 k6 t6 F6 N6
  rw [hrow] at F6
  refine step_at 6 (by decide) ?_
  refine law_s7 w X T F6 N6 ?_
  intro h7 k7 t7 F7 N7
  refine step_at 7 (by decide) ?_
  refine law_s8 w X T K0 F7 N7 q2 rfl hf4 ⟨rfl, ⟨_, rfl⟩, ⟨_, rfl⟩⟩ ?_
  intro h8 k8 m8 t8 F8 lv8 e8 N8
  refine step_at 8 (by decide) ?_
  refine law_s9 w X T F8 N8 e8 lv8 ?_
  intro h9 k9 m9 F9 lv9 N9
  refine step_at 9 (by decide) ?_
  refine law_s10 w X T F9 N9 lv9 ?_
  intro h10 k10 m10 PP F10 lv10 e10 N10 hlt
  refine step_at 10 (by decide) ?_
  refine law_s11 w X T F10 N10 lv10 e10 hlt hI1 rfl ?_ P.h15 ?_
  · intro x hx
    simp only [List.mem_cons, List.not_mem_nil, or_false] at hx
    rcases hx with rfl | rfl | rfl | rfl <;> assumption
  intro h11 k11 m11 l11 n11 pcs F11 lv11 e11 N11 el hpc
  refine step_at 11 (by decide) ?_
  refine law_s12 w X T K0 F11 N11 lv11 e11 q2 hf4 P.h15 hpc el P.har P.hc1 P.hc2 P.hc3 (P.hc4 pcs hpc) ?_
  intro s12 m12 sg12 F12 lv12 N12
  have sgA : SG s s12 := sg12
  refine step_at 12 (by decide) ?_
  refine law_s13 w X T K0 F12 N12 lv12 P.h15 ?_
  intro h13 k13 m13 t13 F13 lv13 e13 N13
  refine step_at 13 (by decide) ?_
  refine law_s14 w X T K0 F13 N13 lv13 P.h15 e13 P.st P.e1 P.e2 ?_
  intro h14 k14 m14 F14 lv14 e14 N14
  refine step_at 14 (by decide) ?_
  refine law_s15 w X T K0 F14 N14 lv14 P.h15 e14 P.st P.e3 P.e4 P.e5 P.e6 ?_
  intro h15 k15 m15 F15 lv15 N15
  refine step_at 15 (by decide) ?_
  refine law_s16 w X T K0 F15 N15 lv15 P.h15 P.tw ?_
  intro h16 k16 m16 F16 lv16 N16
  refine step_at 16 (by decide) ?_
  refine law_s17 w X T K0 F16 N16 lv16 ?_
  intro h17 k17 m17 cc t17 F17 lv17 e17 g3 gne N17
  refine step_at 17 (by decide) ?_
  refine law_s18 w X T K0 F17 N17 lv17 P.h15 e17 g3 gne ?_
  intro h18 k18 m18 F18 lv18 N18
  refine step_at 18 (by decide) ?_
  refine law_s19 w X T K0 F18 N18 lv18 P.h15 P.p1 P.p2 P.p3 P.p4 ?_
  intro h19 k19 m19 F19 lv19 N19
  refine step_at 19 (by decide) ?_
  refine law_s20a w X T F19 N19 lv19 P.h15 q3 front_len ?_
  intro hA kA mA tA FA lvA eA NA
  refine law_s20 w X T K0 FA NA lvA eA ?_ ?_ ?_ ?_
  · have := front_len (i := i)
    have := P.h15
    simp only [List.length_append]; omega
  · have := P.pA
    rwa [S_app, S_app] at this
  · have := P.pB
    rwa [S_app, S_app] at this
  intro h20 k20 kk
  exact hQ _ sgA kk
end Mine
end Part43x
section Part44x
open PySem PySem.W PyProof.Rows PySem.Spec PySem.Calls
set_option Elab.async false
set_option maxRecDepth 100000
set_option maxHeartbeats 1000000
namespace Mine
local macro_rules | `(tactic| walk_at "execs cons") => `(tactic| (k_here; refine halt ?_))
theorem top_of (hP : Plain) (hR : PlainR) : PySem.Challenge.rw_wb0029_01.Holds := hd (by
  k_fill
  intro w s₀ s₁ mg mb G Y fa o pm cd doc dV kV ho hd hcd hD hmg hg args vals as hpre hlay hrd hwl hlo
  have KX := kIn_of Y
  have X := (Ground.X G).1
  have V := (Ground.X G).2
  refine Ground.open G ?_
  intro T B D TE TW
  obtain ⟨_, _, M⟩ := bmod_of_top T
  have TA := at_of_top T
  try (obtain ⟨_, _, he, B0⟩ := based_of_top T rfl hmg ho hd; have he' : cd = _ := he; subst he'; clear he)
  clear hmg
  wrow_args hpre hlay hrd hwl hlo
  refine enter_call ?_
  w_top on
  have K0 := below_caller (Top.heap T)
  w_call any ho hd hcd hD T F
  clear hd TA
  k_drop
  (try k_fold)
  k_steps
  refine Halt.out ?_
  rename CellsAre _ _ _ => XX
  clear XX
  rename News _ _ _ _ => N
  refine law_body w hP hR KX T K0 F N (by assumption) (by assumption) (by assumption) (by assumption) (by assumption) (by assumption) (by omega) ?_
  intro s' sg kk
  show GoodWG _ _ _ _ s₁ (.ok (.ret (.bool true))) s'
  exact ⟨.inl ⟨.bool true, .bool true, [], rfl, fun _ => rfl, ReadsW.bool true, by first | rfl | wrow_post, fun _ => ⟨List.nodup_nil, fun _ hm => (nomatch hm)⟩⟩, .of_keep kk, sg.1, sg.2 (AllBare.of_eq hg)⟩)
end Mine
end Part44x
section Part45x
open PySem PySem.W PyProof.Rows PySem.Spec PySem.Calls
set_option Elab.async false
set_option maxRecDepth 100000
set_option maxHeartbeats 1000000
namespace Mine
theorem lastS_end (l : List Nat) (c : Nat) : lastS (l ++ [c]) = [c] := by
  unfold lastS slF clipI
  dsimp only
  rw [if_pos (by decide), List.take_length]
  have : ((-1 : Int) + ((l ++ [c]).length : Nat)).toNat = l.length := by simp; omega
  rw [this, List.drop_left]
theorem lastS_sub {t : List Nat} : ∀ x ∈ lastS t, x ∈ t := fun x hx => by
  unfold lastS slF at hx
  exact List.mem_of_mem_take (List.mem_of_mem_drop hx)
theorem lastS_ne {t : List Nat} {c : Nat} (h : ∀ x ∈ t, x ≠ c) : lastS t ≠ [c] := fun e => h c (lastS_sub c (by rw [e]; exact .head _)) rfl
theorem read_app {a : List Nat} (h : ∀ x ∈ a, x ≠ 34) (r : List Nat) : readF (a ++ r) = a ++ readF r := by
  induction a with
  | nil => rfl
  | cons x a ih =>
    rw [List.cons_append, readF_other (h x (.head _)), ih fun y hy => h y (.tail _ hy)]; rfl
theorem read_even (k : Nat) (r : List Nat) : readF (List.replicate (2 * k) 34 ++ r) = List.replicate k 34 ++ readF r := by
  induction k with
  | zero => simp
  | succ k ih =>
    rw [show 2 * (k + 1) = 2 * k + 1 + 1 by omega, List.replicate_succ, List.replicate_succ, List.cons_append, List.cons_append, readF_two, ih, List.replicate_succ]; rfl
theorem read_ev {a : List Nat} {c k : Nat} (ha : ∀ x ∈ a, x ≠ 34) (hc : c ≠ 34) : readF (a ++ List.replicate (2 * k) 34 ++ [c]) = a ++ List.replicate k 34 ++ [c] := by
  rw [List.append_assoc, read_app ha, read_even, readF_other hc, readF, List.append_assoc]
theorem read_od {a : List Nat} {c k : Nat} (ha : ∀ x ∈ a, x ≠ 34) (hc : c ≠ 34) : readF (a ++ List.replicate (2 * k + 1) 34 ++ [c]) = a ++ List.replicate k 34 := by
  rw [List.append_assoc, read_app ha, List.replicate_succ', List.append_assoc, read_even]
  show a ++ (List.replicate k 34 ++ readF (34 :: c :: [])) = _
  rw [readF_end hc, List.append_nil]
noncomputable def crN : List Nat → Nat → List Nat
  | [], _ => []
  | f :: fs, n => if n % 2 = 0 then crN fs (n / 2) else if n / 2 % 2 = 0 then [f] else turnedF [f]
theorem loop_crN {c : Nat} (hc : c ≠ 34) {a : List Nat} (ha : ∀ x ∈ a, x ≠ 34 ∧ x ≠ c) : ∀ (fs : List Nat) (n : Nat), loopF [c] fs (a ++ List.replicate n 34 ++ [c]) = crN fs n
  | [], _ => rfl
  | f :: fs, n => by
    have ha1 : ∀ x ∈ a, x ≠ 34 := fun x hx => (ha x hx).1
    rw [loopF, crN]
    by_cases hn : n % 2 = 0
    · rw [if_pos hn]
      have e : n = 2 * (n / 2) := by omega
      have er : readF (a ++ List.replicate n 34 ++ [c]) = a ++ List.replicate (n / 2) 34 ++ [c] := by
        rw [e, read_ev ha1 hc]; simp
      rw [er, if_pos (lastS_end _ _)]
      exact loop_crN hc ha fs (n / 2)
    · rw [if_neg hn]
      have e : n = 2 * (n / 2) + 1 := by omega
      have er : readF (a ++ List.replicate n 34 ++ [c]) = a ++ List.replicate (n / 2) 34 := by
        conv => lhs; rw [e]
        rw [read_od ha1 hc]
      have hne : lastS (a ++ List.replicate (n / 2) 34) ≠ [c] := lastS_ne fun x hx => by
        rcases List.mem_append.mp hx with hx | hx
        · exact (ha x hx).2
        · rw [(List.mem_replicate.mp hx).2]; exact Ne.symm hc
      rw [er, if_neg hne]
      by_cases hk : n / 2 % 2 = 0
      · rw [if_pos hk]
        have e2 : n / 2 = 2 * (n / 2 / 2) := by omega
        have er2 : readF (a ++ List.replicate (n / 2) 34 ++ [c]) = a ++ List.replicate (n / 2 / 2) 34 ++ [c] := by
          conv => lhs; rw [e2]
          rw [read_ev ha1 hc]
        rw [er2, if_pos (lastS_end _ _)]
      · rw [if_neg hk]
        have e2 : n / 2 = 2 * (n / 2 / 2) + 1 := by omega
        have er2 : readF (a ++ List.replicate (n / 2) 34 ++ [c]) = a ++ List.replicate (n / 2 / 2) 34 := by
          conv => lhs; rw [e2]
          rw [read_od ha1 hc]
        rw [er2, if_neg (lastS_ne fun x hx => by
          rcases List.mem_append.mp hx with hx | hx
          · exact (ha x hx).2
          · rw [(List.mem_replicate.mp hx).2]; exact Ne.symm hc)]
theorem front_chars {i : Nat} {c : Nat} (hc : 192 ≤ c) : ∀ x ∈ frontOf i, x ≠ 34 ∧ x ≠ c := fun x hx => by
  unfold frontOf at hx
  split at hx <;> simp at hx <;> omega
theorem four_nat {cs : List Nat} (h : cs.length = 4) : ∃ c0 c1 c2 c3, cs = [c0, c1, c2, c3] := by
  match cs, h with
  | [a, b, c, d], _ => exact ⟨a, b, c, d, rfl⟩
theorem plainR : PlainR := by
  intro f4 i c h4 hf hi hc
  have e : rowF f4 (frontOf i) [c] = ((List.range 15).map fun j => crN f4 (j + 1)).flatten := by
    unfold rowF rowL
    congr 1
    apply List.map_congr_left
    intro j _
    unfold creaseF
    exact loop_crN (by omega) (front_chars hc) f4 (j + 1)
  rw [e]
  obtain ⟨a, b, d, x, rfl⟩ := four_nat h4
  have ha := hf a (by simp)
  have hb := hf b (by simp)
  have hd := hf d (by simp)
  have hx := hf x (by simp)
  rcases ha with rfl | rfl <;> rcases hb with rfl | rfl <;> rcases hd with rfl | rfl <;> rcases hx with rfl | rfl <;> decide +kernel
end Mine
end Part45x
section Part46x
open PySem PySem.W PyProof.Rows PySem.Spec PySem.Calls
set_option Elab.async false
set_option maxRecDepth 100000
set_option maxHeartbeats 1000000
namespace Mine
noncomputable def b2 : List Nat := [40, 41]
noncomputable def all16 : List (List Nat) := b2.flatMap fun a => b2.flatMap fun b => b2.flatMap fun c => b2.map fun d => [a, b, c, d]
theorem mem16 {f4 : List Nat} (h4 : f4.length = 4) (hf : ∀ c ∈ f4, c = 40 ∨ c = 41) : f4 ∈ all16 := by
  obtain ⟨a, b, d, x, rfl⟩ := four_nat h4
  have ha := hf a (by simp)
  have hb := hf b (by simp)
  have hd := hf d (by simp)
  have hx := hf x (by simp)
  rcases ha with rfl | rfl <;> rcases hb with rfl | rfl <;> rcases hd with rfl | rfl <;> rcases hx with rfl | rfl <;> decide
theorem a_len : ∀ f ∈ all16, (paperL f []).length = 15 := by decide +kernel
theorem a_asc : ∀ f ∈ all16, ∀ c ∈ paperL f [], c = 40 ∨ c = 41 := by decide +kernel
theorem a_st : ∀ f ∈ all16, (stepsT (paperL f [])).length ≤ 32 := by decide +kernel
end Mine
end Part46x
section Part47x
open PySem PySem.W PyProof.Rows PySem.Spec PySem.Calls
open Builtin Builtin.Str
set_option Elab.async false
set_option maxRecDepth 100000
set_option maxHeartbeats 1000000
namespace Mine
noncomputable def occG (s sub : List Nat) (n hi limit : Nat) : List Nat → List Nat → Nat → List Nat
  | [], acc, _ => acc
  | i :: r, acc, free => if decide (acc.length < limit) && (decide (free ≤ i) && (decide (i + n ≤ hi) && ((s.drop i).take n == sub))) then occG s sub n hi limit r (acc ++ [i]) (i + n) else occG s sub n hi limit r acc free
noncomputable def occ2 (x y : Str) (lo hi limit : Nat) : List Nat := occG x.cps.toList y.cps.toList y.cps.toList.length hi limit (List.range' lo (hi + 1 - lo)) [] lo
theorem subAt_eq (s sub : Str) (i : Nat) : subAt s sub i = ((s.cps.toList.drop i).take sub.cps.toList.length == sub.cps.toList) := by
  unfold subAt
  have e : (s.cps.extract i (i + sub.length)).toList = (s.cps.toList.drop i).take sub.cps.toList.length := by
    rw [Array.toList_extract, List.extract, Nat.add_sub_cancel_left, len_eq]
  rw [← e]
  by_cases h : s.cps.extract i (i + sub.length) = sub.cps
  · rw [h, beq_self_eq_true, beq_self_eq_true]
  · rw [beq_eq_false_iff_ne.mpr h, beq_eq_false_iff_ne.mpr fun q => h (Array.toList_inj.mp q)]
theorem occG_eq (s sub : Str) (hi limit : Nat) : ∀ (l : List Nat) (arr : Array Nat) (free : Nat),
    (forIn l (arr, free) (StrLaws.occBody s sub hi limit)).run.fst.toList = occG s.cps.toList sub.cps.toList sub.cps.toList.length hi limit l arr.toList free
  | [], arr, free => rfl
  | i :: r, arr, free => by
    rw [List.forIn_cons, occG]
    unfold StrLaws.occBody
    rw [subAt_eq, len_eq sub]
    by_cases h : ((arr.size < limit ∧ free ≤ i) ∧ i + sub.cps.toList.length ≤ hi) ∧ ((s.cps.toList.drop i).take sub.cps.toList.length == sub.cps.toList) = true
    · rw [if_pos h, if_pos (by simp only [Bool.and_eq_true, decide_eq_true_eq, Array.length_toList]; exact ⟨h.1.1.1, h.1.1.2, h.1.2, h.2⟩)]
      have ih := occG_eq s sub hi limit r (arr.push i) (i + sub.cps.toList.length)
      rw [Array.toList_push] at ih
      exact ih
    · rw [if_neg h, if_neg (by simp only [Bool.and_eq_true, decide_eq_true_eq, Array.length_toList]; exact fun g => h ⟨⟨⟨g.1, g.2.1⟩, g.2.2.1⟩, g.2.2.2⟩)]
      exact occG_eq s sub hi limit r arr free
theorem occ_is (x y : Str) (lo hi limit : Nat) : occurrences x y lo hi limit = occ2 x y lo hi limit := by
  rw [StrLaws.occ_eq, occG_eq]; rfl
end Mine
end Part47x
section Part48x
open PySem PySem.W PyProof.Rows PySem.Spec PySem.Calls
open Builtin Builtin.Str
set_option Elab.async false
set_option maxRecDepth 100000
set_option maxHeartbeats 1000000
namespace Mine
noncomputable def find42 (x y : Str) (i j : Int) : Int := match occ2 x y (fromIndex x.length i) (min (fromIndex x.length j) x.length) 1 with | k :: _ => (k : Int) | [] => -1
theorem find4_is (x y : Str) (i j : Int) : find4 x y i j = find42 x y i j := by
  unfold find4 find42
  rw [occ_is]
  all_goals (generalize occ2 _ _ _ _ _ = o; cases o <;> rfl)
noncomputable def cut2 (x y : Str) : List Str :=
  if (decide (x.length < y.length) || decide (strKind x < strKind y)) = true then [x] else (fun o : List Nat => if o.isEmpty = true then [x] else partsBetween x o y.length) (occ2 x y 0 x.length (x.length + 1))
theorem split_is (x y : Str) : Txt.split x y = cut2 x y := by unfold Txt.split cut2; rw [occ_is]
noncomputable def ellLoop2 (got : Str) (e : Int) : List Str → Int → Bool
  | [], _ => true
  | w :: r, s => (fun k : Int => if k < 0 then false else ellLoop2 got e r (k + w.length)) (find42 got w s e)
theorem ellLoop_is (got : Str) (e : Int) : ∀ (l : List Str) (s : Int), ellLoop got e l s = ellLoop2 got e l s
  | [], _ => rfl
  | w :: r, s => by rw [ellLoop, ellLoop2, find4_is]; dsimp only; rw [ellLoop_is got e r]
noncomputable def ellTail2 (got : Str) (e : Int) (ws : List Str) (s : Int) : Bool := if s > e then false else ellLoop2 got e ws s
theorem ellTail_is (got : Str) (e : Int) (ws : List Str) (s : Int) : ellTail got e ws s = ellTail2 got e ws s := by unfold ellTail ellTail2; rw [ellLoop_is]
noncomputable def ell22 (got : Str) : List Str → Bool
  | [] => false
  | a :: r => if a.length ≠ 0 ∧ Txt.startswith got a = false then false
    else (fun b : Str => if b.length ≠ 0 ∧ Txt.endswith got b = false then false
    else ellTail2 got (got.length - b.length) (ellWs a b r.dropLast) a.length) (r.getLast?.getD a)
theorem ell2_is (got : Str) (l : List Str) : ell2 got l = ell22 got l := by
  cases l with
  | nil => rfl
  | cons a r => unfold ell2 ell22; simp only [ellTail_is]
noncomputable def ellF2 (want got : Str) : Bool := if (occ2 want (S [46, 46, 46]) 0 want.length 1).isEmpty then want == got else ell22 got (cut2 want (S [46, 46, 46]))
theorem dots_is : dots = S [46, 46, 46] := by decide +kernel
theorem ellF_is (want got : Str) : ellF want got = ellF2 want got := by unfold ellF ellF2; rw [occ_is, split_is, ell2_is, dots_is]
end Mine
end Part48x
section Part49x
open PySem PySem.W PyProof.Rows PySem.Spec PySem.Calls
open Builtin Builtin.Str
set_option Elab.async false
set_option maxRecDepth 100000
set_option maxHeartbeats 1000000
namespace Mine
noncomputable abbrev dd3 : List Nat := [46, 46, 46]
section
variable {s sub : List Nat} {n hi lim : Nat}
theorem occG_skip : ∀ (l1 l2 acc : List Nat) (free : Nat), (∀ i ∈ l1, i < free ∨ ¬ (s.drop i).take n = sub ∨ hi < i + n) → occG s sub n hi lim (l1 ++ l2) acc free = occG s sub n hi lim l2 acc free
  | [], _, _, _, _ => rfl
  | i :: r, l2, acc, free, h => by
    rw [List.cons_append, occG, if_neg (by
      simp only [Bool.and_eq_true, decide_eq_true_eq, beq_iff_eq]
      rintro ⟨_, h2, h3, h4⟩
      rcases h i (.head _) with q | q | q
      · omega
      · exact q h4
      · omega)]
    exact occG_skip r l2 acc free fun j hj => h j (.tail _ hj)
theorem occG_hit {i : Nat} {l acc : List Nat} {free : Nat} (h4 : (s.drop i).take n = sub) (h1 : acc.length < lim) (h2 : free ≤ i) (h3 : i + n ≤ hi) : occG s sub n hi lim (i :: l) acc free = occG s sub n hi lim l (acc ++ [i]) (i + n) := by
  rw [occG, if_pos (by simp only [Bool.and_eq_true, decide_eq_true_eq, beq_iff_eq]; exact ⟨h1, h2, h3, h4⟩)]
theorem occG_full : ∀ (l acc : List Nat) (free : Nat), lim ≤ acc.length → occG s sub n hi lim l acc free = acc
  | [], _, _, _ => rfl
  | i :: r, acc, free, h => by
    rw [occG, if_neg (by
      simp only [Bool.and_eq_true, decide_eq_true_eq, beq_iff_eq]
      rintro ⟨h1, _⟩
      omega)]
    exact occG_full r acc free h
end
theorem S_cps' (l : List Nat) : (S l).cps.toList = l := S_cps l
section
variable {x : List Nat}
theorem d_len : (dd3 ++ x ++ dd3).length = x.length + 6 := by simp
theorem d_drop {i : Nat} (h3 : 3 ≤ i) (h : i < x.length + 3) (hx : ∀ c ∈ x, c ≠ 46) : ¬ ((dd3 ++ x ++ dd3).drop i).take 3 = dd3 := by
  obtain ⟨k, rfl⟩ : ∃ k, i = k + 3 := ⟨i - 3, by omega⟩
  have e : (dd3 ++ x ++ dd3).drop (k + 3) = x.drop k ++ dd3 := by
    show (x ++ dd3).drop k = _
    exact List.drop_append_of_le_length (by omega)
  rw [e, List.drop_eq_getElem_cons (by omega : k < x.length)]
  intro q
  exact hx _ (List.getElem_mem _) (List.cons.inj q).1
theorem d_range : List.range' 0 (x.length + 6 + 1 - 0) = 0 :: (List.range' 1 (x.length + 2) ++ (3 + x.length) :: (List.range' (4 + x.length) 3 ++ [])) := by
  have e1 : List.range' 0 (1 + ((x.length + 2) + (1 + 3))) = List.range' 0 1 ++ List.range' (0 + 1) ((x.length + 2) + (1 + 3)) := List.range'_append_1.symm
  have e2 : List.range' (0 + 1) ((x.length + 2) + (1 + 3)) = List.range' (0 + 1) (x.length + 2) ++ List.range' (0 + 1 + (x.length + 2)) (1 + 3) := List.range'_append_1.symm
  have e3 : List.range' (0 + 1 + (x.length + 2)) (1 + 3) = List.range' (0 + 1 + (x.length + 2)) 1 ++ List.range' (0 + 1 + (x.length + 2) + 1) 3 := List.range'_append_1.symm
  rw [show x.length + 6 + 1 - 0 = 1 + ((x.length + 2) + (1 + 3)) by omega, e1, e2, e3, List.append_nil, show 0 + 1 + (x.length + 2) = 3 + x.length by omega, show 3 + x.length + 1 = 4 + x.length by omega]
  rfl
theorem dd0 : ((dd3 ++ x ++ dd3).drop 0).take dd3.length = dd3 := rfl
theorem kind_d : Builtin.Str.strKind (S dd3) = 1 := by decide +kernel
theorem kind_1 (y : Str) : ¬ Builtin.Str.strKind y < 1 := by unfold Builtin.Str.strKind; split <;> (try split) <;> omega
theorem occ_d1 : occ2 (S (dd3 ++ x ++ dd3)) (S dd3) 0 (x.length + 6) 1 = [0] := by
  unfold occ2
  rw [S_cps, S_cps, d_range, occG_hit dd0 (by decide) (by decide) (by show 0 + 3 ≤ _; omega), occG_full _ _ _ (by decide)]; rfl
theorem occ_d2 (hx : ∀ c ∈ x, c ≠ 46) {lim : Nat} (hl : 2 ≤ lim) : occ2 (S (dd3 ++ x ++ dd3)) (S dd3) 0 (x.length + 6) lim = [0, 3 + x.length] := by
  unfold occ2
  rw [S_cps, S_cps, d_range, occG_hit dd0 (by show 0 < _; omega) (by decide) (by show 0 + 3 ≤ _; omega)]
  rw [occG_skip _ _ _ _ (fun i hi => by
    rw [List.mem_range'_1] at hi
    by_cases h3 : i < 3
    · exact .inl h3
    · exact .inr (.inl (d_drop (by omega) (by omega) hx)))]
  have hd : ((dd3 ++ x ++ dd3).drop (3 + x.length)).take dd3.length = dd3 := by
    have e : (dd3 ++ x ++ dd3).drop (3 + x.length) = dd3 := by rw [show 3 + x.length = (dd3 ++ x).length by simp; omega, List.drop_left]
    rw [e]; rfl
  rw [occG_hit hd (by show 1 < _; omega) (by show 0 + 3 ≤ _; omega) (by show 3 + x.length + 3 ≤ _; omega)]
  rw [occG_skip _ _ _ _ (fun i hi => by
    rw [List.mem_range'_1] at hi
    right; right
    show _ < i + 3
    omega)]
  rfl
end
theorem sub_S (l : List Nat) (i j : Nat) : strSub (S l) i j = S ((l.drop i).take (j - i)) := by
  unfold strSub S
  congr 1
  apply Array.toList_inj.mp
  rw [Array.toList_extract, List.extract]
theorem cut_d {x : List Nat} (hx : ∀ c ∈ x, c ≠ 46) : cut2 (S (dd3 ++ x ++ dd3)) (S dd3) = [S [], S x, S []] := by
  unfold cut2
  rw [S_len, S_len, d_len, kind_d, occ_d2 hx (by omega), if_neg (by
    simp only [Bool.or_eq_true, decide_eq_true_eq]
    rintro (q | q)
    · have q' : x.length + 6 < 3 := q
      omega
    · exact kind_1 _ q)]
  dsimp only
  rw [if_neg (by simp)]
  show [strSub (S (dd3 ++ x ++ dd3)) 0 0, strSub (S (dd3 ++ x ++ dd3)) (0 + 3) (3 + x.length), strSub (S (dd3 ++ x ++ dd3)) (3 + x.length + 3) (S (dd3 ++ x ++ dd3)).length] = _
  rw [sub_S, sub_S, sub_S, S_len]
  have e2 : ((dd3 ++ x ++ dd3).drop (0 + 3)).take (3 + x.length - (0 + 3)) = x := by
    show (x ++ dd3).take _ = x
    rw [show 3 + x.length - (0 + 3) = x.length by omega, List.take_left]
  have e3 : ((dd3 ++ x ++ dd3).drop (3 + x.length + 3)).take ((dd3 ++ x ++ dd3).length - (3 + x.length + 3)) = [] := by
    rw [List.drop_of_length_le (by rw [d_len]; omega), List.take_nil]
  rw [e2, e3]; rfl
theorem fromI {n k : Nat} : fromIndex n (k : Int) = k := by unfold fromIndex; split <;> omega
theorem find_nil {g : List Nat} {k : Nat} (hk : k ≤ g.length) : find42 (S g) (S []) (k : Int) (g.length : Nat) = k := by
  unfold find42
  rw [fromI, fromI, S_len, Nat.min_self]
  unfold occ2
  rw [S_cps, S_cps, show g.length + 1 - k = (g.length - k) + 1 by omega, List.range'_succ, occG_hit (by simp) (by decide) (Nat.le_refl _) (by show k + 0 ≤ _; omega), occG_full _ ([] ++ [k]) _ (by simp)]
  rfl
theorem ell_mid {x g : List Nat} (hx : ∀ c ∈ x, c ≠ 46) : ellF (S dd3 ++ S x ++ S dd3) (S g) = !(occurrences (S g) (S x) 0 (S g).length 1).isEmpty := by
  rw [ellF_is, S_app, S_app]
  unfold ellF2
  rw [S_len, d_len, occ_d1, if_neg (by decide), cut_d hx]
  have h1 : ¬ ((S []).length ≠ 0 ∧ Txt.startswith (S g) (S []) = false) := by simp [S_len]
  have h2 : ¬ ((S []).length ≠ 0 ∧ Txt.endswith (S g) (S []) = false) := by simp [S_len]
  show (if (S []).length ≠ 0 ∧ Txt.startswith (S g) (S []) = false then false else (if (S []).length ≠ 0 ∧ Txt.endswith (S g) (S []) = false then false else ellTail2 (S g) ((S g).length - (S []).length) (ellWs (S []) (S []) [S x]) (S []).length)) = _
  rw [if_neg h1, if_neg h2]
  show ellTail2 (S g) ((S g).length - (S []).length) (ellWs (S []) (S []) [S x]) (S []).length = _
  unfold ellTail2 ellWs
  simp only [S_len, List.length_nil, if_true, List.cons_append, List.nil_append]
  rw [if_neg (by omega)]
  have z : ((0 : Nat) : Int) = 0 := rfl
  rw [ellLoop2]
  dsimp only
  rw [show (g.length : Int) - ((0 : Nat) : Int) = (g.length : Nat) by omega, find_nil (Nat.zero_le _), if_neg (by omega), ellLoop2]
  dsimp only
  rw [S_len, show ((0 : Nat) : Int) + ((([] : List Nat).length : Nat) : Int) = ((0 : Nat) : Int) by simp]
  have sp := StrLaws.occ_spec (S g) (S x) 0 (S g).length 1
  have ef : find42 (S g) (S x) ((0 : Nat) : Int) (g.length : Nat) = match occurrences (S g) (S x) 0 (S g).length 1 with | k :: _ => (k : Int) | [] => -1 := by
    unfold find42
    rw [fromI, fromI, S_len, Nat.min_self, occ_is]
    all_goals (generalize occ2 _ _ _ _ _ = o; cases o <;> rfl)
  rw [ef]
  cases h : occurrences (S g) (S x) 0 (S g).length 1 with
  | nil => rw [S_len] at h; rw [h]; rfl
  | cons k r =>
    have hk := (sp k (by rw [h]; exact .head _)).1
    rw [S_len, S_len] at hk
    dsimp only
    rw [if_neg (by omega), ellLoop2]
    dsimp only
    rw [S_len, show ((k : Nat) : Int) + ((x.length : Nat) : Int) = ((k + x.length : Nat) : Int) by omega, find_nil hk, if_neg (by omega), ellLoop2]
    rw [S_len] at h
    rw [h]
    rfl
theorem mul2 (y : List Nat) : Txt.mul (S y) 2 = S (y ++ y) := by
  unfold Txt.mul
  rw [if_neg (by decide)]
  by_cases h : y = []
  · subst h; rfl
  · have h' : y.length ≠ 0 := fun q => h (List.eq_nil_of_length_eq_zero q)
    rw [if_neg (by rw [S_len]; simpa using h)]
    show (⟨(#[] ++ y.toArray) ++ y.toArray⟩ : Str) = _
    simp [S]
theorem twS_is (row : List Nat) (j i : Nat) : twS row (0 + (j : Int)) (2 + (i : Int)) = S (((row.take (j + (2 + i))).drop j) ++ ((row.take (j + (2 + i))).drop j)) := by
  unfold twS
  rw [slice_S, S_cps, show (0 : Int) + (j : Int) = ((j : Nat) : Int) by omega, show (j : Int) + (2 + (i : Int)) = ((j + (2 + i) : Nat) : Int) by omega, slF_ft, mul2]
noncomputable def hasP : List Nat → List Nat → Bool
  | [], _ => true
  | _ :: _, [] => false
  | a :: x, b :: g => Nat.beq a b && hasP x g
noncomputable def inL (x : List Nat) : List Nat → Bool
  | [] => hasP x []
  | c :: g => hasP x (c :: g) || inL x g
theorem hasP_of : ∀ (x g : List Nat), g.take x.length = x → hasP x g = true
  | [], _, _ => rfl
  | a :: x, [], h => by simp at h
  | a :: x, b :: g, h => by
    rw [List.length_cons, List.take_succ_cons, List.cons.injEq] at h
    rw [hasP, h.1, hasP_of x g h.2, Bool.and_true]
    exact Nat.beq_refl a
theorem inL_of (x : List Nat) : ∀ (g : List Nat) (i : Nat), (g.drop i).take x.length = x → inL x g = true
  | [], i, h => by rw [List.drop_nil] at h; exact hasP_of x [] h
  | c :: g, 0, h => by rw [inL, hasP_of x (c :: g) h]; rfl
  | c :: g, i + 1, h => by rw [inL, inL_of x g i h, Bool.or_true]
theorem not_in {x g : List Nat} (h : inL x g = false) : (!(occurrences (S g) (S x) 0 (S g).length 1).isEmpty) = false := by
  rw [Bool.eq_false_iff]
  intro q
  obtain ⟨i, _, h2⟩ := (StrLaws.found_iff (S g) (S x)).mp q
  rw [Mine.subAt_eq, beq_iff_eq, S_cps, S_cps] at h2
  rw [inL_of x g i h2] at h
  exact Bool.noConfusion h
noncomputable def twN (row : List Nat) : Bool := [0, 2, 4, 5].all fun i => (List.range (12 - 2 * i)).all fun j => !inL (((row.take (j + (2 + i))).drop j) ++ ((row.take (j + (2 + i))).drop j)) row
theorem tw_no : ∀ f ∈ all16, twN (paperL f []) = true := by decide +kernel
theorem a_tw {f : List Nat} (hf : f ∈ all16) (i j : Nat) (hi : i < 6) (hj : j < 12 - 2 * i) : twOk (paperL f []) (0 + (j : Int)) (2 + (i : Int)) := by
  have hn := tw_no f hf
  have ha := a_asc f hf
  unfold twOk
  rw [twS_is, show Str.ofString "..." = S dd3 from dots_is, ell_mid (fun c hc => by
    have : c ∈ paperL f [] := by
      rcases List.mem_append.mp hc with hc | hc <;> exact List.mem_of_mem_take (List.mem_of_mem_drop hc)
    rcases ha c this with rfl | rfl <;> decide)]
  by_cases h : i = 1 ∨ i = 3
  · rcases h with rfl | rfl <;> rfl
  · have hm : i ∈ [0, 2, 4, 5] := by simp; omega
    have := List.all_eq_true.mp (List.all_eq_true.mp hn i hm) j (List.mem_range.mpr hj)
    rw [not_in (by simpa using this)]
    simp
end Mine
end Part49x
section Part50x
open PySem PySem.W PyProof.Rows PySem.Spec PySem.Calls
set_option Elab.async false
set_option maxRecDepth 100000
set_option maxHeartbeats 1000000
namespace Mine
theorem read_nil : readF [] = [] := by rw [readF.eq_def]
theorem read_rep (n : Nat) : readF (List.replicate n 34) = List.replicate (n / 2) 34 := by
  by_cases h : n % 2 = 0
  · obtain ⟨k, rfl⟩ : ∃ k, n = 2 * k := ⟨n / 2, by omega⟩
    have := read_even k []
    rw [List.append_nil] at this
    rw [this, read_nil, List.append_nil, show 2 * k / 2 = k by omega]
  · obtain ⟨k, rfl⟩ : ∃ k, n = 2 * k + 1 := ⟨n / 2, by omega⟩
    rw [List.replicate_succ', read_even, readF_one, List.append_nil, show (2 * k + 1) / 2 = k by omega]
theorem fdiv_two (k : Nat) : ((k : Int).fdiv 2) = ((k / 2 : Nat) : Int) := by cases k <;> rfl
section
variable {X row : List Nat}
theorem u1 : Str.ofString "257 \"" = S [50, 53, 55, 32, 34] := by decide +kernel
theorem u2 : Str.ofString "\" \"" = S [34, 32, 34] := by decide +kernel
theorem u3 : Str.ofString "257 " = S [50, 53, 55, 32] := by decide +kernel
theorem u4 : Str.ofString "257-\"" = S [50, 53, 55, 45, 34] := by decide +kernel
theorem q_pA (h : ∀ c ∈ X, c ≠ 34) : parseF (Str.ofString "257 \"" ++ S X ++ Str.ofString "\" \"" ++ S X ++ Str.ofString "\"").cps.toList = some X := by
  rw [u1, u2, q_is, S_app, S_app, S_app, S_app, S_cps]
  simp only [List.append_assoc]
  rw [parse_pre, read_app h]
  show some (X ++ readF (34 :: 32 :: _)) = _
  rw [readF_end (by decide), List.append_nil]
theorem q_pB (h : ∀ c ∈ X, c ≠ 34) (k : Nat) : parseF (Str.ofString "257 \"" ++ S X ++ Txt.mul (Str.ofString "\"") (k : Int)).cps.toList = some (X ++ rep ((k : Int).fdiv 2) 34) := by
  rw [u1, mul34, S_app, S_app, S_cps, List.append_assoc, parse_pre, read_app h, fdiv_two]
  unfold rep
  rw [Int.toNat_natCast, Int.toNat_natCast, read_rep]
theorem parse_no {l : List Nat} (h3 : l.take 3 = [50, 53, 55]) (h2 : ¬ (l.take 5).drop 3 = [32, 34]) : parseF l = some [] := by
  unfold parseF
  rw [if_pos h3, if_neg h2]
theorem q_p2 (h : ∀ c ∈ row, c ≠ 34) (h0 : row ≠ []) : parseF (Str.ofString "257 " ++ S row).cps.toList = some [] := by
  cases row with
  | nil => exact absurd rfl h0
  | cons c r =>
    have hc := h c (.head _)
    rw [u3, S_app, S_cps]
    refine parse_no rfl ?_
    show ¬ [32, c] = [32, 34]
    simpa using hc
theorem q_p3 (h : ∀ c ∈ row, c ≠ 34) (h0 : row ≠ []) : parseF (Str.ofString "257 " ++ S row ++ Str.ofString "\"" ++ S row ++ Str.ofString "\"").cps.toList = some [] := by
  cases row with
  | nil => exact absurd rfl h0
  | cons c r =>
    have hc := h c (.head _)
    rw [u3, q_is, S_app, S_app, S_app, S_app, S_cps]
    refine parse_no rfl ?_
    show ¬ [32, c] = [32, 34]
    simpa using hc
theorem q_p4 : parseF (Str.ofString "257-\"" ++ S row).cps.toList = some [] := by
  rw [u4, S_app, S_cps]
  refine parse_no rfl ?_
  show ¬ [45, 34] = [32, 34]
  decide
end
end Mine
end Part50x
section Part51x
open PySem PySem.W PyProof.Rows PySem.Spec PySem.Calls
open Builtin Builtin.Str
set_option Elab.async false
set_option maxRecDepth 100000
set_option maxHeartbeats 1000000
namespace Mine
section
variable {a b : List Nat}
theorem ab_len : (a ++ dd3 ++ b).length = a.length + 3 + b.length := by rw [List.length_append, List.length_append]; rfl
theorem ab_range : List.range' 0 (a.length + 3 + b.length + 1 - 0) = List.range' 0 a.length ++ a.length :: (List.range' (a.length + 1) (3 + b.length) ++ []) := by
  have e1 : List.range' 0 (a.length + (1 + (3 + b.length))) = List.range' 0 a.length ++ List.range' (0 + a.length) (1 + (3 + b.length)) := List.range'_append_1.symm
  have e2 : List.range' (0 + a.length) (1 + (3 + b.length)) = List.range' (0 + a.length) 1 ++ List.range' (0 + a.length + 1) (3 + b.length) := List.range'_append_1.symm
  rw [show a.length + 3 + b.length + 1 - 0 = a.length + (1 + (3 + b.length)) by omega, e1, e2, List.append_nil, show 0 + a.length = a.length by omega]
  rfl
theorem take_head {l : List Nat} {c : Nat} (h : c ≠ 46) : ¬ (c :: l).take 3 = dd3 := fun q => h (List.cons.inj q).1
theorem ab_left (ha : ∀ c ∈ a, c ≠ 46) {i : Nat} (h : i < a.length) : ¬ ((a ++ dd3 ++ b).drop i).take dd3.length = dd3 := by
  rw [List.append_assoc, List.drop_append_of_le_length (by omega), List.drop_eq_getElem_cons h]
  exact take_head (ha _ (List.getElem_mem _))
theorem ab_right (hb : ∀ c ∈ b, c ≠ 46) {i : Nat} (h1 : a.length + 3 ≤ i) (h : i < a.length + 3 + b.length) : ¬ ((a ++ dd3 ++ b).drop i).take dd3.length = dd3 := by
  obtain ⟨k, rfl⟩ : ∃ k, i = a.length + 3 + k := ⟨i - (a.length + 3), by omega⟩
  rw [show a.length + 3 + k = (a ++ dd3).length + k by simp, List.drop_append, List.drop_of_length_le (by omega), List.nil_append, show (a ++ dd3).length + k - (a ++ dd3).length = k by omega, List.drop_eq_getElem_cons (by omega : k < b.length)]
  exact take_head (hb _ (List.getElem_mem _))
theorem ab_mid : ((a ++ dd3 ++ b).drop a.length).take dd3.length = dd3 := by rw [List.append_assoc, List.drop_left]; rfl
theorem occ_ab (ha : ∀ c ∈ a, c ≠ 46) (hb : ∀ c ∈ b, c ≠ 46) {lim : Nat} (hl : 1 ≤ lim) : occ2 (S (a ++ dd3 ++ b)) (S dd3) 0 (a.length + 3 + b.length) lim = [a.length] := by
  unfold occ2
  rw [S_cps, S_cps, ab_range, occG_skip _ _ _ _ (fun i hi => .inr (.inl (ab_left ha (by rw [List.mem_range'_1] at hi; omega)))), occG_hit ab_mid (by show 0 < _; omega) (Nat.zero_le _) (by show a.length + 3 ≤ _; omega)]
  rw [occG_skip _ _ _ _ (fun i hi => by
    rw [List.mem_range'_1] at hi
    by_cases h3 : i < a.length + 3
    · exact .inl h3
    · by_cases h4 : i < a.length + 3 + b.length
      · exact .inr (.inl (ab_right hb (by omega) h4))
      · exact .inr (.inr (by show _ < i + 3; omega)))]
  rfl
theorem cut_ab (ha : ∀ c ∈ a, c ≠ 46) (hb : ∀ c ∈ b, c ≠ 46) : cut2 (S (a ++ dd3 ++ b)) (S dd3) = [S a, S b] := by
  unfold cut2
  rw [S_len, S_len, ab_len, kind_d, occ_ab ha hb (by omega), if_neg (by
    simp only [Bool.or_eq_true, decide_eq_true_eq]
    rintro (q | q)
    · have q' : a.length + 3 + b.length < 3 := q
      omega
    · exact kind_1 _ q)]
  dsimp only
  rw [if_neg (by simp)]
  show [strSub (S (a ++ dd3 ++ b)) 0 a.length, strSub (S (a ++ dd3 ++ b)) (a.length + dd3.length) (S (a ++ dd3 ++ b)).length] = _
  rw [sub_S, sub_S, S_len]
  have e1 : ((a ++ dd3 ++ b).drop 0).take (a.length - 0) = a := by rw [List.drop_zero, Nat.sub_zero, List.append_assoc, List.take_left]
  have e2 : ((a ++ dd3 ++ b).drop (a.length + dd3.length)).take ((a ++ dd3 ++ b).length - (a.length + dd3.length)) = b := by
    rw [show a.length + dd3.length = (a ++ dd3).length by simp, List.drop_left, List.take_of_length_le (by rw [List.length_append]; omega)]
  rw [e1, e2]
theorem starts_S (g a : List Nat) : Txt.startswith (S g) (S a) = (decide (a.length ≤ g.length) && (g.take a.length == a)) := by
  unfold Txt.startswith
  rw [Mine.subAt_eq, S_len, S_len, S_cps, S_cps, List.drop_zero, Nat.zero_add]
theorem ends_S (g b : List Nat) : Txt.endswith (S g) (S b) = (decide (b.length ≤ g.length) && ((g.drop (g.length - b.length)).take b.length == b)) := by
  unfold Txt.endswith
  rw [Mine.subAt_eq, S_len, S_len, S_cps, S_cps, Nat.zero_add]
theorem ell_ab {g : List Nat} (ha : ∀ c ∈ a, c ≠ 46) (hb : ∀ c ∈ b, c ≠ 46) (a0 : a ≠ []) (b0 : b ≠ []) :
    ellF (S a ++ S dd3 ++ S b) (S g) = (Txt.startswith (S g) (S a) && Txt.endswith (S g) (S b) && decide (a.length + b.length ≤ g.length)) := by
  have a1 : a.length ≠ 0 := fun q => a0 (List.eq_nil_of_length_eq_zero q)
  have b1 : b.length ≠ 0 := fun q => b0 (List.eq_nil_of_length_eq_zero q)
  rw [ellF_is, S_app, S_app]
  unfold ellF2
  rw [S_len, ab_len, occ_ab ha hb (by decide), if_neg (by simp), cut_ab ha hb]
  show (if (S a).length ≠ 0 ∧ Txt.startswith (S g) (S a) = false then false else (if (S b).length ≠ 0 ∧ Txt.endswith (S g) (S b) = false then false else ellTail2 (S g) ((S g).length - (S b).length) (ellWs (S a) (S b) []) (S a).length)) = _
  by_cases h1 : Txt.startswith (S g) (S a) = true
  · rw [if_neg (by rw [h1]; simp), h1]
    by_cases h2 : Txt.endswith (S g) (S b) = true
    · rw [if_neg (by rw [h2]; simp), h2]
      unfold ellTail2 ellWs
      rw [S_len, S_len, S_len, if_neg a1, if_neg b1]
      by_cases h3 : a.length + b.length ≤ g.length
      · have e : decide (a.length + b.length ≤ g.length) = true := by simpa using h3
        rw [if_neg (by omega), e]; rfl
      · have e : decide (a.length + b.length ≤ g.length) = false := by simpa using h3
        rw [if_pos (by omega), e]; rfl
    · rw [Bool.not_eq_true] at h2
      rw [if_pos ⟨by rw [S_len]; exact b1, h2⟩, h2]; rfl
  · rw [Bool.not_eq_true] at h1
    rw [if_pos ⟨by rw [S_len]; exact a1, h1⟩, h1]; rfl
end
section
variable {row : List Nat}
theorem sl_to (k : Nat) : Txt.slice (S row) none (some (k : Int)) = S (row.take k) := by rw [slice_S, S_cps, slF_to]
theorem sl_from (k : Nat) : Txt.slice (S row) (some (k : Int)) none = S (row.drop k) := by rw [slice_S, S_cps, slF_from]
theorem sl_ft (j k : Nat) : Txt.slice (S row) (some (j : Int)) (some (k : Int)) = S ((row.take k).drop j) := by rw [slice_S, S_cps, slF_ft]
theorem dts_is : dts = S dd3 := dots_is
theorem not46 {row : List Nat} (h : ∀ c ∈ row, c = 40 ∨ c = 41) : ∀ c ∈ row, c ≠ 46 := fun c hc => by rcases h c hc with rfl | rfl <;> decide
theorem ne_len {l : List Nat} {k : Nat} (h : l.length = k + 1) : l ≠ [] := fun q => by rw [q] at h; simp at h
theorem q_e2 (h15 : row.length = 15) (h : ∀ c ∈ row, c ≠ 46) : ellF (Txt.slice (S row) none (some 7) ++ dts ++ Txt.slice (S row) (some 8) none) (S row) = true := by
  have l1 : (row.take 7).length = 7 := by simp; omega
  have l2 : (row.drop 8).length = 7 := by simp; omega
  rw [show (7 : Int) = ((7 : Nat) : Int) from rfl, show (8 : Int) = ((8 : Nat) : Int) from rfl, sl_to, sl_from, dts_is, ell_ab (fun c hc => h c (List.mem_of_mem_take hc)) (fun c hc => h c (List.mem_of_mem_drop hc)) (ne_len l1) (ne_len l2), starts_S, ends_S, l1, l2, h15]
  have e : (row.drop (15 - 7)).take 7 = row.drop 8 := List.take_of_length_le (by rw [show 15 - 7 = 8 from rfl, l2]; omega)
  rw [e]; simp
theorem q_e4 (h15 : row.length = 15) (h : ∀ c ∈ row, c ≠ 46) : ellF (Txt.slice (S row) none (some 8) ++ dts ++ Txt.slice (S row) (some 7) none) (S row) = false := by
  have l1 : (row.take 8).length = 8 := by simp; omega
  have l2 : (row.drop 7).length = 8 := by simp; omega
  rw [show (7 : Int) = ((7 : Nat) : Int) from rfl, show (8 : Int) = ((8 : Nat) : Int) from rfl, sl_to, sl_from, dts_is, ell_ab (fun c hc => h c (List.mem_of_mem_take hc)) (fun c hc => h c (List.mem_of_mem_drop hc)) (ne_len l1) (ne_len l2), l1, l2, h15]
  simp
theorem q_e5 (h15 : row.length = 15) (h : ∀ c ∈ row, c ≠ 46) (hn : ¬ row.take 6 = (row.take 7).drop 1) : ellF (Txt.slice (S row) (some 1) (some 7) ++ dts ++ Txt.slice (S row) (some 8) none) (S row) = false := by
  have l1 : ((row.take 7).drop 1).length = 6 := by simp; omega
  have l2 : (row.drop 8).length = 7 := by simp; omega
  rw [show (7 : Int) = ((7 : Nat) : Int) from rfl, show (8 : Int) = ((8 : Nat) : Int) from rfl, show (1 : Int) = ((1 : Nat) : Int) from rfl, sl_ft, sl_from, dts_is, ell_ab (fun c hc => h c (List.mem_of_mem_take (List.mem_of_mem_drop hc))) (fun c hc => h c (List.mem_of_mem_drop hc)) (ne_len l1) (ne_len l2), starts_S, l1, beq_eq_false_iff_ne.mpr hn]
  simp
theorem q_e6 (h15 : row.length = 15) (h : ∀ c ∈ row, c ≠ 46) (hn : ¬ row.drop 9 = (row.take 14).drop 8) : ellF (Txt.slice (S row) none (some 7) ++ dts ++ Txt.slice (S row) (some 8) (some 14)) (S row) = false := by
  have l1 : (row.take 7).length = 7 := by simp; omega
  have l2 : ((row.take 14).drop 8).length = 6 := by simp; omega
  have e : (row.drop (15 - 6)).take 6 = row.drop 9 := List.take_of_length_le (by simp; omega)
  rw [show (7 : Int) = ((7 : Nat) : Int) from rfl, show (8 : Int) = ((8 : Nat) : Int) from rfl, show (14 : Int) = ((14 : Nat) : Int) from rfl, sl_to, sl_ft, dts_is, ell_ab (fun c hc => h c (List.mem_of_mem_take hc)) (fun c hc => h c (List.mem_of_mem_take (List.mem_of_mem_drop hc))) (ne_len l1) (ne_len l2), ends_S, l2, h15, e, beq_eq_false_iff_ne.mpr hn]
  simp
theorem n_e5 : ∀ f ∈ all16, ((paperL f []).take 6 == ((paperL f []).take 7).drop 1) = false := by decide +kernel
theorem n_e6 : ∀ f ∈ all16, ((paperL f []).drop 9 == ((paperL f []).take 14).drop 8) = false := by decide +kernel
end
end Mine
end Part51x
section Part52x
open PySem PySem.W PyProof.Rows PySem.Spec PySem.Calls
set_option Elab.async false
set_option maxRecDepth 100000
set_option maxHeartbeats 1000000
namespace Mine
noncomputable abbrev pp (f : List Nat) : List Nat := paperL f []
theorem f_e1 : ∀ f ∈ all16, ellF2 (Txt.slice (stepsT (paperL f [])) none (some (-3))) (S (paperL f [])) = true := by decide +kernel
theorem f_e3 : ∀ f ∈ all16, ellF2 (stepsT (pp f) ++ Txt.item (S (pp f)) 0 ++ dts) (S (pp f)) = false := by decide +kernel
theorem a_e1 : ∀ f ∈ all16, ellF (Txt.slice (stepsT (paperL f [])) none (some (-3))) (S (paperL f [])) = true := fun f hf => (ellF_is _ _).trans (f_e1 f hf)
theorem a_e2 : ∀ f ∈ all16, ellF (Txt.slice (S (pp f)) none (some 7) ++ dts ++ Txt.slice (S (pp f)) (some 8) none) (S (pp f)) = true := fun f hf => q_e2 (a_len f hf) (not46 (a_asc f hf))
theorem a_e3 : ∀ f ∈ all16, ellF (stepsT (pp f) ++ Txt.item (S (pp f)) 0 ++ dts) (S (pp f)) = false := fun f hf => (ellF_is _ _).trans (f_e3 f hf)
theorem a_e4 : ∀ f ∈ all16, ellF (Txt.slice (S (pp f)) none (some 8) ++ dts ++ Txt.slice (S (pp f)) (some 7) none) (S (pp f)) = false := fun f hf => q_e4 (a_len f hf) (not46 (a_asc f hf))
theorem a_e5 : ∀ f ∈ all16, ellF (Txt.slice (S (pp f)) (some 1) (some 7) ++ dts ++ Txt.slice (S (pp f)) (some 8) none) (S (pp f)) = false := fun f hf => q_e5 (a_len f hf) (not46 (a_asc f hf)) (beq_eq_false_iff_ne.mp (n_e5 f hf))
theorem a_e6 : ∀ f ∈ all16, ellF (Txt.slice (S (pp f)) none (some 7) ++ dts ++ Txt.slice (S (pp f)) (some 8) (some 14)) (S (pp f)) = false := fun f hf => q_e6 (a_len f hf) (not46 (a_asc f hf)) (beq_eq_false_iff_ne.mp (n_e6 f hf))
theorem not34 {row : List Nat} (h : ∀ c ∈ row, c = 40 ∨ c = 41) : ∀ c ∈ row, c ≠ 34 := fun c hc => by rcases h c hc with rfl | rfl <;> decide
theorem no34 {i : Nat} {row : List Nat} (h : ∀ c ∈ row, c = 40 ∨ c = 41) : ∀ c ∈ frontOf i ++ row ++ frontOf i, c ≠ 34 := fun c hc => by
  have fc : ∀ c ∈ frontOf i, c ≠ 34 := fun c hc => (front_chars (c := 192) (by decide) c hc).1
  rcases List.mem_append.mp hc with hc | hc
  · rcases List.mem_append.mp hc with hc | hc
    · exact fc c hc
    · exact not34 h c hc
  · exact fc c hc
theorem a_p1 : parseF (Str.ofString "257").cps.toList = some [] := by decide +kernel
theorem a_p2 : ∀ f ∈ all16, parseF (Str.ofString "257 " ++ S (pp f)).cps.toList = some [] := fun f hf => q_p2 (not34 (a_asc f hf)) (ne_len (a_len f hf))
theorem a_p3 : ∀ f ∈ all16, parseF (Str.ofString "257 " ++ S (pp f) ++ Str.ofString "\"" ++ S (pp f) ++ Str.ofString "\"").cps.toList = some [] := fun f hf => q_p3 (not34 (a_asc f hf)) (ne_len (a_len f hf))
theorem a_p4 : ∀ f ∈ all16, parseF (Str.ofString "257-\"" ++ S (pp f)).cps.toList = some [] := fun _ _ => q_p4
theorem a_pA : ∀ i : Nat, ∀ f ∈ all16, parseF (Str.ofString "257 \"" ++ (S (frontOf i) ++ S (pp f) ++ S (frontOf i)) ++ Str.ofString "\" \"" ++ (S (frontOf i) ++ S (pp f) ++ S (frontOf i)) ++ Str.ofString "\"").cps.toList = some (frontOf i ++ pp f ++ frontOf i) := fun i f hf => by
  rw [S_app, S_app]
  exact q_pA (no34 (a_asc f hf))
theorem a_pB : ∀ (q i : Nat), ∀ f ∈ all16, parseF (Str.ofString "257 \"" ++ (S (frontOf i) ++ S (pp f) ++ S (frontOf i)) ++ Txt.mul (Str.ofString "\"") (q : Int)).cps.toList = some (frontOf i ++ pp f ++ frontOf i ++ rep ((q : Int).fdiv 2) 34) := fun q i f hf => by
  rw [S_app, S_app]
  exact q_pB (no34 (a_asc f hf)) q
theorem a_c23 : ∀ kb ∈ [((1 : Int), 1), (2, 3), (3, 7), (4, 15)], ∀ f ∈ all16, (0 ≤ ridg f kb.1 ∧ ridg f kb.1 ≤ 4) ∧ checkF (rep (ridg f kb.1 - 1) 40 ++ (pp f).take kb.2 ++ rep (ridg f kb.1 - 1 + rise f kb.1) 41) = false ∧ checkF (rep (ridg f kb.1 + 1) 40 ++ (pp f).take kb.2 ++ rep (ridg f kb.1 + rise f kb.1) 41) = false := by decide +kernel
theorem a_c1 : ∀ q ∈ [(0 : Int), 1], ∀ kb ∈ [((1 : Int), 1), (2, 3), (3, 7)], ∀ f ∈ all16, checkF (rep (ridg f kb.1) 40 ++ (pp f).take kb.2 ++ rep (ridg f kb.1 + rise f kb.1) 41 ++ rep q 92) = true := by decide +kernel
end Mine
end Part52x
section Part53x
open PySem PySem.W PyProof.Rows PySem.Spec PySem.Calls
set_option Elab.async false
set_option maxRecDepth 100000
set_option maxHeartbeats 1000000
namespace Mine
theorem chk_idx : ∀ (l : List Nat) (i j : Nat) (e : Bool) (n : Int), checkLoop (itemsF l i e) n = checkLoop (itemsF l j e) n
  | [], i, j, true, n => rfl
  | [], i, j, false, n => rfl
  | c :: r, i, j, true, n => by
    have h := chk_idx r (i + 1) (j + 1) false
    rw [itemsF, itemsF, checkLoop, checkLoop, h, h, h]
  | c :: r, i, j, false, n => by
    have h := chk_idx r (i + 1) (j + 1) false
    have h' := chk_idx r (i + 1) (j + 1) true
    rw [itemsF, itemsF]
    split
    · exact h' n
    · rw [checkLoop, checkLoop, h, h, h]
noncomputable def CC (l : List Nat) (n : Int) : Bool := checkLoop (itemsF l 0 false) n
theorem CC_cons {c : Nat} (h : c ≠ 92) (r : List Nat) (n : Int) : CC (c :: r) n = if c = 40 then CC r (n + 1) else if c = 41 then (if n - 1 < 0 then false else CC r (n - 1)) else CC r n := by
  unfold CC
  rw [itemsF, if_neg (by simpa using h), checkLoop]
  rw [chk_idx r (0 + 1) 0, chk_idx r (0 + 1) 0, chk_idx r (0 + 1) 0]
  by_cases h1 : c = 40
  · simp [h1]
  · by_cases h2 : c = 41
    · simp [h2]
    · rw [if_neg (by simpa using h1), if_neg (by simpa using h2), if_neg h1, if_neg h2]
theorem CC_esc (c : Nat) (r : List Nat) (n : Int) : CC (92 :: c :: r) n = CC r n := by
  unfold CC
  rw [itemsF, if_pos (by decide), itemsF, checkLoop, if_neg (by simp), if_neg (by simp), chk_idx r _ 0]
theorem CC_q (r : List Nat) (n : Int) : CC (34 :: r) n = CC r n := by rw [CC_cons (by decide), if_neg (by decide), if_neg (by decide)]
theorem CC_b (n : Int) : CC [92] n = CC [] n := rfl
theorem CC_congr {x y : List Nat} (h : ∀ n, CC x n = CC y n) : ∀ (r : List Nat) (n : Int), (∀ c ∈ r, c ≠ 92) → CC (r ++ x) n = CC (r ++ y) n
  | [], n, _ => h n
  | c :: r, n, hr => by
    have ih := fun n => CC_congr h r n fun c hc => hr c (.tail _ hc)
    rw [List.cons_append, List.cons_append, CC_cons (hr c (.head _)), CC_cons (hr c (.head _)), ih, ih, ih]
noncomputable def unq : List Nat → List Nat
  | [34, 40, 34] => []
  | [34, 92, 34, 41, 34] => []
  | h => h
theorem unq_C {h : List Nat} (hh : h ∈ hidAll) (t : List Nat) (n : Int) : CC (unq h ++ t) n = CC t n := by
  simp only [hidAll, List.mem_cons, List.not_mem_nil, or_false] at hh
  rcases hh with rfl | rfl | rfl | rfl | rfl | rfl
  · rfl
  · exact CC_esc 40 t n
  · exact CC_esc 41 t n
  · rfl
  · rfl
  · exact CC_esc 92 t n
inductive PU : List Nat → List (List Nat) → List (List Nat) → Prop
  | nil : PU [] [] []
  | snoc {r : List Nat} {ps us : List (List Nat)} {c : Nat} {h : List Nat} : PU r ps us → h ∈ hidAll → PU (r ++ [c]) (ps ++ [c :: h]) (us ++ [c :: unq h])
theorem pu_of {r : List Nat} {ps : List (List Nat)} (h : Pieces r ps) : ∃ us, PU r ps us := by
  induction h with
  | nil => exact ⟨[], .nil⟩
  | snoc _ hh ih => obtain ⟨us, hu⟩ := ih; exact ⟨_, hu.snoc hh⟩
theorem PU_C {r : List Nat} {ps us : List (List Nat)} (h : PU r ps us) (hr : ∀ c ∈ r, c ≠ 92) : ∀ (t : List Nat) (n : Int), CC (us.flatten ++ t) n = CC (r ++ t) n := by
  induction h with
  | nil => intro t n; rfl
  | @snoc r ps us c h _ hh ih =>
    intro t n
    have hr' : ∀ c ∈ r, c ≠ 92 := fun c hc => hr c (List.mem_append_left _ hc)
    rw [List.flatten_append, List.flatten_singleton, List.append_assoc, ih hr', List.append_assoc]
    refine CC_congr (fun n => ?_) r n hr'
    show CC (c :: (unq h ++ t)) n = CC (c :: t) n
    have hc : c ≠ 92 := hr c (by simp)
    rw [CC_cons hc, CC_cons hc, unq_C hh, unq_C hh, unq_C hh]
/-- u is read as v -/
noncomputable def Strips (u v : List Nat) : Prop := ∀ (X pre r : List Nat) (st : Nat) (acc : List (List Nat)), X = pre ++ u ++ r → st ≤ pre.length → ∃ st' acc', st' ≤ (pre ++ u).length ∧
  stripLoop X (itemsF (u ++ r) pre.length false) st none acc = stripLoop X (itemsF r (pre ++ u).length false) st' none acc' ∧
  acc'.flatten ++ (X.take (pre ++ u).length).drop st' = acc.flatten ++ (X.take pre.length).drop st ++ v
theorem Strips.nil : Strips [] [] := fun X pre r st acc hX hs => ⟨st, acc, by simpa using hs, by simp, by simp⟩
theorem Strips.app {u v u' v' : List Nat} (a : Strips u v) (b : Strips u' v') : Strips (u ++ u') (v ++ v') := fun X pre r st acc hX hs => by
  obtain ⟨st1, acc1, h1, h2, h3⟩ := a X pre (u' ++ r) st acc (by rw [hX]; simp) hs
  obtain ⟨st2, acc2, g1, g2, g3⟩ := b X (pre ++ u) r st1 acc1 (by rw [hX]; simp) h1
  refine ⟨st2, acc2, by rw [← List.append_assoc]; exact g1, ?_, ?_⟩
  · rw [List.append_assoc u u' r, h2, g2, ← List.append_assoc]
  · rw [← List.append_assoc, g3, h3, List.append_assoc]
theorem Strips.plain {u : List Nat} (h : ∀ (r : List Nat) (i : Nat), ∃ its, itemsF (u ++ r) i false = its ++ itemsF r (i + u.length) false ∧ ∀ q ∈ its, (q.2 == [34]) = false) : Strips u u := fun X pre r st acc hX hs => by
  obtain ⟨its, h1, h2⟩ := h r pre.length
  refine ⟨st, acc, by simp; omega, ?_, ?_⟩
  · rw [h1, List.length_append]
    clear h1
    induction its with
    | nil => rfl
    | cons q its ih =>
      obtain ⟨p, c⟩ := q
      rw [List.cons_append, stripLoop, if_neg (by rw [h2 _ (.head _)]; decide)]
      exact ih fun q hq => h2 q (.tail _ hq)
  · have e1 : X.take (pre ++ u).length = pre ++ u := by rw [hX, List.take_left']; rfl
    have e2 : X.take pre.length = pre := by rw [hX, List.append_assoc, List.take_left']; rfl
    rw [e1, e2, List.drop_append_of_le_length hs, List.append_assoc]
theorem Strips.one {c : Nat} (h1 : c ≠ 34) (h2 : c ≠ 92) : Strips [c] [c] := Strips.plain fun r i => ⟨[(i, [c])], by show itemsF (c :: r) i false = _; rw [itemsF, if_neg (by simpa using h2)]; rfl, fun q hq => by rw [List.mem_singleton.mp hq]; simpa using h1⟩
theorem Strips.esc (c : Nat) : Strips [92, c] [92, c] := Strips.plain fun r i => ⟨[(i + 1, [92, c])], by show itemsF (92 :: c :: r) i false = _; rw [itemsF, if_pos (by decide), itemsF]; rfl, fun q hq => by rw [List.mem_singleton.mp hq]; rfl⟩
theorem Strips.quo {u : List Nat} {n : Nat} (hn : u.length = n + 1) (h : ∀ (r : List Nat) (i : Nat), ∃ its, itemsF (u ++ r) i false = (i, [34]) :: (its ++ (i + n, [34]) :: itemsF r (i + n + 1) false) ∧ ∀ q ∈ its, (q.2 == [34]) = false) : Strips u [] := fun X pre r st acc hX hs => by
  obtain ⟨its, h1, h2⟩ := h r pre.length
  have e1 : X.take (pre ++ u).length = pre ++ u := by rw [hX, List.take_left']; rfl
  have e2 : X.take pre.length = pre := by rw [hX, List.append_assoc, List.take_left']; rfl
  refine ⟨(pre ++ u).length, if st = pre.length then acc else acc ++ [(X.take pre.length).drop st], Nat.le_refl _, ?_, ?_⟩
  · rw [h1, stripLoop, if_pos (by decide)]
    (try dsimp only)
    clear h1
    induction its with
    | nil =>
      rw [List.nil_append, stripLoop, if_pos (by decide)]
      (try dsimp only)
      rw [List.length_append, hn]; rfl
    | cons q its ih =>
      obtain ⟨p, c⟩ := q
      rw [List.cons_append, stripLoop, if_neg (by rw [h2 _ (.head _)]; decide)]
      exact ih fun q hq => h2 q (.tail _ hq)
  · rw [e1, List.drop_length, List.append_nil, List.append_nil]
    split
    · rename_i hst
      rw [hst, e2, List.drop_length, List.append_nil]
    · rw [List.flatten_append, List.flatten_singleton]
theorem Strips.q1 : Strips [34, 40, 34] [] := Strips.quo (n := 2) rfl fun r i => ⟨[(i + 1, [40])], rfl, fun q hq => by rw [List.mem_singleton.mp hq]; rfl⟩
theorem Strips.q2 : Strips [34, 92, 34, 41, 34] [] := Strips.quo (n := 4) rfl fun r i => ⟨[(i + 2, [92, 34]), (i + 3, [41])], rfl, fun q hq => by
  rcases List.mem_cons.mp hq with rfl | hq
  · rfl
  · rw [List.mem_singleton.mp hq]; rfl⟩
theorem Strips.hid {h : List Nat} (hh : h ∈ hidAll) : Strips h (unq h) := by
  simp only [hidAll, List.mem_cons, List.not_mem_nil, or_false] at hh
  rcases hh with rfl | rfl | rfl | rfl | rfl | rfl
  · exact Strips.nil
  · exact Strips.esc 40
  · exact Strips.esc 41
  · exact Strips.q1
  · exact Strips.q2
  · exact Strips.esc 92
theorem PU.strips {r : List Nat} {ps us : List (List Nat)} (h : PU r ps us) (hr : ∀ c ∈ r, c ≠ 34 ∧ c ≠ 92) : Strips ps.flatten us.flatten := by
  induction h with
  | nil => exact Strips.nil
  | @snoc r ps us c h _ hh ih =>
    rw [List.flatten_append, List.flatten_append, List.flatten_singleton, List.flatten_singleton]
    have hc := hr c (by simp)
    refine (ih fun c hc => hr c (List.mem_append_left _ hc)).app ?_
    exact (Strips.one hc.1 hc.2).app (Strips.hid hh)
theorem Strips.rep (n : Nat) : Strips (List.replicate n 40) (List.replicate n 40) := by
  induction n with
  | zero => exact Strips.nil
  | succ n ih => rw [List.replicate_succ']; exact ih.app (Strips.one (by decide) (by decide))
end Mine
end Part53x
section Part54x
open PySem PySem.W PyProof.Rows PySem.Spec PySem.Calls
set_option Elab.async false
set_option maxRecDepth 100000
set_option maxHeartbeats 1000000
namespace Mine
theorem loop_none {X : List Nat} {its : List (Nat × List Nat)} {st : Nat} {op : Option Nat} {acc : List (List Nat)} (h : ∀ q ∈ its, (q.2 == [34]) = false) : stripLoop X its st op acc = (st, acc) := loop_no X its st op acc h
theorem tail_no (m q : Nat) (i : Nat) : ∀ x ∈ itemsF (List.replicate m 41 ++ List.replicate q 92) i false, (x.2 == [34]) = false := items_no _ i false fun c hc => by
  rcases List.mem_append.mp hc with hc | hc <;> rw [(List.mem_replicate.mp hc).2] <;> decide
theorem tail_loop {X : List Nat} (t m q i st : Nat) (acc : List (List Nat)) (ht : t ≤ 1) : stripLoop X (itemsF (List.replicate t 34 ++ (List.replicate m 41 ++ List.replicate q 92)) i false) st none acc = (st, acc) := by
  rcases t with _ | _ | t
  · exact loop_none (tail_no m q i)
  · show stripLoop X (itemsF (34 :: (List.replicate m 41 ++ List.replicate q 92)) i false) st none acc = _
    rw [itemsF, if_neg (by decide), stripLoop, if_pos (by decide)]
    exact loop_none (tail_no m q (i + 1))
  · omega
theorem strip_all {r n t m q : Nat} {row : List Nat} {ps us : List (List Nat)} (h : PU row ps us) (hr : ∀ c ∈ row, c ≠ 34 ∧ c ≠ 92) (ht : t ≤ 1) :
    stripF (List.replicate n 40 ++ ps.flatten ++ (List.replicate t 34 ++ (List.replicate m 41 ++ List.replicate q 92))) = List.replicate n 40 ++ us.flatten ++ (List.replicate t 34 ++ (List.replicate m 41 ++ List.replicate q 92)) := by
  generalize htl : List.replicate t 34 ++ (List.replicate m 41 ++ List.replicate q 92) = tl
  obtain ⟨st, acc, h1, h2, h3⟩ := ((Strips.rep n).app (h.strips hr)) (List.replicate n 40 ++ ps.flatten ++ tl) [] tl 0 [] (by simp) (Nat.zero_le _)
  unfold stripF
  have e0 : ([] : List Nat).length = 0 := rfl
  rw [e0] at h2
  rw [h2, ← htl, tail_loop _ _ _ _ _ _ ht, htl]
  unfold stripEnd
  dsimp only
  have e1 : (if st < (List.replicate n 40 ++ ps.flatten ++ tl).length then acc ++ [(List.replicate n 40 ++ ps.flatten ++ tl).drop st] else acc).flatten = acc.flatten ++ (List.replicate n 40 ++ ps.flatten ++ tl).drop st := by
    split
    · rw [List.flatten_append, List.flatten_singleton]
    · rw [List.drop_of_length_le (by omega), List.append_nil]
  rw [e1]
  simp only [List.nil_append, List.flatten_nil, List.take_zero, List.drop_nil, List.length_nil] at h3 h1
  have e2 : (List.replicate n 40 ++ ps.flatten ++ tl).take (List.replicate n 40 ++ ps.flatten).length = List.replicate n 40 ++ ps.flatten := by rw [List.take_left']; rfl
  rw [e2] at h3
  rw [List.drop_append_of_le_length h1, ← List.append_assoc, h3]
theorem CC_rep92 {q : Nat} (hq : q ≤ 1) (n : Int) : CC (List.replicate q 92) n = CC [] n := by
  rcases q with _ | _ | q
  · rfl
  · rfl
  · omega
theorem CC_rep34 {t : Nat} (ht : t ≤ 1) (r : List Nat) (n : Int) : CC (List.replicate t 34 ++ r) n = CC r n := by
  rcases t with _ | _ | t
  · rfl
  · exact CC_q r n
  · omega
theorem check_all {n t m q : Nat} {row : List Nat} {ps us : List (List Nat)} (h : PU row ps us) (hr : ∀ c ∈ row, c ≠ 34 ∧ c ≠ 92) (ht : t ≤ 1) (hq : q ≤ 1) :
    checkF (List.replicate n 40 ++ (ps.flatten ++ List.replicate t 34) ++ List.replicate m 41 ++ List.replicate q 92) = checkF (List.replicate n 40 ++ row ++ List.replicate m 41) := by
  have e : List.replicate n 40 ++ (ps.flatten ++ List.replicate t 34) ++ List.replicate m 41 ++ List.replicate q 92 = List.replicate n 40 ++ ps.flatten ++ (List.replicate t 34 ++ (List.replicate m 41 ++ List.replicate q 92)) := by simp
  rw [e]
  unfold checkF
  rw [strip_all (r := 0) h hr ht, stripF_no (x := List.replicate n 40 ++ row ++ List.replicate m 41) (fun c hc => by
    rcases List.mem_append.mp hc with hc | hc
    · rcases List.mem_append.mp hc with hc | hc
      · rw [(List.mem_replicate.mp hc).2]; decide
      · exact (hr c hc).1
    · rw [(List.mem_replicate.mp hc).2]; decide)]
  show CC _ 0 = CC _ 0
  rw [List.append_assoc, List.append_assoc]
  refine CC_congr (fun k => ?_) _ 0 fun c hc => by rw [(List.mem_replicate.mp hc).2]; decide
  rw [PU_C h fun c hc => (hr c hc).2]
  refine CC_congr (fun k => ?_) _ k fun c hc => (hr c hc).2
  rw [CC_rep34 ht]
  have : CC (List.replicate m 41 ++ List.replicate q 92) k = CC (List.replicate m 41 ++ []) k := CC_congr (fun k => CC_rep92 hq k) _ k fun c hc => by rw [(List.mem_replicate.mp hc).2]; decide
  rw [this, List.append_nil]
theorem a_c4 : ∀ f ∈ all16, checkF (rep (ridg f 4) 40 ++ pp f ++ rep (ridg f 4 + rise f 4) 41) = true := by decide +kernel
theorem plain : Plain := by
  intro f4 i tot h4 hf hi
  have hm := mem16 h4 hf
  have hasc := a_asc f4 hm
  have q0 : 0 ≤ (tot.fdiv 2).fmod 2 := Int.fmod_nonneg_of_pos _ (by decide)
  have q1 : (tot.fdiv 2).fmod 2 < 2 := Int.fmod_lt_of_pos _ (by decide)
  have t0 : 0 ≤ tot.fmod 2 := Int.fmod_nonneg_of_pos _ (by decide)
  have t1 : tot.fmod 2 < 2 := Int.fmod_lt_of_pos _ (by decide)
  have m0 : 0 ≤ (tot.fdiv 4).fmod 16 := Int.fmod_nonneg_of_pos _ (by decide)
  have m1 : (tot.fdiv 4).fmod 16 < 16 := Int.fmod_lt_of_pos _ (by decide)
  have hq : (tot.fdiv 2).fmod 2 ∈ [(0 : Int), 1] := by simp; omega
  obtain ⟨mk, hmk⟩ : ∃ k : Nat, (tot.fdiv 4).fmod 16 = (k : Int) := ⟨((tot.fdiv 4).fmod 16).toNat, by omega⟩
  have c1 := a_c23 (1, 1) (by simp) f4 hm
  have c2 := a_c23 (2, 3) (by simp) f4 hm
  have c3 := a_c23 (3, 7) (by simp) f4 hm
  have c4 := a_c23 (4, 15) (by simp) f4 hm
  refine ⟨a_len f4 hm, fun c hc => by rcases hasc c hc with rfl | rfl <;> decide, ⟨c1.1.1, c1.1.2, a_c1 _ hq (1, 1) (by simp) f4 hm, c1.2.1, c1.2.2⟩, ⟨c2.1.1, c2.1.2, a_c1 _ hq (2, 3) (by simp) f4 hm, c2.2.1, c2.2.2⟩, ⟨c3.1.1, c3.1.2, a_c1 _ hq (3, 7) (by simp) f4 hm, c3.2.1, c3.2.2⟩, ?_,
    a_e1 f4 hm, a_e2 f4 hm, a_e3 f4 hm, a_e4 f4 hm, a_e5 f4 hm, a_e6 f4 hm, a_st f4 hm, fun i j hi hj => a_tw hm i j hi hj, a_p1, a_p2 f4 hm, a_p3 f4 hm, a_p4 f4 hm, a_pA i f4 hm, ?_⟩
  · intro pcs hp
    obtain ⟨us, hu⟩ := pu_of hp
    refine ⟨c4.1.1, c4.1.2, ?_, c4.2.1, c4.2.2⟩
    have := check_all (n := (ridg f4 4).toNat) (t := (tot.fmod 2).toNat) (m := (ridg f4 4 + rise f4 4).toNat) (q := ((tot.fdiv 2).fmod 2).toNat) hu (fun c hc => by rcases hasc c hc with rfl | rfl <;> decide) (by omega) (by omega)
    exact this.trans (a_c4 f4 hm)
  · rw [hmk]
    exact a_pB mk i f4 hm

end Mine
end Part54x
open PySem PySem.W PyProof.Rows
theorem PySem.Challenge.cw_wb0029_01_holds : PySem.Challenge.rw_wb0029_01.Holds := by
  exact Mine.top_of Mine.plain Mine.plainR
