import PyProof.Rows.All
import Wide.All
import OpenK.AllK
import Wide.FinOn
import PySem.Challenge.RW_ey0009_01
open PySem PySem.W PyProof.Rows
set_option Elab.async false
set_option maxRecDepth 100000
set_option maxHeartbeats 8000000
namespace Mine
open_top hd for PySem.Challenge.rw_ey0009_01

section
open PySem.Builtin PySem.Builtin.Str
/-- a text by its signs -/
def S (l : List Nat) : Str := ⟨l.toArray⟩
theorem S_toList (l : List Nat) : (S l).cps.toList = l := by simp [S]
theorem S_size (l : List Nat) : (S l).cps.size = l.length := by simp [S]
theorem S_len (l : List Nat) : (S l).length = l.length := S_size l
theorem S_of (x : Str) : S x.cps.toList = x := by simp [S]
theorem S_app (a b : List Nat) : S a ++ S b = S (a ++ b) := by
  rw [← S_of (S a ++ S b), Str.cps_append, Array.toList_append, S_toList, S_toList]
theorem S_inj {a b : List Nat} (h : S a = S b) : a = b := by
  have := congrArg (fun x => x.cps.toList) h
  simpa only [S_toList] using this
theorem S_empty : Str.empty = S [] := rfl
theorem S_one (c : Nat) : (⟨#[c]⟩ : Str) = S [c] := rfl

section
variable {prog : Program} {w : World} {A : Around} {E : Value → Shared → Prop} {s : Shared} {a b : List Nat} {t u v : Tok} {h₀ : Heap} {L : Addr} {m : Str → Option Value} {news : List (Addr × Obj)} {Q : Value → Shared → Prop}
theorem const_S {env : Env} {x : Str} {k : Nat} {pos : Pos} (e : x = S a) (h : Q (.str (S a) s.toks) { s with toks := s.toks + 1 }) : wpAny (model prog w) A (eval (.Constant (.str x) k pos) env) Q E s := by
  subst e
  exact Calls.Constant_str h
theorem add_S (hs : a.length + b.length ≤ 16777216) (h : ∀ t' k, Q (.str (S (a ++ b)) t') { s with toks := k }) :
    wpAny (model prog w) A (binaryOp .Add (.str (S a) t) (.str (S b) u)) Q E s :=
  KOpn.add (by rw [S_len, S_len]; exact hs) fun t' k _ => by rw [S_app]; exact h t' k
theorem eq_S (h : Q (.bool (a == b)) s) : wpAny (model prog w) A (compareOp .Eq (.str (S a) t) (.str (S b) u)) Q E s :=
  PySem.P.eq_str (by rw [S_toList, S_toList]; exact h)
theorem ne_S (h : Q (.bool (a != b)) s) : wpAny (model prog w) A (compareOp .NotEq (.str (S a) t) (.str (S b) u)) Q E s :=
  PySem.P.ne_str (by rw [S_toList, S_toList]; exact h)
theorem in_S {c : Nat} (h : Q (.bool (decide (c ∈ a))) s) : wpAny (model prog w) A (compareOp .In (.str (S [c]) u) (.str (S a) t)) Q E s :=
  in_str (by rw [show S [c] = ⟨#[c]⟩ from rfl, StrLaws.found_one, S_toList]; exact h)
theorem notIn_S {c : Nat} (h : Q (.bool (!decide (c ∈ a))) s) : wpAny (model prog w) A (compareOp .NotIn (.str (S [c]) u) (.str (S a) t)) Q E s :=
  notIn_str (by rw [show S [c] = ⟨#[c]⟩ from rfl, StrLaws.found_one, S_toList]; exact h)
theorem len_S (hs : a.length ≤ 16777216) (h : ∀ t' k, Q (.int (a.length : Int) t') { s with toks := k }) : wpAny (model prog w) A (call (.builtin "len") [.str (S a) t]) Q E s :=
  len_str (by rw [S_len]; omega) (by rw [S_len]; exact h _ _)
theorem isspace_S {c : Nat} (h : Q (.bool (Unicode.isSpace c)) s) : wpAny (model prog w) A (call (.builtin "str.isspace") [.str (S [c]) t]) Q E s :=
  SC.isspace (by
    have e : Txt.isspace (S [c]) = Unicode.isSpace c := by simp [Txt.isspace, S, Str.length]
    rw [e]; exact h)

theorem iadd_S (hs : a.length + b.length ≤ 16777216) (h : ∀ t' k, Q (.str (S (a ++ b)) t') { s with toks := k }) :
    wpAny (model prog w) A (inplaceOp .Add (.str (S a) t) (.str (S b) u)) Q E s := by
  refine SBL.iadd (fun t' k _ => ?_) ?_
  · rw [S_app]; exact h t' k
  · rw [S_len, S_len, sizeLine_eq]; exact hs
end
end
section
open PySem.Builtin PySem.Builtin.Str
/-- one sign put for a text -/
def sub1 (c : Nat) (z : List Nat) (l : List Nat) : List Nat := l.flatMap fun d => if d = c then z else [d]
theorem sub1_app (c : Nat) (z a b : List Nat) : sub1 c z (a ++ b) = sub1 c z a ++ sub1 c z b := by simp [sub1]
theorem sub1_free (c : Nat) (z l : List Nat) (h : c ∉ l) : sub1 c z l = l := by
  induction l with
  | nil => rfl
  | cons k r ih =>
    have h1 : ¬ k = c := fun e => h (e ▸ List.mem_cons_self ..)
    have h2 : c ∉ r := fun m => h (List.mem_cons_of_mem _ m)
    have := ih h2
    simp only [sub1, List.flatMap_cons, if_neg h1] at this ⊢
    rw [this]; rfl
theorem sub1_join (c : Nat) (z : List Nat) : ∀ parts : List Str, (∀ p ∈ parts, c ∉ p.cps.toList) → sub1 c z (Str.join ⟨#[c]⟩ parts).cps.toList = (Str.join (S z) parts).cps.toList
  | [], _ => rfl
  | [p], h => sub1_free c z _ (h p (List.mem_singleton.mpr rfl))
  | p :: q :: r, h => by
    have ih := sub1_join c z (q :: r) fun a ha => h a (List.mem_cons_of_mem _ ha)
    show sub1 c z (p ++ ⟨#[c]⟩ ++ Str.join ⟨#[c]⟩ (q :: r)).cps.toList = (p ++ S z ++ Str.join (S z) (q :: r)).cps.toList
    simp only [Str.cps_append, Array.toList_append]
    rw [sub1_app, sub1_app, ih, sub1_free c z _ (h p (List.mem_cons_self ..)), S_toList]
    show p.cps.toList ++ sub1 c z [c] ++ _ = _
    simp [sub1]
theorem replace_S (c : Nat) (z l : List Nat) : Txt.replace (S l) (S [c]) (S z) = S (sub1 c z l) := by
  have h := sub1_join c z _ (StrLaws.split_free (S l) c)
  rw [StrLaws.join_split, S_toList] at h
  rw [← S_of (Txt.replace (S l) (S [c]) (S z)), show S [c] = ⟨#[c]⟩ from rfl, StrLaws.replace_one, ← h]
theorem sub1_len (c : Nat) (z l : List Nat) (hz : z.length = 2) : l.length ≤ (sub1 c z l).length ∧ (sub1 c z l).length ≤ 2 * l.length := by
  induction l with
  | nil => exact ⟨Nat.le_refl _, Nat.le_refl _⟩
  | cons k r ih =>
    simp only [sub1, List.flatMap_cons, List.length_append, List.length_cons] at ih ⊢
    split
    · rw [hz]; omega
    · simp only [List.length_cons, List.length_nil]; omega

theorem slice_sn (l : List Nat) (i : Nat) : Txt.slice (S l) (some (i : Int)) none = S (l.drop i) := by
  by_cases h : i ≤ l.length
  · rw [slice_from_eq (b := (l.length : Int)) (by omega) (by rw [S_len]; omega) (by rw [S_len]), S_toList]
    show S _ = _
    rw [Int.toNat_natCast, List.take_of_length_le (by simp)]
  · rw [slice_beyond (by rw [S_len]; omega), List.drop_eq_nil_of_le (by omega)]
    rfl
theorem indices_clip {n i j : Nat} : strSliceIndices (some (i : Int)) (some (j : Int)) 1 n = strSliceIndices (some ((min i n : Nat) : Int)) (some ((min j n : Nat) : Int)) 1 n := by
  have h0 : ∀ k : Nat, ¬ ((k : Int) < 0) := by intro k; omega
  have h2 : (1 : Int) > 0 := by decide
  simp only [strSliceIndices, h0, h2, if_false, if_true]
  congr 1 <;> omega
theorem slice_ss (l : List Nat) (i j : Nat) (hij : i ≤ j) : Txt.slice (S l) (some (i : Int)) (some (j : Int)) = S ((l.take j).drop i) := by
  have e : Txt.slice (S l) (some (i : Int)) (some (j : Int)) = Txt.slice (S l) (some ((min i l.length : Nat) : Int)) (some ((min j l.length : Nat) : Int)) := by
    unfold Txt.slice
    rw [S_len, indices_clip]
  rw [e, show Txt.slice (S l) (some ((min i l.length : Nat) : Int)) (some ((min j l.length : Nat) : Int)) = StrLaws.sliceText _ _ _ from rfl,
    StrLaws.sliceText_nat _ (by omega) (by rw [S_len]; omega), S_toList]
  show S _ = S _
  congr 1
  apply List.ext_getElem?
  intro k
  simp only [List.getElem?_take, List.getElem?_drop]
  by_cases h1 : i ≤ l.length
  · rw [Nat.min_eq_left h1]
    by_cases h3 : k < min j l.length - i
    · rw [if_pos h3, if_pos (by omega)]
    · rw [if_neg h3]
      by_cases h4 : i + k < j
      · rw [if_pos h4]; exact (List.getElem?_eq_none (by omega)).symm
      · rw [if_neg h4]
  · rw [Nat.min_eq_right (by omega), if_neg (by omega)]
    by_cases h4 : i + k < j
    · rw [if_pos h4]; exact (List.getElem?_eq_none (by omega)).symm
    · rw [if_neg h4]
theorem slice_ns (l : List Nat) (j : Nat) : Txt.slice (S l) none (some (j : Int)) = S (l.take j) := by
  have e : Txt.slice (S l) none (some (j : Int)) = Txt.slice (S l) (some ((0 : Nat) : Int)) (some (j : Int)) := by
    unfold Txt.slice
    rw [StrLaws.sliceIdx_none_lo]; rfl
  rw [e, slice_ss l 0 j (Nat.zero_le _), List.drop_zero]
theorem slice_1m1 (l : List Nat) (h : 2 ≤ l.length) : Txt.slice (S l) (some 1) (some (-1)) = S ((l.drop 1).dropLast) := by
  rw [show Txt.slice (S l) (some 1) (some (-1)) = StrLaws.sliceText (S l) (some 1) (some (-1)) from rfl, StrLaws.sliceText_neg_hi _ _ (by decide) (by rw [S_len]; omega)]
  have e : (-1 : Int) + ((S l).length : Int) = ((l.length - 1 : Nat) : Int) := by rw [S_len]; omega
  rw [e, show (1 : Int) = ((1 : Nat) : Int) from rfl, show StrLaws.sliceText (S l) (some ((1 : Nat) : Int)) (some ((l.length - 1 : Nat) : Int)) = Txt.slice _ _ _ from rfl, slice_ss l 1 _ (by omega)]
  congr 1
  rw [List.dropLast_eq_take, List.length_drop, List.drop_take]
theorem starts_S (a b : List Nat) : Txt.startswith (S a) (S b) = (a.take b.length == b) := by
  unfold Txt.startswith
  rw [StrLaws.subAt_eq, S_toList, S_toList, S_len, S_len]
  rw [List.drop_zero]
  by_cases h : b.length ≤ a.length
  · simp [h]
  · have : a.take b.length ≠ b := by
      intro e
      have := congrArg List.length e
      rw [List.length_take] at this
      omega
    simp [this]
    try omega
/-- join by a text -/
def joinL (sep : List Nat) : List (List Nat) → List Nat
  | [] => []
  | [a] => a
  | a :: b :: r => a ++ sep ++ joinL sep (b :: r)
theorem join_S (sep : List Nat) : ∀ ls : List (List Nat), Str.join (S sep) (ls.map S) = S (joinL sep ls)
  | [] => rfl
  | [a] => rfl
  | a :: b :: r => by
    show S a ++ S sep ++ Str.join (S sep) ((b :: r).map S) = S (a ++ sep ++ joinL sep (b :: r))
    rw [join_S sep (b :: r), S_app, S_app]
theorem txt_join_S (sep : List Nat) (ls : List (List Nat)) : Txt.join (S sep) (ls.map S) = S (joinL sep ls) := by
  have := join_S sep ls
  rw [← this]
  unfold Txt.join
  rw [StrLaws.glued_eq_join]
theorem joinL_nil : ∀ ls : List (List Nat), joinL [] ls = ls.flatten
  | [] => rfl
  | [a] => by simp [joinL]
  | a :: b :: r => by rw [joinL, joinL_nil (b :: r)]; simp
end
section
open PySem.Builtin PySem.Builtin.Str
/-- a list's values are these texts -/
def TX (vs : List Value) (ls : List (List Nat)) : Prop := StrsAre vs (ls.map S)
theorem TX.nil : TX [] [] := StrsAre.nil
theorem TX.length {vs : List Value} {ls : List (List Nat)} (T : TX vs ls) : vs.length = ls.length := by
  have := StrsAre.length T
  simpa using this
theorem TX.one (x : List Nat) (t : Tok) : TX [Value.str (S x) t] [x] := StrsAre.cons _ _ .nil
theorem TX.app {vs ws : List Value} {ls ks : List (List Nat)} (T : TX vs ls) (U : TX ws ks) : TX (vs ++ ws) (ls ++ ks) := by
  have := StrsAre.append' T U
  unfold TX
  rw [List.map_append]; exact this
theorem TX.cons {vs : List Value} {ls : List (List Nat)} (x : List Nat) (t : Tok) (T : TX vs ls) : TX (.str (S x) t :: vs) (x :: ls) := StrsAre.cons _ _ T
theorem TX.take {vs : List Value} {ls : List (List Nat)} (T : TX vs ls) (k : Nat) : TX (vs.take k) (ls.take k) := by
  have := StrsAre.take' T k
  unfold TX
  rw [List.map_take]; exact this
theorem TX.drop {vs : List Value} {ls : List (List Nat)} (T : TX vs ls) (k : Nat) : TX (vs.drop k) (ls.drop k) := by
  have := StrsAre.drop' T k
  unfold TX
  rw [List.map_drop]; exact this
theorem TX.dropLast {vs : List Value} {ls : List (List Nat)} (T : TX vs ls) : TX vs.dropLast ls.dropLast := by
  rw [List.dropLast_eq_take, List.dropLast_eq_take, T.length]
  exact T.take _
theorem TX.at {vs : List Value} {ls : List (List Nat)} (T : TX vs ls) {j : Nat} {x : List Nat} (h : ls[j]? = some x) : ∃ t, vs[j]? = some (.str (S x) t) :=
  StrsAre.at T (by rw [List.getElem?_map, h]; rfl)
theorem TX.item {vs : List Value} {ls : List (List Nat)} (T : TX vs ls) {j : Nat} {v : Value} (h : vs[j]? = some v) : ∃ x t, v = .str (S x) t ∧ ls[j]? = some x := by
  obtain ⟨y, t, h1, h2⟩ := StrsAre.item T j v h
  rw [List.getElem?_map] at h2
  cases e : ls[j]? with
  | none => rw [e] at h2; cases h2
  | some x =>
    rw [e] at h2
    cases h2
    exact ⟨x, t, h1, rfl⟩
theorem TX.rev {vs : List Value} {ls : List (List Nat)} (T : TX vs ls) : TX vs.reverse ls.reverse := by
  induction ls generalizing vs with
  | nil => cases T; exact TX.nil
  | cons x r ih =>
    cases T with
    | cons _ t h =>
      rw [List.reverse_cons, List.reverse_cons]
      exact (ih h).app (TX.one x t)
/-- the last text -/
def lastL (ls : List (List Nat)) : List Nat := ls.getLastD []
theorem lastL_app (p : List (List Nat)) (x : List Nat) : lastL (p ++ [x]) = x := by simp [lastL]
theorem lastL_at {ls : List (List Nat)} (h : ls ≠ []) : ls[ls.length - 1]? = some (lastL ls) := by
  obtain ⟨p, x, rfl⟩ : ∃ p x, ls = p ++ [x] := ⟨_, _, (List.dropLast_concat_getLast h).symm⟩
  rw [lastL_app]; simp
theorem TX.snoc {vs : List Value} {ls : List (List Nat)} (T : TX vs ls) (h : ls ≠ []) : ∃ t, vs = vs.dropLast ++ [Value.str (S (lastL ls)) t] := by
  obtain ⟨t, ht⟩ := T.at (lastL_at h)
  have hl := T.length
  refine ⟨t, ?_⟩
  have hne : vs ≠ [] := by intro e; subst e; cases ls <;> simp_all
  have e := List.dropLast_concat_getLast hne
  have e2 : vs.getLast hne = .str (S (lastL ls)) t := by
    rw [← hl] at ht
    rw [List.getLast_eq_getElem]
    rw [List.getElem?_eq_getElem (by have := List.length_pos_iff.mpr hne; omega)] at ht
    exact Option.some.inj ht
  rw [← e2]; exact e.symm

section
variable {prog : Program} {w : World} {A : Around} {E : Value → Shared → Prop} {s : Shared} {x y : List Nat} {ls ks : List (List Nat)} {vs ws : List Value} {t u v : Tok} {h₀ : Heap} {L D D2 : Addr} {n n2 : Nat} {m : Str → Option Value} {news news' : List (Addr × Obj)}

theorem tl_append {Q : Value → Shared → Prop} (F : Fr h₀ L s.heap m) (N : News h₀ L s.heap news) (T : TX vs ls) (U : Upd D (listOf vs.toArray n) (listOf (vs ++ [Value.str (S x) t]).toArray (n + 1)) news news') (hz : ls.length ≤ 1000000)
    (h : ∀ h', Fr h₀ L h' m → News h₀ L h' news' → TX (vs ++ [Value.str (S x) t]) (ls ++ [x]) → Q .none { s with heap := h' }) :
    wpAny (model prog w) A (call (.builtin "list.append") [.ref D, .str (S x) t]) Q E s := by
  have e : (vs ++ [Value.str (S x) t]).toArray = vs.toArray.push (.str (S x) t) := by simp
  rw [e] at U
  refine append_K F N U (fun h' F' N' => h h' F' N' (T.app (TX.one x t))) ?_
  rw [List.size_toArray, T.length, sizeLine_eq]; omega
theorem tl_pop {Q : Value → Shared → Prop} (F : Fr h₀ L s.heap m) (N : News h₀ L s.heap news) (T : TX vs ls) (hne : ls ≠ []) (U : Upd D (listOf vs.toArray n) (listOf vs.dropLast.toArray (n + 1)) news news') (hz : ls.length ≤ 1000000)
    (h : ∀ h' t, Fr h₀ L h' m → News h₀ L h' news' → TX vs.dropLast ls.dropLast → Q (.str (S (lastL ls)) t) { s with heap := h' }) :
    wpAny (model prog w) A (call (.builtin "list.pop") [.ref D]) Q E s := by
  obtain ⟨t, e⟩ := T.snoc hne
  refine kl_pop F N (p := vs.dropLast) (y := .str (S (lastL ls)) t) ?_ U ?_ fun h' F' N' => h h' t F' N' T.dropLast
  · have := kpa_last (.str (S (lastL ls)) t) vs.dropLast
    rw [← e] at this
    simpa using this
  · have := T.length
    show vs.length ≤ _
    rw [sizeLine_eq]; omega
theorem tl_reverse {Q : Value → Shared → Prop} (F : Fr h₀ L s.heap m) (N : News h₀ L s.heap news) (T : TX vs ls) (U : Upd D (listOf vs.toArray n) (listOf vs.reverse.toArray n) news news') (hz : ls.length ≤ 1000000)
    (h : ∀ h', Fr h₀ L h' m → News h₀ L h' news' → TX vs.reverse ls.reverse → Q .none { s with heap := h' }) :
    wpAny (model prog w) A (call (.builtin "list.reverse") [.ref D]) Q E s := by
  refine kl_reverse F N (l := vs.reverse) (by simp) U ?_ fun h' F' N' => h h' F' N' T.rev
  have := T.length
  show vs.length ≤ _
  rw [sizeLine_eq]; omega
theorem tl_setlast {Q : Unit → Shared → Prop} (F : Fr h₀ L s.heap m) (N : News h₀ L s.heap news) (T : TX vs ls) (hne : ls ≠ []) (U : Upd D (listOf vs.toArray n) (listOf (vs.dropLast ++ [Value.str (S x) t]).toArray n) news news')
    (h : ∀ h', Fr h₀ L h' m → News h₀ L h' news' → TX (vs.dropLast ++ [Value.str (S x) t]) (ls.dropLast ++ [x]) → Q () { s with heap := h' }) :
    wpAny (model prog w) A (setItem (.ref D) (.int (-1) u) (.str (S x) t)) Q E s := by
  obtain ⟨pre, post, rfl, rfl, a, b⟩ := U.split
  have z := N (D, listOf vs.toArray n) (List.mem_append.mpr (.inr (.head _)))
  have hl := T.length
  have hp : 0 < ls.length := List.length_pos_iff.mpr hne
  obtain ⟨t0, e⟩ := T.snoc hne
  have e1 : vs.toArray.setIfInBounds ((-1 : Int) + vs.toArray.size).toNat (.str (S x) t) = (vs.dropLast ++ [Value.str (S x) t]).toArray := by
    apply Array.toList_inj.mp
    rw [Array.toList_setIfInBounds]
    have ek : ((-1 : Int) + vs.toArray.size).toNat = vs.dropLast.length := by rw [List.size_toArray, List.length_dropLast]; omega
    rw [ek]
    show vs.set _ _ = vs.dropLast ++ [Value.str (S x) t]
    conv => lhs; arg 1; rw [e]
    simp
  refine ki_setBack z.1 (by decide) (by rw [List.size_toArray]; omega) (by decide) (h _ (F.change (Heap.SameBut.update ..) z.2.1 z.2.2) (ki_turn _ N a b e1 ?_) (T.dropLast.app (TX.one x t)))
  have : (vs.dropLast ++ [Value.str (S x) t]).toArray.size = vs.toArray.size := by
    rw [List.size_toArray, List.size_toArray, List.length_append, List.length_dropLast]
    simp; omega
  rw [this]; simp
theorem tl_dellast {Q : Unit → Shared → Prop} (F : Fr h₀ L s.heap m) (N : News h₀ L s.heap news) (T : TX vs ls) (hne : ls ≠ []) (U : Upd D (listOf vs.toArray n) (listOf vs.dropLast.toArray (n + 1)) news news') (hz : ls.length ≤ 1000000)
    (h : ∀ h', Fr h₀ L h' m → News h₀ L h' news' → TX vs.dropLast ls.dropLast → Q () { s with heap := h' }) :
    wpAny (model prog w) A (delItem (.ref D) (.int (-1) u)) Q E s := by
  obtain ⟨pre, post, rfl, rfl, a, b⟩ := U.split
  have z := N (D, listOf vs.toArray n) (List.mem_append.mpr (.inr (.head _)))
  have hl := T.length
  have hp : 0 < ls.length := List.length_pos_iff.mpr hne
  have hk : seqIndex? (-1) vs.toArray.size = some ((-1 : Int) + vs.toArray.size).toNat := PySem.seqIndex_neg (by decide) (by rw [List.size_toArray]; omega)
  have ek : ((-1 : Int) + vs.toArray.size).toNat = vs.length - 1 := by rw [List.size_toArray]; omega
  have e1 : vs.toArray.eraseIdxIfInBounds ((-1 : Int) + vs.toArray.size).toNat = vs.dropLast.toArray := by
    rw [ek]
    apply Array.toList_inj.mp
    rw [Array.toList_eraseIdxIfInBounds]
    show vs.eraseIdx (vs.length - 1) = vs.dropLast
    rw [List.eraseIdx_length_sub_one]
  refine P.delItem_list (n := n) z.1 rfl hk (h _ (F.change (Heap.SameBut.update ..) z.2.1 z.2.2) (ki_turn _ N a b e1 ?_) T.dropLast) ?_
  · have : vs.dropLast.toArray.size ≠ vs.toArray.size := by
      rw [List.size_toArray, List.size_toArray, List.length_dropLast]; omega
    rw [if_neg (by simpa using this)]
  · rw [List.size_toArray, sizeLine_eq]; omega
theorem tl_getlast {Q : Value → Shared → Prop} {value slice : PySem.Expr} (N : News h₀ L s.heap news) (hm : (D, listOf vs.toArray n) ∈ news) (T : TX vs ls) (hne : ls ≠ []) (h : ∀ t, Q (.str (S (lastL ls)) t) s)
    (hs : subscripted slice false (.ref D) (.int (-1) u) = operate [.ref D, .int (-1) u] (getItem (.ref D) (.int (-1) u))) :
    wpAny (model prog w) A (subscriptTail value slice (.ref D) (.int (-1) u)) Q E s := by
  have hl := T.length
  have hp : 0 < ls.length := List.length_pos_iff.mpr hne
  obtain ⟨t, ht⟩ := T.at (lastL_at hne)
  have hL := PySem.IsL.isList (n := n) (N _ hm).1
  refine PyProof.Rows.tail_any hL.typeIs slot_list_getitem.lookup (wpAny_getItem_list_neg hL (by decide) (by rw [List.size_toArray]; omega) (by decide) ?_ (h t)) hs
  rw [show ((-1 : Int) + vs.toArray.size).toNat = ls.length - 1 from by rw [List.size_toArray]; omega]
  simpa using ht
theorem tl_getItem {Q : Value → Shared → Prop} (N : News h₀ L s.heap news) (hm : (D, listOf vs.toArray n) ∈ news) (T : TX vs ls) (hne : ls ≠ []) (h : ∀ t, Q (.str (S (lastL ls)) t) s) :
    wpAny (model prog w) A (getItem (.ref D) (.int (-1) u)) Q E s := by
  have hl := T.length
  have hp : 0 < ls.length := List.length_pos_iff.mpr hne
  obtain ⟨t, ht⟩ := T.at (lastL_at hne)
  have hL := PySem.IsL.isList (n := n) (N _ hm).1
  refine wpAny_getItem_list_neg hL (by decide) (by rw [List.size_toArray]; omega) (by decide) ?_ (h t)
  rw [show ((-1 : Int) + vs.toArray.size).toNat = ls.length - 1 from by rw [List.size_toArray]; omega]
  simpa using ht
theorem tl_getback {Q : Value → Shared → Prop} {value slice : PySem.Expr} (N : News h₀ L s.heap news) (hm : (D, listOf vs.toArray n) ∈ news) (T : TX vs ls) (hne : 2 ≤ ls.length) (h : ∀ t, Q (.str (S (lastL ls.dropLast)) t) s)
    (hs : subscripted slice false (.ref D) (.int (-2) u) = operate [.ref D, .int (-2) u] (getItem (.ref D) (.int (-2) u))) :
    wpAny (model prog w) A (subscriptTail value slice (.ref D) (.int (-2) u)) Q E s := by
  have hl := T.length
  have hd : ls.dropLast ≠ [] := by intro e; have := congrArg List.length e; simp at this; omega
  obtain ⟨t, ht⟩ := T.dropLast.at (lastL_at hd)
  have hL := PySem.IsL.isList (n := n) (N _ hm).1
  refine PyProof.Rows.tail_any hL.typeIs slot_list_getitem.lookup (wpAny_getItem_list_neg hL (by decide) (by rw [List.size_toArray]; omega) (by decide) ?_ (h t)) hs
  rw [show ((-2 : Int) + vs.toArray.size).toNat = ls.dropLast.length - 1 from by rw [List.size_toArray, List.length_dropLast]; omega]
  rw [List.dropLast_eq_take, List.getElem?_take] at ht
  rw [List.length_dropLast] at ht ⊢
  rw [if_pos (by omega)] at ht
  simpa using ht
theorem tl_len {Q : Value → Shared → Prop} (N : News h₀ L s.heap news) (hm : (D, listOf vs.toArray n) ∈ news) (T : TX vs ls) (hz : ls.length ≤ 1000000) (h : ∀ t k, Q (.int (ls.length : Int) t) { s with toks := k }) :
    wpAny (model prog w) A (call (.builtin "len") [.ref D]) Q E s := by
  have hL := PySem.IsL.isList (n := n) (N _ hm).1
  have e : vs.toArray.size = ls.length := by rw [List.size_toArray, T.length]
  exact len_list hL (by rw [e]; omega) (by rw [e]; exact h _ _)
theorem tl_truthy {Q : Bool → Shared → Prop} (N : News h₀ L s.heap news) (hm : (D, listOf vs.toArray n) ∈ news) (T : TX vs ls) (hz : ls.length ≤ 1000000) (h : ∀ k, Q (!ls.isEmpty) { s with toks := k }) :
    wpAny (model prog w) A (truthy (.ref D)) Q E s := by
  have hL := PySem.IsL.isList (n := n) (N _ hm).1
  have e : vs.toArray.size = ls.length := by rw [List.size_toArray, T.length]
  refine wpAny_truthy_list hL (by rw [e]; omega) ?_
  have e2 : (!vs.toArray.isEmpty) = !ls.isEmpty := by
    cases vs <;> cases ls <;> simp_all
  rw [e2]; exact h _
theorem tl_join {Q : Value → Shared → Prop} {sep : List Nat} (N : News h₀ L s.heap news) (hm : (D, listOf vs.toArray n) ∈ news) (T : TX vs ls) (hs : sep.length ≤ 16) (hw : (ls.map List.length).sum + ls.length ≤ 1048576) (h : ∀ t' k, Q (.str (S (joinL sep ls)) t') { s with toks := k }) :
    wpAny (model prog w) A (call (.builtin "str.join") [Value.str (S sep) t, .ref D]) Q E s := by
  have hL := PySem.IsL.isList (n := n) (N _ hm).1
  refine join_listW (ys := ls.map S) hL T (by rw [S_len]; exact hs) ?_ fun t' k => by rw [txt_join_S]; exact h t' k
  have e : (List.map (fun x => x.length) (List.map S ls)) = ls.map List.length := by
    rw [List.map_map]
    exact List.map_congr_left fun a _ => S_len a
  rw [e, List.length_map]; exact hw
theorem tl_add {Q : Value → Shared → Prop} (F : Fr h₀ L s.heap m) (N : News h₀ L s.heap news) (hm : (D, listOf vs.toArray n) ∈ news) (hm2 : (D2, listOf ws.toArray n2) ∈ news) (T : TX vs ls) (T2 : TX ws ks) (hz : ls.length + ks.length ≤ 1000000)
    (h : ∀ D' h', Fr h₀ L h' m → News h₀ L h' ((D', listOf (vs ++ ws).toArray 0) :: news) → (∀ p ∈ news, p.1 < D') → TX (vs ++ ws) (ls ++ ks) → Q (.ref D') { s with heap := h' }) :
    wpAny (model prog w) A (binaryOp .Add (.ref D) (.ref D2)) Q E s := by
  have hL := PySem.IsL.isList (n := n) (N _ hm).1
  have hL2 := PySem.IsL.isList (n := n2) (N _ hm2).1
  refine kmk_add_lit F N hL hL2 (zs := vs ++ ws) (by simp) (fun D' h' F' N' l => h D' h' F' N' l (T.app T2)) ?_
  have e1 := T.length
  have e2 := T2.length
  show vs.length + ws.length ≤ _
  rw [sizeLine_eq]; omega
end
end
section
open PySem.Builtin PySem.Builtin.Str
section
variable {prog : Program} {w : World} {A : Around} {E : Value → Shared → Prop} {s : Shared} {x y : List Nat} {ls ks : List (List Nat)} {vs ws : List Value} {t u v : Tok} {h₀ : Heap} {L D D2 : Addr} {n n2 : Nat} {m : Str → Option Value} {news news' : List (Addr × Obj)}
theorem rep_S {c : Nat} {z l : List Nat} {Q : Value → Shared → Prop} (hu : @LT.lt Nat _ 0 u) (huv : @LT.lt Nat _ u v) (hz : z.length = 2) (hl : l.length ≤ 1000000) (h : ∀ t' k, s.toks ≤ k → Q (.str (S (sub1 c z l)) t') { s with toks := k }) :
    wpAny (model prog w) A (call (.builtin "str.replace") [.str (S l) t, .str (S [c]) u, .str (S z) v]) Q E s := by
  refine wpAny_with_toks (n := s.toks) (Nat.le_refl _) ?_
  have hv : @LT.lt Nat _ 0 v := Nat.lt_trans hu huv
  refine SC.replaceW (Nat.ne_of_gt hu) (Nat.ne_of_gt hv) (Nat.ne_of_lt huv) ?_ (by rw [S_len]; omega) (by rw [S_len]; omega) fun t' k => ?_
  · have : S [c] ≠ S z := fun e => by
      have := congrArg List.length (S_inj e)
      rw [hz] at this
      simp at this
    exact beq_eq_false_iff_ne.mpr this
  · rw [replace_S]
    exact fun hk => h t' k hk
theorem pct_S {l : List Nat} {Q : Value → Shared → Prop} {K : Frag} (_KX : K.In h₀) (hl : l.length ≤ 1000000) (h : ∀ t' k, Q (.str (S (34 :: (l ++ [34]))) t') { s with toks := k }) :
    wpAny (model prog w) A (binaryOp .Mod (.str (Str.ofString "\"%s\"") t) (.str (S l) u)) Q E s := by
  have key : ∀ (Y : Str), Y.length ≤ 1000000 → (∀ t' k, Q (.str (S [34] ++ Y ++ S [34]) t') { s with toks := k }) → wpAny (model prog w) A (binaryOp .Mod (.str (Str.ofString "\"%s\"") t) (.str Y u)) Q E s := by
    intro Y hY hQ
    (refine' KPc.mod_str ?kpcF ?kpcl ?kpcm ?_; (case kpcF => kpc_eq); (case kpcl => exact hY); (case kpcm => k_dflt kpc_run_s))
    intro t' k
    exact hQ t' k
  refine key (S l) (by rw [S_len]; exact hl) fun t' k => ?_
  rw [S_app, S_app]
  exact h t' k
end
end
section
open PySem.Builtin PySem.Builtin.Str
def cutsK (x : Str) : List (Nat × Nat) := (lineSpans x).map fun (i, _, k) => (i, k)
theorem splitlines_keep_tree (x : Str) (t : Tok) : «str.splitlines» ⟨[.str x t, .bool true], []⟩ = (do
    if (true && cutsK x == [(0, x.length)]) = true then (do rule "str.splitlines.same-object"; ret (← newList [.str x t]))
    else ret (← newList (← (cutsK x).mapM fun (i, j) => mkStr (strSub x i j)))) := by
  rfl
theorem spans_le (x : Str) : (lineSpans x).length ≤ x.length + 1 := by
  have h : ∀ l : List (Nat × Nat × Nat), l.length ≤ StrLaws.lsum l := by
    intro l
    induction l with
    | nil => exact Nat.le_refl _
    | cons p r ih =>
      show r.length + 1 ≤ (p.2.1 - p.1 + 1) + StrLaws.lsum r
      omega
  exact Nat.le_trans (h _) (StrLaws.ls_weight x).1
/-- the texts that splitlines(True) gives, as the model cuts -/
def LK (l : List Nat) : List (List Nat) := (cutsK (S l)).map fun p => (l.drop p.1).take (p.2 - p.1)
def LN (l : List Nat) : List (List Nat) := (lineCuts (S l)).map fun p => (l.drop p.1).take (p.2 - p.1)
theorem strSub_S (l : List Nat) (i j : Nat) : strSub (S l) i j = S ((l.drop i).take (j - i)) := by
  rw [← S_of (strSub (S l) i j), StrLaws.strSub_toList, S_toList]
theorem LN_lines (l : List Nat) : Txt.lines (S l) = (LN l).map S := by
  unfold Txt.lines
  split
  · rename_i h
    have e : lineCuts (S l) = [(0, (S l).length)] := eq_of_beq h
    unfold LN
    rw [e, S_len]
    simp
  · unfold linesOf LN
    rw [List.map_map]
    exact List.map_congr_left fun p _ => strSub_S l p.1 p.2
theorem strsFrom_are : ∀ (ys : List Str) (k : Nat), StrsAre (strsFrom k ys) ys
  | [], _ => .nil
  | y :: r, k => .cons y k (strsFrom_are r (k + 1))
section
variable {prog : Program} {w : World} {A : Around} {E : Value → Shared → Prop} {s : Shared} {x y : List Nat} {ls ks : List (List Nat)} {vs ws : List Value} {t u v : Tok} {h₀ : Heap} {L D D2 : Addr} {n n2 : Nat} {m : Str → Option Value} {news news' : List (Addr × Obj)} {l : List Nat} {Q : Value → Shared → Prop}
theorem lines_S (F : Fr h₀ L s.heap m) (N : News h₀ L s.heap news) (hl : l.length ≤ 1000000)
    (h : ∀ D vs h' k, Fr h₀ L h' m → News h₀ L h' ((D, listOf (List.toArray vs) 0) :: news) → (∀ p ∈ news, p.1 < D) → TX vs (LN l) → Q (.ref D) { s with heap := h', toks := k }) :
    wpAny (model prog w) A (call (.builtin "str.splitlines") [.str (S l) t]) Q E s := by
  have hw := spans_le (S l)
  rw [S_len] at hw
  refine splitlinesN F N (fun l' h' k e F' N' => ?_) (by rw [S_len, sizeLine_eq]; omega) (by unfold lineCuts; rw [List.length_map, sizeLine_eq]; omega)
  refine h _ _ h' k F' N' (fun p hp => Heap.lt_size (N p hp).1) ?_
  have := strsAre_of_values l'
  rw [e, LN_lines] at this
  exact this
theorem meets_keep (x : Str) (t : Tok) (hsz : x.length ≤ sizeLine) (hsz2 : (cutsK x).length ≤ sizeLine) : Meets («str.splitlines» ⟨[.str x t, .bool true], []⟩) (fun A R s =>
    if (cutsK x == [(0, x.length)]) = true then listOfItself x t A R s
    else R (.ok (.ret (.ref s.heap.objs.size))) { s with toks := s.toks + (cutsK x).length, heap := s.heap.push { cls := .type "list", data := .seq (strsFrom s.toks ((cutsK x).map fun p => strSub x p.1 p.2)).toArray } }) := by
  refine .of_wp fun prog w A R s h => ?_
  rw [splitlines_keep_tree]
  revert h
  cases cutsK x == [(0, x.length)]
  · intro h
    show wpAny _ _ (do ret (← newList (← (cutsK x).mapM fun (i, j) => mkStr (strSub x i j)))) _ _ s
    exact wpAny_bind (wpAny_mapM_mkStr_of (fun (p : Nat × Nat) => strSub x p.1 p.2) (fun p => Nat.le_trans (strSub_length_le ..) hsz) _ _ _ (wpAny_bind (wpAny_newList (wpAny_pure ⟨_, rfl, h⟩) (by rw [strsFrom_length, List.length_map]; exact hsz2))))
  · intro h
    show wpAny _ _ (do rule "str.splitlines.same-object"; ret (← newList [.str x t])) _ _ s
    exact wpAny_bind (wpAny_rule (wpAny_bind (wpAny_newList (wpAny_pure ⟨_, rfl, h⟩) (by show 1 ≤ sizeLine; decide))))
theorem keep_S (F : Fr h₀ L s.heap m) (N : News h₀ L s.heap news) (hl : l.length ≤ 1000000)
    (h : ∀ D vs h' k, Fr h₀ L h' m → News h₀ L h' ((D, listOf (List.toArray vs) 0) :: news) → (∀ p ∈ news, p.1 < D) → TX vs (LK l) → Q (.ref D) { s with heap := h', toks := k }) :
    wpAny (model prog w) A (call (.builtin "str.splitlines") [.str (S l) t, .bool true]) Q E s := by
  have hw := spans_le (S l)
  rw [S_len] at hw
  refine call_meets PySem.F.slot_str_splitlines (typeIs_str _ _ _) PySem.F.entry_str_splitlines (PySem.F.args_str_splitlines_2 _ _) (meets_keep (S l) t (by rw [S_len, sizeLine_eq]; omega) (by unfold cutsK; rw [List.length_map, sizeLine_eq]; omega)) ?_
  cases hc : cutsK (S l) == [(0, (S l).length)]
  · simp only [Bool.false_eq_true, if_false]
    generalize hy : (cutsK (S l)).map (fun p => strSub (S l) p.1 p.2) = ys
    show Q (.ref s.heap.objs.size) { s with toks := s.toks + (cutsK (S l)).length, heap := s.heap.push (listOf (strsFrom s.toks ys).toArray 0) }
    refine h s.heap.objs.size (strsFrom s.toks ys) _ _ (Fr.pushS F _) (News.push F N _) (fun p hp => Heap.lt_size (N p hp).1) ?_
    subst hy
    have := strsFrom_are ((cutsK (S l)).map fun p => strSub (S l) p.1 p.2) s.toks
    have e : ((cutsK (S l)).map fun p => strSub (S l) p.1 p.2) = (LK l).map S := by
      unfold LK
      rw [List.map_map]
      exact List.map_congr_left fun p _ => strSub_S l p.1 p.2
    rw [e] at this ⊢
    exact this
  · simp only [if_true]
    show Q (.ref s.heap.objs.size) { s with heap := s.heap.push (listOf [Value.str (S l) t].toArray 0) }
    refine h s.heap.objs.size [.str (S l) t] _ s.toks (Fr.pushS F _) (News.push F N _) (fun p hp => Heap.lt_size (N p hp).1) ?_
    have e := eq_of_beq hc
    have e2 : LK l = [l] := by
      unfold LK
      rw [e, S_len]
      simp
    rw [e2]
    exact TX.one l t
theorem part_S {c : Nat} (F : Fr h₀ L s.heap m) (N : News h₀ L s.heap news) (hl : l.length ≤ 1000000) (hc : c ∈ l)
    (h : ∀ D a r ta tb tc h' k, l = a ++ c :: r → c ∉ a → a.length + r.length + 1 = l.length → Fr h₀ L h' m → News h₀ L h' ((D, { cls := .type "tuple", data := .seq [Value.str (S a) ta, Value.str (S [c]) tb, Value.str (S r) tc].toArray }) :: news) → (∀ p ∈ news, p.1 < D) → Q (.ref D) { s with heap := h', toks := k }) :
    wpAny (model prog w) A (call (.builtin "str.partition") [.str (S l) t, .str (S [c]) u]) Q E s := by
  have key : ∃ a r, l = a ++ c :: r ∧ c ∉ a ∧ Txt.partition (S l) (S [c]) = (S a, S [c], S r) := by
    unfold Txt.partition
    rcases StrLaws.occ_head (S l) (S [c]) 1 (Nat.le_refl 1) with ⟨h0, hn⟩ | ⟨i, r, h0, hi, hn⟩
    · exfalso
      obtain ⟨i, hi⟩ := List.mem_iff_getElem?.mp hc
      refine hn i ((StrLaws.subAt_one (S l) c i).mpr ?_)
      rw [S_toList]; exact hi
    · rw [h0]
      have hi' := (StrLaws.subAt_one (S l) c i).mp hi
      rw [S_toList] at hi'
      obtain ⟨hlt, hget⟩ := List.getElem?_eq_some_iff.mp hi'
      refine ⟨l.take i, l.drop (i + 1), ?_, ?_, ?_⟩
      · rw [← hget, List.getElem_cons_drop, List.take_append_drop]
      · intro hm
        obtain ⟨k, hk⟩ := List.mem_iff_getElem?.mp hm
        rw [List.getElem?_take] at hk
        by_cases hki : k < i
        · rw [if_pos hki] at hk
          refine hn k hki ((StrLaws.subAt_one (S l) c k).mpr ?_)
          rw [S_toList]; exact hk
        · rw [if_neg hki] at hk; cases hk
      · show (strSub (S l) 0 i, S [c], strSub (S l) (i + (S [c]).length) (S l).length) = _
        rw [strSub_S, strSub_S, S_len, S_len]
        simp only [List.drop_zero, Nat.sub_zero, List.length_cons, List.length_nil, Nat.zero_add]
        congr 3
        rw [List.take_of_length_le]
        rw [List.length_drop]; omega
  obtain ⟨a, r, e1, e2, e3⟩ := key
  refine partitionN F N rfl (fun ta tb tc h' k F' N' => ?_) (by rw [S_len, sizeLine_eq]; omega)
  rw [e3] at N'
  exact h _ a r ta tb tc h' k e1 e2 (by rw [e1, List.length_append, List.length_cons]; omega) F' N' fun p hp => Heap.lt_size (N p hp).1
theorem starts_rule {b : List Nat} (h : Q (.bool (l.take b.length == b)) s) : wpAny (model prog w) A (call (.builtin "str.startswith") [.str (S l) t, .str (S b) u]) Q E s :=
  SC.startswith (by rw [starts_S]; exact h)
end
end
section
theorem li0 : Str.ofString "" = S [] := by decide
theorem li1 : Str.ofString "\\" = S [92] := by decide
theorem li2 : Str.ofString "\\\\" = S [92, 92] := by decide
theorem li3 : Str.ofString "\t" = S [9] := by decide
theorem li4 : Str.ofString "\\t" = S [92, 116] := by decide
theorem li5 : Str.ofString "\r" = S [13] := by decide
theorem li6 : Str.ofString "\\r" = S [92, 114] := by decide
theorem li7 : Str.ofString "\n" = S [10] := by decide
theorem li8 : Str.ofString "\\n" = S [92, 110] := by decide
theorem li9 : Str.ofString "\"" = S [34] := by decide
theorem li10 : Str.ofString "\\\"" = S [92, 34] := by decide
theorem li11 : Str.ofString "n" = S [110] := by decide
theorem li12 : Str.ofString "t" = S [116] := by decide
theorem li13 : Str.ofString "r" = S [114] := by decide
theorem li14 : Str.ofString "\"\"" = S [34, 34] := by decide
theorem li15 : Str.ofString "\"\"\n" = S [34, 34, 10] := by decide
theorem li16 : Str.ofString "a" = S [97] := by decide
theorem li17 : Str.ofString "bc def" = S [98, 99, 32, 100, 101, 102] := by decide
theorem li18 : Str.ofString " " = S [32] := by decide
theorem li19 : Str.ofString "words, words and more" = S [119, 111, 114, 100, 115, 44, 32, 119, 111, 114, 100, 115, 32, 97, 110, 100, 32, 109, 111, 114, 101] := by decide
theorem li20 : Str.ofString "  " = S [32, 32] := by decide
theorem li21 : Str.ofString "word" = S [119, 111, 114, 100] := by decide
theorem li22 : Str.ofString " \t\n\r" = S [32, 9, 10, 13] := by decide
theorem li23 : Str.ofString "#~ " = S [35, 126, 32] := by decide
/-- one sign, escaped -/
def esc1 (c : Nat) : List Nat := if c = 92 then [92, 92] else if c = 34 then [92, 34] else if c = 10 then [92, 110] else if c = 9 then [92, 116] else if c = 13 then [92, 114] else [c]
def escL (l : List Nat) : List Nat := l.flatMap esc1
def escQ (l : List Nat) : List Nat := 34 :: (escL l ++ [34])
theorem sub1_escL (l : List Nat) : sub1 34 [92, 34] (sub1 10 [92, 110] (sub1 13 [92, 114] (sub1 9 [92, 116] (sub1 92 [92, 92] l)))) = escL l := by
  induction l with
  | nil => rfl
  | cons c r ih =>
    have e : ∀ (k : Nat) (z : List Nat) (l : List Nat), sub1 k z (c :: l) = (if c = k then z else [c]) ++ sub1 k z l := fun _ _ _ => rfl
    have e2 : escL (c :: r) = esc1 c ++ escL r := rfl
    rw [e, sub1_app, sub1_app, sub1_app, sub1_app, ih, e2]
    congr 1
    unfold esc1
    by_cases h1 : c = 92
    · subst h1; decide
    by_cases h2 : c = 34
    · subst h2; decide
    by_cases h3 : c = 10
    · subst h3; decide
    by_cases h4 : c = 9
    · subst h4; decide
    by_cases h5 : c = 13
    · subst h5; decide
    simp [sub1, h1, h2, h3, h4, h5]
theorem esc1_len (c : Nat) : 1 ≤ (esc1 c).length ∧ (esc1 c).length ≤ 2 := by
  unfold esc1
  (repeat' split) <;> simp
theorem escL_len (l : List Nat) : l.length ≤ (escL l).length ∧ (escL l).length ≤ 2 * l.length := by
  induction l with
  | nil => exact ⟨Nat.le_refl _, Nat.le_refl _⟩
  | cons c r ih =>
    have e2 : escL (c :: r) = esc1 c ++ escL r := rfl
    have := esc1_len c
    rw [e2, List.length_append, List.length_cons]
    omega
theorem escL_app (a b : List Nat) : escL (a ++ b) = escL a ++ escL b := by simp [escL]
theorem escQ_len (l : List Nat) : (escQ l).length = (escL l).length + 2 := by simp [escQ]
end
section
noncomputable abbrev Prg : Program := PySem.Challenge.rw_ey0009_01.row.prog
noncomputable abbrev Lse : List Str := looseW hd.view_39 [Str.ofString "normalize"]
/-- what every contract asks of the caller -/
def Ct (w : World) (mean : ExcName → Option Value) (mg mb : Str → Option Value) (dn : Nat) (f : Addr) (vs : List Value) (news : List (Addr × Obj))
    (Back : Heap → Addr → (Str → Option Value) → Shared → (Value → Shared → Prop) → Prop) : Prop :=
  ∀ (dp un : Nat) (gd : Option (List Code)) (cn : Str) (cs : Scope) (a : Addr) (ccd : Value) (cl : List (Str × Addr)) (outer : List Env) (A₀ : Around) (base h₀ : Heap) (L : Addr) (m : Str → Option Value) (s : Shared) (Q E : Value → Shared → Prop),
    Below A₀ base outer h₀ → Fr h₀ L s.heap m → (hd.heap_39 w.params).In h₀ → News h₀ L s.heap news → Top hd.view_39 Lse mean mg mb h₀ → cs.kind = .function →
    dp + dn < 900 → un + 40 * dn < 9000 → Back h₀ L m s Q →
      wpAny (model Prg w) (ktrTop dp un gd cn cs L a ccd cl outer) (call (.ref f) vs) Q E s
/-- a text comes back -/
def CtS (w : World) (mean : ExcName → Option Value) (mg mb : Str → Option Value) (dn : Nat) (f : Addr) (vs : List Value) (r : List Nat) : Prop :=
  ∀ news : List (Addr × Obj), Ct w mean mg mb dn f vs news fun h₀ L m s Q =>
    ∀ (t : Tok) (h' : Heap) (tk' : Nat), Fr h₀ L h' m → News h₀ L h' news → Q (.str (S r) t) { s with heap := h', toks := tk' }
/-- a new list of texts comes back -/
def CtL (w : World) (mean : ExcName → Option Value) (mg mb : Str → Option Value) (dn : Nat) (f : Addr) (vs : List Value) (r : List (List Nat)) : Prop :=
  ∀ news : List (Addr × Obj), Ct w mean mg mb dn f vs news fun h₀ L m s Q =>
    ∀ (D : Addr) (us : List Value) (n : Nat) (h' : Heap) (tk' : Nat), TX us r → Fr h₀ L h' m → News h₀ L h' ((D, listOf us.toArray n) :: news) → (∀ p ∈ news, p.1 < D) → Q (.ref D) { s with heap := h', toks := tk' }
section
variable {w : World} {mean : ExcName → Option Value} {mg mb : Str → Option Value} {dn : Nat} {f : Addr} {vs : List Value} {news : List (Addr × Obj)} {dp un : Nat} {gd : Option (List Code)} {cn : Str} {cs : Scope} {a : Addr} {ccd : Value} {cl : List (Str × Addr)} {outer : List Env} {A₀ : Around} {base h₀ : Heap} {L : Addr} {m : Str → Option Value} {s : Shared} {Q E : Value → Shared → Prop}
theorem ctS_use {r : List Nat} (C : CtS w mean mg mb dn f vs r) (B : Below A₀ base outer h₀) (F : Fr h₀ L s.heap m) (X : (hd.heap_39 w.params).In h₀) (N : News h₀ L s.heap news) (T : Top hd.view_39 Lse mean mg mb h₀) (hk : cs.kind = .function)
    (hd : dp + dn < 900) (hu : un + 40 * dn < 9000) (ret : ∀ (t : Tok) (h' : Heap) (tk' : Nat), Fr h₀ L h' m → News h₀ L h' news → Q (.str (S r) t) { s with heap := h', toks := tk' }) :
    wpAny (model Prg w) (ktrTop dp un gd cn cs L a ccd cl outer) (call (.ref f) vs) Q E s := C news dp un gd cn cs a ccd cl outer A₀ base h₀ L m s Q E B F X N T hk hd hu ret
theorem ctL_use {r : List (List Nat)} (C : CtL w mean mg mb dn f vs r) (B : Below A₀ base outer h₀) (F : Fr h₀ L s.heap m) (X : (hd.heap_39 w.params).In h₀) (N : News h₀ L s.heap news) (T : Top hd.view_39 Lse mean mg mb h₀) (hk : cs.kind = .function)
    (hd : dp + dn < 900) (hu : un + 40 * dn < 9000) (ret : ∀ (D : Addr) (us : List Value) (n : Nat) (h' : Heap) (tk' : Nat), TX us r → Fr h₀ L h' m → News h₀ L h' ((D, listOf us.toArray n) :: news) → (∀ p ∈ news, p.1 < D) → Q (.ref D) { s with heap := h', toks := tk' }) :
    wpAny (model Prg w) (ktrTop dp un gd cn cs L a ccd cl outer) (call (.ref f) vs) Q E s := C news dp un gd cn cs a ccd cl outer A₀ base h₀ L m s Q E B F X N T hk hd hu ret
end
section
variable {h₀ h' : Heap} {L D : Addr} {m : Str → Option Value} {news news' : List (Addr × Obj)} {s : Shared} {Q : Value → Shared → Prop} {t : Tok} {tk' n : Nat} {us : List Value}
theorem cts_end {x y : List Nat} (hret : ∀ (t : Tok) (h' : Heap) (tk' : Nat), Fr h₀ L h' m → News h₀ L h' news → Q (.str (S x) t) { s with heap := h', toks := tk' }) (e : y = x) (F : Fr h₀ L h' m) (N : News h₀ L h' news') (hs : ∀ p ∈ news, p ∈ news') :
    Q (.str (S y) t) { s with heap := h', toks := tk' } := by
  subst e
  exact hret t h' tk' F fun p hp => N p (hs p hp)
theorem ctl_end {x y : List (List Nat)} (hret : ∀ (D : Addr) (us : List Value) (n : Nat) (h' : Heap) (tk' : Nat), TX us x → Fr h₀ L h' m → News h₀ L h' ((D, listOf us.toArray n) :: news) → (∀ p ∈ news, p.1 < D) → Q (.ref D) { s with heap := h', toks := tk' })
    (T : TX us y) (e : y = x) (F : Fr h₀ L h' m) (N : News h₀ L h' news') (hm : (D, listOf us.toArray n) ∈ news') (hs : ∀ p ∈ news, p ∈ news') (hlt : ∀ p ∈ news, p.1 < D) :
    Q (.ref D) { s with heap := h', toks := tk' } := by
  subst e
  refine hret D us n h' tk' T F (fun p hp => ?_) hlt
  rcases List.mem_cons.mp hp with rfl | hp
  · exact N _ hm
  · exact N p (hs p hp)
end
end
section
/-- names bound to values -/
def Bnd (ps : List (Str × Value)) (m : Str → Option Value) : Prop := ∀ p ∈ ps, m p.1 = some p.2
theorem Bnd.eq {ps : List (Str × Value)} {m : Str → Option Value} (b : Bnd ps m) : kstB m ps = m := funext fun _ => kstB_eq b fun _ => rfl
theorem Bnd.nil {m : Str → Option Value} : Bnd [] m := fun _ h => nomatch h
theorem Bnd.cons {x : Str} {v : Value} {ps : List (Str × Value)} {m : Str → Option Value} (h : m x = some v) (b : Bnd ps m) : Bnd ((x, v) :: ps) m := fun p hp => by
  rcases List.mem_cons.mp hp with rfl | hp
  · exact h
  · exact b p hp
section
variable {prog : Program} {w : World} {A : Around} {E : Value → Shared → Prop} {s : Shared} {env : Env} {h₀ : Heap} {x : Str} {body : List Stmt} {Q : Flow → Shared → Prop}

def TurnEnd {σ : Type} (h₀ : Heap) (L : Addr) (Led : σ → List (Addr × Obj)) (ps : σ → List (Str × Value)) (P : σ → Prop) (I : Addr) (oI : Obj) (s s₂ : Shared) : Prop :=
  ∃ (c : σ) (h' : Heap) (tk : Nat) (m' : Str → Option Value) (news' : List (Addr × Obj)), s₂ = { s with heap := h', toks := tk } ∧ Fr h₀ L h' m' ∧ News h₀ L h' news' ∧ (I, oI) ∈ news' ∧ (∀ p ∈ Led c, p ∈ news') ∧ (∀ p ∈ Led c, p.1 ≠ I) ∧ Bnd (ps c) m' ∧ P c
def TurnPost {σ : Type} (h₀ : Heap) (L : Addr) (Led : σ → List (Addr × Obj)) (ps : σ → List (Str × Value)) (P : σ → Prop) (I : Addr) (oI : Obj) (s : Shared) (Q : Flow → Shared → Prop) (f : Flow) (s₂ : Shared) : Prop :=
  match f with
  | .ret v => Q (.ret v) s₂
  | .brk => Q .next s₂
  | _ => TurnEnd h₀ L Led ps P I oI s s₂

theorem loop_gen {σ : Type} {I : Addr} {fp : List Addr} {n : Nat} {PW : Nat → Value → Prop} {St : Nat → Heap → Prop} {m₀ : Str → Option Value} (Led : σ → List (Addr × Obj)) (ps : σ → List (Str × Value)) (J : Nat → σ → Prop) (c₀ : σ)
    (W : Walks prog w A I fp [I] n PW St) (hfp : ∀ b ∈ fp, b = I ∨ ∃ o, ∀ c, (b, o) ∈ Led c) (hI : I ∈ fp) (hlive : ∀ i h, St i h → ∃ o, h.get? I = some o)
    (hst : St 0 s.heap) (F : Fr h₀ env.locals s.heap m₀) (N : News h₀ env.locals s.heap (Led c₀)) (hnI : h₀.get? I = none) (hoff : ∀ p ∈ Led c₀, p.1 ≠ I) (hLI : env.locals ≠ I) (hb : Bnd (ps c₀) m₀) (hj : J 0 c₀)
    (turn : ∀ i v c m₁ h tk oI, i < n → PW i v → J i c → (∀ p ∈ Led c, p.1 ≠ I) → Fr h₀ env.locals h (fun y => if y = x then some v else kstB m₁ (ps c) y) → News h₀ env.locals h ((I, oI) :: Led c) →
      wpAny (model prog w) A (execs body env) (TurnPost h₀ env.locals Led ps (J (i + 1)) I oI { s with heap := h, toks := tk } Q) E { s with heap := h, toks := tk })
    (done : ∀ c m₁ h tk, J n c → Fr h₀ env.locals h (kstB m₁ (ps c)) → News h₀ env.locals h (Led c) → Q .next { s with heap := h, toks := tk }) :
    LoopAtV prog w A h₀ env x body Q E (.ref I) s := by
  let J' : Nat → (Str → Option Value) → List (Addr × Obj) → Prop := fun i m₁ nx => ∃ c, nx = Led c ∧ Bnd (ps c) m₁ ∧ J i c ∧ ∀ p ∈ Led c, p.1 ≠ I
  refine ⟨I, fp, [I], n, PW, St, m₀, Led c₀, J', rfl, W, ?_, ?_, ?_, hst, F, N, ⟨c₀, rfl, hb, hj, hoff⟩, ?_, ?_⟩
  · intro hm
    rcases hfp _ hm with e | ⟨o, ho⟩
    · exact hLI e
    · exact (N _ (ho c₀)).2.1 rfl
  · intro b hb
    rw [List.mem_singleton.mp hb]; exact hnI
  · intro p hp hb
    exact hoff p hp (List.mem_singleton.mp hb)
  · rintro i v m₁ news₁ s₁ own ⟨hh', tk', rfl⟩ hin hP ⟨c, rfl, hb', hJ, hoff'⟩ _ hown hget hall hst' F₁ N₁
    obtain ⟨oI, hoI⟩ := hlive _ _ hst'
    have hmI : (I, oI) ∈ own := hall I hI hnI oI hoI
    have N₂ : News h₀ env.locals hh' ((I, oI) :: Led c) := fun p hp => by
      rcases List.mem_cons.mp hp with rfl | hp
      · exact N₁ _ (List.mem_append_left _ hmI)
      · exact N₁ p (List.mem_append_right _ hp)
    have F₂ : Fr h₀ env.locals hh' (fun y => if y = x then some v else kstB m₁ (ps c) y) := by rw [hb'.eq]; exact F₁
    refine wpAny_mono (turn i v c m₁ hh' tk' oI hin hP hJ hoff' F₂ N₂) (fun f s₂ p => ?_) fun _ _ e => e
    have fin : TurnEnd h₀ env.locals Led ps (J (i + 1)) I oI { s with heap := hh', toks := tk' } s₂ → LoopStepU h₀ env.locals [I] own (J' (i + 1)) { s with heap := hh', toks := tk' } .next s₂ := by
      rintro ⟨c', h', tk, m', news', e, F', N', hI', hL', hof, hbn, hj'⟩
      refine ⟨rfl, h', tk, m', Led c', e, F', fun p hp => ?_, fun p hp hb => hof p hp (List.mem_singleton.mp hb), c', rfl, hbn, hj', hof⟩
      rcases List.mem_append.mp hp with hp | hp
      · have hg := hget p hp
        rcases hfp _ (hown p hp) with e1 | ⟨o, ho⟩
        · have e2 : p = (I, oI) := by
            have : some p.2 = some oI := by rw [← hg, ← hoI, e1]
            exact Prod.ext e1 (Option.some.inj this)
          rw [e2]; exact N' _ hI'
        · have e2 : p = (p.1, o) := by
            have h1 := (N₁ _ (List.mem_append_right _ (ho c))).1
            have : some p.2 = some o := by rw [← hg, ← h1]
            exact Prod.ext rfl (Option.some.inj this)
          rw [e2]; exact N' _ (hL' _ (ho c'))
      · exact N' p (hL' p hp)
    cases f with
    | ret v => exact .ret p
    | brk => exact .brk p
    | next => exact .next (fin p)
    | cont => exact .cont (fin p)
  · rintro h' tk m' news' F' N' _ ⟨c, rfl, hb', hJ, _⟩
    refine done c m' h' tk hJ ?_ N'
    rw [hb'.eq]; exact F'

theorem it_text {σ : Type} {xt : List Nat} {tx : Tok} {m₀ : Str → Option Value} (Led : σ → List (Addr × Obj)) (ps : σ → List (Str × Value)) (J : List Nat → σ → Prop) (c₀ : σ)
    (hh : A.handled = none) (F : Fr h₀ env.locals s.heap m₀) (N : News h₀ env.locals s.heap (Led c₀)) (hb : Bnd (ps c₀) m₀) (hj : J [] c₀)
    (turn : ∀ pre k post t c m₁ h tk I oI, xt = pre ++ k :: post → J pre c → (∀ p ∈ Led c, p.1 ≠ I) → Fr h₀ env.locals h (fun y => if y = x then some (.str (S [k]) t) else kstB m₁ (ps c) y) → News h₀ env.locals h ((I, oI) :: Led c) →
      wpAny (model prog w) A (execs body env) (TurnPost h₀ env.locals Led ps (J (pre ++ [k])) I oI { s with heap := h, toks := tk } Q) E { s with heap := h, toks := tk })
    (done : ∀ c m₁ h tk, J xt c → Fr h₀ env.locals h (kstB m₁ (ps c)) → News h₀ env.locals h (Led c) → Q .next { s with heap := h, toks := tk }) :
    wpAny (model prog w) A (pyIter (.str (S xt) tx)) (fun it s₂ => LoopAtV prog w A h₀ env x body Q E it s₂) E s := by
  have go : ∀ (ty : String) (o : Obj), Heap.IsStrIter (s.heap.push o) s.heap.objs.size ty (S xt) tx 0 → Walks prog w A s.heap.objs.size [s.heap.objs.size] [s.heap.objs.size] (S xt).cps.size (SignAt (S xt)) (fun i h => h.IsStrIter s.heap.objs.size ty (S xt) tx i) →
      LoopAtV prog w A h₀ env x body Q E (.ref s.heap.objs.size) { s with heap := s.heap.push o } := by
    intro ty o hit W
    refine loop_gen Led ps (fun i c => J (xt.take i) c) c₀ W (fun b hb => .inl (List.mem_singleton.mp hb)) (List.mem_singleton.mpr rfl) (fun i h st => let ⟨o, ho, _⟩ := st; ⟨o, ho⟩) hit (F.push _) (N.pushKeep _) (next_is_new F) ?_ ?_ hb (by simpa using hj) ?_ ?_
    · intro p hp e
      exact absurd (Heap.lt_size (N p hp).1) (e ▸ Nat.lt_irrefl _)
    · intro e
      exact absurd F.ns.lt (e ▸ Nat.lt_irrefl _)
    · rintro i v c m₁ h tk oI hi ⟨k, u, hk, rfl⟩ hJ hoff F' N'
      have hk' : xt[i]? = some k := by
        have : (S xt).cps[i]? = xt[i]? := by simp [S]
        rw [← this]; exact hk
      have hs : xt.take (i + 1) = xt.take i ++ [k] := by simp [List.take_add_one, hk']
      have e : xt = xt.take i ++ k :: xt.drop (i + 1) := by
        have ht := List.take_append_drop (i + 1) xt
        rw [hs, List.append_assoc] at ht
        exact ht.symm
      rw [hs]
      exact turn _ k _ u c m₁ h tk _ oI e hJ hoff F' N'
    · intro c m₁ h tk hJ F' N'
      rw [S_size, List.take_length] at hJ
      exact done c m₁ h tk hJ F' N'
  cases ha : (S xt).cps.all (· < 128)
  · exact wpAny_pyIter_wide ha (go _ _ ⟨_, Heap.get?_push_size _ rfl, rfl, rfl⟩ (Walks.strWide hh _ (S xt) tx))
  · exact wpAny_pyIter_ascii ha (go _ _ ⟨_, Heap.get?_push_size _ rfl, rfl, rfl⟩ (Walks.strAscii hh _ (S xt) tx))

theorem it_list {σ : Type} {D : Addr} {vs : List Value} {ls : List (List Nat)} {nn : Nat} {m₀ : Str → Option Value} (Led : σ → List (Addr × Obj)) (ps : σ → List (Str × Value)) (J : List (List Nat) → σ → Prop) (c₀ : σ)
    (T : TX vs ls) (hD : ∀ c, (D, listOf vs.toArray nn) ∈ Led c)
    (hh : A.handled = none) (F : Fr h₀ env.locals s.heap m₀) (N : News h₀ env.locals s.heap (Led c₀)) (hb : Bnd (ps c₀) m₀) (hj : J [] c₀)
    (turn : ∀ pre k post t c m₁ h tk I oI, ls = pre ++ k :: post → J pre c → (∀ p ∈ Led c, p.1 ≠ I) → Fr h₀ env.locals h (fun y => if y = x then some (.str (S k) t) else kstB m₁ (ps c) y) → News h₀ env.locals h ((I, oI) :: Led c) →
      wpAny (model prog w) A (execs body env) (TurnPost h₀ env.locals Led ps (J (pre ++ [k])) I oI { s with heap := h, toks := tk } Q) E { s with heap := h, toks := tk })
    (done : ∀ c m₁ h tk, J ls c → Fr h₀ env.locals h (kstB m₁ (ps c)) → News h₀ env.locals h (Led c) → Q .next { s with heap := h, toks := tk }) :
    wpAny (model prog w) A (pyIter (.ref D)) (fun it s₂ => LoopAtV prog w A h₀ env x body Q E it s₂) E s := by
  have hls : s.heap.IsList D vs.toArray := PySem.IsL.isList (n := nn) (N _ (hD c₀)).1
  have hlt : D < s.heap.objs.size := Heap.lt_size (N _ (hD c₀)).1
  refine wpAny_pyIter_list hls ?_
  have W := Walks.list (prog := prog) (w := w) hh s.heap.objs.size D (Nat.ne_of_lt hlt) vs.toArray
  have hlen : vs.toArray.size = ls.length := by rw [List.size_toArray, T.length]
  rw [hlen] at W
  refine loop_gen Led ps (fun i c => J (ls.take i) c) c₀ W ?_ (by simp) (fun i h st => let ⟨o, ho, _⟩ := st.1; ⟨o, ho⟩) ⟨⟨_, Heap.get?_push_size _ rfl, rfl, rfl⟩, hls.at fun o e => Heap.get?_push_of_some _ e⟩ (F.push _) (N.pushKeep _) (next_is_new F) ?_ ?_ hb (by simpa using hj) ?_ ?_
  · intro b hb
    rcases List.mem_cons.mp hb with e | hb
    · exact .inl e
    · rw [List.mem_singleton.mp hb]
      exact .inr ⟨_, hD⟩
  · intro p hp e
    exact absurd (Heap.lt_size (N p hp).1) (e ▸ Nat.lt_irrefl _)
  · intro e
    exact absurd F.ns.lt (e ▸ Nat.lt_irrefl _)
  · rintro i v c m₁ h tk oI hi hP hJ hoff F' N'
    have hP' : vs[i]? = some v := by simpa using hP
    obtain ⟨k, t, rfl, hk'⟩ := T.item hP'
    have hs : ls.take (i + 1) = ls.take i ++ [k] := by simp [List.take_add_one, hk']
    have e : ls = ls.take i ++ k :: ls.drop (i + 1) := by
      have ht := List.take_append_drop (i + 1) ls
      rw [hs, List.append_assoc] at ht
      exact ht.symm
    rw [hs]
    exact turn _ k _ t c m₁ h tk _ oI e hJ hoff F' N'
  · intro c m₁ h tk hJ F' N'
    rw [List.take_length] at hJ
    exact done c m₁ h tk hJ F' N'

theorem it_range {σ : Type} {r : Addr} {b₀ : Int} {t₀ u₀ v₀ : Tok} {n : Nat} {m₀ : Str → Option Value} (Led : σ → List (Addr × Obj)) (ps : σ → List (Str × Value)) (J : Nat → σ → Prop) (c₀ : σ)
    (hr : IsRange s.heap r 0 b₀ 1 t₀ u₀ v₀) (hn : b₀ = (n : Int)) (hz : n ≤ 1000000)
    (hh : A.handled = none) (F : Fr h₀ env.locals s.heap m₀) (N : News h₀ env.locals s.heap (Led c₀)) (hb : Bnd (ps c₀) m₀) (hj : J 0 c₀)
    (turn : ∀ i t c m₁ h tk I oI, i < n → J i c → (∀ p ∈ Led c, p.1 ≠ I) → Fr h₀ env.locals h (fun y => if y = x then some (.int (i : Int) t) else kstB m₁ (ps c) y) → News h₀ env.locals h ((I, oI) :: Led c) →
      wpAny (model prog w) A (execs body env) (TurnPost h₀ env.locals Led ps (J (i + 1)) I oI { s with heap := h, toks := tk } Q) E { s with heap := h, toks := tk })
    (done : ∀ c m₁ h tk, J n c → Fr h₀ env.locals h (kstB m₁ (ps c)) → News h₀ env.locals h (Led c) → Q .next { s with heap := h, toks := tk }) :
    wpAny (model prog w) A (pyIter (.ref r)) (fun it s₂ => LoopAtV prog w A h₀ env x body Q E it s₂) E s := by
  subst hn
  have hsz : Builtin.Range.rangeSize 0 (n : Int) 1 = (n : Int) := by
    unfold Builtin.Range.rangeSize
    simp
    omega
  have hsm : Builtin.Range.small 0 (n : Int) 1 = true := by
    unfold Builtin.Range.small
    have hf : ∀ i : Int, 0 ≤ i → i ≤ 2000000 → Builtin.Range.rangeFitsLong i = true := by
      intro i h0 h1
      unfold Builtin.Range.rangeFitsLong
      simp
      omega
    simp only [hsz]
    rw [hf 0 (by decide) (by decide), hf n (by omega) (by omega), hf 1 (by decide) (by decide), if_pos (by decide), hf (n + (1 - 1)) (by omega) (by omega)]
    simp
  refine wpAny_pyIter_range hr hsm ?_
  have W : Walks prog w A s.heap.objs.size [s.heap.objs.size] [s.heap.objs.size] n (fun i v => i < n ∧ ∃ t, v = .int (0 + i * 1) t)
      (fun i h => IsRangeIter h s.heap.objs.size (0 + (i : Nat) * 1) ((n : Int) - (i : Nat)) 1) := (Walks.range hh _ 0 1 n).bound
  refine loop_gen Led ps J c₀ W (fun b hb => .inl (List.mem_singleton.mp hb)) (List.mem_singleton.mpr rfl) (fun i h st => ⟨_, st⟩) (by show IsRangeIter _ _ _ _ _; rw [hsz]; simpa using Heap.get?_push_size _ rfl) (F.push _) (N.pushKeep _) (next_is_new F) ?_ ?_ hb hj ?_ done
  · intro p hp e
    exact absurd (Heap.lt_size (N p hp).1) (e ▸ Nat.lt_irrefl _)
  · intro e
    exact absurd F.ns.lt (e ▸ Nat.lt_irrefl _)
  · rintro i v c m₁ h tk oI hi ⟨_, t, rfl⟩ hJ hoff F' N'
    have e1 : (0 : Int) + (i : Int) * 1 = (i : Int) := by omega
    rw [e1] at F'
    exact turn i t c m₁ h tk _ oI hi hJ hoff F' N'

def WEnd {σ : Type} (h₀ : Heap) (L : Addr) (Led : σ → List (Addr × Obj)) (ps : σ → List (Str × Value)) (J : σ → Prop) (μ : σ → Nat) (c : σ) (s s₂ : Shared) : Prop :=
  ∃ (c' : σ) (h' : Heap) (tk : Nat) (m' : Str → Option Value) (news' : List (Addr × Obj)), s₂ = { s with heap := h', toks := tk } ∧ Fr h₀ L h' m' ∧ News h₀ L h' news' ∧ (∀ p ∈ Led c', p ∈ news') ∧ Bnd (ps c') m' ∧ J c' ∧ μ c' < μ c
def WPost {σ : Type} (h₀ : Heap) (L : Addr) (Led : σ → List (Addr × Obj)) (ps : σ → List (Str × Value)) (J : σ → Prop) (μ : σ → Nat) (c : σ) (s : Shared) (Q : Flow → Shared → Prop) (f : Flow) (s₂ : Shared) : Prop :=
  match f with
  | .ret v => Q (.ret v) s₂
  | .brk => Q .next s₂
  | _ => WEnd h₀ L Led ps J μ c s s₂
theorem while_gen {σ : Type} {L : Addr} {test : PySem.Expr} {pos : Pos} {m₀ : Str → Option Value} (Led : σ → List (Addr × Obj)) (ps : σ → List (Str × Value)) (J : σ → Prop) (μ : σ → Nat) (c₀ : σ)
    (F : Fr h₀ L s.heap m₀) (N : News h₀ L s.heap (Led c₀)) (hb : Bnd (ps c₀) m₀) (hj : J c₀)
    (turn : ∀ c m₁ h tk, J c → Fr h₀ L h (kstB m₁ (ps c)) → News h₀ L h (Led c) →
      wpAny (model prog w) A (isTrue test env (eval test env)) (fun b s₂ =>
        if b = true then wpAny (model prog w) A (execs body env) (WPost h₀ L Led ps J μ c s Q) E s₂ else Q .next s₂) E { s with heap := h, toks := tk })
    (hE : PassesOwn (model prog w) A env E := by passes_own) :
    wpAny (model prog w) A (exec (.While test body [] pos) env) Q E s := by
  refine While_inv2 (fun n m nx => ∃ c : σ, nx = Led c ∧ μ c = n ∧ Bnd (ps c) m ∧ J c) F N ⟨c₀, rfl, rfl, hb, hj⟩ ?_ hE
  rintro n m₁ nx h tk F₁ N₁ ⟨c, rfl, rfl, hb', hJ⟩
  refine wpAny_mono (turn c m₁ h tk hJ (by rw [hb'.eq]; exact F₁) N₁) (fun b s₂ p => ?_) fun _ _ x => x
  cases b with
  | false => simpa using p
  | true =>
    simp only [if_true] at p ⊢
    refine wpAny_mono p (fun f s₃ q => ?_) fun _ _ x => x
    cases f with
    | ret v => exact q
    | brk => exact q
    | next =>
      obtain ⟨c', h', tk', m', news', rfl, F', N', hn, hbn, hj', hμ⟩ := q
      exact ⟨h', tk', m', Led c', μ c', rfl, F', fun p hp => N' p (hn p hp), hμ, c', rfl, rfl, hbn, hj'⟩
    | cont =>
      obtain ⟨c', h', tk', m', news', rfl, F', N', hn, hbn, hj', hμ⟩ := q
      exact ⟨h', tk', m', Led c', μ c', rfl, F', fun p hp => N' p (hn p hp), hμ, c', rfl, rfl, hbn, hj'⟩
end
end
section
/-- the table of the law's own escapes -/
def toldTab : List (PyData × PyData) := [(.str (S [92]), .str (S [92, 92])), (.str (S [34]), .str (S [92, 34])), (.str (S [10]), .str (S [92, 110])), (.str (S [9]), .str (S [92, 116])), (.str (S [13]), .str (S [92, 114]))]
structure ToldD (prog : Program) (w : World) (D : Addr) (o : Obj) : Prop where
  tab : ∀ h : Heap, h.get? D = some o → TabAt (strKind prog w) PyData.str h D toldTab
theorem toldD_of {prog : Program} {w : World} {D : Addr} {o : Obj} {kvs : List (Str × Value)} (lo : (D == sysModules) = false) (hd : o.IsDictOf (strKind prog w) kvs) (hf : PyProof.V.FlatPairs PyData.str kvs toldTab) : ToldD prog w D o :=
  ⟨fun _ e => TabAt.ofObj lo e hd hf⟩
theorem told_lookup (c : Nat) : (PySem.Spec.lookup (.str (S [c])) toldTab).getD (.str (S [c])) = .str (S (esc1 c)) := by
  have e : ∀ k : Nat, PySem.Spec.same (.str (S [k])) (.str (S [c])) = decide (c = k) := by
    intro k
    rw [PyProof.V.same_str]
    by_cases h : c = k
    · subst h; simp
    · have : ¬ S [k] = S [c] := fun q => h (by have := S_inj q; simp at this; exact this.symm)
      simp [h, this]
  unfold toldTab
  simp only [PySem.Spec.lookup, e, decide_eq_true_eq]
  unfold esc1
  (repeat' split) <;> rfl
section
variable {prog : Program} {w : World} {A : Around} {E : Value → Shared → Prop} {s : Shared} {env : Env} {h₀ : Heap} {x : Str} {body : List Stmt} {L D : Addr} {o : Obj} {news : List (Addr × Obj)}
theorem told_get {c : Nat} {t u : Tok} {Q : Value → Shared → Prop} (N : News h₀ L s.heap news) (hm : (D, o) ∈ news) (T : ToldD prog w D o) (h : ∀ t k, Q (.str (S (esc1 c)) t) { s with toks := k }) :
    wpAny (model prog w) A (call (.builtin "dict.get") [.ref D, .str (S [c]) t, .str (S [c]) u]) Q E s := by
  refine call_get2_strTab (T.tab _ (N _ hm).1) (PyProof.V.Flat.str _ _) fun v hv => ?_
  rw [told_lookup] at hv
  cases hv s.heap
  exact h _ _
theorem told_meth {Q : Value × List Value → Shared → Prop} {pl : Sem Bool} (N : News h₀ L s.heap news) (hm : (D, o) ∈ news) (T : ToldD prog w D o) (h : Q (.builtin "dict.get", [.ref D]) s) :
    wpAny (model prog w) A (getMethod (.ref D) (Str.ofString "get") pl) Q E s := getMethod_strTab_get (T.tab _ (N _ hm).1) h
theorem lesc_it {Q : Flow → Shared → Prop} {xt : List Nat} {tx t₀ : Tok} {m₀ : Str → Option Value} (rest : List (Addr × Obj)) (_T : ToldD prog w D o)
    (hh : A.handled = none) (F : Fr h₀ env.locals s.heap m₀) (N : News h₀ env.locals s.heap news) (hm : ∀ p ∈ (D, o) :: rest, p ∈ news) (h1 : m₀ (Str.ofString "told") = some (.ref D)) (h2 : m₀ (Str.ofString "found") = some (.str (S [34]) t₀))
    (turn : ∀ pre k post t t' m₁ h tk I oI, xt = pre ++ k :: post → (∀ p ∈ (D, o) :: rest, p.1 ≠ I) → Fr h₀ env.locals h (fun y => if y = x then some (.str (S [k]) t) else kstB m₁ [(Str.ofString "told", .ref D), (Str.ofString "found", .str (S (34 :: escL pre)) t')] y) → News h₀ env.locals h ((I, oI) :: (D, o) :: rest) →
      wpAny (model prog w) A (execs body env) (TurnPost h₀ env.locals (fun _ : Tok => (D, o) :: rest) (fun t' => [(Str.ofString "told", Value.ref D), (Str.ofString "found", .str (S (34 :: escL (pre ++ [k]))) t')]) (fun _ => True) I oI { s with heap := h, toks := tk } Q) E { s with heap := h, toks := tk })
    (done : ∀ t' m₁ h tk, Fr h₀ env.locals h (kstB m₁ [(Str.ofString "told", .ref D), (Str.ofString "found", .str (S (34 :: escL xt)) t')]) → News h₀ env.locals h ((D, o) :: rest) → Q .next { s with heap := h, toks := tk }) :
    wpAny (model prog w) A (pyIter (.str (S xt) tx)) (fun it s₂ => LoopAtV prog w A h₀ env x body Q E it s₂) E s := by
  refine it_text (σ := List Nat × Tok) (fun _ => (D, o) :: rest) (fun c => [(Str.ofString "told", .ref D), (Str.ofString "found", .str (S c.1) c.2)]) (fun pre c => c.1 = 34 :: escL pre) ([34], t₀) hh F (fun p hp => N p (hm p hp)) (Bnd.cons h1 (Bnd.cons h2 Bnd.nil)) rfl ?_ ?_
  · rintro pre k post t ⟨f, t'⟩ m₁ h tk I oI e hj hoff F' N'
    cases hj
    refine wpAny_mono (turn pre k post t t' m₁ h tk I oI e hoff F' N') (fun fl s₂ q => ?_) fun _ _ e => e
    cases fl with
    | ret v => exact q
    | brk => exact q
    | next => obtain ⟨c, h', tk', m', news', a1, a2, a3, a4, a5, a6, a7, a8⟩ := q; exact ⟨(_, c), h', tk', m', news', a1, a2, a3, a4, a5, a6, a7, rfl⟩
    | cont => obtain ⟨c, h', tk', m', news', a1, a2, a3, a4, a5, a6, a7, a8⟩ := q; exact ⟨(_, c), h', tk', m', news', a1, a2, a3, a4, a5, a6, a7, rfl⟩
  · rintro ⟨f, t'⟩ m₁ h tk hj F' N'
    cases hj
    exact done t' m₁ h tk F' N'
theorem turn_end {σ : Type} {Led : σ → List (Addr × Obj)} {ps : σ → List (Str × Value)} {P : σ → Prop} {I : Addr} {oI : Obj} {Q : Flow → Shared → Prop} {h' : Heap} {tk' : Nat} {m' : Str → Option Value} {news' : List (Addr × Obj)} (c' : σ)
    (F : Fr h₀ L h' m') (N : News h₀ L h' news') (hI : (I, oI) ∈ news') (hs : ∀ p ∈ Led c', p ∈ news') (hne : ∀ p ∈ Led c', p.1 ≠ I) (hb : Bnd (ps c') m') (hj : P c') :
    TurnPost h₀ L Led ps P I oI s Q .next { s with heap := h', toks := tk' } := ⟨c', h', tk', m', news', rfl, F, N, hI, hs, hne, hb, hj⟩
theorem w_end {σ : Type} {Led : σ → List (Addr × Obj)} {ps : σ → List (Str × Value)} {J : σ → Prop} {μ : σ → Nat} {c : σ} {Q : Flow → Shared → Prop} {h' : Heap} {tk' : Nat} {m' : Str → Option Value} {news' : List (Addr × Obj)} (c' : σ)
    (F : Fr h₀ L h' m') (N : News h₀ L h' news') (hs : ∀ p ∈ Led c', p ∈ news') (hb : Bnd (ps c') m') (hj : J c') (hμ : μ c' < μ c) :
    WPost h₀ L Led ps J μ c s Q .next { s with heap := h', toks := tk' } := ⟨c', h', tk', m', news', rfl, F, N, hs, hb, hj, hμ⟩
theorem allLt_ne {d : Addr} {l : List (Addr × Obj)} (h : AllLt d l) : ∀ p ∈ l, p.1 ≠ d := by
  induction l with
  | nil => intro p hp; cases hp
  | cons a r ih =>
    intro p hp
    rcases List.mem_cons.mp hp with rfl | hp
    · exact Nat.ne_of_lt h.1
    · exact ih h.2 p hp
theorem allLt_mem {d : Addr} {l : List (Addr × Obj)} (h : AllLt d l) : ∀ p ∈ l, p.1 < d := by
  induction l with
  | nil => intro p hp; cases hp
  | cons a r ih =>
    intro p hp
    rcases List.mem_cons.mp hp with rfl | hp
    · exact h.1
    · exact ih h.2 p hp
theorem lt_ne {d : Addr} {l : List (Addr × Obj)} (h : ∀ p ∈ l, p.1 < d) : ∀ p ∈ l, p.1 ≠ d := fun p hp => Nat.ne_of_lt (h p hp)
theorem sub_cons {a : Addr × Obj} {l r : List (Addr × Obj)} (h : a ∈ r) (k : ∀ p ∈ l, p ∈ r) : ∀ p ∈ a :: l, p ∈ r := fun p hp => by
  rcases List.mem_cons.mp hp with rfl | hp
  · exact h
  · exact k p hp
theorem sub_nil {r : List (Addr × Obj)} : ∀ p ∈ ([] : List (Addr × Obj)), p ∈ r := fun _ h => nomatch h
theorem sub_tail {a : Addr × Obj} {l r : List (Addr × Obj)} (k : ∀ p ∈ l, p ∈ r) : ∀ p ∈ l, p ∈ a :: r := fun p hp => List.mem_cons_of_mem _ (k p hp)
end
end
section
section
variable {prog : Program} {w : World} {A : Around} {E : Value → Shared → Prop} {s : Shared} {value slice : PySem.Expr} {l r : List Nat} {t : Tok} {h₀ : Heap} {L : Addr} {m : Str → Option Value} {news : List (Addr × Obj)} {Q : Value → Shared → Prop}
theorem sl_ss {i j : Int} {ui uj : Tok} (hF : Fr h₀ L s.heap m) (hN : News h₀ L s.heap news) (e : Txt.slice (S l) (some i) (some j) = S r) (hsz : l.length ≤ 1000000)
    (hs : subscripted slice false (.str (S l) t) (.ref s.heap.objs.size) = operate [.ref s.heap.objs.size, .str (S l) t] (getItem (.str (S l) t) (.ref s.heap.objs.size)))
    (ht : ∀ r, letTemporaryGo value (.str (S l) t) r = pure ()) (h : ∀ h' t' k, Fr h₀ L h' m → News h₀ L h' news → Q (.str (S r) t') { s with heap := h', toks := k }) :
    wpAny (model prog w) A (subscriptTail value slice (.str (S l) t) (.ref s.heap.objs.size)) Q E { s with heap := s.heap.push { cls := .type "slice", data := .fields #[.int i ui, .int j uj, .none] } } :=
  slice_strN_ss hF hN (by rw [e]; exact h) hs ht (by rw [S_len, sizeLine_eq]; omega)
theorem sl_sn {i : Int} {ui : Tok} (hF : Fr h₀ L s.heap m) (hN : News h₀ L s.heap news) (e : Txt.slice (S l) (some i) none = S r) (hsz : l.length ≤ 1000000)
    (hs : subscripted slice false (.str (S l) t) (.ref s.heap.objs.size) = operate [.ref s.heap.objs.size, .str (S l) t] (getItem (.str (S l) t) (.ref s.heap.objs.size)))
    (ht : ∀ r, letTemporaryGo value (.str (S l) t) r = pure ()) (h : ∀ h' t' k, Fr h₀ L h' m → News h₀ L h' news → Q (.str (S r) t') { s with heap := h', toks := k }) :
    wpAny (model prog w) A (subscriptTail value slice (.str (S l) t) (.ref s.heap.objs.size)) Q E { s with heap := s.heap.push { cls := .type "slice", data := .fields #[.int i ui, .none, .none] } } :=
  slice_strN_sn hF hN (by rw [e]; exact h) hs ht (by rw [S_len, sizeLine_eq]; omega)
theorem sl_ns {j : Int} {uj : Tok} (hF : Fr h₀ L s.heap m) (hN : News h₀ L s.heap news) (e : Txt.slice (S l) none (some j) = S r) (hsz : l.length ≤ 1000000)
    (hs : subscripted slice false (.str (S l) t) (.ref s.heap.objs.size) = operate [.ref s.heap.objs.size, .str (S l) t] (getItem (.str (S l) t) (.ref s.heap.objs.size)))
    (ht : ∀ r, letTemporaryGo value (.str (S l) t) r = pure ()) (h : ∀ h' t' k, Fr h₀ L h' m → News h₀ L h' news → Q (.str (S r) t') { s with heap := h', toks := k }) :
    wpAny (model prog w) A (subscriptTail value slice (.str (S l) t) (.ref s.heap.objs.size)) Q E { s with heap := s.heap.push { cls := .type "slice", data := .fields #[.none, .int j uj, .none] } } :=
  slice_strN_ns hF hN (by rw [e]; exact h) hs ht (by rw [S_len, sizeLine_eq]; omega)
end
theorem sl_e1 (l : List Nat) (h : 2 ≤ l.length) : Txt.slice (S l) (some 1) (some (-1)) = S ((l.drop 1).dropLast) := slice_1m1 l h
theorem sl_e2 (l : List Nat) : Txt.slice (S l) none (some 1) = S (l.take 1) := slice_ns l 1
theorem sl_e3 (l : List Nat) : Txt.slice (S l) (some 1) none = S (l.drop 1) := slice_sn l 1
/-- what a sign behind a stroke tells -/
def unm (m : Nat) : List Nat := if m = 110 then [10] else if m = 116 then [9] else if m = 114 then [13] else if m = 92 ∨ m = 34 then [m] else [92, m]
/-- a text, its strokes told -/
def unl : List Nat → List Nat
  | [] => []
  | [c] => [c]
  | c :: m :: r => if c = 92 then unm m ++ unl r else c :: unl (m :: r)
theorem unl_free : ∀ l : List Nat, 92 ∉ l → unl l = l
  | [], _ => rfl
  | [c], _ => rfl
  | c :: m :: r, h => by
    have h1 : ¬ c = 92 := fun e => h (e ▸ List.mem_cons_self ..)
    rw [unl, if_neg h1, unl_free (m :: r) fun q => h (List.mem_cons_of_mem _ q)]
theorem unl_part : ∀ (a r : List Nat), 92 ∉ a → unl (a ++ 92 :: r) = a ++ unl (92 :: r)
  | [], _, _ => rfl
  | c :: a, r, h => by
    have h1 : ¬ c = 92 := fun e => h (e ▸ List.mem_cons_self ..)
    have ih := unl_part a r fun q => h (List.mem_cons_of_mem _ q)
    cases hq : a ++ 92 :: r with
    | nil => simp at hq
    | cons m q =>
      rw [List.cons_append, hq, unl, if_neg h1, ← hq, ih]; rfl
theorem unl_step (r : List Nat) : unl (92 :: r) = (if r.take 1 = [110] then [10] else if r.take 1 = [116] then [9] else if r.take 1 = [114] then [13] else if r.take 1 = [92] ∨ r.take 1 = [34] then r.take 1 else 92 :: r.take 1) ++ unl (r.drop 1) := by
  cases r with
  | nil => rfl
  | cons m q =>
    rw [unl, if_pos rfl]
    simp only [List.take_succ_cons, List.take_zero, List.drop_succ_cons, List.drop_zero, List.cons.injEq, and_true]
    congr 1
theorem unl_turn {res rest a r body z : List Nat} (hj : res ++ unl rest = unl body) (e : rest = a ++ 92 :: r) (ha : 92 ∉ a)
    (hz : z = if r.take 1 = [110] then [10] else if r.take 1 = [116] then [9] else if r.take 1 = [114] then [13] else if r.take 1 = [92] ∨ r.take 1 = [34] then r.take 1 else 92 :: r.take 1) : res ++ a ++ z ++ unl (r.drop 1) = unl body := by
  rw [← hj, e, unl_part _ _ ha, unl_step, ← hz]
  simp
theorem unl_esc : ∀ l : List Nat, unl (escL l) = l
  | [] => rfl
  | c :: r => by
    have ih := unl_esc r
    have e : escL (c :: r) = esc1 c ++ escL r := rfl
    rw [e]
    unfold esc1
    by_cases h1 : c = 92
    · subst h1; simp [unl, unm, ih]
    by_cases h2 : c = 34
    · subst h2; simp [unl, unm, ih]
    by_cases h3 : c = 10
    · subst h3; simp [unl, unm, ih]
    by_cases h4 : c = 9
    · subst h4; simp [unl, unm, ih]
    by_cases h5 : c = 13
    · subst h5; simp [unl, unm, ih]
    simp only [h1, h2, h3, h4, h5, if_false]
    show unl (c :: escL r) = c :: r
    cases hq : escL r with
    | nil => rw [hq] at ih; rw [← ih]; rfl
    | cons m q => rw [unl, if_neg h1, ← hq, ih]
theorem unl_len : ∀ l : List Nat, (unl l).length ≤ l.length
  | [] => Nat.le_refl _
  | [c] => Nat.le_refl _
  | c :: m :: r => by
    rw [unl]
    split
    · have := unl_len r
      have h2 : (unm m).length ≤ 2 := by unfold unm; (repeat' split) <;> simp
      rw [List.length_append, List.length_cons, List.length_cons]; omega
    · have := unl_len (m :: r)
      simp only [List.length_cons] at this ⊢; omega
end
section
/-- one sign more, in runs -/
def runStep (p : Nat → Bool) (st : List (List Nat) × Bool) (c : Nat) : List (List Nat) × Bool :=
  if (p c != st.2) = true then (st.1 ++ [[c]], !st.2) else (st.1.dropLast ++ [lastL st.1 ++ [c]], st.2)
def runsS (p : Nat → Bool) (l : List Nat) : List (List Nat) × Bool := l.foldl (runStep p) ([[]], false)
def runsF (p : Nat → Bool) (l : List Nat) : List (List Nat) := if (runsS p l).2 = true then (runsS p l).1 ++ [[]] else (runsS p l).1
theorem runsS_snoc (p : Nat → Bool) (l : List Nat) (c : Nat) : runsS p (l ++ [c]) = runStep p (runsS p l) c := by simp [runsS, List.foldl_append]
theorem lastL_eq {ls : List (List Nat)} (h : ls ≠ []) : ls = ls.dropLast ++ [lastL ls] := by
  obtain ⟨p, x, rfl⟩ : ∃ p x, ls = p ++ [x] := ⟨_, _, (List.dropLast_concat_getLast h).symm⟩
  rw [lastL_app]; simp
theorem runStep_facts {p : Nat → Bool} {st : List (List Nat) × Bool} {c : Nat} {pre : List Nat} (h1 : st.1 ≠ []) (h2 : st.1.flatten = pre) (h3 : st.1.length ≤ pre.length + 1) :
    (runStep p st c).1 ≠ [] ∧ (runStep p st c).1.flatten = pre ++ [c] ∧ (runStep p st c).1.length ≤ (pre ++ [c]).length + 1 := by
  unfold runStep
  split
  · refine ⟨by simp, by simp [h2], ?_⟩
    simp; omega
  · refine ⟨by simp, ?_, ?_⟩
    · have := lastL_eq h1
      rw [this] at h2
      simp at h2 ⊢
      rw [← h2]; simp
    · have := List.length_pos_iff.mpr h1
      simp; omega
theorem runs_fold (p : Nat → Bool) : ∀ (l pre : List Nat) (st : List (List Nat) × Bool), st.1 ≠ [] → st.1.flatten = pre → st.1.length ≤ pre.length + 1 →
    (l.foldl (runStep p) st).1 ≠ [] ∧ (l.foldl (runStep p) st).1.flatten = pre ++ l ∧ (l.foldl (runStep p) st).1.length ≤ (pre ++ l).length + 1
  | [], pre, st, h1, h2, h3 => by simpa using ⟨h1, h2, h3⟩
  | c :: r, pre, st, h1, h2, h3 => by
    have f := runStep_facts (p := p) (c := c) h1 h2 h3
    have := runs_fold p r (pre ++ [c]) _ f.1 f.2.1 f.2.2
    simpa using this
theorem runsS_facts (p : Nat → Bool) (l : List Nat) : (runsS p l).1 ≠ [] ∧ (runsS p l).1.flatten = l ∧ (runsS p l).1.length ≤ l.length + 1 := by
  have := runs_fold p l [] ([[]], false) (by simp) rfl (by simp)
  simpa [runsS] using this
theorem lastL_len {ls : List (List Nat)} (h : ls ≠ []) : (lastL ls).length ≤ ls.flatten.length := by
  have := lastL_eq h
  conv => rhs; rw [this]
  simp
theorem runsF_flatten (p : Nat → Bool) (l : List Nat) : (runsF p l).flatten = l := by
  have := (runsS_facts p l).2.1
  unfold runsF
  split <;> simp [this]
theorem runsF_length (p : Nat → Bool) (l : List Nat) : (runsF p l).length ≤ l.length + 2 := by
  have := (runsS_facts p l).2.2
  unfold runsF
  split <;> simp <;> omega
theorem app_ne (a : List (List Nat)) (x : List Nat) : a ++ [x] ≠ [] := by simp
section
variable {prog : Program} {w : World} {A : Around} {E : Value → Shared → Prop} {s : Shared} {y : List Nat} {p : List (List Nat)} {vs : List Value} {u : Tok} {h₀ : Heap} {L D : Addr} {n : Nat} {news : List (Addr × Obj)}
theorem tl_getItemA {Q : Value → Shared → Prop} (N : News h₀ L s.heap news) (hm : (D, listOf vs.toArray n) ∈ news) (T : TX vs (p ++ [y])) (h : ∀ t, Q (.str (S y) t) s) :
    wpAny (model prog w) A (getItem (.ref D) (.int (-1) u)) Q E s := tl_getItem N hm T (app_ne _ _) (by rw [lastL_app]; exact h)
theorem tl_getlastA {Q : Value → Shared → Prop} {value slice : PySem.Expr} (N : News h₀ L s.heap news) (hm : (D, listOf vs.toArray n) ∈ news) (T : TX vs (p ++ [y])) (h : ∀ t, Q (.str (S y) t) s)
    (hs : subscripted slice false (.ref D) (.int (-1) u) = operate [.ref D, .int (-1) u] (getItem (.ref D) (.int (-1) u))) :
    wpAny (model prog w) A (subscriptTail value slice (.ref D) (.int (-1) u)) Q E s := tl_getlast N hm T (app_ne _ _) (by rw [lastL_app]; exact h) hs
end
theorem hne2 {D I : Addr} {o o' : Obj} {l : List (Addr × Obj)} (h : ∀ p ∈ (D, o) :: l, p.1 ≠ I) : ∀ p ∈ (D, o') :: l, p.1 ≠ I := fun p hp => by
  rcases List.mem_cons.mp hp with rfl | hp
  · exact h (D, o) (List.Mem.head _)
  · exact h p (List.Mem.tail _ hp)
/-- the law's blanks -/
def bl4 (c : Nat) : Bool := decide (c ∈ [32, 9, 10, 13])
theorem lt_sub {D : Addr} {l r : List (Addr × Obj)} (h : ∀ p ∈ r, p.1 < D) (k : ∀ p ∈ l, p ∈ r) : ∀ p ∈ l, p.1 < D := fun p hp => h p (k p hp)
theorem addr_ne {a b : Addr} (h : a ≠ b) : @Ne Nat a b := h
end
section
section
variable {prog : Program} {w : World} {A : Around} {E : Value → Shared → Prop} {s : Shared} {env : Env} {h₀ : Heap} {xi xc : Str} {body : List Stmt} {Q : Flow → Shared → Prop}
def EnumEnd {σ : Type} (h₀ : Heap) (L D : Addr) (Fo : σ → Obj) (ps : σ → List (Str × Value)) (P : σ → Prop) (rest : List (Addr × Obj)) (s s₂ : Shared) : Prop :=
  ∃ (c : σ) (h' : Heap) (tk : Nat) (m' : Str → Option Value) (news' : List (Addr × Obj)), s₂ = { s with heap := h', toks := tk } ∧ Fr h₀ L h' m' ∧ News h₀ L h' news' ∧ (∀ p ∈ (D, Fo c) :: rest, p ∈ news') ∧ Bnd (ps c) m' ∧ P c
def EnumPost {σ : Type} (h₀ : Heap) (L D : Addr) (Fo : σ → Obj) (ps : σ → List (Str × Value)) (P : σ → Prop) (rest : List (Addr × Obj)) (s : Shared) (Q : Flow → Shared → Prop) (f : Flow) (s₂ : Shared) : Prop :=
  match f with
  | .ret v => Q (.ret v) s₂
  | .brk => Q .next s₂
  | _ => EnumEnd h₀ L D Fo ps P rest s s₂
theorem enum_end {σ : Type} {L D : Addr} {Fo : σ → Obj} {ps : σ → List (Str × Value)} {P : σ → Prop} {rest : List (Addr × Obj)} {h' : Heap} {tk' : Nat} {m' : Str → Option Value} {news' : List (Addr × Obj)} (c' : σ)
    (F : Fr h₀ L h' m') (N : News h₀ L h' news') (hs : ∀ p ∈ (D, Fo c') :: rest, p ∈ news') (hb : Bnd (ps c') m') (hj : P c') :
    EnumPost h₀ L D Fo ps P rest s Q .next { s with heap := h', toks := tk' } := ⟨c', h', tk', m', news', rfl, F, N, hs, hb, hj⟩
theorem it_enum {σ : Type} {D e : Addr} {xt : List Nat} {m₀ : Str → Option Value} {news : List (Addr × Obj)} (Fo : σ → Obj) (ps : σ → List (Str × Value)) (J : List Nat → σ → Prop) (c₀ : σ)
    (S0 : PairSrcL prog w A E h₀ env.locals ItemKind.str (signs (S xt)) (.ref e) s m₀ ((D, Fo c₀) :: news)) (hlt : ∀ p ∈ news, p.1 ≠ D) (hb : Bnd (ps c₀) m₀) (hj : J [] c₀)
    (turn : ∀ pre k post t u c m₁ h tk rest, xt = pre ++ k :: post → J pre c → (∀ p ∈ news, p ∈ rest) → (∀ p ∈ rest, p.1 ≠ D) →
      Fr h₀ env.locals h (fun y => if y = xc then some (.str (S [k]) u) else if y = xi then some (.int (pre.length : Int) t) else kstB m₁ (ps c) y) → News h₀ env.locals h ((D, Fo c) :: rest) →
      wpAny (model prog w) A (execs body env) (EnumPost h₀ env.locals D Fo ps (J (pre ++ [k])) rest { s with heap := h, toks := tk } Q) E { s with heap := h, toks := tk })
    (done : ∀ c m₁ h tk, J xt c → Fr h₀ env.locals h (kstB m₁ (ps c)) → News h₀ env.locals h ((D, Fo c) :: news) → Q .next { s with heap := h, toks := tk }) :
    wpAny (model prog w) A (pyIter (.ref e)) (fun it s₂ => PairAt3 prog w A h₀ env xi xc body Q E it s₂) E s := by
  refine S0 env rfl xi xc body Q (fun i m nx => ∃ c, nx = (D, Fo c) :: news ∧ Bnd (ps c) m ∧ J (xt.take i) c) ⟨c₀, rfl, hb, by simpa using hj⟩ ?_ ?_
  · rintro i a t v m₁ nx s₁ own ⟨h, tk, rfl⟩ ha hv ⟨c, rfl, hb', hJ⟩ _ hoff F₁ N₁
    have hk : ∃ k, xt[i]? = some k ∧ a = S [k] := by
      unfold signs at ha
      rw [S_toList, List.getElem?_map] at ha
      cases hq : xt[i]? with
      | none => rw [hq] at ha; cases ha
      | some k => rw [hq] at ha; cases ha; exact ⟨k, rfl, rfl⟩
    obtain ⟨k, hk', rfl⟩ := hk
    obtain ⟨u, rfl⟩ := ItemKind.str_is hv
    have hs : xt.take (i + 1) = xt.take i ++ [k] := by simp [List.take_add_one, hk']
    have e : xt = xt.take i ++ k :: xt.drop (i + 1) := by
      have ht := List.take_append_drop (i + 1) xt
      rw [hs, List.append_assoc] at ht
      exact ht.symm
    have hil : i < xt.length := (List.getElem?_eq_some_iff.mp hk').1
    have hlen : ((xt.take i).length : Int) = (i : Int) := by rw [List.length_take]; omega
    have N₂ : News h₀ env.locals h ((D, Fo c) :: (news ++ own)) := fun p hp => N₁ p (by
      rcases List.mem_cons.mp hp with rfl | hp
      · exact List.mem_append_right _ (List.mem_cons_self ..)
      · rcases List.mem_append.mp hp with hp | hp
        · exact List.mem_append_right _ (List.mem_cons_of_mem _ hp)
        · exact List.mem_append_left _ hp)
    have F₂ : Fr h₀ env.locals h (fun y => if y = xc then some (.str (S [k]) u) else if y = xi then some (.int ((xt.take i).length : Int) t) else kstB m₁ (ps c) y) := by
      rw [hb'.eq, hlen]; exact F₁
    refine wpAny_mono (turn (xt.take i) k _ t u c m₁ h tk (news ++ own) e hJ (fun p hp => List.mem_append_left _ hp) ?_ F₂ N₂) (fun f s₂ q => ?_) fun _ _ e => e
    · intro p hp
      rcases List.mem_append.mp hp with hp | hp
      · exact hlt p hp
      · exact hoff p hp _ (List.mem_cons_self ..)
    · have fin : EnumEnd h₀ env.locals D Fo ps (J (xt.take i ++ [k])) (news ++ own) { s with heap := h, toks := tk } s₂ → LoopStep2 h₀ env.locals own ((D, Fo c) :: news) (fun m nx => ∃ c, nx = (D, Fo c) :: news ∧ Bnd (ps c) m ∧ J (xt.take (i + 1)) c) { s with heap := h, toks := tk } .next s₂ := by
        rintro ⟨c', h', tk', m', news', e', F', N', hsub, hbn, hj'⟩
        rw [← hs] at hj'
        refine ⟨rfl, h', tk', m', (D, Fo c') :: news, e', F', fun p hp => N' p ?_, rfl, c', rfl, hbn, hj'⟩
        rcases List.mem_append.mp hp with hp | hp
        · exact hsub p (List.mem_cons_of_mem _ (List.mem_append_right _ hp))
        · rcases List.mem_cons.mp hp with rfl | hp
          · exact hsub _ (List.mem_cons_self ..)
          · exact hsub p (List.mem_cons_of_mem _ (List.mem_append_left _ hp))
      cases f with
      | ret v => exact q
      | brk => exact q
      | next => exact fin q
      | cont => exact fin q
  · rintro h tk m' nx F' N' _ ⟨c, rfl, hb', hJ⟩
    have hl : (signs (S xt)).length = xt.length := by simp [signs, S]
    rw [hl, List.take_length] at hJ
    refine done c m' h tk hJ ?_ N'
    rw [hb'.eq]; exact F'
end
section
variable {prog : Program} {w : World} {A : Around} {E : Value → Shared → Prop} {s : Shared} {ls : List (List Nat)} {vs : List Value} {u : Tok} {h₀ : Heap} {L D : Addr} {n : Nat} {m : Str → Option Value} {news : List (Addr × Obj)} {value slice : PySem.Expr} {Q : Value → Shared → Prop}
theorem tl_slice {vl vu : Value} {lo hi : Option Int} {zs : List Value} {ks : List (List Nat)} (F : Fr h₀ L s.heap m) (N : News h₀ L s.heap news) (hm : (D, listOf vs.toArray n) ∈ news) (T : TX vs ls) (pl : IsPart vl lo) (pu : IsPart vu hi) (e : kms_pick vs lo hi = zs) (T' : TX zs ks) (hz : ls.length ≤ 1000000)
    (hs : subscripted slice false (.ref D) (.ref s.heap.objs.size) = operate [.ref s.heap.objs.size, .ref D] (getItem (.ref D) (.ref s.heap.objs.size))) (ht : ∀ r, letTemporaryGo value (.ref D) r = pure ())
    (h : ∀ D' zs h', Fr h₀ L h' m → News h₀ L h' ((D', listOf (List.toArray zs) 0) :: news) → (∀ p ∈ news, p.1 < D') → TX zs ks → Q (.ref D') { s with heap := h' }) :
    wpAny (model prog w) A (subscriptTail value slice (.ref D) (.ref s.heap.objs.size)) Q E { s with heap := s.heap.push { cls := .type "slice", data := .fields #[vl, vu, .none] } } := by
  have hL := PySem.IsL.isList (n := n) (N _ hm).1
  refine kms_slice_lit F N hL pl pu (zs := zs) (by simpa using e) (fun D' h' F' N' l => h D' zs h' F' N' l T') hs ht ?_
  rw [List.size_toArray, T.length, sizeLine_eq]; omega
theorem tl_m1 {uj : Tok} (F : Fr h₀ L s.heap m) (N : News h₀ L s.heap news) (hm : (D, listOf vs.toArray n) ∈ news) (T : TX vs ls) (hz : ls.length ≤ 1000000)
    (hs : subscripted slice false (.ref D) (.ref s.heap.objs.size) = operate [.ref s.heap.objs.size, .ref D] (getItem (.ref D) (.ref s.heap.objs.size))) (ht : ∀ r, letTemporaryGo value (.ref D) r = pure ())
    (h : ∀ D' zs h', Fr h₀ L h' m → News h₀ L h' ((D', listOf (List.toArray zs) 0) :: news) → (∀ p ∈ news, p.1 < D') → TX zs ls.dropLast → Q (.ref D') { s with heap := h' }) :
    wpAny (model prog w) A (subscriptTail value slice (.ref D) (.ref s.heap.objs.size)) Q E { s with heap := s.heap.push { cls := .type "slice", data := .fields #[.none, .int (-1) uj, .none] } } :=
  tl_slice F N hm T .none (.int _ _) (zs := vs.dropLast) (by
    show (vs.drop 0).take (vs.length - 1 - 0) = _
    rw [List.dropLast_eq_take]; simp) T.dropLast hz hs ht h
theorem tl_m2 {uj : Tok} (F : Fr h₀ L s.heap m) (N : News h₀ L s.heap news) (hm : (D, listOf vs.toArray n) ∈ news) (T : TX vs ls) (hz : ls.length ≤ 1000000)
    (hs : subscripted slice false (.ref D) (.ref s.heap.objs.size) = operate [.ref s.heap.objs.size, .ref D] (getItem (.ref D) (.ref s.heap.objs.size))) (ht : ∀ r, letTemporaryGo value (.ref D) r = pure ())
    (h : ∀ D' zs h', Fr h₀ L h' m → News h₀ L h' ((D', listOf (List.toArray zs) 0) :: news) → (∀ p ∈ news, p.1 < D') → TX zs ls.dropLast.dropLast → Q (.ref D') { s with heap := h' }) :
    wpAny (model prog w) A (subscriptTail value slice (.ref D) (.ref s.heap.objs.size)) Q E { s with heap := s.heap.push { cls := .type "slice", data := .fields #[.none, .int (-2) uj, .none] } } :=
  tl_slice F N hm T .none (.int _ _) (zs := vs.dropLast.dropLast) (by
    show (vs.drop 0).take (vs.length - 2 - 0) = _
    rw [List.dropLast_eq_take, List.dropLast_eq_take, List.take_take, List.length_take]
    simp only [List.drop_zero]
    congr 1; omega) T.dropLast.dropLast hz hs ht h
theorem tl_s1 {ui : Tok} (F : Fr h₀ L s.heap m) (N : News h₀ L s.heap news) (hm : (D, listOf vs.toArray n) ∈ news) (T : TX vs ls) (hz : ls.length ≤ 1000000)
    (hs : subscripted slice false (.ref D) (.ref s.heap.objs.size) = operate [.ref s.heap.objs.size, .ref D] (getItem (.ref D) (.ref s.heap.objs.size))) (ht : ∀ r, letTemporaryGo value (.ref D) r = pure ())
    (h : ∀ D' zs h', Fr h₀ L h' m → News h₀ L h' ((D', listOf (List.toArray zs) 0) :: news) → (∀ p ∈ news, p.1 < D') → TX zs (ls.drop 1) → Q (.ref D') { s with heap := h' }) :
    wpAny (model prog w) A (subscriptTail value slice (.ref D) (.ref s.heap.objs.size)) Q E { s with heap := s.heap.push { cls := .type "slice", data := .fields #[.int 1 ui, .none, .none] } } :=
  tl_slice F N hm T (.int _ _) .none (zs := vs.drop 1) (by
    show (vs.drop (min 1 vs.length)).take (vs.length - min 1 vs.length) = _
    cases vs <;> simp) (T.drop 1) hz hs ht h
theorem tl_sl {ui : Tok} (F : Fr h₀ L s.heap m) (N : News h₀ L s.heap news) (hm : (D, listOf vs.toArray n) ∈ news) (T : TX vs ls) (hz : ls.length ≤ 1000000)
    (hs : subscripted slice false (.ref D) (.ref s.heap.objs.size) = operate [.ref s.heap.objs.size, .ref D] (getItem (.ref D) (.ref s.heap.objs.size))) (ht : ∀ r, letTemporaryGo value (.ref D) r = pure ())
    (h : ∀ D' zs h', Fr h₀ L h' m → News h₀ L h' ((D', listOf (List.toArray zs) 0) :: news) → (∀ p ∈ news, p.1 < D') → TX zs (ls.drop (ls.length - 1)) → Q (.ref D') { s with heap := h' }) :
    wpAny (model prog w) A (subscriptTail value slice (.ref D) (.ref s.heap.objs.size)) Q E { s with heap := s.heap.push { cls := .type "slice", data := .fields #[.int (-1) ui, .none, .none] } } :=
  tl_slice F N hm T (.int _ _) .none (zs := vs.drop (vs.length - 1)) (by
    show (vs.drop (vs.length - 1)).take (vs.length - (vs.length - 1)) = _
    rw [List.take_of_length_le]
    rw [List.length_drop]; omega) (by rw [T.length]; exact T.drop _) hz hs ht h
end
theorem sl_e4 (l : List Nat) (n : Nat) : Txt.slice (S l) (some ((n : Int) + 1)) (some ((n : Int) + 2)) = S ((l.drop (n + 1)).take 1) := by
  have := slice_ss l (n + 1) (n + 2) (by omega)
  rw [List.drop_take, show n + 2 - (n + 1) = 1 from by omega] at this
  simpa using this
/-- one sign more, in rows -/
def lnStep (ls : List (List Nat)) (k : Nat) (r : List Nat) : List (List Nat) :=
  if k = 10 ∨ (k = 13 ∧ r.take 1 ≠ [10]) then (ls.dropLast ++ [lastL ls ++ [k]]) ++ [[]] else ls.dropLast ++ [lastL ls ++ [k]]
def lnS : List (List Nat) → List Nat → List (List Nat)
  | ls, [] => ls
  | ls, k :: r => lnS (lnStep ls k r) r
def lnF (l : List Nat) : List (List Nat) := if lastL (lnS [[]] l) = [] then (lnS [[]] l).dropLast else lnS [[]] l
theorem lnStep_facts {ls : List (List Nat)} {k : Nat} {r pre : List Nat} (h1 : ls ≠ []) (h2 : ls.flatten = pre) (h3 : ls.length ≤ pre.length + 1) :
    lnStep ls k r ≠ [] ∧ (lnStep ls k r).flatten = pre ++ [k] ∧ (lnStep ls k r).length ≤ (pre ++ [k]).length + 1 := by
  have e := lastL_eq h1
  rw [e] at h2
  have hp := List.length_pos_iff.mpr h1
  unfold lnStep
  split
  · refine ⟨by simp, ?_, ?_⟩
    · simp at h2 ⊢; rw [← h2]; simp
    · simp; omega
  · refine ⟨by simp, ?_, ?_⟩
    · simp at h2 ⊢; rw [← h2]; simp
    · simp; omega
theorem ln_c1 {k : Nat} {post : List Nat} (h : ([k] == [10]) = true) : k = 10 ∨ (k = 13 ∧ post.take 1 ≠ [10]) := by
  have := eq_of_beq h
  simp at this
  exact .inl this
theorem ln_c2 {k : Nat} {post q : List Nat} (e : q = post.take 1) (h2 : ([k] == [13]) = true) (h3 : (q != [10]) = true) : k = 10 ∨ (k = 13 ∧ post.take 1 ≠ [10]) := by
  have := eq_of_beq h2
  simp at this
  refine .inr ⟨this, ?_⟩
  rw [← e]; simpa using h3
theorem ln_n1 {k : Nat} {post q : List Nat} (e : q = post.take 1) (h2 : ([k] == [13]) = true) (h3 : (q != [10]) = false) : ¬ (k = 10 ∨ (k = 13 ∧ post.take 1 ≠ [10])) := by
  have := eq_of_beq h2
  simp at this
  rintro (h | h)
  · omega
  · apply h.2
    rw [← e]; simpa using h3
theorem ln_n2 {k : Nat} {post : List Nat} (h1 : ([k] == [10]) = false) (h2 : ([k] == [13]) = false) : ¬ (k = 10 ∨ (k = 13 ∧ post.take 1 ≠ [10])) := by
  have a := ne_of_beq_false h1
  have b := ne_of_beq_false h2
  rintro (h | h)
  · exact a (by rw [h])
  · exact b (by rw [h.1])
end
section
/-- the law's packing: one run more -/
def partStep (more width : Int) (st : List (List Nat) × Int) (run : List Nat) : List (List Nat) × Int :=
  if st.2 + (((escQ run).length : Int) - 2 + more) < width then (st.1.dropLast ++ [lastL st.1 ++ run], st.2 + (((escQ run).length : Int) - 2 + more))
  else (st.1 ++ [run], if 2 + (((escQ run).length : Int) - 2 + more) < width then 2 + (((escQ run).length : Int) - 2 + more) else width)
def partsS (more width : Int) (rs : List (List Nat)) : List (List Nat) × Int := rs.foldl (partStep more width) ([], width)
def partsF (more width : Int) (rs : List (List Nat)) : List (List Nat) := (partsS more width rs).1
theorem partsS_snoc (more width : Int) (rs : List (List Nat)) (r : List Nat) : partsS more width (rs ++ [r]) = partStep more width (partsS more width rs) r := by simp [partsS, List.foldl_append]
def PartOk (width : Int) (pre : List (List Nat)) (st : List (List Nat) × Int) : Prop :=
  (st.1 = [] → width ≤ st.2) ∧ st.1.flatten = pre.flatten ∧ st.1.length ≤ pre.length
theorem escQ_ge (l : List Nat) : 2 ≤ (escQ l).length := by rw [escQ_len]; omega
theorem partStep_ok {more width : Int} {pre : List (List Nat)} {st : List (List Nat) × Int} {r : List Nat} (hm : 0 ≤ more) (h : PartOk width pre st) : PartOk width (pre ++ [r]) (partStep more width st r) := by
  obtain ⟨h1, h2, h3⟩ := h
  have hq := escQ_ge r
  unfold partStep
  split
  · rename_i hc
    have hne : st.1 ≠ [] := fun e => by have := h1 e; omega
    have e := lastL_eq hne
    have hp := List.length_pos_iff.mpr hne
    refine ⟨fun q => absurd q (by simp), ?_, ?_⟩
    · rw [e] at h2
      simp at h2 ⊢
      rw [← h2]; simp
    · simp; omega
  · refine ⟨fun q => absurd q (by simp), by simp [h2], by simp; omega⟩
theorem parts_fold {more width : Int} (hm : 0 ≤ more) : ∀ (rs pre : List (List Nat)) (st : List (List Nat) × Int), PartOk width pre st → PartOk width (pre ++ rs) (rs.foldl (partStep more width) st)
  | [], pre, st, h => by simpa using h
  | r :: rs, pre, st, h => by
    have := parts_fold hm rs (pre ++ [r]) _ (partStep_ok (r := r) hm h)
    simpa using this
theorem partsS_ok {more width : Int} (hm : 0 ≤ more) (rs : List (List Nat)) : PartOk width rs (partsS more width rs) := by
  have := parts_fold (width := width) hm rs [] ([], width) ⟨fun _ => Int.le_refl _, rfl, Nat.le_refl _⟩
  simpa [partsS] using this
theorem mem_flatten_len {ls : List (List Nat)} {r : List Nat} (h : r ∈ ls) : r.length ≤ ls.flatten.length := by
  induction ls with
  | nil => cases h
  | cons a t ih =>
    rcases List.mem_cons.mp h with rfl | h
    · simp
    · have := ih h
      rw [List.flatten_cons, List.length_append]; omega
theorem lastL_mem {ls : List (List Nat)} (h : ls ≠ []) : lastL ls ∈ ls := by
  rw [lastL_eq h, lastL_app]; simp
theorem lnS_facts : ∀ (r : List Nat) (ls : List (List Nat)) (pre : List Nat), ls ≠ [] → ls.flatten = pre → ls.length ≤ pre.length + 1 →
    lnS ls r ≠ [] ∧ (lnS ls r).flatten = pre ++ r ∧ (lnS ls r).length ≤ (pre ++ r).length + 1
  | [], ls, pre, h1, h2, h3 => by simpa [lnS] using ⟨h1, h2, h3⟩
  | k :: r, ls, pre, h1, h2, h3 => by
    have f := lnStep_facts (k := k) (r := r) h1 h2 h3
    have := lnS_facts r (lnStep ls k r) (pre ++ [k]) f.1 f.2.1 f.2.2
    simpa [lnS] using this
theorem lnF_flatten (x : List Nat) : (lnF x).flatten = x := by
  have f := lnS_facts x [[]] [] (by simp) rfl (by simp)
  simp only [List.nil_append] at f
  unfold lnF
  split
  · rename_i h
    have e := lastL_eq f.1
    have f2 := f.2.1
    rw [e, h] at f2
    simpa using f2
  · exact f.2.1
theorem lnF_length (x : List Nat) : (lnF x).length ≤ x.length + 1 := by
  have f := lnS_facts x [[]] [] (by simp) rfl (by simp)
  simp only [List.nil_append] at f
  unfold lnF
  split
  · rw [List.length_dropLast]; omega
  · exact f.2.2
/-- a row of the text, whole or in parts -/
def lotLine (plen width : Int) (line : List Nat) : List (List Nat) :=
  if 0 < width ∧ width < ((escQ line).length : Int) + plen then partsF plen width (runsF bl4 line) else [line]
def lotF (plen width : Int) (x : List Nat) : List (List Nat) := (lnF x).flatMap (lotLine plen width)
theorem lotLine_facts {plen width : Int} (hm : 0 ≤ plen) (line : List Nat) : (lotLine plen width line).flatten = line ∧ (lotLine plen width line).length ≤ line.length + 2 := by
  unfold lotLine
  split
  · have h := partsS_ok (width := width) hm (runsF bl4 line)
    have hl := runsF_length bl4 line
    have hf := runsF_flatten bl4 line
    exact ⟨by rw [partsF, h.2.1, hf], by have := h.2.2; rw [partsF]; omega⟩
  · exact ⟨by simp, by simp⟩
theorem lotPre_facts {plen width : Int} (hm : 0 ≤ plen) : ∀ pre : List (List Nat), (pre.flatMap (lotLine plen width)).flatten = pre.flatten ∧ (pre.flatMap (lotLine plen width)).length ≤ pre.flatten.length + 2 * pre.length
  | [] => ⟨rfl, Nat.le_refl _⟩
  | l :: r => by
    have ih := lotPre_facts hm r (plen := plen) (width := width)
    have h := lotLine_facts (width := width) hm l
    refine ⟨?_, ?_⟩
    · rw [List.flatMap_cons, List.flatten_append, List.flatten_cons, ih.1, h.1]
    · rw [List.flatMap_cons, List.length_append, List.flatten_cons, List.length_append, List.length_cons]
      omega
theorem partsF_facts {plen width : Int} (hm : 0 ≤ plen) (line : List Nat) : (partsF plen width (runsF bl4 line)).flatten = line ∧ (partsF plen width (runsF bl4 line)).length ≤ line.length + 2 := by
  have h := partsS_ok (width := width) hm (runsF bl4 line)
  have hl := runsF_length bl4 line
  have hf := runsF_flatten bl4 line
  exact ⟨by rw [partsF, h.2.1, hf], by have := h.2.2; rw [partsF]; omega⟩
theorem lot_yes {plen width : Int} {pre : List (List Nat)} {ls : List (List Nat)} {k : List Nat} (e : ls = pre.flatMap (lotLine plen width)) (h1 : 0 < width) (h2 : width < ((escQ k).length : Int) + plen) :
    ls ++ partsF plen width (runsF bl4 k) = (pre ++ [k]).flatMap (lotLine plen width) := by
  rw [List.flatMap_append, ← e]
  simp [lotLine, h1, h2]
theorem lot_no {plen width : Int} {pre : List (List Nat)} {ls : List (List Nat)} {k : List Nat} (e : ls = pre.flatMap (lotLine plen width)) (h : ¬ (0 < width ∧ width < ((escQ k).length : Int) + plen)) :
    ls ++ [k] = (pre ++ [k]).flatMap (lotLine plen width) := by
  rw [List.flatMap_append, ← e]
  simp [lotLine, h]
theorem hne3 {D D' I : Addr} {o o' : Obj} {l : List (Addr × Obj)} (h : ∀ p ∈ (D, o) :: l, p.1 ≠ I) (hlt : I < D') : ∀ p ∈ (D', o') :: l, p.1 ≠ I := fun p hp => by
  rcases List.mem_cons.mp hp with rfl | hp
  · exact Nat.ne_of_gt hlt
  · exact h p (List.Mem.tail _ hp)
theorem ne_len {ls : List (List Nat)} (h : 1 ≤ ls.length) : ls ≠ [] := fun e => by rw [e] at h; exact absurd h (by decide)
end
section
/-- a turn of a list comprehension whose elements are texts -/
def TurnC (h₀ : Heap) (L : Addr) (m : Str → Option Value) (s : Shared) (r : List Nat) (base : List (Addr × Obj)) (y : Value) (s₂ : Shared) : Prop :=
  ∃ h' tk' t' all, y = .str (S r) t' ∧ s₂ = { s with heap := h', toks := tk' } ∧ Fr h₀ L h' m ∧ News h₀ L h' all ∧ ∀ p ∈ base, p ∈ all
theorem turnC_end {h₀ : Heap} {L : Addr} {m : Str → Option Value} {s : Shared} {r r' : List Nat} {base : List (Addr × Obj)} {h' : Heap} {tk' : Nat} {t' : Tok} {all : List (Addr × Obj)}
    (F : Fr h₀ L h' m) (N : News h₀ L h' all) (e : r' = r) (sub : ∀ p ∈ base, p ∈ all) : TurnC h₀ L m s r base (.str (S r') t') { s with heap := h', toks := tk' } := by
  subst e
  exact ⟨h', tk', t', all, rfl, rfl, F, N, sub⟩
section
variable {prog : Program} {w : World} {A : Around} {h₀ : Heap} {L : Addr} {m : Str → Option Value} {env : Env} {elt : Expr} {x : Str} {scope : Scope} {cl : List (Str × Addr)} {s : Shared} {ax : Addr} {n : Nat} {news : List (Addr × Obj)} {Q : Value → Shared → Prop}
theorem comp_S {vs : List Value} {ls : List (List Nat)} (g : List Nat → List Nat) (hh : A.handled = none) (F : Fr h₀ L s.heap m) (N : News h₀ L s.heap news) (hm : (ax, listOf vs.toArray n) ∈ news) (T : TX vs ls) (hz : ls.length ≤ 1000000)
    (turn : ∀ k t I oI C oC D m₂ ys h tk (E' : Value → Shared → Prop), k ∈ ls → LCg.NsObj oC m₂ → m₂ x = some (.str (S k) t) → Fr h₀ L h m → News h₀ L h ((I, oI) :: (C, oC) :: (D, LCg.lst ys) :: news) →
      wpAny (model prog w) A (eval elt (compEnvC scope cl C env)) (TurnC h₀ L m s (g k) ((I, oI) :: (C, oC) :: (D, LCg.lst ys) :: news)) E' { s with heap := h, toks := tk })
    (fin : ∀ D us k h tk, TX us (ls.map g) → Fr h₀ L h m → News h₀ L h ((D, listOf us.toArray k) :: news) → Q (.ref D) { s with heap := h, toks := tk }) :
    LCg.CompSrc prog w A h₀ L m env elt x scope cl (fun s₂ => LCg.FinE h₀ L m s₂ Q) (.ref ax) s := by
  have hl := T.length
  refine LCg.CompSrc.ledger (its := vs.toArray) (k := n) hh F N hm (by rw [sizeLine_eq, List.size_toArray]; omega) fun gh => ?_
  have hsrc : LCg.SrcAt h₀ ax vs.toArray news := Or.inr ⟨_, hm, rfl, _, rfl⟩
  have key : ∀ (j i : Nat) (ys : List Value), i + j = vs.toArray.size → TX ys ((ls.take i).map g) →
      LCg.CompRest prog w A h₀ L m env elt x scope cl { s with heap := gh } (LCg.SrcAt h₀ ax vs.toArray) (fun i v => vs.toArray[i]? = some v) (LCg.FinE h₀ L m { s with heap := gh } Q) j i ys news := by
    intro j
    induction j with
    | zero =>
      intro i ys hi hy
      have e : i = ls.length := by rw [List.size_toArray] at hi; omega
      subst e
      rw [List.take_length] at hy
      refine LCg.CompRest.zero ?_
      intro D h tk F' N' _
      exact fin D ys _ h tk hy F' N'
    | succ j ih =>
      intro i ys hi hy
      refine LCg.CompRest.succ ?_
      intro v I oI C oC D m₂ h tk E' hv hC hx F' N' off ne
      obtain ⟨k, t, rfl, hk⟩ := T.item (j := i) (v := v) (by simpa using hv)
      refine wpAny_mono (turn k t I oI C oC D m₂ ys h tk E' (List.mem_of_getElem? hk) hC hx F' N') (fun y s₂ hq => ?_) fun _ _ e => e
      obtain ⟨h', tk', t', all, rfl, rfl, F2, N2, sub⟩ := hq
      refine ⟨h', tk', news, rfl, F2, fun p hp => N2 p (sub p hp), off, hsrc, ?_⟩
      refine ih (i + 1) _ (by omega) ?_
      rw [List.take_add_one, hk]
      have := hy.app (TX.one (g k) t')
      simpa using this
  exact key _ 0 [] (by omega) (by simpa using TX.nil)
end
theorem sum_len {g : List Nat → List Nat} {c : Nat} (hg : ∀ l, (g l).length ≤ c + 2 * l.length) : ∀ ls : List (List Nat), ((ls.map g).map List.length).sum ≤ c * ls.length + 2 * ls.flatten.length
  | [] => by simp
  | l :: r => by
    have ih := sum_len hg r
    have h := hg l
    simp only [List.map_cons, List.sum_cons, List.length_cons, List.flatten_cons, List.length_append, Nat.mul_add, Nat.mul_one]
    omega
theorem sum_len2 {g : List Nat → List Nat} {c k q : Nat} (hg : ∀ l, (g l).length ≤ c + 2 * l.length) {ls : List (List Nat)} (h1 : ls.length ≤ k) (h2 : ls.flatten.length ≤ q) : ((ls.map g).map List.length).sum + (ls.map g).length ≤ (c + 1) * k + 2 * q := by
  have := sum_len hg ls
  have h3 : c * ls.length ≤ c * k := Nat.mul_le_mul_left c h1
  rw [List.length_map, Nat.add_mul, Nat.one_mul]
  omega
theorem row_len {q : List Nat} {n : Nat} (h : q.length ≤ n) (l : List Nat) : (q ++ escQ l).length ≤ (n + 2) + 2 * l.length := by
  have h1 := escQ_len l
  have h2 := escL_len l
  rw [List.length_append]; omega
theorem flat_len (ls : List (List Nat)) : ls.flatten.length = (ls.map List.length).sum := by rw [List.length_flatten]
theorem rows_sum {q : List Nat} {n k r : Nat} {ls : List (List Nat)} (h : q.length ≤ n) (h1 : ls.length ≤ k) (h2 : ls.flatten.length ≤ r) :
    ((ls.map fun l => q ++ escQ l).map List.length).sum + (ls.map fun l => q ++ escQ l).length ≤ (n + 3) * k + 2 * r := sum_len2 (g := fun l => q ++ escQ l) (row_len h) h1 h2
theorem joinL_len (sep : List Nat) : ∀ ls : List (List Nat), (joinL sep ls).length ≤ (ls.map List.length).sum + sep.length * ls.length
  | [] => by simp [joinL]
  | [x] => by simp [joinL]
  | x :: y :: r => by
    have ih := joinL_len sep (y :: r)
    simp only [joinL, List.map_cons, List.sum_cons, List.length_cons, List.length_append, Nat.mul_add, Nat.mul_one] at ih ⊢
    omega
/-- the last row's end -/
def lotFix (f : List (List Nat)) : List (List Nat) := if lastL f = [] then f.dropLast.dropLast ++ [lastL f.dropLast ++ [10]] else f
def rowsF (plen width : Int) (p x : List Nat) : List Nat :=
  if (lotF plen width x).length < 2 then escQ x else 34 :: 34 :: ((lotFix (lotF plen width x)).map fun l => 10 :: (p ++ escQ l)).flatten
theorem drop2_flat {f : List (List Nat)} (h : 2 ≤ f.length) : (f.dropLast.dropLast ++ [lastL f.dropLast]) = f.dropLast := by
  have hne : f.dropLast ≠ [] := fun e => by have := congrArg List.length e; rw [List.length_dropLast] at this; simp at this; omega
  exact (lastL_eq hne).symm
theorem dropLast_flat (f : List (List Nat)) : f.dropLast.flatten.length ≤ f.flatten.length := by
  by_cases h : f = []
  · subst h; simp
  · have e := lastL_eq h
    have := congrArg (fun z : List (List Nat) => z.flatten.length) e
    simp only [List.flatten_append, List.length_append] at this
    omega
theorem lotFix_facts {f : List (List Nat)} (h : 2 ≤ f.length) : (lotFix f).length ≤ f.length ∧ (lotFix f).flatten.length ≤ f.flatten.length + 1 := by
  unfold lotFix
  split
  · have e := drop2_flat h
    have e1 := congrArg List.length e
    have e2 := congrArg (fun z : List (List Nat) => z.flatten.length) e
    have e3 := dropLast_flat f
    simp only [List.flatten_append, List.length_append, List.length_dropLast, List.length_singleton, List.flatten_cons, List.flatten_nil, List.append_nil] at e1 e2 ⊢
    constructor
    · omega
    · omega
  · exact ⟨Nat.le_refl _, Nat.le_succ _⟩
theorem fix_yes {f : List (List Nat)} (h : lastL f = []) : lotFix f = f.dropLast.dropLast ++ [lastL f.dropLast ++ [10]] := by rw [lotFix, if_pos h]
theorem fix_no {f : List (List Nat)} (h : lastL f ≠ []) : lotFix f = f := by rw [lotFix, if_neg h]
theorem last2_len {f : List (List Nat)} (h : 2 ≤ f.length) : (lastL f.dropLast).length ≤ f.flatten.length := by
  have hne : f.dropLast ≠ [] := fun e => by have := congrArg List.length e; rw [List.length_dropLast] at this; simp at this; omega
  exact Nat.le_trans (lastL_len hne) (dropLast_flat f)
theorem rows_few {plen width : Int} {p x : List Nat} (h : (lotF plen width x).length < 2) : rowsF plen width p x = escQ x := by rw [rowsF, if_pos h]
theorem rows_many {plen width : Int} {p x : List Nat} {ks : List (List Nat)} (h : ¬ (lotF plen width x).length < 2) (hk : ks = lotFix (lotF plen width x)) :
    [34, 34] ++ joinL [] (ks.map fun l => ([10] ++ p) ++ escQ l) = rowsF plen width p x := by
  rw [rowsF, if_neg h, joinL_nil, hk]; rfl
/-- a row read back -/
def unlQ (l : List Nat) : List Nat := unl ((l.drop 1).dropLast)
def denF (x : List Nat) : List Nat := if 10 ∈ x then ((if x.take 2 = [34, 34] then (LN x).drop 1 else LN x).map unlQ).flatten else unlQ x
theorem unlQ_len (l : List Nat) : (unlQ l).length ≤ 0 + 2 * l.length := by
  have h := unl_len ((l.drop 1).dropLast)
  rw [List.length_dropLast, List.length_drop] at h
  unfold unlQ; omega
theorem flat_drop (ls : List (List Nat)) : (ls.drop 1).flatten.length ≤ ls.flatten.length := by
  cases ls with
  | nil => simp
  | cons a r => simp
theorem den_no {x : List Nat} (h : 10 ∉ x) : unlQ x = denF x := by rw [denF, if_neg h]
theorem den_a {x : List Nat} (h : 10 ∈ x) (h2 : (x.take [34, 34].length == [34, 34]) = true) : joinL [] (((LN x).drop 1).map unlQ) = denF x := by
  rw [denF, if_pos h, joinL_nil, if_pos (by simpa using h2)]
theorem den_b {x : List Nat} (h : 10 ∈ x) (h2 : (x.take [34, 34].length == [34, 34]) = false) : joinL [] ((LN x).map unlQ) = denF x := by
  rw [denF, if_pos h, joinL_nil, if_neg (by simpa using h2)]
end
section
def Closed (more width : Int) (pre rs : List (List Nat)) : Prop := ∀ r t, rs = r :: t → width ≤ (partsS more width pre).2 + (((escQ r).length : Int) - 2 + more)
def Inn (more width : Int) (pre mid : List (List Nat)) (size : Int) : Prop :=
  (mid = [] ∧ size = 2) ∨ (mid ≠ [] ∧ size < width ∧ partsS more width (pre ++ mid) = ((partsS more width pre).1 ++ [mid.flatten], size))
theorem closed_nil {more width : Int} {pre : List (List Nat)} : Closed more width pre [] := fun _ _ e => nomatch e
theorem closed_init {more width : Int} (hm : 0 ≤ more) (rs : List (List Nat)) : Closed more width [] rs := fun r _ _ => by
  have := escQ_ge r
  show width ≤ width + _
  omega
theorem inn_go {more width size : Int} {pre mid t : List (List Nat)} {r : List Nat} (h : Inn more width pre mid size) (hc : Closed more width pre (mid ++ r :: t)) (hlt : size + (((escQ r).length : Int) - 2 + more) < width) :
    Inn more width pre (mid ++ [r]) (size + (((escQ r).length : Int) - 2 + more)) := by
  rcases h with ⟨rfl, rfl⟩ | ⟨h1, h2, h3⟩
  · have := hc r t rfl
    refine .inr ⟨by simp, hlt, ?_⟩
    rw [List.nil_append, partsS_snoc, partStep, if_neg (by omega), if_pos hlt]
    simp
  · refine .inr ⟨by simp, hlt, ?_⟩
    rw [← List.append_assoc, partsS_snoc, h3, partStep, if_pos hlt]
    simp only [List.dropLast_concat, lastL_app, List.flatten_append, List.flatten_cons, List.flatten_nil, List.append_nil]
theorem inn_end {more width size : Int} {pre mid : List (List Nat)} (h : Inn more width pre mid size) (hne : mid ≠ []) : (partsS more width pre).1 ++ [joinL [] mid] = (partsS more width (pre ++ mid)).1 := by
  rcases h with ⟨rfl, rfl⟩ | ⟨h1, h2, h3⟩
  · exact absurd rfl hne
  · rw [h3, joinL_nil]
theorem inn_stop {more width size : Int} {pre mid t : List (List Nat)} {r : List Nat} (h : Inn more width pre mid size) (hne : mid ≠ []) (hge : ¬ size + (((escQ r).length : Int) - 2 + more) < width) : Closed more width (pre ++ mid) (r :: t) := by
  rcases h with ⟨rfl, rfl⟩ | ⟨h1, h2, h3⟩
  · exact absurd rfl hne
  · intro r' t' e
    obtain ⟨rfl, rfl⟩ := List.cons.inj e
    rw [h3]; exact Int.not_lt.mp hge
theorem inn_single {more width size : Int} {pre t : List (List Nat)} {r : List Nat} (hm : 0 ≤ more) (h : Inn more width pre [] size) (hc : Closed more width pre (r :: t)) (hge : ¬ size + (((escQ r).length : Int) - 2 + more) < width) :
    (partsS more width pre).1 ++ [joinL [] [r]] = (partsS more width (pre ++ [r])).1 ∧ Closed more width (pre ++ [r]) t := by
  rcases h with ⟨_, rfl⟩ | ⟨h1, _⟩
  · have := hc r t rfl
    have e : partsS more width (pre ++ [r]) = ((partsS more width pre).1 ++ [r], width) := by
      rw [partsS_snoc, partStep, if_neg (by omega), if_neg hge]
    rw [e]
    refine ⟨by simp [joinL_nil], fun r' t' _ => ?_⟩
    have := escQ_ge r'
    rw [e]
    show width ≤ width + _
    omega
  · exact absurd rfl h1
section
variable {prog : Program} {w : World} {A : Around} {E : Value → Shared → Prop} {s : Shared} {x y : List Nat} {p ls ks : List (List Nat)} {vs ws : List Value} {t u v : Tok} {h₀ : Heap} {L D D2 : Addr} {n n2 : Nat} {m : Str → Option Value} {news news' : List (Addr × Obj)}
theorem tl_popA {Q : Value → Shared → Prop} (F : Fr h₀ L s.heap m) (N : News h₀ L s.heap news) (T : TX vs (p ++ [y])) (U : Upd D (listOf vs.toArray n) (listOf vs.dropLast.toArray (n + 1)) news news') (hz : (p ++ [y]).length ≤ 1000000)
    (h : ∀ h' t, Fr h₀ L h' m → News h₀ L h' news' → TX vs.dropLast p → Q (.str (S y) t) { s with heap := h' }) :
    wpAny (model prog w) A (call (.builtin "list.pop") [.ref D]) Q E s := by
  refine tl_pop F N T (by simp) U hz fun h' t F' N' T' => ?_
  rw [lastL_app]
  rw [List.dropLast_concat] at T'
  exact h h' t F' N' T'
theorem tl_truthy0 {Q : Bool → Shared → Prop} (N : News h₀ L s.heap news) (hm : (D, listOf vs.toArray n) ∈ news) (T : TX vs []) (h : ∀ k, Q false { s with toks := k }) :
    wpAny (model prog w) A (truthy (.ref D)) Q E s := tl_truthy N hm T (by simp) fun k => h k
theorem tl_truthyN {Q : Bool → Shared → Prop} (N : News h₀ L s.heap news) (hm : (D, listOf vs.toArray n) ∈ news) (T : TX vs ls) (hne : ls ≠ []) (hz : ls.length ≤ 1000000) (h : ∀ k, Q true { s with toks := k }) :
    wpAny (model prog w) A (truthy (.ref D)) Q E s := tl_truthy N hm T hz fun k => by
  cases ls with
  | nil => exact absurd rfl hne
  | cons a r => exact h k
end
theorem joinL_rows {sep : List Nat} (g : List Nat → List Nat) : ∀ (f : List (List Nat)), f ≠ [] → sep ++ joinL sep (f.map g) = (f.map fun l => sep ++ g l).flatten
  | [], h => absurd rfl h
  | [a], _ => by simp [joinL]
  | a :: b :: r, _ => by
    have ih := joinL_rows (sep := sep) g (b :: r) (by simp)
    simp only [List.map_cons, joinL, List.flatten_cons] at ih ⊢
    rw [← ih]; simp
theorem lotFix_ne {f : List (List Nat)} (h : 2 ≤ f.length) : lotFix f ≠ [] := by
  unfold lotFix
  split
  · simp
  · exact fun e => by rw [e] at h; exact absurd h (by decide)
theorem norm_many {plen width : Int} {p x : List Nat} (h : ¬ (lotF plen width x).length ≤ 1) :
    [34, 34, 10] ++ joinL [10] ((lotFix (lotF plen width x)).map fun l => p ++ escQ l) = rowsF plen width p x := by
  rw [rowsF, if_neg (by omega)]
  have := joinL_rows (sep := [10]) (fun l => p ++ escQ l) (lotFix (lotF plen width x)) (lotFix_ne (by omega))
  show 34 :: 34 :: ([10] ++ joinL [10] _) = _
  rw [this]; rfl
theorem lot_wide {plen width : Int} {x : List Nat} (h : ¬ 0 < width) : lotF plen width x = lnF x := by
  unfold lotF
  have e : (lotLine plen width) = fun l => [l] := funext fun l => by rw [lotLine, if_neg (fun q => h q.1)]
  rw [e]; simp
theorem ofS_inj (a b : String) : (Str.ofString a = Str.ofString b) = (a = b) := by
  refine propext ⟨fun h => ?_, fun h => by rw [h]⟩
  rw [Str.ofString_eq_toList, Str.ofString_eq_toList] at h
  have h2 : a.toList.map Char.toNat = b.toList.map Char.toNat := by
    have := congrArg (fun z : Str => z.cps.toList) h
    simpa using this
  have h3 : a.toList = b.toList := (List.map_inj_right (fun x y e => Char.ext (UInt32.toNat_inj.mp e))).mp h2
  exact String.ext h3
theorem sub_refl {r : List (Addr × Obj)} : ∀ p ∈ r, p ∈ r := fun _ h => h
theorem truthy_S {prog : Program} {w : World} {A : Around} {E : Value → Shared → Prop} {s : Shared} {a : List Nat} {t : Tok} {Q : Bool → Shared → Prop} (hz : a.length ≤ 16777216) (h : ∀ k, Q (a != []) { s with toks := k }) : wpAny (model prog w) A (truthy (.str (S a) t)) Q E s :=
  P.truthy_str (by rw [S_len]; omega) (by
    have e : (((S a).length : Int) != 0) = (a != []) := by
      rw [S_len]
      cases a with
      | nil => rfl
      | cons c r =>
        have h1 : (((c :: r).length : Int) != 0) = true := by rw [bne_iff_ne]; simp; omega
        rw [h1]; rfl
    rw [e]; exact h _)
theorem lastL_le {ls : List (List Nat)} {n : Nat} (h : ls.flatten.length ≤ n) : (lastL ls).length ≤ n := by
  by_cases e : ls = []
  · subst e; exact Nat.zero_le _
  · exact Nat.le_trans (lastL_len e) h
theorem list_up {h₀ g : Heap} {L sa : Addr} {m : Str → Option Value} {its : Array Value} (hL : h₀.IsList sa its) (F : Fr h₀ L g m) : g.IsList sa its := let ⟨o, e, r⟩ := hL; ⟨o, F.keep _ _ e, r⟩
end
section
def PCS : List (List Nat) := [[97], [98, 99, 32, 100, 101, 102], [32], [34], [92], [10], [9], [119, 111, 114, 100, 115, 44, 32, 119, 111, 114, 100, 115, 32, 97, 110, 100, 32, 109, 111, 114, 101], [110], [13], [32, 32], [92, 110], [119, 111, 114, 100]]
def okb (c : Nat) : Bool := c == 9 || c == 10 || c == 13 || (Nat.ble 32 c && Nat.ble c 126)
def OkT (n : Nat) (l : List Nat) : Prop := (∀ c ∈ l, okb c = true) ∧ l.length ≤ 21 * n ∧ (escL (l.filter bl4)).length ≤ 3 * n
theorem pcs_ok : ∀ y ∈ PCS, OkT 1 y := by
  intro y hy
  have h : PCS.all (fun y => y.all okb && Nat.ble y.length 21 && Nat.ble (escL (y.filter bl4)).length 3) = true := by decide +kernel
  have := List.all_eq_true.mp h y hy
  simp only [Bool.and_eq_true, Nat.ble_eq, List.all_eq_true] at this
  exact ⟨this.1.1, this.1.2, this.2⟩
theorem okT_up {n k : Nat} {l : List Nat} (h : OkT n l) (hk : n ≤ k) : OkT k l := ⟨h.1, by have := h.2.1; omega, by have := h.2.2; omega⟩
theorem okT_add {n : Nat} {l y : List Nat} (h : OkT n l) (hy : y ∈ PCS) : OkT (n + 1) (l ++ y) := by
  have k := pcs_ok y hy
  refine ⟨fun c hc => ?_, ?_, ?_⟩
  · rcases List.mem_append.mp hc with hc | hc
    · exact h.1 c hc
    · exact k.1 c hc
  · have := h.2.1; have := k.2.1; rw [List.length_append]; omega
  · have := h.2.2; have := k.2.2; rw [List.filter_append, escL_app, List.length_append]; omega
theorem pick {g h : Heap} {L Dp D2 : Addr} {o2 : Obj} {arr : Array Value} {news : List (Addr × Obj)} {ls : List (List Nat)} (N : News g L h ((D2, o2) :: (Dp, listOf arr 0) :: news)) (T : TX arr.toList ls) :
    ∃ us : List Value, TX us ls ∧ News g L h ((Dp, listOf us.toArray 0) :: news) :=
  ⟨arr.toList, T, fun p hp => by rw [Array.toArray_toList] at hp; exact N p (List.Mem.tail _ hp)⟩
section
variable {prog : Program} {w : World} {A : Around} {E : Value → Shared → Prop} {s : Shared} {ls : List (List Nat)} {vs : List Value} {u : Tok} {h₀ : Heap} {L D : Addr} {n : Nat} {news : List (Addr × Obj)}
theorem tl_getany {j : Int} {Q : Value → Shared → Prop} {value slice : PySem.Expr} (N : News h₀ L s.heap news) (hm : (D, listOf vs.toArray n) ∈ news) (T : TX vs ls) (h0 : 0 ≤ j) (h1 : j < (ls.length : Int)) (hz : ls.length ≤ 1000000) (h : ∀ y t, y ∈ ls → Q (.str (S y) t) s)
    (hs : subscripted slice false (.ref D) (.int j u) = operate [.ref D, .int j u] (getItem (.ref D) (.int j u))) :
    wpAny (model prog w) A (subscriptTail value slice (.ref D) (.int j u)) Q E s := by
  have hl := T.length
  obtain ⟨y, hy⟩ : ∃ y, ls[j.toNat]? = some y := ⟨_, List.getElem?_eq_getElem (by omega)⟩
  obtain ⟨t, ht⟩ := T.at hy
  have hL := PySem.IsL.isList (n := n) (N _ hm).1
  refine PyProof.Rows.tail_any hL.typeIs slot_list_getitem.lookup (wpAny_getItem_list hL h0 (by omega) (by simpa using ht) (h y t (List.mem_of_getElem? hy))) hs
theorem tl_get13 {r : Int} {Q : Value → Shared → Prop} {value slice : PySem.Expr} (N : News h₀ L s.heap news) (hm : (D, listOf vs.toArray n) ∈ news) (T : TX vs PCS) (h : ∀ y t, y ∈ PCS → Q (.str (S y) t) s)
    (hs : subscripted slice false (.ref D) (.int (r.fmod 13) u) = operate [.ref D, .int (r.fmod 13) u] (getItem (.ref D) (.int (r.fmod 13) u))) :
    wpAny (model prog w) A (subscriptTail value slice (.ref D) (.int (r.fmod 13) u)) Q E s :=
  tl_getany N hm T (Int.fmod_nonneg_of_pos _ (by decide)) (Int.fmod_lt_of_pos _ (by decide)) (by decide) h hs
theorem tl_len13 {Q : Value → Shared → Prop} (N : News h₀ L s.heap news) (hm : (D, listOf vs.toArray n) ∈ news) (T : TX vs PCS) (h : ∀ t k, Q (.int 13 t) { s with toks := k }) :
    wpAny (model prog w) A (call (.builtin "len") [.ref D]) Q E s := tl_len N hm T (by decide) h
theorem any_toks {P : Prop} {h : Heap} {g : Array GenState} {d : Drawn} {o : OsState} {k : Nat} {M : Model} {β : Type} {X : Sem β} {Q : β → Shared → Prop} (H : ∀ n, wpAny M A X Q E { heap := h, gens := g, drawn := d, toks := n, os := o }) :
    wpAny M A X Q E { heap := h, gens := g, drawn := d, toks := k, os := o } := H k
theorem pcs_len {y : List Nat} (h : y ∈ PCS) : y.length ≤ 21 := by have := (pcs_ok y h).2.1; omega
end
end
section
open PySem.StrLaws PySem.Builtin PySem.Builtin.Str
/-- the lines of a text, with their ends; its breaks are 10, 13 and 13 10 -/
def lsR (a : List Nat) : List Nat → List (List Nat × List Nat)
  | [] => if a = [] then [] else [(a, [])]
  | [c] => if c = 10 ∨ c = 13 then [(a, [c])] else [(a ++ [c], [])]
  | c :: d :: r => if c = 13 ∧ d = 10 then (a, [13, 10]) :: lsR [] r else if c = 10 ∨ c = 13 then (a, [c]) :: lsR [] (d :: r) else lsR (a ++ [c]) (d :: r)
theorem lsR_skip {a : List Nat} {c : Nat} {r : List Nat} (h : ¬ (c = 10 ∨ c = 13)) : lsR a (c :: r) = lsR (a ++ [c]) r := by
  cases r with
  | nil => simp only [lsR]; rw [if_neg h, if_neg (by simp)]
  | cons d r => rw [lsR, if_neg (fun q => h (.inr q.1)), if_neg h]
theorem lsR_two {a r : List Nat} : lsR a (13 :: 10 :: r) = (a, [13, 10]) :: lsR [] r := by rw [lsR, if_pos ⟨rfl, rfl⟩]
theorem lsR_brk {a : List Nat} {c : Nat} {r : List Nat} (h : c = 10 ∨ c = 13) (h2 : ¬ (c = 13 ∧ r.head? = some 10)) : lsR a (c :: r) = (a, [c]) :: lsR [] r := by
  cases r with
  | nil => simp only [lsR]; rw [if_pos h]; rfl
  | cons d r => rw [lsR, if_neg (fun q => h2 ⟨q.1, by simp [q.2]⟩), if_pos h]
theorem brk_ok {c : Nat} (h : okb c = true) : Unicode.isLineBreak c = (c == 10 || c == 13) := by
  have hc : c < 127 := by
    unfold okb at h
    simp only [Bool.or_eq_true, beq_iff_eq, Bool.and_eq_true, Nat.ble_eq] at h
    omega
  have key : ∀ c < 127, okb c = true → Unicode.isLineBreak c = (c == 10 || c == 13) := by decide +kernel
  exact key c hc h
theorem space_ok {c : Nat} (h : okb c = true) : Unicode.isSpace c = bl4 c := by
  have hc : c < 127 := by
    unfold okb at h
    simp only [Bool.or_eq_true, beq_iff_eq, Bool.and_eq_true, Nat.ble_eq] at h
    omega
  have key : ∀ c < 127, okb c = true → Unicode.isSpace c = bl4 c := by decide +kernel
  exact key c hc h
theorem runs_congr {p q : Nat → Bool} : ∀ (l : List Nat) (st : List (List Nat) × Bool), (∀ c ∈ l, p c = q c) → l.foldl (runStep p) st = l.foldl (runStep q) st
  | [], _, _ => rfl
  | c :: r, st, h => by
    rw [List.foldl_cons, List.foldl_cons]
    have e : runStep p st c = runStep q st c := by unfold runStep; rw [h c List.mem_cons_self]
    rw [e]
    exact runs_congr r _ fun d hd => h d (List.mem_cons_of_mem _ hd)
theorem runsF_congr {p q : Nat → Bool} {l : List Nat} (h : ∀ c ∈ l, p c = q c) : runsF p l = runsF q l := by
  unfold runsF runsS
  rw [runs_congr l _ h]
theorem runs_ok {l : List Nat} (h : ∀ c ∈ l, okb c = true) : ∀ k ∈ lnF l, runsF Unicode.isSpace k = runsF bl4 k := fun k hk => runsF_congr fun c hc =>
  space_ok (h c (by rw [← lnF_flatten l]; exact List.mem_flatten.mpr ⟨k, hk, hc⟩))
/-- what a span cuts -/
def cut3 (l : List Nat) (p : Nat × Nat × Nat) : List Nat × List Nat := ((l.drop p.1).take (p.2.1 - p.1), (l.drop p.2.1).take (p.2.2 - p.2.1))
theorem drop_at {l : List Nat} {c : Nat} {r : List Nat} {i : Nat} (h : l.drop i = c :: r) : l[i]? = some c ∧ l.drop (i + 1) = r ∧ i < l.length := by
  have h1 : l[i]? = some c := by
    have := List.getElem?_drop (xs := l) (i := i) (j := 0)
    rw [h] at this; simpa using this.symm
  refine ⟨h1, ?_, ?_⟩
  · rw [← List.drop_drop, h]; rfl
  · exact (List.getElem?_eq_some_iff.mp h1).1
theorem ls_go (l : List Nat) (hok : ∀ c ∈ l, okb c = true) : ∀ (r : List Nat) (cur : Nat) (st : LsSt), l.drop cur = r → cur ≤ l.length →
    (st.2 ≤ cur → (lsEnd (S l) (Id.run (forIn (m := Id) (List.range' cur r.length) st (lsBody (S l))))).map (cut3 l) = st.1.toList.map (cut3 l) ++ lsR ((l.take cur).drop st.2) r) ∧
    (st.2 = cur + 1 → cur < l.length → (lsEnd (S l) (Id.run (forIn (m := Id) (List.range' cur r.length) st (lsBody (S l))))).map (cut3 l) = st.1.toList.map (cut3 l) ++ lsR [] (r.drop 1))
  | [], cur, (lines, start), e, hcur => by
    have hlen : l.length ≤ cur := by
      have := congrArg List.length e
      rw [List.length_drop] at this; simp at this; omega
    refine ⟨fun hs => ?_, fun _ h => absurd h (by omega)⟩
    have hc : cur = l.length := by omega
    subst hc
    show (lsEnd (S l) (lines, start)).map (cut3 l) = _
    unfold lsEnd
    simp only [S_len]
    by_cases h : start < l.length
    · rw [if_pos h, Array.toList_push, List.map_append]
      congr 1
      rw [lsR, if_neg]
      · simp only [cut3, List.map_cons, List.map_nil, List.take_length, Nat.sub_self, List.take_zero]
        rw [List.take_of_length_le (by rw [List.length_drop]; exact Nat.le_refl _)]
      · intro q
        have := congrArg List.length q
        simp at this; omega
    · rw [if_neg h]
      have : (l.take l.length).drop start = [] := by
        rw [List.take_length]; exact List.drop_eq_nil_iff.mpr (by omega)
      rw [this, lsR, if_pos rfl]; simp
  | c :: r, cur, (lines, start), e, hcur => by
    obtain ⟨hc, hr, hlt⟩ := drop_at e
    have ih := ls_go l hok r (cur + 1)
    have hcd : (S l).cps.getD cur 0 = c := by
      show l.toArray.getD cur 0 = c
      simp [hc]
    have hnx : (S l).cps[cur + 1]? = r.head? := by
      show l.toArray[cur + 1]? = _
      rw [List.getElem?_toArray, ← hr]; simp
    have hbr := brk_ok (hok c (List.mem_of_getElem? hc))
    have hstep : ∀ st : LsSt, Id.run (forIn (m := Id) (List.range' cur (c :: r).length) st (lsBody (S l))) =
        (if (decide (st.2 ≤ cur) && (c == 10 || c == 13)) = true then Id.run (forIn (m := Id) (List.range' (cur + 1) r.length) (st.1.push (st.2, cur, lsNext (S l) cur), lsNext (S l) cur) (lsBody (S l)))
          else Id.run (forIn (m := Id) (List.range' (cur + 1) r.length) st (lsBody (S l)))) := by
      intro st
      rw [List.length_cons, List.range'_succ, List.forIn_cons]
      unfold lsBody
      rw [hcd, hbr]
      by_cases hx : (decide (st.snd ≤ cur) && (c == 10 || c == 13)) = true
      · rw [if_pos hx, if_pos hx]; rfl
      · rw [if_neg hx, if_neg hx]; rfl
    refine ⟨fun hs => ?_, fun hs _ => ?_⟩
    · rw [hstep]
      by_cases hb : c = 10 ∨ c = 13
      · have hb' : (decide ((lines, start).2 ≤ cur) && (c == 10 || c == 13)) = true := by
          simp only [Bool.and_eq_true, decide_eq_true_eq, Bool.or_eq_true, beq_iff_eq]; exact ⟨hs, hb⟩
        rw [if_pos hb']
        have hcut : ∀ k, k = cur + 1 ∨ k = cur + 2 → cut3 l (start, cur, k) = ((l.take cur).drop start, (c :: r).take (k - cur)) := by
          intro k hk
          unfold cut3
          rw [e]
          refine Prod.ext ?_ rfl
          show (l.drop start).take (cur - start) = (l.take cur).drop start
          rw [List.drop_take]
        by_cases h2 : c = 13 ∧ r.head? = some 10
        · have hn : lsNext (S l) cur = cur + 2 := by
            unfold lsNext
            rw [hcd, hnx, h2.1, h2.2]; rfl
          obtain ⟨r', rfl⟩ : ∃ r', r = 10 :: r' := by
            cases r with
            | nil => simp at h2
            | cons d r' => exact ⟨r', by simpa using h2.2⟩
          have := (ih (lines.push (start, cur, lsNext (S l) cur), lsNext (S l) cur) hr (by omega)).2 (by rw [hn]) (by have := (drop_at hr).2.2; omega)
          rw [this, h2.1, lsR_two, Array.toList_push, List.map_append, hn, List.map_singleton, hcut _ (.inr rfl), h2.1]
          simp
        · have hn : lsNext (S l) cur = cur + 1 := by
            unfold lsNext
            rw [hcd, hnx, if_neg]
            simpa using fun q => fun q2 => h2 ⟨q, q2⟩
          have := (ih (lines.push (start, cur, lsNext (S l) cur), lsNext (S l) cur) hr (by omega)).1 (by rw [hn]; exact Nat.le_refl _)
          rw [this, lsR_brk hb h2, Array.toList_push, List.map_append, hn, List.map_singleton, hcut _ (.inl rfl)]
          have : (l.take (cur + 1)).drop (cur + 1) = [] := List.drop_eq_nil_iff.mpr (by rw [List.length_take]; omega)
          rw [this]
          simp
      · have hb' : ¬ (decide ((lines, start).2 ≤ cur) && (c == 10 || c == 13)) = true := by
          simp only [Bool.and_eq_true, decide_eq_true_eq, Bool.or_eq_true, beq_iff_eq]; exact fun q => hb q.2
        rw [if_neg hb', lsR_skip hb]
        have hs' : start ≤ cur := hs
        have := (ih (lines, start) hr (by omega)).1 (by show start ≤ cur + 1; omega)
        rw [this]
        have e3 : (l.take (cur + 1)).drop start = (l.take cur).drop start ++ [c] := by
          rw [List.take_add_one, hc, List.drop_append_of_le_length (by rw [List.length_take]; omega)]
          rfl
        rw [e3]
    · rw [hstep]
      have hs' : start = cur + 1 := hs
      have hb' : ¬ (decide ((lines, start).2 ≤ cur) && (c == 10 || c == 13)) = true := by
        simp only [Bool.and_eq_true, decide_eq_true_eq]
        intro q
        have : start ≤ cur := q.1
        omega
      rw [if_neg hb']
      have := (ih (lines, start) hr (by omega)).1 (by show start ≤ cur + 1; omega)
      rw [this, hs']
      have : (l.take (cur + 1)).drop (cur + 1) = [] := List.drop_eq_nil_iff.mpr (by rw [List.length_take]; omega)
      rw [this]; rfl
theorem spans_ok {l : List Nat} (hok : ∀ c ∈ l, okb c = true) : (lineSpans (S l)).map (cut3 l) = lsR [] l := by
  rw [ls_eq, S_len]
  have := (ls_go l hok l 0 (#[], 0) rfl (Nat.zero_le _)).1 (Nat.le_refl _)
  rw [this]; simp
theorem LN_ok {l : List Nat} (hok : ∀ c ∈ l, okb c = true) : LN l = (lsR [] l).map Prod.fst := by
  rw [← spans_ok hok]
  unfold LN lineCuts
  rw [List.map_map, List.map_map]
  exact List.map_congr_left fun p _ => rfl
theorem take_two {l : List Nat} {i j k : Nat} (h1 : i ≤ j) (h2 : j ≤ k) : (l.drop i).take (k - i) = (l.drop i).take (j - i) ++ (l.drop j).take (k - j) := by
  have : k - i = (j - i) + (k - j) := by omega
  rw [this, List.take_add, List.drop_drop]
  have : i + (j - i) = j := by omega
  rw [this]
def LsOrd (st : LsSt) : Prop := ∀ p ∈ st.fst.toList, p.1 ≤ p.2.1 ∧ p.2.1 ≤ p.2.2
theorem ls_ord (x : Str) : ∀ (m cur : Nat) (st : LsSt), LsOrd st → LsOrd (Id.run (forIn (m := Id) (List.range' cur m) st (lsBody x)))
  | 0, _, _, h => h
  | m + 1, cur, (lines, start), h => by
    rw [List.range'_succ, List.forIn_cons]
    have hb := lsNext_bounds x cur
    unfold lsBody
    by_cases hc : (decide (start ≤ cur) && Unicode.isLineBreak (x.cps.getD cur 0)) = true
    · have hle : start ≤ cur := by
        rw [Bool.and_eq_true, decide_eq_true_eq] at hc
        exact hc.1
      simp only [hc, if_true]
      refine ls_ord x m (cur + 1) _ ?_
      intro p hp
      have hp' : p ∈ (lines.push (start, cur, lsNext x cur)).toList := hp
      rw [Array.toList_push, List.mem_append, List.mem_singleton] at hp'
      rcases hp' with hp' | rfl
      · exact h p hp'
      · exact ⟨hle, by show cur ≤ lsNext x cur; omega⟩
    · simp only [hc, if_false, Bool.false_eq_true]
      exact ls_ord x m (cur + 1) _ h
theorem spans_ord (x : Str) : ∀ p ∈ lineSpans x, p.1 ≤ p.2.1 ∧ p.2.1 ≤ p.2.2 := by
  rw [ls_eq]
  have key := ls_ord x x.length 0 ((#[], 0) : LsSt) (fun p hp => by simp at hp)
  generalize Id.run (forIn (m := Id) (List.range' 0 x.length) ((#[], 0) : LsSt) (lsBody x)) = st at key
  obtain ⟨lines, start⟩ := st
  unfold lsEnd
  by_cases hs : start < x.length
  · simp only [hs, if_true]
    intro p hp
    rw [Array.toList_push, List.mem_append, List.mem_singleton] at hp
    rcases hp with hp | rfl
    · exact key p hp
    · exact ⟨Nat.le_of_lt hs, Nat.le_refl _⟩
  · simp only [hs, if_false]
    exact key
theorem LK_ok {l : List Nat} (hok : ∀ c ∈ l, okb c = true) : LK l = (lsR [] l).map fun p => p.1 ++ p.2 := by
  rw [← spans_ok hok]
  unfold LK cutsK
  rw [List.map_map, List.map_map]
  exact List.map_congr_left fun p hp => take_two (spans_ord _ p hp).1 (spans_ord _ p hp).2
/-- the law's rows are these lines -/
def fin (ls : List (List Nat)) : List (List Nat) := if lastL ls = [] then ls.dropLast else ls
theorem lnS_go : ∀ (n : Nat) (r a : List Nat) (p : List (List Nat)), r.length ≤ n → fin (lnS (p ++ [a]) r) = p ++ (lsR a r).map fun q => q.1 ++ q.2 := by
  intro n
  induction n with
  | zero =>
    intro r a p hr
    have : r = [] := List.length_eq_zero_iff.mp (by omega)
    subst this
    unfold fin
    rw [lnS, lastL_app, lsR]
    by_cases h : a = []
    · rw [if_pos h, if_pos h]; simp
    · rw [if_neg h, if_neg h]; simp
  | succ n ih =>
    intro r a p hr
    cases r with
    | nil => exact ih [] a p (Nat.zero_le _)
    | cons c r =>
      rw [List.length_cons] at hr
      rw [lnS]
      by_cases hb : c = 10 ∨ c = 13
      · by_cases h2 : c = 13 ∧ r.head? = some 10
        · obtain ⟨rfl, h2⟩ := h2
          obtain ⟨r', rfl⟩ : ∃ r', r = 10 :: r' := by
            cases r with
            | nil => simp at h2
            | cons d r' => exact ⟨r', by simpa using h2⟩
          rw [List.length_cons] at hr
          have e1 : lnStep (p ++ [a]) 13 (10 :: r') = p ++ [a ++ [13]] := by
            unfold lnStep
            rw [if_neg (by simp)]
            simp [lastL_app]
          have e2 : lnStep (p ++ [a ++ [13]]) 10 r' = (p ++ [a ++ [13, 10]]) ++ [[]] := by
            unfold lnStep
            rw [if_pos (.inl rfl)]
            simp [lastL_app]
          rw [e1, lnS, e2, ih r' [] _ (by omega), lsR_two]
          simp
        · have e1 : lnStep (p ++ [a]) c r = (p ++ [a ++ [c]]) ++ [[]] := by
            unfold lnStep
            rw [if_pos]
            · simp [lastL_app]
            · rcases hb with h | h
              · exact .inl h
              · refine .inr ⟨h, fun q => h2 ⟨h, ?_⟩⟩
                cases r with
                | nil => simp at q
                | cons d r' => simpa using q
          rw [e1, ih r [] _ (by omega), lsR_brk hb h2]
          simp
      · have e1 : lnStep (p ++ [a]) c r = p ++ [a ++ [c]] := by
          unfold lnStep
          rw [if_neg (fun q => hb (q.elim .inl fun z => .inr z.1))]
          simp [lastL_app]
        rw [e1, ih r _ _ (by omega), lsR_skip hb]
theorem lnF_ls (l : List Nat) : lnF l = (lsR [] l).map fun q => q.1 ++ q.2 := by
  have := lnS_go l.length l [] [] (Nat.le_refl _)
  rw [List.nil_append, List.nil_append] at this
  exact this
theorem LK_lnF {l : List Nat} (hok : ∀ c ∈ l, okb c = true) : LK l = lnF l := by rw [LK_ok hok, lnF_ls]
/-- a text of rows -/
theorem lsR_row : ∀ (y a r : List Nat), (∀ c ∈ y, ¬ (c = 10 ∨ c = 13)) → lsR a (y ++ 10 :: r) = (a ++ y, [10]) :: lsR [] r
  | [], a, r, _ => by rw [List.nil_append, List.append_nil]; exact lsR_brk (.inl rfl) (by simp)
  | c :: y, a, r, h => by
    rw [List.cons_append, lsR_skip (h c List.mem_cons_self), lsR_row y _ r fun d hd => h d (List.mem_cons_of_mem _ hd)]
    simp
theorem lsR_last : ∀ (y a : List Nat), (∀ c ∈ y, ¬ (c = 10 ∨ c = 13)) → a ++ y ≠ [] → lsR a y = [(a ++ y, [])]
  | [], a, _, hne => by
    rw [List.append_nil] at hne ⊢
    rw [lsR, if_neg hne]
  | c :: y, a, h, hne => by
    rw [lsR_skip (h c List.mem_cons_self), lsR_last y _ (fun d hd => h d (List.mem_cons_of_mem _ hd)) (by simp)]
    simp
theorem ls_rows : ∀ rows : List (List Nat), (∀ y ∈ rows, y ≠ [] ∧ ∀ c ∈ y, ¬ (c = 10 ∨ c = 13)) → (lsR [] (joinL [10] rows)).map Prod.fst = rows
  | [], _ => by simp [joinL, lsR]
  | [y], h => by
    have hy := h y List.mem_cons_self
    rw [joinL, lsR_last y [] hy.2 (by simpa using hy.1)]; simp
  | y :: z :: r, h => by
    have hy := h y List.mem_cons_self
    have ih := ls_rows (z :: r) fun w hw => h w (List.mem_cons_of_mem _ hw)
    have e : joinL [10] (y :: z :: r) = y ++ 10 :: joinL [10] (z :: r) := by simp [joinL]
    rw [e, lsR_row y [] _ hy.2, List.map_cons, ih]; simp
end
section
theorem unlQ_escQ (y : List Nat) : unlQ (escQ y) = y := by
  unfold unlQ escQ
  simp [unl_esc]
theorem esc1_ok {c d : Nat} (hc : okb c = true) (h : d ∈ esc1 c) : okb d = true ∧ ¬ (d = 10 ∨ d = 13) := by
  have hlt : c < 127 := by
    unfold okb at hc
    simp only [Bool.or_eq_true, beq_iff_eq, Bool.and_eq_true, Nat.ble_eq] at hc
    omega
  have key : ∀ c < 127, okb c = true → ∀ d ∈ esc1 c, okb d = true ∧ ¬ (d = 10 ∨ d = 13) := by decide +kernel
  exact key c hlt hc d h
theorem escQ_ok {y : List Nat} (h : ∀ c ∈ y, okb c = true) : ∀ d ∈ escQ y, okb d = true ∧ ¬ (d = 10 ∨ d = 13) := by
  intro d hd
  unfold escQ escL at hd
  simp only [List.mem_append, List.mem_cons, List.mem_flatMap, List.not_mem_nil, or_false] at hd
  rcases hd with hd | hd
  · subst hd; decide
  · rcases hd with ⟨c, hc, hd⟩ | hd
    · exact esc1_ok (h c hc) hd
    · subst hd; decide
theorem lot_len {l : List Nat} {width : Int} : (lotF 0 width l).flatten = l ∧ (lotF 0 width l).length ≤ l.length + 2 * (l.length + 1) := by
  have h := lotPre_facts (plen := 0) (width := width) (Int.le_refl 0) (lnF l)
  rw [lnF_flatten] at h
  have := lnF_length l
  exact ⟨h.1, by have := h.2; show (lotF 0 width l).length ≤ _; unfold lotF; omega⟩
theorem rowsF_join {width : Int} {l : List Nat} (h : ¬ (lotF 0 width l).length < 2) : rowsF 0 width [] l = joinL [10] ([34, 34] :: (lotFix (lotF 0 width l)).map escQ) := by
  have hne := lotFix_ne (f := lotF 0 width l) (by omega)
  rw [rowsF, if_neg h]
  have := joinL_rows (sep := [10]) escQ _ hne
  have e : (fun l => 10 :: (([] : List Nat) ++ escQ l)) = fun l => [10] ++ escQ l := rfl
  rw [e, ← this]
  generalize lotFix (lotF 0 width l) = f at hne
  cases f with
  | nil => exact absurd rfl hne
  | cons a r => simp [joinL]
theorem rowsF_ge (width : Int) (l : List Nat) : 2 ≤ (rowsF 0 width [] l).length := by
  rw [rowsF]
  split
  · exact escQ_ge l
  · simp
theorem fix_ok {l : List Nat} {width : Int} (hok : ∀ c ∈ l, okb c = true) : ∀ y ∈ lotFix (lotF 0 width l), ∀ c ∈ y, okb c = true := by
  have hf := (lot_len (l := l) (width := width)).1
  have hm : ∀ y ∈ lotF 0 width l, ∀ c ∈ y, okb c = true := fun y hy c hc => hok c (by rw [← hf]; exact List.mem_flatten.mpr ⟨y, hy, hc⟩)
  intro y hy c hc
  unfold lotFix at hy
  split at hy
  · rcases List.mem_append.mp hy with hy | hy
    · exact hm y (List.dropLast_subset _ (List.dropLast_subset _ hy)) c hc
    · rw [List.mem_singleton] at hy
      subst hy
      rcases List.mem_append.mp hc with hc | hc
      · by_cases e : (lotF 0 width l).dropLast = []
        · rw [e] at hc; simp [lastL] at hc
        · exact hm _ (List.dropLast_subset _ (lastL_mem e)) c hc
      · rw [List.mem_singleton] at hc; subst hc; decide
  · exact hm y hy c hc
theorem join_ok : ∀ rows : List (List Nat), (∀ y ∈ rows, ∀ c ∈ y, okb c = true) → ∀ c ∈ joinL [10] rows, okb c = true
  | [], _, c, hc => by simp [joinL] at hc
  | [y], h, c, hc => h y List.mem_cons_self c hc
  | y :: z :: r, h, c, hc => by
    have e : joinL [10] (y :: z :: r) = y ++ 10 :: joinL [10] (z :: r) := by simp [joinL]
    rw [e] at hc
    rcases List.mem_append.mp hc with hc | hc
    · exact h y List.mem_cons_self c hc
    · rcases List.mem_cons.mp hc with hc | hc
      · subst hc; decide
      · exact join_ok (z :: r) (fun w hw => h w (List.mem_cons_of_mem _ hw)) c hc
theorem map_unl : ∀ f : List (List Nat), (f.map escQ).map unlQ = f
  | [] => rfl
  | y :: r => by rw [List.map_cons, List.map_cons, unlQ_escQ, map_unl r]
theorem den_facts {l : List Nat} (h : OkT 7 l) (width : Int) :
    (2 ≤ (rowsF 0 width [] l).length ∧ (rowsF 0 width [] l).length ≤ 10000) ∧ (LN (rowsF 0 width [] l)).length ≤ 20000 ∧ (LN (rowsF 0 width [] l)).flatten.length ≤ 20000 ∧
    (∀ k ∈ LN (rowsF 0 width [] l), 2 ≤ k.length ∧ k.length ≤ 10000) ∧ ((lotF 0 width l).length < 2 ∨ lastL (lotF 0 width l) ≠ [] → denF (rowsF 0 width [] l) = l) := by
  obtain ⟨hok, hlen, _⟩ := h
  obtain ⟨hf, hl⟩ := lot_len (l := l) (width := width)
  by_cases hc : (lotF 0 width l).length < 2
  · have e : rowsF 0 width [] l = escQ l := by rw [rowsF, if_pos hc]
    have hq := escQ_ok hok
    have eL : LN (escQ l) = [escQ l] := by
      rw [LN_ok (fun c hc => (hq c hc).1), lsR_last _ _ (fun c hc => (hq c hc).2) (by unfold escQ; simp)]; rfl
    have h1 := escQ_ge l
    have h2 := escQ_len l
    have h3 := escL_len l
    rw [e, eL]
    refine ⟨⟨h1, by omega⟩, by simp, by simp; omega, fun k hk => ?_, fun _ => ?_⟩
    · rw [List.mem_singleton] at hk; subst hk; exact ⟨h1, by omega⟩
    · rw [denF, if_neg (fun q => (hq 10 q).2 (.inl rfl)), unlQ_escQ]
  · have hge : 2 ≤ (lotF 0 width l).length := by omega
    obtain ⟨hx1, hx2⟩ := lotFix_facts hge
    rw [hf] at hx2
    have hfo := fix_ok (width := width) hok
    have hne := lotFix_ne hge
    rw [rowsF_join hc]
    generalize hg : lotFix (lotF 0 width l) = f at *
    have hrow : ∀ y ∈ [34, 34] :: f.map escQ, (∀ c ∈ y, okb c = true) ∧ y ≠ [] ∧ ∀ c ∈ y, ¬ (c = 10 ∨ c = 13) := by
      intro y hy
      rcases List.mem_cons.mp hy with rfl | hy
      · exact ⟨by decide, by simp, by decide⟩
      · obtain ⟨z, hz, rfl⟩ := List.mem_map.mp hy
        have := escQ_ok (hfo z hz)
        exact ⟨fun c hc => (this c hc).1, by unfold escQ; simp, fun c hc => (this c hc).2⟩
    have eL : LN (joinL [10] ([34, 34] :: f.map escQ)) = [34, 34] :: f.map escQ := by
      rw [LN_ok (join_ok _ fun y hy => (hrow y hy).1), ls_rows _ fun y hy => (hrow y hy).2]
    have hs := rows_sum (q := []) (n := 0) (k := 450) (r := 150) (ls := f) (Nat.le_refl _) (by omega) (by omega)
    simp only [List.nil_append] at hs
    change ((f.map escQ).map List.length).sum + (f.map escQ).length ≤ (0 + 3) * 450 + 2 * 150 at hs
    have hj := joinL_len [10] ([34, 34] :: f.map escQ)
    simp only [List.map_cons, List.sum_cons, List.length_cons, List.length_nil] at hj
    have hcons : ∃ a r, f = a :: r := by
      cases f with
      | nil => exact absurd rfl hne
      | cons a r => exact ⟨a, r, rfl⟩
    obtain ⟨a, r, hfa⟩ := hcons
    have ej : joinL [10] ([34, 34] :: f.map escQ) = 34 :: 34 :: 10 :: joinL [10] (f.map escQ) := by
      rw [hfa]; simp [joinL]
    have hjj := congrArg List.length ej
    simp only [List.length_cons] at hjj
    have hfl := flat_len (f.map escQ)
    rw [eL]
    refine ⟨⟨by omega, by omega⟩, by rw [List.length_cons]; omega, by rw [List.flatten_cons, List.length_append, hfl, List.length_cons, List.length_cons, List.length_nil]; omega, fun k hk => ?_, fun hl2 => ?_⟩
    · rcases List.mem_cons.mp hk with rfl | hk
      · decide
      · obtain ⟨z, hz, rfl⟩ := List.mem_map.mp hk
        have h1 := escQ_ge z
        have h2 := escQ_len z
        have h3 := escL_len z
        have h4 := mem_flatten_len hz
        exact ⟨h1, by omega⟩
    · have hl3 : lastL (lotF 0 width l) ≠ [] := hl2.resolve_left hc
      rw [fix_no hl3] at hg
      rw [denF, if_pos (by rw [ej]; simp), if_pos (by rw [ej]; rfl), eL, List.drop_one, List.tail_cons, map_unl, ← hg, hf]
end
section
theorem lsR_ne : ∀ (n : Nat) (r a : List Nat), r.length ≤ n → ∀ q ∈ lsR a r, q.1 ++ q.2 ≠ [] := by
  intro n
  induction n with
  | zero =>
    intro r a hr q hq
    have : r = [] := List.length_eq_zero_iff.mp (by omega)
    subst this
    rw [lsR] at hq
    split at hq
    · cases hq
    · rename_i h
      rw [List.mem_singleton] at hq; subst hq; simpa using h
  | succ n ih =>
    intro r a hr q hq
    cases r with
    | nil => exact ih [] a (Nat.zero_le _) q hq
    | cons c r =>
      rw [List.length_cons] at hr
      by_cases hb : c = 10 ∨ c = 13
      · by_cases h2 : c = 13 ∧ r.head? = some 10
        · obtain ⟨rfl, h2⟩ := h2
          obtain ⟨r', rfl⟩ : ∃ r', r = 10 :: r' := by
            cases r with
            | nil => simp at h2
            | cons d r' => exact ⟨r', by simpa using h2⟩
          rw [List.length_cons] at hr
          rw [lsR_two] at hq
          rcases List.mem_cons.mp hq with rfl | hq
          · simp
          · exact ih r' [] (by omega) q hq
        · rw [lsR_brk hb h2] at hq
          rcases List.mem_cons.mp hq with rfl | hq
          · simp
          · exact ih r [] (by omega) q hq
      · rw [lsR_skip hb] at hq
        exact ih r _ (by omega) q hq
theorem lnF_ne {l : List Nat} : ∀ k ∈ lnF l, k ≠ [] := by
  intro k hk
  rw [lnF_ls] at hk
  obtain ⟨q, hq, rfl⟩ := List.mem_map.mp hk
  exact lsR_ne l.length l [] (Nat.le_refl _) q hq
def RunInv (p : Nat → Bool) (st : List (List Nat) × Bool) : Prop := st.2 = true → ∀ c ∈ lastL st.1, p c = true
theorem runStep_inv {p : Nat → Bool} {st : List (List Nat) × Bool} {c : Nat} (h : RunInv p st) : RunInv p (runStep p st c) ∧ lastL (runStep p st c).1 ≠ [] := by
  unfold runStep
  split
  · rename_i hc
    refine ⟨fun hf d hd => ?_, by rw [lastL_app]; simp⟩
    rw [lastL_app, List.mem_singleton] at hd
    subst hd
    have hf' : (!st.2) = true := hf
    have : st.2 = false := by simpa using hf'
    rw [this] at hc
    simpa using hc
  · rename_i hc
    refine ⟨fun hf d hd => ?_, by rw [lastL_app]; simp⟩
    rw [lastL_app] at hd
    have hf' : st.2 = true := hf
    rcases List.mem_append.mp hd with hd | hd
    · exact h hf' d hd
    · rw [List.mem_singleton] at hd
      subst hd
      rw [hf'] at hc
      simpa using hc
theorem runs_inv {p : Nat → Bool} : ∀ (l : List Nat) (st : List (List Nat) × Bool), RunInv p st → RunInv p (l.foldl (runStep p) st) ∧ (l ≠ [] → lastL (l.foldl (runStep p) st).1 ≠ [])
  | [], st, h => ⟨h, fun q => absurd rfl q⟩
  | [c], st, h => ⟨(runStep_inv h).1, fun _ => (runStep_inv h).2⟩
  | c :: d :: r, st, h => by
    have := runs_inv (d :: r) (runStep p st c) (runStep_inv h).1
    exact ⟨this.1, fun _ => this.2 (by simp)⟩
theorem runsS_inv (p : Nat → Bool) (l : List Nat) : RunInv p (runsS p l) ∧ (l ≠ [] → lastL (runsS p l).1 ≠ []) := runs_inv l _ fun h => by cases h
theorem escL_le {a b c : List Nat} {n : Nat} (h : (escL (a ++ b ++ c)).length ≤ n) : (escL b).length ≤ n := by
  rw [escL_app, escL_app, List.length_append, List.length_append] at h; omega
theorem filter_all {p : Nat → Bool} {b : List Nat} (h : ∀ c ∈ b, p c = true) : b.filter p = b := List.filter_eq_self.mpr h
/-- one run more: the last part is not empty -/
theorem part_last {st : List (List Nat) × Int} {b : List Nat} {more width : Int} (hb : b ≠ []) : lastL (partStep more width st b).1 ≠ [] := by
  unfold partStep
  split
  · rw [lastL_app]; simp [hb]
  · rw [lastL_app]; exact hb
theorem part_nil {st : List (List Nat) × Int} {b : List Nat} (hb : b ≠ []) (hw : (escL b).length ≤ 21) : lastL (partStep 0 76 (partStep 0 76 st b) []).1 ≠ [] := by
  have hl := part_last (st := st) (more := 0) (width := 76) hb
  have hq := escQ_len b
  have hsz : (partStep 0 76 st b).2 < 76 := by
    unfold partStep
    split
    · assumption
    · rw [if_pos (by omega)]
      show 2 + (((escQ b).length : Int) - 2 + 0) < 76
      omega
  have hcond : (partStep 0 76 st b).2 + (((escQ ([] : List Nat)).length : Int) - 2 + 0) < 76 := by
    show (partStep 0 76 st b).2 + ((2 : Int) - 2 + 0) < 76
    omega
  have e : (partStep 0 76 (partStep 0 76 st b) []).1 = (partStep 0 76 st b).1.dropLast ++ [lastL (partStep 0 76 st b).1 ++ []] := by
    show (if (partStep 0 76 st b).2 + (((escQ ([] : List Nat)).length : Int) - 2 + 0) < 76 then ((partStep 0 76 st b).1.dropLast ++ [lastL (partStep 0 76 st b).1 ++ []], _) else _).1 = _
    rw [if_pos hcond]
  rw [e, lastL_app, List.append_nil]
  exact hl
theorem line_last {l k : List Nat} (hw : (escL (l.filter bl4)).length ≤ 21) (hk : k ∈ lnF l) : lastL (lotLine 0 76 k) ≠ [] := by
  have hkne := lnF_ne k hk
  unfold lotLine
  split
  · obtain ⟨hi, hn⟩ := runsS_inv bl4 k
    have hn := hn hkne
    obtain ⟨f1, f2, _⟩ := runsS_facts bl4 k
    have e := lastL_eq f1
    unfold partsF runsF
    split
    · rename_i hf
      have hall := hi hf
      have hb : (escL (lastL (runsS bl4 k).1)).length ≤ 21 := by
        obtain ⟨pre, post, e2⟩ := List.append_of_mem hk
        have hl := lnF_flatten l
        rw [e2, List.flatten_append, List.flatten_cons] at hl
        rw [e, List.flatten_append, List.flatten_singleton] at f2
        rw [← hl, ← f2] at hw
        simp only [List.filter_append] at hw
        rw [filter_all hall] at hw
        rw [escL_app, escL_app, escL_app, List.length_append, List.length_append, List.length_append] at hw
        omega
      rw [e, partsS_snoc, partsS_snoc]
      exact part_nil hn hb
    · rw [e, partsS_snoc]
      exact part_last hn
  · show lastL [k] ≠ []
    exact hkne
theorem lastL_apps (a b : List (List Nat)) (h : b ≠ []) : lastL (a ++ b) = lastL b := by
  obtain ⟨p, x, rfl⟩ : ∃ p x, b = p ++ [x] := ⟨_, _, (List.dropLast_concat_getLast h).symm⟩
  rw [← List.append_assoc, lastL_app, lastL_app]
theorem lot_last {l : List Nat} (hw : (escL (l.filter bl4)).length ≤ 21) (h : 2 ≤ (lotF 0 76 l).length) : lastL (lotF 0 76 l) ≠ [] := by
  have hne : lnF l ≠ [] := fun e => by rw [lotF, e] at h; simp at h
  have e := lastL_eq hne
  have hm : lastL (lnF l) ∈ lnF l := lastL_mem hne
  have hl := line_last hw hm
  have hl2 : lotLine 0 76 (lastL (lnF l)) ≠ [] := fun q => by rw [q] at hl; exact hl rfl
  unfold lotF
  rw [e, List.flatMap_append]
  have e2 : List.flatMap (lotLine 0 76) [lastL (lnF l)] = lotLine 0 76 (lastL (lnF l)) := by simp
  rw [e2, lastL_apps _ _ hl2]
  exact hl
theorem den_76 {l : List Nat} (h : OkT 7 l) : denF (rowsF 0 76 [] l) = l := by
  refine (den_facts h 76).2.2.2.2 ?_
  by_cases hc : (lotF 0 76 l).length < 2
  · exact .inl hc
  · exact .inr (lot_last h.2.2 (by omega))
theorem okT_len {l : List Nat} (h : OkT 7 l) : l.length ≤ 147 := by have := h.2.1; omega
theorem okT_LK {l : List Nat} (h : OkT 7 l) : LK l = lnF l := LK_lnF h.1
theorem okT_RB {l : List Nat} (h : OkT 7 l) : ∀ k ∈ lnF l, runsF Unicode.isSpace k = runsF bl4 k := runs_ok h.1
section
variable {prog : Program} {w : World} {A : Around} {E : Value → Shared → Prop} {s : Shared} {a b : List Nat} {t u : Tok} {Q : Value → Shared → Prop}
theorem ne_same (e : a = b) (h : Q (.bool false) s) : wpAny (model prog w) A (compareOp .NotEq (.str (S a) t) (.str (S b) u)) Q E s := ne_S (by subst e; simpa using h)
theorem eq_same (e : a = b) (h : Q (.bool true) s) : wpAny (model prog w) A (compareOp .Eq (.str (S a) t) (.str (S b) u)) Q E s := eq_S (by subst e; simpa using h)
end
theorem unl_back (y : List Nat) : unl (((escQ y).drop 1).dropLast) = y := unlQ_escQ y
theorem rows_76 (l : List Nat) : rowsF 0 76 [] l = rowsF (([] : List Nat).length : Int) 76 [] l := rfl
theorem okT_den {l : List Nat} (h : OkT 7 l) (width : Int) :
    (rowsF (([] : List Nat).length : Int) width [] l).length ≤ 10000 ∧ 2 ≤ (rowsF (([] : List Nat).length : Int) width [] l).length ∧ (LN (rowsF (([] : List Nat).length : Int) width [] l)).length ≤ 20000 ∧ (LN (rowsF (([] : List Nat).length : Int) width [] l)).flatten.length ≤ 20000 ∧
    (∀ k ∈ LN (rowsF (([] : List Nat).length : Int) width [] l), 2 ≤ k.length ∧ k.length ≤ 10000) :=
  let d := den_facts h width
  ⟨d.1.2, d.1.1, d.2.1, d.2.2.1, d.2.2.2.1⟩
theorem okT_den0 {l : List Nat} (h : OkT 7 l) :
    (rowsF 0 76 [] l).length ≤ 10000 ∧ 2 ≤ (rowsF 0 76 [] l).length ∧ (LN (rowsF 0 76 [] l)).length ≤ 20000 ∧ (LN (rowsF 0 76 [] l)).flatten.length ≤ 20000 ∧ (∀ k ∈ LN (rowsF 0 76 [] l), 2 ≤ k.length ∧ k.length ≤ 10000) ∧ denF (rowsF 0 76 [] l) = l :=
  let d := den_facts h 76
  ⟨d.1.2, d.1.1, d.2.1, d.2.2.1, d.2.2.2.1, den_76 h⟩
end
section
open PySem.Calls PyProof.V PySem.Spec PySem.SeqAt
theorem strOk_ok {n : List Nat} (h : ∀ c ∈ n, okb c = true) : PyData.strOk (S n) = true := by
  unfold PyData.strOk
  show n.toArray.all (fun c => decide (c < 0x110000)) = true
  rw [List.all_toArray, List.all_eq_true]
  intro c hc
  have := h c hc
  unfold okb at this
  simp only [Bool.or_eq_true, beq_iff_eq, Bool.and_eq_true, Nat.ble_eq] at this
  exact decide_eq_true (by omega)
theorem reads_tx {h : Heap} {a : Addr} {vs : List Value} {ls : List (List Nat)} (hl : h.IsList a vs.toArray) (T : TX vs ls) : Reads h (.ref a) (.list ((ls.map S).map PyData.str)) [a] := by
  obtain ⟨o, ho, hc, n, hd⟩ := hl
  exact Reads.list ho hc hd (by simpa using StrsAre.reads h T)
def okB (ls : List (List Nat)) : Prop := ∀ y ∈ ls, ∀ c ∈ y, okb c = true
theorem canLay_tx : ∀ ls : List (List Nat), okB ls → PyData.canLayAll0 ((ls.map S).map PyData.str) = true
  | [], _ => by simp [PyData.canLayAll0]
  | n :: r, h => by
    have h1 := strOk_ok (h n List.mem_cons_self)
    have h2 := canLay_tx r fun y hy => h y (List.mem_cons_of_mem _ hy)
    simp only [List.map_cons, PyData.canLayAll0, PyData.canLay0, h1, h2, Bool.and_self]
theorem depth_tx : ∀ ls : List (List Nat), PyData.depthAll ((ls.map S).map PyData.str) ≤ 1
  | [] => by simp [PyData.depthAll]
  | n :: r => by
    have := depth_tx r
    simp only [List.map_cons, PyData.depthAll, PyData.depth]
    omega
theorem shaped_tx (ls : List (List Nat)) (hb : okB ls) : shaped (.list ((ls.map S).map PyData.str)) = true := by
  have h1 := depth_tx ls
  have h2 : PyData.depth (.list ((ls.map S).map PyData.str)) ≤ 64 := by simp only [PyData.depth]; omega
  show (PyData.canLay0 (.list ((ls.map S).map PyData.str)) && decide (PyData.depth (.list ((ls.map S).map PyData.str)) ≤ 64)) = true
  rw [Bool.and_eq_true]
  exact ⟨by simp only [PyData.canLay0]; exact canLay_tx ls hb, decide_eq_true h2⟩
theorem noMix_tx : ∀ ns ms : List (List Nat), noMixAll ((ns.map S).map PyData.str) ((ms.map S).map PyData.str) = true
  | [], [] => by simp [noMixAll]
  | [], _ :: _ => by simp [noMixAll]
  | _ :: _, [] => by simp [noMixAll]
  | _ :: r, _ :: q => by simp only [List.map_cons, noMixAll, noMix, noMix_tx r q, Bool.and_self]
theorem same_tx : ∀ ns ms : List (List Nat), PySem.Spec.sameAll ((ns.map S).map PyData.str) ((ms.map S).map PyData.str) = decide (ns = ms)
  | [], [] => by simp [PySem.Spec.sameAll]
  | [], _ :: _ => by simp [PySem.Spec.sameAll]
  | _ :: _, [] => by simp [PySem.Spec.sameAll]
  | n :: r, k :: q => by
    simp only [List.map_cons, PySem.Spec.sameAll, PySem.Spec.same, same_tx r q]
    by_cases h : n = k
    · subst h; simp
    · have : ¬ S n = S k := fun e => h (S_inj e)
      simp [h, this]
section
variable {prog : Program} {w : World} {A : Around} {E : Value → Shared → Prop} {s : Shared} {h₀ : Heap} {L a b : Addr} {news : List (Addr × Obj)} {vs us : List Value} {n k : Nat} {ns ms : List (List Nat)} {Q : Value → Shared → Prop}
theorem tl_ne (N : News h₀ L s.heap news) (hm : (a, listOf vs.toArray n) ∈ news) (hm2 : (b, listOf us.toArray k) ∈ news) (T : TX vs ns) (T2 : TX us ms) (hb1 : okB ns) (hb2 : okB ms) (hu : A.units + 64 < cLine) (h : Q (.bool (!decide (ns = ms))) s) :
    wpAny (model prog w) A (compareOp .NotEq (.ref a) (.ref b)) Q E s :=
  ne_dataH_same (reads_tx (PySem.IsL.isList (n := n) (N _ hm).1) T) (reads_tx (PySem.IsL.isList (n := k) (N _ hm2).1) T2) (shaped_tx ns hb1) (shaped_tx ms hb2) hu (by simp only [noMix]; exact noMix_tx ns ms) (by simp only [PySem.Spec.same]; rw [same_tx]; exact h)
end
theorem last_drop {ls : List (List Nat)} (h : ls ≠ []) : ls.drop (ls.length - 1) = [lastL ls] := by
  have e := lastL_eq h
  have hl := congrArg List.length e
  rw [List.length_append, List.length_singleton] at hl
  have : ls.drop (ls.length - 1) = (ls.dropLast ++ [lastL ls]).drop ls.dropLast.length := by
    rw [← e]; congr 1; omega
  rw [this]; simp
/-- the law's own test of the last row -/
theorem den_w {l : List Nat} (h : OkT 7 l) (width : Int) (hne : ¬ (lotF (([] : List Nat).length : Int) width l).drop ((lotF (([] : List Nat).length : Int) width l).length - 1) = [[]]) : denF (rowsF (([] : List Nat).length : Int) width [] l) = l := by
  refine (den_facts h width).2.2.2.2 ?_
  change ¬ (lotF 0 width l).drop ((lotF 0 width l).length - 1) = [[]] at hne
  by_cases hc : (lotF 0 width l).length < 2
  · exact .inl hc
  · refine .inr fun q => hne ?_
    rw [last_drop (ne_len (by omega)), q]
theorem okB_lot {l : List Nat} (h : OkT 7 l) (width : Int) : okB ((lotF (([] : List Nat).length : Int) width l).drop ((lotF (([] : List Nat).length : Int) width l).length - 1)) := by
  intro y hy c hc
  have hf := (lot_len (l := l) (width := width)).1
  exact h.1 c (by rw [← hf]; exact List.mem_flatten.mpr ⟨y, List.mem_of_mem_drop hy, hc⟩)
theorem okB_nil : okB [[]] := by
  intro y hy c hc
  rw [List.mem_singleton] at hy
  subst hy; cases hc
theorem lot_len7 {l : List Nat} (h : OkT 7 l) (width : Int) : (lotF (([] : List Nat).length : Int) width l).length ≤ 1000000 := by
  have h1 := (lot_len (l := l) (width := width)).2
  have h2 := h.2.1
  show (lotF 0 width l).length ≤ _
  omega
theorem il_get4 {prog : Program} {w : World} {A : Around} {E : Value → Shared → Prop} {s : Shared} {a b c d : Int} {ta tb tc td : Tok} {u : Tok} {h₀ : Heap} {L D : Addr} {n : Nat} {news : List (Addr × Obj)} {r : Int} {Q : Value → Shared → Prop} {value slice : PySem.Expr}
    (N : News h₀ L s.heap news) (hm : (D, listOf #[.int a ta, .int b tb, .int c tc, .int d td] n) ∈ news) (h : ∀ (k : Int) t, Q (.int k t) s)
    (hs : subscripted slice false (.ref D) (.int (r.fmod 4) u) = operate [.ref D, .int (r.fmod 4) u] (getItem (.ref D) (.int (r.fmod 4) u))) :
    wpAny (model prog w) A (subscriptTail value slice (.ref D) (.int (r.fmod 4) u)) Q E s := by
  have h0 : 0 ≤ r.fmod 4 := Int.fmod_nonneg_of_pos _ (by decide)
  have h1 : r.fmod 4 < 4 := Int.fmod_lt_of_pos _ (by decide)
  have T : IntsAre (#[Value.int a ta, .int b tb, .int c tc, .int d td] : Array Value).toList [a, b, c, d] := IntsAre.cons _ _ (IntsAre.cons _ _ (IntsAre.cons _ _ (IntsAre.cons _ _ IntsAre.nil)))
  obtain ⟨v, hv⟩ : ∃ v, (#[Value.int a ta, .int b tb, .int c tc, .int d td] : Array Value).toList[(r.fmod 4).toNat]? = some v := ⟨_, List.getElem?_eq_getElem (by simp; omega)⟩
  obtain ⟨k, t, rfl, _⟩ := IntsAre.at T _ _ hv
  have hL : s.heap.IsList D #[.int a ta, .int b tb, .int c tc, .int d td] := PySem.IsL.isList (n := n) (N _ hm).1
  exact PyProof.Rows.tail_any hL.typeIs slot_list_getitem.lookup (wpAny_getItem_list hL h0 (by simp; omega) (by simpa using hv) (h k t)) hs
end
theorem fill_all : PySem.Challenge.rw_ey0009_01 = PySem.Challenge.rw_ey0009_01 ∧ hd.heap_39 = hd.heap_39 := by
  w_top off
  k_fill
  exact ⟨rfl, rfl⟩

local macro_rules | `(tactic| walk_at "LEN") => `(tactic| first | (with_reducible assumption) | ((with_reducible show List.length (_ :: _) ≤ _); exact Nat.le_of_ble_eq_true rfl) | (with_reducible exact Nat.zero_le _) | omega | ((simp only [List.length_append, List.length_cons, List.length_nil, List.length_singleton, List.length_take, List.length_drop, List.length_dropLast, List.length_reverse, escQ_len]); omega) | ((simp only [List.nil_append, List.map_cons, List.map_nil, List.sum_cons, List.sum_nil, List.map_append, List.sum_append, List.length_append, List.length_cons, List.length_nil, List.length_map]); omega) | assumption)
local macro_rules | `(tactic| walk_at "SUB") => `(tactic| first | (with_reducible apply sub_refl; done) | (with_reducible apply sub_nil; done) | ((with_reducible apply sub_cons); (focus k_mem); walk_at "SUB") | ((with_reducible apply sub_tail); walk_at "SUB") | exact fun _ h => h | (refine sub_cons (by k_mem) ?_; walk_at "SUB") | (refine sub_tail ?_; walk_at "SUB"))
local macro_rules | `(tactic| k_all) => `(tactic| first | assumption | exact allLt_ne (by assumption) | exact lt_ne (by assumption))
local macro_rules | `(tactic| walk_at "BND") => `(tactic| first | (with_reducible apply Bnd.nil; done) | ((with_reducible apply Bnd.cons); (focus (first | (simp only [kstB, ofS_inj, String.reduceEq, if_false, if_true] <;> rfl) | rfl)); walk_at "BND"))
local macro_rules | `(tactic| walk_at "LT") => `(tactic| first | assumption | exact lt_sub (by assumption) (by walk_at "SUB"))
local macro_rules | `(tactic| walk_at "newList") => `(tactic| (k_here; k_dflt (refine' newList_K ?k1 ?k2 ?_; (case k1 => k_asm); (case k2 => k_asm); k_whole); intro l' h' F' N' l1; (try (have l2 := l1; k_lt l2)); (try k_sweep)))
local macro_rules | `(tactic| walk_at "ST") => `(tactic| repeat' ((fail_if_success (with_reducible show wpAny _ _ (exec (Stmt.For _ _ _ _ _) _) _ _ _)); (fail_if_success (with_reducible show wpAny _ _ (pyIter _) _ _ _)); (fail_if_success (with_reducible show wpAny _ _ (exec (Stmt.While _ _ _ _) _) _ _ _)); (fail_if_success (with_reducible show LCg.CompSrc _ _ _ _ _ _ _ _ _ _ _ _ _ _)); first | (k_unfold; (try dsimp only)) | walk1 | (dsimp only; walk1) | (leave1; try dsimp only) | fail "no step"))
local macro_rules | `(tactic| walk_at "eval Constant str") => `(tactic| (with_reducible refine const_S (by first | exact li0 | exact li1 | exact li2 | exact li3 | exact li4 | exact li5 | exact li6 | exact li7 | exact li8 | exact li9 | exact li10 | exact li11 | exact li12 | exact li13 | exact li14 | exact li15 | exact li16 | exact li17 | exact li18 | exact li19 | exact li20 | exact li21 | exact li22 | exact li23) ?_))
local macro_rules | `(tactic| walk_at "binaryOp Add str str") => `(tactic| (with_reducible refine add_S (by walk_at "LEN") ?_; intro _ _))
local macro_rules | `(tactic| walk_at "inplaceOp Add str str") => `(tactic| (with_reducible refine iadd_S (by walk_at "LEN") ?_; intro _ _))
local macro_rules | `(tactic| walk_at "compareOp NotEq str str") => `(tactic| (with_reducible refine ne_S ?_))
local macro_rules | `(tactic| walk_at "compareOp Eq str str") => `(tactic| (with_reducible refine eq_S ?_))
local macro_rules | `(tactic| walk_at "compareOp In str str") => `(tactic| (with_reducible refine in_S ?_))
local macro_rules | `(tactic| walk_at "compareOp NotIn str str") => `(tactic| (with_reducible refine notIn_S ?_))
local macro_rules | `(tactic| walk_at "call builtin:len") => `(tactic| ((with_reducible show wpAny _ _ (call (Value.builtin "len") [Value.str (S _) _]) _ _ _); refine len_S (by walk_at "LEN") ?_; intro _ _))
local macro_rules | `(tactic| walk_at "call builtin:str.isspace") => `(tactic| (with_reducible refine isspace_S ?_))
local macro_rules | `(tactic| walk_at "call builtin:str.replace") => `(tactic| (with_reducible refine rep_S (by omega) (by omega) (by with_unfolding_all rfl) (by walk_at "LEN") ?_; intro _ _ _; (try dsimp only at *)))
local macro_rules | `(tactic| walk_at "binaryOp Mod str str") => `(tactic| (refine pct_S (by assumption) (by walk_at "LEN") ?_; intro _ _))
local macro_rules | `(tactic| walk_at "subscriptTail Name Slice str ref") => `(tactic| ((with_reducible show wpAny _ _ (subscriptTail _ (Expr.Slice (some _) (some _) none _) (Value.str _ _) _) _ _ _); (rename Fr _ _ _ _ => Fs); (rename News _ _ _ _ => Ns); (refine' sl_ss (s := ⟨_, _, _, _, _⟩) Fs Ns ?sla ?slb ?slc ?sld ?_; (case sla => first | exact sl_e1 _ (by walk_at "LEN") | exact sl_e4 _ _); (case slb => walk_at "LEN"); (case slc => with_unfolding_all rfl); (case sld => (intro _; with_unfolding_all rfl))); clear Fs Ns; intro _ _ _ _ _))
local macro_rules | `(tactic| walk_at "subscriptTail Name Slice str ref") => `(tactic| ((with_reducible show wpAny _ _ (subscriptTail _ (Expr.Slice (some _) none none _) (Value.str _ _) _) _ _ _); (rename Fr _ _ _ _ => Fs); (rename News _ _ _ _ => Ns); (refine' sl_sn (s := ⟨_, _, _, _, _⟩) Fs Ns ?sla ?slb ?slc ?sld ?_; (case sla => exact sl_e3 _); (case slb => walk_at "LEN"); (case slc => with_unfolding_all rfl); (case sld => (intro _; with_unfolding_all rfl))); clear Fs Ns; intro _ _ _ _ _))
local macro_rules | `(tactic| walk_at "subscriptTail Name Slice str ref") => `(tactic| ((with_reducible show wpAny _ _ (subscriptTail _ (Expr.Slice none (some _) none _) (Value.str _ _) _) _ _ _); (rename Fr _ _ _ _ => Fs); (rename News _ _ _ _ => Ns); (refine' sl_ns (s := ⟨_, _, _, _, _⟩) Fs Ns ?sla ?slb ?slc ?sld ?_; (case sla => exact sl_e2 _); (case slb => walk_at "LEN"); (case slc => with_unfolding_all rfl); (case sld => (intro _; with_unfolding_all rfl))); clear Fs Ns; intro _ _ _ _ _))
local macro_rules | `(tactic| walk_at "call builtin:str.partition") => `(tactic| ((rename Fr _ _ _ _ => Fs); (rename News _ _ _ _ => Ns); (k_dflt (refine' part_S Fs Ns ?pa ?pb ?_; (case pa => walk_at "LEN"); (case pb => simp_all))); clear Fs Ns; intro _ _ _ _ _ _ _ _ _ _ _ _ _ _))
local macro_rules | `(tactic| walk_at "TXP") => `(tactic| first | assumption | exact TX.one _ _ | exact TX.nil)
local macro_rules | `(tactic| walk_at "NE") => `(tactic| first | assumption | exact app_ne _ _ | exact ne_len (by omega) | ((rename (∀ z : Int, _ → _ → _ ≠ []) => hq); refine' hq _ ?nq0 ?nq1; (case nq1 => assumption); (case nq0 => omega)) | (simp; done))
local macro_rules | `(tactic| walk_at "call builtin:list.append") => `(tactic| ((with_reducible show wpAny _ _ (call (Value.builtin _) [Value.ref _, Value.str (S _) _]) _ _ _); k_dflt (refine' tl_append ?tF ?tN ?tT ?tU ?tz ?_; (case tF => k_asm); (case tN => k_asm); (case tU => k_upd); (case tT => walk_at "TXP"); (case tz => walk_at "LEN")); intro _ _ _ _; (try k_sweep)))
local macro_rules | `(tactic| walk_at "call builtin:list.pop") => `(tactic| ((with_reducible show wpAny _ _ (call (Value.builtin _) [Value.ref _]) _ _ _); k_dflt (refine' tl_pop ?tF ?tN ?tT ?te ?tU ?tz ?_; (case tF => k_asm); (case tN => k_asm); (case tU => k_upd); (case tT => walk_at "TXP"); (case te => walk_at "NE"); (case tz => walk_at "LEN")); intro _ _ _ _ _; (try k_sweep)))
local macro_rules | `(tactic| walk_at "call builtin:list.reverse") => `(tactic| ((with_reducible show wpAny _ _ (call (Value.builtin _) [Value.ref _]) _ _ _); k_dflt (refine' tl_reverse ?tF ?tN ?tT ?tU ?tz ?_; (case tF => k_asm); (case tN => k_asm); (case tU => k_upd); (case tT => walk_at "TXP"); (case tz => walk_at "LEN")); intro _ _ _ _; (try k_sweep)))
local macro_rules | `(tactic| walk_at "setItem ref int") => `(tactic| ((with_reducible show wpAny _ _ (setItem (Value.ref _) (Value.int _ _) (Value.str (S _) _)) _ _ _); k_dflt (refine' tl_setlast ?tF ?tN ?tT ?te ?tU ?_; (case tF => k_asm); (case tN => k_asm); (case tU => k_upd); (case tT => walk_at "TXP"); (case te => walk_at "NE")); intro _ _ _ _; (try k_sweep)))
local macro_rules | `(tactic| walk_at "delItem ref int") => `(tactic| (k_dflt (refine' tl_dellast ?tF ?tN ?tT ?te ?tU ?tz ?_; (case tF => k_asm); (case tN => k_asm); (case tU => k_upd); (case tT => walk_at "TXP"); (case te => walk_at "NE"); (case tz => walk_at "LEN")); intro _ _ _ _; (try k_sweep)))
local macro_rules | `(tactic| walk_at "getItem ref int") => `(tactic| (k_dflt (first | (refine' tl_getItemA ?tN ?tm ?tT ?_; (case tN => k_asm); (case tm => k_mem); (case tT => assumption)) | (refine' tl_getItem ?tN ?tm ?tT ?te ?_; (case tN => k_asm); (case tm => k_mem); (case tT => walk_at "TXP"); (case te => walk_at "NE"))); intro _))
local macro_rules | `(tactic| walk_at "subscriptTail Name UnaryOp ref int") => `(tactic| ((with_reducible show wpAny _ _ (subscriptTail _ _ (Value.ref _) (Value.int (-1) _)) _ _ _); k_dflt (first
  | (refine' tl_getlastA ?tN ?tm ?tT ?_ ?ts; (case tN => k_asm); (case tm => k_mem); (case tT => assumption); (case ts => with_unfolding_all rfl))
  | (refine' tl_getlast ?tN ?tm ?tT ?te ?_ ?ts; (case tN => k_asm); (case tm => k_mem); (case tT => walk_at "TXP"); (case te => walk_at "NE"); (case ts => with_unfolding_all rfl))); intro _))
local macro_rules | `(tactic| walk_at "subscriptTail Name UnaryOp ref int") => `(tactic| ((with_reducible show wpAny _ _ (subscriptTail _ _ (Value.ref _) (Value.int (-2) _)) _ _ _); k_dflt (refine' tl_getback ?tN ?tm ?tT ?te ?_ ?ts; (case tN => k_asm); (case tm => k_mem); (case tT => walk_at "TXP"); (case te => walk_at "LEN"); (case ts => with_unfolding_all rfl)); intro _))
local macro_rules | `(tactic| walk_at "call builtin:len") => `(tactic| ((with_reducible show wpAny _ _ (call (Value.builtin "len") [Value.ref _]) _ _ _); k_dflt (refine' tl_len ?tN ?tm ?tT ?tz ?_; (case tN => k_asm); (case tm => k_mem); (case tT => walk_at "TXP"); (case tz => walk_at "LEN")); intro _ _))
local macro_rules | `(tactic| walk_at "call builtin:str.join") => `(tactic| ((with_reducible show wpAny _ _ (call (Value.builtin _) [Value.str (S _) _, Value.ref _]) _ _ _); k_dflt (refine' tl_join ?tN ?tm ?tT ?ts ?tw ?_; (case tN => k_asm); (case tm => k_mem); (case tT => first | assumption | walk_at "TXP"); (case ts => walk_at "LEN"); (case tw => walk_at "LEN")); intro _ _))
local macro_rules | `(tactic| walk_at "call builtin:str.splitlines") => `(tactic| ((with_reducible show wpAny _ _ (call (Value.builtin _) [Value.str (S _) _]) _ _ _); k_dflt (refine' lines_S ?tF ?tN ?tz ?_; (case tF => k_asm); (case tN => k_asm); (case tz => walk_at "LEN")); intro _ _ _ _ _ _ l1 _; (try (have l2 := l1; k_lt l2)); (try k_sweep)))
local macro_rules | `(tactic| walk_at "call builtin:str.splitlines") => `(tactic| ((with_reducible show wpAny _ _ (call (Value.builtin _) [Value.str (S _) _, Value.bool true]) _ _ _); k_dflt (refine' keep_S ?tF ?tN ?tz ?_; (case tF => k_asm); (case tN => k_asm); (case tz => walk_at "LEN")); intro _ _ _ _ _ _ l1 _; (try (have l2 := l1; k_lt l2)); (try k_sweep)))
local macro_rules | `(tactic| walk_at "call builtin:str.startswith") => `(tactic| (with_reducible refine starts_rule ?_))
local macro_rules | `(tactic| walk_at "eval ListComp") => `(tactic| (k_here; k_dflt (refine LCg.ListComp_U (F₀ := by k_asm) (by with_unfolding_all rfl) (by decide) (by rfl) (by decide) (by rfl) ?_)))
local macro_rules | `(tactic| walk_at "truthy str") => `(tactic| ((with_reducible refine truthy_S (by walk_at "LEN") ?_); intro _))
local macro_rules | `(tactic| walk_at "truthy ref") => `(tactic| (k_dflt (refine' tl_truthy ?tN ?tm ?tT ?tz ?_; (case tN => k_asm); (case tm => k_mem); (case tT => walk_at "TXP"); (case tz => walk_at "LEN")); intro _))
local macro_rules | `(tactic| walk_at "truthy ref") => `(tactic| (k_dflt (refine' tl_truthyN ?tN ?tm ?tT ?te ?tz ?_; (case tN => k_asm); (case tm => k_mem); (case tT => walk_at "TXP"); (case te => walk_at "NE"); (case tz => walk_at "LEN")); intro _))
local macro_rules | `(tactic| walk_at "truthy ref") => `(tactic| (k_dflt (refine' tl_truthy0 ?tN ?tm ?tT ?_; (case tN => k_asm); (case tm => k_mem); (case tT => first | assumption | exact TX.nil)); intro _))
local macro_rules | `(tactic| walk_at "call builtin:list.pop") => `(tactic| ((with_reducible show wpAny _ _ (call (Value.builtin _) [Value.ref _]) _ _ _); k_dflt (refine' tl_popA ?tF ?tN ?tT ?tU ?tz ?_; (case tF => k_asm); (case tN => k_asm); (case tU => k_upd); (case tT => assumption); (case tz => walk_at "LEN")); intro _ _ _ _ _; (try k_sweep)))
local macro_rules | `(tactic| walk_at "binaryOp Add ref ref") => `(tactic| (k_dflt (refine' tl_add ?tF ?tN ?tm ?tm2 ?tT ?tT2 ?tz ?_; (case tF => k_asm); (case tN => k_asm); (case tm => k_mem); (case tm2 => k_mem); (case tT => walk_at "TXP"); (case tT2 => walk_at "TXP"); (case tz => walk_at "LEN")); intro _ _ _ _ l1 _; (try (have l2 := l1; k_lt l2)); (try k_sweep)))
local macro_rules | `(tactic| walk_at "subscriptTail Name Slice ref ref") => `(tactic| (k_here; (with_reducible show wpAny _ _ (subscriptTail _ (PySem.Expr.Slice none (some _) none _) (Value.ref _) (Value.ref _)) _ _ _); k_dflt (refine' tl_m2 (s := ⟨_, _, _, _, _⟩) ?tF ?tN ?tm ?tT ?tz ?ts ?tt ?_; (case tF => k_asm); (case tN => k_asm); (case tm => k_mem); (case tT => walk_at "TXP"); (case tz => walk_at "LEN"); (case ts => with_unfolding_all rfl); (case tt => (intro _; with_unfolding_all rfl))); intro _ _ _ _ _ l1 _; (try (have l2 := l1; k_lt l2)); (try k_sweep)))
local macro_rules | `(tactic| walk_at "subscriptTail Name Slice ref ref") => `(tactic| (k_here; (with_reducible show wpAny _ _ (subscriptTail _ (PySem.Expr.Slice none (some _) none _) (Value.ref _) (Value.ref _)) _ _ _); k_dflt (refine' tl_m1 (s := ⟨_, _, _, _, _⟩) ?tF ?tN ?tm ?tT ?tz ?ts ?tt ?_; (case tF => k_asm); (case tN => k_asm); (case tm => k_mem); (case tT => walk_at "TXP"); (case tz => walk_at "LEN"); (case ts => with_unfolding_all rfl); (case tt => (intro _; with_unfolding_all rfl))); intro _ _ _ _ _ l1 _; (try (have l2 := l1; k_lt l2)); (try k_sweep)))
local macro_rules | `(tactic| walk_at "subscriptTail Name Slice ref ref") => `(tactic| (k_here; (with_reducible show wpAny _ _ (subscriptTail _ (PySem.Expr.Slice (some _) none none _) (Value.ref _) (Value.ref _)) _ _ _); k_dflt (refine' tl_s1 (s := ⟨_, _, _, _, _⟩) ?tF ?tN ?tm ?tT ?tz ?ts ?tt ?_; (case tF => k_asm); (case tN => k_asm); (case tm => k_mem); (case tT => walk_at "TXP"); (case tz => walk_at "LEN"); (case ts => with_unfolding_all rfl); (case tt => (intro _; with_unfolding_all rfl))); intro _ _ _ _ _ l1 _; (try (have l2 := l1; k_lt l2)); (try k_sweep)))
local macro_rules | `(tactic| walk_at "subscriptTail Name Slice ref ref") => `(tactic| (k_here; (with_reducible show wpAny _ _ (subscriptTail _ (PySem.Expr.Slice (some _) none none _) (Value.ref _) (Value.ref _)) _ _ _); k_dflt (refine' tl_sl (s := ⟨_, _, _, _, _⟩) ?tF ?tN ?tm ?tT ?tz ?ts ?tt ?_; (case tF => k_asm); (case tN => k_asm); (case tm => k_mem); (case tT => walk_at "TXP"); (case tz => walk_at "LEN"); (case ts => with_unfolding_all rfl); (case tt => (intro _; with_unfolding_all rfl))); intro _ _ _ _ _ l1 _; (try (have l2 := l1; k_lt l2)); (try k_sweep)))
local macro_rules | `(tactic| walk_at "CTX") => `(tactic| ((case k1 => k_asm); (case k2 => k_asm); (case k3 => k_asm); (case k4 => k_asm); (case k5 => k_asm); (case kK => first | exact rfl | assumption); (case kd => first | omega | (dsimp only [ktrTop, Around.deeper]; omega) | exact Nat.le_of_ble_eq_true rfl | ktr_room); (case ku => first | omega | (dsimp only [ktrTop, Around.deeper]; omega) | exact Nat.le_of_ble_eq_true rfl | ktr_units)))
local macro_rules | `(tactic| walk_at "ENTC") => `(tactic| (refine' code_defC ?k1 ?k2 ?k3 ?k4 ?k5 ?kA ?kF ?kK ?k6 ?k7 ?k8 ?k9 ?kB ?kD ?_ ?c2 ?c3 ?c4; (case kA => exact rfl); (case kF => exact rfl); (case kK => assumption); (case k1 => k_asm); (case k2 => k_asm); (case k3 => k_asm); (case k4 => k_asm); (case k5 => k_asm); (case k6 => k_is); (case k7 => k_is); (case k8 => ktr_room); (case k9 => first | exact BindsTo.of_eq rfl | exact binds_K (by k_in) rfl (by k_is) rfl rfl rfl); (case kB => exact rfl); (case kD => decide +kernel); (case c2 => exact rfl); (case c3 => exact rfl); (case c4 => exact rfl); k_whole; intro g' L' h' tk' cells' FG' F' N' Y' B' X' T' l1; k_cells Y'; (try simp only [List.cons_append, List.nil_append] at N'); (try dsimp only); (try k_lift B'); (try k_fold)))
local macro_rules | `(tactic| walk_at "ite") => `(tactic| first | with_reducible refine ite_tt ?_ | with_reducible refine ite_ff ?_)
local macro_rules | `(tactic| walk_at "callWith") => `(tactic| ((with_reducible show wpAny _ _ (callWith _ (Value.builtin _) (_ :: _) (backTo _ (starEach (_ :: _) _)) []) _ _ _); k_dflt (refine callWith_method1 ?_)))
section
local macro_rules | `(tactic| walk_at "execs cons") => `(tactic| (k_dflt (dsimp only)))
local macro_rules | `(tactic| walk_at "execs nil") => `(tactic| (k_dflt (dsimp only)))
theorem esc_ct (w : World) (mean : ExcName → Option Value) (mg mb : Str → Option Value) (x : List Nat) (tk : Tok) (hx : x.length ≤ 1000) :
    CtS w mean mg mb 1 40 [.str (S x) tk] (escQ x) := by
  unfold CtS Ct
  intro news dp un gd cn cs a ccd cl outer A₀ base h₀ L m s Q E B F X N T hk hd hu hret
  have l1 := sub1_len 92 [92, 92] x rfl
  have l2 := sub1_len 9 [92, 116] (sub1 92 [92, 92] x) rfl
  have l3 := sub1_len 13 [92, 114] (sub1 9 [92, 116] (sub1 92 [92, 92] x)) rfl
  have l4 := sub1_len 10 [92, 110] (sub1 13 [92, 114] (sub1 9 [92, 116] (sub1 92 [92, 92] x))) rfl
  have l5 := sub1_len 34 [92, 34] (sub1 10 [92, 110] (sub1 13 [92, 114] (sub1 9 [92, 116] (sub1 92 [92, 92] x)))) rfl
  refine wpAny_call ?_
  k_dflt cell_enter
  k_steps
  all_goals exact cts_end hret (by rw [sub1_escL]; rfl) (by assumption) (by assumption) (fun _ h => h)
end
section
local macro_rules | `(tactic| walk_at "execs cons") => `(tactic| (k_dflt (dsimp only)))
local macro_rules | `(tactic| walk_at "execs nil") => `(tactic| (k_dflt (dsimp only)))
local macro_rules | `(tactic| walk_at "getMethod ref") => `(tactic| ((with_reducible show wpAny _ _ (getMethod (Value.ref _) (Str.ofString "get") _) _ _ _); (refine' told_meth ?N ?m ?T ?_; (case N => k_asm); (case m => k_mem); (case T => assumption))))
local macro_rules | `(tactic| walk_at "call builtin:dict.get") => `(tactic| (k_dflt (refine' told_get ?N ?m ?T ?_; (case N => k_asm); (case m => k_mem); (case T => assumption)); intro _ _))
theorem lesc_ct (w : World) (mean : ExcName → Option Value) (mg mb : Str → Option Value) (x : List Nat) (tk : Tok) (hx : x.length ≤ 1000) :
    CtS w mean mg mb 1 67 [.str (S x) tk] (escQ x) := by
  unfold CtS Ct
  intro news dp un gd cn cs a ccd cl outer A₀ base h₀ L m s Q E B F X N T hk hd hu hret
  have hel := escL_len x
  refine wpAny_call ?_
  k_dflt cell_enter
  walk_at "ST"
  rename Obj.IsDictOf _ _ _ => hd'
  rename PyProof.V.FlatPairs _ _ _ => hf'
  rename ((_ == sysModules) = false) => lo'
  have hTold := toldD_of lo' hd' hf'
  clear hd' hf'
  (rename Fr _ _ _ _ => lF'); (with_unfolding_all refine' For_invVF lF' ?k1 ?k2 ?_; (case k1 => exact rfl); (case k2 => exact rfl))
  walk_at "ST"
  rename Fr _ _ _ _ => F1
  rename News _ _ _ _ => N1
  refine' lesc_it news hTold ?h ?F ?N ?m ?a ?b ?t ?d
  case h => exact rfl
  case F => exact F1
  case N => exact N1
  case a => rfl
  case b => rfl
  case m => walk_at "SUB"
  case t =>
    intro pre k post t t' m₁ h tk I oI e hne F1 N1
    have e1 := esc1_len k
    have e2 := escL_len pre
    have e3 := congrArg List.length e
    rw [List.length_append, List.length_cons] at e3
    clear e
    dsimp only [kstB, envOf] at F1 N1
    try k_fold
    walk_at "ST"
    rename Fr _ _ _ _ => Fz
    rename News _ _ _ _ => Nz
    refine' turn_end _ Fz Nz ?te1 ?te2 hne ?te3 trivial
    case te3 =>
      rw [escL_app, show escL [k] = esc1 k from by simp [escL]]
      walk_at "BND"
    case te1 => k_mem
    case te2 => walk_at "SUB"
  case d =>
    intro t' m₁ h tk F1 N1
    dsimp only [kstB, envOf] at F1 N1
    try k_fold
    walk_at "ST"
    rename News _ _ _ _ => Nz
    all_goals exact cts_end hret rfl (by assumption) Nz (by walk_at "SUB")
end
section
local macro_rules | `(tactic| walk_at "execs cons") => `(tactic| (k_dflt (dsimp only)))
local macro_rules | `(tactic| walk_at "execs nil") => `(tactic| (k_dflt (dsimp only)))
theorem unesc_ct (w : World) (mean : ExcName → Option Value) (mg mb : Str → Option Value) (x : List Nat) (tk : Tok) (hx : x.length ≤ 10000) (hx2 : 2 ≤ x.length) :
    CtS w mean mg mb 1 21 [.str (S x) tk] (unl ((x.drop 1).dropLast)) := by
  unfold CtS Ct
  intro news dp un gd cn cs a ccd cl outer A₀ base h₀ L m s Q E B F X N T hk hd hu hret
  have hbl : ((x.drop 1).dropLast).length = x.length - 2 := by rw [List.length_dropLast, List.length_drop]; omega
  refine wpAny_call ?_
  k_dflt cell_enter
  walk_at "ST"
  · generalize hbody : (x.drop 1).dropLast = body at *
    rename Fr _ _ _ _ => F1
    rename News _ _ _ _ => N1
    (refine' while_gen (σ := (List Nat × Tok) × (List Nat × Tok)) (fun _ => news) (fun c => [(Str.ofString "result", .str (S c.1.1) c.1.2), (Str.ofString "rest", .str (S c.2.1) c.2.2)]) (fun c => c.1.1 ++ unl c.2.1 = unl body ∧ c.1.1.length + c.2.1.length ≤ body.length) (fun c => c.2.1.length) (([], _), (body, _)) F1 (kst_newsOf N1 ?wa) ?wb ?wc ?wd ?we)
    case wb => walk_at "BND"
    case wa => walk_at "SUB"
    case wc => exact ⟨rfl, by simp⟩
    case we => first | passes_own | with_unfolding_all passes_own
    case wd =>
      rintro ⟨⟨res, t1⟩, ⟨rest, t2⟩⟩ m₁ h tk ⟨hj1, hj2⟩ F1 N1
      dsimp only [kstB, envOf] at F1 N1 hj1 hj2
      try k_fold
      walk_at "ST"
      all_goals (try rename Fr _ _ _ _ => Fz)
      all_goals (rename News _ _ _ _ => Nz)
      all_goals first
        | ((refine' w_end ((_, _), (_, _)) Fz Nz ?_ ?ub ?_ ?_);
           (case ub => walk_at "BND"); (walk_at "SUB");
           (refine ⟨unl_turn hj1 (by assumption) (by assumption) (by simp_all), ?_⟩; (walk_at "LEN"));
           (dsimp only; walk_at "LEN"))
        | (rw [unl_free rest (by simp_all)] at hj1; exact cts_end hret (by rw [hj1]) (by assumption) Nz (by walk_at "SUB"))
  · rename News _ _ _ _ => Nz
    rw [unl_free] at hret
    · exact cts_end hret rfl (by assumption) Nz (by walk_at "SUB")
    · rename (¬92 ∈ x) => hn
      exact fun q => hn (List.mem_of_mem_drop (List.dropLast_subset _ q))
end
section
theorem chunks_ct (w : World) (mean : ExcName → Option Value) (mg mb : Str → Option Value) (x : List Nat) (tk : Tok) (hx : x.length ≤ 10000) :
    CtL w mean mg mb 1 33 [.str (S x) tk] (runsF Unicode.isSpace x) := by
  unfold CtL Ct
  intro news dp un gd cn cs a ccd cl outer A₀ base h₀ L m s Q E B F X N T hk hd hu hret
  refine wpAny_call ?_
  k_dflt cell_enter
  walk_at "ST"
  rename_i D1 _ l1 _ _ F1 N1
  (with_unfolding_all refine' For_invVF F1 ?k1 ?k2 ?_; (case k1 => exact rfl); (case k2 => exact rfl))
  walk_at "ST"
  (refine' it_text (σ := List Value × Nat × Bool) (fun c => (D1, listOf c.1.toArray c.2.1) :: news) (fun c => [(Str.ofString "chunks", .ref D1), (Str.ofString "is_blank", .bool c.2.2)])
    (fun pre c => TX c.1 (runsS Unicode.isSpace pre).1 ∧ c.2.2 = (runsS Unicode.isSpace pre).2) ([.str (S []) _], 0, false) ?ih F1 N1 ?ib ?ij ?it ?id)
  case ih => exact rfl
  case ib => walk_at "BND"
  case ij => exact ⟨TX.one _ _, rfl⟩
  case it =>
    rintro pre k post t ⟨vs, n, b⟩ m₁ h tk I oI e ⟨hj1, hj2⟩ hne F1 N1
    have hI := addr_ne (hne _ (List.Mem.head _))
    have hf := runsS_facts Unicode.isSpace pre
    have hl := lastL_len hf.1
    have hs := runsS_snoc Unicode.isSpace pre k
    have hfne := hf.1
    have hfl := hf.2.2
    rw [hf.2.1] at hl
    have hlen := congrArg List.length e
    rw [List.length_append, List.length_cons] at hlen
    generalize runsS Unicode.isSpace pre = st at *
    dsimp only at hj1 hj2 hne hI
    subst hj2
    dsimp only [kstB, envOf] at F1 N1
    clear e hf
    try k_fold
    walk_at "ST"
    all_goals (rename Fr _ _ _ _ => Fz)
    all_goals (rename News _ _ _ _ => Nz)
    all_goals (rename TX _ _ => Tz)
    all_goals rw [hs]
    all_goals (unfold runStep)
    · rename ((_ != _) = true) => hc
      (refine' turn_end (_, _, _) Fz Nz ?ua ?us ?un ?ub ?uj)
      case ub => walk_at "BND"
      case us => walk_at "SUB"
      case ua => k_mem
      case un => exact hne2 hne
      case uj =>
        rw [if_pos hc]
        exact ⟨by simpa using Tz, rfl⟩
    · rename ((_ != _) = false) => hc
      (refine' turn_end (_, _, _) Fz Nz ?ua' ?us' ?un' ?ub' ?uj')
      case ub' => walk_at "BND"
      case us' => walk_at "SUB"
      case ua' => k_mem
      case un' => exact hne2 hne
      case uj' =>
        rw [if_neg (ne_true_of_eq_false hc)]
        exact ⟨Tz, rfl⟩
  case id =>
    rintro ⟨vs, n, b⟩ m₁ h tk ⟨hj1, hj2⟩ F1 N1
    dsimp only [kstB, envOf] at F1 N1 hj1 hj2
    have hf := (runsS_facts Unicode.isSpace x).2.2
    subst hj2
    try k_fold
    walk_at "ST"
    all_goals (rename News _ _ _ _ => Nz)
    all_goals (rename TX _ _ => Tz)
    · rename (_ = true) => hc
      exact ctl_end hret Tz (by rw [runsF, if_pos hc]) (by assumption) Nz (by k_mem) (by walk_at "SUB") l1
    · rename (_ = false) => hc
      exact ctl_end hret Tz (by rw [runsF, if_neg (ne_true_of_eq_false hc)]) (by assumption) Nz (by k_mem) (by walk_at "SUB") l1
end
section
local macro_rules | `(tactic| walk_at "execs cons") => `(tactic| (k_dflt (dsimp only)))
local macro_rules | `(tactic| walk_at "execs nil") => `(tactic| (k_dflt (dsimp only)))
theorem lruns_ct (w : World) (mean : ExcName → Option Value) (mg mb : Str → Option Value) (x : List Nat) (tk : Tok) (hx : x.length ≤ 10000) :
    CtL w mean mg mb 1 81 [.str (S x) tk] (runsF bl4 x) := by
  unfold CtL Ct
  intro news dp un gd cn cs a ccd cl outer A₀ base h₀ L m s Q E B F X N T hk hd hu hret
  refine wpAny_call ?_
  k_dflt cell_enter
  walk_at "ST"
  rename_i D1 _ l1 _ _ _ _ _ _ F1 N1
  (with_unfolding_all refine' For_invVF F1 ?k1 ?k2 ?_; (case k1 => exact rfl); (case k2 => exact rfl))
  walk_at "ST"
  (refine' it_text (σ := List Value × Nat × Bool) (fun c => (D1, listOf c.1.toArray c.2.1) :: news) (fun c => [(Str.ofString "found", .ref D1), (Str.ofString "is_blank", .bool c.2.2)])
    (fun pre c => TX c.1 (runsS bl4 pre).1 ∧ c.2.2 = (runsS bl4 pre).2) ([.str (S []) _], 0, false) ?ih F1 (kst_newsOf N1 ?iN) ?ib ?ij ?it ?id)
  case ih => exact rfl
  case iN => walk_at "SUB"
  case ib => walk_at "BND"
  case ij => exact ⟨TX.one _ _, rfl⟩
  case it =>
    rintro pre k post t ⟨vs, n, b⟩ m₁ h tk I oI e ⟨hj1, hj2⟩ hne F1 N1
    have hI := addr_ne (hne _ (List.Mem.head _))
    have hf := runsS_facts bl4 pre
    have hl := lastL_len hf.1
    have hs := runsS_snoc bl4 pre k
    have hfne := hf.1
    have hfl := hf.2.2
    rw [hf.2.1] at hl
    have hlen := congrArg List.length e
    rw [List.length_append, List.length_cons] at hlen
    generalize runsS bl4 pre = st at *
    dsimp only at hj1 hj2 hne hI
    subst hj2
    dsimp only [kstB, envOf] at F1 N1
    clear e hf
    try k_fold
    walk_at "ST"
    all_goals (rename Fr _ _ _ _ => Fz)
    all_goals (rename News _ _ _ _ => Nz)
    all_goals (rename TX _ _ => Tz)
    all_goals rw [hs]
    all_goals (unfold runStep)
    · rename ((_ != _) = true) => hc
      replace hc : (bl4 k != st.2) = true := hc
      (refine' turn_end (_, _, _) Fz Nz ?ua ?us ?un ?ub ?uj)
      case ub => walk_at "BND"
      case us => walk_at "SUB"
      case ua => k_mem
      case un => exact hne2 hne
      case uj =>
        rw [if_pos hc]
        exact ⟨by simpa using Tz, rfl⟩
    · rename ((_ != _) = false) => hc
      replace hc : (bl4 k != st.2) = false := hc
      (refine' turn_end (_, _, _) Fz Nz ?ua' ?us' ?un' ?ub' ?uj')
      case ub' => walk_at "BND"
      case us' => walk_at "SUB"
      case ua' => k_mem
      case un' => exact hne2 hne
      case uj' =>
        rw [if_neg (ne_true_of_eq_false hc)]
        exact ⟨Tz, rfl⟩
  case id =>
    rintro ⟨vs, n, b⟩ m₁ h tk ⟨hj1, hj2⟩ F1 N1
    dsimp only [kstB, envOf] at F1 N1 hj1 hj2
    have hf := (runsS_facts bl4 x).2.2
    subst hj2
    try k_fold
    walk_at "ST"
    all_goals (rename News _ _ _ _ => Nz)
    all_goals (rename TX _ _ => Tz)
    · rename (_ = true) => hc
      exact ctl_end hret Tz (by rw [runsF, if_pos hc]) (by assumption) Nz (by k_mem) (by walk_at "SUB") (by walk_at "LT")
    · rename (_ = false) => hc
      exact ctl_end hret Tz (by rw [runsF, if_neg (ne_true_of_eq_false hc)]) (by assumption) Nz (by k_mem) (by walk_at "SUB") (by walk_at "LT")
end
section
local macro_rules | `(tactic| walk_at "execs cons") => `(tactic| (k_dflt (dsimp only)))
local macro_rules | `(tactic| walk_at "execs nil") => `(tactic| (k_dflt (dsimp only)))
theorem llines_ct (w : World) (mean : ExcName → Option Value) (mg mb : Str → Option Value) (x : List Nat) (tx : Tok) (hx : x.length ≤ 10000) :
    CtL w mean mg mb 1 74 [.str (S x) tx] (lnF x) := by
  unfold CtL Ct
  intro news dp un gd cn cs a ccd cl outer A₀ base h₀ L m s Q E B F X N T hk hd hu hret
  refine wpAny_call ?_
  k_dflt cell_enter
  walk_at "ST"
  walk1
  walk_at "ST"
  rename_i D1 _ l1 _ _ _ _ e1 F1 N1 S0
  (refine' it_enum (σ := List Value × Nat × List (List Nat)) (fun c => listOf c.1.toArray c.2.1) (fun c => [(Str.ofString "found", .ref D1), (Str.ofString "text", .str (S x) tx)])
    (fun pre c => TX c.1 c.2.2 ∧ c.2.2 ≠ [] ∧ c.2.2.flatten = pre ∧ c.2.2.length ≤ pre.length + 1 ∧ ∀ post, x = pre ++ post → lnS c.2.2 post = lnS [[]] x) ([.str (S []) _], 0, [[]]) S0 (lt_ne l1) ?ib ?ij ?it ?id)
  case ib => walk_at "BND"
  case ij => exact ⟨TX.one _ _, by simp, rfl, by simp, fun post e => by rw [e]; rfl⟩
  case it =>
    rintro pre k post t u ⟨vs, n, ls⟩ m₁ h tk rest e ⟨hj1, hj2, hj3, hj4, hj5⟩ hsub hoff F1 N1
    dsimp only at hj1 hj2 hj3 hj4 hj5 N1
    have hl := lastL_len hj2
    have hf := lnStep_facts (k := k) (r := post) hj2 hj3 hj4
    have hs := hj5 _ e
    rw [hj3] at hl
    have hlen := congrArg List.length e
    rw [List.length_append, List.length_cons] at hlen
    have hsl : (x.drop (pre.length + 1)).take 1 = post.take 1 := by rw [e]; simp
    dsimp only [kstB, envOf] at F1 N1
    have hpost : ∀ p', x = (pre ++ [k]) ++ p' → p' = post := fun p' h => by rw [e] at h; simpa using h.symm
    dsimp only [lnS] at hs
    clear hj5 e
    try k_fold
    walk_at "ST"
    all_goals (rename Fr _ _ _ _ => Fz)
    all_goals (rename News _ _ _ _ => Nz)
    all_goals (rename TX _ _ => Tz)
    all_goals first
      | (have hc : k = 10 ∨ (k = 13 ∧ post.take 1 ≠ [10]) := by first | exact ln_c1 (by assumption) | exact ln_c2 hsl (by assumption) (by assumption)
         rw [lnStep, if_pos hc] at hf hs
         (refine' enum_end (_, _, _) Fz Nz ?es ?eb ?ej)
         case eb => walk_at "BND"
         case es => walk_at "SUB"
         case ej => exact ⟨Tz, hf.1, hf.2.1, hf.2.2, fun p' h => by rw [hpost p' h]; exact hs⟩)
      | (have hc : ¬ (k = 10 ∨ (k = 13 ∧ post.take 1 ≠ [10])) := by first | exact ln_n1 hsl (by assumption) (by assumption) | exact ln_n2 (by assumption) (by assumption)
         rw [lnStep, if_neg hc] at hf hs
         (refine' enum_end (_, _, _) Fz Nz ?es ?eb ?ej)
         case eb => walk_at "BND"
         case es => walk_at "SUB"
         case ej => exact ⟨Tz, hf.1, hf.2.1, hf.2.2, fun p' h => by rw [hpost p' h]; exact hs⟩)
  case id =>
    rintro ⟨vs, n, ls⟩ m₁ h tk ⟨hj1, hj2, hj3, hj4, hj5⟩ F1 N1
    dsimp only [kstB, envOf] at F1 N1 hj1 hj2 hj3 hj4
    have hs := hj5 [] (by simp)
    dsimp only [lnS] at hs
    have hfl : ls.length ≤ x.length + 1 := hj4
    try k_fold
    walk_at "ST"
    all_goals (rename News _ _ _ _ => Nz)
    all_goals (rename TX _ _ => Tz)
    · rename (_ = true) => hc
      exact ctl_end hret Tz (by rw [lnF, ← hs, if_pos (eq_of_beq hc)]) (by assumption) Nz (by k_mem) (by walk_at "SUB") (by walk_at "LT")
    · rename (_ = false) => hc
      exact ctl_end hret Tz (by rw [lnF, ← hs, if_neg (ne_of_beq_false hc)]) (by assumption) Nz (by k_mem) (by walk_at "SUB") (by walk_at "LT")
end
section
local macro_rules | `(tactic| walk_at "execs cons") => `(tactic| (k_dflt (dsimp only)))
local macro_rules | `(tactic| walk_at "execs nil") => `(tactic| (k_dflt (dsimp only)))
local macro_rules | `(tactic| walk_at "call ref") => `(tactic| ((with_reducible show wpAny _ _ (call (Value.ref 67) _) _ _ _);  k_here; k_dflt (refine' ctS_use (lesc_ct _ _ _ _ _ _ ?hx) ?k1 ?k2 ?k3 ?k4 ?k5 ?kK ?kd ?ku ?_; walk_at "CTX"; (case hx => walk_at "LEN")); intro _ _ _ _ _; (try k_sweep)))
local macro_rules | `(tactic| walk_at "call ref") => `(tactic| ((with_reducible show wpAny _ _ (call (Value.ref 81) _) _ _ _);  k_here; k_dflt (refine' ctL_use (lruns_ct _ _ _ _ _ _ ?hx) ?k1 ?k2 ?k3 ?k4 ?k5 ?kK ?kd ?ku ?_; walk_at "CTX"; (case hx => walk_at "LEN")); intro _ _ _ _ _ _ _ _ l1; (try (have l2 := l1; k_lt l2)); (try k_sweep)))
theorem lparts_ct (w : World) (mean : ExcName → Option Value) (mg mb : Str → Option Value) (x : List Nat) (more width : Int) (tx tm tw : Tok) (hx : x.length ≤ 1000) (hm : 0 ≤ more) :
    CtL w mean mg mb 2 88 [.str (S x) tx, .int more tm, .int width tw] (partsF more width (runsF bl4 x)) := by
  unfold CtL Ct
  intro news dp un gd cn cs a ccd cl outer A₀ base h₀ L m s Q E B F X N T hk hd hu hret
  have hrl := runsF_length bl4 x
  have hrf := runsF_flatten bl4 x
  refine wpAny_call ?_
  k_dflt cell_enter
  walk_at "ST"
  rename_i D1 _ l1 _ _ _ _ _ _ F1 N1
  (with_unfolding_all refine' For_invVF F1 ?k1 ?k2 ?_; (case k1 => exact rfl); (case k2 => exact rfl))
  walk_at "ST"
  rename_i D2 us nn _ _ Tr F2 N2 l3 l4
  (refine' it_list (σ := List Value × Nat × (List (List Nat) × Int) × Tok) (fun c => (D1, listOf c.1.toArray c.2.1) :: (D2, listOf us.toArray nn) :: news)
    (fun c => [(Str.ofString "found", .ref D1), (Str.ofString "size", .int c.2.2.1.2 c.2.2.2), (Str.ofString "more", .int more tm), (Str.ofString "width", .int width tw)])
    (fun pre c => TX c.1 c.2.2.1.1 ∧ c.2.2.1 = partsS more width pre) ([], 0, ([], width), _) Tr (fun _ => List.Mem.tail _ (List.Mem.head _)) ?ih F2 (kst_newsOf N2 ?iN) ?ib ?ij ?it ?id)
  case ih => exact rfl
  case ib => walk_at "BND"
  case iN => walk_at "SUB"
  case ij => exact ⟨TX.nil, rfl⟩
  case it =>
    rintro pre k post t ⟨vs, n, ⟨ls, size⟩, ts⟩ m₁ h tk I oI e ⟨hj1, hj2⟩ hne F1 N1
    have hI := addr_ne (hne _ (List.Mem.head _))
    have hI2 := addr_ne (hne _ (List.Mem.tail _ (List.Mem.head _)))
    have hok := partsS_ok (width := width) hm pre
    have hs := partsS_snoc more width pre k
    rw [← hj2] at hs hok
    obtain ⟨ho1, ho2, ho3⟩ := hok
    dsimp only at hj1 ho1 ho2 ho3 hI hI2 hs hne
    have hk1 : k.length ≤ x.length := by
      rw [← hrf, e]
      exact mem_flatten_len (by simp)
    have hp1 : pre.flatten.length ≤ x.length := by
      rw [← hrf, e, List.flatten_append, List.length_append]; omega
    have hp2 : pre.length ≤ x.length + 2 := by
      have := congrArg List.length e
      rw [List.length_append, List.length_cons] at this; omega
    have hq := escQ_ge k
    have hq2 := escL_len k
    have hq3 := escQ_len k
    dsimp only [kstB, envOf] at F1 N1
    clear e hj2
    try k_fold
    have hnz : ∀ z : Int, 0 ≤ z → size + z < width → ls ≠ [] := fun z h0 h1 q => by have := ho1 q; omega
    have hll : ls ≠ [] → (lastL ls).length ≤ x.length := fun q => by
      have := lastL_len q
      rw [ho2] at this; omega
    have hll2 : (lastL ls).length ≤ x.length := by
      by_cases q : ls = []
      · rw [q]; exact Nat.zero_le _
      · exact hll q
    clear hll
    walk_at "ST"
    all_goals (rename Fr _ _ _ _ => Fz)
    all_goals (rename News _ _ _ _ => Nz)
    all_goals (rename TX _ _ => Tz)
    all_goals rw [hs]
    all_goals (unfold partStep)
    · rename (_ < width) => hc
      (refine' turn_end (_, _, (ls.dropLast ++ [lastL ls ++ k], _), _) Fz Nz ?ua ?us ?un ?ub ?uj)
      case ub => walk_at "BND"
      case us => walk_at "SUB"
      case ua => k_mem
      case un => exact hne2 hne
      case uj =>
        rw [if_pos hc]
        exact ⟨Tz, rfl⟩
    · rename (¬ size + _ < width) => hc
      rename (2 + _ < width) => hc2
      (refine' turn_end (_, _, (ls ++ [k], _), _) Fz Nz ?va ?vs ?vn ?vb ?vj)
      case vb => walk_at "BND"
      case vs => walk_at "SUB"
      case va => k_mem
      case vn => exact hne2 hne
      case vj =>
        rw [if_neg hc, if_pos hc2]
        exact ⟨Tz, rfl⟩
    · rename (¬ size + _ < width) => hc
      rename (¬ 2 + _ < width) => hc2
      (refine' turn_end (_, _, (ls ++ [k], _), _) Fz Nz ?xa ?xs ?xn ?xb ?xj)
      case xb => walk_at "BND"
      case xs => walk_at "SUB"
      case xa => k_mem
      case xn => exact hne2 hne
      case xj =>
        rw [if_neg hc, if_neg hc2]
        exact ⟨Tz, rfl⟩
  case id =>
    rintro ⟨vs, n, ⟨ls, size⟩, ts⟩ m₁ h tk ⟨hj1, hj2⟩ F1 N1
    dsimp only [kstB, envOf] at F1 N1 hj1 hj2
    try k_fold
    walk_at "ST"
    all_goals (rename News _ _ _ _ => Nz)
    all_goals exact ctl_end hret hj1 (by rw [partsF, ← hj2]) (by assumption) Nz (by k_mem) (by walk_at "SUB") (by walk_at "LT")
end
section
local macro_rules | `(tactic| walk_at "execs cons") => `(tactic| (k_dflt (dsimp only)))
local macro_rules | `(tactic| walk_at "execs nil") => `(tactic| (k_dflt (dsimp only)))
local macro_rules | `(tactic| walk_at "call ref") => `(tactic| ((with_reducible show wpAny _ _ (call (Value.ref 67) _) _ _ _);  k_here; k_dflt (refine' ctS_use (lesc_ct _ _ _ _ _ _ ?hx) ?k1 ?k2 ?k3 ?k4 ?k5 ?kK ?kd ?ku ?_; walk_at "CTX"; (case hx => walk_at "LEN")); intro _ _ _ _ _; (try k_sweep)))
local macro_rules | `(tactic| walk_at "call ref") => `(tactic| ((with_reducible show wpAny _ _ (call (Value.ref 74) _) _ _ _);  k_here; k_dflt (refine' ctL_use (llines_ct _ _ _ _ _ _ ?hx) ?k1 ?k2 ?k3 ?k4 ?k5 ?kK ?kd ?ku ?_; walk_at "CTX"; (case hx => walk_at "LEN")); intro _ _ _ _ _ _ _ _ l1; (try (have l2 := l1; k_lt l2)); (try k_sweep)))
local macro_rules | `(tactic| walk_at "call ref") => `(tactic| ((with_reducible show wpAny _ _ (call (Value.ref 88) _) _ _ _);  k_here; k_dflt (refine' ctL_use (lparts_ct _ _ _ _ _ _ _ _ _ _ ?hx ?hm) ?k1 ?k2 ?k3 ?k4 ?k5 ?kK ?kd ?ku ?_; walk_at "CTX"; (case hx => walk_at "LEN"); (case hm => walk_at "LEN")); intro _ _ _ _ _ _ _ _ l1; (try (have l2 := l1; k_lt l2)); (try k_sweep)))
theorem llot_ct (w : World) (mean : ExcName → Option Value) (mg mb : Str → Option Value) (x p : List Nat) (width : Int) (tx tp tw : Tok) (hx : x.length ≤ 490) (hp : p.length ≤ 100) :
    CtL w mean mg mb 3 95 [.str (S x) tx, .str (S p) tp, .int width tw] (lotF (p.length : Int) width x) := by
  unfold CtL Ct
  intro news dp un gd cn cs a ccd cl outer A₀ base h₀ L m s Q E B F X N T hk hd hu hret
  have hlf := lnF_flatten x
  have hll := lnF_length x
  refine wpAny_call ?_
  k_dflt cell_enter
  walk_at "ST"
  rename_i D1 _ l1 _ F1 N1
  (with_unfolding_all refine' For_invVF F1 ?k1 ?k2 ?_; (case k1 => exact rfl); (case k2 => exact rfl))
  walk_at "ST"
  rename_i D2 us nn _ _ Tr F2 N2 l3 l4
  (refine' it_list (σ := Addr × List Value × Nat × List (List Nat)) (fun c => (c.1, listOf c.2.1.toArray c.2.2.1) :: (D2, listOf us.toArray nn) :: news)
    (fun c => [(Str.ofString "found", .ref c.1), (Str.ofString "prefix", .str (S p) tp), (Str.ofString "width", .int width tw)])
    (fun pre c => TX c.2.1 c.2.2.2 ∧ c.2.2.2 = pre.flatMap (lotLine (p.length : Int) width) ∧ (∀ q ∈ news, q.1 < c.1) ∧ c.1 ≠ D2) (D1, [], 0, []) Tr (fun _ => List.Mem.tail _ (List.Mem.head _)) ?ih F2 (kst_newsOf N2 ?iN) ?ib ?ij ?it ?id)
  case ih => exact rfl
  case ib => walk_at "BND"
  case iN => walk_at "SUB"
  case ij => exact ⟨TX.nil, rfl, l1, Nat.ne_of_lt l4.1⟩
  case it =>
    rintro pre k post t ⟨D, vs, n, ls⟩ m₁ h tk I oI e ⟨hj1, hj2, hj3, hj4⟩ hne F1 N1
    have hI := addr_ne (hne _ (List.Mem.head _))
    have hI2 := addr_ne (hne _ (List.Mem.tail _ (List.Mem.head _)))
    have hj5 := addr_ne hj4
    dsimp only at hj1 hj2 hj3 hj5 hI hI2 hne
    have hpf := lotPre_facts (plen := (p.length : Int)) (width := width) (by omega) pre
    rw [← hj2] at hpf
    obtain ⟨hp1, hp2⟩ := hpf
    have hk0 : pre.flatten.length + k.length ≤ x.length := by
      rw [← hlf, e, List.flatten_append, List.length_append, List.flatten_cons, List.length_append]; omega
    have hp3 : pre.length ≤ x.length + 1 := by
      have := congrArg List.length e
      rw [List.length_append, List.length_cons] at this; omega
    have hq := escQ_len k
    have hq2 := escL_len k
    have hll2 := (partsF_facts (plen := (p.length : Int)) (width := width) (by omega) k).2
    dsimp only [kstB, envOf] at F1 N1
    clear e
    try k_fold
    walk_at "ST"
    all_goals (rename Fr _ _ _ _ => Fz)
    all_goals (rename News _ _ _ _ => Nz)
    all_goals (rename TX _ _ => Tz)
    · rename (0 < width) => c1
      rename (width < _) => c2
      rename (∀ q : Addr × Obj, q ∈ ((_, _) :: _ : List (Addr × Obj)) → q.1 < _) => lz
      (refine' turn_end (_, _, _, ls ++ partsF (p.length : Int) width (runsF bl4 k)) Fz Nz ?ua ?us ?un ?ub ?uj)
      case ub => walk_at "BND"
      case us => walk_at "SUB"
      case ua => k_mem
      case un => exact hne3 hne (lz (I, oI) (by k_mem))
      case uj => exact ⟨Tz, lot_yes hj2 c1 c2, lt_sub lz (by walk_at "SUB"), Nat.ne_of_gt (lz (D2, listOf us.toArray nn) (by k_mem))⟩
    · rename (¬ width < _) => c2
      (refine' turn_end (_, _, _, ls ++ [k]) Fz Nz ?va ?vs ?vn ?vb ?vj)
      case vb => walk_at "BND"
      case vs => walk_at "SUB"
      case va => k_mem
      case vn => exact hne2 hne
      case vj => exact ⟨Tz, lot_no hj2 (fun q => c2 q.2), hj3, hj4⟩
    · rename (¬ 0 < width) => c2
      (refine' turn_end (_, _, _, ls ++ [k]) Fz Nz ?xa ?xs ?xn ?xb ?xj)
      case xb => walk_at "BND"
      case xs => walk_at "SUB"
      case xa => k_mem
      case xn => exact hne2 hne
      case xj => exact ⟨Tz, lot_no hj2 (fun q => c2 q.1), hj3, hj4⟩
  case id =>
    rintro ⟨D, vs, n, ls⟩ m₁ h tk ⟨hj1, hj2, hj3, hj4⟩ F1 N1
    dsimp only [kstB, envOf] at F1 N1 hj1 hj2 hj3
    try k_fold
    walk_at "ST"
    all_goals (rename News _ _ _ _ => Nz)
    all_goals exact ctl_end hret hj1 hj2 (by assumption) Nz (by k_mem) (by walk_at "SUB") hj3
end
section
local macro_rules | `(tactic| walk_at "execs cons") => `(tactic| (k_dflt (dsimp only)))
local macro_rules | `(tactic| walk_at "execs nil") => `(tactic| (k_dflt (dsimp only)))
local macro_rules | `(tactic| walk_at "call ref") => `(tactic| ((with_reducible show wpAny _ _ (call (Value.ref 67) _) _ _ _);  k_here; k_dflt (refine' ctS_use (lesc_ct _ _ _ _ _ _ ?hx) ?k1 ?k2 ?k3 ?k4 ?k5 ?kK ?kd ?ku ?_; walk_at "CTX"; (case hx => walk_at "LEN")); intro _ _ _ _ _; (try k_sweep)))
local macro_rules | `(tactic| walk_at "call ref") => `(tactic| ((with_reducible show wpAny _ _ (call (Value.ref 95) _) _ _ _);  k_here; k_dflt (refine' ctL_use (llot_ct _ _ _ _ _ _ _ _ _ _ ?hx ?hm) ?k1 ?k2 ?k3 ?k4 ?k5 ?kK ?kd ?ku ?_; walk_at "CTX"; (case hx => walk_at "LEN"); (case hm => walk_at "LEN")); intro _ _ _ _ _ _ _ _ l1; (try (have l2 := l1; k_lt l2)); (try k_sweep)))
theorem lrows_ct (w : World) (mean : ExcName → Option Value) (mg mb : Str → Option Value) (x p : List Nat) (width : Int) (tx tp tw : Tok) (hx : x.length ≤ 490) (hp : p.length ≤ 100) :
    CtS w mean mg mb 4 100 [.str (S x) tx, .str (S p) tp, .int width tw] (rowsF (p.length : Int) width p x) := by
  unfold CtS Ct
  intro news dp un gd cn cs a ccd cl outer A₀ base h₀ L m s Q E B F X N T hk hd hu hret
  have hlf := lotPre_facts (plen := (p.length : Int)) (width := width) (by omega) (lnF x)
  rw [lnF_flatten] at hlf
  change (lotF _ _ _).flatten = _ ∧ (lotF _ _ _).length ≤ _ at hlf
  have hll := lnF_length x
  obtain ⟨hlf1, hlf2⟩ := hlf
  have hl2 : 2 ≤ (lotF (p.length : Int) width x).length → (lastL (lotF (p.length : Int) width x).dropLast).length ≤ x.length := fun h => Nat.le_trans (last2_len h) (Nat.le_of_eq (congrArg List.length hlf1))
  refine wpAny_call ?_
  k_dflt walk_at "ENTC"
  walk_at "ST"
  all_goals (rename Fr _ _ _ _ => Fz)
  all_goals (rename News _ _ _ _ => Nz)
  · rename (_ < (2 : Int)) => c1
    exact cts_end hret (rows_few (by omega)).symm Fz Nz (by walk_at "SUB")
  all_goals (rename (¬ _ < (2 : Int)) => c1)
  all_goals (rename ((_ == _) = _) => c2)
  all_goals (have hge : 2 ≤ (lotF (p.length : Int) width x).length := by omega)
  all_goals (obtain ⟨hfx1, hfx2⟩ := lotFix_facts hge)
  all_goals (rw [hlf1] at hfx2)
  all_goals (rename TX _ _ => Tz)
  all_goals (have hsum := rows_sum (q := [10] ++ p) (n := 101) (k := 1472) (r := 491) (ls := lotFix (lotF (p.length : Int) width x)) (by rw [List.length_append, List.length_singleton]; omega) (by omega) (by omega))
  all_goals (have hjl := joinL_len [] ((lotFix (lotF (p.length : Int) width x)).map fun l => ([10] ++ p) ++ escQ l))
  all_goals (rw [List.length_nil, Nat.zero_mul] at hjl)
  · have T2 := (congrArg (TX _) (fix_yes (eq_of_beq c2))).mpr Tz
    (refine' comp_S (fun l => ([10] ++ p) ++ escQ l) rfl Fz Nz (by k_mem) T2 (by omega) ?turn ?fin)
    case turn =>
      intro k tk3 I oI C oC D m₂ ys h3 tkk E' hk3 hC3 hx3 F3 N3
      have hkl := mem_flatten_len hk3
      have hq := escQ_len k
      have hq2 := escL_len k
      walk_at "ST"
      rename Fr _ _ _ _ => Fy
      rename News _ _ _ _ => Ny
      exact turnC_end Fy Ny rfl (by walk_at "SUB")
    case fin =>
      intro D us kk h3 tkk T3 F3 N3
      walk_at "ST"
      rename Fr _ _ _ _ => Fy
      rename News _ _ _ _ => Ny
      exact cts_end hret (rows_many (by omega) rfl) Fy Ny (by walk_at "SUB")
  · have T2 := (congrArg (TX _) (fix_no (ne_of_beq_false c2))).mpr Tz
    (refine' comp_S (fun l => ([10] ++ p) ++ escQ l) rfl Fz Nz (by k_mem) T2 (by omega) ?bturn ?bfin)
    case bturn =>
      intro k tk3 I oI C oC D m₂ ys h3 tkk E' hk3 hC3 hx3 F3 N3
      have hkl := mem_flatten_len hk3
      have hq := escQ_len k
      have hq2 := escL_len k
      walk_at "ST"
      rename Fr _ _ _ _ => Fy
      rename News _ _ _ _ => Ny
      exact turnC_end Fy Ny rfl (by walk_at "SUB")
    case bfin =>
      intro D us kk h3 tkk T3 F3 N3
      walk_at "ST"
      rename Fr _ _ _ _ => Fy
      rename News _ _ _ _ => Ny
      exact cts_end hret (rows_many (by omega) rfl) Fy Ny (by walk_at "SUB")
end
section
local macro_rules | `(tactic| walk_at "execs cons") => `(tactic| (k_dflt (dsimp only)))
local macro_rules | `(tactic| walk_at "execs nil") => `(tactic| (k_dflt (dsimp only)))
local macro_rules | `(tactic| walk_at "call ref") => `(tactic| ((with_reducible show wpAny _ _ (call (Value.ref 21) _) _ _ _);  k_here; k_dflt (refine' ctS_use (unesc_ct _ _ _ _ _ _ ?hx ?hy) ?k1 ?k2 ?k3 ?k4 ?k5 ?kK ?kd ?ku ?_; walk_at "CTX"; (case hx => walk_at "LEN"); (case hy => walk_at "LEN")); intro _ _ _ _ _; (try k_sweep)))
theorem denorm_ct (w : World) (mean : ExcName → Option Value) (mg mb : Str → Option Value) (x : List Nat) (tx : Tok) (hx : x.length ≤ 10000) (hx2 : 2 ≤ x.length) (hn : (LN x).length ≤ 20000) (hf : (LN x).flatten.length ≤ 20000) (h10 : ∀ l ∈ LN x, 2 ≤ l.length ∧ l.length ≤ 10000) :
    CtS w mean mg mb 3 26 [.str (S x) tx] (denF x) := by
  unfold CtS Ct
  intro news dp un gd cn cs a ccd cl outer A₀ base h₀ L m s Q E B F X N T hk hd hu hret
  have hd1 : ((LN x).drop 1).length ≤ 20000 := by rw [List.length_drop]; omega
  have hs1 := sum_len2 (g := unlQ) (c := 0) unlQ_len hn hf
  have hs2 := sum_len2 (g := unlQ) (c := 0) unlQ_len hd1 (Nat.le_trans (flat_drop _) hf)
  refine wpAny_call ?_
  k_dflt cell_enter
  walk_at "ST"
  all_goals (rename Fr _ _ _ _ => Fz)
  all_goals (rename News _ _ _ _ => Nz)
  · rename (10 ∈ x) => c1
    rename ((_ == _) = _) => c2
    rename TX _ _ => Tz
    (refine' comp_S unlQ rfl Fz Nz (by k_mem) Tz (by walk_at "LEN") ?aturn ?afin)
    case aturn =>
      intro k tk3 I oI C oC D m₂ ys h3 tkk E' hk3 hC3 hx3 F3 N3
      obtain ⟨hk1, hk2⟩ := h10 k (List.mem_of_mem_drop hk3)
      walk_at "ST"
      rename Fr _ _ _ _ => Fy
      rename News _ _ _ _ => Ny
      exact turnC_end Fy Ny rfl (by walk_at "SUB")
    case afin =>
      intro D us kk h3 tkk T3 F3 N3
      walk_at "ST"
      rename Fr _ _ _ _ => Fy
      rename News _ _ _ _ => Ny
      exact cts_end hret (den_a c1 c2) Fy Ny (by walk_at "SUB")
  · rename (10 ∈ x) => c1
    rename ((_ == _) = _) => c2
    rename TX _ _ => Tz
    (refine' comp_S unlQ rfl Fz Nz (by k_mem) Tz (by walk_at "LEN") ?bturn ?bfin)
    case bturn =>
      intro k tk3 I oI C oC D m₂ ys h3 tkk E' hk3 hC3 hx3 F3 N3
      obtain ⟨hk1, hk2⟩ := h10 k hk3
      walk_at "ST"
      rename Fr _ _ _ _ => Fy
      rename News _ _ _ _ => Ny
      exact turnC_end Fy Ny rfl (by walk_at "SUB")
    case bfin =>
      intro D us kk h3 tkk T3 F3 N3
      walk_at "ST"
      rename Fr _ _ _ _ => Fy
      rename News _ _ _ _ => Ny
      exact cts_end hret (den_b c1 c2) Fy Ny (by walk_at "SUB")
  · rename (¬ 10 ∈ x) => c1
    exact cts_end hret (den_no c1) Fz Nz (by walk_at "SUB")
end
section
local macro_rules | `(tactic| walk_at "call ref") => `(tactic| ((with_reducible show wpAny _ _ (call (Value.ref 40) _) _ _ _);  k_here; k_dflt (refine' ctS_use (esc_ct _ _ _ _ _ _ ?hx) ?k1 ?k2 ?k3 ?k4 ?k5 ?kK ?kd ?ku ?_; walk_at "CTX"; (case hx => walk_at "LEN")); intro _ _ _ _ _; (try k_sweep)))
local macro_rules | `(tactic| walk_at "call ref") => `(tactic| ((with_reducible show wpAny _ _ (call (Value.ref 33) _) _ _ _);  k_here; k_dflt (refine' ctL_use (chunks_ct _ _ _ _ _ _ ?hx) ?k1 ?k2 ?k3 ?k4 ?k5 ?kK ?kd ?ku ?_; walk_at "CTX"; (case hx => walk_at "LEN")); intro _ _ _ _ _ _ _ _ l1; (try (have l2 := l1; k_lt l2)); (try k_sweep)))
theorem norm_ct (w : World) (mean : ExcName → Option Value) (mg mb : Str → Option Value) (x p : List Nat) (width : Int) (tx tp tw : Tok) (hx : x.length ≤ 490) (hp : p.length ≤ 100) (hLK : LK x = lnF x) (hRB : ∀ l ∈ lnF x, runsF Unicode.isSpace l = runsF bl4 l) :
    CtS w mean mg mb 3 46 [.str (S x) tx, .str (S p) tp, .int width tw] (rowsF (p.length : Int) width p x) := by
  unfold CtS Ct
  intro news dp un gd cn cs a ccd cl outer A₀ base h₀ L m s Q E B F X N T hk hd hu hret
  have hlf := lnF_flatten x
  have hll := lnF_length x
  refine wpAny_call ?_
  k_dflt walk_at "ENTC"
  walk_at "ST"
  · rename_i g1 L1 _ _ FG1 B1 X1 T1 l0 o1 d1 c0 c1 _ tq _ _ _ Dl _ l1 l2 _ F1 N1
    (with_unfolding_all refine' For_invVF F1 ?k1 ?k2 ?_; (case k1 => exact rfl); (case k2 => exact rfl))
    walk_at "ST"
    rename_i D2 us _ _ F2 N2 l3 Tr l4
    rw [hLK] at Tr
    (refine' it_list (σ := List Value × Nat × List (List Nat)) (fun c => (Dl, listOf c.1.toArray c.2.1) :: (D2, listOf us.toArray 0) :: (L1 + 1, o1) :: news)
      (fun c => [(Str.ofString "lines", .ref Dl), (Str.ofString "string", .str (S x) tx), (Str.ofString "prefixlen", .int (p.length : Int) tq), (Str.ofString "width", .int width tw)])
      (fun pre c => TX c.1 c.2.2 ∧ c.2.2 = pre.flatMap (lotLine (p.length : Int) width)) ([], 0, []) Tr (fun _ => List.Mem.tail _ (List.Mem.head _)) ?ih F2 (kst_newsOf N2 ?iN) ?ib ?ij ?it ?id)
    case ih => exact rfl
    case ib => walk_at "BND"
    case iN => walk_at "SUB"
    case ij => exact ⟨TX.nil, rfl⟩
    case it =>
      rintro pre k post t ⟨lv, ln, ls⟩ m₁ h tk I oI e ⟨hj1, hj2⟩ hne F1 N1
      have hI := addr_ne (hne _ (List.Mem.head _))
      have hI2 := addr_ne (hne _ (List.Mem.tail _ (List.Mem.head _)))
      have hI3 := addr_ne (hne _ (List.Mem.tail _ (List.Mem.tail _ (List.Mem.head _))))
      dsimp only at hj1 hj2 hI hI2 hI3 hne
      have hpf := lotPre_facts (plen := (p.length : Int)) (width := width) (by omega) pre
      rw [← hj2] at hpf
      obtain ⟨hp1, hp2⟩ := hpf
      have hk0 : pre.flatten.length + k.length ≤ x.length := by
        rw [← hlf, e, List.flatten_append, List.length_append, List.flatten_cons, List.length_append]; omega
      have hp3 : pre.length ≤ x.length + 1 := by
        have := congrArg List.length e
        rw [List.length_append, List.length_cons] at this; omega
      have hq := escQ_len k
      have hq2 := escL_len k
      have hrb := hRB k (by rw [e]; simp)
      have hrf := runsF_flatten bl4 k
      have hrl := runsF_length bl4 k
      rw [← hrb] at hrf hrl
      dsimp only [kstB, envOf] at F1 N1
      clear e
      try k_fold
      walk_at "ST"
      · rename_i _ _ _ _ _ ac _ Dc us0 nc _ _ Tc0 lc1 lc2 _ _ F3 N3 Tc
        generalize hchs : runsF Unicode.isSpace k = chs at *
        (refine' while_gen (σ := (List Value × Nat × List (List Nat)) × (List Value × Nat × List (List Nat)) × List (List Nat))
          (fun c => (Dc, listOf c.2.1.1.toArray c.2.1.2.1) :: (I, oI) :: (Dl, listOf c.1.1.toArray c.1.2.1) :: (D2, listOf us.toArray 0) :: (L1 + 1, o1) :: news)
          (fun c => [(Str.ofString "chunks", .ref Dc), (Str.ofString "lines", .ref Dl), (Str.ofString "string", .str (S x) tx), (Str.ofString "prefixlen", .int (p.length : Int) tq), (Str.ofString "width", .int width tw)])
          (fun c => TX c.1.1 c.1.2.2 ∧ TX c.2.1.1 c.2.1.2.2.reverse ∧ c.2.2 ++ c.2.1.2.2 = chs ∧ c.1.2.2 = ls ++ (partsS (p.length : Int) width c.2.2).1 ∧ Closed (p.length : Int) width c.2.2 c.2.1.2.2)
          (fun c => c.2.1.2.2.length) ((lv, ln, ls), (us0.reverse, nc, chs), []) F3 (kst_newsOf N3 ?wa) ?wb ?wc ?wd ?we)
        case wb => walk_at "BND"
        case wa => walk_at "SUB"
        case wc => exact ⟨hj1, Tc, rfl, by simp [partsS], closed_init (by omega) _⟩
        case we => first | passes_own | with_unfolding_all passes_own
        case wd =>
          rintro ⟨⟨lv2, ln2, ll⟩, ⟨cv, cn2, rs⟩, pr⟩ m₂ h2 tk2 ⟨w1, w2, w3, w4, w5⟩ F4 N4
          dsimp only [kstB, envOf] at F4 N4 w1 w2 w3 w4 w5
          try k_fold
          have hpo := (partsS_ok (more := (p.length : Int)) (width := width) (by omega) pr).2.2
          have hln1 := congrArg List.length w3
          have hln2 := congrArg List.length w4
          rw [List.length_append] at hln1 hln2
          cases rs with
          | nil =>
            rw [List.reverse_nil] at w2
            rw [List.append_nil] at w3
            walk_at "ST"
            rename Fr _ _ _ _ => Fz
            rename News _ _ _ _ => Nz
            (refine' turn_end (lv2, ln2, ll) Fz Nz ?ua ?us ?un ?ub ?uj)
            case ub => walk_at "BND"
            case us => walk_at "SUB"
            case ua => k_mem
            case un => exact hne2 hne
            case uj =>
              refine ⟨w1, ?_⟩
              rw [w4, w3, hrb]
              exact lot_yes hj2 c1 ac
          | cons r t3 =>
            rw [List.reverse_cons] at w2
            rw [List.length_cons] at hln1
            walk_at "ST"
            rename_i _ Db _ lb1 lb2 _ _ F5 N5
            (refine' while_gen (σ := (List Value × Nat × List (List Nat)) × (List Value × Nat × List (List Nat)) × (Int × Tok))
              (fun c => (Db, listOf c.1.1.toArray c.1.2.1) :: (Dc, listOf c.2.1.1.toArray c.2.1.2.1) :: (I, oI) :: (Dl, listOf lv2.toArray ln2) :: (D2, listOf us.toArray 0) :: (L1 + 1, o1) :: news)
              (fun c => [(Str.ofString "buf", .ref Db), (Str.ofString "chunks", .ref Dc), (Str.ofString "size", .int c.2.2.1 c.2.2.2), (Str.ofString "lines", .ref Dl), (Str.ofString "string", .str (S x) tx), (Str.ofString "prefixlen", .int (p.length : Int) tq), (Str.ofString "width", .int width tw)])
              (fun c => TX c.1.1 c.1.2.2 ∧ TX c.2.1.1 c.2.1.2.2.reverse ∧ pr ++ (c.1.2.2 ++ c.2.1.2.2) = chs ∧ Inn (p.length : Int) width pr c.1.2.2 c.2.2.1 ∧ Closed (p.length : Int) width pr (c.1.2.2 ++ c.2.1.2.2))
              (fun c => c.2.1.2.2.length) (([], 0, []), (cv, cn2, r :: t3), (2, _)) F5 (kst_newsOf N5 ?xa) ?xb ?xc ?xd ?xe)
            case xb => walk_at "BND"
            case xa => walk_at "SUB"
            case xc => exact ⟨TX.nil, (by rw [List.reverse_cons]; exact w2), w3, .inl ⟨rfl, rfl⟩, w5⟩
            case xe => first | passes_own | with_unfolding_all passes_own
            case xd =>
              rintro ⟨⟨bv, bn, mid⟩, ⟨cv3, cn3, rs3⟩, ⟨sz, tsz⟩⟩ m₃ h3 tk3 ⟨v1, v2, v3, v4, v5⟩ F6 N6
              dsimp only [kstB, envOf] at F6 N6 v1 v2 v3 v4 v5
              try k_fold
              have hln3 := congrArg List.length v3
              rw [List.length_append, List.length_append] at hln3
              have hsm : (mid.map List.length).sum ≤ k.length := by
                rw [← flat_len, ← hrf, ← v3]; simp only [List.flatten_append, List.length_append]; omega
              cases rs3 with
              | nil =>
                rw [List.length_nil] at hln3
                have hne3 : mid ≠ [] := ne_len (by omega)
                have hmp := List.length_pos_iff.mpr hne3
                rw [List.reverse_nil] at v2
                rw [List.append_nil] at v3
                walk_at "ST"
                rename Fr _ _ _ _ => Fz
                rename News _ _ _ _ => Nz
                (refine' w_end ((_, _, _), (_, _, []), pr ++ mid) Fz Nz ?ya ?yb ?yc ?yd)
                case yb => walk_at "BND"
                case ya => walk_at "SUB"
                case yc => exact ⟨by assumption, by assumption, by rw [List.append_nil]; exact v3, by rw [w4, List.append_assoc, inn_end v4 hne3], closed_nil⟩
                case yd => (dsimp only [List.length_cons, List.length_nil]; omega)
              | cons r3 t4 =>
                rw [List.length_cons] at hln3
                rw [List.reverse_cons] at v2
                have hr3 : r3.length ≤ k.length := by
                  rw [← hrf]; exact mem_flatten_len (by rw [← v3]; simp)
                have hq3 := escQ_len r3
                have hq4 := escL_len r3
                have hsm3 : (mid.map List.length).sum + r3.length ≤ k.length := by
                  rw [← flat_len, ← hrf, ← v3]; simp only [List.flatten_append, List.flatten_cons, List.length_append]; omega
                by_cases hmid : mid = []
                · subst hmid
                  walk_at "ST"
                  · rename Fr _ _ _ _ => Fz
                    rename News _ _ _ _ => Nz
                    (refine' w_end ((_, _, [] ++ [r3]), (_, _, t4), (_, _)) Fz Nz ?qa ?qb ?qc ?qd)
                    case qb => walk_at "BND"
                    case qa => walk_at "SUB"
                    case qc => exact ⟨by assumption, by assumption, by rw [← v3, List.append_assoc]; rfl, inn_go v4 v5 (by assumption), by rw [List.append_assoc]; exact v5⟩
                    case qd => (dsimp only [List.length_cons]; omega)
                  · dsimp only [WPost]
                    walk_at "ST"
                    rename Fr _ _ _ _ => Fz
                    rename News _ _ _ _ => Nz
                    obtain ⟨si1, si2⟩ := inn_single (by omega) v4 v5 (by assumption)
                    (refine' w_end ((_, _, _), (_, _, t4), pr ++ [r3]) Fz Nz ?za ?zb ?zc ?zd)
                    case zb => walk_at "BND"
                    case za => walk_at "SUB"
                    case zc => exact ⟨by assumption, by assumption, by rw [List.append_assoc]; exact v3, by rw [w4, List.append_assoc, ← si1], si2⟩
                    case zd => (dsimp only [List.length_cons, List.length_nil]; omega)
                · have hmp := List.length_pos_iff.mpr hmid
                  walk_at "ST"
                  · rename Fr _ _ _ _ => Fz
                    rename News _ _ _ _ => Nz
                    (refine' w_end ((_, _, mid ++ [r3]), (_, _, t4), (_, _)) Fz Nz ?ra ?rb ?rc ?rd)
                    case rb => walk_at "BND"
                    case ra => walk_at "SUB"
                    case rc => exact ⟨by assumption, by assumption, by rw [← v3, List.append_assoc]; rfl, inn_go v4 v5 (by assumption), by rw [List.append_assoc]; exact v5⟩
                    case rd => (dsimp only [List.length_cons]; omega)
                  · dsimp only [WPost]
                    walk_at "ST"
                    rename Fr _ _ _ _ => Fz
                    rename News _ _ _ _ => Nz
                    (refine' w_end ((_, _, _), (_, _, r3 :: t4), pr ++ mid) Fz Nz ?ua ?ub ?uc ?ud)
                    case ub => walk_at "BND"
                    case ua => walk_at "SUB"
                    case uc => exact ⟨by assumption, by rw [List.reverse_cons]; exact v2, by rw [List.append_assoc]; exact v3, by rw [w4, List.append_assoc, inn_end v4 hmid], inn_stop v4 hmid (by assumption)⟩
                    case ud => (dsimp only [List.length_cons, List.length_nil]; omega)
      · rename_i _ _ _ _ _ c2 _ _ _ _ _
        rename Fr _ _ _ _ => Fz
        rename News _ _ _ _ => Nz
        (refine' turn_end (_, _, ls ++ [k]) Fz Nz ?oa ?os ?on ?ob ?oj)
        case ob => walk_at "BND"
        case os => walk_at "SUB"
        case oa => k_mem
        case on => exact hne2 hne
        case oj => exact ⟨by assumption, lot_no hj2 (fun q => c2 q.2)⟩
    case id =>
      rintro ⟨lv, ln, ls⟩ m₁ h tk ⟨hj1, hj2⟩ F1 N1
      dsimp only [kstB, envOf] at F1 N1 hj1 hj2
      change ls = lotF _ _ _ at hj2
      rw [hj2] at hj1
      have hlf := lotPre_facts (plen := (p.length : Int)) (width := width) (by omega) (lnF x)
      rw [lnF_flatten] at hlf
      change (lotF _ _ _).flatten = _ ∧ (lotF _ _ _).length ≤ _ at hlf
      obtain ⟨hlf1, hlf2⟩ := hlf
      have hl2 : 2 ≤ (lotF (p.length : Int) width x).length → (lastL (lotF (p.length : Int) width x).dropLast).length ≤ x.length := fun h => Nat.le_trans (last2_len h) (Nat.le_of_eq (congrArg List.length hlf1))
      have hdl : (lotF (p.length : Int) width x).dropLast.length = (lotF (p.length : Int) width x).length - 1 := List.length_dropLast
      have hl3 : (lastL (lotF (p.length : Int) width x)).length ≤ x.length := lastL_le (Nat.le_of_eq (congrArg List.length hlf1))
      try k_fold
      walk_at "ST"
      all_goals (rename Fr _ _ _ _ => Fz)
      all_goals (rename News _ _ _ _ => Nz)
      · rename (_ ≤ (1 : Int)) => c1
        exact cts_end hret (rows_few (by omega)).symm Fz Nz (by walk_at "SUB")
      all_goals (rename (¬ _ ≤ (1 : Int)) => c1)
      all_goals (have hge : 2 ≤ (lotF (p.length : Int) width x).length := by omega)
      all_goals (obtain ⟨hfx1, hfx2⟩ := lotFix_facts hge)
      all_goals (rw [hlf1] at hfx2)
      all_goals (rename TX _ _ => Tz)
      all_goals (rename ((_ != _) = _) => c2)
      all_goals (have hsum := rows_sum (q := p) (n := 100) (k := 1472) (r := 491) (ls := lotFix (lotF (p.length : Int) width x)) hp (by omega) (by omega))
      all_goals (have hjl := joinL_len [10] ((lotFix (lotF (p.length : Int) width x)).map fun l => p ++ escQ l))
      all_goals (rw [List.length_singleton, Nat.one_mul] at hjl)
      · have T2 := (congrArg (TX _) (fix_no (bne_iff_ne.mp c2))).mpr Tz
        (refine' comp_S (fun l => p ++ escQ l) rfl Fz Nz (by k_mem) T2 (by omega) ?turna ?fina)
        case turna =>
          intro k tk3 I oI C oC D m₂ ys h3 tkk E' hk3 hC3 hx3 F3 N3
          have hkl := mem_flatten_len hk3
          have hq := escQ_len k
          have hq2 := escL_len k
          walk_at "ST"
          rename Fr _ _ _ _ => Fy
          rename News _ _ _ _ => Ny
          exact turnC_end Fy Ny rfl (by walk_at "SUB")
        case fina =>
          intro D us kk h3 tkk T3 F3 N3
          walk_at "ST"
          rename Fr _ _ _ _ => Fy
          rename News _ _ _ _ => Ny
          exact cts_end hret (norm_many (by omega)) Fy Ny (by walk_at "SUB")
      · have T2 := (congrArg (TX _) (fix_yes (by simpa using c2))).mpr Tz
        (refine' comp_S (fun l => p ++ escQ l) rfl Fz Nz (by k_mem) T2 (by omega) ?turnb ?finb)
        case turnb =>
          intro k tk3 I oI C oC D m₂ ys h3 tkk E' hk3 hC3 hx3 F3 N3
          have hkl := mem_flatten_len hk3
          have hq := escQ_len k
          have hq2 := escL_len k
          walk_at "ST"
          rename Fr _ _ _ _ => Fy
          rename News _ _ _ _ => Ny
          exact turnC_end Fy Ny rfl (by walk_at "SUB")
        case finb =>
          intro D us kk h3 tkk T3 F3 N3
          walk_at "ST"
          rename Fr _ _ _ _ => Fy
          rename News _ _ _ _ => Ny
          exact cts_end hret (norm_many (by omega)) Fy Ny (by walk_at "SUB")
  · rename TX _ _ => Tr
    rw [hLK, ← lot_wide (plen := (p.length : Int)) (width := width) (x := x) (by omega)] at Tr
    have hlf := lotPre_facts (plen := (p.length : Int)) (width := width) (by omega) (lnF x)
    rw [lnF_flatten] at hlf
    change (lotF _ _ _).flatten = _ ∧ (lotF _ _ _).length ≤ _ at hlf
    obtain ⟨hlf1, hlf2⟩ := hlf
    have hl2 : 2 ≤ (lotF (p.length : Int) width x).length → (lastL (lotF (p.length : Int) width x).dropLast).length ≤ x.length := fun h => Nat.le_trans (last2_len h) (Nat.le_of_eq (congrArg List.length hlf1))
    have hdl : (lotF (p.length : Int) width x).dropLast.length = (lotF (p.length : Int) width x).length - 1 := List.length_dropLast
    have hl3 : (lastL (lotF (p.length : Int) width x)).length ≤ x.length := lastL_le (Nat.le_of_eq (congrArg List.length hlf1))
    try k_fold
    walk_at "ST"
    all_goals (rename Fr _ _ _ _ => Fz)
    all_goals (rename News _ _ _ _ => Nz)
    · rename (_ ≤ (1 : Int)) => c1
      exact cts_end hret (rows_few (by omega)).symm Fz Nz (by walk_at "SUB")
    all_goals (rename (¬ _ ≤ (1 : Int)) => c1)
    all_goals (have hge : 2 ≤ (lotF (p.length : Int) width x).length := by omega)
    all_goals (obtain ⟨hfx1, hfx2⟩ := lotFix_facts hge)
    all_goals (rw [hlf1] at hfx2)
    all_goals (rename TX _ _ => Tz)
    all_goals (rename ((_ != _) = _) => c2)
    all_goals (have hsum := rows_sum (q := p) (n := 100) (k := 1472) (r := 491) (ls := lotFix (lotF (p.length : Int) width x)) hp (by omega) (by omega))
    all_goals (have hjl := joinL_len [10] ((lotFix (lotF (p.length : Int) width x)).map fun l => p ++ escQ l))
    all_goals (rw [List.length_singleton, Nat.one_mul] at hjl)
    · have T2 := (congrArg (TX _) (fix_no (bne_iff_ne.mp c2))).mpr Tz
      (refine' comp_S (fun l => p ++ escQ l) rfl Fz Nz (by k_mem) T2 (by omega) ?turna ?fina)
      case turna =>
        intro k tk3 I oI C oC D m₂ ys h3 tkk E' hk3 hC3 hx3 F3 N3
        have hkl := mem_flatten_len hk3
        have hq := escQ_len k
        have hq2 := escL_len k
        walk_at "ST"
        rename Fr _ _ _ _ => Fy
        rename News _ _ _ _ => Ny
        exact turnC_end Fy Ny rfl (by walk_at "SUB")
      case fina =>
        intro D us kk h3 tkk T3 F3 N3
        walk_at "ST"
        rename Fr _ _ _ _ => Fy
        rename News _ _ _ _ => Ny
        exact cts_end hret (norm_many (by omega)) Fy Ny (by walk_at "SUB")
    · have T2 := (congrArg (TX _) (fix_yes (by simpa using c2))).mpr Tz
      (refine' comp_S (fun l => p ++ escQ l) rfl Fz Nz (by k_mem) T2 (by omega) ?turnb ?finb)
      case turnb =>
        intro k tk3 I oI C oC D m₂ ys h3 tkk E' hk3 hC3 hx3 F3 N3
        have hkl := mem_flatten_len hk3
        have hq := escQ_len k
        have hq2 := escL_len k
        walk_at "ST"
        rename Fr _ _ _ _ => Fy
        rename News _ _ _ _ => Ny
        exact turnC_end Fy Ny rfl (by walk_at "SUB")
      case finb =>
        intro D us kk h3 tkk T3 F3 N3
        walk_at "ST"
        rename Fr _ _ _ _ => Fy
        rename News _ _ _ _ => Ny
        exact cts_end hret (norm_many (by omega)) Fy Ny (by walk_at "SUB")
  · rename TX _ _ => Tr
    rw [hLK, ← lot_wide (plen := (p.length : Int)) (width := width) (x := x) (by omega)] at Tr
    have hlf := lotPre_facts (plen := (p.length : Int)) (width := width) (by omega) (lnF x)
    rw [lnF_flatten] at hlf
    change (lotF _ _ _).flatten = _ ∧ (lotF _ _ _).length ≤ _ at hlf
    obtain ⟨hlf1, hlf2⟩ := hlf
    have hl2 : 2 ≤ (lotF (p.length : Int) width x).length → (lastL (lotF (p.length : Int) width x).dropLast).length ≤ x.length := fun h => Nat.le_trans (last2_len h) (Nat.le_of_eq (congrArg List.length hlf1))
    have hdl : (lotF (p.length : Int) width x).dropLast.length = (lotF (p.length : Int) width x).length - 1 := List.length_dropLast
    have hl3 : (lastL (lotF (p.length : Int) width x)).length ≤ x.length := lastL_le (Nat.le_of_eq (congrArg List.length hlf1))
    try k_fold
    walk_at "ST"
    all_goals (rename Fr _ _ _ _ => Fz)
    all_goals (rename News _ _ _ _ => Nz)
    · rename (_ ≤ (1 : Int)) => c1
      exact cts_end hret (rows_few (by omega)).symm Fz Nz (by walk_at "SUB")
    all_goals (rename (¬ _ ≤ (1 : Int)) => c1)
    all_goals (have hge : 2 ≤ (lotF (p.length : Int) width x).length := by omega)
    all_goals (obtain ⟨hfx1, hfx2⟩ := lotFix_facts hge)
    all_goals (rw [hlf1] at hfx2)
    all_goals (rename TX _ _ => Tz)
    all_goals (rename ((_ != _) = _) => c2)
    all_goals (have hsum := rows_sum (q := p) (n := 100) (k := 1472) (r := 491) (ls := lotFix (lotF (p.length : Int) width x)) hp (by omega) (by omega))
    all_goals (have hjl := joinL_len [10] ((lotFix (lotF (p.length : Int) width x)).map fun l => p ++ escQ l))
    all_goals (rw [List.length_singleton, Nat.one_mul] at hjl)
    · have T2 := (congrArg (TX _) (fix_no (bne_iff_ne.mp c2))).mpr Tz
      (refine' comp_S (fun l => p ++ escQ l) rfl Fz Nz (by k_mem) T2 (by omega) ?turna ?fina)
      case turna =>
        intro k tk3 I oI C oC D m₂ ys h3 tkk E' hk3 hC3 hx3 F3 N3
        have hkl := mem_flatten_len hk3
        have hq := escQ_len k
        have hq2 := escL_len k
        walk_at "ST"
        rename Fr _ _ _ _ => Fy
        rename News _ _ _ _ => Ny
        exact turnC_end Fy Ny rfl (by walk_at "SUB")
      case fina =>
        intro D us kk h3 tkk T3 F3 N3
        walk_at "ST"
        rename Fr _ _ _ _ => Fy
        rename News _ _ _ _ => Ny
        exact cts_end hret (norm_many (by omega)) Fy Ny (by walk_at "SUB")
    · have T2 := (congrArg (TX _) (fix_yes (by simpa using c2))).mpr Tz
      (refine' comp_S (fun l => p ++ escQ l) rfl Fz Nz (by k_mem) T2 (by omega) ?turnb ?finb)
      case turnb =>
        intro k tk3 I oI C oC D m₂ ys h3 tkk E' hk3 hC3 hx3 F3 N3
        have hkl := mem_flatten_len hk3
        have hq := escQ_len k
        have hq2 := escL_len k
        walk_at "ST"
        rename Fr _ _ _ _ => Fy
        rename News _ _ _ _ => Ny
        exact turnC_end Fy Ny rfl (by walk_at "SUB")
      case finb =>
        intro D us kk h3 tkk T3 F3 N3
        walk_at "ST"
        rename Fr _ _ _ _ => Fy
        rename News _ _ _ _ => Ny
        exact cts_end hret (norm_many (by omega)) Fy Ny (by walk_at "SUB")
end
section
local macro_rules | `(tactic| walk_at "call ref") => `(tactic| ((with_reducible show wpAny _ _ (call (Value.ref 40) _) _ _ _);  k_here; k_dflt (refine' ctS_use (esc_ct _ _ _ _ _ _ ?hx) ?k1 ?k2 ?k3 ?k4 ?k5 ?kK ?kd ?ku ?_; walk_at "CTX"; (case hx => walk_at "LEN")); intro _ _ _ _ _; (try k_sweep)))
local macro_rules | `(tactic| walk_at "call ref") => `(tactic| ((with_reducible show wpAny _ _ (call (Value.ref 33) _) _ _ _);  k_here; k_dflt (refine' ctL_use (chunks_ct _ _ _ _ _ _ ?hx) ?k1 ?k2 ?k3 ?k4 ?k5 ?kK ?kd ?ku ?_; walk_at "CTX"; (case hx => walk_at "LEN")); intro _ _ _ _ _ _ _ _ l1; (try (have l2 := l1; k_lt l2)); (try k_sweep)))
theorem norm1_ct (w : World) (mean : ExcName → Option Value) (mg mb : Str → Option Value) (x : List Nat) (tx : Tok) (hx : x.length ≤ 490) (hLK : LK x = lnF x) (hRB : ∀ l ∈ lnF x, runsF Unicode.isSpace l = runsF bl4 l) :
    CtS w mean mg mb 3 46 [.str (S x) tx] (rowsF 0 76 [] x) := by
  unfold CtS Ct
  intro news dp un gd cn cs a ccd cl outer A₀ base h₀ L m s Q E B F X N T hk hd hu hret
  have hlf := lnF_flatten x
  have hll := lnF_length x
  refine wpAny_call ?_
  k_dflt walk_at "ENTC"
  walk_at "ST"
  · rename_i g1 L1 _ _ FG1 B1 X1 T1 l0 o1 d1 tq _ _ Dl _ l1 l2 _ F1 N1
    have d2 : o1.data = .cell (some (.str (S []) 224)) := by rw [d1]; rfl
    clear d1
    have c1 : (0 : Int) < 76 := by decide
    (with_unfolding_all refine' For_invVF F1 ?k1 ?k2 ?_; (case k1 => exact rfl); (case k2 => exact rfl))
    walk_at "ST"
    rename_i D2 us _ _ F2 N2 l3 Tr l4
    rw [hLK] at Tr
    (refine' it_list (σ := List Value × Nat × List (List Nat)) (fun c => (Dl, listOf c.1.toArray c.2.1) :: (D2, listOf us.toArray 0) :: (L1 + 1, o1) :: news)
      (fun c => [(Str.ofString "lines", .ref Dl), (Str.ofString "string", .str (S x) tx), (Str.ofString "prefixlen", .int 0 (tq + 1)), (Str.ofString "width", .int 76 225)])
      (fun pre c => TX c.1 c.2.2 ∧ c.2.2 = pre.flatMap (lotLine 0 76)) ([], 0, []) Tr (fun _ => List.Mem.tail _ (List.Mem.head _)) ?ih F2 (kst_newsOf N2 ?iN) ?ib ?ij ?it ?id)
    case ih => exact rfl
    case ib => walk_at "BND"
    case iN => walk_at "SUB"
    case ij => exact ⟨TX.nil, rfl⟩
    case it =>
      rintro pre k post t ⟨lv, ln, ls⟩ m₁ h tk I oI e ⟨hj1, hj2⟩ hne F1 N1
      have hI := addr_ne (hne _ (List.Mem.head _))
      have hI2 := addr_ne (hne _ (List.Mem.tail _ (List.Mem.head _)))
      have hI3 := addr_ne (hne _ (List.Mem.tail _ (List.Mem.tail _ (List.Mem.head _))))
      dsimp only at hj1 hj2 hI hI2 hI3 hne
      have hpf := lotPre_facts (plen := 0) (width := 76) (by omega) pre
      rw [← hj2] at hpf
      obtain ⟨hp1, hp2⟩ := hpf
      have hk0 : pre.flatten.length + k.length ≤ x.length := by
        rw [← hlf, e, List.flatten_append, List.length_append, List.flatten_cons, List.length_append]; omega
      have hp3 : pre.length ≤ x.length + 1 := by
        have := congrArg List.length e
        rw [List.length_append, List.length_cons] at this; omega
      have hq := escQ_len k
      have hq2 := escL_len k
      have hrb := hRB k (by rw [e]; simp)
      have hrf := runsF_flatten bl4 k
      have hrl := runsF_length bl4 k
      rw [← hrb] at hrf hrl
      dsimp only [kstB, envOf] at F1 N1
      clear e
      try k_fold
      walk_at "ST"
      · rename_i _ _ _ _ _ ac _ Dc us0 nc _ _ Tc0 lc1 lc2 _ _ F3 N3 Tc
        generalize hchs : runsF Unicode.isSpace k = chs at *
        (refine' while_gen (σ := (List Value × Nat × List (List Nat)) × (List Value × Nat × List (List Nat)) × List (List Nat))
          (fun c => (Dc, listOf c.2.1.1.toArray c.2.1.2.1) :: (I, oI) :: (Dl, listOf c.1.1.toArray c.1.2.1) :: (D2, listOf us.toArray 0) :: (L1 + 1, o1) :: news)
          (fun c => [(Str.ofString "chunks", .ref Dc), (Str.ofString "lines", .ref Dl), (Str.ofString "string", .str (S x) tx), (Str.ofString "prefixlen", .int 0 (tq + 1)), (Str.ofString "width", .int 76 225)])
          (fun c => TX c.1.1 c.1.2.2 ∧ TX c.2.1.1 c.2.1.2.2.reverse ∧ c.2.2 ++ c.2.1.2.2 = chs ∧ c.1.2.2 = ls ++ (partsS 0 76 c.2.2).1 ∧ Closed 0 76 c.2.2 c.2.1.2.2)
          (fun c => c.2.1.2.2.length) ((lv, ln, ls), (us0.reverse, nc, chs), []) F3 (kst_newsOf N3 ?wa) ?wb ?wc ?wd ?we)
        case wb => walk_at "BND"
        case wa => walk_at "SUB"
        case wc => exact ⟨hj1, Tc, rfl, by simp [partsS], closed_init (by omega) _⟩
        case we => first | passes_own | with_unfolding_all passes_own
        case wd =>
          rintro ⟨⟨lv2, ln2, ll⟩, ⟨cv, cn2, rs⟩, pr⟩ m₂ h2 tk2 ⟨w1, w2, w3, w4, w5⟩ F4 N4
          dsimp only [kstB, envOf] at F4 N4 w1 w2 w3 w4 w5
          try k_fold
          have hpo := (partsS_ok (more := 0) (width := 76) (by omega) pr).2.2
          have hln1 := congrArg List.length w3
          have hln2 := congrArg List.length w4
          rw [List.length_append] at hln1 hln2
          cases rs with
          | nil =>
            rw [List.reverse_nil] at w2
            rw [List.append_nil] at w3
            walk_at "ST"
            rename Fr _ _ _ _ => Fz
            rename News _ _ _ _ => Nz
            (refine' turn_end (lv2, ln2, ll) Fz Nz ?ua ?us ?un ?ub ?uj)
            case ub => walk_at "BND"
            case us => walk_at "SUB"
            case ua => k_mem
            case un => exact hne2 hne
            case uj =>
              refine ⟨w1, ?_⟩
              rw [w4, w3, hrb]
              exact lot_yes hj2 c1 ac
          | cons r t3 =>
            rw [List.reverse_cons] at w2
            rw [List.length_cons] at hln1
            walk_at "ST"
            rename_i _ Db _ lb1 lb2 _ _ F5 N5
            (refine' while_gen (σ := (List Value × Nat × List (List Nat)) × (List Value × Nat × List (List Nat)) × (Int × Tok))
              (fun c => (Db, listOf c.1.1.toArray c.1.2.1) :: (Dc, listOf c.2.1.1.toArray c.2.1.2.1) :: (I, oI) :: (Dl, listOf lv2.toArray ln2) :: (D2, listOf us.toArray 0) :: (L1 + 1, o1) :: news)
              (fun c => [(Str.ofString "buf", .ref Db), (Str.ofString "chunks", .ref Dc), (Str.ofString "size", .int c.2.2.1 c.2.2.2), (Str.ofString "lines", .ref Dl), (Str.ofString "string", .str (S x) tx), (Str.ofString "prefixlen", .int 0 (tq + 1)), (Str.ofString "width", .int 76 225)])
              (fun c => TX c.1.1 c.1.2.2 ∧ TX c.2.1.1 c.2.1.2.2.reverse ∧ pr ++ (c.1.2.2 ++ c.2.1.2.2) = chs ∧ Inn 0 76 pr c.1.2.2 c.2.2.1 ∧ Closed 0 76 pr (c.1.2.2 ++ c.2.1.2.2))
              (fun c => c.2.1.2.2.length) (([], 0, []), (cv, cn2, r :: t3), (2, _)) F5 (kst_newsOf N5 ?xa) ?xb ?xc ?xd ?xe)
            case xb => walk_at "BND"
            case xa => walk_at "SUB"
            case xc => exact ⟨TX.nil, (by rw [List.reverse_cons]; exact w2), w3, .inl ⟨rfl, rfl⟩, w5⟩
            case xe => first | passes_own | with_unfolding_all passes_own
            case xd =>
              rintro ⟨⟨bv, bn, mid⟩, ⟨cv3, cn3, rs3⟩, ⟨sz, tsz⟩⟩ m₃ h3 tk3 ⟨v1, v2, v3, v4, v5⟩ F6 N6
              dsimp only [kstB, envOf] at F6 N6 v1 v2 v3 v4 v5
              try k_fold
              have hln3 := congrArg List.length v3
              rw [List.length_append, List.length_append] at hln3
              have hsm : (mid.map List.length).sum ≤ k.length := by
                rw [← flat_len, ← hrf, ← v3]; simp only [List.flatten_append, List.length_append]; omega
              cases rs3 with
              | nil =>
                rw [List.length_nil] at hln3
                have hne3 : mid ≠ [] := ne_len (by omega)
                have hmp := List.length_pos_iff.mpr hne3
                rw [List.reverse_nil] at v2
                rw [List.append_nil] at v3
                walk_at "ST"
                rename Fr _ _ _ _ => Fz
                rename News _ _ _ _ => Nz
                (refine' w_end ((_, _, _), (_, _, []), pr ++ mid) Fz Nz ?ya ?yb ?yc ?yd)
                case yb => walk_at "BND"
                case ya => walk_at "SUB"
                case yc => exact ⟨by assumption, by assumption, by rw [List.append_nil]; exact v3, by rw [w4, List.append_assoc, inn_end v4 hne3], closed_nil⟩
                case yd => (dsimp only [List.length_cons, List.length_nil]; omega)
              | cons r3 t4 =>
                rw [List.length_cons] at hln3
                rw [List.reverse_cons] at v2
                have hr3 : r3.length ≤ k.length := by
                  rw [← hrf]; exact mem_flatten_len (by rw [← v3]; simp)
                have hq3 := escQ_len r3
                have hq4 := escL_len r3
                have hsm3 : (mid.map List.length).sum + r3.length ≤ k.length := by
                  rw [← flat_len, ← hrf, ← v3]; simp only [List.flatten_append, List.flatten_cons, List.length_append]; omega
                by_cases hmid : mid = []
                · subst hmid
                  walk_at "ST"
                  · rename Fr _ _ _ _ => Fz
                    rename News _ _ _ _ => Nz
                    (refine' w_end ((_, _, [] ++ [r3]), (_, _, t4), (_, _)) Fz Nz ?qa ?qb ?qc ?qd)
                    case qb => walk_at "BND"
                    case qa => walk_at "SUB"
                    case qc => exact ⟨by assumption, by assumption, by rw [← v3, List.append_assoc]; rfl, inn_go v4 v5 (by assumption), by rw [List.append_assoc]; exact v5⟩
                    case qd => (dsimp only [List.length_cons]; omega)
                  · dsimp only [WPost]
                    walk_at "ST"
                    rename Fr _ _ _ _ => Fz
                    rename News _ _ _ _ => Nz
                    obtain ⟨si1, si2⟩ := inn_single (by omega) v4 v5 (by assumption)
                    (refine' w_end ((_, _, _), (_, _, t4), pr ++ [r3]) Fz Nz ?za ?zb ?zc ?zd)
                    case zb => walk_at "BND"
                    case za => walk_at "SUB"
                    case zc => exact ⟨by assumption, by assumption, by rw [List.append_assoc]; exact v3, by rw [w4, List.append_assoc, ← si1], si2⟩
                    case zd => (dsimp only [List.length_cons, List.length_nil]; omega)
                · have hmp := List.length_pos_iff.mpr hmid
                  walk_at "ST"
                  · rename Fr _ _ _ _ => Fz
                    rename News _ _ _ _ => Nz
                    (refine' w_end ((_, _, mid ++ [r3]), (_, _, t4), (_, _)) Fz Nz ?ra ?rb ?rc ?rd)
                    case rb => walk_at "BND"
                    case ra => walk_at "SUB"
                    case rc => exact ⟨by assumption, by assumption, by rw [← v3, List.append_assoc]; rfl, inn_go v4 v5 (by assumption), by rw [List.append_assoc]; exact v5⟩
                    case rd => (dsimp only [List.length_cons]; omega)
                  · dsimp only [WPost]
                    walk_at "ST"
                    rename Fr _ _ _ _ => Fz
                    rename News _ _ _ _ => Nz
                    (refine' w_end ((_, _, _), (_, _, r3 :: t4), pr ++ mid) Fz Nz ?ua ?ub ?uc ?ud)
                    case ub => walk_at "BND"
                    case ua => walk_at "SUB"
                    case uc => exact ⟨by assumption, by rw [List.reverse_cons]; exact v2, by rw [List.append_assoc]; exact v3, by rw [w4, List.append_assoc, inn_end v4 hmid], inn_stop v4 hmid (by assumption)⟩
                    case ud => (dsimp only [List.length_cons, List.length_nil]; omega)
      · rename_i _ _ _ _ _ c2 _ _ _ _ _
        rename Fr _ _ _ _ => Fz
        rename News _ _ _ _ => Nz
        (refine' turn_end (_, _, ls ++ [k]) Fz Nz ?oa ?os ?on ?ob ?oj)
        case ob => walk_at "BND"
        case os => walk_at "SUB"
        case oa => k_mem
        case on => exact hne2 hne
        case oj => exact ⟨by assumption, lot_no hj2 (fun q => c2 q.2)⟩
    case id =>
      rintro ⟨lv, ln, ls⟩ m₁ h tk ⟨hj1, hj2⟩ F1 N1
      dsimp only [kstB, envOf] at F1 N1 hj1 hj2
      change ls = lotF _ _ _ at hj2
      rw [hj2] at hj1
      have hlf := lotPre_facts (plen := 0) (width := 76) (by omega) (lnF x)
      rw [lnF_flatten] at hlf
      change (lotF _ _ _).flatten = _ ∧ (lotF _ _ _).length ≤ _ at hlf
      obtain ⟨hlf1, hlf2⟩ := hlf
      have hl2 : 2 ≤ (lotF 0 76 x).length → (lastL (lotF 0 76 x).dropLast).length ≤ x.length := fun h => Nat.le_trans (last2_len h) (Nat.le_of_eq (congrArg List.length hlf1))
      have hdl : (lotF 0 76 x).dropLast.length = (lotF 0 76 x).length - 1 := List.length_dropLast
      have hl3 : (lastL (lotF 0 76 x)).length ≤ x.length := lastL_le (Nat.le_of_eq (congrArg List.length hlf1))
      try k_fold
      walk_at "ST"
      all_goals (rename Fr _ _ _ _ => Fz)
      all_goals (rename News _ _ _ _ => Nz)
      · rename (_ ≤ (1 : Int)) => c1
        exact cts_end hret (rows_few (by omega)).symm Fz Nz (by walk_at "SUB")
      all_goals (rename (¬ _ ≤ (1 : Int)) => c1)
      all_goals (have hge : 2 ≤ (lotF 0 76 x).length := by omega)
      all_goals (obtain ⟨hfx1, hfx2⟩ := lotFix_facts hge)
      all_goals (rw [hlf1] at hfx2)
      all_goals (rename TX _ _ => Tz)
      all_goals (rename ((_ != _) = _) => c2)
      all_goals (have hsum := rows_sum (q := []) (n := 100) (k := 1472) (r := 491) (ls := lotFix (lotF 0 76 x)) (Nat.zero_le _) (by omega) (by omega))
      all_goals (have hjl := joinL_len [10] ((lotFix (lotF 0 76 x)).map fun l => [] ++ escQ l))
      all_goals (rw [List.length_singleton, Nat.one_mul] at hjl)
      · have T2 := (congrArg (TX _) (fix_no (bne_iff_ne.mp c2))).mpr Tz
        (refine' comp_S (fun l => [] ++ escQ l) rfl Fz Nz (by k_mem) T2 (by omega) ?turna ?fina)
        case turna =>
          intro k tk3 I oI C oC D m₂ ys h3 tkk E' hk3 hC3 hx3 F3 N3
          have hkl := mem_flatten_len hk3
          have hq := escQ_len k
          have hq2 := escL_len k
          walk_at "ST"
          rename Fr _ _ _ _ => Fy
          rename News _ _ _ _ => Ny
          exact turnC_end Fy Ny rfl (by walk_at "SUB")
        case fina =>
          intro D us kk h3 tkk T3 F3 N3
          walk_at "ST"
          rename Fr _ _ _ _ => Fy
          rename News _ _ _ _ => Ny
          exact cts_end hret (norm_many (by omega)) Fy Ny (by walk_at "SUB")
      · have T2 := (congrArg (TX _) (fix_yes (by simpa using c2))).mpr Tz
        (refine' comp_S (fun l => [] ++ escQ l) rfl Fz Nz (by k_mem) T2 (by omega) ?turnb ?finb)
        case turnb =>
          intro k tk3 I oI C oC D m₂ ys h3 tkk E' hk3 hC3 hx3 F3 N3
          have hkl := mem_flatten_len hk3
          have hq := escQ_len k
          have hq2 := escL_len k
          walk_at "ST"
          rename Fr _ _ _ _ => Fy
          rename News _ _ _ _ => Ny
          exact turnC_end Fy Ny rfl (by walk_at "SUB")
        case finb =>
          intro D us kk h3 tkk T3 F3 N3
          walk_at "ST"
          rename Fr _ _ _ _ => Fy
          rename News _ _ _ _ => Ny
          exact cts_end hret (norm_many (by omega)) Fy Ny (by walk_at "SUB")
end
section
local macro_rules | `(tactic| walk_at "execs cons") => `(tactic| (k_dflt (dsimp only)))
local macro_rules | `(tactic| walk_at "execs nil") => `(tactic| (k_dflt (dsimp only)))
def CtI (w : World) (mean : ExcName → Option Value) (mg mb : Str → Option Value) (dn : Nat) (f sa : Addr) (vs : List Value) (args : List Value) : Prop :=
  ∀ news : List (Addr × Obj), Ct w mean mg mb dn f args news fun h₀ L m s Q =>
    h₀.IsList sa vs.toArray ∧ ∀ (r : Int) (t : Tok) (h' : Heap) (tk' : Nat), Fr h₀ L h' m → News h₀ L h' news → Q (.int r t) { s with heap := h', toks := tk' }
theorem cell_ct (w : World) (mean : ExcName → Option Value) (mg mb : Str → Option Value) (sa : Addr) (vs : List Value) (ks : List Int) (at_ : Int) (tx : Tok) (hI : IntsAre vs ks) (hlen : ks.length ≤ 63) (hat : 0 ≤ at_) :
    CtI w mean mg mb 1 53 sa vs [.ref sa, .int at_ tx] := by
  unfold CtI Ct
  intro news dp un gd cn cs a ccd cl outer A₀ base h₀ L m s Q E B F X N T hk hd hu ⟨hL, hret⟩
  refine wpAny_call ?_
  k_dflt cell_enter
  rename Fr h₀ L _ m => FG
  have hL2 := list_up hL FG
  walk_at "ST"
  all_goals (rename Fr h₀ L _ m => Fz)
  all_goals (rename News h₀ L _ _ => Nz)
  all_goals exact hret _ _ _ _ Fz Nz
theorem ctI_use {w : World} {mean : ExcName → Option Value} {mg mb : Str → Option Value} {dn : Nat} {f sa : Addr} {vs args : List Value} {news : List (Addr × Obj)} {dp un : Nat} {gd : Option (List Code)} {cn : Str} {cs : Scope} {a : Addr} {ccd : Value} {cl : List (Str × Addr)} {outer : List Env} {A₀ : Around} {base h₀ : Heap} {L : Addr} {m : Str → Option Value} {s : Shared} {Q E : Value → Shared → Prop}
    (C : CtI w mean mg mb dn f sa vs args) (hL : h₀.IsList sa vs.toArray) (B : Below A₀ base outer h₀) (F : Fr h₀ L s.heap m) (X : (hd.heap_39 w.params).In h₀) (N : News h₀ L s.heap news) (T : Top hd.view_39 Lse mean mg mb h₀) (hk : cs.kind = .function)
    (hd : dp + dn < 900) (hu : un + 40 * dn < 9000) (ret : ∀ (r : Int) (t : Tok) (h' : Heap) (tk' : Nat), Fr h₀ L h' m → News h₀ L h' news → Q (.int r t) { s with heap := h', toks := tk' }) :
    wpAny (model Prg w) (ktrTop dp un gd cn cs L a ccd cl outer) (call (.ref f) args) Q E s := C news dp un gd cn cs a ccd cl outer A₀ base h₀ L m s Q E B F X N T hk hd hu ⟨hL, ret⟩
end
section
local macro_rules | `(tactic| walk_at "execs cons") => `(tactic| (k_dflt (dsimp only)))
local macro_rules | `(tactic| walk_at "execs nil") => `(tactic| (k_dflt (dsimp only)))
local macro_rules | `(tactic| walk_at "eval Call") => `(tactic| (k_here; k_dflt (refine PyProof.Rows.Call_ ?_)))
local macro_rules | `(tactic| walk_at "subscriptTail Name BinOp ref int") => `(tactic| (k_dflt (refine' tl_get13 ?tN ?tm ?tT ?_ ?ts; (case tN => k_asm); (case tm => k_mem); (case tT => assumption); (case ts => with_unfolding_all rfl)); intro _ _ hy_; (have hyl_ := pcs_len hy_)))
local macro_rules | `(tactic| walk_at "call builtin:len") => `(tactic| (k_dflt (refine' tl_len13 ?tN ?tm ?tT ?_; (case tN => k_asm); (case tm => k_mem); (case tT => assumption)); intro _ _))
local macro_rules | `(tactic| walk_at "call ref") => `(tactic| (k_here; k_dflt (refine' ctI_use (cell_ct _ _ _ _ _ _ _ _ _ ?hI ?hx ?hy) ?kL ?k1 ?k2 ?k3 ?k4 ?k5 ?kK ?kd ?ku ?_; (case kL => assumption); walk_at "CTX"; (case hI => assumption); (case hx => walk_at "LEN"); (case hy => walk_at "LEN")); intro _ _ _ _ _ _; (try k_sweep)))
def CtT (w : World) (mean : ExcName → Option Value) (mg mb : Str → Option Value) (dn : Nat) (f sa : Addr) (vs : List Value) (P : List Nat → Prop) (args : List Value) : Prop :=
  ∀ news : List (Addr × Obj), Ct w mean mg mb dn f args news fun h₀ L m s Q =>
    h₀.IsList sa vs.toArray ∧ ∀ (l : List Nat) (t : Tok) (h' : Heap) (tk' : Nat), P l → Fr h₀ L h' m → News h₀ L h' news → Q (.str (S l) t) { s with heap := h', toks := tk' }
theorem text_ct (w : World) (mean : ExcName → Option Value) (mg mb : Str → Option Value) (sa : Addr) (vs : List Value) (ks : List Int) (hI : IntsAre vs ks) (hlen : ks.length ≤ 63) :
    CtT w mean mg mb 2 60 sa vs (OkT 7) [.ref sa] := by
  unfold CtT Ct
  intro news dp un gd cn cs a ccd cl outer A₀ base h₀ L m s Q E B F X N T hk hd hu ⟨hL, hret⟩
  refine wpAny_call ?_
  k_dflt cell_enter
  rename Fr h₀ L _ m => FG
  have hL2 := list_up hL FG
  walk_at "ST"
  rename Fr _ _ _ _ => F1
  (with_unfolding_all refine' For_invVF F1 ?k1 ?k2 ?_; (case k1 => exact rfl); (case k2 => exact rfl))
  walk_at "ST"
  rename IsRange _ _ _ _ _ _ _ _ => R1
  rename News _ _ _ _ => N0
  obtain ⟨us, TP, N1⟩ := pick (ls := PCS) N0 (by repeat' first | exact TX.nil | refine TX.cons _ _ ?_)
  rename Fr _ _ _ _ => F2
  rename_i Dp _ lp _ _ rr _ _ _ _ _ _ _ _ _ _ _ _ _ _ _ _ _
  have hr0 : 0 ≤ rr.fmod 7 := Int.fmod_nonneg_of_pos rr (by decide)
  have hr1 : rr.fmod 7 < 7 := Int.fmod_lt_of_pos rr (by decide)
  (refine' it_range (σ := List Nat × Tok) (n := (1 + rr.fmod 7).toNat) (fun _ => (Dp, listOf us.toArray 0) :: news)
    (fun c => [(Str.ofString "found", .str (S c.1) c.2), (Str.ofString "pieces", .ref Dp), (Str.ofString "script", .ref sa)]) (fun i c => OkT i c.1) ([], _) R1 (by omega) (by omega) ?ih F2 (kst_newsOf N1 ?iN) ?ib ?ij ?it ?id)
  case ih => exact rfl
  case ib => walk_at "BND"
  case iN => walk_at "SUB"
  case ij => exact ⟨(fun c hc => nomatch hc), Nat.le_refl _, Nat.le_refl _⟩
  case it =>
    rintro i t ⟨l, tl⟩ m₁ h tk I oI hi hj hne F1 N1
    have hI := addr_ne (hne _ (List.Mem.head _))
    dsimp only [kstB, envOf] at F1 N1 hj hI hne
    have hjl := hj.2.1
    try k_fold
    walk_at "ST"
    · rename Fr _ _ _ _ => Fz
      rename News _ _ _ _ => Nz
      rename (_ ∈ PCS) => hy
      (refine' turn_end (_, _) Fz Nz ?ua ?us ?un ?ub ?uj)
      case ub => walk_at "BND"
      case us => walk_at "SUB"
      case ua => k_mem
      case un => exact hne
      case uj => exact okT_add hj hy
    · rename Fr _ _ _ _ => Fz
      rename News _ _ _ _ => Nz
      rename (_ ∈ PCS) => hy
      (refine' turn_end (_, _) Fz Nz ?va ?vs ?vn ?vb ?vj)
      case vb => walk_at "BND"
      case vs => walk_at "SUB"
      case va => k_mem
      case vn => exact hne
      case vj => exact okT_up (pcs_ok _ hy) (by omega)
  case id =>
    rintro ⟨l, tl⟩ m₁ h tk hj F1 N1
    dsimp only [kstB, envOf] at F1 N1 hj
    try k_fold
    walk_at "ST"
    rename Fr h₀ L _ m => Fz
    rename News h₀ L _ _ => Nz
    exact hret _ _ _ _ (okT_up hj (by omega)) Fz (fun p hp => Nz p (List.Mem.tail _ hp))
theorem ctT_use {w : World} {mean : ExcName → Option Value} {mg mb : Str → Option Value} {dn : Nat} {f sa : Addr} {vs args : List Value} {P : List Nat → Prop} {news : List (Addr × Obj)} {dp un : Nat} {gd : Option (List Code)} {cn : Str} {cs : Scope} {a : Addr} {ccd : Value} {cl : List (Str × Addr)} {outer : List Env} {A₀ : Around} {base h₀ : Heap} {L : Addr} {m : Str → Option Value} {s : Shared} {Q E : Value → Shared → Prop}
    (C : CtT w mean mg mb dn f sa vs P args) (hL : h₀.IsList sa vs.toArray) (B : Below A₀ base outer h₀) (F : Fr h₀ L s.heap m) (X : (hd.heap_39 w.params).In h₀) (N : News h₀ L s.heap news) (T : Top hd.view_39 Lse mean mg mb h₀) (hk : cs.kind = .function)
    (hd : dp + dn < 900) (hu : un + 40 * dn < 9000) (ret : ∀ (l : List Nat) (t : Tok) (h' : Heap) (tk' : Nat), P l → Fr h₀ L h' m → News h₀ L h' news → Q (.str (S l) t) { s with heap := h', toks := tk' }) :
    wpAny (model Prg w) (ktrTop dp un gd cn cs L a ccd cl outer) (call (.ref f) args) Q E s := C news dp un gd cn cs a ccd cl outer A₀ base h₀ L m s Q E B F X N T hk hd hu ⟨hL, ret⟩
end
section
local macro_rules | `(tactic| walk_at "execs cons") => `(tactic| (k_dflt (dsimp only)))
local macro_rules | `(tactic| walk_at "execs nil") => `(tactic| (k_dflt (dsimp only)))
local macro_rules | `(tactic| walk_at "eval Call") => `(tactic| (k_here; k_dflt (refine PyProof.Rows.Call_ ?_)))
local macro_rules | `(tactic| walk_at "call ref") => `(tactic| (k_here; k_dflt (refine' ctT_use (text_ct _ _ _ _ _ _ _ ?hI ?hx) ?kL ?k1 ?k2 ?k3 ?k4 ?k5 ?kK ?kd ?ku ?_; (case kL => assumption); walk_at "CTX"; (case hI => assumption); (case hx => walk_at "LEN")); intro lt_ _ _ _ hok_ _ _; (have hlen_ := okT_len hok_); (have hq1_ := escQ_len lt_); (have hq2_ := escL_len lt_); (have hlk_ := okT_LK hok_); (have hrb_ := okT_RB hok_); (obtain ⟨hd1_, hd2_, hd3_, hd4_, hd5_, hd6_⟩ := okT_den0 hok_); (try k_sweep)))
local macro_rules | `(tactic| walk_at "call ref") => `(tactic| (k_here; k_dflt (refine' ctI_use (cell_ct _ _ _ _ _ _ _ _ _ ?hI ?hx ?hy) ?kL ?k1 ?k2 ?k3 ?k4 ?k5 ?kK ?kd ?ku ?_; (case kL => assumption); walk_at "CTX"; (case hI => assumption); (case hx => walk_at "LEN"); (case hy => walk_at "LEN")); intro _ _ _ _ _ _; (try k_sweep)))
local macro_rules | `(tactic| walk_at "call ref") => `(tactic| ((with_reducible show wpAny _ _ (call (Value.ref 40) _) _ _ _);  k_here; k_dflt (refine' ctS_use (esc_ct _ _ _ _ _ _ ?hx) ?k1 ?k2 ?k3 ?k4 ?k5 ?kK ?kd ?ku ?_; walk_at "CTX"; (case hx => walk_at "LEN")); intro _ _ _ _ _; (try k_sweep)))
local macro_rules | `(tactic| walk_at "call ref") => `(tactic| ((with_reducible show wpAny _ _ (call (Value.ref 67) _) _ _ _);  k_here; k_dflt (refine' ctS_use (lesc_ct _ _ _ _ _ _ ?hx) ?k1 ?k2 ?k3 ?k4 ?k5 ?kK ?kd ?ku ?_; walk_at "CTX"; (case hx => walk_at "LEN")); intro _ _ _ _ _; (try k_sweep)))
local macro_rules | `(tactic| walk_at "call ref") => `(tactic| ((with_reducible show wpAny _ _ (call (Value.ref 21) _) _ _ _);  k_here; k_dflt (refine' ctS_use (unesc_ct _ _ _ _ _ _ ?hx ?hy) ?k1 ?k2 ?k3 ?k4 ?k5 ?kK ?kd ?ku ?_; walk_at "CTX"; (case hx => walk_at "LEN"); (case hy => walk_at "LEN")); intro _ _ _ _ _; (try k_sweep)))
local macro_rules | `(tactic| walk_at "call ref") => `(tactic| ((with_reducible show wpAny _ _ (call (Value.ref 46) _) _ _ _);  k_here; k_dflt (refine' ctS_use (norm_ct _ _ _ _ _ _ _ _ _ _ ?hx ?hm ?hK ?hR) ?k1 ?k2 ?k3 ?k4 ?k5 ?kK ?kd ?ku ?_; walk_at "CTX"; (case hx => walk_at "LEN"); (case hm => walk_at "LEN"); (case hK => assumption); (case hR => assumption)); intro _ _ _ _ _; (try k_sweep)))
local macro_rules | `(tactic| walk_at "call ref") => `(tactic| ((with_reducible show wpAny _ _ (call (Value.ref 46) _) _ _ _);  k_here; k_dflt (refine' ctS_use (norm1_ct _ _ _ _ _ _ ?hx ?hK ?hR) ?k1 ?k2 ?k3 ?k4 ?k5 ?kK ?kd ?ku ?_; walk_at "CTX"; (case hx => walk_at "LEN"); (case hK => assumption); (case hR => assumption)); intro _ _ _ _ _; (try k_sweep)))
local macro_rules | `(tactic| walk_at "call ref") => `(tactic| ((with_reducible show wpAny _ _ (call (Value.ref 100) _) _ _ _);  k_here; k_dflt (refine' ctS_use (lrows_ct _ _ _ _ _ _ _ _ _ _ ?hx ?hm) ?k1 ?k2 ?k3 ?k4 ?k5 ?kK ?kd ?ku ?_; walk_at "CTX"; (case hx => walk_at "LEN"); (case hm => walk_at "LEN")); intro _ _ _ _ _; (try k_sweep)))
local macro_rules | `(tactic| walk_at "call ref") => `(tactic| ((with_reducible show wpAny _ _ (call (Value.ref 95) _) _ _ _);  k_here; k_dflt (refine' ctL_use (llot_ct _ _ _ _ _ _ _ _ _ _ ?hx ?hm) ?k1 ?k2 ?k3 ?k4 ?k5 ?kK ?kd ?ku ?_; walk_at "CTX"; (case hx => walk_at "LEN"); (case hm => walk_at "LEN")); intro _ _ _ _ _ _ _ _ l1; (try (have l2 := l1; k_lt l2)); (try k_sweep)))
local macro_rules | `(tactic| walk_at "call ref") => `(tactic| ((with_reducible show wpAny _ _ (call (Value.ref 26) _) _ _ _);  k_here; k_dflt (refine' ctS_use (denorm_ct _ _ _ _ _ _ ?ha ?hb ?hc ?hd ?he) ?k1 ?k2 ?k3 ?k4 ?k5 ?kK ?kd ?ku ?_; walk_at "CTX"; (case ha => walk_at "DEN1"); (case hb => walk_at "DEN2"); (case hc => walk_at "DEN3"); (case hd => walk_at "DEN4"); (case he => walk_at "DEN5")); intro _ _ _ _ _; (try k_sweep)))
local macro_rules | `(tactic| walk_at "DEN1") => `(tactic| first | with_reducible assumption | with_reducible exact (okT_den0 (by assumption)).1 | with_reducible exact (okT_den (by assumption) _).1)
local macro_rules | `(tactic| walk_at "DEN2") => `(tactic| first | with_reducible assumption | with_reducible exact (okT_den0 (by assumption)).2.1 | with_reducible exact (okT_den (by assumption) _).2.1)
local macro_rules | `(tactic| walk_at "DEN3") => `(tactic| first | with_reducible assumption | with_reducible exact (okT_den0 (by assumption)).2.2.1 | with_reducible exact (okT_den (by assumption) _).2.2.1)
local macro_rules | `(tactic| walk_at "DEN4") => `(tactic| first | with_reducible assumption | with_reducible exact (okT_den0 (by assumption)).2.2.2.1 | with_reducible exact (okT_den (by assumption) _).2.2.2.1)
local macro_rules | `(tactic| walk_at "DEN5") => `(tactic| first | with_reducible assumption | with_reducible exact (okT_den0 (by assumption)).2.2.2.2.1 | with_reducible exact (okT_den (by assumption) _).2.2.2.2)
local macro_rules | `(tactic| walk_at "SAME") => `(tactic| first | (with_reducible rfl) | (with_reducible exact unl_back _) | (with_reducible exact rows_76 _) | (with_reducible assumption) | (with_reducible exact den_w (by assumption) _ (by assumption)))
local macro_rules | `(tactic| walk_at "compareOp NotEq str str") => `(tactic| (with_reducible refine ne_same (by walk_at "SAME") ?_))
local macro_rules | `(tactic| walk_at "compareOp Eq str str") => `(tactic| (with_reducible refine eq_same (by walk_at "SAME") ?_))
local macro_rules | `(tactic| walk_at "subscriptTail") => `(tactic| ((with_reducible show wpAny _ _ (subscriptTail _ _ (Value.ref _) (Value.int (Int.fmod _ 4) _)) _ _ _); k_here; k_dflt (refine' il_get4 ?tN ?tm ?_ ?ts; (case tN => k_asm); (case tm => k_mem); (case ts => with_unfolding_all rfl)); intro _ _; (try k_sweep)))
local macro_rules | `(tactic| walk_at "subscriptTail List cons BinOp ref int") => `(tactic| (k_here; k_dflt (refine' il_get4 ?tN ?tm ?_ ?ts; (case tN => k_asm); (case tm => k_mem); (case ts => with_unfolding_all rfl)); intro _ _; (try k_sweep)))
local macro_rules | `(tactic| walk_at "subscriptTail Name BinOp ref int") => `(tactic| (k_here; k_dflt (refine' il_get4 ?tN ?tm ?_ ?ts; (case tN => k_asm); (case tm => k_mem); (case ts => with_unfolding_all rfl)); intro _ _; (try k_sweep)))
local macro_rules | `(tactic| walk_at "compareOp NotEq ref ref") => `(tactic| (k_here; k_dflt (refine' tl_ne ?tN ?tm ?tm2 ?tT ?tT2 ?tb ?tb2 ?tu ?_; (case tN => k_asm); (case tm => k_mem); (case tm2 => k_mem); (case tT => first | with_reducible assumption | exact TX.one _ _); (case tT2 => first | with_reducible assumption | exact TX.one _ _); (case tb => with_reducible exact okB_lot (by assumption) _); (case tb2 => exact okB_nil); (case tu => first | units_room | exact Nat.le_of_ble_eq_true rfl))))
local macro_rules | `(tactic| walk_at "subscriptTail Name Slice ref ref") => `(tactic| (k_here; k_dflt (refine' tl_sl (s := ⟨_, _, _, _, _⟩) ?tF ?tN ?tm ?tT ?tz ?ts ?tt ?_; (case tF => k_asm); (case tN => k_asm); (case tm => k_mem); (case tT => walk_at "TXP"); (case tz => (with_reducible apply lot_len7; assumption)); (case ts => with_unfolding_all rfl); (case tt => (intro _; with_unfolding_all rfl))); intro _ _ _ _ _ l1 _; (try (have l2 := l1; k_lt l2)); (try k_sweep)))
local macro_rules | `(tactic| walk_at "subscriptTail Call Name cons nil Slice ref ref") => `(tactic| (k_here; k_dflt (refine kba_turn (value' := PySem.Expr.Name (PySem.Str.ofString "_") ⟨0, 0, 0, 0⟩) (fun _ => rfl) ?_)))
theorem post_true (ks : List Int) : PySem.Challenge.rw_ey0009_01.row.claim.post [ofPy (PyData.list (ks.map PyData.int))] (.bool true) [ofPy (PyData.list (ks.map PyData.int))] = true := by
  wrow_post
set_option maxHeartbeats 8000000
theorem all : PySem.Challenge.rw_ey0009_01.Holds := by
  refine hd ?_
  k_go0
  (all_goals try k_fold)
  walk_at "ST"
  all_goals (with_reducible refine goodW_bool (by with_reducible assumption) (by assumption) (raisesW_false ?_) ?_)
  all_goals first | (with_reducible exact post_true _) | wrow_none_raised
end
end Mine
theorem PySem.Challenge.cw_ey0009_01_holds : PySem.Challenge.rw_ey0009_01.Holds :=
  Mine.all
