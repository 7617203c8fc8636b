import PyProof.Rows.All
import PyProof.Rows.RegReprOcc
import Wide.All
import OpenK.AllK
import Wide.FinOn
import Lean
import PySem.Challenge.RW_xc0039_01
set_option Elab.async false
set_option maxRecDepth 100000
set_option maxHeartbeats 8000000
section
open PySem PySem.W PyProof.Rows
namespace Mine
open_top hd for PySem.Challenge.rw_xc0039_01
end Mine
end
section
open PySem PySem.W PyProof.Rows PyProof

namespace Mine
/-- the text of a list of codes -/
def mk (l : List Nat) : Str := ⟨l.toArray⟩
def lst (x : Str) : List Nat := x.cps.toList
theorem lst_mk (l : List Nat) : lst (mk l) = l := rfl
theorem mk_lst (x : Str) : mk (lst x) = x := rfl
theorem lst_inj {x y : Str} (h : lst x = lst y) : x = y := by rw [← mk_lst x, ← mk_lst y, h]
theorem len_lst (x : Str) : x.length = (lst x).length := by simp [Str.length, lst]
theorem len_mk (l : List Nat) : (mk l).length = l.length := by simp [Str.length, mk]
theorem lst_append (x y : Str) : lst (x ++ y) = lst x ++ lst y := by simp [lst, Str.cps_append]
theorem mk_append (a b : List Nat) : mk a ++ mk b = mk (a ++ b) := lst_inj (by rw [lst_append, lst_mk, lst_mk, lst_mk])
theorem lst_empty : lst (PySem.Str.ofString "") = [] := by decide +kernel
theorem lst_dot : lst (PySem.Str.ofString ".") = [46] := by decide +kernel
theorem lst_slash : lst (PySem.Str.ofString "/") = [47] := by decide +kernel
theorem lst_back : lst (PySem.Str.ofString "\\") = [92] := by decide +kernel
theorem lst_both : lst (PySem.Str.ofString "/\\") = [47, 92] := by decide +kernel
theorem lst_dab : lst (PySem.Str.ofString ".ab") = [46, 97, 98] := by decide +kernel
theorem lst_menu : lst (PySem.Str.ofString "ab./\\") = [97, 98, 46, 47, 92] := by decide +kernel
theorem empty_mk : PySem.Str.ofString "" = mk [] := lst_inj lst_empty
theorem dot_mk : PySem.Str.ofString "." = mk [46] := lst_inj lst_dot

theorem slice_to {x : Str} {j : Int} (h : 0 ≤ j) (h' : j ≤ x.length) : Txt.slice x none (some j) = mk ((lst x).take j.toNat) := by
  have e := eq_of_beq (slice_closes_to (x := x) (j := j) ⟨h, by rw [len_lst] at h'; exact h'⟩)
  rw [e]
  unfold mk lst
  simp
theorem slice_from {x : Str} {i : Int} (h : 0 ≤ i) (h' : i ≤ x.length) : Txt.slice x (some i) none = mk ((lst x).drop i.toNat) := by
  have e := eq_of_beq (slice_closes_from (x := x) (i := i) ⟨h, by rw [len_lst] at h'; exact h'⟩)
  rw [e]
  unfold mk lst
  congr 2
  refine List.take_of_length_le ?_
  rw [List.length_drop]
  omega
theorem slice_mid {x : Str} {i j : Int} (h : 0 ≤ i) (hij : i ≤ j) (h' : j ≤ x.length) : Txt.slice x (some i) (some j) = mk (((lst x).drop i.toNat).take (j - i).toNat) := by
  have e := eq_of_beq (slice_closes (x := x) (i := i) (j := j) ⟨h, hij, by rw [len_lst] at h'; exact h'⟩)
  rw [e]
  rfl
theorem item_at {x : Str} {i : Int} (h : 0 ≤ i) (h' : i < x.length) : Txt.item x i = mk [(lst x).getD i.toNat 0] := by
  rw [item_meets ⟨h, h'⟩]
  unfold mk lst
  simp

/-- every sign lies below the last code -/
def Ok (x : Str) : Prop := ∀ c ∈ lst x, c < 0x110000
theorem Ok.strOk {x : Str} (h : Ok x) : PyData.strOk x = true := by
  unfold PyData.strOk
  rw [Array.all_eq_true']
  intro c hc
  exact decide_eq_true (h c (by unfold lst; simpa using hc))
theorem Ok.sub {x y : Str} (h : Ok x) (hs : ∀ c ∈ lst y, c ∈ lst x) : Ok y := fun c hc => h c (hs c hc)
theorem Ok.append {x y : Str} (h : Ok x) (h' : Ok y) : Ok (x ++ y) := fun c hc => by
  rw [lst_append] at hc
  exact (List.mem_append.mp hc).elim (h c) (h' c)

theorem canLayAll0_strs : ∀ us : List Str, (∀ u ∈ us, Ok u) → PyData.canLayAll0 (us.map PyData.str) = true
  | [], _ => rfl
  | u :: r, h => by
    simp only [List.map_cons, PyData.canLayAll0, PyData.canLay0, canLayAll0_strs r fun x hx => h x (.tail _ hx), (h u (.head _)).strOk, Bool.and_self]
theorem shaped_strs {us : List Str} (h : ∀ u ∈ us, Ok u) : SeqAt.shaped (.list (us.map PyData.str)) = true := by
  have h1 := canLayAll0_strs us h
  have h2 := depthAll_strs' us
  simp [SeqAt.shaped, PyData.canLay0, PyData.depth, h1, h2]
theorem sameAll_strs : ∀ us vs : List Str, PySem.Spec.sameAll (us.map PyData.str) (vs.map PyData.str) = decide (us = vs)
  | [], [] => by simp [PySem.Spec.sameAll]
  | [], _ :: _ => by simp [PySem.Spec.sameAll]
  | _ :: _, [] => by simp [PySem.Spec.sameAll]
  | a :: r, b :: t => by
    simp only [List.map_cons, PySem.Spec.sameAll, PySem.Spec.same, sameAll_strs r t]
    by_cases h : a = b <;> by_cases h' : r = t <;> simp [h, h']
theorem same_strs (us vs : List Str) : PySem.Spec.same (.list (us.map PyData.str)) (.list (vs.map PyData.str)) = decide (us = vs) := by
  simp only [PySem.Spec.same]; exact sameAll_strs us vs

section
variable {prog : Program} {w : World} {A : Around} {E : Value → Shared → Prop} {s : Shared} {a b : Addr} {xs ys : List Value} {us vs : List Str} {Q : Value → Shared → Prop}
theorem eq_strs (ha : s.heap.IsList a xs.toArray) (hb : s.heap.IsList b ys.toArray) (hi : CarriedAll xs (us.map PyData.str)) (hj : CarriedAll ys (vs.map PyData.str)) (ho : ∀ u ∈ us, Ok u) (ho' : ∀ u ∈ vs, Ok u) (hu : A.units + 64 < cLine) (h : Q (.bool (decide (us = vs))) s) :
    wpAny (model prog w) A (compareOp .Eq (.ref a) (.ref b)) Q E s :=
  eq_dataH_same (reads_newData ha hi) (reads_newData hb hj) (shaped_strs ho) (shaped_strs ho') hu (SeqAt.noMix_of_shape (.list .str) rfl _ _ (list_map_has fun _ => rfl) (list_map_has fun _ => rfl)) (by rw [same_strs]; exact h)
theorem ne_strs (ha : s.heap.IsList a xs.toArray) (hb : s.heap.IsList b ys.toArray) (hi : CarriedAll xs (us.map PyData.str)) (hj : CarriedAll ys (vs.map PyData.str)) (ho : ∀ u ∈ us, Ok u) (ho' : ∀ u ∈ vs, Ok u) (hu : A.units + 64 < cLine) (h : Q (.bool (!decide (us = vs))) s) :
    wpAny (model prog w) A (compareOp .NotEq (.ref a) (.ref b)) Q E s :=
  ne_dataH_same (reads_newData ha hi) (reads_newData hb hj) (shaped_strs ho) (shaped_strs ho') hu (SeqAt.noMix_of_shape (.list .str) rfl _ _ (list_map_has fun _ => rfl) (list_map_has fun _ => rfl)) (by rw [same_strs]; exact h)
theorem ne_nil (ha : s.heap.IsList a xs.toArray) (hb : s.heap.IsList b #[]) (hi : CarriedAll xs (us.map PyData.str)) (ho : ∀ u ∈ us, Ok u) (hu : A.units + 64 < cLine) (h : Q (.bool (!decide (us = []))) s) :
    wpAny (model prog w) A (compareOp .NotEq (.ref a) (.ref b)) Q E s := ne_strs (ys := []) (vs := []) ha hb hi .nil ho (fun _ h => nomatch h) hu h
theorem eq_nil (ha : s.heap.IsList a xs.toArray) (hb : s.heap.IsList b #[]) (hi : CarriedAll xs (us.map PyData.str)) (ho : ∀ u ∈ us, Ok u) (hu : A.units + 64 < cLine) (h : Q (.bool (decide (us = []))) s) :
    wpAny (model prog w) A (compareOp .Eq (.ref a) (.ref b)) Q E s := eq_strs (ys := []) (vs := []) ha hb hi .nil ho (fun _ h => nomatch h) hu h
end
end Mine
end
section
open PySem PySem.W PyProof.Rows PyProof

namespace Mine
def PathInv (left : Int) (signs : Str) : Prop := left < 5 ^ (58 - signs.length)
theorem pathInv_start {n : Int} : 0 ≤ n.fmod (10 ^ Int.toNat 40) ∧ (PySem.Str.ofString "").length ≤ 58 ∧ PathInv (n.fmod (10 ^ Int.toNat 40)) (PySem.Str.ofString "") := by
  have e : (Int.toNat 40) = 40 := rfl
  rw [e]
  have hp : (0 : Int) < 10 ^ 40 := by decide +kernel
  have h1 := Int.fmod_nonneg_of_pos n hp
  have h2 := Int.fmod_lt_of_pos n hp
  have hl : (PySem.Str.ofString "").length = 0 := by decide +kernel
  refine ⟨h1, by omega, ?_⟩
  unfold PathInv
  rw [hl]
  exact Int.lt_trans h2 (by decide +kernel)
theorem pathInv_turn {left : Int} {signs c : Str} (h0 : 0 ≤ left) (h1 : signs.length ≤ 58) (h2 : PathInv left signs) (hpos : 0 < left) (hc : c.length = 1) :
    0 ≤ left.fdiv 5 ∧ (signs ++ c).length ≤ 58 ∧ PathInv (left.fdiv 5) (signs ++ c) := by
  unfold PathInv at *
  have hl : (signs ++ c).length = signs.length + c.length := Str.length_append _ _
  rw [hl, hc]
  have hlt : signs.length < 58 := by
    rcases Nat.lt_or_ge signs.length 58 with h | h
    · exact h
    · have e : 58 - signs.length = 0 := by omega
      rw [e] at h2
      have : (5 : Int) ^ 0 = 1 := rfl
      omega
  have e : 58 - signs.length = (58 - (signs.length + 1)) + 1 := by omega
  rw [e, Int.pow_succ] at h2
  generalize (5 : Int) ^ (58 - (signs.length + 1)) = P at *
  have hd : left.fdiv 5 = left / 5 := Int.fdiv_eq_ediv_of_nonneg _ (by decide)
  rw [hd]
  omega

theorem pathInv_less {left : Int} (h : 0 < left) : (left.fdiv 5).toNat < left.toNat := by
  have hd : left.fdiv 5 = left / 5 := Int.fdiv_eq_ediv_of_nonneg _ (by decide)
  rw [hd]
  omega
def menuL : List Nat := [97, 98, 46, 47, 92]
/-- the signs that a number makes -/
def pathL : Nat → Int → List Nat
  | 0, _ => []
  | f + 1, left => if 0 < left then menuL.getD (left.fmod 5).toNat 0 :: pathL f (left.fdiv 5) else []
def lawPath (n : Int) : Str := mk (pathL 58 ((if n < 0 then -n else n).fmod (10 ^ Int.toNat 40)))
theorem pathL_done {f : Nat} {left : Int} (h : ¬ 0 < left) : pathL f left = [] := by
  cases f with
  | zero => rfl
  | succ f => unfold pathL; rw [if_neg h]
theorem pathL_len : ∀ (f : Nat) (left : Int), (pathL f left).length ≤ f
  | 0, _ => Nat.le_refl _
  | f + 1, left => by
    unfold pathL
    split
    · have := pathL_len f (left.fdiv 5); simp only [List.length_cons]; omega
    · simp
theorem menu_mem {i : Nat} : menuL.getD i 0 ∈ (0 :: menuL) := by
  unfold menuL
  match i with
  | 0 | 1 | 2 | 3 | 4 => decide
  | i + 5 => exact .head _
theorem pathL_mem : ∀ (f : Nat) (left : Int), ∀ c ∈ pathL f left, c ∈ (0 :: menuL)
  | 0, _ => fun _ h => nomatch h
  | f + 1, left => by
    intro c hc
    unfold pathL at hc
    split at hc
    · rcases List.mem_cons.mp hc with rfl | hc
      · exact menu_mem
      · exact pathL_mem f _ c hc
    · cases hc
theorem lawPath_len (n : Int) : (lawPath n).length ≤ 58 := by
  unfold lawPath; rw [len_mk]; exact pathL_len _ _
theorem lawPath_ok (n : Int) : Ok (lawPath n) := by
  intro c hc
  have := pathL_mem _ _ c hc
  unfold menuL at this
  simp only [List.mem_cons, List.not_mem_nil, or_false] at this
  omega
def PathTo (n left : Int) (signs : Str) : Prop := lst signs ++ pathL (58 - signs.length) left = lst (lawPath n)
theorem pathTo_start {n : Int} : PathTo n ((if n < 0 then -n else n).fmod (10 ^ Int.toNat 40)) (PySem.Str.ofString "") := by
  unfold PathTo
  have hl : (PySem.Str.ofString "").length = 0 := by decide +kernel
  rw [hl, lst_empty]
  rfl
theorem pathTo_turn {n left : Int} {signs : Str} (h0 : 0 ≤ left) (h1 : signs.length ≤ 58) (h2 : PathInv left signs) (hpos : 0 < left) (h : PathTo n left signs) :
    PathTo n (left.fdiv 5) (signs ++ Txt.item (PySem.Str.ofString "ab./\\") (left.fmod 5)) := by
  have m0 := Int.fmod_nonneg_of_pos left (b := 5) (by decide)
  have m1 := Int.fmod_lt_of_pos left (b := 5) (by decide)
  have hlen : (PySem.Str.ofString "ab./\\").length = 5 := by decide +kernel
  have e : Txt.item (PySem.Str.ofString "ab./\\") (left.fmod 5) = mk [menuL.getD (left.fmod 5).toNat 0] := by
    rw [item_at m0 (by rw [hlen]; exact m1), lst_menu]; rfl
  rw [e]
  unfold PathTo at *
  have hl : (signs ++ mk [menuL.getD (left.fmod 5).toNat 0]).length = signs.length + 1 := by rw [Str.length_append, len_mk]; rfl
  rw [hl, lst_append, lst_mk, ← h]
  have hlt : signs.length < 58 := by
    rcases Nat.lt_or_ge signs.length 58 with h | h
    · exact h
    · unfold PathInv at h2
      have e : 58 - signs.length = 0 := by omega
      rw [e] at h2
      have : (5 : Int) ^ 0 = 1 := rfl
      omega
  have e2 : 58 - signs.length = (58 - (signs.length + 1)) + 1 := by omega
  rw [e2]
  conv => rhs; rw [pathL, if_pos hpos]
  rw [List.append_assoc]
  rfl
theorem pathTo_end {n left : Int} {signs : Str} (hpos : ¬ 0 < left) (h : PathTo n left signs) : signs = lawPath n := by
  unfold PathTo at h
  rw [pathL_done hpos, List.append_nil] at h
  exact lst_inj h
theorem path_start {n : Int} : 0 ≤ (if n < 0 then -n else n).fmod (10 ^ Int.toNat 40) ∧ (PySem.Str.ofString "").length ≤ 58 ∧ PathInv ((if n < 0 then -n else n).fmod (10 ^ Int.toNat 40)) (PySem.Str.ofString "") ∧ PathTo n ((if n < 0 then -n else n).fmod (10 ^ Int.toNat 40)) (PySem.Str.ofString "") :=
  ⟨(pathInv_start (n := if n < 0 then -n else n)).1, (pathInv_start (n := if n < 0 then -n else n)).2.1, (pathInv_start (n := if n < 0 then -n else n)).2.2, pathTo_start⟩
theorem path_turn {n left : Int} {signs : Str} (h0 : 0 ≤ left) (h1 : signs.length ≤ 58) (h2 : PathInv left signs) (h : PathTo n left signs) (hpos : 0 < left) :
    0 ≤ left.fdiv 5 ∧ (signs ++ Txt.item (PySem.Str.ofString "ab./\\") (left.fmod 5)).length ≤ 58 ∧ PathInv (left.fdiv 5) (signs ++ Txt.item (PySem.Str.ofString "ab./\\") (left.fmod 5)) ∧ PathTo n (left.fdiv 5) (signs ++ Txt.item (PySem.Str.ofString "ab./\\") (left.fmod 5)) := by
  have m0 := Int.fmod_nonneg_of_pos left (b := 5) (by decide)
  have m1 := Int.fmod_lt_of_pos left (b := 5) (by decide)
  have hlen : (PySem.Str.ofString "ab./\\").length = 5 := by decide +kernel
  have hc : (Txt.item (PySem.Str.ofString "ab./\\") (left.fmod 5)).length = 1 := by
    rw [item_at m0 (by rw [hlen]; exact m1), len_mk]; rfl
  have := pathInv_turn h0 h1 h2 hpos hc
  exact ⟨this.1, this.2.1, this.2.2, pathTo_turn h0 h1 h2 hpos h⟩
theorem law_path_call {w : World} {dp un : Nat} {gd : Option (List Code)} {cn : Str} {cs : Scope} {L a : Addr} {ccd : Value} {cl : List (Str × Addr)} {outer : List Env} {A₀ : Around} {base h₀ : Heap} {m mg mb : Str → Option Value} {mean : ExcName → Option Value} {s : Shared} {Q E : Value → Shared → Prop} {news : List (Addr × Obj)} {n : Int} {t : Tok}
    (B : Below A₀ base outer h₀) (F : Fr h₀ L s.heap m) (X : (hd.heap_39 w.params).In h₀) (N : News h₀ L s.heap news) (T : Top hd.view_39 (looseW hd.view_39 []) mean mg mb h₀) (hk : cs.kind = .function)
    (hd : dp + 10 < recursionLimit) (hu : un + 30 < cLine)
    (ret : ∀ t' h' tk', Fr h₀ L h' m → News h₀ L h' news → Q (.str (lawPath n) t') { s with heap := h', toks := tk' }) :
    wpAny (model PySem.Challenge.rw_xc0039_01.row.prog w) (ktrTop dp un gd cn cs L a ccd cl outer) (call (.ref 115) [.int n t]) Q E s := by
  revert X; k_fill; intro X
  refine wpAny_call ?_
  k_dflt cell_enter
  k_with_none
  k_with "measure" => exact pathInv_less (by assumption)
  k_with "state" => exact path_turn (by assumption) (by assumption) (by assumption) (by assumption) (by assumption)
  k_with "state" => exact path_start
  k_with "exec While Compare cons nil" => k_while (fun _ left signs => 0 ≤ left ∧ signs.length ≤ 58 ∧ PathInv left signs ∧ PathTo n left signs) (fun _ left _ => left.toNat) "left" "signs"
  k_steps
  rename PathTo _ _ _ => hp
  rename ¬ 0 < _ => hpos
  rw [pathTo_end hpos hp]
  refine ret _ _ _ ?_ ?_ <;> assumption
end Mine
end
section
open PySem PySem.W PyProof.Rows

namespace Mine
def nameL (k p : List Nat) : List Nat := p.foldl (fun acc c => if c ∈ k then [] else acc ++ [c]) []
def lawName (p k : Str) : Str := ⟨(nameL k.cps.toList p.cps.toList).toArray⟩
def lawNameI (k : Str) (pre : List Int) : Str := ⟨(nameL k.cps.toList (pre.map Int.toNat)).toArray⟩
theorem nameL_snoc (k p : List Nat) (c : Nat) : nameL k (p ++ [c]) = if c ∈ k then [] else nameL k p ++ [c] := by
  simp [nameL, List.foldl_append]
theorem nameL_len (k : List Nat) : ∀ (p : List Nat), (nameL k p).length ≤ p.length := by
  intro p
  have key : ∀ (p acc : List Nat), (p.foldl (fun acc c => if c ∈ k then [] else acc ++ [c]) acc).length ≤ acc.length + p.length := by
    intro p
    induction p with
    | nil => intro acc; simp
    | cons c r ih =>
      intro acc
      rw [List.foldl_cons]
      refine Nat.le_trans (ih _) ?_
      split
      · simp only [List.length_cons, List.length_nil]; omega
      · simp only [List.length_append, List.length_cons, List.length_nil]; omega
  have := key p []
  simpa [nameL] using this
theorem lawNameI_codes (k p : Str) : lawNameI k (KStt.codes p) = lawName p k := by
  unfold lawNameI lawName KStt.codes
  congr 2
  simp [Function.comp_def]
theorem lawName_len (p k : Str) : (lawName p k).length ≤ p.length := by
  have := nameL_len k.cps.toList p.cps.toList
  simpa [lawName, Str.length] using this
theorem lawName_turn_in {k name : Str} {pre : List Int} {c : Nat} (_ : name = lawNameI k pre ∧ name.length ≤ pre.length) (ho : (Builtin.Str.occurrences k { cps := #[c] } 0 k.length 1).isEmpty = false) :
    PySem.Str.ofString "" = lawNameI k (pre ++ [(c : Int)]) ∧ (PySem.Str.ofString "").length ≤ (pre ++ [(c : Int)]).length := by
  have hl : (PySem.Str.ofString "") = ⟨#[]⟩ := by decide +kernel
  have hc := StrLaws.found_one k c
  have hm : c ∈ k.cps.toList := by
    rw [← decide_eq_true_eq (p := c ∈ k.cps.toList), ← hc]
    simpa using ho
  refine ⟨?_, ?_⟩
  · rw [hl]
    unfold lawNameI
    rw [List.map_append, List.map_cons, List.map_nil, nameL_snoc]
    simp [hm]
  · rw [hl]; simp [Str.length]
theorem lawName_turn_out {k name : Str} {pre : List Int} {c : Nat} (h : name = lawNameI k pre ∧ name.length ≤ pre.length) (ho : (Builtin.Str.occurrences k { cps := #[c] } 0 k.length 1).isEmpty = true) :
    name ++ ({ cps := #[c] } : Str) = lawNameI k (pre ++ [(c : Int)]) ∧ (name ++ ({ cps := #[c] } : Str)).length ≤ (pre ++ [(c : Int)]).length := by
  have hc := StrLaws.found_one k c
  rw [ho] at hc
  have hm : ¬ c ∈ k.cps.toList := by
    simpa using hc.symm
  obtain ⟨h1, h2⟩ := h
  refine ⟨?_, ?_⟩
  · rw [h1]
    unfold lawNameI
    rw [List.map_append, List.map_cons, List.map_nil, nameL_snoc]
    simp only [Int.toNat_natCast, hm, if_false]
    apply Str.ext'
    simp [Str.cps_append]
  · have : (name ++ ({ cps := #[c] } : Str)).length = name.length + 1 := by rw [Str.length_append]; rfl
    rw [this, List.length_append]
    simp only [List.length_cons, List.length_nil]; omega
theorem lawName_start {k : Str} : PySem.Str.ofString "" = lawNameI k [] ∧ (PySem.Str.ofString "").length ≤ ([] : List Int).length := by
  have hl : (PySem.Str.ofString "") = ⟨#[]⟩ := by decide +kernel
  rw [hl]
  exact ⟨rfl, Nat.le_refl _⟩

theorem law_name_call {w : World} {dp un : Nat} {gd : Option (List Code)} {cn : Str} {cs : Scope} {L a : Addr} {ccd : Value} {cl : List (Str × Addr)} {outer : List Env} {A₀ : Around} {base h₀ : Heap} {m mg mb : Str → Option Value} {mean : ExcName → Option Value} {s : Shared} {Q E : Value → Shared → Prop} {news : List (Addr × Obj)} {p k : Str} {t t2 : Tok}
    (B : Below A₀ base outer h₀) (F : Fr h₀ L s.heap m) (X : (hd.heap_39 w.params).In h₀) (N : News h₀ L s.heap news) (T : Top hd.view_39 (looseW hd.view_39 []) mean mg mb h₀) (hk : cs.kind = .function)
    (hd : dp + 10 < recursionLimit) (hu : un + 30 < cLine) (hp : p.length ≤ 1000) (hkl : k.length ≤ 1000)
    (ret : ∀ t' h' tk', Fr h₀ L h' m → News h₀ L h' news → Q (.str (lawName p k) t') { s with heap := h', toks := tk' }) :
    wpAny (model PySem.Challenge.rw_xc0039_01.row.prog w) (ktrTop dp un gd cn cs L a ccd cl outer) (call (.ref 122) [.str p t, .str k t2]) Q E s := by
  revert X; k_fill; intro X
  refine wpAny_call ?_
  k_dflt cell_enter
  k_with_none
  k_with "state" => exact lawName_turn_in (And.intro (by assumption) (by assumption)) (by assumption)
  k_with "state" => exact lawName_turn_out (And.intro (by assumption) (by assumption)) (by assumption)
  k_with "state" => exact lawName_start
  k_with "pyIter str" => k_state (fun pre name => name = lawNameI k pre ∧ name.length ≤ pre.length) "name"
  k_steps
  rename _ = lawNameI _ _ => e
  rw [lawNameI_codes] at e
  rw [e]
  refine ret _ _ _ ?_ ?_ <;> assumption
end Mine
end
section
open PySem PySem.W PyProof.Rows PyProof

namespace Mine
/-- the last place whose sign is told by q -/
def lastOf (q : Nat → Bool) : List Nat → Option Nat
  | [] => none
  | c :: r => match lastOf q r with
    | some i => some (i + 1)
    | none => if q c = true then some 0 else none
theorem lastOf_none {q : Nat → Bool} : ∀ {l : List Nat}, lastOf q l = none → ∀ c ∈ l, q c = false
  | [], _, _, h => nomatch h
  | a :: r, h, c, hc => by
    unfold lastOf at h
    split at h
    · cases h
    · rename_i hr
      split at h
      · cases h
      · rename_i hq
        rcases List.mem_cons.mp hc with rfl | hc
        · simpa using hq
        · exact lastOf_none hr c hc
theorem lastOf_some {q : Nat → Bool} : ∀ {l : List Nat} {i : Nat}, lastOf q l = some i → ∃ c, l = l.take i ++ c :: l.drop (i + 1) ∧ q c = true ∧ ∀ x ∈ l.drop (i + 1), q x = false
  | [], _, h => nomatch h
  | a :: r, i, h => by
    unfold lastOf at h
    split at h
    · rename_i k hr
      obtain rfl := Option.some.inj h
      obtain ⟨c, e, hq, hn⟩ := lastOf_some hr
      exact ⟨c, by simpa using e, hq, by simpa using hn⟩
    · rename_i hr
      split at h
      · rename_i hq
        obtain rfl := Option.some.inj h
        exact ⟨a, by simp, hq, by simpa using lastOf_none hr⟩
      · cases h
theorem lastOf_free {q : Nat → Bool} : ∀ {l : List Nat}, (∀ c ∈ l, q c = false) → lastOf q l = none
  | [], _ => rfl
  | a :: r, h => by
    unfold lastOf
    rw [lastOf_free fun c hc => h c (.tail _ hc)]
    simp [h a (.head _)]
theorem lastOf_mid {q : Nat → Bool} {c : Nat} {b : List Nat} (hq : q c = true) (hb : ∀ x ∈ b, q x = false) : ∀ a : List Nat, lastOf q (a ++ c :: b) = some a.length
  | [] => by
    show lastOf q (c :: b) = some 0
    unfold lastOf
    rw [lastOf_free hb]
    simp [hq]
  | x :: a => by
    show lastOf q (x :: (a ++ c :: b)) = some (a.length + 1)
    unfold lastOf
    rw [lastOf_mid hq hb a]

def dotB (c : Nat) : Bool := c == 46
/-- the end of a name -/
def endL (l : List Nat) : List Nat := match lastOf dotB l with
  | some i => if (l.take i).all dotB = true then [] else l.drop i
  | none => []
def lawEnd (nm : Str) : Str := mk (endL (lst nm))

theorem endL_free {l : List Nat} (h : ∀ c ∈ l, dotB c = false) : endL l = [] := by
  unfold endL
  rw [lastOf_free h]
theorem endL_mid {a b : List Nat} (hb : ∀ x ∈ b, dotB x = false) : endL (a ++ 46 :: b) = if a.all dotB = true then [] else 46 :: b := by
  unfold endL
  rw [lastOf_mid (c := 46) rfl hb a]
  simp
theorem split_at {l : List Nat} {k c : Nat} (h : l[k]? = some c) : l = l.take k ++ c :: l.drop (k + 1) := by
  obtain ⟨hk, e⟩ := List.getElem?_eq_some_iff.mp h
  rw [← e, List.getElem_cons_drop, List.take_append_drop]

def NoDot (nm : Str) (n : Nat) : Prop := ∀ i : Nat, nm.length - n ≤ i → i < nm.length → (lst nm)[i]? ≠ some 46
theorem noDot_start {nm : Str} : NoDot nm ([] : List Int).length := fun i h1 h2 => by simp at h1; omega
theorem item_dot {nm : Str} {k : Int} (h0 : 0 ≤ k) (h1 : k < nm.length) : (Txt.item nm k == PySem.Str.ofString ".") = decide ((lst nm)[k.toNat]? = some 46) := by
  rw [item_at h0 h1, dot_mk]
  rw [len_lst] at h1
  have hk : k.toNat < (lst nm).length := by omega
  rw [List.getElem?_eq_getElem hk, List.getD_eq_getElem?_getD, List.getElem?_eq_getElem hk]
  simp only [Option.getD_some, Option.some.injEq]
  generalize (lst nm)[k.toNat] = x
  rw [Bool.eq_iff_iff, beq_iff_eq, decide_eq_true_eq]
  constructor
  · intro e
    have := congrArg lst e
    simpa [lst_mk] using this
  · rintro rfl; rfl
theorem noDot_turn {nm : Str} {pre : List Int} {k : Int} (hi : NoDot nm pre.length) (hk : k = (nm.length : Int) - 1 - (pre.length : Int)) (hl : pre.length < ((nm.length : Int) - 1 - 0).toNat) (hd : (Txt.item nm k == PySem.Str.ofString ".") = false) : NoDot nm (pre ++ [k]).length := by
  intro i h1 h2
  rw [List.length_append] at h1
  simp only [List.length_cons, List.length_nil] at h1
  by_cases e : nm.length - pre.length ≤ i
  · exact hi i e h2
  · rw [item_dot (by omega) (by omega)] at hd
    have : i = k.toNat := by omega
    rw [this]
    simpa using hd
theorem lawEnd_found {nm : Str} {pre : List Int} {k : Int} (hi : NoDot nm pre.length) (hk : k = (nm.length : Int) - 1 - (pre.length : Int)) (hl : pre.length < ((nm.length : Int) - 1 - 0).toNat) (hd : (Txt.item nm k == PySem.Str.ofString ".") = true) :
    endL (lst nm) = if ((lst nm).take k.toNat).all dotB = true then [] else (lst nm).drop k.toNat := by
  rw [item_dot (by omega) (by omega), decide_eq_true_eq] at hd
  have e := split_at hd
  have hb : ∀ x ∈ (lst nm).drop (k.toNat + 1), dotB x = false := by
    intro x hx
    obtain ⟨j, hj⟩ := List.mem_iff_getElem?.mp hx
    rw [List.getElem?_drop] at hj
    have hlt : k.toNat + 1 + j < (lst nm).length := (List.getElem?_eq_some_iff.mp hj).1
    rw [← len_lst] at hlt
    have := hi (k.toNat + 1 + j) (by omega) hlt
    rw [hj] at this
    unfold dotB
    simpa using this
  have e1 : endL (lst nm) = endL ((lst nm).take k.toNat ++ 46 :: (lst nm).drop (k.toNat + 1)) := congrArg endL e
  have e2 : (lst nm).drop k.toNat = 46 :: (lst nm).drop (k.toNat + 1) := by
    have hlt : k.toNat < (lst nm).length := (List.getElem?_eq_some_iff.mp hd).1
    rw [List.drop_eq_getElem_cons hlt]
    congr 1
    exact (List.getElem?_eq_some_iff.mp hd).2
  rw [e1, endL_mid hb, e2]
theorem signs_eq (x : Str) : signs x = (lst x).map fun c => mk [c] := rfl
theorem mk1_dot {c : Nat} : (mk [c] != PySem.Str.ofString ".") = !dotB c := by
  rw [dot_mk]
  unfold dotB bne
  congr 1
  rw [Bool.eq_iff_iff, beq_iff_eq, beq_iff_eq]
  constructor
  · intro e
    have := congrArg lst e
    simpa [lst_mk] using this
  · rintro rfl; rfl
theorem filter_signs_nil (x : Str) : (List.filter (fun a => a != PySem.Str.ofString ".") (signs x) = []) ↔ (lst x).all dotB = true := by
  rw [signs_eq, List.filter_eq_nil_iff, List.all_eq_true]
  constructor
  · intro h c hc
    have := h (mk [c]) (List.mem_map.mpr ⟨c, hc, rfl⟩)
    rw [mk1_dot] at this
    simpa using this
  · intro h a ha
    obtain ⟨c, hc, rfl⟩ := List.mem_map.mp ha
    rw [mk1_dot, h c hc]
    simp
theorem signs_ok {x : Str} (h : Ok x) : ∀ u ∈ List.filter (fun a => a != PySem.Str.ofString ".") (signs x), Ok u := by
  intro u hu
  have hu := (List.mem_filter.mp hu).1
  rw [signs_eq] at hu
  obtain ⟨c, hc, rfl⟩ := List.mem_map.mp hu
  intro d hd
  rw [lst_mk] at hd
  rw [List.mem_singleton.mp hd]
  exact h c hc
theorem lawEnd_yes {nm : Str} {pre : List Int} {k : Int} (hi : NoDot nm pre.length) (hk : k = (nm.length : Int) - 1 - (pre.length : Int)) (hl : pre.length < ((nm.length : Int) - 1 - 0).toNat) (hd : (Txt.item nm k == PySem.Str.ofString ".") = true)
    (hf : ¬ List.filter (fun a => a != PySem.Str.ofString ".") (signs (Txt.slice nm none (some k))) = []) : Txt.slice nm (some k) none = lawEnd nm := by
  rw [filter_signs_nil, slice_to (by omega) (by omega), lst_mk] at hf
  unfold lawEnd
  rw [lawEnd_found hi hk hl hd, if_neg hf, slice_from (by omega) (by omega)]
theorem lawEnd_no {nm : Str} {pre : List Int} {k : Int} (hi : NoDot nm pre.length) (hk : k = (nm.length : Int) - 1 - (pre.length : Int)) (hl : pre.length < ((nm.length : Int) - 1 - 0).toNat) (hd : (Txt.item nm k == PySem.Str.ofString ".") = true)
    (hf : List.filter (fun a => a != PySem.Str.ofString ".") (signs (Txt.slice nm none (some k))) = []) : PySem.Str.ofString "" = lawEnd nm := by
  rw [filter_signs_nil, slice_to (by omega) (by omega), lst_mk] at hf
  unfold lawEnd
  rw [lawEnd_found hi hk hl hd, if_pos hf, empty_mk]
theorem lawEnd_none {nm : Str} (hi : NoDot nm (downKs ((nm.length : Int) - 1) ((nm.length : Int) - 1 - 0).toNat).length) : PySem.Str.ofString "" = lawEnd nm := by
  rw [downKs_length] at hi
  unfold lawEnd
  rw [empty_mk]
  congr 1
  unfold NoDot at hi
  rw [len_lst] at hi
  generalize lst nm = l at *
  cases l with
  | nil => rfl
  | cons c r =>
    have hr : ∀ x ∈ r, dotB x = false := by
      intro x hx
      obtain ⟨j, hj⟩ := List.mem_iff_getElem?.mp hx
      have hlt := (List.getElem?_eq_some_iff.mp hj).1
      have := hi (j + 1) (by simp only [List.length_cons]; omega) (by simp only [List.length_cons]; omega)
      rw [List.getElem?_cons_succ, hj] at this
      unfold dotB
      simpa using this
    by_cases hc : c = 46
    · subst hc
      have := endL_mid (a := []) hr
      exact this.symm
    · refine (endL_free ?_).symm
      intro x hx
      rcases List.mem_cons.mp hx with rfl | hx
      · unfold dotB; simpa using hc
      · exact hr x hx
theorem lawEnd_len (nm : Str) : (lawEnd nm).length ≤ nm.length := by
  unfold lawEnd
  rw [len_mk, len_lst]
  unfold endL
  split
  · split
    · simp
    · rw [List.length_drop]; omega
  · simp
theorem slice_ok {x : Str} {k : Int} (h : Ok x) (h0 : 0 ≤ k) (h1 : k ≤ x.length) : Ok (Txt.slice x none (some k)) := by
  rw [slice_to h0 h1]
  exact h.sub fun c hc => by rw [lst_mk] at hc; exact List.mem_of_mem_take hc
end Mine
end
section
open PySem PySem.W PyProof.Rows

namespace Mine
theorem nameL_mem (k : List Nat) (p : List Nat) : ∀ c ∈ nameL k p, c ∈ p := by
  have key : ∀ (p acc : List Nat), ∀ c ∈ (p.foldl (fun acc c => if c ∈ k then [] else acc ++ [c]) acc), c ∈ acc ∨ c ∈ p := by
    intro p
    induction p with
    | nil => intro acc c h; exact .inl h
    | cons a r ih =>
      intro acc c h
      rw [List.foldl_cons] at h
      rcases ih _ c h with h | h
      · split at h
        · cases h
        · rcases List.mem_append.mp h with h | h
          · exact .inl h
          · exact .inr (List.mem_cons.mpr (.inl (List.mem_singleton.mp h)))
      · exact .inr (.tail _ h)
  intro c h
  exact (key p [] c h).elim (fun h => nomatch h) id
theorem lawName_ok {p k : Str} (h : Ok p) : Ok (lawName p k) := h.sub fun c hc => nameL_mem _ _ c hc

theorem news_drop2 {h₀ h : Heap} {L : Addr} {x y : Addr × Obj} {news own : List (Addr × Obj)} (N : News h₀ L h (x :: y :: (news ++ own))) : News h₀ L h news := fun p hp => N p (.tail _ (.tail _ (List.mem_append_left _ hp)))
theorem law_end_call {w : World} {dp un : Nat} {gd : Option (List Code)} {cn : Str} {cs : Scope} {L a : Addr} {ccd : Value} {cl : List (Str × Addr)} {outer : List Env} {A₀ : Around} {base h₀ : Heap} {m mg mb : Str → Option Value} {mean : ExcName → Option Value} {s : Shared} {Q E : Value → Shared → Prop} {news : List (Addr × Obj)} {p k : Str} {t t2 : Tok}
    (B : Below A₀ base outer h₀) (F : Fr h₀ L s.heap m) (X : (hd.heap_39 w.params).In h₀) (N : News h₀ L s.heap news) (T : Top hd.view_39 (looseW hd.view_39 []) mean mg mb h₀) (hk : cs.kind = .function)
    (hd : dp + 20 < recursionLimit) (hu : un + 200 < cLine) (hp : p.length ≤ 1000) (hkl : k.length ≤ 1000) (hok : Ok p)
    (ret : ∀ t' h' tk', Fr h₀ L h' m → News h₀ L h' news → Q (.str (lawEnd (lawName p k)) t') { s with heap := h', toks := tk' }) :
    wpAny (model PySem.Challenge.rw_xc0039_01.row.prog w) (ktrTop dp un gd cn cs L a ccd cl outer) (call (.ref 127) [.str p t, .str k t2]) Q E s := by
  revert X; k_fill; intro X
  refine wpAny_call ?_
  k_dflt cell_enter
  k_with_none
  k_with "call ref" => (k_dflt (refine' law_name_call ?k1 ?k2 ?k3 ?k4 ?k5 ?k6 ?k7 ?k8 ?k9 ?k10 ?_; (case k1 => k_asm); (case k2 => k_asm); (case k3 => k_asm); (case k4 => k_asm); (case k5 => k_asm); (case k6 => first | exact rfl | assumption); (case k7 => ktr_room); (case k8 => ktr_units); (case k9 => assumption); (case k10 => assumption)); intro t9 h9 tk9 F9 N9; (have hnl : (lawName p k).length ≤ 1000 := Nat.le_trans (lawName_len p k) hp); (have hno : Ok (lawName p k) := lawName_ok hok); (generalize lawName p k = nm at *); (try dsimp only); (try k_fold))
  k_with "pyIter ref" => ((rename Fr _ _ _ _ => lF'); (rename News _ _ _ _ => lN'); (rename IsRange _ _ _ _ _ _ _ _ => rgX); (with_unfolding_all refine' kst_rangeD (σ := Unit) (fun _ => news) (fun _ => []) (fun _ => True) [] (fun pre _ => NoDot nm pre.length) () (by rfl) rgX (small_down (by omega) (by omega) (by omega) (by omega)) (rangeSize_downNat _ _) lF' lN' True.intro (List.forall_mem_nil _) ?kp ?kturn ?kdone); (case kp => exact noDot_start); (clear lF' lN'); (case' kturn => intro kC kPre kN kT kU kH kTk kOwn kEq kLt kOff kFacts kInv kFr kNews; (try dsimp only [kstB] at kFr); (try dsimp only at kNews); (try dsimp only at kInv); (try dsimp only at kOff)); (case' kdone => intro kC kU kH kTk kFacts kInv kFr kNews; (try dsimp only [kstB] at kFr); (try dsimp only at kNews); (try dsimp only at kInv)))
  k_with "state" => exact noDot_turn (by assumption) (by assumption) (by assumption) (by assumption)
  k_with "eval List" => (k_made; refine List_ ?_)
  k_with "compareOp NotEq ref ref" => (refine ne_nil (News.isList (by assumption) (by k_mem)) (News.isList (by assumption) (by k_mem)) (by assumption) (signs_ok (slice_ok (by assumption) (by omega) (by omega))) (by ktr_units) ?_)
  k_steps
  · rw [lawEnd_none kInv]
    refine ret _ _ _ ?_ ?_ <;> assumption
  · rename List.filter _ _ = _ => hf
    rename (_ == _) = true => hdt
    rename News h₀ _ _ _ => hN
    rw [lawEnd_no kInv kEq kLt hdt hf]
    refine ret _ _ _ ?_ (news_drop2 hN)
    assumption
  · rename ¬ List.filter _ _ = _ => hf
    rename (_ == _) = true => hdt
    rename News h₀ _ _ _ => hN
    rw [lawEnd_yes kInv kEq kLt hdt hf]
    refine ret _ _ _ ?_ (news_drop2 hN)
    assumption
end Mine
end
section
open PySem PySem.W PyProof.Rows PyProof

namespace Mine
theorem rfind_mid {x : Str} {c : Nat} {a b : List Nat} (h : lst x = a ++ c :: b) (hb : c ∉ b) : Txt.rfind x (mk [c]) = a.length := by
  have hat : ∀ i, StrLaws.At x (mk [c]) x.length i ↔ (lst x)[i]? = some c := fun i => StrLaws.subAt_one x c i
  have ha : (lst x)[a.length]? = some c := by rw [h]; simp
  rcases rfind_whole x (mk [c]) with ⟨_, hn⟩ | ⟨i, e, hi, hn⟩
  · exact absurd ((hat _).mpr ha) (hn _)
  · rw [e]
    rw [hat] at hi
    have h1 : ¬ i < a.length := fun hlt => hn _ hlt ((hat _).mpr ha)
    have h2 : ¬ a.length < i := by
      intro hlt
      rw [h, List.getElem?_append_right (by omega)] at hi
      have e2 : i - a.length = (i - a.length - 1) + 1 := by omega
      rw [e2, List.getElem?_cons_succ] at hi
      exact hb (List.mem_of_getElem? hi)
    have : i = a.length := by omega
    rw [this]
theorem rfind_lt {x : Str} {c : Nat} {a b : List Nat} (h : lst x = a ++ b) (hb : c ∉ b) : Txt.rfind x (mk [c]) < a.length := by
  have hat : ∀ i, StrLaws.At x (mk [c]) x.length i ↔ (lst x)[i]? = some c := fun i => StrLaws.subAt_one x c i
  rcases rfind_whole x (mk [c]) with ⟨e, _⟩ | ⟨i, e, hi, _⟩
  · rw [e]; omega
  · rw [e]
    rw [hat] at hi
    rcases Nat.lt_or_ge i a.length with h1 | h1
    · omega
    · rw [h, List.getElem?_append_right h1] at hi
      exact absurd (List.mem_of_getElem? hi) hb
theorem rfind_ge {x : Str} {c : Nat} : -1 ≤ Txt.rfind x (mk [c]) := by
  rcases rfind_whole x (mk [c]) with ⟨e, _⟩ | ⟨i, e, _, _⟩ <;> rw [e] <;> omega

theorem nameL_app {k : List Nat} {b : List Nat} (hb : ∀ c ∈ b, c ∉ k) (a : List Nat) : nameL k (a ++ b) = nameL k a ++ b := by
  unfold nameL
  rw [List.foldl_append]
  generalize List.foldl (fun acc c => if c ∈ k then [] else acc ++ [c]) [] a = acc
  induction b generalizing acc with
  | nil => simp
  | cons c r ih =>
    rw [List.foldl_cons, if_neg (hb c (.head _)), ih fun c hc => hb c (.tail _ hc)]
    simp
theorem nameL_free {k : List Nat} {b : List Nat} (hb : ∀ c ∈ b, c ∉ k) : nameL k b = b := nameL_app hb []
/-- a name is what stands behind the last stroke -/
theorem nameL_cut (k : List Nat) (l : List Nat) : ∃ pre, l = pre ++ nameL k l ∧ (∀ c ∈ nameL k l, c ∉ k) ∧ (pre = [] ∨ ∃ a c, pre = a ++ [c] ∧ c ∈ k) := by
  cases h : lastOf (fun c => decide (c ∈ k)) l with
  | none =>
    have hf := lastOf_none h
    have hf : ∀ c ∈ l, c ∉ k := fun c hc => by simpa using hf c hc
    refine ⟨[], by rw [nameL_free hf]; rfl, by rw [nameL_free hf]; exact hf, .inl rfl⟩
  | some i =>
    obtain ⟨c, e, hq, hn⟩ := lastOf_some h
    have hn : ∀ x ∈ l.drop (i + 1), x ∉ k := fun x hx => by simpa using hn x hx
    have hq : c ∈ k := by simpa using hq
    have e' : l = (l.take i ++ [c]) ++ l.drop (i + 1) := by simpa using e
    have e2 : nameL k l = l.drop (i + 1) := by
      conv => lhs; rw [e', nameL_app hn, nameL_snoc, if_pos hq]
      rfl
    rw [e2]
    exact ⟨l.take i ++ [c], e', hn, .inr ⟨_, c, rfl, hq⟩⟩

def extT (p k : Str) : Str := lawEnd (lawName p k)
def rootT (p k : Str) : Str := mk ((lst p).take (p.length - (extT p k).length))
def sepOf (k p : Str) : Int := (p.length : Int) - (lawName p k).length - 1
theorem lst_lawName (p k : Str) : lst (lawName p k) = nameL (lst k) (lst p) := rfl
theorem sep_cut (k p : Str) : ∃ pre, lst p = pre ++ nameL (lst k) (lst p) ∧ (∀ c ∈ nameL (lst k) (lst p), c ∉ lst k) ∧ (pre = [] ∨ ∃ a c, pre = a ++ [c] ∧ c ∈ lst k) ∧ sepOf k p = (pre.length : Int) - 1 := by
  obtain ⟨pre, h1, h2, h3⟩ := nameL_cut (lst k) (lst p)
  refine ⟨pre, h1, h2, h3, ?_⟩
  unfold sepOf
  have := congrArg List.length h1
  rw [List.length_append] at this
  rw [len_lst, len_lst (lawName p k), lst_lawName]
  omega
theorem slash_mk : PySem.Str.ofString "/" = mk [47] := lst_inj lst_slash
theorem back_mk : PySem.Str.ofString "\\" = mk [92] := lst_inj lst_back
theorem sep_one {k p : Str} (hk : lst k = [47]) : Txt.rfind p (PySem.Str.ofString "/") = sepOf k p := by
  obtain ⟨pre, h1, h2, h3, h4⟩ := sep_cut k p
  rw [hk] at h1 h2 h3
  rw [h4, slash_mk]
  rcases h3 with rfl | ⟨a, c, rfl, hc⟩
  · have := rfind_lt (c := 47) h1 fun h => h2 _ h (.head _)
    have := rfind_ge (x := p) (c := 47)
    simp only [List.length_nil] at *
    omega
  · rw [List.mem_singleton.mp hc] at h1
    rw [rfind_mid (a := a) (c := 47) (by simpa using h1) fun h => h2 _ h (.head _)]
    simp only [List.length_append, List.length_cons, List.length_nil]
    omega
theorem sep_two {k p : Str} (hk : lst k = [47, 92]) : (if Txt.rfind p (PySem.Str.ofString "/") < Txt.rfind p (PySem.Str.ofString "\\") then Txt.rfind p (PySem.Str.ofString "\\") else Txt.rfind p (PySem.Str.ofString "/")) = sepOf k p := by
  obtain ⟨pre, h1, h2, h3, h4⟩ := sep_cut k p
  rw [hk] at h1 h2 h3
  have ha : (47 : Nat) ∈ [47, 92] := .head _
  have hb : (92 : Nat) ∈ [47, 92] := .tail _ (.head _)
  rw [h4, slash_mk, back_mk]
  have g1 := rfind_ge (x := p) (c := 47)
  have g2 := rfind_ge (x := p) (c := 92)
  have l1 := rfind_lt (c := 47) h1 fun h => h2 _ h ha
  have l2 := rfind_lt (c := 92) h1 fun h => h2 _ h hb
  have e : (pre.length : Int) - 1 = Txt.rfind p (mk [47]) ∨ (pre.length : Int) - 1 = Txt.rfind p (mk [92]) := by
    rcases h3 with rfl | ⟨a, c, rfl, hc⟩
    · simp only [List.length_nil] at *
      omega
    · have : c = 47 ∨ c = 92 := by simpa using hc
      rcases this with rfl | rfl
      · left
        rw [rfind_mid (a := a) (c := 47) (by simpa using h1) fun h => h2 _ h ha]
        simp only [List.length_append, List.length_cons, List.length_nil]
        omega
      · right
        rw [rfind_mid (a := a) (c := 92) (by simpa using h1) fun h => h2 _ h hb]
        simp only [List.length_append, List.length_cons, List.length_nil]
        omega
  split <;> omega

theorem dot_cases (l : List Nat) : (∀ c ∈ l, c ≠ 46) ∨ ∃ a b, l = a ++ 46 :: b ∧ 46 ∉ b := by
  cases h : lastOf dotB l with
  | none =>
    left
    intro c hc
    have := lastOf_none h c hc
    unfold dotB at this
    simpa using this
  | some i =>
    obtain ⟨c, e, hq, hn⟩ := lastOf_some h
    right
    have : c = 46 := by unfold dotB at hq; simpa using hq
    subst this
    refine ⟨_, _, e, fun hm => ?_⟩
    have := hn _ hm
    unfold dotB at this
    simp at this
theorem dotB_free {b : List Nat} (h : 46 ∉ b) : ∀ x ∈ b, dotB x = false := by
  intro x hx
  unfold dotB
  have : x ≠ 46 := fun e => h (e ▸ hx)
  simpa using this
/-- where the last dot lies -/
inductive DotAt (k p : Str) : Prop
  | none (h : Txt.rfind p (PySem.Str.ofString ".") ≤ sepOf k p) (e : extT p k = mk [])
  | some (pre a b : List Nat) (h : lst p = pre ++ (a ++ 46 :: b)) (hs : sepOf k p = (pre.length : Int) - 1) (hb : 46 ∉ b) (hd : Txt.rfind p (PySem.Str.ofString ".") = (pre.length : Int) + a.length) (e : extT p k = if a.all dotB = true then mk [] else mk (46 :: b))
theorem dotAt (k p : Str) : DotAt k p := by
  obtain ⟨pre, h1, _, _, h4⟩ := sep_cut k p
  have ee : extT p k = mk (endL (nameL (lst k) (lst p))) := rfl
  rcases dot_cases (nameL (lst k) (lst p)) with hf | ⟨a, b, e, hb⟩
  · refine .none ?_ ?_
    · rw [h4, dot_mk]
      have := rfind_lt (c := 46) h1 fun h => hf _ h rfl
      omega
    · rw [ee, endL_free fun c hc => by unfold dotB; simpa using hf c hc]
  · rw [e] at h1
    refine .some pre a b h1 h4 hb ?_ ?_
    · rw [dot_mk, rfind_mid (a := pre ++ a) (c := 46) (b := b) (by simpa using h1) hb]
      simp
    · rw [ee, e, endL_mid (dotB_free hb)]
      split <;> rfl
theorem root_bare {k p : Str} (e : extT p k = mk []) : p = rootT p k ∧ Txt.slice p none (some 0) = extT p k := by
  unfold rootT
  rw [e, len_mk]
  refine ⟨lst_inj ?_, ?_⟩
  · rw [lst_mk, len_lst]; simp
  · rw [slice_to (by omega) (by omega)]; rfl
theorem split_early {k p : Str} {sep n : Int} (hs : sep = sepOf k p) (h0 : 0 ≤ n) (hlt : sep + 1 + 1 * n < Txt.rfind p (PySem.Str.ofString "."))
    (hne : (Txt.slice p (some (sep + 1 + 1 * n)) (some (sep + 1 + 1 * n + 1)) != PySem.Str.ofString ".") = true) :
    Txt.slice p none (some (Txt.rfind p (PySem.Str.ofString "."))) = rootT p k ∧ Txt.slice p (some (Txt.rfind p (PySem.Str.ofString "."))) none = extT p k := by
  rcases dotAt k p with ⟨h, _⟩ | ⟨pre, a, b, h, hs', hb, hd, e⟩
  · omega
  · rw [hs, hs', hd] at hlt
    have hlen : p.length = pre.length + (a.length + (b.length + 1)) := by rw [len_lst, h]; simp
    have hn : n.toNat < a.length := by omega
    have e1 : Txt.slice p (some (sep + 1 + 1 * n)) (some (sep + 1 + 1 * n + 1)) = mk [a[n.toNat]] := by
      rw [slice_mid (by omega) (by omega) (by omega), h]
      have t1 : (sep + 1 + 1 * n).toNat = pre.length + n.toNat := by omega
      have t2 : (sep + 1 + 1 * n + 1 - (sep + 1 + 1 * n)).toNat = 1 := by omega
      rw [t1, t2, ← List.drop_drop]
      simp only [List.drop_left]
      rw [List.drop_append_of_le_length (by omega), List.drop_eq_getElem_cons hn]
      rfl
    rw [e1, mk1_dot] at hne
    have hna : ¬ a.all dotB = true := by
      intro hall
      rw [List.all_eq_true] at hall
      rw [hall _ (List.getElem_mem hn)] at hne
      cases hne
    rw [if_neg hna] at e
    have hdn : (Txt.rfind p (PySem.Str.ofString ".")).toNat = (pre ++ a).length := by rw [hd, List.length_append]; omega
    have h' : lst p = (pre ++ a) ++ 46 :: b := by simpa using h
    constructor
    · rw [slice_to (by omega) (by omega), hdn]
      unfold rootT
      rw [e, len_mk, hlen]
      congr 1
      rw [h']
      have : pre.length + (a.length + (b.length + 1)) - (46 :: b).length = (pre ++ a).length := by simp only [List.length_cons, List.length_append]; omega
      rw [this]
    · rw [slice_from (by omega) (by omega), hdn, h', List.drop_left, e]
theorem split_done {k p : Str} {sep n : Int} (hs : sep = sepOf k p) (h0 : 0 ≤ n)
    (pass : Passed (fun j => decide (sep + 1 + 1 * j < Txt.rfind p (PySem.Str.ofString "."))) (fun j => if (Txt.slice p (some (sep + 1 + 1 * j)) (some (sep + 1 + 1 * j + 1)) != PySem.Str.ofString ".") = true then true else false) n)
    (hge : Txt.rfind p (PySem.Str.ofString ".") ≤ sep + 1 + 1 * n) : p = rootT p k ∧ Txt.slice p none (some 0) = extT p k := by
  refine root_bare ?_
  rcases dotAt k p with ⟨_, e⟩ | ⟨pre, a, b, h, hs', hb, hd, e⟩
  · exact e
  · rw [e, if_pos]
    rw [List.all_eq_true]
    intro c hc
    obtain ⟨i, hi, rfl⟩ := List.mem_iff_getElem.mp hc
    have hlen : p.length = pre.length + (a.length + (b.length + 1)) := by rw [len_lst, h]; simp
    have hp := pass (i : Int) (by omega) (by omega)
    have hp := hp.2
    have e1 : Txt.slice p (some (sep + 1 + 1 * (i : Int))) (some (sep + 1 + 1 * (i : Int) + 1)) = mk [a[i]] := by
      rw [slice_mid (by omega) (by omega) (by omega), h]
      have t1 : (sep + 1 + 1 * (i : Int)).toNat = pre.length + i := by omega
      have t2 : (sep + 1 + 1 * (i : Int) + 1 - (sep + 1 + 1 * (i : Int))).toNat = 1 := by omega
      rw [t1, t2, ← List.drop_drop]
      simp only [List.drop_left]
      rw [List.drop_append_of_le_length (by omega), List.drop_eq_getElem_cons hi]
      rfl
    dsimp only at hp
    rw [e1, mk1_dot] at hp
    cases hd : dotB a[i] with
    | true => rfl
    | false => rw [hd] at hp; simp at hp
theorem split_none {k p : Str} {sep : Int} (hs : sep = sepOf k p) (h : ¬ sep < Txt.rfind p (PySem.Str.ofString ".")) : p = rootT p k ∧ Txt.slice p none (some 0) = extT p k := by
  refine root_bare ?_
  rcases dotAt k p with ⟨_, e⟩ | ⟨pre, a, b, hl, hs', hb, hd, e⟩
  · exact e
  · omega
end Mine
end
section
open PySem PySem.W PyProof.Rows PyProof

namespace Mine
theorem splitext_none_call {w : World} {dp un : Nat} {gd : Option (List Code)} {cn : Str} {cs : Scope} {L a : Addr} {ccd : Value} {cl : List (Str × Addr)} {outer : List Env} {A₀ : Around} {base h₀ : Heap} {m mg mb : Str → Option Value} {mean : ExcName → Option Value} {s : Shared} {Q E : Value → Shared → Prop} {news : List (Addr × Obj)} {p k : Str} {t t2 t3 : Tok}
    (B : Below A₀ base outer h₀) (F : Fr h₀ L s.heap m) (X : (hd.heap_39 w.params).In h₀) (N : News h₀ L s.heap news) (T : Top hd.view_39 (looseW hd.view_39 []) mean mg mb h₀) (hk : cs.kind = .function)
    (hd : dp + 20 < recursionLimit) (hu : un + 200 < cLine) (hp : p.length ≤ 1000) (hkk : lst k = [47])
    (ret : ∀ D t' u' h' tk', Fr h₀ L h' m → News h₀ L h' ((D, { cls := .type "tuple", data := .seq #[.str (rootT p k) t', .str (extT p k) u'] }) :: news) → (∀ q ∈ news, q.1 < D) → Q (.ref D) { s with heap := h', toks := tk' }) :
    wpAny (model PySem.Challenge.rw_xc0039_01.row.prog w) (ktrTop dp un gd cn cs L a ccd cl outer) (call (.ref 108) [.str p t, .str (PySem.Str.ofString "/") t2, .none, .str (PySem.Str.ofString ".") t3]) Q E s := by
  have ret2 : ∀ D t' u' h' tk' x y, x = rootT p k → y = extT p k → Fr h₀ L h' m → News h₀ L h' ((D, { cls := .type "tuple", data := .seq #[.str x t', .str y u'] }) :: news) → (∀ q ∈ news, q.1 < D) → Q (.ref D) { s with heap := h', toks := tk' } := by
    intro D t' u' h' tk' x y e1 e2; subst e1; subst e2; exact ret D t' u' h' tk'
  revert X; k_fill; intro X
  refine wpAny_call ?_
  k_dflt cell_enter
  k_with_none
  k_steps
  · rename (_ != _) = true => hne
    rename _ + 1 + 1 * _ < _ => hlt
    rename News h₀ _ _ _ => hN
    have key := split_early (k := k) (sep_one hkk) (by assumption) hlt hne
    exact ret2 _ _ _ _ _ _ _ key.1 key.2 (by assumption) hN (by assumption)
  · rename Passed _ _ _ => hpass
    rename _ ≤ _ + 1 + 1 * _ => hge
    rename News h₀ _ _ _ => hN
    have key := split_done (k := k) (sep_one hkk) (by assumption) hpass hge
    exact ret2 _ _ _ _ _ _ _ key.1 key.2 (by assumption) hN (by assumption)
  · rename ¬ _ < _ => hlt
    rename News h₀ _ _ _ => hN
    have key := split_none (k := k) (sep_one hkk) hlt
    exact ret2 _ _ _ _ _ _ _ key.1 key.2 (by assumption) hN (by assumption)
theorem splitext_back_call {w : World} {dp un : Nat} {gd : Option (List Code)} {cn : Str} {cs : Scope} {L a : Addr} {ccd : Value} {cl : List (Str × Addr)} {outer : List Env} {A₀ : Around} {base h₀ : Heap} {m mg mb : Str → Option Value} {mean : ExcName → Option Value} {s : Shared} {Q E : Value → Shared → Prop} {news : List (Addr × Obj)} {p k : Str} {t t2 t3 t4 : Tok}
    (B : Below A₀ base outer h₀) (F : Fr h₀ L s.heap m) (X : (hd.heap_39 w.params).In h₀) (N : News h₀ L s.heap news) (T : Top hd.view_39 (looseW hd.view_39 []) mean mg mb h₀) (hk : cs.kind = .function)
    (hd : dp + 20 < recursionLimit) (hu : un + 200 < cLine) (hp : p.length ≤ 1000) (hkk : lst k = [47, 92])
    (ret : ∀ D t' u' h' tk', Fr h₀ L h' m → News h₀ L h' ((D, { cls := .type "tuple", data := .seq #[.str (rootT p k) t', .str (extT p k) u'] }) :: news) → (∀ q ∈ news, q.1 < D) → Q (.ref D) { s with heap := h', toks := tk' }) :
    wpAny (model PySem.Challenge.rw_xc0039_01.row.prog w) (ktrTop dp un gd cn cs L a ccd cl outer) (call (.ref 108) [.str p t, .str (PySem.Str.ofString "/") t2, .str (PySem.Str.ofString "\\") t4, .str (PySem.Str.ofString ".") t3]) Q E s := by
  have ret2 : ∀ D t' u' h' tk' x y, x = rootT p k → y = extT p k → Fr h₀ L h' m → News h₀ L h' ((D, { cls := .type "tuple", data := .seq #[.str x t', .str y u'] }) :: news) → (∀ q ∈ news, q.1 < D) → Q (.ref D) { s with heap := h', toks := tk' } := by
    intro D t' u' h' tk' x y e1 e2; subst e1; subst e2; exact ret D t' u' h' tk'
  revert X; k_fill; intro X
  refine wpAny_call ?_
  k_dflt cell_enter
  k_with_none
  k_steps
  · rename (_ != _) = true => hne
    rename _ + 1 + 1 * _ < _ => hlt
    rename News h₀ _ _ _ => hN
    have key := split_early (k := k) (sep_two hkk) (by assumption) hlt hne
    exact ret2 _ _ _ _ _ _ _ key.1 key.2 (by assumption) hN (by assumption)
  · rename Passed _ _ _ => hpass
    rename _ ≤ _ + 1 + 1 * _ => hge
    rename News h₀ _ _ _ => hN
    have key := split_done (k := k) (sep_two hkk) (by assumption) hpass hge
    exact ret2 _ _ _ _ _ _ _ key.1 key.2 (by assumption) hN (by assumption)
  · rename ¬ _ < _ => hlt
    rename News h₀ _ _ _ => hN
    have key := split_none (k := k) (sep_two hkk) hlt
    exact ret2 _ _ _ _ _ _ _ key.1 key.2 (by assumption) hN (by assumption)
end Mine
end
section
open PySem PySem.W PyProof.Rows PyProof PySem.Calls

namespace Mine
theorem kind_subN : builtinKind "issubclass.nested" = none := by decide +kernel
theorem plain_subN : plainId "issubclass.nested" = true := by decide +kernel
theorem args_subN (a b c : Value) : argsOk "issubclass.nested" ⟨[a, b, c], []⟩ := by unfold argsOk; kernel_rfl
section
variable {prog : Program} {w : World} {A : Around} {E : Value → Shared → Prop}
theorem subN_str {k : Value} {dep : Int} {tk : Tok} {s : Shared} {Q : Fin → Shared → Prop} (hk : k = .int dep tk) (hq : Q (.done (.ret (.bool true))) s) :
    wpAny (model prog w) A (Builtin.«issubclass.nested» ⟨[.type "str", .type "str", k], []⟩) Q E s := by
  subst hk
  have hm := PyProof.Rows.meta_str
  have hself := PyProof.Rows.sub_str_str
  repeat (any_goals (first | assumption | (rw [hself]) | wp_step))
theorem subN_items {dep : Int} {cs : List Value} {s : Shared} {Q : Option Fin × Unit → Shared → Prop} (h : ∀ tk, Q (some (.done (.ret (.bool true))), ()) { s with toks := tk }) :
    wpAny (model prog w) A (forIn (Value.type "str" :: cs) ((none : Option Fin), ()) fun c _ => do
      if ← truthy (← call (.builtin "issubclass.nested") [.type "str", c, rawInt (dep + 1)]) then
        let r ← ret (.bool true)
        pure (ForInStep.done (some r, ()))
      else pure (ForInStep.yield (none, ()))) Q E s := by
  rw [List.forIn_cons]
  refine wpAny_bind (wpAny_bind (call_function_meets (S := fun _ R s => R (.ok (.ret (.bool true))) s) kind_subN plain_subN PySem.F.entry_issubclass_nested (args_subN _ _ _) (fun _ _ _ _ _ hs => subN_str rfl hs) ?_))
  show wpAny _ _ (truthy (.bool true) >>= _) _ _ _
  refine wpAny_bind (m := truthy (.bool true)) (wpAny_pure ?_)
  exact wpAny_bind (wpAny_pure (wpAny_pure (wpAny_pure (h s.toks))))
theorem subN_tuple {tp : Addr} {cs : List Value} {tk : Tok} {s : Shared} {Q : Fin → Shared → Prop}
    (htp : s.heap.get? tp = some { cls := .type "tuple", data := .seq (Value.type "str" :: cs).toArray })
    (hq : ∀ tk', Q (.done (.ret (.bool true))) { s with toks := tk' }) : wpAny (model prog w) A (Builtin.«issubclass.nested» ⟨[.type "str", .ref tp, .int 0 tk], []⟩) Q E s := by
  generalize hcs : Value.type "str" :: cs = cs' at htp
  obtain ⟨h, g, d, t, os⟩ := s
  have hT2 : (⟨h, g, d, t, os⟩ : Shared).TypeIs (.ref tp) "tuple" := ⟨_, htp, rfl⟩
  have f1 := PySem.F.isi_sub_tuple
  repeat (any_goals (first | assumption | wp_step))
  refine wpAny_arrayLoop ?_
  simp only [Option.getD_some, List.toList_toArray]
  rw [← hcs]
  refine subN_items (dep := 0) fun tk' => ?_
  repeat (any_goals (first | assumption | wp_step))
  exact hq tk'
theorem issub_str {tp : Addr} {cs : List Value} {s : Shared} {Q : Value → Shared → Prop}
    (htp : s.heap.get? tp = some { cls := .type "tuple", data := .seq (Value.type "str" :: cs).toArray })
    (h : ∀ tk, Q (.bool true) { s with toks := tk }) :
    wpAny (model prog w) A (call (.builtin "issubclass") [.type "str", .ref tp]) Q E s :=
  call_issubclass (S := fun _ R s => s.heap.get? tp = some { cls := .type "tuple", data := .seq (Value.type "str" :: cs).toArray } ∧ ∀ tk, R (.ok (.ret (.bool true))) { s with toks := tk })
    (fun _ _ _ _ _ hs => issubclass_outer (subN_tuple hs.1 hs.2)) ⟨htp, h⟩
end
end Mine
end
section
open PySem PySem.W PyProof.Rows PyProof

namespace Mine
theorem fspath_call {w : World} {dp un : Nat} {gd : Option (List Code)} {cn : Str} {cs : Scope} {L a : Addr} {ccd : Value} {cl : List (Str × Addr)} {outer : List Env} {A₀ : Around} {base h₀ : Heap} {m mg mb : Str → Option Value} {mean : ExcName → Option Value} {s : Shared} {Q E : Value → Shared → Prop} {news : List (Addr × Obj)} {p : Str} {t : Tok}
    (B : Below A₀ base outer h₀) (F : Fr h₀ L s.heap m) (X : (hd.heap_39 w.params).In h₀) (N : News h₀ L s.heap news) (T : Top hd.view_39 (looseW hd.view_39 []) mean mg mb h₀) (hk : cs.kind = .function)
    (hd : dp + 20 < recursionLimit) (hu : un + 200 < cLine)
    (ret : ∀ h' tk', Fr h₀ L h' m → News h₀ L h' news → Q (.str p t) { s with heap := h', toks := tk' }) :
    wpAny (model PySem.Challenge.rw_xc0039_01.row.prog w) (ktrTop dp un gd cn cs L a ccd cl outer) (call (.ref 94) [.str p t]) Q E s := by
  revert X; k_fill; intro X
  refine wpAny_call ?_
  k_dflt cell_enter
  k_with_none
  k_with "call builtin:issubclass" => (refine issub_str (News.get (by assumption) (by k_mem)) ?_; intro tkS)
  k_steps
  rename News h₀ _ _ _ => hN
  refine ret _ _ ?_ (fun q hq => hN q (.tail _ hq))
  assumption
end Mine
end
section
open PySem PySem.W PyProof.Rows PyProof PySem.Calls
open Sem (wp)
open AutoSeq1 (wpAny_loadPart')

namespace Mine
theorem slot_map_init : Slot "map" "__init__" "object.__init__" :=
  .of (owner := "object") (n := "__init__") (by rw [typeLookup_type, builtinLookup_eq_fast]; kernel_rfl) (by decide +kernel) (by decide +kernel) (by decide +kernel)
    (by first | exact .inl (by decide +kernel) | exact .inr (by decide +kernel)) (by rw [isSubtype_type]; kernel_rfl)
theorem slot_map_iter : Slot "map" "__iter__" "map.__iter__" :=
  .of (owner := "map") (n := "__iter__") (by rw [typeLookup_type, builtinLookup_eq_fast]; kernel_rfl) (by decide +kernel) (by decide +kernel) (by decide +kernel)
    (by first | exact .inl (by decide +kernel) | exact .inr (by decide +kernel)) (by rw [isSubtype_type]; kernel_rfl)
theorem slot_map_next : Slot "map" "__next__" "map.__next__" :=
  .of (owner := "map") (n := "__next__") (by rw [typeLookup_type, builtinLookup_eq_fast]; kernel_rfl) (by decide +kernel) (by decide +kernel) (by decide +kernel)
    (by first | exact .inl (by decide +kernel) | exact .inr (by decide +kernel)) (by rw [isSubtype_type]; kernel_rfl)
theorem entry_map_next : entryFor table "map.__next__" = some Builtin.«map.__next__» := entryFor_of_tree (by kernel_rfl)
theorem entry_map_iter : entryFor table "map.__iter__" = some Builtin.«dict_keyiterator.__iter__» :=
  entryFor_alias (id' := "dict_keyiterator.__iter__") (by kernel_rfl) (by first | rfl | decide +kernel | (unfold String.splitOn; simp +decide [String.splitOnAux])) (by decide +kernel) (by kernel_rfl)
theorem owner_map : Manifest.owners.lookup (String.ofList ['p', 'a', 'm'].reverse) = some Manifest.sig_map := by kernel_rfl
theorem args_map_next (a : Value) : argsOk "map.__next__" ⟨[a], []⟩ := by
  unfold argsOk; rw [signature?_of (id := "map.__next__") (n := ['_', '_', 't', 'x', 'e', 'n', '_', '_']) (o := ['p', 'a', 'm']) (by kernel_rfl) owner_map]; kernel_rfl
theorem args_map_iter (a : Value) : argsOk "map.__iter__" ⟨[a], []⟩ := by
  unfold argsOk; rw [signature?_of (id := "map.__iter__") (n := ['_', '_', 'r', 'e', 't', 'i', '_', '_']) (o := ['p', 'a', 'm']) (by kernel_rfl) owner_map]; kernel_rfl
theorem mro_map : mroOf (.type "map") = pure [.type "map", .type "object"] := by rw [mroOf_type]; kernel_rfl
theorem lookup_map_new : typeLookup (.type "map") "__new__" = pure (some (.builtin "map.__new__")) := by rw [typeLookup_type, builtinLookup_eq_fast]; kernel_rfl
theorem called_map : PySem.TypeCalled "map" "map.__new__" "object.__init__" :=
  ⟨by decide +kernel, by decide +kernel, ⟨_, _, mro_map⟩, madeBy_type mro_map lookup_map_new (by decide +kernel), by decide +kernel, by rw [isSubtype_type]; kernel_rfl, slot_map_init⟩
theorem map_no_len : typeLookup (.type "map") "__len__" = pure none := by rw [typeLookup_type, builtinLookup_eq_fast]; kernel_rfl
theorem map_no_hint : typeLookup (.type "map") "__length_hint__" = pure none := by rw [typeLookup_type, builtinLookup_eq_fast]; kernel_rfl
theorem typeCall_map_2 (a b : Value) : checkTypeCall "map" ⟨[a, b], []⟩ = pure () := by kernel_rfl
theorem newCall_map_2 (a b : Value) : checkBuiltinCall "map.__new__" ⟨[.type "map", a, b], []⟩ = pure () := by kernel_rfl
theorem entry_map_new : entryFor table "map.__new__" = some Builtin.«map.__new__» := entryFor_of_tree (by kernel_rfl)
theorem sub_map : isSubtype (.type "map") (.type "map") = pure true := by rw [isSubtype_type]; kernel_rfl

def iterObj (l : Addr) (i : Nat) : Obj := { cls := .type "list_iterator", data := .fields #[.ref l, .int i 0] }
def iterTup (a : Addr) : Obj := { cls := .type "tuple", data := .seq #[.ref a] }
def mapObj (t : Addr) (fn : Value) : Obj := { cls := .type "map", data := .fields #[.ref t, fn] }
theorem meets_map_newL (fn : Value) (l : Addr) (items : Array Value) :
    Meets (Builtin.«map.__new__» ⟨[.type "map", fn, .ref l], []⟩) (fun _ R s => s.heap.IsList l items ∧
      R (.ok (.ret (.ref ((s.heap.push (iterObj l 0)).push (iterTup s.heap.objs.size)).objs.size)))
        { s with heap := ((s.heap.push (iterObj l 0)).push (iterTup s.heap.objs.size)).push (mapObj (s.heap.push (iterObj l 0)).objs.size fn) }) :=
  .of_wp fun prog w A R s h => by
    obtain ⟨hp, g, d, tk, os⟩ := s; obtain ⟨hL, h⟩ := h
    have hsub := sub_map
    wp_walk using wpAny_pyIter_list hL
    exact ⟨_, rfl, h⟩
section
variable {prog : Program} {w : World} {A : Around} {E : Value → Shared → Prop} {s : Shared}
theorem call_map {fn : Value} {l : Addr} {items : Array Value} {Q : Value → Shared → Prop} (hL : s.heap.IsList l items)
    (h : Q (.ref (s.heap.objs.size + 2)) { s with heap := ((s.heap.push (iterObj l 0)).push (iterTup s.heap.objs.size)).push (mapObj (s.heap.objs.size + 1) fn) }) :
    wpAny (model prog w) A (call (.type "map") [fn, .ref l]) Q E s := by
  refine callType_new called_map (by decide) (typeCall_map_2 _ _) (newCall_map_2 _ _) (fun obj => PySem.F.args_object_init_3 obj _ _) entry_map_new (meets_map_newL fn l items) ⟨hL, ?_⟩
  have hz : (s.heap.push (iterObj l 0)).objs.size = s.heap.objs.size + 1 := Heap.size_push ..
  have hz2 : ((s.heap.push (iterObj l 0)).push (iterTup s.heap.objs.size)).objs.size = s.heap.objs.size + 2 := by rw [Heap.size_push, hz]
  rw [hz2, hz]
  refine ⟨⟨mapObj (s.heap.objs.size + 1) fn, ?_, rfl⟩, h⟩
  have := Heap.get?_push_size ((s.heap.push (iterObj l 0)).push (iterTup s.heap.objs.size)) (o := mapObj (s.heap.objs.size + 1) fn) rfl
  rw [hz2] at this; exact this
end
end Mine
end
section
open PySem PySem.W PyProof.Rows PyProof PySem.Calls
open Sem (wp)
open AutoSeq1 (wpAny_loadPart')

namespace Mine
section
variable {prog : Program} {w : World} {A : Around} {E : Value → Shared → Prop} {s : Shared}
theorem map_next_item {fn x : Value} {Mp T I l : Addr} {i : Nat} {items : Array Value} {Q : Option Value → Shared → Prop}
    (hM : s.heap.get? Mp = some (mapObj T fn)) (hT : s.heap.get? T = some (iterTup I)) (hI : s.heap.IsListIter I l i) (hl : s.heap.IsList l items) (hx : items[i]? = some x) (hMI : Mp ≠ I)
    (hc : ∀ h' E', h'.IsListIter I l (i + 1) → Heap.SameBut I s.heap h' → wpAny (model prog w) A.in1 (call fn [x]) (fun v s' => Q (some v) s') E' { s with heap := h' }) :
    wpAny (model prog w) A (pyNext (.ref Mp)) Q E s := by
  have hTy : s.TypeIs (.ref Mp) "map" := ⟨_, hM, rfl⟩
  unfold pyNext
  refine wpAny_bind (wpAny_attempt (wpAny_callSpecial?_slot (name := Str.ofString "__next__") hTy slot_map_next
    (wpAny_call_entry slot_map_next hTy entry_map_next ?_ (args_map_next _))))
  show wpAny _ _ (field (.ref Mp) 0 >>= _) _ _ s
  refine wpAny_bind (wpAny_field hM rfl (x := .ref T) rfl ?_)
  show wpAny _ _ (seqItems? (.ref T) >>= _) _ _ s
  refine wpAny_bind (wpAny_seqItems hT rfl ?_)
  dsimp only
  refine wpAny_bind (wpAny_arrayLoop ?_)
  show wpAny _ _ (forIn [Value.ref I] _ _) _ _ s
  rw [List.forIn_cons]
  refine wpAny_bind (wpAny_bind (wpAny_holding (wpAny_nextOf_list_item hI hl hx fun h' hI' hs' => wpAny_pure ?_)))
  dsimp only
  rw [List.forIn_nil]
  refine wpAny_pure ?_
  have hM' : h'.get? Mp = some (mapObj T fn) := (hs'.2 Mp hMI).trans hM
  show wpAny _ _ (field (.ref Mp) 1 >>= _) _ _ _
  refine wpAny_bind (wpAny_field hM' rfl (x := fn) rfl ?_)
  refine wpAny_bind (wpAny_holding (wpAny_mono (hc h' _ hI' hs') (fun v s' hq => ?_) fun _ _ e => e))
  refine wpAny_bind (wpAny_letGo ?_)
  exact wpAny_pure ⟨_, rfl, wpAny_pure hq⟩
theorem map_next_end {fn : Value} {Mp T I l : Addr} {i : Nat} {items : Array Value} {Q : Option Value → Shared → Prop} (hh : A.handled = none)
    (hM : s.heap.get? Mp = some (mapObj T fn)) (hT : s.heap.get? T = some (iterTup I)) (hI : s.heap.IsListIter I l i) (hl : s.heap.IsList l items) (hx : items[i]? = none)
    (hQ : ∀ h', Heap.ExtBut I s.heap h' → Q none { s with heap := h' }) :
    wpAny (model prog w) A (pyNext (.ref Mp)) Q E s := by
  have hTy : s.TypeIs (.ref Mp) "map" := ⟨_, hM, rfl⟩
  unfold pyNext
  refine wpAny_bind (wpAny_attempt (wpAny_callSpecial?_slot (name := Str.ofString "__next__") hTy slot_map_next
    (wpAny_call_entry slot_map_next hTy entry_map_next ?_ (args_map_next _))))
  show wpAny _ _ (field (.ref Mp) 0 >>= _) _ _ s
  refine wpAny_bind (wpAny_field hM rfl (x := .ref T) rfl ?_)
  show wpAny _ _ (seqItems? (.ref T) >>= _) _ _ s
  refine wpAny_bind (wpAny_seqItems hT rfl ?_)
  dsimp only
  refine wpAny_bind (wpAny_arrayLoop ?_)
  show wpAny _ _ (forIn [Value.ref I] _ _) _ _ s
  rw [List.forIn_cons]
  refine wpAny_bind (wpAny_bind (wpAny_holding (wpAny_nextOf_list_end hh hI hl hx fun h' e hs' he => ?_)))
  refine wpAny_bind (wpAny_isInstance (T := "StopIteration") (b := true) he isSubtype_stop ?_)
  exact wpAny_pure (hQ _ hs')
theorem iter_map {fn : Value} {Mp T : Addr} {Q : Value → Shared → Prop} (hM : s.heap.get? Mp = some (mapObj T fn)) (h : Q (.ref Mp) s) : wpAny (model prog w) A (pyIter (.ref Mp)) Q E s := by
  have hTy : s.TypeIs (.ref Mp) "map" := ⟨_, hM, rfl⟩
  refine wpAny_pyIter_slot hTy slot_map_iter (wpAny_call_entry slot_map_iter hTy entry_map_iter ?_ (args_map_iter _))
  show wpAny _ _ (ret (.ref Mp)) _ _ s
  exact wpAny_pure ⟨_, rfl, "map", _, hTy, slot_map_next.lookup, h⟩
end
end Mine
end
section
open PySem PySem.W PyProof.Rows PyProof PySem.Calls
open Sem (wp)
open AutoSeq1 (wpAny_loadPart')

namespace Mine
def lstObj (vs : List Value) (c : Nat) : Obj := { cls := .type "list", data := .seq vs.toArray c }
section
variable {prog : Program} {w : World} {A : Around} {E : Value → Shared → Prop} {s : Shared} {h₀ : Heap} {L : Addr} {m : Str → Option Value} {news : List (Addr × Obj)} {fn : Value} {vs : List Value} {Mp T I S l : Addr} {lo : Obj} {R : Result → Shared → Prop}
/-- a call that gives its item back and leaves what stands -/
def Same (prog : Program) (w : World) (A : Around) (s : Shared) (h₀ : Heap) (L : Addr) (m : Str → Option Value) (fn : Value) (vs : List Value) : Prop :=
  ∀ x ∈ vs, ∀ h tk nws Q' E', Fr h₀ L h m → News h₀ L h nws → (∀ h' tk', Fr h₀ L h' m → News h₀ L h' nws → Q' x { s with heap := h', toks := tk' }) → wpAny (model prog w) A (call fn [x]) Q' E' { s with heap := h, toks := tk }
theorem take_push {vs : List Value} {i : Nat} {x : Value} (hx : vs[i]? = some x) : ((vs.take i).toArray.push x) = (vs.take (i + 1)).toArray := by
  rw [List.take_add_one, hx]
  simp
theorem map_loop (hh : A.handled = none) (hf : Same prog w A.in1.in1 s h₀ L m fn vs) (hn : vs.length ≤ sizeLine)
    (hlm : (l, lo) ∈ news) (hlo : lo.cls = .type "list" ∧ ∃ n, lo.data = .seq vs.toArray n)
    (hIn : ∀ p ∈ (Mp, mapObj T fn) :: (T, iterTup I) :: news, p.1 ≠ I) (hSn : ∀ p ∈ (Mp, mapObj T fn) :: (T, iterTup I) :: news, p.1 ≠ S) (hSI : S ≠ I) (hIL : I ≠ L) (hSL : S ≠ L) (hI0 : h₀.get? I = none) (hS0 : h₀.get? S = none)
    (fin : ∀ h' tk' c', Fr h₀ L h' m → News h₀ L h' ((S, lstObj vs c') :: news) → R (.ok (.ret (.ref S))) { s with heap := h', toks := tk' }) :
    ∀ (k i : Nat) (h : Heap) (tk c : Nat), vs.length - i = k → i ≤ vs.length → Fr h₀ L h m → News h₀ L h ((Mp, mapObj T fn) :: (T, iterTup I) :: news) → h.IsListIter I l i → h.get? S = some (lstObj (vs.take i) c) →
      codeAny (model prog w) A (.builtin "list.extend.loop" ⟨[.ref S, .ref Mp, .ref S], []⟩) R { s with heap := h, toks := tk } := by
  have hb0 : ∀ b o, h₀.get? b = some o → b ≠ I := fun b o e hb => by rw [hb, hI0] at e; cases e
  have hc0 : ∀ b o, h₀.get? b = some o → b ≠ S := fun b o e hb => by rw [hb, hS0] at e; cases e
  intro k
  induction k with
  | zero =>
    intro i h tk c hk hi F N hI hS
    have hin : i = vs.length := by omega
    subst hin
    refine codeAny_builtin PySem.F.entry_extend_loop ?_
    rw [Around.under_plainId PySem.F.plain_extend_loop _]
    show wpAny _ A.in1 (pyNext (.ref Mp) >>= _) _ _ _
    have hl : h.IsList l vs.toArray := ⟨lo, N.get (.tail _ (.tail _ hlm)), hlo.1, hlo.2⟩
    refine wpAny_bind (map_next_end hh (N.get (.head _)) (N.get (.tail _ (.head _))) hI hl (by simp) fun h' hx => ?_)
    replace hx : Heap.ExtBut I h h' := hx
    refine wpAny_pure (fin h' tk c ⟨F.ns.extBut hx hIL.symm, fun b o e => hx b o (hb0 b o e) (F.keep b o e), F.above⟩ fun p hp => ?_)
    rcases List.mem_cons.mp hp with rfl | hp
    · refine ⟨hx S _ hSI ?_, hSL, hS0⟩
      rw [hS, List.take_length]
    · have := N p (.tail _ (.tail _ hp))
      exact ⟨hx _ _ (hIn p (.tail _ (.tail _ hp))) this.1, this.2⟩
  | succ k ih =>
    intro i h tk c hk hi F N hI hS
    have hlt : i < vs.length := by omega
    have hx : vs[i]? = some vs[i] := List.getElem?_eq_getElem hlt
    refine codeAny_builtin PySem.F.entry_extend_loop ?_
    rw [Around.under_plainId PySem.F.plain_extend_loop _]
    show wpAny _ A.in1 (pyNext (.ref Mp) >>= _) _ _ _
    have hl : h.IsList l vs.toArray := ⟨lo, N.get (.tail _ (.tail _ hlm)), hlo.1, hlo.2⟩
    refine wpAny_bind (map_next_item (N.get (.head _)) (N.get (.tail _ (.head _))) hI hl (x := vs[i]) (by simp [hlt]) (hIn _ (.head _)) fun h' E' hI' hs' => ?_)
    replace hs' : Heap.SameBut I h h' := hs'
    obtain ⟨oI, hoI, hcI, hdI⟩ := hI'
    have F' : Fr h₀ L h' m := ⟨F.ns.sameBut hs' hIL.symm, fun b o e => (hs'.2 b (hb0 b o e)).trans (F.keep b o e), F.above⟩
    have N' : News h₀ L h' ((S, lstObj (vs.take i) c) :: (I, oI) :: (Mp, mapObj T fn) :: (T, iterTup I) :: news) := by
      intro p hp
      rcases List.mem_cons.mp hp with rfl | hp
      · exact ⟨(hs'.2 S hSI).trans hS, hSL, hS0⟩
      rcases List.mem_cons.mp hp with rfl | hp
      · exact ⟨hoI, hIL, hI0⟩
      · exact ⟨(hs'.2 _ (hIn p hp)).trans (N p hp).1, (N p hp).2⟩
    refine hf vs[i] (List.getElem_mem hlt) h' tk _ _ _ F' N' fun h₂ tk₂ F₂ N₂ => ?_
    have hS₂ : h₂.get? S = some (lstObj (vs.take i) c) := N₂.get (.head _)
    show wpAny _ A.in1 (updateSeq S (·.push vs[i]) >>= _) _ _ _
    have hlen : (vs.take i).length ≤ i := by rw [List.length_take]; omega
    refine wpAny_bind (wpAny_updateSeq hS₂ rfl (wpAny_pure ⟨plainId_quiet PySem.F.plain_extend_loop _, ?_⟩) (by rw [List.size_toArray]; omega) (by rw [Array.size_push, List.size_toArray]; omega))
    have hs₃ : Heap.SameBut S h₂ (h₂.update S (Obj.mapSeq (·.push vs[i]))) := Heap.SameBut.update ..
    have hS₃ := Heap.get?_update_self (Obj.mapSeq (·.push vs[i])) hS₂ rfl
    obtain ⟨c₃, hc₃⟩ : ∃ c', (h₂.update S (Obj.mapSeq (·.push vs[i]))).get? S = some (lstObj (vs.take (i + 1)) c') := by
      rw [hS₃]
      unfold lstObj Obj.mapSeq
      dsimp only
      rw [take_push hx]
      exact ⟨_, rfl⟩
    refine ih (i + 1) _ tk₂ c₃ (by omega) (by omega) ⟨F₂.ns.sameBut hs₃ hSL.symm, fun b o e => (hs₃.2 b (hc0 b o e)).trans (F₂.keep b o e), F₂.above⟩ (fun p hp => ?_) ?_ hc₃
    · have := N₂ p (.tail _ (.tail _ hp))
      exact ⟨(hs₃.2 _ (hSn p hp)).trans this.1, this.2⟩
    · have := N₂.get (.tail _ (.head _))
      exact ⟨oI, (hs₃.2 I hSI.symm).trans this, hcI, hdI⟩

theorem collect_map {Q : List Value → Shared → Prop} (hh : A.handled = none) (hf : Same prog w A.in1.in1 s h₀ L m fn vs) (hn : vs.length ≤ sizeLine)
    (hlm : (l, lo) ∈ news) (hlo : lo.cls = .type "list" ∧ ∃ n, lo.data = .seq vs.toArray n) {h : Heap} {tk : Nat} (F : Fr h₀ L h m) (N : News h₀ L h ((Mp, mapObj T fn) :: (T, iterTup I) :: (I, iterObj l 0) :: news))
    (hIn : ∀ p ∈ (Mp, mapObj T fn) :: (T, iterTup I) :: news, p.1 ≠ I)
    (fin : ∀ h' tk', Fr h₀ L h' m → News h₀ L h' news → Q vs { s with heap := h', toks := tk' }) :
    wpAny (model prog w) A (collect (.ref Mp)) Q E { s with heap := h, toks := tk } := by
  have hMlt : Mp < h.objs.size := Heap.lt_size (N.get (.head _))
  have hSM : h.objs.size ≠ Mp := Nat.ne_of_gt hMlt
  unfold collect
  refine wpAny_bind (wpAny_runValue (codeAny_builtin PySem.F.entry_proto_collect ?_))
  rw [Around.under_plainId PySem.F.plain_proto_collect _]
  show wpAny _ A.in1 (newList [] >>= fun l => again (.builtin "list.__iadd__" ⟨[l, .ref Mp], []⟩)) _ _ _
  refine wpAny_bind (wpAny_newObj_type ?_)
  refine wpAny_pure ⟨plainId_quiet PySem.F.plain_list_iadd _, codeAny_builtin PySem.F.entry_list_iadd ?_⟩
  rw [Around.under_plainId PySem.F.plain_list_iadd _]
  have N₁ := N.push F { cls := .type "list", data := .seq ([] : List Value).toArray }
  have F₁ := F.push { cls := .type "list", data := .seq ([] : List Value).toArray }
  dsimp only
  generalize hh₁ : h.push { cls := .type "list", data := .seq ([] : List Value).toArray } = h₁ at *
  generalize hS : h.objs.size = S at *
  have hT : ∀ h tk, h.get? Mp = some (mapObj T fn) → ({ s with heap := h, toks := tk } : Shared).TypeIs (.ref Mp) "map" := fun h tk e => ⟨_, e, rfl⟩
  show wpAny _ A.in1 (Builtin.List.listExtendWith (.ref S) (.ref Mp) (.ref S)) _ _ _
  unfold Builtin.List.listExtendWith
  refine wpAny_bind (wpAny_typeOf (hT _ _ (N₁.get (.tail _ (.head _)))) ?_)
  have h1 : Builtin.List.listSameRef (.ref S) (.ref Mp) = false := by simp [Builtin.List.listSameRef, hSM]
  have h2 : (Value.type "map" == Value.type "list") = false := by decide
  have h3 : (Value.type "map" == Value.type "tuple") = false := by decide
  simp only [h1, h2, h3, Bool.or_false, Bool.false_eq_true, if_false]
  refine wpAny_bind (iter_map (N₁.get (.tail _ (.head _))) ?_)
  refine wpAny_bind (wpAny_holding ?_)
  unfold Builtin.List.listLengthHint
  refine wpAny_bind (wpAny_specialOf (hT _ _ (N₁.get (.tail _ (.head _)))) map_no_len ?_)
  show wpAny _ A.in1 (specialOf (Value.ref Mp) (Str.ofString "__length_hint__") >>= _) _ _ _
  refine wpAny_bind (wpAny_specialOf (hT _ _ (N₁.get (.tail _ (.head _)))) map_no_hint ?_)
  refine wpAny_pure ?_
  show wpAny _ A.in1 (rule "list.extend.makes-room" >>= fun _ => Builtin.List.listTouch (.ref S) >>= fun _ =>
    again (.builtin "list.extend.loop" ⟨[.ref S, .ref Mp, .ref S], []⟩)) _ _ _
  refine wpAny_bind (wpAny_rule ?_)
  have hS₁ := N₁.get (.head _)
  refine wpAny_bind ?_
  show wpAny _ A.in1 (updateSeq S (·.push .none) >>= fun _ => updateSeq S (·.pop)) _ _ _
  refine wpAny_bind (wpAny_updateSeq hS₁ rfl ?_)
  have hS₂ := Heap.get?_update_self (Obj.mapSeq (·.push Value.none)) hS₁ rfl
  refine wpAny_updateSeq hS₂ rfl ?_
  have hS₃ := Heap.get?_update_self (Obj.mapSeq (·.pop)) hS₂ rfl
  have hs₂ : Heap.SameBut S h₁ (h₁.update S (Obj.mapSeq (·.push Value.none))) := Heap.SameBut.update ..
  have hs₃ : Heap.SameBut S _ ((h₁.update S (Obj.mapSeq (·.push Value.none))).update S (Obj.mapSeq (·.pop))) := Heap.SameBut.update ..
  generalize (h₁.update S (Obj.mapSeq (·.push Value.none))).update S (Obj.mapSeq (·.pop)) = h₃ at *
  generalize h₁.update S (Obj.mapSeq (·.push Value.none)) = h₂ at *
  obtain ⟨c₃, hc₃⟩ : ∃ c', h₃.get? S = some (lstObj (vs.take 0) c') := ⟨_, hS₃⟩
  have hSL := (N₁ _ (.head _)).2.1
  have hS0 := (N₁ _ (.head _)).2.2
  have hIL := (N₁ _ (.tail _ (.tail _ (.tail _ (.head _))))).2.1
  have hI0 := (N₁ _ (.tail _ (.tail _ (.tail _ (.head _))))).2.2
  dsimp only at hSL hS0 hIL hI0
  have hSn : ∀ p ∈ (Mp, mapObj T fn) :: (T, iterTup I) :: (I, iterObj l 0) :: news, p.1 ≠ S := fun p hp => by
    have := Heap.lt_size (N p hp).1
    rw [hS] at this
    exact Nat.ne_of_lt this
  have hc0 : ∀ b o, h₀.get? b = some o → b ≠ S := fun b o e hb => by rw [hb, hS0] at e; cases e
  have F₃ : Fr h₀ L h₃ m := ⟨(F₁.ns.sameBut hs₂ hSL.symm).sameBut hs₃ hSL.symm, fun b o e => ((hs₃.2 b (hc0 b o e)).trans (hs₂.2 b (hc0 b o e))).trans (F₁.keep b o e), F₁.above⟩
  have N₃ : News h₀ L h₃ ((Mp, mapObj T fn) :: (T, iterTup I) :: (I, iterObj l 0) :: news) := fun p hp =>
    ⟨((hs₃.2 _ (hSn p hp)).trans (hs₂.2 _ (hSn p hp))).trans (N₁ p (.tail _ hp)).1, (N₁ p (.tail _ hp)).2⟩
  have hsub : ∀ p ∈ (Mp, mapObj T fn) :: (T, iterTup I) :: news, p ∈ (Mp, mapObj T fn) :: (T, iterTup I) :: (I, iterObj l 0) :: news := by
    intro p hp
    rcases List.mem_cons.mp hp with rfl | hp
    · exact .head _
    rcases List.mem_cons.mp hp with rfl | hp
    · exact .tail _ (.head _)
    · exact .tail _ (.tail _ (.tail _ hp))
  refine wpAny_pure ⟨plainId_quiet PySem.F.plain_extend_loop _, map_loop (news := news) hh hf hn hlm hlo hIn (fun p hp => hSn p (hsub p hp)) (hSn _ (.tail _ (.tail _ (.head _)))).symm hIL hSL hI0 hS0 (fun h' tk' c' F' N' => ?_) _ 0 h₃ tk c₃ rfl (Nat.zero_le _) F₃ (fun p hp => N₃ p (hsub p hp)) ⟨_, N₃.get (.tail _ (.tail _ (.head _))), rfl, rfl⟩ hc₃⟩
  show wpAny _ A (load S >>= _) _ _ _
  refine wpAny_bind (wpAny_load (N'.get (.head _)) ?_)
  refine wpAny_pure ?_
  have := fin h' tk' F' (fun p hp => N' p (.tail _ hp))
  simpa using this

theorem tuple_new_map : MeetsIn prog w (Builtin.«tuple.__new__» ⟨[.type "tuple", .ref Mp], []⟩)
    (fun A R s => s.TypeIs (.ref Mp) "map" ∧ ∀ Q E, (∀ xs s', xs.length ≤ sizeLine → R (.ok (.ret (.ref s'.heap.objs.size))) { s' with heap := s'.heap.push { cls := .type "tuple", data := .seq xs.toArray } } → Q xs s') → wpAny (model prog w) A.in1 (collect (.ref Mp)) Q E s) :=
  .of_wp fun A R s h => by
    obtain ⟨hp, g, d, tk, os⟩ := s; obtain ⟨hT, h⟩ := h
    have hsub := sub_tuple_self
    have hinit := init_tuple_lookup
    have hmh := madeHere_tuple
    wp_walk using wpAny_typeOf hT, h
    intro xs s' hxs hR
    refine wpAny_bind (wpAny_pure ?_)
    show wpAny _ _ (Builtin.Tuple.tupleExact xs.toArray >>= fun v => ret v) _ _ _
    unfold Builtin.Tuple.tupleExact
    refine wpAny_bind (wpAny_newObj_type ?_ (by show xs.toArray.size ≤ sizeLine; simpa using hxs))
    exact wpAny_pure ⟨_, rfl, hR⟩

theorem map_step {Q : Value → Shared → Prop} (F : Fr h₀ L s.heap m) (N : News h₀ L s.heap news) (hlm : (l, lo) ∈ news) (hlo : lo.cls = .type "list" ∧ ∃ n, lo.data = .seq vs.toArray n)
    (h : ∀ I T Mp h', Fr h₀ L h' m → News h₀ L h' ((Mp, mapObj T fn) :: (T, iterTup I) :: (I, iterObj l 0) :: news) → I < T → T < Mp → (∀ p ∈ news, p.1 < I) → Q (.ref Mp) { s with heap := h' }) :
    wpAny (model prog w) A (call (.type "map") [fn, .ref l]) Q E s := by
  refine call_map (items := vs.toArray) ⟨lo, N.get hlm, hlo.1, hlo.2⟩ ?_
  have F₁ := F.push (iterObj l 0)
  have N₁ := N.push F (iterObj l 0)
  have F₂ := F₁.push (iterTup s.heap.objs.size)
  have N₂ := N₁.push F₁ (iterTup s.heap.objs.size)
  have z1 : (s.heap.push (iterObj l 0)).objs.size = s.heap.objs.size + 1 := Heap.size_push ..
  have z2 : ((s.heap.push (iterObj l 0)).push (iterTup s.heap.objs.size)).objs.size = s.heap.objs.size + 2 := by rw [Heap.size_push, z1]
  have F₃ := F₂.push (mapObj (s.heap.objs.size + 1) fn)
  have N₃ := N₂.push F₂ (mapObj (s.heap.objs.size + 1) fn)
  rw [z2, z1] at N₃
  exact h _ _ _ _ F₃ N₃ (Nat.lt_succ_self _) (Nat.lt_succ_self _) fun p hp => Heap.lt_size (N p hp).1

theorem tuple_step {Q : Value → Shared → Prop} (hh : A.handled = none) (F : Fr h₀ L s.heap m) (N : News h₀ L s.heap ((Mp, mapObj T fn) :: (T, iterTup I) :: (I, iterObj l 0) :: news)) (hIT : I < T) (hTM : T < Mp) (hnI : ∀ p ∈ news, p.1 < I)
    (hlm : (l, lo) ∈ news) (hlo : lo.cls = .type "list" ∧ ∃ n, lo.data = .seq vs.toArray n) (hn : vs.length ≤ sizeLine)
    (hf : Same prog w A.in1.in1.in1.in1 s h₀ L m fn vs)
    (h : ∀ D h' tk', Fr h₀ L h' m → News h₀ L h' ((D, { cls := .type "tuple", data := .seq vs.toArray }) :: news) → (∀ p ∈ news, p.1 < D) → Q (.ref D) { s with heap := h', toks := tk' }) :
    wpAny (model prog w) A (call (.type "tuple") [.ref Mp]) Q E s := by
  refine callType_newIn PySem.F.called_tuple (by decide) (PySem.F.typeCall_tuple_1 _) (PySem.F.newCall_tuple_1 _) (fun obj => PySem.F.args_object_init_2 obj _) PySem.F.entry_tuple_new
    tuple_new_map ⟨⟨_, N.get (.head _), rfl⟩, fun Q' E' hQ => ?_⟩
  have hIn : ∀ p ∈ (Mp, mapObj T fn) :: (T, iterTup I) :: news, p.1 ≠ I := by
    intro p hp
    rcases List.mem_cons.mp hp with rfl | hp
    · exact Nat.ne_of_gt (Nat.lt_trans hIT hTM)
    rcases List.mem_cons.mp hp with rfl | hp
    · exact Nat.ne_of_gt hIT
    · exact Nat.ne_of_lt (hnI p hp)
  refine collect_map (s := s) (h := s.heap) (tk := s.toks) (vs := vs) (A := A.in1.in1) hh hf hn hlm hlo F N hIn fun h' tk' F' N' => ?_
  refine hQ vs _ hn ⟨⟨_, Heap.get?_push_size _ rfl, rfl⟩, ?_⟩
  exact h _ _ tk' (F'.push _) (N'.push F' _) fun p hp => Heap.lt_size (N' p hp).1
end
end Mine
end
section
open PySem PySem.W PyProof.Rows PyProof PySem.Calls
open Sem (wp)

namespace Mine
theorem ltL_trans {a b c : List Nat} (h : a < b) (h' : b < c) : a < c := List.lt_trans h h'
/-- what stands between two that begin alike begins so too -/
theorem between : ∀ {T mn mx u : List Nat}, ¬ u < mn → ¬ mx < u → T <+: mn → T <+: mx → T <+: u
  | [], _, _, _, _, _, _, _ => List.nil_prefix
  | c :: T, mn, mx, u, h1, h2, ⟨r1, e1⟩, ⟨r2, e2⟩ => by
    subst e1; subst e2
    cases u with
    | nil => exact absurd (List.nil_lt_cons c _) h1
    | cons d u =>
      rw [List.cons_append, List.cons_lt_cons_iff] at h1 h2
      have hcd : d = c := by omega
      subst hcd
      have h1' : ¬ u < T ++ r1 := fun h => h1 (.inr ⟨rfl, h⟩)
      have h2' : ¬ T ++ r2 < u := fun h => h2 (.inr ⟨rfl, h⟩)
      obtain ⟨r, e⟩ := between h1' h2' ⟨r1, rfl⟩ ⟨r2, rfl⟩
      exact ⟨r, by rw [← e]; rfl⟩
theorem strs_mem : ∀ {vs : List Value} {us : List Str}, StrsAre vs us → ∀ x ∈ vs, ∃ u t, x = .str u t ∧ u ∈ us
  | _, _, .nil, x, h => nomatch h
  | _, _, .cons y t r, x, h => by
    rcases List.mem_cons.mp h with rfl | h
    · exact ⟨y, t, rfl, .head _⟩
    · obtain ⟨u, t', e, hu⟩ := strs_mem r x h
      exact ⟨u, t', e, .tail _ hu⟩
theorem strs_at {vs : List Value} {us : List Str} (h : StrsAre vs us) : ∀ (i : Nat) (v : Value), vs[i]? = some v → ∃ (u : Str) (t : Tok), us[i]? = some u ∧ v = Value.str u t := by
  induction h with
  | nil => intro i v hv; simp at hv
  | cons y t r ih =>
    intro i v hv
    cases i with
    | zero =>
      simp only [List.getElem?_cons_zero, Option.some.injEq] at hv
      exact ⟨y, t, rfl, hv.symm⟩
    | succ i => exact ih i v (by simpa using hv)
def strN (us : List Str) (i : Nat) : List Nat := lst (us.getD i Str.empty)
theorem strN_at {us : List Str} {i : Nat} {u : Str} (hu : us[i]? = some u) : lst u = strN us i := by unfold strN; rw [List.getD_eq_getElem?_getD, hu]; rfl
theorem best_min (us : List Str) : ∀ k, argBest (fun i j => decide (strN us i < strN us j)) k ≤ k ∧ ∀ j, j ≤ k → ¬ strN us j < strN us (argBest (fun i j => decide (strN us i < strN us j)) k)
  | 0 => ⟨Nat.le_refl _, fun j hj => by
      have : j = 0 := by omega
      subst this
      exact List.lt_irrefl _⟩
  | k + 1 => by
    obtain ⟨h1, h2⟩ := best_min us k
    unfold argBest
    split
    · rename_i h
      refine ⟨Nat.le_refl _, fun j hj hlt => ?_⟩
      rcases Nat.lt_or_ge j (k + 1) with hjk | hjk
      · exact h2 j (by omega) (ltL_trans hlt (of_decide_eq_true h))
      · have : j = k + 1 := by omega
        subst this
        exact List.lt_irrefl _ hlt
    · rename_i h
      refine ⟨by omega, fun j hj hlt => ?_⟩
      rcases Nat.lt_or_ge j (k + 1) with hjk | hjk
      · exact h2 j (by omega) hlt
      · have : j = k + 1 := by omega
        subst this
        exact h (decide_eq_true hlt)
theorem best_max (us : List Str) : ∀ k, argBest (fun i j => decide (strN us j < strN us i)) k ≤ k ∧ ∀ j, j ≤ k → ¬ strN us (argBest (fun i j => decide (strN us j < strN us i)) k) < strN us j
  | 0 => ⟨Nat.le_refl _, fun j hj => by
      have : j = 0 := by omega
      subst this
      exact List.lt_irrefl _⟩
  | k + 1 => by
    obtain ⟨h1, h2⟩ := best_max us k
    unfold argBest
    split
    · rename_i h
      refine ⟨Nat.le_refl _, fun j hj hlt => ?_⟩
      rcases Nat.lt_or_ge j (k + 1) with hjk | hjk
      · exact h2 j (by omega) (ltL_trans (of_decide_eq_true h) hlt)
      · have : j = k + 1 := by omega
        subst this
        exact List.lt_irrefl _ hlt
    · rename_i h
      refine ⟨by omega, fun j hj hlt => ?_⟩
      rcases Nat.lt_or_ge j (k + 1) with hjk | hjk
      · exact h2 j (by omega) hlt
      · have : j = k + 1 := by omega
        subst this
        exact h (decide_eq_true hlt)
section
variable {prog : Program} {w : World} {A : Around} {E : Value → Shared → Prop} {s : Shared} {h₀ : Heap} {L : Addr} {m : Str → Option Value} {news : List (Addr × Obj)}
theorem cmp_lt {P : Nat → Value → Prop} (val : Nat → List Nat) (hval : ∀ i v, P i v → ∃ x t, v = .str x t ∧ lst x = val i) :
    CmpOf prog w A .Lt P (fun i j => decide (val i < val j)) := fun i j vi vj s Q E hi hj h => by
  obtain ⟨x, t, rfl, hx⟩ := hval i vi hi
  obtain ⟨y, u, rfl, hy⟩ := hval j vj hj
  refine richCompare_gives (op := .Lt) (typeIs_str s x t) (typeIs_str s y u) PySem.F.slot_str_lt PySem.F.entry_str_lt (PySem.F.args_str_lt_2 _ _) (gives_str_lt x y t u) (fun e => nomatch e) ?_
  dsimp only at h
  rw [← hx, ← hy] at h
  exact h
theorem cmp_gt {P : Nat → Value → Prop} (val : Nat → List Nat) (hval : ∀ i v, P i v → ∃ x t, v = .str x t ∧ lst x = val i) :
    CmpOf prog w A .Gt P (fun i j => decide (val j < val i)) := fun i j vi vj s Q E hi hj h => by
  obtain ⟨x, t, rfl, hx⟩ := hval i vi hi
  obtain ⟨y, u, rfl, hy⟩ := hval j vj hj
  refine richCompare_gives (op := .Gt) (typeIs_str s x t) (typeIs_str s y u) PySem.F.slot_str_gt PySem.F.entry_str_gt (PySem.F.args_str_gt_2 _ _) (gives_str_gt x y t u) (fun e => nomatch e) ?_
  dsimp only at h
  rw [← hx, ← hy] at h
  exact h
theorem min_strs_tuple {l : Addr} {vs : List Value} {us : List Str} {c : Nat} {Q : Value → Shared → Prop} (hh : A.handled = none) (F : Fr h₀ L s.heap m) (N : News h₀ L s.heap news)
    (hm : (l, { cls := .type "tuple", data := .seq vs.toArray c }) ∈ news) (hi : StrsAre vs us) (hne : 0 < us.length)
    (h : ∀ h' M (t : Tok) tk, Fr h₀ L h' m → News h₀ L h' news → M ∈ us → (∀ u ∈ us, ¬ lst u < lst M) → Q (.str M t) { s with heap := h', toks := tk }) :
    wpAny (model prog w) A (call (.builtin "min") [.ref l]) Q E s := by
  have hT : s.heap.IsTuple l vs.toArray := ⟨_, N.get hm, rfl, _, rfl⟩
  have hlen : vs.toArray.size = us.length := by rw [List.size_toArray]; exact StrsAre.length hi
  have hlt : l < s.heap.objs.size := Heap.lt_size (N.get hm)
  refine call_min_walk (wpAny_pyIter_tuple hT ?_)
  refine ⟨_, _, _, _, _, _, _, rfl, Walks.tuple (A := A.in1) hh _ l (Nat.ne_of_lt hlt) vs.toArray, ⟨⟨_, Heap.get?_push_size _ rfl, rfl, rfl⟩, hT.push _⟩, ?_, by rw [hlen]; exact hne,
    cmp_lt (strN us) (fun i v hv => ?_), fun v h' tk hP hk => ?_⟩
  · intro b hb
    rw [Heap.size_push]
    rcases List.mem_cons.mp hb with rfl | hb
    · exact Nat.lt_succ_self _
    · rw [List.mem_singleton.mp hb]; exact Nat.lt_succ_of_lt hlt
  · obtain ⟨u, t, hu, e⟩ := strs_at hi i v (by simpa using hv)
    exact ⟨u, t, e, by unfold strN; rw [List.getD_eq_getElem?_getD, hu]; rfl⟩
  · rw [hlen] at hP
    obtain ⟨h1, h2⟩ := best_min us (us.length - 1)
    obtain ⟨u, t, hu, rfl⟩ := strs_at hi _ v (by simpa using hP)
    have hM : lst u = strN us (argBest (fun i j => decide (strN us i < strN us j)) (us.length - 1)) := strN_at hu
    have hkk : ∀ b o, s.heap.get? b = some o → h'.get? b = some o := fun b o e => by
      refine hk b o (fun hm => ?_) (Heap.get?_push_of_some _ e)
      rw [List.mem_singleton.mp hm] at e
      exact absurd (Heap.lt_size e) (Nat.lt_irrefl _)
    refine h h' u t tk (F.grownK hkk) (N.grown hkk) (List.mem_of_getElem? hu) fun x hx hlt => ?_
    obtain ⟨j, hj⟩ := List.mem_iff_getElem?.mp hx
    have hjl : j < us.length := (List.getElem?_eq_some_iff.mp hj).1
    refine h2 j (by omega) ?_
    rw [← hM]
    have : strN us j = lst x := (strN_at hj).symm
    rw [this]
    exact hlt
theorem max_strs_tuple {l : Addr} {vs : List Value} {us : List Str} {c : Nat} {Q : Value → Shared → Prop} (hh : A.handled = none) (F : Fr h₀ L s.heap m) (N : News h₀ L s.heap news)
    (hm : (l, { cls := .type "tuple", data := .seq vs.toArray c }) ∈ news) (hi : StrsAre vs us) (hne : 0 < us.length)
    (h : ∀ h' M (t : Tok) tk, Fr h₀ L h' m → News h₀ L h' news → M ∈ us → (∀ u ∈ us, ¬ lst M < lst u) → Q (.str M t) { s with heap := h', toks := tk }) :
    wpAny (model prog w) A (call (.builtin "max") [.ref l]) Q E s := by
  have hT : s.heap.IsTuple l vs.toArray := ⟨_, N.get hm, rfl, _, rfl⟩
  have hlen : vs.toArray.size = us.length := by rw [List.size_toArray]; exact StrsAre.length hi
  have hlt : l < s.heap.objs.size := Heap.lt_size (N.get hm)
  refine call_max_walk (wpAny_pyIter_tuple hT ?_)
  refine ⟨_, _, _, _, _, _, _, rfl, Walks.tuple (A := A.in1) hh _ l (Nat.ne_of_lt hlt) vs.toArray, ⟨⟨_, Heap.get?_push_size _ rfl, rfl, rfl⟩, hT.push _⟩, ?_, by rw [hlen]; exact hne,
    cmp_gt (strN us) (fun i v hv => ?_), fun v h' tk hP hk => ?_⟩
  · intro b hb
    rw [Heap.size_push]
    rcases List.mem_cons.mp hb with rfl | hb
    · exact Nat.lt_succ_self _
    · rw [List.mem_singleton.mp hb]; exact Nat.lt_succ_of_lt hlt
  · obtain ⟨u, t, hu, e⟩ := strs_at hi i v (by simpa using hv)
    exact ⟨u, t, e, by unfold strN; rw [List.getD_eq_getElem?_getD, hu]; rfl⟩
  · rw [hlen] at hP
    obtain ⟨h1, h2⟩ := best_max us (us.length - 1)
    obtain ⟨u, t, hu, rfl⟩ := strs_at hi _ v (by simpa using hP)
    have hM : lst u = strN us (argBest (fun i j => decide (strN us j < strN us i)) (us.length - 1)) := strN_at hu
    have hkk : ∀ b o, s.heap.get? b = some o → h'.get? b = some o := fun b o e => by
      refine hk b o (fun hm => ?_) (Heap.get?_push_of_some _ e)
      rw [List.mem_singleton.mp hm] at e
      exact absurd (Heap.lt_size e) (Nat.lt_irrefl _)
    refine h h' u t tk (F.grownK hkk) (N.grown hkk) (List.mem_of_getElem? hu) fun x hx hlt => ?_
    obtain ⟨j, hj⟩ := List.mem_iff_getElem?.mp hx
    have hjl : j < us.length := (List.getElem?_eq_some_iff.mp hj).1
    refine h2 j (by omega) ?_
    rw [← hM]
    have : strN us j = lst x := (strN_at hj).symm
    rw [this]
    exact hlt
theorem min_strs_list {l : Addr} {vs : List Value} {us : List Str} {c : Nat} {Q : Value → Shared → Prop} (hh : A.handled = none) (F : Fr h₀ L s.heap m) (N : News h₀ L s.heap news)
    (hm : (l, { cls := .type "list", data := .seq vs.toArray c }) ∈ news) (hi : StrsAre vs us) (hne : 0 < us.length)
    (h : ∀ h' M (t : Tok) tk, Fr h₀ L h' m → News h₀ L h' news → M ∈ us → (∀ u ∈ us, ¬ lst u < lst M) → Q (.str M t) { s with heap := h', toks := tk }) :
    wpAny (model prog w) A (call (.builtin "min") [.ref l]) Q E s := by
  have hT : s.heap.IsList l vs.toArray := ⟨_, N.get hm, rfl, _, rfl⟩
  have hlen : vs.toArray.size = us.length := by rw [List.size_toArray]; exact StrsAre.length hi
  have hlt : l < s.heap.objs.size := Heap.lt_size (N.get hm)
  refine call_min_walk (wpAny_pyIter_list hT ?_)
  refine ⟨_, _, _, _, _, _, _, rfl, Walks.list (A := A.in1) hh _ l (Nat.ne_of_lt hlt) vs.toArray, ⟨⟨_, Heap.get?_push_size _ rfl, rfl, rfl⟩, hT.push _⟩, ?_, by rw [hlen]; exact hne,
    cmp_lt (strN us) (fun i v hv => ?_), fun v h' tk hP hk => ?_⟩
  · intro b hb
    rw [Heap.size_push]
    rcases List.mem_cons.mp hb with rfl | hb
    · exact Nat.lt_succ_self _
    · rw [List.mem_singleton.mp hb]; exact Nat.lt_succ_of_lt hlt
  · obtain ⟨u, t, hu, e⟩ := strs_at hi i v (by simpa using hv)
    exact ⟨u, t, e, by unfold strN; rw [List.getD_eq_getElem?_getD, hu]; rfl⟩
  · rw [hlen] at hP
    obtain ⟨h1, h2⟩ := best_min us (us.length - 1)
    obtain ⟨u, t, hu, rfl⟩ := strs_at hi _ v (by simpa using hP)
    have hM : lst u = strN us (argBest (fun i j => decide (strN us i < strN us j)) (us.length - 1)) := strN_at hu
    have hkk : ∀ b o, s.heap.get? b = some o → h'.get? b = some o := fun b o e => by
      refine hk b o (fun hm => ?_) (Heap.get?_push_of_some _ e)
      rw [List.mem_singleton.mp hm] at e
      exact absurd (Heap.lt_size e) (Nat.lt_irrefl _)
    refine h h' u t tk (F.grownK hkk) (N.grown hkk) (List.mem_of_getElem? hu) fun x hx hlt => ?_
    obtain ⟨j, hj⟩ := List.mem_iff_getElem?.mp hx
    have hjl : j < us.length := (List.getElem?_eq_some_iff.mp hj).1
    refine h2 j (by omega) ?_
    rw [← hM]
    have : strN us j = lst x := (strN_at hj).symm
    rw [this]
    exact hlt
theorem max_strs_list {l : Addr} {vs : List Value} {us : List Str} {c : Nat} {Q : Value → Shared → Prop} (hh : A.handled = none) (F : Fr h₀ L s.heap m) (N : News h₀ L s.heap news)
    (hm : (l, { cls := .type "list", data := .seq vs.toArray c }) ∈ news) (hi : StrsAre vs us) (hne : 0 < us.length)
    (h : ∀ h' M (t : Tok) tk, Fr h₀ L h' m → News h₀ L h' news → M ∈ us → (∀ u ∈ us, ¬ lst M < lst u) → Q (.str M t) { s with heap := h', toks := tk }) :
    wpAny (model prog w) A (call (.builtin "max") [.ref l]) Q E s := by
  have hT : s.heap.IsList l vs.toArray := ⟨_, N.get hm, rfl, _, rfl⟩
  have hlen : vs.toArray.size = us.length := by rw [List.size_toArray]; exact StrsAre.length hi
  have hlt : l < s.heap.objs.size := Heap.lt_size (N.get hm)
  refine call_max_walk (wpAny_pyIter_list hT ?_)
  refine ⟨_, _, _, _, _, _, _, rfl, Walks.list (A := A.in1) hh _ l (Nat.ne_of_lt hlt) vs.toArray, ⟨⟨_, Heap.get?_push_size _ rfl, rfl, rfl⟩, hT.push _⟩, ?_, by rw [hlen]; exact hne,
    cmp_gt (strN us) (fun i v hv => ?_), fun v h' tk hP hk => ?_⟩
  · intro b hb
    rw [Heap.size_push]
    rcases List.mem_cons.mp hb with rfl | hb
    · exact Nat.lt_succ_self _
    · rw [List.mem_singleton.mp hb]; exact Nat.lt_succ_of_lt hlt
  · obtain ⟨u, t, hu, e⟩ := strs_at hi i v (by simpa using hv)
    exact ⟨u, t, e, by unfold strN; rw [List.getD_eq_getElem?_getD, hu]; rfl⟩
  · rw [hlen] at hP
    obtain ⟨h1, h2⟩ := best_max us (us.length - 1)
    obtain ⟨u, t, hu, rfl⟩ := strs_at hi _ v (by simpa using hP)
    have hM : lst u = strN us (argBest (fun i j => decide (strN us j < strN us i)) (us.length - 1)) := strN_at hu
    have hkk : ∀ b o, s.heap.get? b = some o → h'.get? b = some o := fun b o e => by
      refine hk b o (fun hm => ?_) (Heap.get?_push_of_some _ e)
      rw [List.mem_singleton.mp hm] at e
      exact absurd (Heap.lt_size e) (Nat.lt_irrefl _)
    refine h h' u t tk (F.grownK hkk) (N.grown hkk) (List.mem_of_getElem? hu) fun x hx hlt => ?_
    obtain ⟨j, hj⟩ := List.mem_iff_getElem?.mp hx
    have hjl : j < us.length := (List.getElem?_eq_some_iff.mp hj).1
    refine h2 j (by omega) ?_
    rw [← hM]
    have : strN us j = lst x := (strN_at hj).symm
    rw [this]
    exact hlt
end
end Mine
end
section
open PySem PySem.W PyProof.Rows PyProof PySem.Calls
open Sem (wp)

namespace Mine
/-- the two texts part at this place -/
def parts (mn mx : Str) (i : Nat) : Bool := mk [(lst mn).getD i 0] != Txt.item mx (i : Int)
def LCP (us : List Str) (S : Str) : Prop := (∀ u ∈ us, lst S <+: lst u) ∧ ∀ T, (∀ u ∈ us, T <+: lst u) → T <+: lst S
theorem take_lt : ∀ {l : List Nat} {k : Nat}, k < l.length → l.take k < l
  | [], _, h => by simp at h
  | c :: r, 0, _ => List.nil_lt_cons c r
  | c :: r, k + 1, h => by
    rw [List.take_succ_cons, List.cons_lt_cons_iff]
    exact .inr ⟨rfl, take_lt (by simpa using h)⟩
theorem parts_at {mn mx : Str} {i : Nat} (hi : i < (lst mn).length) (hx : i < (lst mx).length) : parts mn mx i = false ↔ (lst mn)[i]? = (lst mx)[i]? := by
  unfold parts
  rw [item_at (by omega) (by rw [len_lst]; omega)]
  rw [List.getElem?_eq_getElem hi, List.getElem?_eq_getElem hx, List.getD_eq_getElem?_getD, List.getElem?_eq_getElem hi, List.getD_eq_getElem?_getD, Int.toNat_natCast, List.getElem?_eq_getElem hx]
  simp only [Option.getD_some, Option.some.injEq]
  generalize (lst mn)[i] = a
  generalize (lst mx)[i] = b
  constructor
  · intro h
    have h : mk [a] = mk [b] := by simpa [bne] using h
    have := congrArg lst h
    simpa [lst_mk] using this
  · rintro rfl
    simp [bne]
theorem alike {mn mx : Str} (h : ¬ lst mx < lst mn) : ∀ i, i ≤ (lst mn).length → (∀ j, j < i → parts mn mx j = false) → (lst mx).take i = (lst mn).take i ∧ (i < (lst mn).length → i < (lst mx).length)
  | 0, hi, hp => by
    refine ⟨by simp, fun hlt => ?_⟩
    cases hm : lst mx with
    | nil =>
      rw [hm] at h
      cases hn : lst mn with
      | nil => rw [hn] at hlt; simp at hlt
      | cons c r => rw [hn] at h; exact absurd (List.nil_lt_cons c r) h
    | cons => simp
  | i + 1, hi, hp => by
    obtain ⟨h1, h2⟩ := alike h i (by omega) fun j hj => hp j (by omega)
    have hx := h2 (by omega)
    have e := (parts_at (by omega) hx).mp (hp i (by omega))
    have e2 : (lst mx).take (i + 1) = (lst mn).take (i + 1) := by rw [List.take_add_one, List.take_add_one, h1, e]
    refine ⟨e2, fun hlt => ?_⟩
    rcases Nat.lt_or_ge (i + 1) (lst mx).length with h3 | h3
    · exact h3
    · rw [List.take_of_length_le h3] at e2
      exact absurd (e2 ▸ take_lt hlt) h
theorem cp_bound {mn mx : Str} {i : Nat} (h : ¬ lst mx < lst mn) (hi : i < (lst mn).length) (hp : ∀ j, j < i → parts mn mx j = false) : (i : Int) < mx.length := by
  have := (alike h i (by omega) hp).2 hi
  rw [len_lst]; omega
theorem cp_found {us : List Str} {mn mx : Str} {i : Nat} (hmn : mn ∈ us) (hmx : mx ∈ us) (h1 : ∀ u ∈ us, ¬ lst u < lst mn) (h2 : ∀ u ∈ us, ¬ lst mx < lst u) (hi : i < (lst mn).length) (hp : ∀ j, j < i → parts mn mx j = false) (hpi : parts mn mx i = true) :
    LCP us (Txt.slice mn none (some (i : Int))) := by
  obtain ⟨e, hx⟩ := alike (h2 mn hmn) i (by omega) hp
  replace hx := hx hi
  have es : lst (Txt.slice mn none (some (i : Int))) = (lst mn).take i := by rw [slice_to (by omega) (by rw [len_lst]; omega), lst_mk, Int.toNat_natCast]
  unfold LCP
  rw [es]
  refine ⟨fun u hu => between (h1 u hu) (h2 u hu) (List.take_prefix ..) (e ▸ List.take_prefix ..), fun T hT => ?_⟩
  have a := hT mn hmn
  have b := hT mx hmx
  rcases Nat.lt_or_ge i T.length with hl | hl
  · exfalso
    have ea : (lst mn)[i]? = T[i]? := by
      obtain ⟨r, er⟩ := a
      rw [← er, List.getElem?_append_left hl]
    have eb : (lst mx)[i]? = T[i]? := by
      obtain ⟨r, er⟩ := b
      rw [← er, List.getElem?_append_left hl]
    have := (parts_at hi hx).mpr (ea.trans eb.symm)
    rw [this] at hpi
    cases hpi
  · exact List.prefix_of_prefix_length_le a (List.take_prefix ..) (by rw [List.length_take]; omega)
theorem cp_whole {us : List Str} {mn mx : Str} (hmn : mn ∈ us) (h1 : ∀ u ∈ us, ¬ lst u < lst mn) (h2 : ∀ u ∈ us, ¬ lst mx < lst u) (hp : ∀ j, j < (lst mn).length → parts mn mx j = false) : LCP us mn := by
  obtain ⟨e, _⟩ := alike (h2 mn hmn) _ (Nat.le_refl _) hp
  rw [List.take_length] at e
  exact ⟨fun u hu => between (h1 u hu) (h2 u hu) (List.prefix_refl _) (e ▸ List.take_prefix ..), fun T hT => hT mn hmn⟩

section
variable {prog : Program} {w : World} {A : Around} {E : Value → Shared → Prop} {s : Shared} {env : Env} {h₀ : Heap} {m : Str → Option Value} {news : List (Addr × Obj)} {xi xc : Str} {Q : Flow → Shared → Prop} {xv : Value}
/-- a loop over pairs that searches, with what the earlier turns did not find at hand -/
theorem pair_search {α : Type} {K : ItemKind α} {as : List α} (pz : Nat → Bool) {test : Expr} {suite : List Stmt} {ipos : Pos} (S : PairSrc prog w A E h₀ env K as xv s m news)
    (g1 : ∀ (i : Nat) a t v s₁ own, as[i]? = some a → (∀ j, j < i → pz j = false) → K.is a v → Fr h₀ env.locals s₁.heap (bindM (bindM m xi (some (.int i t))) xc (some v)) → News h₀ env.locals s₁.heap (own ++ news) →
      wpAny (model prog w) A (isTrue test env (eval test env)) (fun b s₄ => b = pz i ∧ Keeps s₁ s₄) E s₁)
    (g2 : ∀ (i : Nat) a t v own h₄ tk₄, as[i]? = some a → (∀ j, j < i → pz j = false) → pz i = true → K.is a v → Fr h₀ env.locals h₄ (bindM (bindM m xi (some (.int i t))) xc (some v)) → News h₀ env.locals h₄ (own ++ news) →
      wpAny (model prog w) A (execs suite env) (LeaveOnly Q) E { s with heap := h₄, toks := tk₄ })
    (g3 : ∀ h' tk vi vl, Fr h₀ env.locals h' (bindM (bindM m xi vi) xc vl) → News h₀ env.locals h' news → (∀ j, j < as.length → pz j = false) → Q .next { s with heap := h', toks := tk }) :
    wpAny (model prog w) A (pyIter xv) (fun it s₂ => PairAt3 prog w A h₀ env xi xc [.If test suite [] ipos] Q E it s₂) E s := by
  have before : ∀ {i : Nat}, i ≤ as.length → (∀ b ∈ (List.range as.length).take i, pz b = false) → ∀ j, j < i → pz j = false := fun {i} hi h j hj => h j (by rw [List.take_range]; exact List.mem_range.mpr (by omega))
  refine S xi xc _ Q (PairJ (fun mb => FindJ mb news xc (List.range as.length) pz) m xi) ⟨m xi, m xc, ?_, rfl, by simp⟩ (fun i a t v m₁ news₁ s₁ own hs₁ ha hk hJ _ _ F₁ N₁ => ?_) (fun h' tk m' news' F' N' _ hJ => ?_)
  · rw [← bindM_start m xi]; exact bindM_start m xc
  · obtain ⟨vi, vl, rfl, rfl, hn⟩ := hJ
    obtain ⟨hh₁, tk₁, rfl⟩ := hs₁
    rw [bind2_find] at F₁
    have hlt : i < as.length := (List.getElem?_eq_some_iff.mp ha).1
    have hn' := before (Nat.le_of_lt hlt) hn
    exact wpAny_mono (turn_leave (as := List.range as.length) (pz := pz) (m := bindM m xi (some (.int i t))) (by rw [List.getElem?_range hlt]) hn F₁ N₁ (g1 i a t v _ own ha hn' hk F₁ N₁) fun hp h₄ tk₄ F₄ N₄ => g2 i a t v own h₄ tk₄ ha hn' hp hk F₄ N₄)
      (fun f s₂ h => LoopStep3.mono (fun _ _ hj => ⟨_, hj⟩) h) fun _ _ e => e
  · obtain ⟨vi, vl, rfl, rfl, hn⟩ := hJ
    exact g3 h' tk vi vl F' N' (before (Nat.le_refl _) hn)
end
theorem signs_at {x a : Str} {i : Nat} (h : (signs x)[i]? = some a) : i < (lst x).length ∧ a = mk [(lst x).getD i 0] := by
  rw [signs_eq, List.getElem?_map] at h
  cases hg : (lst x)[i]? with
  | none => rw [hg] at h; cases h
  | some c =>
    rw [hg] at h
    obtain ⟨hi, e⟩ := List.getElem?_eq_some_iff.mp hg
    refine ⟨hi, ?_⟩
    rw [List.getD_eq_getElem?_getD, hg]
    exact (Option.some.inj h).symm
end Mine
end
section
open PySem PySem.W PyProof.Rows PyProof

namespace Mine
theorem commonprefix_call {w : World} {dp un : Nat} {gd : Option (List Code)} {cn : Str} {cs : Scope} {L a : Addr} {ccd : Value} {cl : List (Str × Addr)} {outer : List Env} {A₀ : Around} {base h₀ : Heap} {m mg mb : Str → Option Value} {mean : ExcName → Option Value} {s : Shared} {Q E : Value → Shared → Prop} {news : List (Addr × Obj)} {al : Addr} {ys : List Value} {vn : Nat} {us : List Str}
    (B : Below A₀ base outer h₀) (F : Fr h₀ L s.heap m) (X : (hd.heap_39 w.params).In h₀) (N : News h₀ L s.heap news) (T : Top hd.view_39 (looseW hd.view_39 []) mean mg mb h₀) (hk : cs.kind = .function)
    (hd : dp + 40 < recursionLimit) (hu : un + 300 < cLine) (hm : (al, { cls := .type "list", data := .seq ys.toArray vn }) ∈ news) (hys : StrsAre ys us) (hpos : 0 < us.length) (hlen : ∀ u ∈ us, u.length ≤ 1000) (hsz : us.length ≤ 1000)
    (ret : ∀ S t' h' tk', LCP us S → Fr h₀ L h' m → News h₀ L h' news → Q (.str S t') { s with heap := h', toks := tk' }) :
    wpAny (model PySem.Challenge.rw_xc0039_01.row.prog w) (ktrTop dp un gd cn cs L a ccd cl outer) (call (.ref 101) [.ref al]) Q E s := by
  revert X; k_fill; intro X
  refine wpAny_call ?_
  k_dflt cell_enter
  k_with_none
  k_with "truthy ref" => (refine truthy_list_made (News.isList (by assumption) (by k_mem)) (StrsAre.carried (by assumption)) (by rw [List.length_map]; omega) ?_; rw [List.length_map, decide_eq_true (by assumption)])
  k_with "subscriptTail Name Constant ref int" => (refine item_strsA (News.isList (by assumption) (by k_mem)) (by assumption) (by decide) (by omega) (by decide) ?_; intro tkI)
  k_with "call type:map" => ((rename Fr _ _ _ _ => mF); (rename News _ _ _ _ => mN); (refine map_step (vs := ys) (lo := { cls := .type "list", data := .seq ys.toArray vn }) mF mN (by first | exact hm | exact .tail _ hm | exact .tail _ (.tail _ hm)) ⟨rfl, _, rfl⟩ ?_); (intro kI kT kM kH kF kN kIT kTM kNI); (try dsimp only); (try k_fold))
  k_with "call type:tuple" => (refine tuple_step (vs := ys) (lo := { cls := .type "list", data := .seq ys.toArray vn }) rfl kF kN kIT kTM kNI (by first | exact hm | exact .tail _ hm | exact .tail _ (.tail _ hm)) ⟨rfl, _, rfl⟩ (by rw [StrsAre.length (by assumption)]; exact Nat.le_trans (by assumption) (by decide)) ?kSame ?_; (case kSame => (intro x hx h' tk' nws Q' E' F' N' rt; obtain ⟨u, tu, rfl, hu⟩ := strs_mem (by assumption) x hx; (k_dflt (refine' fspath_call ?k1 F' ?k3 N' ?k5 ?k6 ?k7 ?k8 ?_; (case k1 => k_asm); (case k3 => k_asm); (case k5 => k_asm); (case k6 => first | exact rfl | assumption); (case k7 => ktr_room); (case k8 => ktr_units))); exact rt)); (intro kD kH2 kTk kF2 kN2 kLt); (try dsimp only); (try k_fold))
  k_with "call builtin:min" => ((rename Fr _ _ _ _ => lF'); (rename News _ _ _ _ => lN'); (refine min_strs_tuple rfl lF' lN' (by k_mem) (by assumption) (by assumption) ?_); (intro kHm kMn kTn kTkn kFn kNn kIn1 kIn2); (try dsimp only); (try k_fold))
  k_with "call builtin:max" => ((rename Fr _ _ _ _ => lF'); (rename News _ _ _ _ => lN'); (refine max_strs_tuple rfl lF' lN' (by k_mem) (by assumption) (by assumption) ?_); (intro kHx kMx kTx kTkx kFx kNx kIx1 kIx2); (try dsimp only); (try k_fold))
  k_with "pyIter ref" => ((with_reducible apply pair_search (parts kMn kMx)); (k_dflt (case S => exact PairSrcL.at (by assumption) _ rfl)); (case' g3 => (intro kh ktk kvi kvl kpF kpN kNone)); (case' g2 => (intro ki ka kt kv kown kh4 ktk4 kAt kBefore kHere kIs kpF kpN; obtain ⟨_, e'⟩ := ItemKind.str_is kIs; subst e')); (case' g1 => (intro ki ka kt kv ks1 kown kAt kBefore kIs kpF kpN; obtain ⟨_, e'⟩ := ItemKind.str_is kIs; subst e'; obtain ⟨kLen, e2⟩ := signs_at kAt; subst e2; have kBd := cp_bound (kIx2 kMn kIn1) kLen kBefore; have kLx := hlen kMx kIx1; have kLn := hlen kMn kIn1; (with_reducible refine wpAny_leafK ?_))))
  k_steps
  · rename News h₀ _ _ _ => hN
    refine ret _ _ _ _ (cp_found kIn1 kIx1 kIn2 kIx2 (signs_at kAt).1 kBefore kHere) ?_ (fun q hq => hN q (List.mem_append_right _ (.tail _ (.tail _ hq))))
    assumption
  · rename News h₀ _ _ _ => hN
    refine ret _ _ _ _ (cp_whole kIn1 kIn2 kIx2 fun j hj => kNone j (by rw [signs_eq, List.length_map]; exact hj)) ?_ (fun q hq => hN q (.tail _ (.tail _ hq)))
    assumption
theorem commonprefix_nil {w : World} {dp un : Nat} {gd : Option (List Code)} {cn : Str} {cs : Scope} {L a : Addr} {ccd : Value} {cl : List (Str × Addr)} {outer : List Env} {A₀ : Around} {base h₀ : Heap} {m mg mb : Str → Option Value} {mean : ExcName → Option Value} {s : Shared} {Q E : Value → Shared → Prop} {news : List (Addr × Obj)} {al : Addr} {ys : List Value} {vn : Nat} {us : List Str}
    (B : Below A₀ base outer h₀) (F : Fr h₀ L s.heap m) (X : (hd.heap_39 w.params).In h₀) (N : News h₀ L s.heap news) (T : Top hd.view_39 (looseW hd.view_39 []) mean mg mb h₀) (hk : cs.kind = .function)
    (hd : dp + 40 < recursionLimit) (hu : un + 300 < cLine) (hm : (al, { cls := .type "list", data := .seq ys.toArray vn }) ∈ news) (hys : StrsAre ys us) (hpos : ¬ 0 < us.length)
    (ret : ∀ t' h' tk', Fr h₀ L h' m → News h₀ L h' news → Q (.str (PySem.Str.ofString "") t') { s with heap := h', toks := tk' }) :
    wpAny (model PySem.Challenge.rw_xc0039_01.row.prog w) (ktrTop dp un gd cn cs L a ccd cl outer) (call (.ref 101) [.ref al]) Q E s := by
  revert X; k_fill; intro X
  refine wpAny_call ?_
  k_dflt cell_enter
  k_with_none
  k_with "truthy ref" => (refine truthy_list_made (News.isList (by assumption) (by k_mem)) (StrsAre.carried (by assumption)) (by rw [List.length_map]; omega) ?_; rw [List.length_map, decide_eq_false (by assumption)])
  k_steps
  refine ret _ _ _ ?_ ?_ <;> assumption
end Mine
end
section
open PySem PySem.W PyProof.Rows PyProof PySem.Calls
open Sem (wp)

namespace Mine
section
variable {prog : Program} {w : World} {A : Around} {E : Value → Shared → Prop} {s : Shared} {env : Env} {h₀ : Heap} {x : Str} {body : List Stmt} {Q : Flow → Shared → Prop}
/-- a loop over a list of texts of which every turn leaves what stands -/
theorem strs_each {l : Addr} {vs : List Value} {us : List Str} {nn : Nat} {m₀ : Str → Option Value} {news : List (Addr × Obj)} (stored : List Str)
    (hh : A.handled = none) (hl : (l, { cls := .type "list", data := .seq vs.toArray nn }) ∈ news) (hi : StrsAre vs us) (F : Fr h₀ env.locals s.heap m₀) (N : News h₀ env.locals s.heap news)
    (turn : ∀ u t (v : Str → Option Value) h tk I (oI : Obj), u ∈ us → (∀ p ∈ news, p.1 < I) → oI.cls = .type "list_iterator" → Fr h₀ env.locals h (fun y => if y = x then some (.str u t) else if stored.contains y then v y else m₀ y) → News h₀ env.locals h ((I, oI) :: news) →
      wpAny (model prog w) A (execs body env) (InvPostN h₀ env.locals (KstS (fun _ : Unit => news) (fun _ => []) (fun _ => True) x stored m₀ (fun _ _ => True) []) [(I, oI)] (news.map (·.1)) { s with heap := h, toks := tk } Q) E { s with heap := h, toks := tk })
    (done : ∀ (v : Str → Option Value) h tk, Fr h₀ env.locals h (fun y => if y = x then v y else if stored.contains y then v y else m₀ y) → News h₀ env.locals h news → Q .next { s with heap := h, toks := tk }) :
    wpAny (model prog w) A (pyIter (.ref l)) (fun it s₂ => LoopAtV prog w A h₀ env x body Q E it s₂) E s := by
  have hol : s.heap.get? l = some (listOf vs.toArray nn) := (N _ hl).1
  have hls : s.heap.IsList l vs.toArray := ⟨_, hol, rfl, nn, rfl⟩
  have hlt : ∀ p ∈ news, p.1 < s.heap.objs.size := fun p hp => Heap.lt_size (N p hp).1
  have hne : l ≠ s.heap.objs.size := Nat.ne_of_lt (hlt _ hl)
  refine wpAny_pyIter_list hls ?_
  have W := Walks.list (prog := prog) (w := w) hh s.heap.objs.size l hne vs.toArray
  have hI0 : h₀.get? s.heap.objs.size = none := next_is_new F
  have hIL : s.heap.objs.size ≠ env.locals := Nat.ne_of_gt F.ns.lt
  refine ⟨_, _, _, vs.toArray.size, _, _, m₀, news, (fun _ m nx => KstS (fun _ : Unit => news) (fun _ => []) (fun _ => True) x stored m₀ (fun _ _ => True) [] m nx), rfl, W, ?_, ?_, ?_, ⟨⟨_, Heap.get?_push_size _ rfl, rfl, rfl⟩, hls.at fun o e => Heap.get?_push_of_some _ e⟩, F.push _, (fun p hp => ⟨Heap.get?_push_of_some _ (N p hp).1, (N p hp).2⟩), ⟨(), rfl, trivial, fun _ h => (nomatch h), fun _ _ _ _ => rfl, trivial⟩, ?_, ?_⟩
  · intro hm
    rcases List.mem_cons.mp hm with e | hm
    · exact hIL e.symm
    · exact (N _ hl).2.1 ((List.mem_singleton.mp hm).symm)
  · intro b hb
    rw [List.mem_singleton.mp hb]
    exact hI0
  · intro p hp hI
    exact absurd (hlt p hp) ((List.mem_singleton.mp hI) ▸ Nat.lt_irrefl _)
  · rintro i v m₁ nx s₁ own ⟨hh', tk', rfl⟩ hin hP ⟨_, rfl, _, h1, h2, _⟩ hoff hown hget hfp hst F₁ N₁
    obtain ⟨u, t, hu, rfl⟩ := strs_at hi i v (by simpa using hP)
    obtain ⟨⟨oI, hoI, hcI, _⟩, _⟩ := id hst
    have N₂ : News h₀ env.locals hh' ((s.heap.objs.size, oI) :: nx) := fun p hp => by
      rcases List.mem_cons.mp hp with rfl | hp
      · exact ⟨hoI, hIL, hI0⟩
      · exact N₁ p (List.mem_append_right _ hp)
    have F₂ := kst_fr h1 h2 F₁
    refine wpAny_mono (turn u t m₁ hh' tk' s.heap.objs.size oI (List.mem_of_getElem? hu) hlt hcI F₂ N₂) (fun f s₂ p => ?_) fun _ _ e => e
    have fin : InvEndN h₀ env.locals (KstS (fun _ : Unit => nx) (fun _ => []) (fun _ => True) x stored m₀ (fun _ _ => True) []) [(s.heap.objs.size, oI)] (nx.map (·.1)) { s with heap := hh', toks := tk' } s₂ →
        LoopStepU h₀ env.locals [s.heap.objs.size] own (fun m nx' => KstS (fun _ : Unit => nx) (fun _ => []) (fun _ => True) x stored m₀ (fun _ _ => True) [] m nx') { s with heap := hh', toks := tk' } .next s₂ := by
      rintro ⟨h', tk, m', news', nx', e, F', N', hn, ho, ha, hm⟩
      obtain ⟨_, hnx, r⟩ := hm
      subst hnx
      refine ⟨rfl, h', tk, m', nx', e, F', fun p hp => ?_, fun p hp => ?_, (), rfl, r⟩
      · rcases List.mem_append.mp hp with h | h
        · rcases List.mem_cons.mp (hown p h) with h3 | h3
          · have h4 : hh'.get? p.1 = some p.2 := hget p h
            rw [h3, hoI] at h4
            have h5 : p = (s.heap.objs.size, oI) := Prod.ext h3 (Option.some.inj h4).symm
            rw [h5]
            exact N' _ (ho _ (.head _))
          · have h4 : hh'.get? p.1 = some p.2 := hget p h
            have h6 := (N₁ _ (List.mem_append_right _ hl)).1
            rw [List.mem_singleton.mp h3] at h4
            have h6 : hh'.get? l = some (listOf vs.toArray nn) := h6
            rw [h6] at h4
            have h5 : p = (l, listOf vs.toArray nn) := Prod.ext (List.mem_singleton.mp h3) (Option.some.inj h4).symm
            rw [h5]
            exact N' _ (hn _ hl)
        · exact N' p (hn p h)
      · intro hI
        exact absurd (hlt p hp) ((List.mem_singleton.mp hI) ▸ Nat.lt_irrefl _)
    cases f with
    | ret v => exact .ret p
    | brk => exact .brk p
    | next => exact .next (fin p)
    | cont => exact .cont (fin p)
  · rintro h' tk m' nx F' N' _ ⟨_, rfl, _, h1, h2, _⟩
    exact done m' h' tk (kst_frOut h1 h2 F') N'
/-- a loop over a tuple of which every turn leaves what stands -/
theorem vals_each {l : Addr} {vs : List Value} {nn : Nat} {m₀ : Str → Option Value} {news : List (Addr × Obj)} (stored : List Str)
    (hh : A.handled = none) (hl : (l, { cls := .type "tuple", data := .seq vs.toArray nn }) ∈ news) (F : Fr h₀ env.locals s.heap m₀) (N : News h₀ env.locals s.heap news)
    (turn : ∀ u (v : Str → Option Value) h tk I (oI : Obj), u ∈ vs → (∀ p ∈ news, p.1 < I) → oI.cls = .type "tuple_iterator" → Fr h₀ env.locals h (fun y => if y = x then some u else if stored.contains y then v y else m₀ y) → News h₀ env.locals h ((I, oI) :: news) →
      wpAny (model prog w) A (execs body env) (InvPostN h₀ env.locals (KstS (fun _ : Unit => news) (fun _ => []) (fun _ => True) x stored m₀ (fun _ _ => True) []) [(I, oI)] (news.map (·.1)) { s with heap := h, toks := tk } Q) E { s with heap := h, toks := tk })
    (done : ∀ (v : Str → Option Value) h tk, Fr h₀ env.locals h (fun y => if y = x then v y else if stored.contains y then v y else m₀ y) → News h₀ env.locals h news → Q .next { s with heap := h, toks := tk }) :
    wpAny (model prog w) A (pyIter (.ref l)) (fun it s₂ => LoopAtV prog w A h₀ env x body Q E it s₂) E s := by
  have hol : s.heap.get? l = some (({ cls := .type "tuple", data := .seq vs.toArray nn } : Obj)) := (N _ hl).1
  have hls : s.heap.IsTuple l vs.toArray := ⟨_, hol, rfl, nn, rfl⟩
  have hlt : ∀ p ∈ news, p.1 < s.heap.objs.size := fun p hp => Heap.lt_size (N p hp).1
  have hne : l ≠ s.heap.objs.size := Nat.ne_of_lt (hlt _ hl)
  refine wpAny_pyIter_tuple hls ?_
  have W := Walks.tuple (prog := prog) (w := w) hh s.heap.objs.size l hne vs.toArray
  have hI0 : h₀.get? s.heap.objs.size = none := next_is_new F
  have hIL : s.heap.objs.size ≠ env.locals := Nat.ne_of_gt F.ns.lt
  refine ⟨_, _, _, vs.toArray.size, _, _, m₀, news, (fun _ m nx => KstS (fun _ : Unit => news) (fun _ => []) (fun _ => True) x stored m₀ (fun _ _ => True) [] m nx), rfl, W, ?_, ?_, ?_, ⟨⟨_, Heap.get?_push_size _ rfl, rfl, rfl⟩, hls.push _⟩, F.push _, (fun p hp => ⟨Heap.get?_push_of_some _ (N p hp).1, (N p hp).2⟩), ⟨(), rfl, trivial, fun _ h => (nomatch h), fun _ _ _ _ => rfl, trivial⟩, ?_, ?_⟩
  · intro hm
    rcases List.mem_cons.mp hm with e | hm
    · exact hIL e.symm
    · exact (N _ hl).2.1 ((List.mem_singleton.mp hm).symm)
  · intro b hb
    rw [List.mem_singleton.mp hb]
    exact hI0
  · intro p hp hI
    exact absurd (hlt p hp) ((List.mem_singleton.mp hI) ▸ Nat.lt_irrefl _)
  · rintro i v m₁ nx s₁ own ⟨hh', tk', rfl⟩ hin hP ⟨_, rfl, _, h1, h2, _⟩ hoff hown hget hfp hst F₁ N₁
    have hu : vs[i]? = some v := by simpa using hP
    obtain ⟨⟨oI, hoI, hcI, _⟩, _⟩ := id hst
    have N₂ : News h₀ env.locals hh' ((s.heap.objs.size, oI) :: nx) := fun p hp => by
      rcases List.mem_cons.mp hp with rfl | hp
      · exact ⟨hoI, hIL, hI0⟩
      · exact N₁ p (List.mem_append_right _ hp)
    have F₂ := kst_fr h1 h2 F₁
    refine wpAny_mono (turn v m₁ hh' tk' s.heap.objs.size oI (List.mem_of_getElem? hu) hlt hcI F₂ N₂) (fun f s₂ p => ?_) fun _ _ e => e
    have fin : InvEndN h₀ env.locals (KstS (fun _ : Unit => nx) (fun _ => []) (fun _ => True) x stored m₀ (fun _ _ => True) []) [(s.heap.objs.size, oI)] (nx.map (·.1)) { s with heap := hh', toks := tk' } s₂ →
        LoopStepU h₀ env.locals [s.heap.objs.size] own (fun m nx' => KstS (fun _ : Unit => nx) (fun _ => []) (fun _ => True) x stored m₀ (fun _ _ => True) [] m nx') { s with heap := hh', toks := tk' } .next s₂ := by
      rintro ⟨h', tk, m', news', nx', e, F', N', hn, ho, ha, hm⟩
      obtain ⟨_, hnx, r⟩ := hm
      subst hnx
      refine ⟨rfl, h', tk, m', nx', e, F', fun p hp => ?_, fun p hp => ?_, (), rfl, r⟩
      · rcases List.mem_append.mp hp with h | h
        · rcases List.mem_cons.mp (hown p h) with h3 | h3
          · have h4 : hh'.get? p.1 = some p.2 := hget p h
            rw [h3, hoI] at h4
            have h5 : p = (s.heap.objs.size, oI) := Prod.ext h3 (Option.some.inj h4).symm
            rw [h5]
            exact N' _ (ho _ (.head _))
          · have h4 : hh'.get? p.1 = some p.2 := hget p h
            have h6 := (N₁ _ (List.mem_append_right _ hl)).1
            rw [List.mem_singleton.mp h3] at h4
            have h6 : hh'.get? l = some (({ cls := .type "tuple", data := .seq vs.toArray nn } : Obj)) := h6
            rw [h6] at h4
            have h5 : p = (l, ({ cls := .type "tuple", data := .seq vs.toArray nn } : Obj)) := Prod.ext (List.mem_singleton.mp h3) (Option.some.inj h4).symm
            rw [h5]
            exact N' _ (hn _ hl)
        · exact N' p (hn p h)
      · intro hI
        exact absurd (hlt p hp) ((List.mem_singleton.mp hI) ▸ Nat.lt_irrefl _)
    cases f with
    | ret v => exact .ret p
    | brk => exact .brk p
    | next => exact .next (fin p)
    | cont => exact .cont (fin p)
  · rintro h' tk m' nx F' N' _ ⟨_, rfl, _, h1, h2, _⟩
    exact done m' h' tk (kst_frOut h1 h2 F') N'
theorem two_each {l : Addr} {a b : Value} {nn : Nat} {m₀ : Str → Option Value} {news : List (Addr × Obj)} (stored : List Str)
    (hh : A.handled = none) (hl : (l, { cls := .type "tuple", data := .seq #[a, b] nn }) ∈ news) (F : Fr h₀ env.locals s.heap m₀) (N : News h₀ env.locals s.heap news)
    (turn1 : ∀ (v : Str → Option Value) h tk I (oI : Obj), (∀ p ∈ news, p.1 < I) → oI.cls = .type "tuple_iterator" → Fr h₀ env.locals h (fun y => if y = x then some a else if stored.contains y then v y else m₀ y) → News h₀ env.locals h ((I, oI) :: news) →
      wpAny (model prog w) A (execs body env) (InvPostN h₀ env.locals (KstS (fun _ : Unit => news) (fun _ => []) (fun _ => True) x stored m₀ (fun _ _ => True) []) [(I, oI)] (news.map (·.1)) { s with heap := h, toks := tk } Q) E { s with heap := h, toks := tk })
    (turn2 : ∀ (v : Str → Option Value) h tk I (oI : Obj), (∀ p ∈ news, p.1 < I) → oI.cls = .type "tuple_iterator" → Fr h₀ env.locals h (fun y => if y = x then some b else if stored.contains y then v y else m₀ y) → News h₀ env.locals h ((I, oI) :: news) →
      wpAny (model prog w) A (execs body env) (InvPostN h₀ env.locals (KstS (fun _ : Unit => news) (fun _ => []) (fun _ => True) x stored m₀ (fun _ _ => True) []) [(I, oI)] (news.map (·.1)) { s with heap := h, toks := tk } Q) E { s with heap := h, toks := tk })
    (done : ∀ (v : Str → Option Value) h tk, Fr h₀ env.locals h (fun y => if y = x then v y else if stored.contains y then v y else m₀ y) → News h₀ env.locals h news → Q .next { s with heap := h, toks := tk }) :
    wpAny (model prog w) A (pyIter (.ref l)) (fun it s₂ => LoopAtV prog w A h₀ env x body Q E it s₂) E s := by
  refine vals_each (vs := [a, b]) stored hh hl F N (fun u v h tk I oI hu => ?_) done
  rcases List.mem_cons.mp hu with rfl | hu
  · exact turn1 v h tk I oI
  · rw [List.mem_singleton.mp hu]
    exact turn2 v h tk I oI
end
end Mine
end
section
open PySem PySem.W PyProof.Rows PyProof PySem.Calls
open Sem (wp)

namespace Mine
def Told (q : Str → Bool) (news : List (Addr × Obj)) (u : Str) (y : Value) (news' : List (Addr × Obj)) : Prop := news' = news ∧ q u = true ∧ ∃ t : Tok, y = .str u t
def Untold (q : Str → Bool) (news : List (Addr × Obj)) (u : Str) (news' : List (Addr × Obj)) : Prop := news' = news ∧ q u = false
section
variable {prog : Program} {w : World} {A : Around} {h₀ : Heap} {L : Addr} {m : Str → Option Value} {env : Env} {ct elt : Expr} {x : Str} {scope : Scope} {cl : List (Str × Addr)} {s : Shared} {S : List (Addr × Obj) → Prop} {P : Nat → Value → Prop} {Fin : List Value → List (Addr × Obj) → Prop} {news : List (Addr × Obj)}
/-- a comprehension over texts, each item made a text -/
theorem comp_texts {vs : List Value} {us : List Str} (g : Str → Str) (hi : StrsAre vs us)
    (turn : ∀ u t I oI C oC D m₂ ys h tk (E' : Value → Shared → Prop), u ∈ us → LCg.NsObj oC m₂ → m₂ x = some (.str u t) → Fr h₀ L h m → News h₀ L h ((I, oI) :: (C, oC) :: (D, LCg.lst ys) :: news) → LCg.Off3 I C D news → ((@Ne Nat I C) ∧ (@Ne Nat I D) ∧ (@Ne Nat C D)) →
      wpAny (model prog w) A (eval elt (compEnvC scope cl C env)) (LCg.CompEnd h₀ L m { s with heap := h, toks := tk } I oI C oC D (LCg.lst ys) S (fun y news' => KCtEl news (g u) y news')) E' { s with heap := h, toks := tk })
    (fin : ∀ ys, StrsAre ys (us.map g) → Fin ys news) : LCg.CompRest prog w A h₀ L m env elt x scope cl s S (fun i v => vs.toArray[i]? = some v) Fin vs.toArray.size 0 [] news := by
  have hn : vs.toArray.size = us.length := by rw [List.size_toArray]; exact StrsAre.length hi
  have key : ∀ (j i : Nat) (ys : List Value), i + j = us.length → StrsAre ys ((us.take i).map g) → LCg.CompRest prog w A h₀ L m env elt x scope cl s S (fun i v => vs.toArray[i]? = some v) Fin j i ys news := by
    intro j
    induction j with
    | zero =>
      intro i ys hi' hy
      have e : i = us.length := by omega
      rw [e, List.take_length] at hy
      exact LCg.CompRest.zero (fin ys hy)
    | succ j ih =>
      intro i ys hi' hy
      refine LCg.CompRest.succ ?_
      intro v I oI C oC D m₂ h tk E' hv hC hx F N off ne
      obtain ⟨u, t, hu, rfl⟩ := strs_at hi i v (by simpa using hv)
      refine wpAny_mono (turn u t I oI C oC D m₂ ys h tk E' (List.mem_of_getElem? hu) hC hx F N off ne) (fun y s₂ hq => ?_) fun _ _ e => e
      obtain ⟨h', tk', nw, e, F', N', off', hS, hnw, t', hy'⟩ := hq
      rw [hnw] at N' off' hS
      refine ⟨h', tk', news, e, F', N', off', hS, ?_⟩
      rw [hy']
      refine ih (i + 1) _ (by omega) ?_
      rw [List.take_add_one, hu]
      simpa using kct_snoc hy
  rw [hn]
  exact key us.length 0 [] (by omega) (by simp only [List.take_zero, List.map_nil]; exact .nil)
/-- a comprehension over texts that keeps those that are told by q -/
theorem comp_kept {vs : List Value} {us : List Str} (q : Str → Bool) (hi : StrsAre vs us)
    (turn : ∀ u t I oI C oC D m₂ ys h tk (E' : Value → Shared → Prop), u ∈ us → LCg.NsObj oC m₂ → m₂ x = some (.str u t) → Fr h₀ L h m → News h₀ L h ((I, oI) :: (C, oC) :: (D, LCg.lst ys) :: news) → LCg.Off3 I C D news → ((@Ne Nat I C) ∧ (@Ne Nat I D) ∧ (@Ne Nat C D)) →
      wpAny (model prog w) A (isTrue ct (compEnvC scope cl C env) (eval ct (compEnvC scope cl C env))) (fun b s' => if b = true then wpAny (model prog w) A (eval elt (compEnvC scope cl C env)) (LCg.CompEnd h₀ L m { s with heap := h, toks := tk } I oI C oC D (LCg.lst ys) S (fun y news' => Told q news u y news')) E' s'
        else LCg.CompEnd h₀ L m { s with heap := h, toks := tk } I oI C oC D (LCg.lst ys) S (fun _ news' => Untold q news u news') Value.none s') E' { s with heap := h, toks := tk })
    (fin : ∀ ys, StrsAre ys (us.filter q) → Fin ys news) : LCt.CompRestT prog w A h₀ L m env ct elt x scope cl s S (fun i v => vs.toArray[i]? = some v) Fin vs.toArray.size 0 [] news := by
  have hn : vs.toArray.size = us.length := by rw [List.size_toArray]; exact StrsAre.length hi
  have key : ∀ (j i : Nat) (ys : List Value), i + j = us.length → StrsAre ys ((us.take i).filter q) → LCt.CompRestT prog w A h₀ L m env ct elt x scope cl s S (fun i v => vs.toArray[i]? = some v) Fin j i ys news := by
    intro j
    induction j with
    | zero =>
      intro i ys hi' hy
      have e : i = us.length := by omega
      rw [e, List.take_length] at hy
      exact LCt.CompRestT.zero (fin ys hy)
    | succ j ih =>
      intro i ys hi' hy
      refine LCt.CompRestT.succ ?_
      intro v I oI C oC D m₂ h tk E' hv hC hx F N off ne
      obtain ⟨u, t, hu, rfl⟩ := strs_at hi i v (by simpa using hv)
      have hs : us.take (i + 1) = us.take i ++ [u] := by rw [List.take_add_one, hu]; rfl
      refine wpAny_mono (turn u t I oI C oC D m₂ ys h tk E' (List.mem_of_getElem? hu) hC hx F N off ne) (fun b s₂ hq => ?_) fun _ _ e => e
      cases b with
      | true =>
        simp only [if_true] at hq ⊢
        refine wpAny_mono hq (fun y s₃ hr => ?_) fun _ _ e => e
        obtain ⟨h', tk', nw, e, F', N', off', hS, hnw, hqu, t', hy'⟩ := hr
        rw [hnw] at N' off' hS
        refine ⟨h', tk', news, e, F', N', off', hS, ?_⟩
        rw [hy']
        refine ih (i + 1) _ (by omega) ?_
        rw [hs, List.filter_append, List.filter_cons_of_pos hqu, List.filter_nil]
        exact kct_snoc hy
      | false =>
        simp only [Bool.false_eq_true, if_false] at hq ⊢
        obtain ⟨h', tk', nw, e, F', N', off', hS, hnw, hqu⟩ := hq
        rw [hnw] at N' off' hS
        refine ⟨h', tk', news, e, F', N', off', hS, ih (i + 1) _ (by omega) ?_⟩
        rw [hs, List.filter_append, List.filter_cons_of_neg (by rw [hqu]; decide), List.filter_nil, List.append_nil]
        exact hy
  rw [hn]
  exact key us.length 0 [] (by omega) (by simp only [List.take_zero, List.filter_nil]; exact .nil)
end
theorem told {q : Str → Bool} {news news' : List (Addr × Obj)} {u : Str} {y : Value} {t : Tok} (h : q u = true) (e : news' = news) (hy : y = .str u t) : Told q news u y news' := ⟨e, h, t, hy⟩
theorem untold {q : Str → Bool} {news news' : List (Addr × Obj)} {u : Str} (h : q u = false) (e : news' = news) : Untold q news u news' := ⟨e, h⟩
end Mine
end
section
open PySem PySem.W PyProof.Rows PyProof

namespace Mine
theorem ext_suffix (p k : Str) : ∃ a, lst p = a ++ lst (extT p k) := by
  rcases dotAt k p with ⟨_, e⟩ | ⟨pre, a, b, hl, _, _, _, e⟩
  · exact ⟨lst p, by rw [e, lst_mk]; simp⟩
  · rw [e]
    split
    · exact ⟨lst p, by rw [lst_mk]; simp⟩
    · exact ⟨pre ++ a, by rw [lst_mk, hl]; simp⟩
theorem root_ext (p k : Str) : rootT p k ++ extT p k = p := by
  obtain ⟨a, e⟩ := ext_suffix p k
  refine lst_inj ?_
  rw [lst_append]
  unfold rootT
  rw [lst_mk]
  have hl : p.length - (extT p k).length = a.length := by rw [len_lst, len_lst (extT p k), e]; simp
  rw [hl, e]
  simp
theorem root_len (p k : Str) : (rootT p k).length ≤ p.length ∧ (extT p k).length ≤ p.length := by
  have := congrArg Str.length (root_ext p k)
  rw [Str.length_append] at this
  omega
theorem root_ok {p : Str} (k : Str) (h : Ok p) : Ok (rootT p k) ∧ Ok (extT p k) := by
  have e := root_ext p k
  constructor
  · refine h.sub fun c hc => ?_
    rw [← e, lst_append]
    exact List.mem_append_left _ hc
  · refine h.sub fun c hc => ?_
    rw [← e, lst_append]
    exact List.mem_append_right _ hc
theorem paths_are {ys : List Value} {ns : List Int} (h : CarriedAll ys (List.map (fun k => PyData.str (lawPath k)) ns)) (hn : ¬ (63 : Int) < (ns.length : Int)) :
    ∃ us, StrsAre ys us ∧ (∀ u ∈ us, Ok u) ∧ (∀ u ∈ us, u.length ≤ 58) ∧ us.length ≤ 63 := by
  refine ⟨ns.map lawPath, StrsAre.of_carried (by rw [List.map_map]; exact h), ?_, ?_, by rw [List.length_map]; omega⟩
  · intro u hu
    obtain ⟨n, _, rfl⟩ := List.mem_map.mp hu
    exact lawPath_ok n
  · intro u hu
    obtain ⟨n, _, rfl⟩ := List.mem_map.mp hu
    exact lawPath_len n
theorem ext_is (p k : Str) : extT p k = lawEnd (lawName p k) := rfl
theorem len_dab : (Str.ofString ".ab").length = 3 := by decide +kernel
theorem len_slash : (Str.ofString "/").length ≤ 1000 := by decide +kernel
theorem len_both : (Str.ofString "/\\").length ≤ 1000 := by decide +kernel
section
variable {prog : Program} {w : World} {A : Around} {E : Value → Shared → Prop} {s : Shared} {x y : Str} {t u : Tok} {Q : Value → Shared → Prop}
theorem ne_same (e : x = y) (h : Q (.bool false) s) : wpAny (model prog w) A (compareOp .NotEq (.str x t) (.str y u)) Q E s := by
  subst e
  refine P.ne_str ?_
  simpa [bne] using h
end
end Mine
end
section
open PySem PySem.W PyProof.Rows PyProof

namespace Mine
theorem ne_empty {x : Str} (h : (x != Str.ofString "") = true) : lst x ≠ [] := by
  intro e
  have : x = Str.ofString "" := lst_inj (e.trans lst_empty.symm)
  rw [this] at h
  simp [bne] at h
/-- what a told end is -/
theorem ext_facts {p k : Str} (hn : (extT p k != Str.ofString "") = true) :
    ∃ pre a b, lst p = pre ++ (a ++ 46 :: b) ∧ nameL (lst k) (lst p) = a ++ 46 :: b ∧ (∀ c ∈ a ++ 46 :: b, c ∉ lst k) ∧ 46 ∉ b ∧ ¬ a.all dotB = true ∧ lst (extT p k) = 46 :: b ∧ lst (rootT p k) = pre ++ a := by
  have hn := ne_empty hn
  obtain ⟨pre, h1, h2, _, _⟩ := sep_cut k p
  have ee : extT p k = mk (endL (nameL (lst k) (lst p))) := rfl
  rcases dot_cases (nameL (lst k) (lst p)) with hf | ⟨a, b, e, hb⟩
  · exfalso
    rw [ee, endL_free (fun c hc => by unfold dotB; simpa using hf c hc)] at hn
    exact hn rfl
  · rw [e, endL_mid (dotB_free hb)] at ee
    by_cases ha : a.all dotB = true
    · rw [if_pos ha] at ee
      rw [ee] at hn
      exact absurd rfl hn
    · rw [if_neg ha] at ee
      have el : lst (extT p k) = 46 :: b := by rw [ee, lst_mk]
      rw [e] at h1 h2
      refine ⟨pre, a, b, h1, e, h2, hb, ha, el, ?_⟩
      unfold rootT
      rw [lst_mk, len_lst, len_lst (extT p k), el, h1]
      have : (pre ++ (a ++ 46 :: b)).length - (46 :: b).length = (pre ++ a).length := by simp only [List.length_append, List.length_cons]; omega
      rw [this, ← List.append_assoc, List.take_left]
theorem ext_first {p k : Str} (hn : (extT p k != Str.ofString "") = true) : Txt.item (extT p k) 0 = Str.ofString "." := by
  obtain ⟨pre, a, b, _, _, _, _, _, el, _⟩ := ext_facts hn
  rw [item_at (by decide) (by rw [len_lst, el]; simp only [List.length_cons]; omega), el, dot_mk]
  rfl
theorem cnt_none : ∀ {b : List Nat}, 46 ∉ b → cnt 46 b = 0
  | [], _ => rfl
  | c :: r, h => by
    have h1 : c ≠ 46 := fun e => h (e ▸ .head _)
    have h2 := cnt_none (b := r) fun hm => h (.tail _ hm)
    rw [cnt_cons, h2, if_neg h1]
    rfl
theorem ext_count {p k : Str} (hn : (extT p k != Str.ofString "") = true) : Txt.count (extT p k) (Str.ofString ".") = 1 := by
  obtain ⟨pre, a, b, _, _, _, hb, _, el, _⟩ := ext_facts hn
  rw [dot_mk]
  have := count_cnt (extT p k) 46
  have e2 : (extT p k).cps.toList = 46 :: b := el
  rw [e2] at this
  refine this.trans ?_
  rw [cnt_cons, cnt_none hb, if_pos rfl]
  rfl
theorem ext_no_slash {p k : Str} (hk : 47 ∈ lst k) (hn : (extT p k != Str.ofString "") = true) : (!(Builtin.Str.occurrences (extT p k) (Str.ofString "/") 0 (extT p k).length 1).isEmpty) = false := by
  obtain ⟨pre, a, b, _, _, hf, hb, _, el, _⟩ := ext_facts hn
  rw [slash_mk]
  have := StrLaws.found_one (extT p k) 47
  refine this.trans ?_
  have e2 : (extT p k).cps.toList = 46 :: b := el
  rw [e2]
  refine decide_eq_false fun hm => ?_
  exact hf 47 (List.mem_append_right _ hm) hk
theorem root_end {p k : Str} (hk : 47 ∈ lst k) (hn : (extT p k != Str.ofString "") = true) : Txt.slice (rootT p k) (some (-1)) none ≠ Str.ofString "/" := by
  obtain ⟨pre, a, b, _, _, hf, hb, ha, el, er⟩ := ext_facts hn
  have hne : a ≠ [] := fun e => ha (by rw [e]; rfl)
  have hpos : 0 < a.length := by cases a with | nil => exact absurd rfl hne | cons => simp
  have hlen : (rootT p k).length = pre.length + a.length := by rw [len_lst, er, List.length_append]
  intro e
  have e3 : lst (Txt.slice (rootT p k) (some (-1)) none) = [47] := by rw [e, lst_slash]
  have : Txt.slice (rootT p k) (some (-1)) none = Txt.slice (rootT p k) (some (-1 + ((rootT p k).length : Int))) none := StrLaws.sliceText_neg_lo (rootT p k) none (by decide) (by omega)
  rw [this, slice_from (by omega) (by omega), lst_mk, er] at e3
  have hm : (47 : Nat) ∈ a := by
    have : 47 ∈ (pre ++ a).drop (-1 + ((rootT p k).length : Int)).toNat := by rw [e3]; exact .head _
    have hd : (-1 + ((rootT p k).length : Int)).toNat = pre.length + (a.length - 1) := by omega
    rw [hd, ← List.drop_drop, List.drop_left] at this
    exact List.mem_of_mem_drop this
  exact hf 47 (List.mem_append_left _ hm) hk
theorem strip_dots {x : Str} (h : (Txt.stripChars x (Str.ofString ".") != Str.ofString "") = true) : ¬ (lst x).all dotB = true := by
  intro hall
  have h := ne_empty h
  apply h
  have hg : ∀ c ∈ lst x, (Str.ofString ".").cps.contains c = true := by
    intro c hc
    have := List.all_eq_true.mp hall c hc
    have e : c = 46 := by unfold dotB at this; simpa using this
    subst e
    decide +kernel
  have hlo : stripLo (Str.ofString ".").cps.contains true x = x.length := by
    unfold stripLo
    rw [if_pos rfl, len_lst]
    have : List.takeWhile (Str.ofString ".").cps.contains (lst x) = lst x := PySem.NumText.takeWhile_all hg
    exact congrArg List.length this
  unfold Txt.stripChars Txt.stripBy
  split
  · rename_i hs
    unfold stripSame at hs
    rw [hlo] at hs
    have : x.length = 0 := by
      have := (Bool.and_eq_true _ _ ▸ hs).1
      simpa using this
    rw [len_lst] at this
    exact List.eq_nil_of_length_eq_zero this
  · unfold PySem.stripped
    rw [hlo]
    show (x.cps.extract x.length _).toList = []
    have : x.cps.size = x.length := rfl
    simp
    omega
/-- an end put behind a name that isn't only dots is told back -/
theorem told_back {r k : Str} (hk : 46 ∉ lst k ∧ 97 ∉ lst k ∧ 98 ∉ lst k) (h : ¬ (lst (lawName r k)).all dotB = true) :
    extT (r ++ Str.ofString ".ab") k = Str.ofString ".ab" ∧ rootT (r ++ Str.ofString ".ab") k = r := by
  have hf : ∀ c ∈ [46, 97, 98], c ∉ lst k := by
    intro c hc
    rcases List.mem_cons.mp hc with rfl | hc
    · exact hk.1
    rcases List.mem_cons.mp hc with rfl | hc
    · exact hk.2.1
    · rw [List.mem_singleton.mp hc]; exact hk.2.2
  have e1 : extT (r ++ Str.ofString ".ab") k = Str.ofString ".ab" := by
    refine lst_inj ?_
    show lst (mk (endL (nameL (lst k) (lst (r ++ Str.ofString ".ab"))))) = _
    rw [lst_mk, lst_append, lst_dab, nameL_app hf, endL_mid (a := nameL (lst k) (lst r)) (b := [97, 98]) (by intro x hx; unfold dotB; have : x = 97 ∨ x = 98 := by simpa using hx
                                                                                                             rcases this with rfl | rfl <;> rfl)]
    rw [lst_lawName] at h
    rw [if_neg h]
  refine ⟨e1, ?_⟩
  have := root_ext (r ++ Str.ofString ".ab") k
  rw [e1] at this
  refine lst_inj ?_
  have := congrArg lst this
  rw [lst_append, lst_append] at this
  exact List.append_cancel_right this
section
variable {prog : Program} {w : World} {A : Around} {E : Value → Shared → Prop} {s : Shared} {x y : Str} {t u : Tok} {Q : Value → Shared → Prop}
theorem eq_other (e : x ≠ y) (h : Q (.bool false) s) : wpAny (model prog w) A (compareOp .Eq (.str x t) (.str y u)) Q E s := by
  refine P.eq_str ?_
  have : (x.cps.toList == y.cps.toList) = false := by
    rw [beq_eq_false_iff_ne]
    intro h
    exact e (lst_inj h)
  rw [this]; exact h
theorem ne_pair {a b : Addr} {na nb : Nat} {t' u' : Tok} (ha : s.heap.get? a = some { cls := .type "tuple", data := .seq #[.str x t, .str y u] na }) (hb : s.heap.get? b = some { cls := .type "tuple", data := .seq #[.str x t', .str y u'] nb })
    (hx : Ok x) (hy : Ok y) (hu : A.units + 64 < cLine) (h : Q (.bool false) s) : wpAny (model prog w) A (compareOp .NotEq (.ref a) (.ref b)) Q E s := by
  have hs : SeqAt.shaped (.tuple [.str x, .str y]) = true := by
    have h1 := hx.strOk
    have h2 := hy.strOk
    simp [SeqAt.shaped, PyData.canLay0, PyData.canLayAll0, PyData.depth, PyData.depthAll, h1, h2]
  refine ne_dataH_same (da := .tuple [.str x, .str y]) (db := .tuple [.str x, .str y]) (Reads.tuple ha rfl rfl (.cons (.str _ _) (.cons (.str _ _) .nil))) (Reads.tuple hb rfl rfl (.cons (.str _ _) (.cons (.str _ _) .nil))) hs hs hu
    (SeqAt.noMix_of_shape (.tuple [.str, .str]) rfl _ _ rfl rfl) ?_
  have e : PySem.Spec.same (.tuple [.str x, .str y]) (.tuple [.str x, .str y]) = true := by simp [PySem.Spec.same, PySem.Spec.sameAll]
  rw [e]; exact h
theorem ne_int_same {a b : Int} (e : a = b) (h : Q (.bool false) s) : wpAny (model prog w) A (compareOp .NotEq (.int a t) (.int b u)) Q E s := by
  subst e
  refine P.ne_int ?_
  simpa [bne] using h
theorem in_no (e : (!(Builtin.Str.occurrences x y 0 x.length 1).isEmpty) = false) (h : Q (.bool false) s) : wpAny (model prog w) A (compareOp .In (.str y u) (.str x t)) Q E s := by
  refine P.in_str ?_
  rw [e]; exact h
end
theorem ok_dab : Ok (Str.ofString ".ab") := by unfold Ok; rw [lst_dab]; decide
theorem nil_no {us : List Str} (h : 0 < us.length) : ¬ us = [] := fun e => by rw [e] at h; exact absurd h (by decide)
theorem nil_yes {us : List Str} (h : ¬ 0 < us.length) : us = [] := List.eq_nil_of_length_eq_zero (by omega)
theorem slice_lcp {us : List Str} {S u : Str} (h : LCP us S) (hu : u ∈ us) : Txt.slice u none (some (S.length : Int)) = S := by
  obtain ⟨r, e⟩ := h.1 u hu
  have hl : S.length ≤ u.length := by
    have := congrArg List.length e
    rw [List.length_append] at this
    rw [len_lst, len_lst u]
    omega
  rw [slice_to (by omega) (by omega)]
  refine lst_inj ?_
  rw [lst_mk, ← e, Int.toNat_natCast, len_lst, List.take_left]
theorem lcp_len {us : List Str} {S : Str} {n : Nat} (h : LCP us S) (hl : ∀ u ∈ us, u.length ≤ n) (hp : 0 < us.length) : S.length ≤ n := by
  cases us with
  | nil => exact absurd hp (by decide)
  | cons u r =>
    obtain ⟨x, e⟩ := h.1 u (.head _)
    have := congrArg List.length e
    rw [List.length_append] at this
    have h2 := hl u (.head _)
    rw [len_lst] at h2 ⊢
    omega
theorem slice_any {x : Str} {j : Int} (h : 0 ≤ j) : Txt.slice x none (some j) = mk ((lst x).take j.toNat) := by
  rcases Int.le_total j x.length with hl | hl
  · exact slice_to h hl
  · rw [slice_to_beyond hl, slice_to (by omega) (Int.le_refl _)]
    congr 1
    rw [List.take_of_length_le (by rw [len_lst]; omega), List.take_of_length_le (by rw [← len_lst]; omega)]
theorem longer_are {us : List Str} {S : Str} {kys : List Value} (hL : LCP us S) (h : StrsAre kys (us.map fun u => Txt.slice u none (some ((S.length : Int) + 1)))) (hok : ∀ u ∈ us, Ok u) (hl : ∀ u ∈ us, u.length ≤ 58) (hp : 0 < us.length) (hsz : us.length ≤ 63) :
    ∃ ls, StrsAre kys ls ∧ (∀ u ∈ ls, Ok u) ∧ (∀ u ∈ ls, u.length ≤ 58) ∧ 0 < ls.length ∧ ls.length ≤ 63 ∧ ((S.length : Int) < ((ls.getD 0 Str.empty).length : Int) → ¬ ls.filter (fun u => u != ls.getD 0 Str.empty) = []) := by
  have hg : ∀ u : Str, Txt.slice u none (some ((S.length : Int) + 1)) = mk ((lst u).take (S.length + 1)) := fun u => by
    rw [slice_any (by omega)]
    congr 2
  refine ⟨_, h, ?_, ?_, by rw [List.length_map]; exact hp, by rw [List.length_map]; exact hsz, ?_⟩
  · intro v hv
    obtain ⟨u, hu, rfl⟩ := List.mem_map.mp hv
    rw [hg]
    exact (hok u hu).sub fun c hc => by rw [lst_mk] at hc; exact List.mem_of_mem_take hc
  · intro v hv
    obtain ⟨u, hu, rfl⟩ := List.mem_map.mp hv
    rw [hg, len_mk, List.length_take]
    have := hl u hu
    rw [len_lst] at this
    omega
  · intro hgt hnil
    have hall : ∀ u ∈ us, Txt.slice u none (some ((S.length : Int) + 1)) = (us.map fun u => Txt.slice u none (some ((S.length : Int) + 1))).getD 0 Str.empty := by
      intro u hu
      have := List.filter_eq_nil_iff.mp hnil _ (List.mem_map.mpr ⟨u, hu, rfl⟩)
      simpa [bne] using this
    generalize (us.map fun u => Txt.slice u none (some ((S.length : Int) + 1))).getD 0 Str.empty = l0 at *
    have hT : lst l0 <+: lst S := hL.2 _ fun u hu => by
      rw [← hall u hu, hg, lst_mk]
      exact List.take_prefix ..
    have := hT.length_le
    rw [← len_lst, ← len_lst] at this
    omega
theorem getD_len {ls : List Str} {n : Nat} (h : ∀ u ∈ ls, u.length ≤ n) (hp : 0 < ls.length) : (ls.getD 0 Str.empty).length ≤ n := by
  cases ls with
  | nil => exact absurd hp (by decide)
  | cons u r => exact h u (.head _)
theorem kept_none {us : List Str} {ys : List Value} (h : StrsAre ys (us.filter fun _ => false)) : ys = [] := by
  rw [show us.filter (fun _ => false) = [] from by simp] at h
  cases h
  rfl
theorem size_small {ys : List Value} {us : List Str} (h : StrsAre ys us) (hs : us.length ≤ 63) : ys.toArray.size ≤ sizeLine := by
  rw [List.size_toArray, StrsAre.length h]
  exact Nat.le_trans hs (by decide)
section
variable {prog : Program} {w : World} {A : Around} {E : Value → Shared → Prop} {s : Shared} {Q : Value → Shared → Prop}
theorem ne_empties {a b : Addr} (ha : s.heap.IsList a #[]) (hb : s.heap.IsList b #[]) (hu : A.units + 64 < cLine) (h : Q (.bool false) s) : wpAny (model prog w) A (compareOp .NotEq (.ref a) (.ref b)) Q E s :=
  Mine.ne_nil (xs := []) (us := []) ha hb .nil (fun _ h => nomatch h) hu h
end
theorem in_one : 47 ∈ lst (Str.ofString "/") := by decide +kernel
theorem in_two : 47 ∈ lst (Str.ofString "/\\") := by decide +kernel
theorem off_one : 46 ∉ lst (Str.ofString "/") ∧ 97 ∉ lst (Str.ofString "/") ∧ 98 ∉ lst (Str.ofString "/") := by decide +kernel
theorem off_two : 46 ∉ lst (Str.ofString "/\\") ∧ 97 ∉ lst (Str.ofString "/\\") ∧ 98 ∉ lst (Str.ofString "/\\") := by decide +kernel
end Mine
end
section
open PySem PySem.W PyProof.Rows PyProof

namespace Mine
theorem lcp_unique {us : List Str} {S C : Str} (h : LCP us S) (h' : LCP us C) : C = S := by
  have a := h.2 _ h'.1
  have b := h'.2 _ h.1
  exact lst_inj (a.eq_of_length (Nat.le_antisymm a.length_le b.length_le))
theorem lcp_members {us bs : List Str} {S C : Str} (hm : ∀ u, u ∈ bs ↔ u ∈ us) (h : LCP us S) (h' : LCP bs C) : C = S :=
  lcp_unique h ⟨fun u hu => h'.1 u ((hm u).mpr hu), fun T hT => h'.2 T fun u hu => hT u ((hm u).mp hu)⟩
theorem lcp_halves {us as bs : List Str} {S A B C : Str} (hm : ∀ u, u ∈ us ↔ u ∈ as ∨ u ∈ bs) (ha : LCP as A) (hb : LCP bs B) (h' : LCP [A, B] C) (h : LCP us S) : C = S := by
  have cA := h'.1 A (.head _)
  have cB := h'.1 B (.tail _ (.head _))
  refine lcp_unique h ⟨fun u hu => ?_, fun T hT => h'.2 T fun u hu => ?_⟩
  · rcases (hm u).mp hu with h | h
    · exact cA.trans (ha.1 u h)
    · exact cB.trans (hb.1 u h)
  · rcases List.mem_cons.mp hu with rfl | hu
    · exact ha.2 T fun x hx => hT x ((hm x).mpr (.inl hx))
    · rw [List.mem_singleton.mp hu]
      exact hb.2 T fun x hx => hT x ((hm x).mpr (.inr hx))
theorem lcp_ends {us : List Str} {S mn mx C : Str} (hn : mn ∈ us) (hx : mx ∈ us) (h1 : ∀ u ∈ us, ¬ lst u < lst mn) (h2 : ∀ u ∈ us, ¬ lst mx < lst u) (h' : LCP [mn, mx] C) (h : LCP us S) : C = S := by
  refine lcp_unique h ⟨fun u hu => between (h1 u hu) (h2 u hu) (h'.1 mn (.head _)) (h'.1 mx (.tail _ (.head _))), fun T hT => h'.2 T fun u hu => ?_⟩
  rcases List.mem_cons.mp hu with rfl | hu
  · exact hT _ hn
  · rw [List.mem_singleton.mp hu]; exact hT _ hx
theorem back_are {us : List Str} {kys : List Value} (h : CarriedAll kys ((rangeKs 0 us.length).map fun k => PyData.str (us.getD ((us.length : Int) - 1 - k).toNat Str.empty))) :
    ∃ bs, StrsAre kys bs ∧ (∀ u, u ∈ bs ↔ u ∈ us) ∧ bs.length = us.length := by
  refine ⟨(rangeKs 0 us.length).map fun k => us.getD ((us.length : Int) - 1 - k).toNat Str.empty, StrsAre.of_carried (by rw [List.map_map]; exact h), fun u => ?_, by rw [List.length_map, rangeKs_length]⟩
  rw [List.mem_map]
  constructor
  · rintro ⟨k, hk, rfl⟩
    obtain ⟨h0, h1⟩ := mem_rangeKs hk
    have hlt : ((us.length : Int) - 1 - k).toNat < us.length := by omega
    rw [List.getD_eq_getElem?_getD, List.getElem?_eq_getElem hlt]
    exact List.getElem_mem hlt
  · intro hu
    obtain ⟨i, hi, rfl⟩ := List.mem_iff_getElem.mp hu
    refine ⟨(us.length : Int) - 1 - (i : Int), ?_, ?_⟩
    · unfold rangeKs
      exact List.mem_map.mpr ⟨us.length - 1 - i, List.mem_range.mpr (by omega), by omega⟩
    · have e : ((us.length : Int) - 1 - ((us.length : Int) - 1 - (i : Int))).toNat = i := by omega
      rw [e, List.getD_eq_getElem?_getD, List.getElem?_eq_getElem hi]
      rfl
theorem back_are' {us : List Str} {kys : List Value} {n : Nat} (hn : n = us.length) (h : CarriedAll kys ((rangeKs 0 n).map fun k => PyData.str (us.getD ((us.length : Int) - 1 - k).toNat Str.empty))) :
    ∃ bs, StrsAre kys bs ∧ (∀ u, u ∈ bs ↔ u ∈ us) ∧ bs.length = us.length := by
  subst hn
  exact back_are h
theorem halves_members {us : List Str} (k : Nat) (u : Str) : u ∈ us ↔ u ∈ us.take k ∨ u ∈ us.drop k := by
  conv => lhs; rw [← List.take_append_drop k us]
  exact List.mem_append
theorem part_upto {vs : List Value} {us : List Str} (hi : StrsAre vs us) {k : Int} (h0 : 0 ≤ k) (h1 : k ≤ us.length) : slicePick vs.toArray none (some k) none = (vs.take k.toNat).toArray := by
  have ey : k = (k.toNat : Int) := by omega
  rw [ey, slicePick_upto vs.toArray k.toNat (by rw [List.size_toArray, StrsAre.length hi]; omega)]
  simp [← ey]
theorem part_from {vs : List Value} {us : List Str} (hi : StrsAre vs us) {k : Int} (h0 : 0 ≤ k) (h1 : k ≤ us.length) : slicePick vs.toArray (some k) none none = (vs.drop k.toNat).toArray := by
  have ey : k = (k.toNat : Int) := by omega
  rw [ey, slicePick_from vs.toArray k.toNat (by rw [List.size_toArray, StrsAre.length hi]; omega)]
  simp [← ey]
section
variable {prog : Program} {w : World} {A : Around} {E : Value → Shared → Prop} {s : Shared} {h₀ : Heap} {L : Addr} {m : Str → Option Value} {news : List (Addr × Obj)}
theorem slice_upto {value slice : Expr} {l : Addr} {vs : List Value} {us : List Str} {k : Int} {u : Tok} {Q : Value → Shared → Prop} (F : Fr h₀ L s.heap m) (N : News h₀ L s.heap news) (hl : s.heap.IsList l vs.toArray) (hi : StrsAre vs us) (h0 : 0 ≤ k) (h1 : k ≤ us.length) (hz : us.length ≤ 63)
    (h : ∀ D h', Fr h₀ L h' m → News h₀ L h' ((D, { cls := .type "list", data := .seq (vs.take k.toNat).toArray }) :: news) → (∀ q ∈ news, q.1 < D) → Q (.ref D) { s with heap := h' })
    (hs : subscripted slice false (.ref l) (.ref s.heap.objs.size) = operate [.ref s.heap.objs.size, .ref l] (getItem (.ref l) (.ref s.heap.objs.size)) := by with_unfolding_all rfl)
    (ht : ∀ r, letTemporaryGo value (.ref l) r = pure () := by intro _; with_unfolding_all rfl) :
    wpAny (model prog w) A (subscriptTail value slice (.ref l) (.ref s.heap.objs.size)) Q E { s with heap := s.heap.push { cls := .type "slice", data := .fields #[.none, .int k u, .none] } } := by
  refine slice_list F N hl .none (.int k u) (fun h' F' N' => ?_) hs ht (by rw [List.size_toArray, StrsAre.length hi]; exact Nat.le_trans hz (by decide))
  rw [part_upto hi h0 h1] at N'
  exact h _ h' F' N' fun q hq => Nat.lt_succ_of_lt (Heap.lt_size (N q hq).1)
theorem slice_rest {value slice : Expr} {l : Addr} {vs : List Value} {us : List Str} {k : Int} {u : Tok} {Q : Value → Shared → Prop} (F : Fr h₀ L s.heap m) (N : News h₀ L s.heap news) (hl : s.heap.IsList l vs.toArray) (hi : StrsAre vs us) (h0 : 0 ≤ k) (h1 : k ≤ us.length) (hz : us.length ≤ 63)
    (h : ∀ D h', Fr h₀ L h' m → News h₀ L h' ((D, { cls := .type "list", data := .seq (vs.drop k.toNat).toArray }) :: news) → (∀ q ∈ news, q.1 < D) → Q (.ref D) { s with heap := h' })
    (hs : subscripted slice false (.ref l) (.ref s.heap.objs.size) = operate [.ref s.heap.objs.size, .ref l] (getItem (.ref l) (.ref s.heap.objs.size)) := by with_unfolding_all rfl)
    (ht : ∀ r, letTemporaryGo value (.ref l) r = pure () := by intro _; with_unfolding_all rfl) :
    wpAny (model prog w) A (subscriptTail value slice (.ref l) (.ref s.heap.objs.size)) Q E { s with heap := s.heap.push { cls := .type "slice", data := .fields #[.int k u, .none, .none] } } := by
  refine slice_list F N hl (.int k u) .none (fun h' F' N' => ?_) hs ht (by rw [List.size_toArray, StrsAre.length hi]; exact Nat.le_trans hz (by decide))
  rw [part_from hi h0 h1] at N'
  exact h _ h' F' N' fun q hq => Nat.lt_succ_of_lt (Heap.lt_size (N q hq).1)
theorem add_texts {l b : Addr} {vs ws : List Value} {us bs : List Str} {Q : Value → Shared → Prop} (F : Fr h₀ L s.heap m) (N : News h₀ L s.heap news) (hl : s.heap.IsList l vs.toArray) (hb : s.heap.IsList b ws.toArray) (hi : StrsAre vs us) (hj : StrsAre ws bs) (hz : us.length ≤ 63) (hz' : bs.length ≤ 63)
    (h : ∀ D h', Fr h₀ L h' m → News h₀ L h' ((D, { cls := .type "list", data := .seq (vs ++ ws).toArray }) :: news) → (∀ q ∈ news, q.1 < D) → StrsAre (vs ++ ws) (us ++ bs) → Q (.ref D) { s with heap := h' }) :
    wpAny (model prog w) A (binaryOp .Add (.ref l) (.ref b)) Q E s :=
  add_lists F N hl hb (fun h' F' N' => h _ h' F' N' (fun q hq => Heap.lt_size (N q hq).1) (StrsAre.append' hi hj)) (by rw [StrsAre.length hi, StrsAre.length hj]; exact Nat.le_trans (Nat.add_le_add hz hz') (by decide))
end
section
variable {prog : Program} {w : World} {A : Around} {E : Value → Shared → Prop} {s : Shared} {Q : Value → Shared → Prop}
theorem len_texts {l : Addr} {vs : List Value} {us : List Str} (hl : s.heap.IsList l vs.toArray) (hi : StrsAre vs us) (hs : us.length ≤ 2 ^ 20)
    (h : Q (.int (us.length : Int) (s.toks + 1)) { s with toks := s.toks + 1 + 1 }) : wpAny (model prog w) A (call (.builtin "len") [.ref l]) Q E s := by
  refine len_list_made2 hl (StrsAre.carried hi) (by rw [List.length_map]; omega) ?_
  rw [List.length_map]
  exact h
end
end Mine
end
section
open PySem PySem.W PyProof.Rows PyProof

namespace Mine
def lawDef : List Stmt × Scope := match PySem.Challenge.pw_xc0039_01.main.body.getLast? with
  | some (.FunctionDef _ _ body _ _ _ sc _ _ _) => (body, sc)
  | _ => ([], default)
def lawEnv (L fa : Addr) (cd : Value) : Env := envOfC (PySem.Str.ofString "law") lawDef.2 L fa cd
theorem news4 {h₀ h : Heap} {L : Addr} {news : List (Addr × Obj)} {a b c d : Addr × Obj} (N : News h₀ L h news) (ha : a ∈ news) (hb : b ∈ news) (hc : c ∈ news) (hd : d ∈ news) : News h₀ L h [a, b, c, d] := by
  intro p hp
  rcases List.mem_cons.mp hp with rfl | hp
  · exact N _ ha
  rcases List.mem_cons.mp hp with rfl | hp
  · exact N _ hb
  rcases List.mem_cons.mp hp with rfl | hp
  · exact N _ hc
  rw [List.mem_singleton.mp hp]
  exact N _ hd
theorem two_len {a b : Str} (ha : a.length ≤ 58) (hb : b.length ≤ 58) : ∀ u ∈ [a, b], u.length ≤ 1000 := by
  intro u hu
  rcases List.mem_cons.mp hu with rfl | hu
  · omega
  · rw [List.mem_singleton.mp hu]; omega
theorem half_nn {n : Nat} : 0 ≤ (n : Int).fdiv 2 := Int.fdiv_nonneg (by omega) (by decide)
theorem half_le {n : Nat} : (n : Int).fdiv 2 ≤ n := by
  rw [Int.fdiv_eq_ediv_of_nonneg _ (by decide)]; omega
theorem take_pos {us : List Str} {k : Int} (h : 0 < k) (hp : 0 < us.length) : 0 < (us.take k.toNat).length := by
  rw [List.length_take]; omega
theorem drop_pos {us : List Str} (hp : 0 < us.length) : 0 < (us.drop ((us.length : Int).fdiv 2).toNat).length := by
  rw [List.length_drop, Int.fdiv_eq_ediv_of_nonneg _ (by decide)]; omega
theorem take_lens {us : List Str} {n : Nat} (k : Nat) (h : ∀ u ∈ us, u.length ≤ n) : ∀ u ∈ us.take k, u.length ≤ n := fun u hu => h u (List.mem_of_mem_take hu)
theorem drop_lens {us : List Str} {n : Nat} (k : Nat) (h : ∀ u ∈ us, u.length ≤ n) : ∀ u ∈ us.drop k, u.length ≤ n := fun u hu => h u (List.mem_of_mem_drop hu)
theorem lens_more {us : List Str} (h : ∀ u ∈ us, u.length ≤ 58) : ∀ u ∈ us, u.length ≤ 1000 := fun u hu => Nat.le_trans (h u hu) (by decide)
theorem take_size {us : List Str} {n : Nat} (k : Nat) (h : us.length ≤ 63) (hn : 63 ≤ n) : (us.take k).length ≤ n := by rw [List.length_take]; omega
theorem drop_size {us : List Str} {n : Nat} (k : Nat) (h : us.length ≤ 63) (hn : 63 ≤ n) : (us.drop k).length ≤ n := by rw [List.length_drop]; omega
theorem back_lens {us bs : List Str} {n : Nat} (hm : ∀ u, u ∈ bs ↔ u ∈ us) (h : ∀ u ∈ us, u.length ≤ n) : ∀ u ∈ bs, u.length ≤ n := fun u hu => h u ((hm u).mp hu)
theorem both_lens {us bs : List Str} {n : Nat} (hm : ∀ u, u ∈ bs ↔ u ∈ us) (h : ∀ u ∈ us, u.length ≤ n) : ∀ u ∈ us ++ bs, u.length ≤ n := fun u hu => (List.mem_append.mp hu).elim (h u) fun hb => h u ((hm u).mp hb)
theorem both_members {us bs : List Str} (hm : ∀ u, u ∈ bs ↔ u ∈ us) : ∀ u, u ∈ us ++ bs ↔ u ∈ us := fun u => ⟨fun hu => (List.mem_append.mp hu).elim id fun hb => (hm u).mp hb, fun hu => List.mem_append_left _ hu⟩
section
variable {prog : Program} {w : World} {A : Around} {E : Value → Shared → Prop} {s : Shared} {x y : Str} {t u : Tok} {Q : Value → Shared → Prop}
theorem eq_same (e : x = y) (h : Q (.bool true) s) : wpAny (model prog w) A (compareOp .Eq (.str x t) (.str y u)) Q E s := by
  subst e
  refine P.eq_str ?_
  simpa using h
end
end Mine
end
section
open PySem PySem.W PyProof.Rows PyProof
namespace Mine
local macro_rules | `(tactic| walk_at "k_contract") => `(tactic| ((case k1 => k_asm); (case k2 => k_asm); (case k3 => k_asm); (case k4 => k_asm); (case k5 => k_asm); (case k6 => first | exact rfl | assumption); (case k7 => ktr_room); (case k8 => ktr_units)))
local macro_rules | `(tactic| walk_at "k_at") => `(tactic| first | exact List.Mem.head _ | exact List.Mem.tail _ (List.Mem.head _) | exact List.Mem.tail _ (List.Mem.tail _ (List.Mem.head _)) | exact List.Mem.tail _ (List.Mem.tail _ (List.Mem.tail _ (List.Mem.head _))) | exact List.Mem.tail _ (List.Mem.tail _ (List.Mem.tail _ (List.Mem.tail _ (List.Mem.head _)))) | k_mem)
local macro_rules | `(tactic| walk_at "k_strs") => `(tactic| first | assumption | exact StrsAre.cons _ _ (StrsAre.cons _ _ StrsAre.nil))
local macro_rules | `(tactic| walk_at $s:str) => `(tactic| k_extra $s)
theorem st11 {w : World} {L fa : Addr} {cd : Value} {base h₀ : Heap} {m mg mb : Str → Option Value} {mean : ExcName → Option Value} {s : Shared} {Q : Flow → Shared → Prop} {E : Value → Shared → Prop} {D : Addr} {oP oS oL : Obj} {ys : List Value} {us : List Str} {S : Str} {tS : Tok}
    (B : Below callerA base [] h₀) (F : Fr h₀ L s.heap m) (X : (hd.heap_39 w.params).In h₀) (N : News h₀ L s.heap [(D, { cls := .type "list", data := .seq ys.toArray ys.length }), (L + 1 + 1 + 1, oL), (L + 1 + 1, oS), (L + 1, oP)]) (T : Top hd.view_39 (looseW hd.view_39 []) mean mg mb h₀)
    (dP : oP.data = .cell (some (.ref D))) (dS : oS.data = .cell (some (.str S tS))) (hlt : L + 1 + 1 + 1 ≠ D ∧ L + 1 + 1 ≠ D ∧ L + 1 ≠ D)
    (kSt : StrsAre ys us) (kLen : ∀ u ∈ us, u.length ≤ 58) (kSz : us.length ≤ 63) (kPos : 0 < us.length) (kL : LCP us S)
    (ret : ∀ m' news' h' tk', Fr h₀ L h' m' → News h₀ L h' news' → Q (.ret (.bool true)) { s with heap := h', toks := tk' }) :
    wpAny (model PySem.Challenge.rw_xc0039_01.row.prog w) (callerA.deeper (lawEnv L fa cd)) (execs (lawDef.1.drop 11) (lawEnv L fa cd)) Q E s := by
  revert X; k_fill; intro X
  unfold lawEnv
  conv in List.drop 11 lawDef.1 => whnf
  conv in (occs := *) lawDef.2 => all_goals whnf
  k_with_none
  k_with "call builtin:min" => ((rename Fr _ _ _ _ => lF'); (rename News _ _ _ _ => lN'); (refine min_strs_list rfl lF' lN' (by walk_at "k_at") kSt kPos ?_); (intro kHm kMn kTn kTkn kFn kNn kIn1 kIn2); (try dsimp only); (try k_fold))
  k_with "call builtin:max" => ((rename Fr _ _ _ _ => lF'); (rename News _ _ _ _ => lN'); (refine max_strs_list rfl lF' lN' (by walk_at "k_at") kSt kPos ?_); (intro kHx kMx kTx kTkx kFx kNx kIx1 kIx2); (try dsimp only); (try k_fold))
  k_with "call ref" => ((with_reducible show wpAny _ _ (call (Value.ref 101) _) _ _ _); k_dflt (refine' commonprefix_call ?k1 ?k2 ?k3 ?k4 ?k5 ?k6 ?k7 ?k8 ?k9 ?k10 ?k11 ?k12 ?k13 ?_; walk_at "k_contract"; (case k9 => walk_at "k_at"); (case k10 => walk_at "k_strs"); (case k11 => exact Nat.succ_pos _); (case k12 => exact two_len (kLen _ kIn1) (kLen _ kIx1)); (case k13 => exact (by decide : (2 : Nat) ≤ 1000))); intro S9 t9 h9 tk9 kL9 F9 N9; (try dsimp only); (try k_fold))
  k_with "compareOp Eq str str" => (refine eq_same (lcp_ends kIn1 kIx1 kIn2 kIx2 kL9 kL) ?_)
  k_steps
  exact ret _ _ _ _ F9 N9
end Mine
end
section
open PySem PySem.W PyProof.Rows PyProof
namespace Mine
local macro_rules | `(tactic| walk_at "k_contract") => `(tactic| ((case k1 => k_asm); (case k2 => k_asm); (case k3 => k_asm); (case k4 => k_asm); (case k5 => k_asm); (case k6 => first | exact rfl | assumption); (case k7 => ktr_room); (case k8 => ktr_units)))
local macro_rules | `(tactic| walk_at "k_at") => `(tactic| first | exact List.Mem.head _ | exact List.Mem.tail _ (List.Mem.head _) | exact List.Mem.tail _ (List.Mem.tail _ (List.Mem.head _)) | exact List.Mem.tail _ (List.Mem.tail _ (List.Mem.tail _ (List.Mem.head _))) | exact List.Mem.tail _ (List.Mem.tail _ (List.Mem.tail _ (List.Mem.tail _ (List.Mem.head _)))) | k_mem)
local macro_rules | `(tactic| walk_at "k_strs") => `(tactic| first | assumption | exact StrsAre.cons _ _ (StrsAre.cons _ _ StrsAre.nil))
local macro_rules | `(tactic| walk_at $s:str) => `(tactic| k_extra $s)
theorem st9 {w : World} {L fa : Addr} {cd : Value} {base h₀ : Heap} {m mg mb : Str → Option Value} {mean : ExcName → Option Value} {s : Shared} {Q : Flow → Shared → Prop} {E : Value → Shared → Prop} {D : Addr} {oP oS oL : Obj} {ys : List Value} {us : List Str} {S : Str} {tS : Tok}
    (B : Below callerA base [] h₀) (F : Fr h₀ L s.heap m) (X : (hd.heap_39 w.params).In h₀) (N : News h₀ L s.heap [(D, { cls := .type "list", data := .seq ys.toArray ys.length }), (L + 1 + 1 + 1, oL), (L + 1 + 1, oS), (L + 1, oP)]) (T : Top hd.view_39 (looseW hd.view_39 []) mean mg mb h₀)
    (dP : oP.data = .cell (some (.ref D))) (dS : oS.data = .cell (some (.str S tS))) (hlt : L + 1 + 1 + 1 ≠ D ∧ L + 1 + 1 ≠ D ∧ L + 1 ≠ D)
    (kSt : StrsAre ys us) (kLen : ∀ u ∈ us, u.length ≤ 58) (kSz : us.length ≤ 63) (kPos : 0 < us.length) (kL : LCP us S)
    (ret : ∀ m' news' h' tk', Fr h₀ L h' m' → News h₀ L h' news' → Q (.ret (.bool true)) { s with heap := h', toks := tk' }) :
    wpAny (model PySem.Challenge.rw_xc0039_01.row.prog w) (callerA.deeper (lawEnv L fa cd)) (execs (lawDef.1.drop 9) (lawEnv L fa cd)) Q E s := by
  revert X; k_fill; intro X
  unfold lawEnv
  conv in List.drop 9 lawDef.1 => whnf
  conv in (occs := *) lawDef.2 => all_goals whnf
  k_with_none
  k_with "execs cons" => ((with_reducible show wpAny _ _ (execs [Stmt.Return _ _] (envOfC _ _ _ _ _)) _ _ _); (rename Fr _ _ _ _ => lF'); (rename News _ _ _ _ => lN'); k_dflt (refine st11 B lF' X (news4 lN' (by walk_at "k_at") (by walk_at "k_at") (by walk_at "k_at") (by walk_at "k_at")) T dP dS hlt kSt kLen kSz kPos kL ?_); intro m9 n9 h9 tk9 F9 N9; exact ret _ _ _ _ F9 N9)
  k_with "call builtin:len" => (k_dflt (refine len_texts (News.isList (by assumption) (by walk_at "k_at")) kSt (by omega) ?_))
  k_with "subscriptTail Name Slice ref ref" => ((rename Fr _ _ _ _ => lF'); (rename News _ _ _ _ => lN'); k_dflt (refine slice_upto lF' lN' (News.isList lN' (by walk_at "k_at")) kSt half_nn half_le kSz ?_); intro kDs h9 F9 N9 l9; (try k_lt l9); (try dsimp only); (try k_fold))
  k_with "subscriptTail Name Slice ref ref" => ((rename Fr _ _ _ _ => lF'); (rename News _ _ _ _ => lN'); k_dflt (refine slice_rest lF' lN' (News.isList lN' (by walk_at "k_at")) kSt half_nn half_le kSz ?_); intro kDs h9 F9 N9 l9; (try k_lt l9); (try dsimp only); (try k_fold))
  k_with "call ref" => ((with_reducible show wpAny _ _ (call (Value.ref 101) _) _ _ _); k_dflt (refine' commonprefix_call ?k1 ?k2 ?k3 ?k4 ?k5 ?k6 ?k7 ?k8 ?k9 ?k10 ?k11 ?k12 ?k13 ?_; walk_at "k_contract"; (case k9 => walk_at "k_at"); (case k10 => first | exact StrsAre.take' kSt _ | exact StrsAre.drop' kSt _ | exact StrsAre.cons _ _ (StrsAre.cons _ _ StrsAre.nil)); (case k11 => first | exact take_pos (by assumption) kPos | exact drop_pos kPos | exact Nat.succ_pos _); (case k12 => first | exact take_lens _ (lens_more kLen) | exact drop_lens _ (lens_more kLen) | exact two_len (by assumption) (by assumption)); (case k13 => first | exact take_size _ kSz (by decide) | exact drop_size _ kSz (by decide) | exact (by decide : (2 : Nat) ≤ 1000))); intro S9 t9 h9 tk9 kL9 F9 N9; (try (have kSl : S9.length ≤ 58 := lcp_len kL9 (by first | exact take_lens _ kLen | exact drop_lens _ kLen) (by first | exact take_pos (by assumption) kPos | exact drop_pos kPos))); (try dsimp only); (try k_fold))
  k_with "compareOp NotEq str str" => (refine ne_same (lcp_halves (halves_members _) (by assumption) (by assumption) (by assumption) kL) ?_)
  k_steps
end Mine
end
section
open PySem PySem.W PyProof.Rows PyProof
namespace Mine
local macro_rules | `(tactic| walk_at "k_contract") => `(tactic| ((case k1 => k_asm); (case k2 => k_asm); (case k3 => k_asm); (case k4 => k_asm); (case k5 => k_asm); (case k6 => first | exact rfl | assumption); (case k7 => ktr_room); (case k8 => ktr_units)))
local macro_rules | `(tactic| walk_at "k_at") => `(tactic| first | exact List.Mem.head _ | exact List.Mem.tail _ (List.Mem.head _) | exact List.Mem.tail _ (List.Mem.tail _ (List.Mem.head _)) | exact List.Mem.tail _ (List.Mem.tail _ (List.Mem.tail _ (List.Mem.head _))) | exact List.Mem.tail _ (List.Mem.tail _ (List.Mem.tail _ (List.Mem.tail _ (List.Mem.head _)))) | k_mem)
local macro_rules | `(tactic| walk_at "k_strs") => `(tactic| first | assumption | exact StrsAre.cons _ _ (StrsAre.cons _ _ StrsAre.nil))
local macro_rules | `(tactic| walk_at $s:str) => `(tactic| k_extra $s)
theorem st8 {w : World} {L fa : Addr} {cd : Value} {base h₀ : Heap} {m mg mb : Str → Option Value} {mean : ExcName → Option Value} {s : Shared} {Q : Flow → Shared → Prop} {E : Value → Shared → Prop} {D : Addr} {oP oS oL : Obj} {ys : List Value} {us : List Str} {S : Str} {tS : Tok} {Db : Addr} {zs : List Value} {bs : List Str} {zn : Nat}
    (B : Below callerA base [] h₀) (F : Fr h₀ L s.heap (fun y => if y = PySem.Str.ofString "back" then some (.ref Db) else m y)) (X : (hd.heap_39 w.params).In h₀) (N : News h₀ L s.heap [(Db, { cls := .type "list", data := .seq zs.toArray zn }), (D, { cls := .type "list", data := .seq ys.toArray ys.length }), (L + 1 + 1 + 1, oL), (L + 1 + 1, oS), (L + 1, oP)]) (T : Top hd.view_39 (looseW hd.view_39 []) mean mg mb h₀)
    (dP : oP.data = .cell (some (.ref D))) (dS : oS.data = .cell (some (.str S tS))) (hlt : L + 1 + 1 + 1 ≠ D ∧ L + 1 + 1 ≠ D ∧ L + 1 ≠ D)
    (kSt : StrsAre ys us) (kLen : ∀ u ∈ us, u.length ≤ 58) (kSz : us.length ≤ 63) (kPos : 0 < us.length) (kL : LCP us S) (kStB : StrsAre zs bs) (kMemB : ∀ u, u ∈ bs ↔ u ∈ us) (kLenB : bs.length = us.length)
    (ret : ∀ m' news' h' tk', Fr h₀ L h' m' → News h₀ L h' news' → Q (.ret (.bool true)) { s with heap := h', toks := tk' }) :
    wpAny (model PySem.Challenge.rw_xc0039_01.row.prog w) (callerA.deeper (lawEnv L fa cd)) (execs (lawDef.1.drop 8) (lawEnv L fa cd)) Q E s := by
  revert X; k_fill; intro X
  unfold lawEnv
  conv in List.drop 8 lawDef.1 => whnf
  conv in (occs := *) lawDef.2 => all_goals whnf
  k_with_none
  k_with "execs cons" => ((with_reducible show wpAny _ _ (execs (Stmt.Assign _ _ _ :: _) (envOfC _ _ _ _ _)) _ _ _); (rename Fr _ _ _ _ => lF'); (rename News _ _ _ _ => lN'); k_dflt (refine st9 B lF' X (news4 lN' (by walk_at "k_at") (by walk_at "k_at") (by walk_at "k_at") (by walk_at "k_at")) T dP dS hlt kSt kLen kSz kPos kL ?_); intro m9 n9 h9 tk9 F9 N9; exact ret _ _ _ _ F9 N9)
  k_with "binaryOp Add ref ref" => ((rename Fr _ _ _ _ => lF'); (rename News _ _ _ _ => lN'); k_dflt (refine add_texts lF' lN' (News.isList lN' (by walk_at "k_at")) (News.isList lN' (by walk_at "k_at")) kSt kStB kSz (by omega) ?_); intro kDs h9 F9 N9 l9 kStS; (try k_lt l9); (try dsimp only); (try k_fold))
  k_with "call ref" => ((with_reducible show wpAny _ _ (call (Value.ref 101) _) _ _ _); k_dflt (refine' commonprefix_call ?k1 ?k2 ?k3 ?k4 ?k5 ?k6 ?k7 ?k8 ?k9 ?k10 ?k11 ?k12 ?k13 ?_; walk_at "k_contract"; (case k9 => walk_at "k_at"); (case k10 => first | exact kStB | exact kStS); (case k11 => first | omega | (rw [List.length_append]; omega)); (case k12 => first | exact back_lens kMemB (lens_more kLen) | exact both_lens kMemB (lens_more kLen)); (case k13 => first | omega | (rw [List.length_append]; omega))); intro S9 t9 h9 tk9 kL9 F9 N9; (try dsimp only); (try k_fold))
  k_with "compareOp NotEq str str" => (refine ne_same (by first | exact lcp_members kMemB kL kL9 | exact lcp_members (both_members kMemB) kL kL9) ?_)
  k_steps
end Mine
end
section
open PySem PySem.W PyProof.Rows PyProof
namespace Mine
local macro_rules | `(tactic| walk_at "k_contract") => `(tactic| ((case k1 => k_asm); (case k2 => k_asm); (case k3 => k_asm); (case k4 => k_asm); (case k5 => k_asm); (case k6 => first | exact rfl | assumption); (case k7 => ktr_room); (case k8 => ktr_units)))
local macro_rules | `(tactic| walk_at "k_at") => `(tactic| first | exact List.Mem.head _ | exact List.Mem.tail _ (List.Mem.head _) | exact List.Mem.tail _ (List.Mem.tail _ (List.Mem.head _)) | exact List.Mem.tail _ (List.Mem.tail _ (List.Mem.tail _ (List.Mem.head _))) | exact List.Mem.tail _ (List.Mem.tail _ (List.Mem.tail _ (List.Mem.tail _ (List.Mem.head _)))) | k_mem)
local macro_rules | `(tactic| walk_at "k_strs") => `(tactic| first | assumption | exact StrsAre.cons _ _ (StrsAre.cons _ _ StrsAre.nil))
local macro_rules | `(tactic| walk_at $s:str) => `(tactic| k_extra $s)
theorem st7 {w : World} {L fa : Addr} {cd : Value} {base h₀ : Heap} {m mg mb : Str → Option Value} {mean : ExcName → Option Value} {s : Shared} {Q : Flow → Shared → Prop} {E : Value → Shared → Prop} {D : Addr} {oP oS oL : Obj} {ys : List Value} {us : List Str} {S : Str} {tS : Tok}
    (B : Below callerA base [] h₀) (F : Fr h₀ L s.heap m) (X : (hd.heap_39 w.params).In h₀) (N : News h₀ L s.heap [(D, { cls := .type "list", data := .seq ys.toArray ys.length }), (L + 1 + 1 + 1, oL), (L + 1 + 1, oS), (L + 1, oP)]) (T : Top hd.view_39 (looseW hd.view_39 []) mean mg mb h₀)
    (dP : oP.data = .cell (some (.ref D))) (dS : oS.data = .cell (some (.str S tS))) (hlt : L + 1 + 1 + 1 ≠ D ∧ L + 1 + 1 ≠ D ∧ L + 1 ≠ D)
    (kSt : StrsAre ys us) (kLen : ∀ u ∈ us, u.length ≤ 58) (kSz : us.length ≤ 63) (kPos : 0 < us.length) (kL : LCP us S)
    (ret : ∀ m' news' h' tk', Fr h₀ L h' m' → News h₀ L h' news' → Q (.ret (.bool true)) { s with heap := h', toks := tk' }) :
    wpAny (model PySem.Challenge.rw_xc0039_01.row.prog w) (callerA.deeper (lawEnv L fa cd)) (execs (lawDef.1.drop 7) (lawEnv L fa cd)) Q E s := by
  revert X; k_fill; intro X
  unfold lawEnv
  conv in List.drop 7 lawDef.1 => whnf
  conv in (occs := *) lawDef.2 => all_goals whnf
  k_with_none
  k_with "execs cons" => ((with_reducible show wpAny _ _ (execs (Stmt.If _ _ _ _ :: _) (envOfC _ _ _ _ _)) _ _ _); (rename Fr _ _ _ _ => lF'); (rename News _ _ _ _ => lN'); k_dflt (refine' st8 (zn := kys3.length) (zs := kys3) (bs := bs) ?B ?F ?X ?N ?T ?dP ?dS hlt kSt kLen kSz kPos kL kStB kMemB kLenB ?_; (case B => exact B); (case N => exact lN'); (case F => exact lF'); (case X => exact X); (case T => exact T); (case dP => exact dP); (case dS => exact dS)); intro m9 n9 h9 tk9 F9 N9; exact ret _ _ _ _ F9 N9)
  k_with "call builtin:len" => (k_dflt (refine len_texts (News.isList (by assumption) (by walk_at "k_at")) kSt (by omega) ?_))
  k_with "exec Assign cons ListComp" => (k_dflt (refine LCg.Assign_ListComp_U (F₀ := by k_asm) (by rfl) (by with_unfolding_all rfl) (by with_unfolding_all rfl) (by decide) (by rfl) (by decide) (by rfl) (by rfl) (by rfl) ?_))
  k_with "CompSrc" => (k_dflt (refine LCg.CompSrc.range (n := us.length) (by rfl) (by k_asm) (by k_asm) (by assumption) (small_one (by omega) (by omega) (by omega) (by omega)) (rangeSize_nat _ _) (by rw [PySem.sizeLine_eq]; omega) ?_; intro g'; (refine' kct_range (fun k => us.getD ((us.length : Int) - 1 - k).toNat Str.empty) (fun kk9 t' I' oI' C' oC' D' m' ys' h' tk' E' hlo' hhi' hC' hx' F' N' off' ne' kMk => ?_) ?_); (all_goals (try (simp only [LCg.Off3, and_true] at off'))); (all_goals (try (show KPfDone _; intro kys3 kCaB kLnB; obtain ⟨bs, kStB, kMemB, kLenB⟩ := back_are kCaB; clear kCaB)))))
  k_with "subscriptTail Name BinOp ref int" => (k_dflt (refine item_strsA (News.isList (by assumption) (by walk_at "k_at")) kSt (by omega) (by omega) (by omega) ?_); intro tkI)
  k_with "KCtEl" => (k_dflt (exact ⟨rfl, _, rfl⟩))
  k_steps
end Mine
end
section
open PySem PySem.W PyProof.Rows PyProof
namespace Mine
local macro_rules | `(tactic| walk_at "k_contract") => `(tactic| ((case k1 => k_asm); (case k2 => k_asm); (case k3 => k_asm); (case k4 => k_asm); (case k5 => k_asm); (case k6 => first | exact rfl | assumption); (case k7 => ktr_room); (case k8 => ktr_units)))
local macro_rules | `(tactic| walk_at "k_at") => `(tactic| first | exact List.Mem.head _ | exact List.Mem.tail _ (List.Mem.head _) | exact List.Mem.tail _ (List.Mem.tail _ (List.Mem.head _)) | exact List.Mem.tail _ (List.Mem.tail _ (List.Mem.tail _ (List.Mem.head _))) | exact List.Mem.tail _ (List.Mem.tail _ (List.Mem.tail _ (List.Mem.tail _ (List.Mem.head _)))) | k_mem)
local macro_rules | `(tactic| walk_at "k_strs") => `(tactic| first | assumption | exact StrsAre.cons _ _ (StrsAre.cons _ _ StrsAre.nil))
local macro_rules | `(tactic| walk_at $s:str) => `(tactic| k_extra $s)
theorem st6 {w : World} {L fa : Addr} {cd : Value} {base h₀ : Heap} {m mg mb : Str → Option Value} {mean : ExcName → Option Value} {s : Shared} {Q : Flow → Shared → Prop} {E : Value → Shared → Prop} {D : Addr} {oP oS oL : Obj} {ys : List Value} {us : List Str} {S : Str} {tS : Tok} {Dl : Addr} {zs : List Value} {ls : List Str} {zn : Nat}
    (B : Below callerA base [] h₀) (F : Fr h₀ L s.heap m) (X : (hd.heap_39 w.params).In h₀) (N : News h₀ L s.heap [(Dl, { cls := .type "list", data := .seq zs.toArray zn }), (D, { cls := .type "list", data := .seq ys.toArray ys.length }), (L + 1 + 1 + 1, oL), (L + 1 + 1, oS), (L + 1, oP)]) (T : Top hd.view_39 (looseW hd.view_39 []) mean mg mb h₀)
    (dP : oP.data = .cell (some (.ref D))) (dS : oS.data = .cell (some (.str S tS))) (hlt : L + 1 + 1 + 1 ≠ D ∧ L + 1 + 1 ≠ D ∧ L + 1 ≠ D)
    (kSt : StrsAre ys us) (kLen : ∀ u ∈ us, u.length ≤ 58) (kSz : us.length ≤ 63) (kPos : 0 < us.length) (kL : LCP us S) (dL : oL.data = .cell (some (.ref Dl))) (hll : D ≠ Dl ∧ L + 1 + 1 + 1 ≠ Dl ∧ L + 1 + 1 ≠ Dl ∧ L + 1 ≠ Dl) (kStL : StrsAre zs ls) (kOkL : ∀ u ∈ ls, Ok u) (kLenL : ∀ u ∈ ls, u.length ≤ 58) (kPosL : 0 < ls.length) (kSzL : ls.length ≤ 63) (kNoL : (S.length : Int) < ((ls.getD 0 Str.empty).length : Int) → ¬ ls.filter (fun u => u != ls.getD 0 Str.empty) = [])
    (ret : ∀ m' news' h' tk', Fr h₀ L h' m' → News h₀ L h' news' → Q (.ret (.bool true)) { s with heap := h', toks := tk' }) :
    wpAny (model PySem.Challenge.rw_xc0039_01.row.prog w) (callerA.deeper (lawEnv L fa cd)) (execs (lawDef.1.drop 6) (lawEnv L fa cd)) Q E s := by
  revert X; k_fill; intro X
  unfold lawEnv
  conv in List.drop 6 lawDef.1 => whnf
  conv in (occs := *) lawDef.2 => all_goals whnf
  have kSl := lcp_len kL kLen kPos
  k_with_none
  k_with "execs cons" => ((with_reducible show wpAny _ _ (execs (Stmt.Assign _ (Expr.ListComp _ _ _ _) _ :: _) (envOfC _ _ _ _ _)) _ _ _); (rename Fr _ _ _ _ => lF'); (rename News _ _ _ _ => lN'); k_dflt (refine st7 B lF' X (news4 lN' (by walk_at "k_at") (by walk_at "k_at") (by walk_at "k_at") (by walk_at "k_at")) T dP dS hlt kSt kLen kSz kPos kL ?_); intro m9 n9 h9 tk9 F9 N9; exact ret _ _ _ _ F9 N9)
  k_with "subscriptTail Name Constant ref int" => (k_dflt (refine item_strsA (News.isList (by assumption) (by walk_at "k_at")) kStL (by decide) (by omega) (by decide) ?_); intro tkI; (try rw [show Int.toNat 0 = 0 from rfl]); (have kItemLen := getD_len kLenL kPosL))
  k_with "eval ListComp" => (k_dflt (refine LCt.ListComp_T (F₀ := by k_asm) (by with_unfolding_all rfl) (by decide) (by rfl) (by decide) (by rfl) ?_))
  k_with "CompSrcT" => (k_dflt (refine LCt.CompSrcT.ledger (by rfl) (by k_asm) (by k_asm) (by walk_at "k_at") (size_small kStL kSzL) ?_; intro g'; (refine' comp_kept (fun u => u != ls.getD 0 Str.empty) kStL (fun ku9 t' I' oI' C' oC' D' m' ys' h' tk' E' kIn9 hC' hx' F' N' off' ne' => ?_) (fun kys2 kStF2 => ?_)); (all_goals (try (simp only [LCg.Off3, and_true] at off')))))
  k_with "Told" => (exact told (by assumption) rfl (by with_unfolding_all rfl))
  k_with "Untold" => (exact untold (by first | rfl | assumption) (by with_unfolding_all rfl))
  k_with "compareOp Eq ref ref" => ((k_dflt (refine Mine.eq_nil (News.isList (by assumption) (by walk_at "k_at")) (News.isList (by assumption) (by walk_at "k_at")) (StrsAre.carried kStF2) (fun u hu => kOkL u (List.mem_filter.mp hu).1) (by ktr_units) ?_)); rw [decide_eq_false (kNoL (by assumption))])
  k_steps
end Mine
end
section
open PySem PySem.W PyProof.Rows PyProof
namespace Mine
local macro_rules | `(tactic| walk_at "k_contract") => `(tactic| ((case k1 => k_asm); (case k2 => k_asm); (case k3 => k_asm); (case k4 => k_asm); (case k5 => k_asm); (case k6 => first | exact rfl | assumption); (case k7 => ktr_room); (case k8 => ktr_units)))
local macro_rules | `(tactic| walk_at "k_at") => `(tactic| first | exact List.Mem.head _ | exact List.Mem.tail _ (List.Mem.head _) | exact List.Mem.tail _ (List.Mem.tail _ (List.Mem.head _)) | exact List.Mem.tail _ (List.Mem.tail _ (List.Mem.tail _ (List.Mem.head _))) | exact List.Mem.tail _ (List.Mem.tail _ (List.Mem.tail _ (List.Mem.tail _ (List.Mem.head _)))) | k_mem)
local macro_rules | `(tactic| walk_at "k_strs") => `(tactic| first | assumption | exact StrsAre.cons _ _ (StrsAre.cons _ _ StrsAre.nil))
local macro_rules | `(tactic| walk_at $s:str) => `(tactic| k_extra $s)
theorem news5 {h₀ h : Heap} {L : Addr} {news : List (Addr × Obj)} {a b c d e : Addr × Obj} (N : News h₀ L h news) (ha : a ∈ news) (hb : b ∈ news) (hc : c ∈ news) (hd : d ∈ news) (he : e ∈ news) : News h₀ L h [a, b, c, d, e] := by
  intro p hp
  rcases List.mem_cons.mp hp with rfl | hp
  · exact N _ ha
  exact news4 N hb hc hd he p hp
theorem st5 {w : World} {L fa : Addr} {cd : Value} {base h₀ : Heap} {m mg mb : Str → Option Value} {mean : ExcName → Option Value} {s : Shared} {Q : Flow → Shared → Prop} {E : Value → Shared → Prop} {D : Addr} {oP oS oL : Obj} {ys : List Value} {us : List Str} {S : Str} {tS : Tok}
    (B : Below callerA base [] h₀) (F : Fr h₀ L s.heap m) (X : (hd.heap_39 w.params).In h₀) (N : News h₀ L s.heap [(D, { cls := .type "list", data := .seq ys.toArray ys.length }), (L + 1 + 1 + 1, oL), (L + 1 + 1, oS), (L + 1, oP)]) (T : Top hd.view_39 (looseW hd.view_39 []) mean mg mb h₀)
    (dP : oP.data = .cell (some (.ref D))) (dS : oS.data = .cell (some (.str S tS))) (dL : oL.data = .cell none) (hlt : L + 1 + 1 + 1 ≠ D ∧ L + 1 + 1 ≠ D ∧ L + 1 ≠ D)
    (kSt : StrsAre ys us) (kOk : ∀ u ∈ us, Ok u) (kLen : ∀ u ∈ us, u.length ≤ 58) (kSz : us.length ≤ 63) (kPos : 0 < us.length) (kL : LCP us S)
    (ret : ∀ m' news' h' tk', Fr h₀ L h' m' → News h₀ L h' news' → Q (.ret (.bool true)) { s with heap := h', toks := tk' }) :
    wpAny (model PySem.Challenge.rw_xc0039_01.row.prog w) (callerA.deeper (lawEnv L fa cd)) (execs (lawDef.1.drop 5) (lawEnv L fa cd)) Q E s := by
  have kSl := lcp_len kL kLen kPos
  revert X; k_fill; intro X
  unfold lawEnv
  conv in List.drop 5 lawDef.1 => whnf
  conv in (occs := *) lawDef.2 => all_goals whnf
  k_with_none
  k_with "execs cons" => ((with_reducible show wpAny _ _ (execs (Stmt.If _ _ _ _ :: _) (envOfC _ _ _ _ _)) _ _ _); (rename Fr _ _ _ _ => lF'); (rename News _ _ _ _ => lN'); k_dflt (refine' st6 (zn := kys.length) (zs := kys) (ls := ls) ?B ?F ?X ?N ?T ?dP ?dS hlt kSt kLen kSz kPos kL ?dL ?hll kStL kOkL kLenL kPosL kSzL kNoL ?_; (case B => exact B); (case N => exact news5 lN' (by walk_at "k_at") (by walk_at "k_at") (by walk_at "k_at") (by walk_at "k_at") (by walk_at "k_at")); (case F => exact lF'); (case X => exact X); (case T => exact T); (case dP => exact dP); (case dS => exact dS); (case dL => assumption); (case hll => assumption)); intro m9 n9 h9 tk9 F9 N9; exact ret _ _ _ _ F9 N9)
  k_with "eval ListComp" => (k_dflt (refine LCg.ListComp_U (F₀ := by k_asm) (by with_unfolding_all rfl) (by decide) (by rfl) (by decide) (by rfl) ?_))
  k_with "CompSrc" => (k_dflt (refine LCg.CompSrc.ledger (by rfl) (by k_asm) (by k_asm) (by walk_at "k_at") (size_small kSt kSz) ?_; intro g'; (refine' comp_texts (fun u => Txt.slice u none (some ((S.length : Int) + 1))) kSt (fun ku9 t' I' oI' C' oC' D' m' ys' h' tk' E' kIn9 hC' hx' F' N' off' ne' => ?_) (fun kys kStF => ?_)); (all_goals (try (simp only [LCg.Off3, and_true] at off'))); (all_goals (try (have kL58 := kLen ku9 kIn9))); (all_goals (try (obtain ⟨ls, kStL, kOkL, kLenL, kPosL, kSzL, kNoL⟩ := longer_are kL kStF kOk kLen kPos kSz; clear kStF)))))
  k_with "KCtEl" => (k_dflt (exact ⟨rfl, _, rfl⟩))
  k_steps
end Mine
end
section
open PySem PySem.W PyProof.Rows PyProof
namespace Mine
local macro_rules | `(tactic| walk_at "k_contract") => `(tactic| ((case k1 => k_asm); (case k2 => k_asm); (case k3 => k_asm); (case k4 => k_asm); (case k5 => k_asm); (case k6 => first | exact rfl | assumption); (case k7 => ktr_room); (case k8 => ktr_units)))
local macro_rules | `(tactic| walk_at "k_at") => `(tactic| first | exact List.Mem.head _ | exact List.Mem.tail _ (List.Mem.head _) | exact List.Mem.tail _ (List.Mem.tail _ (List.Mem.head _)) | exact List.Mem.tail _ (List.Mem.tail _ (List.Mem.tail _ (List.Mem.head _))) | exact List.Mem.tail _ (List.Mem.tail _ (List.Mem.tail _ (List.Mem.tail _ (List.Mem.head _)))) | k_mem)
local macro_rules | `(tactic| walk_at "k_strs") => `(tactic| first | assumption | exact StrsAre.cons _ _ (StrsAre.cons _ _ StrsAre.nil))
local macro_rules | `(tactic| walk_at $s:str) => `(tactic| k_extra $s)
theorem st4 {w : World} {L fa : Addr} {cd : Value} {base h₀ : Heap} {m mg mb : Str → Option Value} {mean : ExcName → Option Value} {s : Shared} {Q : Flow → Shared → Prop} {E : Value → Shared → Prop} {D : Addr} {oP oS oL : Obj} {ys : List Value} {us : List Str} {S : Str} {tS : Tok}
    (B : Below callerA base [] h₀) (F : Fr h₀ L s.heap m) (X : (hd.heap_39 w.params).In h₀) (N : News h₀ L s.heap [(D, { cls := .type "list", data := .seq ys.toArray ys.length }), (L + 1 + 1 + 1, oL), (L + 1 + 1, oS), (L + 1, oP)]) (T : Top hd.view_39 (looseW hd.view_39 []) mean mg mb h₀)
    (dP : oP.data = .cell (some (.ref D))) (dS : oS.data = .cell (some (.str S tS))) (dL : oL.data = .cell none) (hlt : L + 1 + 1 + 1 ≠ D ∧ L + 1 + 1 ≠ D ∧ L + 1 ≠ D)
    (kSt : StrsAre ys us) (kOk : ∀ u ∈ us, Ok u) (kLen : ∀ u ∈ us, u.length ≤ 58) (kSz : us.length ≤ 63) (kPos : 0 < us.length) (kL : LCP us S)
    (ret : ∀ m' news' h' tk', Fr h₀ L h' m' → News h₀ L h' news' → Q (.ret (.bool true)) { s with heap := h', toks := tk' }) :
    wpAny (model PySem.Challenge.rw_xc0039_01.row.prog w) (callerA.deeper (lawEnv L fa cd)) (execs (lawDef.1.drop 4) (lawEnv L fa cd)) Q E s := by
  have kSl := lcp_len kL kLen kPos
  revert X; k_fill; intro X
  unfold lawEnv
  conv in List.drop 4 lawDef.1 => whnf
  conv in (occs := *) lawDef.2 => all_goals whnf
  k_with_none
  k_with "execs cons" => ((with_reducible show wpAny _ _ (execs (Stmt.Assign [Expr.Name _ _] (Expr.ListComp _ _ _ _) _ :: _) (envOfC _ _ _ _ _)) _ _ _); (rename Fr _ _ _ _ => lF'); (rename News _ _ _ _ => lN'); k_dflt (refine' st5 ?B ?F ?X ?N ?T dP dS dL hlt kSt kOk kLen kSz kPos kL ?_; (case B => exact B); (case N => exact news4 lN' (by walk_at "k_at") (by walk_at "k_at") (by walk_at "k_at") (by walk_at "k_at")); (case F => exact lF'); (case X => exact X); (case T => exact T)); intro m9 n9 h9 tk9 F9 N9; exact ret _ _ _ _ F9 N9)
  k_with "eval ListComp" => (k_dflt (refine LCt.ListComp_T (F₀ := by k_asm) (by with_unfolding_all rfl) (by decide) (by rfl) (by decide) (by rfl) ?_))
  k_with "CompSrcT" => (k_dflt (refine LCt.CompSrcT.ledger (by rfl) (by k_asm) (by k_asm) (by walk_at "k_at") (size_small kSt kSz) ?_; intro g'; (refine' comp_kept (fun _ => false) kSt (fun ku9 t' I' oI' C' oC' D' m' ys' h' tk' E' kIn9 hC' hx' F' N' off' ne' => ?_) (fun kys kStF => ?_)); (all_goals (try (simp only [LCg.Off3, and_true] at off'))); (all_goals (try (have kL58 := kLen ku9 kIn9))); (all_goals (try (have kYs := kept_none kStF; subst kYs; clear kStF)))))
  k_with "Told" => (exact told (by assumption) rfl (by with_unfolding_all rfl))
  k_with "Untold" => (exact untold (by first | rfl | assumption) (by with_unfolding_all rfl))
  k_with "compareOp NotEq str str" => (refine ne_same (slice_lcp (by assumption) (by assumption)) ?_)
  k_with "compareOp NotEq ref ref" => (k_dflt (refine ne_empties (News.isList (by assumption) (by walk_at "k_at")) (News.isList (by assumption) (by walk_at "k_at")) (by ktr_units) ?_))
  k_steps
end Mine
end
section
open PySem PySem.W PyProof.Rows PyProof
namespace Mine
local macro_rules | `(tactic| walk_at "k_contract") => `(tactic| ((case k1 => k_asm); (case k2 => k_asm); (case k3 => k_asm); (case k4 => k_asm); (case k5 => k_asm); (case k6 => first | exact rfl | assumption); (case k7 => ktr_room); (case k8 => ktr_units)))
local macro_rules | `(tactic| walk_at "k_at") => `(tactic| first | exact List.Mem.head _ | exact List.Mem.tail _ (List.Mem.head _) | exact List.Mem.tail _ (List.Mem.tail _ (List.Mem.head _)) | exact List.Mem.tail _ (List.Mem.tail _ (List.Mem.tail _ (List.Mem.head _))) | exact List.Mem.tail _ (List.Mem.tail _ (List.Mem.tail _ (List.Mem.tail _ (List.Mem.head _)))) | k_mem)
local macro_rules | `(tactic| walk_at "k_strs") => `(tactic| first | assumption | exact StrsAre.cons _ _ (StrsAre.cons _ _ StrsAre.nil))
local macro_rules | `(tactic| walk_at $s:str) => `(tactic| k_extra $s)
theorem st2 {w : World} {L fa : Addr} {cd : Value} {base h₀ : Heap} {m mg mb : Str → Option Value} {mean : ExcName → Option Value} {s : Shared} {Q : Flow → Shared → Prop} {E : Value → Shared → Prop} {D : Addr} {oP oS oL : Obj} {ys : List Value} {us : List Str}
    (B : Below callerA base [] h₀) (F : Fr h₀ L s.heap m) (X : (hd.heap_39 w.params).In h₀) (N : News h₀ L s.heap [(D, { cls := .type "list", data := .seq ys.toArray ys.length }), (L + 1 + 1 + 1, oL), (L + 1 + 1, oS), (L + 1, oP)]) (T : Top hd.view_39 (looseW hd.view_39 []) mean mg mb h₀)
    (dP : oP.data = .cell (some (.ref D))) (dS : oS.data = .cell none) (dL : oL.data = .cell none) (hlt : L + 1 + 1 + 1 ≠ D ∧ L + 1 + 1 ≠ D ∧ L + 1 ≠ D)
    (kSt : StrsAre ys us) (kOk : ∀ u ∈ us, Ok u) (kLen : ∀ u ∈ us, u.length ≤ 58) (kSz : us.length ≤ 63)
    (ret : ∀ m' news' h' tk', Fr h₀ L h' m' → News h₀ L h' news' → Q (.ret (.bool true)) { s with heap := h', toks := tk' }) :
    wpAny (model PySem.Challenge.rw_xc0039_01.row.prog w) (callerA.deeper (lawEnv L fa cd)) (execs (lawDef.1.drop 2) (lawEnv L fa cd)) Q E s := by
  revert X; k_fill; intro X
  unfold lawEnv
  conv in List.drop 2 lawDef.1 => whnf
  conv in (occs := *) lawDef.2 => all_goals whnf
  by_cases kPos : 0 < us.length
  all_goals (try k_fold)
  k_with_none
  k_with "execs cons" => ((with_reducible show wpAny _ _ (execs (Stmt.If (Expr.Compare (Expr.ListComp _ _ _ _) _ _ _) _ _ _ :: _) (envOfC _ _ _ _ _)) _ _ _); (rename Fr _ _ _ _ => lF'); (rename News _ _ _ _ => lN'); k_dflt (refine' st4 (S := S9) ?B ?F ?X ?N ?T dP ?dS dL hlt kSt kOk kLen kSz kPos kL9 ?_; (case B => exact B); (case N => exact news4 lN' (by walk_at "k_at") (by walk_at "k_at") (by walk_at "k_at") (by walk_at "k_at")); (case F => exact lF'); (case X => exact X); (case T => exact T); (case dS => assumption)); intro m9 n9 h9 tk9 F9 N9; exact ret _ _ _ _ F9 N9)
  k_with "call ref" => ((with_reducible show wpAny _ _ (call (Value.ref 101) _) _ _ _); (have kGuard : ¬ 0 < us.length := by assumption); k_dflt (refine' commonprefix_nil ?k1 ?k2 ?k3 ?k4 ?k5 ?k6 ?k7 ?k8 ?k9 ?k10 ?k11 ?_; walk_at "k_contract"; (case k9 => walk_at "k_at"); (case k10 => exact kSt); (case k11 => assumption)); intro t9 h9 tk9 F9 N9; (try dsimp only); (try k_fold))
  k_with "call ref" => ((with_reducible show wpAny _ _ (call (Value.ref 101) _) _ _ _); (have kGuard : 0 < us.length := by assumption); k_dflt (refine' commonprefix_call ?k1 ?k2 ?k3 ?k4 ?k5 ?k6 ?k7 ?k8 ?k9 ?k10 ?k11 ?k12 ?k13 ?_; walk_at "k_contract"; (case k9 => walk_at "k_at"); (case k10 => exact kSt); (case k11 => assumption); (case k12 => exact lens_more kLen); (case k13 => omega)); intro S9 t9 h9 tk9 kL9 F9 N9; (try dsimp only); (try k_fold))
  k_with "compareOp Eq ref ref" => ((k_dflt (refine Mine.eq_nil (News.isList (by assumption) (by walk_at "k_at")) (News.isList (by assumption) (by walk_at "k_at")) (StrsAre.carried kSt) kOk (by ktr_units) ?_)); (first | rw [decide_eq_false (nil_no (by assumption))] | rw [decide_eq_true (nil_yes (by assumption))]))
  k_steps
  rename Fr _ _ _ _ => lF'
  rename News _ _ _ _ => lN'
  simp only [beq_self_eq_true]
  exact ret _ _ _ _ lF' lN'
end Mine
end
open PySem PySem.W PyProof.Rows PyProof Mine
local macro_rules | `(tactic| walk_at "k_contract") => `(tactic| ((case k1 => k_asm); (case k2 => k_asm); (case k3 => k_asm); (case k4 => k_asm); (case k5 => k_asm); (case k6 => first | exact rfl | assumption); (case k7 => ktr_room); (case k8 => ktr_units)))
local macro_rules | `(tactic| walk_at "k_short") => `(tactic| first | omega | (rw [Str.length_append, len_dab]; omega) | exact len_slash | exact len_both)
local macro_rules | `(tactic| walk_at "k_okay") => `(tactic| first | assumption | exact (root_ok _ (by assumption)).1)
local macro_rules | `(tactic| walk_at $s:str) => `(tactic| k_extra $s)
theorem PySem.Challenge.cw_xc0039_01_holds : PySem.Challenge.rw_xc0039_01.Holds := by
  refine hd ?_
  k_go0
  all_goals (try k_fold)
  k_with_none
  k_with "call ref" => ((with_reducible show wpAny _ _ (call (Value.ref 115) _) _ _ _); k_dflt (refine' law_path_call ?k1 ?k2 ?k3 ?k4 ?k5 ?k6 ?k7 ?k8 ?_; walk_at "k_contract"); intro t9 h9 tk9 F9 N9; (try dsimp only); (try k_fold))
  k_with "exec For Name Name cons nil" => ((rename Fr _ _ _ _ => F'); refine For_invVF F' (by rfl) (by rfl) ?_)
  k_with "call ref" => ((with_reducible show wpAny _ _ (call (Value.ref 122) _) _ _ _); k_dflt (refine' law_name_call ?k1 ?k2 ?k3 ?k4 ?k5 ?k6 ?k7 ?k8 ?k9 ?k10 ?_; walk_at "k_contract"; (case k9 => walk_at "k_short"); (case k10 => walk_at "k_short")); intro t9 h9 tk9 F9 N9; (have n8 := lawName_len (rootT ku (Str.ofString "/")) (Str.ofString "/")); (have n9 := lawName_len (rootT ku (Str.ofString "/\\")) (Str.ofString "/\\")); (try dsimp only); (try k_fold))
  k_with "call ref" => ((with_reducible show wpAny _ _ (call (Value.ref 127) _) _ _ _); k_dflt (refine' law_end_call ?k1 ?k2 ?k3 ?k4 ?k5 ?k6 ?k7 ?k8 ?k9 ?k10 ?k11 ?_; walk_at "k_contract"; (case k9 => walk_at "k_short"); (case k10 => walk_at "k_short"); (case k11 => walk_at "k_okay")); intro t9 h9 tk9 F9 N9; (try dsimp only); (try k_fold))
  k_with "call ref" => ((with_reducible show wpAny _ _ (call (Value.ref 108) _) _ _ _); k_dflt (refine' splitext_none_call (k := Str.ofString "/") ?k1 ?k2 ?k3 ?k4 ?k5 ?k6 ?k7 ?k8 ?k9 lst_slash ?_; walk_at "k_contract"; (case k9 => walk_at "k_short")); intro D9 t9 u9 h9 tk9 F9 N9 l9; (try k_lt l9); (obtain ⟨r9, q9⟩ := root_len ku (Str.ofString "/")); (try (have e9 := told_back (r := rootT ku (Str.ofString "/")) off_one (strip_dots (by assumption)); rw [e9.1, e9.2] at N9)); (try dsimp only); (try k_fold))
  k_with "call ref" => ((with_reducible show wpAny _ _ (call (Value.ref 108) _) _ _ _); k_dflt (refine' splitext_back_call (k := Str.ofString "/\\") ?k1 ?k2 ?k3 ?k4 ?k5 ?k6 ?k7 ?k8 ?k9 lst_both ?_; walk_at "k_contract"; (case k9 => walk_at "k_short")); intro D9 t9 u9 h9 tk9 F9 N9 l9; (try k_lt l9); (obtain ⟨r9, q9⟩ := root_len ku (Str.ofString "/\\")); (try (have e9 := told_back (r := rootT ku (Str.ofString "/\\")) off_two (strip_dots (by assumption)); rw [e9.1, e9.2] at N9)); (try dsimp only); (try k_fold))
  k_with "compareOp NotEq str str" => (refine ne_same (by first | exact root_ext _ _ | exact ext_is _ _ | exact ext_first (by assumption) | exact slice_lcp (by assumption) (by assumption)) ?_)
  k_with "compareOp NotEq int int" => (refine ne_int_same (ext_count (by assumption)) ?_)
  k_with "compareOp In str str" => (refine in_no (ext_no_slash (by first | exact in_one | exact in_two) (by assumption)) ?_)
  k_with "compareOp Eq str str" => (refine eq_other (root_end (by first | exact in_one | exact in_two) (by assumption)) ?_)
  k_with "compareOp NotEq ref ref" => ((rename News _ _ _ _ => lN'); refine ne_pair (News.get lN' (List.Mem.tail _ (List.Mem.head _))) (News.get lN' (List.Mem.head _)) (root_ok _ kOu).1 ok_dab (by ktr_units) ?_)
  k_with "pyIter ref" => ((rename Fr _ _ _ _ => lF'); (rename News _ _ _ _ => lN'); (refine two_each [Str.ofString "strokes", Str.ofString "root", Str.ofString "end", Str.ofString "name"] rfl (List.Mem.head _) lF' lN' ?kone ?ktwo ?kdone2); (case' kone => (intro kv2 kh2 ktk2 kI2 koI2 kLtI2 kClsI2 kF2 kN2; (try k_lt kLtI2))); (case' ktwo => (intro kv2 kh2 ktk2 kI2 koI2 kLtI2 kClsI2 kF2 kN2; (try k_lt kLtI2))); (case' kdone2 => intro kv2 kh2 ktk2 kF2 kN2); all_goals (try dsimp only); all_goals (try k_fold))
  k_with "pyIter ref" => ((rename CarriedAll _ _ => kCa); obtain ⟨us, kSt, kOk, kLen, kSz⟩ := paths_are kCa (by assumption); clear kCa; (rename Fr _ _ _ _ => lF'); (rename News _ _ _ _ => lN'); (refine strs_each [Str.ofString "second", Str.ofString "strokes", Str.ofString "root", Str.ofString "end", Str.ofString "name"] rfl (List.Mem.head _) kSt lF' lN' ?kturn ?kdone); (case' kturn => (intro ku kt kv kh ktk kI koI kIn kLtI kClsI kFt kNt; (try k_lt kLtI); have kOu := kOk ku kIn; have kLu := kLen ku kIn; (refine wpAny_execs_cons ?_); (refine For_invVF kFt (by rfl) (by rfl) ?_); (try dsimp only); (try k_fold))); (case' kdone => (intro kvd khd ktkd kFd kNd; (try dsimp only); (try k_fold); k_dflt (refine' st2 ?k1 ?k2 ?k3 ?k4 ?k5 ?d1 ?d2 ?d3 ?d4 kSt kOk kLen kSz ?_; (case k1 => k_asm); (case k2 => exact kFd); (case k3 => k_asm); (case k4 => exact kNd); (case k5 => k_asm); (case d1 => assumption); (case d2 => assumption); (case d3 => assumption); (case d4 => assumption)); intro m9 n9 h9 tk9 F9 N9)))
  k_steps
