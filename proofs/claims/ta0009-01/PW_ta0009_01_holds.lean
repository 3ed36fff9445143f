import PyProof.Rows.All
import Wide.All
import OpenK.AllK
import Wide.FinOn
import Lean
import PySem.Challenge.RW_ta0009_01
set_option Elab.async false
set_option compiler.extract_closed false
section LTop
open PySem PySem.W PyProof.Rows
namespace Mine
set_option maxRecDepth 100000
set_option maxHeartbeats 8000000
open_top hd for PySem.Challenge.rw_ta0009_01
end Mine
end LTop
theorem Mine.walk_plain : True := by
  w_top off
  exact trivial
section B0
open PySem PySem.W PyProof.Rows PySem.Calls PySem.Spec PyProof.V PySem.SeqAt
namespace Mine
abbrev sg (c : Nat) : Str := ⟨#[c]⟩
noncomputable def sgs (s : Str) : List Str := s.cps.toList.map sg
theorem sgs_inj {a b : Str} : sgs a = sgs b ↔ a = b := by
  constructor
  · intro h
    have h2 : a.cps.toList = b.cps.toList := by
      have : Function.Injective sg := by intro x y e; simpa [sg] using e
      exact (List.map_inj_right (fun x y e => this e)).mp h
    cases a; cases b; simp only [Str.mk.injEq]; exact Array.toList_inj.mp h2
  · intro h; rw [h]
noncomputable def SeqV (k : Bool) (news : List (Addr × Obj)) (v : Value) (xs : List Str) : Prop :=
  match k with
  | true => ∃ l n vs, v = .ref l ∧ (l, listOf (List.toArray vs) n) ∈ news ∧ StrsAre vs xs
  | false => ∃ s t, v = .str s t ∧ xs = sgs s
theorem SeqV.mono {k : Bool} {news news' : List (Addr × Obj)} {v : Value} {xs : List Str} (h : SeqV k news v xs) (sub : ∀ p ∈ news, p ∈ news') : SeqV k news' v xs := by
  cases k with
  | true => obtain ⟨l, n, vs, e, hm, hs⟩ := h; exact ⟨l, n, vs, e, sub _ hm, hs⟩
  | false => exact h

noncomputable def lslice {α : Type} (l : List α) (lo hi : Option Int) : List α := (l.drop (lo.elim 0 (clipAt l.length))).take (hi.elim l.length (clipAt l.length) - lo.elim 0 (clipAt l.length))
theorem lslice_map {α β : Type} (f : α → β) (l : List α) (lo hi : Option Int) : lslice (l.map f) lo hi = (lslice l lo hi).map f := by
  simp [lslice, List.map_drop, List.map_take]
theorem slicePick_lslice (items : Array Value) (lo hi : Option Int) : (slicePick items lo hi none).toList = lslice items.toList lo hi := by
  rw [slicePick_plain]; simp [lslice]
theorem strsAre_take {vs : List Value} {xs : List Str} (h : StrsAre vs xs) : ∀ n, StrsAre (vs.take n) (xs.take n) := by
  induction h with
  | nil => intro n; simp; exact .nil
  | cons y t r ih => intro n; cases n with
    | zero => exact .nil
    | succ n => exact .cons y t (ih n)
theorem strsAre_drop {vs : List Value} {xs : List Str} (h : StrsAre vs xs) : ∀ n, StrsAre (vs.drop n) (xs.drop n) := by
  induction h with
  | nil => intro n; simp; exact .nil
  | cons y t r ih => intro n; cases n with
    | zero => exact .cons y t r
    | succ n => exact ih n
theorem strsAre_lslice {vs : List Value} {xs : List Str} (h : StrsAre vs xs) (lo hi) : StrsAre (lslice vs lo hi) (lslice xs lo hi) := by
  unfold lslice; rw [StrsAre.length h]; exact strsAre_take (strsAre_drop h _) _
theorem pick_runG {α : Type} (xs : Array α) (a b : Nat) (hb : b ≤ xs.size) : (sliceRange (a : Int) (b : Int) 1).filterMap (xs[·]?) = (xs.toList.drop a).take (b - a) := by
  rw [sliceRange_one, pick_run]
theorem strIdx (lo hi : Option Int) (n : Nat) : Builtin.Str.strSliceIndices lo hi 1 n = sliceRange (((lo.elim 0 (clipAt n) : Nat) : Int)) (((hi.elim n (clipAt n) : Nat) : Int)) 1 := by
  have e : Builtin.Str.strSliceIndices lo hi 1 n = sliceRange (sliceBounds lo hi none n).1 (sliceBounds lo hi none n).2.1 (sliceBounds lo hi none n).2.2 := by
    unfold Builtin.Str.strSliceIndices sliceBounds
    cases lo <;> cases hi <;> rfl
  rw [e, sliceBounds_plain]
theorem txt_slice (x : Str) (lo hi : Option Int) : (Txt.slice x lo hi).cps.toList = lslice x.cps.toList lo hi := by
  have key : (Builtin.Str.strSliceIndices lo hi 1 x.length).filterMap (x.cps[·]?) = lslice x.cps.toList lo hi := by
    rw [strIdx, sliceRange_one, pick_run]
    simp [lslice, Str.length]
  unfold Txt.slice
  split
  · rename_i h
    simp only [beq_self_eq_true, Bool.true_and, beq_iff_eq] at h
    rw [← key]
    have hl : (List.filterMap (x.cps[·]?) (Builtin.Str.strSliceIndices lo hi 1 x.length)).length = x.cps.toList.length := by
      rw [strIdx, sliceRange_one, pick_run]
      rw [strIdx, sliceRange_one] at h
      simp only [List.length_map, List.length_range] at h
      simp only [List.length_take, List.length_drop, Array.length_toList]
      have : x.length = x.cps.size := rfl
      have h2 : (lo.elim 0 (clipAt x.length)) + (hi.elim x.length (clipAt x.length) - lo.elim 0 (clipAt x.length)) ≤ x.length := by
        have : hi.elim x.length (clipAt x.length) ≤ x.length := by
          cases hi with
          | none => exact Nat.le_refl _
          | some i => simp only [Option.elim]; have := clipAt_cast x.length i; omega
        have : lo.elim 0 (clipAt x.length) ≤ x.length := by
          cases lo with
          | none => exact Nat.zero_le _
          | some i => simp only [Option.elim]; have := clipAt_cast x.length i; omega
        omega
      omega
    rw [key] at hl ⊢
    unfold lslice at hl ⊢
    simp only [List.length_take, List.length_drop] at hl
    rw [List.take_of_length_le (by simp only [List.length_drop]; omega)]
    have h0 : Option.elim lo 0 (clipAt x.cps.toList.length) = 0 ∨ x.cps.toList.length = 0 := by omega
    rcases h0 with h0 | h0
    · rw [h0, List.drop_zero]
    · have := List.eq_nil_of_length_eq_zero h0
      rw [this]; simp
  · exact key
theorem sgs_slice (x : Str) (lo hi : Option Int) : sgs (Txt.slice x lo hi) = lslice (sgs x) lo hi := by
  unfold sgs; rw [txt_slice, lslice_map]
end Mine
end B0
section S1
open PySem PySem.W PyProof.Rows PySem.Calls PySem.Spec PyProof.V PySem.SeqAt
set_option maxRecDepth 100000
namespace Mine
theorem readsAll_strs {h : Heap} : ∀ {vs : List Value} {xs : List Str}, StrsAre vs xs → ReadsAll h vs (xs.map PyData.str) []
  | _, _, .nil => .nil
  | _, _, .cons y t r => by
    have := ReadsAll.cons (Reads.str (h := h) y t) (readsAll_strs (h := h) r)
    simpa using this
theorem reads_strs {h : Heap} {a : Addr} {vs : List Value} {xs : List Str} (hl : h.IsList a vs.toArray) (hi : StrsAre vs xs) : Reads h (.ref a) (.list (xs.map PyData.str)) [a] := by
  obtain ⟨o, ho, hc, n, hd⟩ := hl
  exact Reads.list ho hc hd (by simpa using readsAll_strs hi)
noncomputable def Oks (xs : List Str) : Prop := ∀ x ∈ xs, PyData.strOk x = true
theorem canLay_strs : ∀ xs : List Str, Oks xs → PyData.canLayAll0 (xs.map PyData.str) = true
  | [], _ => by simp [PyData.canLayAll0]
  | n :: r, h => by simp [PyData.canLayAll0, PyData.canLay0, canLay_strs r (fun x hx => h x (.tail _ hx)), h n (.head _)]
theorem depth_strs : ∀ xs : List Str, PyData.depthAll (xs.map PyData.str) ≤ 1
  | [] => by simp [PyData.depthAll]
  | n :: r => by
    have := depth_strs r
    simp only [List.map_cons, PyData.depthAll, PyData.depth]
    lia
theorem shaped_strs (xs : List Str) (ho : Oks xs) : shaped (.list (xs.map PyData.str)) = true := by
  have h1 := depth_strs xs
  have h2 : PyData.depth (.list (xs.map PyData.str)) ≤ 64 := by simp only [PyData.depth]; lia
  show (PyData.canLay0 (.list (xs.map PyData.str)) && decide (PyData.depth (.list (xs.map PyData.str)) ≤ 64)) = true
  rw [Bool.and_eq_true]
  exact ⟨by simp only [PyData.canLay0]; exact canLay_strs xs ho, decide_eq_true h2⟩
theorem noMix_strs : ∀ xs ys : List Str, noMixAll (xs.map PyData.str) (ys.map PyData.str) = true
  | [], [] => by simp [noMixAll]
  | [], _ :: _ => by simp [noMixAll]
  | _ :: _, [] => by simp [noMixAll]
  | _ :: r, _ :: q => by simp [noMixAll, noMix, noMix_strs r q]
theorem same_strs : ∀ xs ys : List Str, PySem.Spec.sameAll (xs.map PyData.str) (ys.map PyData.str) = decide (xs = ys)
  | [], [] => by simp [PySem.Spec.sameAll]
  | [], _ :: _ => by simp [PySem.Spec.sameAll]
  | _ :: _, [] => by simp [PySem.Spec.sameAll]
  | n :: r, k :: q => by
    simp only [List.map_cons, PySem.Spec.sameAll, PySem.Spec.same, same_strs r q]
    by_cases h : n = k <;> simp [h]
section
variable {prog : Program} {w : World} {A : Around} {E : Value → Shared → Prop} {s : Shared} {h₀ : Heap} {L : Addr} {m : Str → Option Value} {news : List (Addr × Obj)} {k : Bool} {v v' : Value} {xs ys : List Str}
theorem SeqV.isList {h : Heap} (N : News h₀ L h news) {l : Addr} {n : Nat} {vs : List Value} (hm : (l, listOf (List.toArray vs) n) ∈ news) : h.IsList l vs.toArray := ⟨_, N.get hm, rfl, n, rfl⟩
theorem seq_eq {Q : Value → Shared → Prop} (ox : Oks xs) (oy : Oks ys) (hx : SeqV k news v xs) (hy : SeqV k news v' ys) (N : News h₀ L s.heap news) (hu : A.units + 64 < cLine)
    (h : Q (.bool (decide (xs = ys))) s) : wpAny (model prog w) A (compareOp .Eq v v') Q E s := by
  cases k with
  | true =>
    obtain ⟨l, n, vs, rfl, hm, hs⟩ := hx
    obtain ⟨l', n', vs', rfl, hm', hs'⟩ := hy
    exact eq_dataH_same (reads_strs (SeqV.isList N hm) hs) (reads_strs (SeqV.isList N hm') hs') (shaped_strs xs ox) (shaped_strs ys oy) hu (by simp only [noMix]; exact noMix_strs xs ys) (by simp only [PySem.Spec.same]; rw [same_strs]; exact h)
  | false =>
    obtain ⟨a, t, rfl, rfl⟩ := hx
    obtain ⟨b, u, rfl, rfl⟩ := hy
    refine eq_str ?_
    have e : (a == b) = decide (sgs a = sgs b) := by
      rw [Bool.eq_iff_iff]; simp [sgs_inj]
    rw [e]; exact h
theorem seq_truthy {Q : Bool → Shared → Prop} (hx : SeqV k news v xs) (N : News h₀ L s.heap news) (hl : xs.length < 2 ^ 62)
    (h : ∀ tk, Q (decide (xs ≠ [])) { s with toks := tk }) : wpAny (model prog w) A (truthy v) Q E s := by
  cases k with
  | true =>
    obtain ⟨l, n, vs, rfl, hm, hs⟩ := hx
    have hlen := StrsAre.length hs
    refine wpAny_truthy_list (SeqV.isList N hm) (by simp only [List.size_toArray]; lia) ?_
    have e : (!(vs.toArray.isEmpty)) = decide (xs ≠ []) := by
      cases hs with
      | nil => simp
      | cons => simp
    rw [e]; exact h _
  | false =>
    obtain ⟨a, t, rfl, rfl⟩ := hx
    have hlen : (sgs a).length = a.length := by simp [sgs, Str.length]
    refine P.truthy_str (by lia) ?_
    have e : ((a.length : Int) != 0) = decide (sgs a ≠ []) := by
      rw [Bool.eq_iff_iff]
      rw [← hlen]
      cases sgs a with
      | nil => simp
      | cons x r => simp; lia
    rw [e]; exact h _
theorem seq_len {Q : Value → Shared → Prop} (hx : SeqV k news v xs) (N : News h₀ L s.heap news) (hl : xs.length < 2 ^ 62)
    (h : ∀ t tk, Q (.int xs.length t) { s with toks := tk }) : wpAny (model prog w) A (call (.builtin "len") [v]) Q E s := by
  cases k with
  | true =>
    obtain ⟨l, n, vs, rfl, hm, hs⟩ := hx
    have hlen := StrsAre.length hs
    refine len_list (SeqV.isList N hm) (by simp only [List.size_toArray]; lia) ?_
    rw [List.size_toArray, hlen]; exact h _ _
  | false =>
    obtain ⟨a, t, rfl, rfl⟩ := hx
    have hlen : (sgs a).length = a.length := by simp [sgs, Str.length]
    refine P.len_str (by lia) ?_
    rw [← hlen]; exact h _ _
theorem strsAre_get {vs : List Value} {xs : List Str} (h : StrsAre vs xs) : ∀ {i : Nat} {x : Str}, xs[i]? = some x → ∃ t, vs[i]? = some (.str x t) := by
  induction h with
  | nil => intro i x e; simp at e
  | cons y t r ih => intro i x e; cases i with
    | zero => simp at e; subst e; exact ⟨t, by simp⟩
    | succ i => simpa using ih (by simpa using e)
theorem seq_item {value slice : PySem.Expr} {i : Int} {u : Tok} {idx : Nat} {x : Str} {Q : Value → Shared → Prop} (hx : SeqV k news v xs) (N : News h₀ L s.heap news) (hl : xs.length < 2 ^ 62)
    (hi : i = (idx : Int) ∨ (i = (idx : Int) - xs.length)) (he : xs[idx]? = some x)
    (hs : ∀ o, subscripted slice false o (.int i u) = operate [o, .int i u] (getItem o (.int i u)))
    (h : ∀ t tk, Q (.str x t) { s with toks := tk }) : wpAny (model prog w) A (subscriptTail value slice v (.int i u)) Q E s := by
  have hlt : idx < xs.length := by
    rcases Nat.lt_or_ge idx xs.length with h1 | h1
    · exact h1
    · rw [List.getElem?_eq_none h1] at he; cases he
  cases k with
  | true =>
    obtain ⟨l, n, vs, rfl, hm, hS⟩ := hx
    have hlen := StrsAre.length hS
    obtain ⟨t, ht⟩ := strsAre_get hS he
    have hL : s.heap.IsList l vs.toArray := SeqV.isList N hm
    refine tail_any hL.typeIs slot_list_getitem.lookup ?_ (hs _)
    rcases hi with hi | hi
    · subst hi
      exact wpAny_getItem_list hL (by lia) (by lia) (by simpa using ht) (h t _)
    · refine wpAny_getItem_list_neg (x := .str x t) hL (by lia) (by simp only [List.size_toArray]; lia) (by lia) ?_ (h t _)
      simp only [List.size_toArray]
      have : (i + (vs.length : Int)).toNat = idx := by lia
      rw [this]; simpa using ht
  | false =>
    obtain ⟨a, t, rfl, rfl⟩ := hx
    have hlen : (sgs a).length = a.length := by simp [sgs, Str.length]
    have hc : Txt.charAt a i = a.cps[idx]? := by
      unfold Txt.charAt
      rcases hi with hi | hi
      · rw [StrLaws.seqIndex_nonneg (by lia) (by lia)]; subst hi; simp
      · rw [StrLaws.seqIndex_neg (by lia) (by lia)]
        have : (i + (a.length : Int)).toNat = idx := by lia
        simp [this]
    have hitem : Txt.item a i = x := by
      unfold Txt.item
      rw [hc]
      have : (sgs a)[idx]? = (a.cps[idx]?).map sg := by simp [sgs]
      rw [this] at he
      cases hq : a.cps[idx]? with
      | none => rw [hq] at he; cases he
      | some c => rw [hq] at he; simp only [Option.map_some, Option.some.injEq] at he; rw [← he]; rfl
    refine tail_any (typeIs_str _ _ _) F.slot_str_getitem.lookup ?_ (hs _)
    have hS : (Txt.charAt a i).isSome = true := by
      rw [hc]
      have : idx < a.cps.size := by have : a.length = a.cps.size := rfl; lia
      simp [this]
    refine SB.getItem ?_ hS ?_
    · unfold fitsSsize; simp only [Bool.not_eq_true', Bool.or_eq_false_iff, decide_eq_false_iff_not]; lia
    · rw [hitem]; exact h _ _
end
end Mine
end S1
section S2
open PySem PySem.W PyProof.Rows PySem.Calls PySem.Spec PyProof.V PySem.SeqAt
set_option maxRecDepth 100000
namespace Mine
section
variable {prog : Program} {w : World} {A : Around} {E : Value → Shared → Prop} {s : Shared} {h₀ : Heap} {L : Addr} {m : Str → Option Value} {news : List (Addr × Obj)} {k : Bool} {v v' : Value} {xs ys : List Str}
theorem seq_slice {x : Str} {p sp : Pos} {le ue : Option PySem.Expr} {vl vu : Value} {lo hi : Option Int} {Q : Value → Shared → Prop}
    (F : Fr h₀ L s.heap m) (N : News h₀ L s.heap news) (hx : SeqV k news v xs) (pl : IsPart vl lo) (pu : IsPart vu hi) (hsz : xs.length ≤ sizeLine)
    (h : ∀ v' news' h' tk, (∀ p ∈ news, p ∈ news') → Fr h₀ L h' m → News h₀ L h' news' → SeqV k news' v' (lslice xs lo hi) → Q v' { s with heap := h', toks := tk }) :
    wpAny (model prog w) A (subscriptTail (.Name x p) (.Slice le ue none sp) v (.ref s.heap.objs.size)) Q E { s with heap := s.heap.push { cls := .type "slice", data := .fields #[vl, vu, .none] } } := by
  cases k with
  | true =>
    obtain ⟨l, n, vs, rfl, hm, hS⟩ := hx
    have hlen := StrsAre.length hS
    refine slice_list F N (SeqV.isList N hm) pl pu (fun h' F' N' => ?_) rfl (fun _ => rfl) (by simp only [List.size_toArray]; lia)
    refine h _ _ h' s.toks (fun p hp => .tail _ hp) F' N' ⟨_, 0, lslice vs lo hi, rfl, ?_, strsAre_lslice hS lo hi⟩
    have e : (lslice vs lo hi).toArray = slicePick vs.toArray lo hi none := by
      apply Array.toList_inj.mp
      rw [slicePick_lslice]
    rw [e]; exact .head _
  | false =>
    obtain ⟨a, t, rfl, rfl⟩ := hx
    have hlen : (sgs a).length = a.length := by simp [sgs, Str.length]
    have fin : ∀ h' t' k, Fr h₀ L h' m → News h₀ L h' news → (Txt.slice a lo hi).length ≤ a.length → Q (.str (Txt.slice a lo hi) t') { s with heap := h', toks := k } :=
      fun h' t' k F' N' _ => h _ news h' k (fun _ hp => hp) F' N' ⟨_, t', rfl, (sgs_slice a lo hi).symm⟩
    cases pl with
    | none => cases pu with
      | none => exact slice_strN_nn_len F N fin rfl (fun _ => rfl) (by lia)
      | int j u => exact slice_strN_ns_len F N fin rfl (fun _ => rfl) (by lia)
    | int i ui => cases pu with
      | none => exact slice_strN_sn_len F N fin rfl (fun _ => rfl) (by lia)
      | int j u => exact slice_strN_ss_len F N fin rfl (fun _ => rfl) (by lia)
theorem seq_slice_truthy {x : Str} {p sp : Pos} {le ue : Option PySem.Expr} {vl vu : Value} {lo hi : Option Int} {Q : Bool → Shared → Prop}
    (F : Fr h₀ L s.heap m) (N : News h₀ L s.heap news) (hx : SeqV k news v xs) (pl : IsPart vl lo) (pu : IsPart vu hi) (hsz : xs.length ≤ 1000)
    (h : ∀ h' tk, Fr h₀ L h' m → News h₀ L h' news → Q (decide (lslice xs lo hi ≠ [])) { s with heap := h', toks := tk }) :
    wpAny (model prog w) A (subscriptTail (.Name x p) (.Slice le ue none sp) v (.ref s.heap.objs.size)) (fun v s₁ => wpAny (model prog w) A (truthy v) Q E s₁) E { s with heap := s.heap.push { cls := .type "slice", data := .fields #[vl, vu, .none] } } := by
  refine seq_slice F N hx pl pu (by unfold sizeLine; lia) (fun v' news' h' tk sub F' N' S' => ?_)
  have hl : (lslice xs lo hi).length ≤ 1000 := by
    unfold lslice; rw [List.length_take, List.length_drop]; lia
  exact seq_truthy (s := { s with heap := h', toks := tk }) S' N' (by lia) (fun tk2 => h h' tk2 F' (cb_drop N' sub))
end
theorem lslice_from {α : Type} (l : List α) (a : Nat) : lslice l (some (a : Int)) none = l.drop a := by
  unfold lslice; simp only [Option.elim, clipAt_nat]
  rcases Nat.le_total a l.length with h | h
  · rw [Nat.min_eq_left h, List.take_of_length_le (by simp)]
  · rw [Nat.min_eq_right h, List.drop_of_length_le h]; simp
theorem lslice_all {α : Type} (l : List α) : lslice l none none = l := by simp [lslice]
theorem lslice_but {α : Type} (l : List α) (a : Nat) (h : 1 ≤ a) : lslice l none (some (-(a : Int))) = l.take (l.length - a) := by
  unfold lslice; simp only [Option.elim, clipAt_neg _ _ h, List.drop_zero, Nat.sub_zero]
end Mine
namespace Mine
theorem lookup_kstB (ps : List (Str × Value)) (y : Str) : ps.lookup y = kstB (fun _ => none) ps y := by
  induction ps with
  | nil => rfl
  | cons p r ih =>
    show List.lookup y (p :: r) = if y = p.1 then some p.2 else kstB (fun _ => none) r y
    rw [← ih]
    obtain ⟨a, b⟩ := p
    rw [List.lookup_cons]
    by_cases h : y = a
    · subst h; simp
    · have : (y == a) = false := by simpa using h
      simp [this, h]
theorem fr_kstB {h₀ h : Heap} {L : Addr} {ps : List (Str × Value)} (F : Fr h₀ L h (fun y => ps.lookup y)) : Fr h₀ L h (kstB (fun _ => none) ps) := by
  have e : (fun y => ps.lookup y) = kstB (fun _ => none) ps := by funext y; exact lookup_kstB ps y
  rwa [e] at F
theorem enter_def {prog : Program} {w : World} {A₀ A : Around} {s : Shared} {K : Frag} {L : Addr} {h₀ base : Heap} {m mg mb : Str → Option Value} {news : List (Addr × Obj)} {p : Program} {loose : List Str} {mean : ExcName → Option Value}
    {env : Env} {outer : List Env} {R : Result → Shared → Prop} {name qual : Str} {params : Arguments} {body : List Stmt} {scope : Scope} {dV kV doc pm cdv ct oc : Value} {an od : Option Addr} {osl : Array (Option Value)} {f : Addr} {args : Args} (ps : List (Str × Value))
    (B : Below A₀ base outer h₀) (F : Fr h₀ L s.heap m) (X₀ : K.In h₀) (N : News h₀ L s.heap news) (T : Top p loose mean mg mb h₀) (hA : A.frames = some (env :: outer)) (hf : env.frame = some L) (hke : env.scope.kind = .function)
    (ho : K.lookup f = some ⟨oc, od, .func (fnOf name qual params body scope dV kV doc pm an cdv ct), osl⟩) (hcd : codeIn K cdv qual = true) (hroom : A.depth < recursionLimit)
    (hbind : BindsTo s (fnOf name qual params body scope dV kV doc pm an cdv ct) args ps) (hloc : ∀ y ∈ ps, scope.names.lookup y.1 = some .local)
    (hco : scope.isCoroutine = false) (hgen : scope.isGenerator = false) (hk : scope.kind = .function)
    (hcell : ∀ x ∈ scope.names, x.2 ≠ .cell)
    (h : ∀ g L' h₁ tk, Fr h₀ L g m → Fr g L' h₁ (kstB (fun _ => none) ps.reverse) → News g L' h₁ news → Below A base (env :: outer) g → K.In g → Top p loose mean mg mb g →
      wpAny (model prog w) (A.deeper (envOf qual scope L' f cdv)) (execs body (envOf qual scope L' f cdv))
        (fun fl s' => LeaveK h₀ L m g R (match fl with | .ret v => v | _ => .none) s')
        (fun e s' => wpAny (model prog w) (A.deeper (envOf qual scope L' f cdv)) (leaving (envOf qual scope L' f cdv) e) (fun _ s'' => R (.error e) s'') (fun e' s'' => R (.error e') s'') s')
        { s with heap := h₁, toks := tk }) : codeAny (model prog w) A (.call (.ref f) args) R s :=
  code_def B F X₀ N T hA hf hke ho hcd hroom hbind hloc (fun g L' h₁ FG F' N' B' X' T' => h g L' h₁ _ FG (fr_kstB F') N' B' X' T') hco hgen hk hcell
noncomputable def Hold (P : Prop) : Prop := P
theorem Hold.out {P : Prop} (h : Hold P) : P := h
theorem Hold.mk {P : Prop} (h : P) : Hold P := h
abbrev loose := [Str.ofString "_twin_re_1", Str.ofString "_twin_re_2", Str.ofString "_twin_re_3", Str.ofString "_sre"]
end Mine
end S2
section S3
open PySem PySem.W PyProof.Rows PySem.Calls PySem.Spec PyProof.V PySem.SeqAt
set_option maxRecDepth 100000
namespace Mine
noncomputable def AllRead (m : Str → Option Value) : List (Str × Value) → Prop
  | [] => True
  | p :: r => m p.1 = some p.2 ∧ AllRead m r
theorem AllRead.mem {m : Str → Option Value} : ∀ {ps : List (Str × Value)}, AllRead m ps → ∀ p ∈ ps, m p.1 = some p.2
  | _ :: _, h, _, .head _ => h.1
  | _ :: _, h, _, .tail _ hp => AllRead.mem h.2 _ hp
theorem kstB_self {m : Str → Option Value} {ps : List (Str × Value)} (h : AllRead m ps) : kstB m ps = m := by
  funext y
  exact kstB_eq h.mem (fun _ => rfl)
section
variable {prog : Program} {w : World} {A : Around} {E : Value → Shared → Prop} {Q : Flow → Shared → Prop} {s : Shared} {env : Env} {h₀ : Heap} {L : Addr} {x : Str} {body : List Stmt}

noncomputable def WDone {σ : Type} (h₀ : Heap) (L : Addr) (s : Shared) (Led : σ → List (Addr × Obj)) (ps : σ → List (Str × Value)) (P : σ → Prop) (s₂ : Shared) : Prop :=
  ∃ c h' tk m', s₂ = { s with heap := h', toks := tk } ∧ Fr h₀ L h' m' ∧ News h₀ L h' (Led c) ∧ AllRead m' (ps c) ∧ P c
theorem WDone.intro {σ : Type} {h₀ : Heap} {L : Addr} {s : Shared} {Led : σ → List (Addr × Obj)} {ps : σ → List (Str × Value)} {P : σ → Prop} {h' : Heap} {tk : Nat} {m' : Str → Option Value} (c : σ)
    (F : Fr h₀ L h' m') (N : News h₀ L h' (Led c)) (hk : AllRead m' (ps c)) (hp : P c) : WDone h₀ L s Led ps P { s with heap := h', toks := tk } := ⟨c, h', tk, m', rfl, F, N, hk, hp⟩
noncomputable def WEnd {σ : Type} (h₀ : Heap) (L : Addr) (s : Shared) (Led : σ → List (Addr × Obj)) (ps : σ → List (Str × Value)) (P : σ → Prop) (μ : σ → Nat) (c : σ) (s₂ : Shared) : Prop :=
  ∃ c' h' tk m' news', s₂ = { s with heap := h', toks := tk } ∧ Fr h₀ L h' m' ∧ News h₀ L h' news' ∧ (∀ p ∈ Led c', p ∈ news') ∧ AllRead m' (ps c') ∧ P c' ∧ μ c' < μ c
theorem WEnd.intro {σ : Type} {h₀ : Heap} {L : Addr} {s : Shared} {Led : σ → List (Addr × Obj)} {ps : σ → List (Str × Value)} {P : σ → Prop} {μ : σ → Nat} {c : σ} {h' : Heap} {tk : Nat} {m' : Str → Option Value} {news' : List (Addr × Obj)} (c' : σ)
    (F : Fr h₀ L h' m') (N : News h₀ L h' news') (hn : ∀ p ∈ Led c', p ∈ news') (hk : AllRead m' (ps c')) (hp : P c') (hm : μ c' < μ c) : WEnd h₀ L s Led ps P μ c { s with heap := h', toks := tk } :=
  ⟨c', h', tk, m', news', rfl, F, N, hn, hk, hp, hm⟩
noncomputable def WPost {σ : Type} (h₀ : Heap) (L : Addr) (s : Shared) (Led : σ → List (Addr × Obj)) (ps : σ → List (Str × Value)) (P : σ → Prop) (μ : σ → Nat) (Q : Flow → Shared → Prop) (c : σ) (f : Flow) (s₂ : Shared) : Prop :=
  match f with
  | .ret v => Q (.ret v) s₂
  | .brk => Q .next s₂
  | _ => WEnd h₀ L s Led ps P μ c s₂
theorem while_inv {σ : Type} {test : PySem.Expr} {pos : Pos} {m₀ : Str → Option Value} (Led : σ → List (Addr × Obj)) (ps : σ → List (Str × Value)) (P : σ → Prop) (μ : σ → Nat) (c₀ : σ)
    (F : Fr h₀ L s.heap m₀) (N : News h₀ L s.heap (Led c₀)) (hk : AllRead m₀ (ps c₀)) (hp : P c₀)
    (turn : ∀ (c : σ) (u : Str → Option Value) h tk, P c → Fr h₀ L h (kstB u (ps c)) → News h₀ L h (Led c) →
      wpAny (model prog w) A (isTrue test env (eval test env)) (fun b s₂ =>
        if b = true then wpAny (model prog w) A (execs body env) (WPost h₀ L s Led ps P μ Q c) E s₂ else WDone h₀ L s Led ps P s₂) E { s with heap := h, toks := tk })
    (done : ∀ (c : σ) (u : Str → Option Value) h tk, P c → Fr h₀ L h (kstB u (ps c)) → News h₀ L h (Led c) → Q .next { s with heap := h, toks := tk })
    (hE : PassesOwn (model prog w) A env E) :
    wpAny (model prog w) A (exec (.While test body [] pos) env) Q E s := by
  refine While_inv2 (fun n m nx => ∃ c : σ, nx = Led c ∧ μ c = n ∧ AllRead m (ps c) ∧ P c) F N ⟨c₀, rfl, rfl, hk, hp⟩ ?_ hE
  rintro n m₁ nx h tk F₁ N₁ ⟨c, rfl, rfl, hk', hp'⟩
  rw [← kstB_self hk'] at F₁
  refine wpAny_mono (turn c m₁ h tk hp' F₁ N₁) (fun b s₂ p => ?_) fun _ _ x => x
  cases b with
  | false =>
    simp only [Bool.false_eq_true, if_false] at p ⊢
    obtain ⟨c', h', tk', m', rfl, F', N', hk2, hp2⟩ := p
    rw [← kstB_self hk2] at F'
    exact done c' m' h' tk' hp2 F' N'
  | true =>
    simp only [if_true] at p ⊢
    refine wpAny_mono p (fun f s₃ h₃ => ?_) fun _ _ x => x
    have fin : WEnd h₀ L s Led ps P μ c s₃ → ∃ h' tk m₂ news₂ n', s₃ = { s with heap := h', toks := tk } ∧ Fr h₀ L h' m₂ ∧ News h₀ L h' news₂ ∧ n' < μ c ∧ ∃ c' : σ, news₂ = Led c' ∧ μ c' = n' ∧ AllRead m₂ (ps c') ∧ P c' := by
      rintro ⟨c', h', tk', m', news', rfl, F', N', hn, hk2, hp2, hm⟩
      exact ⟨h', tk', m', Led c', μ c', rfl, F', fun p hp => N' p (hn p hp), hm, c', rfl, rfl, hk2, hp2⟩
    cases f with
    | next => exact fin h₃
    | cont => exact fin h₃
    | brk => exact h₃
    | ret v => exact h₃

noncomputable def RJ {σ : Type} (Led : σ → List (Addr × Obj)) (ps : σ → List (Str × Value)) (P : Nat → σ → Prop) (i : Nat) (m : Str → Option Value) (nx : List (Addr × Obj)) : Prop :=
  ∃ c : σ, nx = Led c ∧ AllRead m (ps c) ∧ P i c
theorem rj_end {σ : Type} {Led : σ → List (Addr × Obj)} {ps : σ → List (Str × Value)} {P : Nat → σ → Prop} {i : Nat} (c : σ) {L : Addr} {m' : Str → Option Value} {own news' : List (Addr × Obj)} {adr : List Addr} {s₁ : Shared} {h' : Heap} {tk : Nat}
    (F : Fr h₀ L h' m') (N : News h₀ L h' news') (hn : ∀ p ∈ Led c, p ∈ news') (ho : ∀ p ∈ own, p ∈ news') (ha : (Led c).map (·.1) = adr) (hk : AllRead m' (ps c)) (hp : P i c) :
    InvEndN h₀ L (RJ Led ps P i) own adr s₁ { s₁ with heap := h', toks := tk } :=
  InvEndN.intro F N ⟨c, rfl, hk, hp⟩ ha hn ho
theorem range_inv {σ : Type} {r : Addr} {a₀ b₀ : Int} {t₀ u₀ v₀ : Tok} {n : Nat} {m₀ : Str → Option Value} (Led : σ → List (Addr × Obj)) (ps : σ → List (Str × Value)) (P : Nat → σ → Prop) (c₀ : σ)
    (hh : A.handled = none) (hr : IsRange s.heap r a₀ b₀ 1 t₀ u₀ v₀) (hsmall : Builtin.Range.small a₀ b₀ 1 = true) (hn : Builtin.Range.rangeSize a₀ b₀ 1 = (n : Int)) (F : Fr h₀ env.locals s.heap m₀) (N : News h₀ env.locals s.heap (Led c₀)) (hk : AllRead m₀ (ps c₀)) (hp : P 0 c₀)
    (turn : ∀ (c : σ) (i : Nat) t (u : Str → Option Value) h tk own, i < n → OwnOff own ((Led c₀).map (·.1)) → P i c →
      Fr h₀ env.locals h (fun y => if y = x then some (.int (a₀ + (i : Int)) t) else kstB u (ps c) y) → News h₀ env.locals h (Led c ++ own) →
      wpAny (model prog w) A (execs body env) (InvPostN h₀ env.locals (RJ Led ps P (i + 1)) own ((Led c₀).map (·.1)) { s with heap := h, toks := tk } Q) E { s with heap := h, toks := tk })
    (done : ∀ (c : σ) (u : Str → Option Value) h tk, P n c → Fr h₀ env.locals h (kstB u (ps c)) → News h₀ env.locals h (Led c) → Q .next { s with heap := h, toks := tk }) :
    wpAny (model prog w) A (pyIter (.ref r)) (fun it s₂ => LoopAtV prog w A h₀ env x body Q E it s₂) E s := by
  refine wpAny_pyIter_range hr hsmall ?_
  have W : Walks prog w A s.heap.objs.size [s.heap.objs.size] [s.heap.objs.size] n (fun i v => i < n ∧ ∃ t, v = .int (a₀ + i * 1) t)
      (fun i h => IsRangeIter h s.heap.objs.size (a₀ + (i : Nat) * 1) ((n : Int) - (i : Nat)) 1) := (Walks.range hh _ a₀ 1 n).bound
  refine loop_invN (fun i m nx => RJ Led ps P i m nx) W ?_ ?_ ?_ ?_ (by show IsRangeIter _ _ _ _ _; rw [hn]; simpa using Heap.get?_push_size _ rfl) (F.push _) (fun p hp => ⟨Heap.get?_push_of_some _ (N p hp).1, (N p hp).2⟩) ⟨c₀, rfl, hk, hp⟩ ?_ ?_
  · intro hm
    exact absurd F.ns.lt ((List.mem_singleton.mp hm) ▸ Nat.lt_irrefl _)
  · intro b hb
    rw [List.mem_singleton.mp hb]
    exact next_is_new F
  · intro p hp hI
    exact absurd (Heap.lt_size (N p hp).1) ((List.mem_singleton.mp hI) ▸ Nat.lt_irrefl _)
  · intro p hp hI
    exact absurd (Heap.lt_size (N p hp).1) ((List.mem_singleton.mp hI) ▸ Nat.lt_irrefl _)
  · rintro i v m₁ nx h tk own hi ⟨_, t, rfl⟩ _ hoff ⟨c, rfl, hk', hp'⟩ F₁ N₁
    have e1 : a₀ + (i : Int) * 1 = a₀ + (i : Int) := by omega
    rw [e1] at F₁
    rw [← kstB_self hk'] at F₁
    exact turn c i t m₁ h tk own hi hoff hp' F₁ N₁
  · rintro m₁ nx h tk ⟨c, rfl, hk', hp'⟩ F₁ N₁
    rw [← kstB_self hk'] at F₁
    exact done c m₁ h tk hp' F₁ N₁
theorem text_inv {σ : Type} {xt : Str} {tx : Tok} {m₀ : Str → Option Value} (Led : σ → List (Addr × Obj)) (ps : σ → List (Str × Value)) (P : Nat → σ → Prop) (c₀ : σ)
    (hh : A.handled = none) (F : Fr h₀ env.locals s.heap m₀) (N : News h₀ env.locals s.heap (Led c₀)) (hk : AllRead m₀ (ps c₀)) (hp : P 0 c₀)
    (turn : ∀ (c : σ) (i n : Nat) t (u : Str → Option Value) h tk own, xt.cps[i]? = some n → OwnOff own ((Led c₀).map (·.1)) → P i c →
      Fr h₀ env.locals h (fun y => if y = x then some (.str ⟨#[n]⟩ t) else kstB u (ps c) y) → News h₀ env.locals h (Led c ++ own) →
      wpAny (model prog w) A (execs body env) (InvPostN h₀ env.locals (RJ Led ps P (i + 1)) own ((Led c₀).map (·.1)) { s with heap := h, toks := tk } Q) E { s with heap := h, toks := tk })
    (done : ∀ (c : σ) (u : Str → Option Value) h tk, P xt.cps.size c → Fr h₀ env.locals h (kstB u (ps c)) → News h₀ env.locals h (Led c) → Q .next { s with heap := h, toks := tk }) :
    wpAny (model prog w) A (pyIter (.str xt tx)) (fun it s₂ => LoopAtV prog w A h₀ env x body Q E it s₂) E s := by
  refine wpAny_pyIter_str fun o St hW hst => ?_
  have W := hW A hh
  refine loop_invN (fun i m nx => RJ Led ps P i m nx) W ?_ ?_ ?_ ?_ hst (F.push _) (fun p hp => ⟨Heap.get?_push_of_some _ (N p hp).1, (N p hp).2⟩) ⟨c₀, rfl, hk, hp⟩ ?_ ?_
  · intro hm
    exact absurd F.ns.lt ((List.mem_singleton.mp hm) ▸ Nat.lt_irrefl _)
  · intro b' hb
    rw [List.mem_singleton.mp hb]
    exact next_is_new F
  · intro p hp hI
    exact absurd (Heap.lt_size (N p hp).1) ((List.mem_singleton.mp hI) ▸ Nat.lt_irrefl _)
  · intro p hp hI
    exact absurd (Heap.lt_size (N p hp).1) ((List.mem_singleton.mp hI) ▸ Nat.lt_irrefl _)
  · rintro i v m₁ nx h tk own hi ⟨n, u, hn, rfl⟩ _ hoff ⟨c, rfl, hk', hp'⟩ F₁ N₁
    rw [← kstB_self hk'] at F₁
    exact turn c i n u m₁ h tk own hn hoff hp' F₁ N₁
  · rintro m₁ nx h tk ⟨c, rfl, hk', hp'⟩ F₁ N₁
    rw [← kstB_self hk'] at F₁
    exact done c m₁ h tk hp' F₁ N₁
end
section
variable {prog : Program} {w : World} {A : Around} {E : Value → Shared → Prop} {s : Shared} {name : Str} {scope : Scope} {L a : Addr} {cd : Value} {h₀ : Heap} {m : Str → Option Value}
theorem or_none {x : Str} {px pc pb : Pos} {kc : Nat} {i : Int} {t : Tok} {Q : Value → Shared → Prop} (F : Fr h₀ L s.heap m) (hv : m x = some (.int i t))
    (h : ∀ v, IsPart v (if i = 0 then none else some i) → Q v s)
    (hk : scope.kind = .function) (hl : (envOf name scope L a cd).kindOf x = some .local)
    (hd : (x == ("__debug__" : Str)) = false) :
    wpAny (model prog w) A (eval (.BoolOp .Or [.Name x px, .Constant .none kc pc] pb) (envOf name scope L a cd)) Q E s := by
  refine BoolOp_or (ld F hv (truthy_int ?_) hk hl hd)
  by_cases hi : i = 0
  · subst hi
    simp only [bne_self_eq_false, Bool.false_eq_true, if_false]
    refine BoolOp_one (Constant_none (h _ ?_))
    rw [if_pos rfl]; exact .none
  · have : (i != 0) = true := by simpa using hi
    simp only [this, if_true]
    exact h _ (by rw [if_neg hi]; exact .int _ _)
theorem lslice_post {α : Type} (l : List α) (n : Nat) (hn : n ≤ l.length) : lslice l none (if (-(n : Int)) = 0 then none else some (-(n : Int))) = l.take (l.length - n) := by
  rcases Nat.eq_zero_or_pos n with h | h
  · subst h; simp [lslice_all]
  · rw [if_neg (by omega), lslice_but _ _ h]
end
end Mine
end S3
section S4
open PySem PySem.W PyProof.Rows PySem.Calls PySem.Spec PyProof.V PySem.SeqAt
set_option maxRecDepth 100000
namespace Mine
theorem ints_of : ∀ (vs : List Value) (f : Nat → Int), (∀ (j : Nat) (v : Value), vs[j]? = some v → ∃ t, v = .int (f j) t) → IntsAre vs ((List.range vs.length).map f)
  | [], _, _ => .nil
  | v :: r, f, h => by
    rw [List.length_cons, List.range_succ_eq_map, List.map_cons, List.map_map]
    obtain ⟨t, ht⟩ := h 0 v rfl
    subst ht
    exact IntsAre.cons _ _ (ints_of r (f ∘ Nat.succ) fun j v hj => h (j + 1) v hj)
theorem small_40 : ∀ n : Nat, n ≤ 40 → Builtin.Range.small 2 (2 * ((n : Int) + 1)) 2 = true ∧ Builtin.Range.rangeSize 2 (2 * ((n : Int) + 1)) 2 = (n : Int) := by
  have h : ∀ n ∈ List.range 41, Builtin.Range.small 2 (2 * ((n : Int) + 1)) 2 = true ∧ Builtin.Range.rangeSize 2 (2 * ((n : Int) + 1)) 2 = (n : Int) := by decide +kernel
  exact fun n hn => h n (by simp; omega)
theorem small_1 : ∀ n : Nat, n ≤ 40 → Builtin.Range.small 0 (n : Int) 1 = true ∧ Builtin.Range.rangeSize 0 (n : Int) 1 = (n : Int) := by
  have h : ∀ n ∈ List.range 41, Builtin.Range.small 0 (n : Int) 1 = true ∧ Builtin.Range.rangeSize 0 (n : Int) 1 = (n : Int) := by decide +kernel
  exact fun n hn => h n (by simp; omega)
section
variable {prog : Program} {w : World} {A : Around} {E : Value → Shared → Prop} {s : Shared} {h₀ : Heap} {L : Addr} {m : Str → Option Value} {news : List (Addr × Obj)}
theorem list_rng {r : Addr} {n : Nat} {t₀ u₀ v₀ : Tok} {Q : Value → Shared → Prop} (hh : A.handled = none) (F : Fr h₀ L s.heap m) (N : News h₀ L s.heap news) (hr : IsRange s.heap r 2 (2 * ((n : Int) + 1)) 2 t₀ u₀ v₀) (hn : n ≤ 40)
    (h : ∀ D us c h' tk, Fr h₀ L h' m → News h₀ L h' ((D, listOf (List.toArray us) c) :: news) → (∀ p ∈ news, p.1 < D) → IntsAre us ((List.range n).map fun i : Nat => 2 + 2 * (i : Int)) → Q (.ref D) { s with heap := h', toks := tk }) :
    wpAny (model prog w) A (call (.type "list") [.ref r]) Q E s := by
  refine call_list_range hh hr (small_40 n hn).1 (small_40 n hn).2 (by omega) fun h' tk acc c hk hD hI => ?_
  have hD' : h'.get? s.heap.objs.size = some (listOf (List.toArray acc.toList) c) := by
    rw [Array.toArray_toList]
    exact hD
  refine h _ acc.toList c h' tk (F.keeps hk) (news_pushed F N hk hD' rfl) (fun p hp => Heap.lt_size (N p hp).1) ?_
  have := ints_of acc.toList (fun i => 2 + 2 * (i : Int)) fun j v hj => by
    obtain ⟨t, ht⟩ := hI.2 j v (by rw [← hj, Array.getElem?_toList])
    exact ⟨t, by rw [ht]; congr 1; omega⟩
  rw [Array.length_toList, hI.1] at this
  exact this
theorem seq_then {M : Model} {t : Sem Flow} {Q : Flow → Shared → Prop} (R : Shared → Prop) (h : wpAny M A t (fun f s' => Hold (f = .next ∧ R s')) E s) (k : ∀ s', R s' → Q .next s') : wpAny M A t Q E s :=
  wpAny_mono h (fun f s' q => by obtain ⟨e, r⟩ := q; subst e; exact k s' r) (fun _ _ x => x)
theorem range_inv0 {σ : Type} {Q : Flow → Shared → Prop} {env : Env} {x : Str} {body : List Stmt} {r : Addr} {b₀ : Int} {t₀ u₀ v₀ : Tok} {n : Nat} {m₀ : Str → Option Value} (Led : σ → List (Addr × Obj)) (ps : σ → List (Str × Value)) (P : Nat → σ → Prop) (c₀ : σ)
    (hh : A.handled = none) (hr : IsRange s.heap r 0 b₀ 1 t₀ u₀ v₀) (hsmall : Builtin.Range.small 0 b₀ 1 = true) (hn : Builtin.Range.rangeSize 0 b₀ 1 = (n : Int)) (F : Fr h₀ env.locals s.heap m₀) (N : News h₀ env.locals s.heap (Led c₀)) (hk : AllRead m₀ (ps c₀)) (hp : P 0 c₀)
    (turn : ∀ (c : σ) (i : Nat) t (u : Str → Option Value) h tk own, i < n → OwnOff own ((Led c₀).map (·.1)) → P i c →
      Fr h₀ env.locals h (fun y => if y = x then some (.int (i : Int) t) else kstB u (ps c) y) → News h₀ env.locals h (Led c ++ own) →
      wpAny (model prog w) A (execs body env) (InvPostN h₀ env.locals (RJ Led ps P (i + 1)) own ((Led c₀).map (·.1)) { s with heap := h, toks := tk } Q) E { s with heap := h, toks := tk })
    (done : ∀ (c : σ) (u : Str → Option Value) h tk, P n c → Fr h₀ env.locals h (kstB u (ps c)) → News h₀ env.locals h (Led c) → Q .next { s with heap := h, toks := tk }) :
    wpAny (model prog w) A (pyIter (.ref r)) (fun it s₂ => LoopAtV prog w A h₀ env x body Q E it s₂) E s :=
  range_inv Led ps P c₀ hh hr hsmall hn F N hk hp (fun c i t u h tk own hi ho hp F N => turn c i t u h tk own hi ho hp (by rw [Int.zero_add] at F; exact F) N) done
end
end Mine
end S4
section W0
open PySem PySem.W PyProof.Rows PySem.Calls PySem.Spec PyProof.V PySem.SeqAt
set_option maxRecDepth 100000
set_option maxHeartbeats 8000000
namespace Mine
noncomputable def lawBody : List Stmt := match PySem.Challenge.pw_ta0009_01.main.body.getLast? with
  | some (.FunctionDef _ _ b ..) => b
  | _ => []
noncomputable def lawSc : {l : Scope // l = (match PySem.Challenge.pw_ta0009_01.main.body.getLast? with
  | some (.FunctionDef _ _ _ _ _ _ sc ..) => sc
  | _ => default)} := by
  refine ⟨?l, ?h⟩
  case h =>
    symm
    with_unfolding_all (conv => lhs; whnf)
noncomputable def lawCl (L : Addr) : List (Str × Addr) := [("two", L + 1 + 1 + 1), ("one", L + 1 + 1), ("numbers", L + 1)]
noncomputable def st0 : {l : Stmt // l = lawBody.getD 0 default} := by
  refine ⟨?l, ?h⟩
  case h =>
    symm
    with_unfolding_all (conv => lhs; whnf)
noncomputable def st1 : {l : Stmt // l = lawBody.getD 1 default} := by
  refine ⟨?l, ?h⟩
  case h =>
    symm
    with_unfolding_all (conv => lhs; whnf)
noncomputable def st2 : {l : Stmt // l = lawBody.getD 2 default} := by
  refine ⟨?l, ?h⟩
  case h =>
    symm
    with_unfolding_all (conv => lhs; whnf)
noncomputable def st3 : {l : Stmt // l = lawBody.getD 3 default} := by
  refine ⟨?l, ?h⟩
  case h =>
    symm
    with_unfolding_all (conv => lhs; whnf)
noncomputable def st4 : {l : Stmt // l = lawBody.getD 4 default} := by
  refine ⟨?l, ?h⟩
  case h =>
    symm
    with_unfolding_all (conv => lhs; whnf)
noncomputable def st5 : {l : Stmt // l = lawBody.getD 5 default} := by
  refine ⟨?l, ?h⟩
  case h =>
    symm
    with_unfolding_all (conv => lhs; whnf)
noncomputable def st6 : {l : Stmt // l = lawBody.getD 6 default} := by
  refine ⟨?l, ?h⟩
  case h =>
    symm
    with_unfolding_all (conv => lhs; whnf)
noncomputable def st7 : {l : Stmt // l = lawBody.getD 7 default} := by
  refine ⟨?l, ?h⟩
  case h =>
    symm
    with_unfolding_all (conv => lhs; whnf)
noncomputable def st8 : {l : Stmt // l = lawBody.getD 8 default} := by
  refine ⟨?l, ?h⟩
  case h =>
    symm
    with_unfolding_all (conv => lhs; whnf)
noncomputable def st9 : {l : Stmt // l = lawBody.getD 9 default} := by
  refine ⟨?l, ?h⟩
  case h =>
    symm
    with_unfolding_all (conv => lhs; whnf)
noncomputable def st10 : {l : Stmt // l = lawBody.getD 10 default} := by
  refine ⟨?l, ?h⟩
  case h =>
    symm
    with_unfolding_all (conv => lhs; whnf)
noncomputable def st11 : {l : Stmt // l = lawBody.getD 11 default} := by
  refine ⟨?l, ?h⟩
  case h =>
    symm
    with_unfolding_all (conv => lhs; whnf)
noncomputable def st12 : {l : Stmt // l = lawBody.getD 12 default} := by
  refine ⟨?l, ?h⟩
  case h =>
    symm
    with_unfolding_all (conv => lhs; whnf)
noncomputable def st13 : {l : Stmt // l = lawBody.getD 13 default} := by
  refine ⟨?l, ?h⟩
  case h =>
    symm
    with_unfolding_all (conv => lhs; whnf)
noncomputable def st14 : {l : Stmt // l = lawBody.getD 14 default} := by
  refine ⟨?l, ?h⟩
  case h =>
    symm
    with_unfolding_all (conv => lhs; whnf)
noncomputable def st15 : {l : Stmt // l = lawBody.getD 15 default} := by
  refine ⟨?l, ?h⟩
  case h =>
    symm
    with_unfolding_all (conv => lhs; whnf)
noncomputable def st16 : {l : Stmt // l = lawBody.getD 16 default} := by
  refine ⟨?l, ?h⟩
  case h =>
    symm
    with_unfolding_all (conv => lhs; whnf)
noncomputable def st17 : {l : Stmt // l = lawBody.getD 17 default} := by
  refine ⟨?l, ?h⟩
  case h =>
    symm
    with_unfolding_all (conv => lhs; whnf)
end Mine
end W0
section R0
open PySem PySem.W PyProof.Rows PySem.Calls PySem.Spec PyProof.V PySem.SeqAt
set_option maxRecDepth 100000
namespace Mine
theorem plainAttrs_re : PlainAttrs "re.Pattern" :=
  ⟨⟨"object.__getattribute__", by rw [typeLookup_type, builtinLookup_eq_fast]; kernel_rfl, by decide +kernel⟩, by rw [typeLookup_type, builtinLookup_eq_fast]; kernel_rfl⟩
theorem slot_re_sub : Slot "re.Pattern" "sub" "re.Pattern.sub" :=
  .of (owner := "re.Pattern") (n := "sub") (by rw [typeLookup_type, builtinLookup_eq_fast]; kernel_rfl) (by decide +kernel) (by decide +kernel) (by decide +kernel)
    (by first | exact .inl (by decide +kernel) | exact .inr (by decide +kernel)) (by rw [isSubtype_type]; kernel_rfl)
theorem type_re_sub : typeOf (.builtin "re.Pattern.sub") = pure (.type "method_descriptor") := by show builtinType _ = _; rw [builtinType_eq_fast]; kernel_rfl
theorem entry_re_sub : entryFor table "re.Pattern.sub" = some Builtin.«re.Pattern.sub» := entryFor_of_tree (by kernel_rfl)
theorem entry_re_loop : entryFor table "re.Pattern.sub.loop" = some Builtin.«re.Pattern.sub.loop» := entryFor_of_tree (by kernel_rfl)
theorem args_re_sub (a b c : Value) : argsOk "re.Pattern.sub" ⟨[a, b, c], []⟩ := by unfold argsOk; kernel_rfl
theorem no_call_str : typeLookup (.type "str") "__call__" = pure none := by rw [typeLookup_type, builtinLookup_eq_fast]; kernel_rfl
theorem no_call_bytes : typeLookup (.type "bytes") "__call__" = pure none := by rw [typeLookup_type, builtinLookup_eq_fast]; kernel_rfl
theorem named_re (a b : Value) : Builtin.Re.reNamed "re.Pattern.sub" "sub" ["repl", "string", "count"] 2 [a, b] [] = pure [some a, some b, none] := by kernel_rfl
end Mine
end R0
section R1
open PySem PySem.Sre
set_option maxRecDepth 100000
namespace Mine
noncomputable def c1 : Array Nat := #[14, 4, 0, 1, 1, 6, 1, 16, 46, 1]
noncomputable def c3 : Array Nat := #[14, 9, 4, 1, 2, 16, 10, 16, 13, 0, 7, 7, 16, 13, 16, 10, 15, 18, 5, 16, 10, 15, 13, 11, 16, 13, 5, 5, 0, 16, 10, 1, 15, 2, 0, 1]
theorem runFor_add (a b : Nat) (m : M) : M.runFor (a + b) m = M.runFor b (M.runFor a m) := by
  induction a generalizing m with
  | zero => rw [Nat.zero_add]; rfl
  | succ a ih =>
    rw [Nat.succ_add]
    show (if m.outcome.isSome then m else M.runFor (a + b) m.step) = M.runFor b (if m.outcome.isSome then m else M.runFor a m.step)
    by_cases h : m.outcome.isSome = true
    · rw [if_pos h, if_pos h]
      cases b with
      | zero => rfl
      | succ b => show m = if m.outcome.isSome then m else _; rw [if_pos h]
    · rw [if_neg h, if_neg h, ih]
theorem runFor_done (n : Nat) {m : M} (h : m.outcome.isSome = true) : M.runFor n m = m := by
  cases n with
  | zero => rfl
  | succ n => show (if m.outcome.isSome then m else _) = m; rw [if_pos h]
theorem runFor_one {m : M} (h : m.outcome = none) (n : Nat) : M.runFor (n + 1) m = M.runFor n m.step := by
  show (if m.outcome.isSome then m else M.runFor n m.step) = _
  rw [h]; rfl
/-- the machine's ends within k steps at m' -/
noncomputable def Goes (k : Nat) (m : M) (P : M → Prop) : Prop := ∃ j, j ≤ k ∧ P (M.runFor j m)
theorem Goes.here {m : M} {P : M → Prop} (h : P m) : Goes 0 m P := ⟨0, Nat.le_refl _, h⟩
theorem Goes.step {k : Nat} {m : M} {P : M → Prop} (h0 : m.outcome = none) (h : Goes k m.step P) : Goes (k + 1) m P := by
  obtain ⟨j, hj, hp⟩ := h
  exact ⟨j + 1, by lia, by rw [runFor_one h0]; exact hp⟩
theorem Goes.le {k k' : Nat} {m : M} {P : M → Prop} (h : Goes k m P) (e : k ≤ k') : Goes k' m P := by
  obtain ⟨j, hj, hp⟩ := h
  exact ⟨j, by lia, hp⟩
theorem Goes.imp {k : Nat} {m : M} {P P' : M → Prop} (h : Goes k m P) (e : ∀ m, P m → P' m) : Goes k m P' := by
  obtain ⟨j, hj, hp⟩ := h
  exact ⟨j, hj, e _ hp⟩
theorem Goes.then {k k' : Nat} {m : M} {P P' : M → Prop} (h : Goes k m P) (e : ∀ m, P m → Goes k' m P') : Goes (k + k') m P' := by
  obtain ⟨j, hj, hp⟩ := h
  obtain ⟨j', hj', hp'⟩ := e _ hp
  exact ⟨j + j', by lia, by rw [runFor_add]; exact hp'⟩
/-- a state of the machine over c1, in the form that the search keeps -/
noncomputable def S1 (text : Array Nat) (lim start pc pos handed : Nat) (om : Bool) (frames : List Sre.Frame) (w : Nat) (ans : Option Bool) (seen : Seen) : M :=
  { code := c1, text, lim, start, lastStart := lim, pc, pos, handed, outermost := om, marks := #[], frames, weight := w, answer := ans, seen }
noncomputable def fr1 (p : Nat) (om : Bool) : Sre.Frame := { wait := .nextStart, pc := 5, pos := p, outermost := om }
noncomputable def A1 (text : Array Nat) (lim s : Nat) (om : Bool) (seen : Seen) : M := S1 text lim s 5 s s om [fr1 s om] 1 none seen
noncomputable def Found (text : Array Nat) (b e : Nat) (m : M) : Prop := m.outcome = some .matched ∧ m.start = b ∧ m.handed = e
noncomputable def Lost (m : M) : Prop := m.outcome = some .failed
theorem search1 (text : Array Nat) (s : Nat) : Sre.forSearch c1 text 0 s text.size false = if s < text.size then A1 text text.size s true (({} : Seen).add 14) else
    { (S1 text text.size s 5 s s true [] 0 (some false) (({} : Seen).add 14)) with lastStart := 0 } := by
  by_cases h : s < text.size
  · rw [if_pos h]
    have h1 : (decide (s > text.size) || decide (text.size - s < 1)) = false := by simp; lia
    show (if (decide (s > text.size) || decide (text.size - s < 1)) = true then _ else _) = _
    rw [h1, if_neg Bool.false_ne_true]
    rfl
  · rw [if_neg h]
    have h1 : (decide (s > text.size) || decide (text.size - s < 1)) = true := by simp; lia
    show (if (decide (s > text.size) || decide (text.size - s < 1)) = true then _ else _) = _
    rw [h1, if_pos rfl]
    rfl

section
variable (text : Array Nat) (lim st pos hd p : Nat) (om : Bool) (fr : List Sre.Frame) (w : Nat) (seen : Seen)
theorem s1_at : (S1 text lim st 5 pos hd om fr w none seen).step = if (pos == 0 || text.getD (pos - 1) 0 == 10) = true then S1 text lim st 7 pos hd om fr w none ((seen.add 6).add 44) else S1 text lim st 5 pos hd om fr w (some false) ((seen.add 6).add 44) := rfl
theorem s1_lit : (S1 text lim st 7 pos hd om fr w none seen).step = if pos ≥ lim then S1 text lim st 7 pos hd om fr w (some false) (seen.add 16) else match (text.getD pos 0 == 46) with
  | true => S1 text lim st 9 (pos + 1) hd om fr w none (seen.add 16)
  | false => S1 text lim st 7 pos hd om fr w (some false) (seen.add 16) := by
  show (if pos ≥ lim then _ else _) = _
  by_cases h : pos ≥ lim
  · rw [if_pos h, if_pos h]; rfl
  · rw [if_neg h, if_neg h]
    show (match Except.ok (ε := String) ((text.getD pos 0 == 46), seen.add 16) with | .error why => _ | .ok (false, seen) => _ | .ok (true, seen) => _) = _
    cases (text.getD pos 0 == 46) <;> rfl
theorem s1_suc : (S1 text lim st 9 pos hd om fr w none seen).step = S1 text lim st 9 pos pos om fr w (some true) (seen.add 1) := by
  cases om <;> rfl
theorem s1_yes : (S1 text lim st 9 pos hd om [fr1 p om] 1 (some true) seen).step = S1 text lim st 5 p hd om [] 0 (some true) seen := rfl
theorem s1_end (b : Bool) (pc : Nat) : (S1 text lim st pc pos hd om [] 0 (some b) seen).step = { S1 text lim st pc pos hd om [] 0 (some b) seen with outcome := some (if b then .matched else .failed) } := rfl
theorem s1_no (pc : Nat) : (S1 text lim st pc pos hd om [fr1 p om] 1 (some false) seen).step = if p < lim then A1 text lim (p + 1) false seen else S1 text lim st 5 p hd om [] 0 (some false) seen := by
  show (if p < lim then _ else _) = _
  by_cases h : p < lim
  · rw [if_pos h, if_pos h]; rfl
  · rw [if_neg h, if_neg h]; rfl
end
noncomputable def at1 (text : Array Nat) (p : Nat) : Bool := (p == 0 || text.getD (p - 1) 0 == 10) && decide (p < text.size) && text.getD p 0 == 46
theorem try1 (text : Array Nat) (s : Nat) (om : Bool) (seen : Seen) (P : M → Prop)
    (hy : at1 text s = true → ∀ m, Found text s (s + 1) m → P m)
    (hn : at1 text s = false → ∀ st pc hd seen, Goes 1 (S1 text text.size st pc s hd om [fr1 s om] 1 (some false) seen) P) : Goes 6 (A1 text text.size s om seen) P := by
  unfold A1
  refine Goes.step (k := 5) rfl ?_
  rw [s1_at]
  cases ha : (s == 0 || text.getD (s - 1) 0 == 10) with
  | false =>
    rw [if_neg Bool.false_ne_true]
    exact (hn (by unfold at1; rw [ha]; rfl) _ _ _ _).le (by lia)
  | true =>
    rw [if_pos rfl]
    refine Goes.step (k := 4) rfl ?_
    rw [s1_lit]
    by_cases hl : s ≥ text.size
    · rw [if_pos hl]
      exact (hn (by unfold at1; rw [ha]; simp; lia) _ _ _ _).le (by lia)
    · rw [if_neg hl]
      cases hc : (text.getD s 0 == 46) with
      | false => exact (hn (by unfold at1; rw [hc]; simp) _ _ _ _).le (by lia)
      | true =>
        refine Goes.step (k := 3) rfl ?_
        rw [s1_suc]
        refine Goes.step (k := 2) rfl ?_
        rw [s1_yes]
        refine Goes.step (k := 1) rfl ?_
        rw [s1_end]
        refine (Goes.here (hy ?_ _ ⟨rfl, rfl, rfl⟩)).le (by lia)
        unfold at1; rw [ha, hc]; simp; lia
/-- the first place at or behind s where the dot stands at a line's head -/
noncomputable def next1 (text : Array Nat) : (n s : Nat) → Option Nat
  | 0, _ => none
  | n + 1, s => if at1 text s then some s else next1 text n (s + 1)
theorem goes1 (text : Array Nat) : ∀ (n s : Nat) (om : Bool) (seen : Seen), s + n = text.size → Goes (7 * n + 8) (A1 text text.size s om seen) fun m => match next1 text n s with
    | some p => Found text p (p + 1) m
    | none => Lost m := by
  intro n
  induction n with
  | zero =>
    intro s om seen hs
    refine (try1 text s om seen (P := fun m => Goes 2 m Lost) ?_ ?_).then (k' := 2) (fun m h => h)
    · intro h; unfold at1 at h; simp at h; lia
    · intro _ st pc hd seen
      refine Goes.step rfl ?_
      rw [s1_no, if_neg (by lia)]
      refine Goes.here ?_
      refine (Goes.step (k := 0) rfl ?_).le (by lia)
      rw [s1_end]
      exact Goes.here rfl
  | succ n ih =>
    intro s om seen hs
    have hlt : s < text.size := by lia
    show Goes _ _ fun m => match (if at1 text s then some s else next1 text n (s + 1)) with | some p => _ | none => _
    refine ((try1 text s om seen (P := fun m => Goes (7 * n + 8) m fun m => match (if at1 text s then some s else next1 text n (s + 1)) with | some p => Found text p (p + 1) m | none => Lost m) ?_ ?_).then (k' := 7 * n + 8) (fun m h => h)).le (by lia)
    · intro h m hm
      rw [if_pos h]
      exact (Goes.here hm).le (by lia)
    · intro h st pc hd seen
      refine Goes.step (k := 0) rfl ?_
      rw [s1_no, if_pos hlt]
      refine Goes.here ?_
      simp only [h, Bool.false_eq_true, if_false]
      exact ih (s + 1) false seen (by lia)
theorem found1 (text : Array Nat) (s : Nat) (hs : s ≤ text.size) : Goes (7 * text.size + 10) (Sre.forSearch c1 text 0 s text.size false) fun m => match next1 text (text.size - s) s with
    | some p => Found text p (p + 1) m
    | none => Lost m := by
  rw [search1]
  by_cases h : s < text.size
  · rw [if_pos h]
    exact (goes1 text (text.size - s) s true _ (by lia)).le (by lia)
  · rw [if_neg h]
    have : text.size - s = 0 := by lia
    rw [this]
    refine (Goes.step (k := 0) rfl (Goes.here ?_)).le (by lia)
    exact rfl

noncomputable def S3 (text : Array Nat) (lim start pc pos handed : Nat) (om : Bool) (frames : List Sre.Frame) (w : Nat) (ans : Option Bool) (seen : Seen) : M :=
  { code := c3, text, lim, start, lastStart := lim, pc, pos, handed, outermost := om, marks := #[], frames, weight := w, answer := ans, seen }
noncomputable def fr3 (p : Nat) (om : Bool) : Sre.Frame := { wait := .nextStart, pc := 10, pos := p, outermost := om }
noncomputable def kp3 : Sre.Kept := { lastmark := -1, lastindex := -1, whole := false, marks := #[] }
noncomputable def br3 (k p : Nat) (om : Bool) : Sre.Frame := { wait := .nextBranch, pc := k, pos := p, outermost := om, kept := kp3 }
noncomputable def lk3 (p : Nat) (om : Bool) : Sre.Frame := { wait := .lookNot, pc := 26, pos := p, outermost := om, kept := kp3 }
noncomputable def A3 (text : Array Nat) (lim s : Nat) (om : Bool) (seen : Seen) : M := S3 text lim s 10 s s om [fr3 s om] 1 none seen
theorem inSet3 (c : Nat) (seen : Seen) : Sre.inSet c3 c 36 5 true seen = if (c == 10) = true then .ok (true, seen.add 16) else if (c == 13) = true then .ok (true, (seen.add 16).add 16) else .ok (false, ((seen.add 16).add 16).add 0) := rfl
/-- the first place at or behind s that holds a feed or a return -/
noncomputable def next3 (text : Array Nat) : (n s : Nat) → Option Nat
  | 0, _ => none
  | n + 1, s => if (text.getD s 0 == 10 || text.getD s 0 == 13) then some s else next3 text n (s + 1)
theorem adm3 {m : M} (hc : m.code = c3) : ∀ (n s : Nat) (seen : Seen), s + n = m.lim → ∃ seen', M.admitted m (n + 1) s seen = .ok (next3 m.text n s, seen') := by
  intro n
  induction n with
  | zero =>
    intro s seen h
    refine ⟨seen, ?_⟩
    show (if s ≥ m.lim then _ else _) = _
    rw [if_pos (by lia)]; rfl
  | succ n ih =>
    intro s seen h
    have e : M.admitted m (n + 1 + 1) s seen = if s ≥ m.lim then .ok (none, seen) else match Sre.inSet m.code (m.text.getD s 0) m.code.size 5 true seen with
      | .ok (true, seen) => .ok (some s, seen)
      | .ok (false, seen) => M.admitted m (n + 1) (s + 1) seen
      | .error why => .error why := rfl
    rw [e, if_neg (by lia), hc, show c3.size = 36 from rfl, inSet3]
    show ∃ seen', _ = Except.ok ((if (m.text.getD s 0 == 10 || m.text.getD s 0 == 13) then some s else next3 m.text n (s + 1)), seen')
    cases h1 : (m.text.getD s 0 == 10) with
    | true => exact ⟨seen.add 16, by simp⟩
    | false =>
      cases h2 : (m.text.getD s 0 == 13) with
      | true => exact ⟨(seen.add 16).add 16, by simp⟩
      | false =>
        obtain ⟨seen', e'⟩ := ih (s + 1) (((seen.add 16).add 16).add 0) (by lia)
        refine ⟨seen', ?_⟩
        simp only [Bool.false_eq_true, if_false, Bool.or_false]
        exact e'
section
variable (text : Array Nat) (lim st pos hd p : Nat) (om om' : Bool) (fr : List Sre.Frame) (w : Nat) (seen : Seen)
theorem s3_br : (S3 text lim st 10 pos hd om fr 1 none seen).step = S3 text lim st 12 pos pos om (br3 11 pos om :: fr) 2 none (seen.add 7) := rfl
theorem s3_lit12 : (S3 text lim st 12 pos hd om fr w none seen).step = if pos ≥ lim then S3 text lim st 12 pos hd om fr w (some false) (seen.add 16) else match (text.getD pos 0 == 13) with
  | true => S3 text lim st 14 (pos + 1) hd om fr w none (seen.add 16)
  | false => S3 text lim st 12 pos hd om fr w (some false) (seen.add 16) := by
  show (if pos ≥ lim then _ else _) = _
  by_cases h : pos ≥ lim
  · rw [if_pos h, if_pos h]; rfl
  · rw [if_neg h, if_neg h]
    show (match Except.ok (ε := String) ((text.getD pos 0 == 13), seen.add 16) with | .error why => _ | .ok (false, seen) => _ | .ok (true, seen) => _) = _
    cases (text.getD pos 0 == 13) <;> rfl
theorem s3_lit14 : (S3 text lim st 14 pos hd om fr w none seen).step = if pos ≥ lim then S3 text lim st 14 pos hd om fr w (some false) (seen.add 16) else match (text.getD pos 0 == 10) with
  | true => S3 text lim st 16 (pos + 1) hd om fr w none (seen.add 16)
  | false => S3 text lim st 14 pos hd om fr w (some false) (seen.add 16) := by
  show (if pos ≥ lim then _ else _) = _
  by_cases h : pos ≥ lim
  · rw [if_pos h, if_pos h]; rfl
  · rw [if_neg h, if_neg h]
    show (match Except.ok (ε := String) ((text.getD pos 0 == 10), seen.add 16) with | .error why => _ | .ok (false, seen) => _ | .ok (true, seen) => _) = _
    cases (text.getD pos 0 == 10) <;> rfl
theorem s3_lit19 : (S3 text lim st 19 pos hd om fr w none seen).step = if pos ≥ lim then S3 text lim st 19 pos hd om fr w (some false) (seen.add 16) else match (text.getD pos 0 == 10) with
  | true => S3 text lim st 21 (pos + 1) hd om fr w none (seen.add 16)
  | false => S3 text lim st 19 pos hd om fr w (some false) (seen.add 16) := by
  show (if pos ≥ lim then _ else _) = _
  by_cases h : pos ≥ lim
  · rw [if_pos h, if_pos h]; rfl
  · rw [if_neg h, if_neg h]
    show (match Except.ok (ε := String) ((text.getD pos 0 == 10), seen.add 16) with | .error why => _ | .ok (false, seen) => _ | .ok (true, seen) => _) = _
    cases (text.getD pos 0 == 10) <;> rfl
theorem s3_lit24 : (S3 text lim st 24 pos hd om fr w none seen).step = if pos ≥ lim then S3 text lim st 24 pos hd om fr w (some false) (seen.add 16) else match (text.getD pos 0 == 13) with
  | true => S3 text lim st 26 (pos + 1) hd om fr w none (seen.add 16)
  | false => S3 text lim st 24 pos hd om fr w (some false) (seen.add 16) := by
  show (if pos ≥ lim then _ else _) = _
  by_cases h : pos ≥ lim
  · rw [if_pos h, if_pos h]; rfl
  · rw [if_neg h, if_neg h]
    show (match Except.ok (ε := String) ((text.getD pos 0 == 13), seen.add 16) with | .error why => _ | .ok (false, seen) => _ | .ok (true, seen) => _) = _
    cases (text.getD pos 0 == 13) <;> rfl
theorem s3_lit29 : (S3 text lim st 29 pos hd om fr w none seen).step = if pos ≥ lim then S3 text lim st 29 pos hd om fr w (some false) (seen.add 16) else match (text.getD pos 0 == 10) with
  | true => S3 text lim st 31 (pos + 1) hd om fr w none (seen.add 16)
  | false => S3 text lim st 29 pos hd om fr w (some false) (seen.add 16) := by
  show (if pos ≥ lim then _ else _) = _
  by_cases h : pos ≥ lim
  · rw [if_pos h, if_pos h]; rfl
  · rw [if_neg h, if_neg h]
    show (match Except.ok (ε := String) ((text.getD pos 0 == 10), seen.add 16) with | .error why => _ | .ok (false, seen) => _ | .ok (true, seen) => _) = _
    cases (text.getD pos 0 == 10) <;> rfl
theorem s3_j16 : (S3 text lim st 16 pos hd om fr w none seen).step = S3 text lim st 35 pos hd om fr w none (seen.add 15) := rfl
theorem s3_j21 : (S3 text lim st 21 pos hd om fr w none seen).step = S3 text lim st 35 pos hd om fr w none (seen.add 15) := rfl
theorem s3_j32 : (S3 text lim st 32 pos hd om fr w none seen).step = S3 text lim st 35 pos hd om fr w none (seen.add 15) := rfl
theorem s3_suc : (S3 text lim st 35 pos hd om fr w none seen).step = S3 text lim st 35 pos pos om fr w (some true) (seen.add 1) := by
  cases om <;> rfl
theorem s3_suc31 : (S3 text lim st 31 pos hd om fr w none seen).step = S3 text lim st 31 pos pos om fr w (some true) (seen.add 1) := by
  cases om <;> rfl
theorem s3_yesb (pc k : Nat) : (S3 text lim st pc pos hd om (br3 k p om' :: fr) 2 (some true) seen).step = S3 text lim st k p hd om' fr 1 (some true) seen := rfl
theorem s3_yes (pc : Nat) : (S3 text lim st pc pos hd om [fr3 p om'] 1 (some true) seen).step = S3 text lim st 10 p hd om' [] 0 (some true) seen := rfl
theorem s3_end (b : Bool) (pc : Nat) : (S3 text lim st pc pos hd om [] 0 (some b) seen).step = { S3 text lim st pc pos hd om [] 0 (some b) seen with outcome := some (if b then .matched else .failed) } := rfl
theorem s3_alt2 (pc : Nat) : (S3 text lim st pc pos hd om (br3 11 p om' :: fr) 2 (some false) seen).step = S3 text lim st 19 p p om' (br3 18 p om' :: fr) 2 none seen := rfl
theorem s3_alt3 (pc : Nat) : (S3 text lim st pc pos hd om (br3 18 p om' :: fr) 2 (some false) seen).step = S3 text lim st 24 p p om' (br3 23 p om' :: fr) 2 none seen := rfl
theorem s3_not : (S3 text lim st 26 (pos + 1) hd om fr 2 none seen).step = S3 text lim st 29 (pos + 1) (pos + 1) false (lk3 (pos + 1) om :: fr) 3 none (seen.add 5) := rfl
theorem s3_notno (pc : Nat) : (S3 text lim st pc pos hd om (lk3 p om' :: fr) 3 (some false) seen).step = S3 text lim st 32 p hd om' fr 2 none seen := rfl
end
/-- what an end spans: two signs for a return and a feed, else one -/
noncomputable def span3 (text : Array Nat) (p : Nat) : Nat := if text.getD p 0 == 13 && decide (p + 1 < text.size) && text.getD (p + 1) 0 == 10 then 2 else 1
theorem fin3 (text : Array Nat) (lim p e hd : Nat) (om : Bool) (k : Nat) (seen : Seen) : Goes 4 (S3 text lim p 35 e hd om [br3 k p om, fr3 p om] 2 none seen) (Found text p e) := by
  refine Goes.step (k := 3) rfl ?_
  rw [s3_suc]
  refine Goes.step (k := 2) rfl ?_
  rw [s3_yesb]
  refine Goes.step (k := 1) rfl ?_
  rw [s3_yes]
  refine Goes.step (k := 0) rfl (Goes.here ?_)
  rw [s3_end]
  exact ⟨rfl, rfl, rfl⟩
theorem try3 (text : Array Nat) (p : Nat) (om : Bool) (seen : Seen) (hp : p < text.size) (h : (text.getD p 0 == 10 || text.getD p 0 == 13) = true) : Goes 20 (A3 text text.size p om seen) (Found text p (p + span3 text p)) := by
  unfold A3
  refine Goes.step (k := 19) rfl ?_
  rw [s3_br]
  refine Goes.step (k := 18) rfl ?_
  rw [s3_lit12, if_neg (by lia)]
  cases h13 : (text.getD p 0 == 13) with
  | false =>
    have h10 : (text.getD p 0 == 10) = true := by rw [h13] at h; simpa using h
    have hs : span3 text p = 1 := by unfold span3; rw [h13]; rfl
    rw [hs]
    refine Goes.step (k := 17) rfl ?_
    rw [s3_alt2]
    refine Goes.step (k := 16) rfl ?_
    rw [s3_lit19, if_neg (by lia), h10]
    refine Goes.step (k := 15) rfl ?_
    rw [s3_j21]
    exact (fin3 _ _ _ _ _ _ _ _).le (by lia)
  | true =>
    have hne : (text.getD p 0 == 10) = false := by
      have := beq_iff_eq.mp h13
      rw [this]; rfl
    refine Goes.step (k := 17) rfl ?_
    rw [s3_lit14]
    -- the third way, shared
    have third : span3 text p = 1 → (p + 1 ≥ text.size ∨ (text.getD (p + 1) 0 == 10) = false) → ∀ pc pos hd om' seen, Goes 16 (S3 text text.size p pc pos hd om' [br3 11 p om, fr3 p om] 2 (some false) seen) (Found text p (p + span3 text p)) := by
      intro hs ho pc pos hd om' seen
      rw [hs]
      refine Goes.step (k := 15) rfl ?_
      rw [s3_alt2]
      refine Goes.step (k := 14) rfl ?_
      rw [s3_lit19, if_neg (by lia), hne]
      refine Goes.step (k := 13) rfl ?_
      rw [s3_alt3]
      refine Goes.step (k := 12) rfl ?_
      rw [s3_lit24, if_neg (by lia), h13]
      refine Goes.step (k := 11) rfl ?_
      rw [s3_not]
      refine Goes.step (k := 10) rfl ?_
      rw [s3_lit29]
      have tail : ∀ pc pos hd om' seen, Goes 9 (S3 text text.size p pc pos hd om' [lk3 (p + 1) om, br3 23 p om, fr3 p om] 3 (some false) seen) (Found text p (p + 1)) := by
        intro pc pos hd om' seen
        refine Goes.step (k := 8) rfl ?_
        rw [s3_notno]
        refine Goes.step (k := 7) rfl ?_
        rw [s3_j32]
        exact (fin3 _ _ _ _ _ _ _ _).le (by lia)
      rcases ho with ho | ho
      · rw [if_pos ho]; exact (tail _ _ _ _ _).le (by lia)
      · by_cases hl : p + 1 ≥ text.size
        · rw [if_pos hl]; exact (tail _ _ _ _ _).le (by lia)
        · rw [if_neg hl, ho]; exact (tail _ _ _ _ _).le (by lia)
    by_cases hl : p + 1 ≥ text.size
    · rw [if_pos hl]
      exact (third (by unfold span3; rw [h13, decide_eq_false (by lia)]; rfl) (.inl hl) _ _ _ _ _).le (by lia)
    · rw [if_neg hl]
      cases h10 : (text.getD (p + 1) 0 == 10) with
      | false => exact (third (by unfold span3; rw [h10]; simp) (.inr h10) _ _ _ _ _).le (by lia)
      | true =>
        have hs : span3 text p = 2 := by unfold span3; rw [h13, h10, decide_eq_true (by lia)]; rfl
        rw [hs]
        refine Goes.step (k := 16) rfl ?_
        rw [s3_j16]
        exact (fin3 _ _ _ _ _ _ _ _).le (by lia)
theorem search3 (text : Array Nat) (s : Nat) : Sre.forSearch c3 text 0 s text.size false = if s < text.size then
      ({ (S3 text text.size s 10 s s true [] 0 none (({} : Seen).add 14)) with lastStart := text.size } : M).attemptFrom s true else
    { (S3 text text.size s 10 s s true [] 0 (some false) (({} : Seen).add 14)) with lastStart := 0 } := by
  by_cases h : s < text.size
  · rw [if_pos h]
    have h1 : (decide (s > text.size) || decide (text.size - s < 1)) = false := by simp; lia
    show (if (decide (s > text.size) || decide (text.size - s < 1)) = true then _ else _) = _
    rw [h1, if_neg Bool.false_ne_true]
    rfl
  · rw [if_neg h]
    have h1 : (decide (s > text.size) || decide (text.size - s < 1)) = true := by simp; lia
    show (if (decide (s > text.size) || decide (text.size - s < 1)) = true then _ else _) = _
    rw [h1, if_pos rfl]
    rfl
theorem next3_some {text : Array Nat} : ∀ {n s p : Nat}, next3 text n s = some p → s ≤ p ∧ p < s + n ∧ (text.getD p 0 == 10 || text.getD p 0 == 13) = true := by
  intro n
  induction n with
  | zero => intro s p h; cases h
  | succ n ih =>
    intro s p h
    unfold next3 at h
    split at h
    · rename_i h1; cases h; exact ⟨Nat.le_refl _, by lia, h1⟩
    · have := ih h; exact ⟨by lia, by lia, this.2.2⟩
theorem from3 (text : Array Nat) (s : Nat) (seen : Seen) (h : s < text.size) : Goes 22 (({ (S3 text text.size s 10 s s true [] 0 none seen) with lastStart := text.size } : M).attemptFrom s true) fun m => match next3 text (text.size - s) s with
    | some p => Found text p (p + span3 text p) m
    | none => Lost m := by
  obtain ⟨seen', e⟩ := adm3 (m := ({ (S3 text text.size s 10 s s true [] 0 none seen) with lastStart := text.size } : M)) rfl (text.size - s) s seen (by show s + (text.size - s) = text.size; lia)
  have hf : ({ (S3 text text.size s 10 s s true [] 0 none seen) with lastStart := text.size } : M).attemptFrom s true = (match M.admitted ({ (S3 text text.size s 10 s s true [] 0 none seen) with lastStart := text.size } : M) (text.size + 1 - s) s seen with
      | .ok (some s', seen) => A3 text text.size s' true seen
      | .ok (none, seen) => S3 text text.size s 10 s s true [] 0 (some false) seen
      | .error why => M.stick ({ (S3 text text.size s 10 s s true [] 0 none seen) with lastStart := text.size } : M) why) := by
    show (match M.admitted ({ (S3 text text.size s 10 s s true [] 0 none seen) with lastStart := text.size } : M) (text.size + 1 - s) s seen with
      | .ok (some s', seen) => _
      | .ok (none, seen) => _
      | .error why => _) = _
    split <;> rfl
  replace e : M.admitted ({ (S3 text text.size s 10 s s true [] 0 none seen) with lastStart := text.size } : M) (text.size - s + 1) s seen = .ok (next3 text (text.size - s) s, seen') := e
  rw [hf, show text.size + 1 - s = (text.size - s) + 1 by lia, e]
  cases hn : next3 text (text.size - s) s with
  | none =>
    dsimp only
    refine (Goes.step (k := 0) rfl (Goes.here ?_)).le (by lia)
    exact rfl
  | some p =>
    have := next3_some hn
    dsimp only
    exact (try3 text p true seen' (by lia) this.2.2).le (by lia)
theorem found3 (text : Array Nat) (s : Nat) (hs : s ≤ text.size) : Goes 22 (Sre.forSearch c3 text 0 s text.size false) fun m => match next3 text (text.size - s) s with
    | some p => Found text p (p + span3 text p) m
    | none => Lost m := by
  rw [search3]
  by_cases h : s < text.size
  · rw [if_pos h]
    exact from3 text s _ h
  · rw [if_neg h]
    have : text.size - s = 0 := by lia
    rw [this]
    refine (Goes.step (k := 0) rfl (Goes.here ?_)).le (by lia)
    exact rfl
end Mine
end R1
section R2
open PySem PySem.W PyProof.Rows PySem.Calls PySem.Spec PyProof.V PySem.SeqAt
set_option maxRecDepth 100000
namespace Mine
section
variable {M : Model} {A : Around} {E : Value → Shared → Prop} {s : Shared}
theorem drive : ∀ (turns k : Nat) (m : Sre.M) {Q : Sre.M → Shared → Prop}, k < 4 * turns → (Sre.M.runFor k m).outcome.isSome = true → Q (Sre.M.runFor k m) s → wpAny M A (Builtin.Re.reDrive turns m) Q E s := by
  intro turns
  induction turns with
  | zero => intro k m Q hk; omega
  | succ n ih =>
    intro k m Q hk ho hQ
    show wpAny M A (if (Sre.M.runFor 4 m).outcome.isSome = true then pure (Sre.M.runFor 4 m) else do rule "sre.turn"; Builtin.Re.reDrive n (Sre.M.runFor 4 m)) Q E s
    by_cases h4 : (Sre.M.runFor 4 m).outcome.isSome = true
    · rw [if_pos h4]
      refine wpAny_pure ?_
      rcases Nat.le_total k 4 with h | h
      · have e : Sre.M.runFor 4 m = Sre.M.runFor k m := by
          rw [show 4 = k + (4 - k) by omega, runFor_add, runFor_done _ ho]
        rw [e]; exact hQ
      · have e : Sre.M.runFor k m = Sre.M.runFor 4 m := by
          rw [show k = 4 + (k - 4) by omega, runFor_add, runFor_done _ h4]
        rw [← e]; exact hQ
    · rw [if_neg h4]
      refine wpAny_bind (wpAny_rule ?_)
      have hk4 : 4 < k := by
        rcases Nat.lt_or_ge 4 k with h | h
        · exact h
        · exfalso
          apply h4
          rw [show 4 = k + (4 - k) by omega, runFor_add, runFor_done _ ho]
          exact ho
      have e : Sre.M.runFor k m = Sre.M.runFor (k - 4) (Sre.M.runFor 4 m) := by
        rw [← runFor_add, show 4 + (k - 4) = k by omega]
      rw [e] at ho hQ
      exact ih (k - 4) _ (by omega) ho hQ
theorem forIn_skip {f : Nat → PUnit → Sem (ForInStep PUnit)} (hf : ∀ i (Q : ForInStep PUnit → Shared → Prop), Q (.yield ⟨⟩) s → wpAny M A (f i ⟨⟩) Q E s) : ∀ (l : List Nat) {Q : PUnit → Shared → Prop}, Q ⟨⟩ s → wpAny M A (forIn l PUnit.unit f) Q E s := by
  intro l
  induction l with
  | nil => intro Q h; rw [List.forIn_nil]; exact wpAny_pure h
  | cons i l ih =>
    intro Q h
    rw [List.forIn_cons]
    exact wpAny_bind (hf i _ (ih h))
theorem run_end {k : Nat} {m : Sre.M} {P : Sre.M → Prop} {Q : Option Sre.M → Shared → Prop} (h : Goes k m P) (hk : k < 4 * 2 ^ 64)
    (hP : ∀ m', P m' → (m'.outcome = some .matched ∧ Q (some m') s) ∨ (m'.outcome = some .failed ∧ Q none s)) : wpAny M A (Builtin.Re.reRunToEnd m) Q E s := by
  obtain ⟨j, hj, hp⟩ := h
  unfold Builtin.Re.reRunToEnd
  have ho : (Sre.M.runFor j m).outcome.isSome = true := by
    rcases hP _ hp with h | h <;> rw [h.1] <;> rfl
  refine wpAny_bind (drive (2 ^ 64) j m (by omega) ho ?_)
  refine wpAny_bind (forIn_skip (fun i Q hQ => ?_) _ ?_)
  · split
    · exact wpAny_bind (wpAny_rule (wpAny_pure hQ))
    · exact wpAny_pure hQ
  · rcases hP _ hp with h | h
    · rw [h.1]; exact wpAny_pure h.2
    · rw [h.1]; exact wpAny_pure h.2
end
end Mine
end R2
section R3
open PySem PySem.W PyProof.Rows PySem.Calls PySem.Spec PyProof.V PySem.SeqAt
set_option maxRecDepth 100000
namespace Mine
theorem look_buffer : typeLookup (.type "bytes") "__buffer__" = pure (some (.builtin "bytes.__buffer__")) := by rw [typeLookup_type, builtinLookup_eq_fast]; kernel_rfl
theorem look_release : typeLookup (.type "bytes") "__release_buffer__" = pure none := by rw [typeLookup_type, builtinLookup_eq_fast]; kernel_rfl
theorem sub_bytes : isSubtype (.type "bytes") (.type "bytes") = pure true := by rw [isSubtype_type]; kernel_rfl
theorem special_buffer (b : Array UInt8) (t : Tok) : specialOf (.bytes b t) "__buffer__" = pure (some (.builtin "bytes.__buffer__")) := look_buffer
theorem special_release (b : Array UInt8) (t : Tok) : specialOf (.bytes b t) "__release_buffer__" = pure none := look_release
theorem own_buffer (b : Array UInt8) (t : Tok) : Builtin.Bytes.slotIsOwn (.bytes b t) "__buffer__" = pure true := by
  unfold Builtin.Bytes.slotIsOwn
  rw [special_buffer]
  show (if (!("bytes.__buffer__".endsWith ("." ++ "__buffer__"))) = true then _ else isInstance (.bytes b t) (.type ("bytes.__buffer__".dropRight ("__buffer__".length + 1)))) = _
  rw [show (!("bytes.__buffer__".endsWith ("." ++ "__buffer__"))) = false by decide +kernel, if_neg Bool.false_ne_true,
    show ("bytes.__buffer__".dropRight ("__buffer__".length + 1)) = "bytes" by decide +kernel]
  exact sub_bytes
theorem own_release (b : Array UInt8) (t : Tok) : Builtin.Bytes.ownRelease (.bytes b t) = pure false := by
  unfold Builtin.Bytes.ownRelease Builtin.Bytes.slotIsOwn
  rw [special_release]
  rfl
theorem buffer_bytes (id : String) (b : Array UInt8) (t : Tok) (full : Bool) : Builtin.Bytes.buffer? id (.bytes b t) full = pure (some b) := by
  unfold Builtin.Bytes.buffer?
  rw [special_buffer, own_buffer, own_release]
  rfl
theorem bufferQuiet_bytes (id : String) (b : Array UInt8) (t : Tok) : Builtin.Bytes.bufferQuiet? id (.bytes b t) = pure (some b) := by
  unfold Builtin.Bytes.bufferQuiet?
  rw [buffer_bytes]; rfl
theorem takeQuiet_bytes (id : String) (b : Array UInt8) (t : Tok) : Builtin.Bytes.takeBufferQuiet? id (.bytes b t) 0 = pure (some (b, none)) := by
  unfold Builtin.Bytes.takeBufferQuiet? Builtin.Bytes.takeBuffer?
  rw [special_buffer, own_buffer, buffer_bytes]; rfl
/-- a text (false) or octets (true) -/
noncomputable def mkT (k : Bool) (w : Array Nat) (t : Tok) : Value := if k then .bytes (w.map Nat.toUInt8) t else .str ⟨w⟩ t
noncomputable def low (k : Bool) (w : Array Nat) : Prop := k = true → ∀ c ∈ w.toList, c < 256
theorem low_map (w : Array Nat) (h : ∀ c ∈ w.toList, c < 256) : (w.map Nat.toUInt8).map (·.toNat) = w := by
  apply Array.toList_inj.mp
  simp only [Array.toList_map, List.map_map]
  conv => rhs; rw [← List.map_id w.toList]
  apply List.map_congr_left
  intro c hc
  simp only [Function.comp, id]
  have := h c hc
  simp [Nat.toUInt8, UInt8.toNat_ofNat']
  omega
theorem textOf_mkT (k : Bool) (w : Array Nat) (t : Tok) (h : low k w) : Builtin.Re.reTextOf (mkT k w t) = pure (w, if k then 1 else 0) := by
  cases k with
  | false => rfl
  | true =>
    show Builtin.Re.reTextOf (.bytes (w.map Nat.toUInt8) t) = pure (w, 1)
    unfold Builtin.Re.reTextOf
    rw [bufferQuiet_bytes]
    show (pure ((w.map Nat.toUInt8).map (·.toNat), 1) : Sem (Array Nat × Nat)) = _
    rw [low_map w (h rfl)]
theorem noColl_mkT (k : Bool) (w : Array Nat) (t : Tok) : Builtin.Re.reNoCollectionInside (mkT k w t) (if k then 1 else 0) = pure () := by
  cases k with
  | false => rfl
  | true =>
    have e : isInstance (.bytes (w.map Nat.toUInt8) t) (.type "bytes") = pure true := sub_bytes
    unfold Builtin.Re.reNoCollectionInside mkT
    simp only [if_true]
    rw [e]; rfl
theorem notTurned_mkT (k : Bool) (w : Array Nat) (t : Tok) : Builtin.Re.reLiteralCannotBeTurned (mkT k w t) = pure () := by
  cases k with
  | false => rfl
  | true =>
    have e : isInstance (.bytes (w.map Nat.toUInt8) t) (.type "bytes") = pure true := sub_bytes
    unfold Builtin.Re.reLiteralCannotBeTurned mkT
    simp only [if_true]
    rw [e]; rfl
end Mine
end R3
section R4
open PySem PySem.W PyProof.Rows PySem.Calls PySem.Spec PyProof.V PySem.SeqAt
set_option maxRecDepth 100000
namespace Mine
section
variable {M : Model} {A : Around} {E : Value → Shared → Prop} {s : Shared}
/-- a compiled pattern p with the words c stands in the heap -/
structure PatAt (h : Heap) (k : Bool) (p : Addr) (c : Array Nat) : Prop where
  ex : ∃ op fs ca oc items nn, h.get? p = some op ∧ op.cls = .type "re.Pattern" ∧ op.dict = none ∧ op.data = .fields fs ∧ fs.getD 6 .none = .int (if k then 1 else 0) 0 ∧ fs.getD 5 .none = .ref ca ∧ Builtin.Re.reRawNat (fs.getD 2 .none) = 0 ∧
    h.get? ca = some oc ∧ oc.data = .seq items nn ∧ (items.map Builtin.Re.reRawOf).map (·.toNat) = c
theorem PatAt.keeps {h h' : Heap} {k : Bool} {p : Addr} {c : Array Nat} (P : PatAt h k p c) (hk : ∀ b o, h.get? b = some o → h'.get? b = some o) : PatAt h' k p c := by
  obtain ⟨op, fs, ca, oc, items, nn, h1, h2, h3, h4, h5, h6, h7, h8, h9, h10⟩ := P.ex
  exact ⟨⟨op, fs, ca, oc, items, nn, hk _ _ h1, h2, h3, h4, h5, h6, h7, hk _ _ h8, h9, h10⟩⟩
theorem whole {k : Bool} {p : Addr} {c w : Array Nat} {td : Tok} {Q : Builtin.Re.ReTarget → Shared → Prop} (P : PatAt s.heap k p c) (hl : low k w)
    (h : Q { pattern := .ref p, string := mkT k w td, code := c, text := w, kind := if k then 1 else 0, groups := 0, pos := 0, lim := w.size } s) :
    wpAny M A (Builtin.Re.reWholeTarget (.ref p) (mkT k w td)) Q E s := by
  obtain ⟨op, fs, ca, oc, items, nn, h1, h2, h3, h4, h5, h6, h7, h8, h9, h10⟩ := P.ex
  unfold Builtin.Re.reWholeTarget
  refine wpAny_bind (wpAny_fieldsOf h1 h4 ?_)
  refine wpAny_bind (wpAny_of_eq (textOf_mkT k w td hl) ?_)
  have hw : Builtin.Re.reRawNat (fs.getD 6 .none) = if k then 1 else 0 := by rw [h5]; cases k <;> rfl
  have fin : wpAny M A (do
      Builtin.Re.reNoCollectionInside (mkT k w td) (if k then 1 else 0)
      pure ({ pattern := .ref p, string := mkT k w td, code := (← Builtin.Re.reRawItems (fs.getD 5 .none)).map (·.toNat), text := w, kind := if k then 1 else 0, groups := Builtin.Re.reRawNat (fs.getD 2 .none), pos := 0, lim := w.size } : Builtin.Re.ReTarget)) Q E s := by
    refine wpAny_bind (wpAny_of_eq (noColl_mkT k w td) ?_)
    rw [h6, h7]
    unfold Builtin.Re.reRawItems
    refine wpAny_bind (wpAny_bind (wpAny_seqItems h8 h9 (wpAny_pure ?_)))
    refine wpAny_pure ?_
    show Q { pattern := .ref p, string := mkT k w td, code := (items.map Builtin.Re.reRawOf).map (·.toNat), text := w, kind := if k then 1 else 0, groups := 0, pos := 0, lim := w.size } s
    rw [h10]
    exact h
  dsimp only
  rw [hw]
  cases k
  · exact fin
  · exact fin
theorem slice_T {k : Bool} {w : Array Nat} {b e : Nat} {Q : Value → Shared → Prop} (hz : w.size ≤ sizeLine) (h : ∀ t tk, Q (mkT k (w.extract b e) t) { s with toks := tk }) :
    wpAny M A (Builtin.Re.reSlice w (if k then 1 else 0) b e) Q E s := by
  cases k with
  | false => exact wpAny_mkStr (h _ _) (by show (w.extract b e).size ≤ _; simp; omega)
  | true => exact wpAny_mkBytes (h _ _) (by simp; omega)
end
/-- the values ws' of a list of pieces -/
inductive Pcs (k : Bool) : List Value → List (Array Nat) → Prop
  | nil : Pcs k [] []
  | cons (w : Array Nat) (t : Tok) {us ws} : Pcs k us ws → Pcs k (mkT k w t :: us) (w :: ws)
theorem Pcs.snoc {k : Bool} {us : List Value} {ws : List (Array Nat)} (h : Pcs k us ws) (w : Array Nat) (t : Tok) : Pcs k (us ++ [mkT k w t]) (ws ++ [w]) := by
  induction h with
  | nil => exact .cons w t .nil
  | cons v u _ ih => exact .cons v u ih
theorem Pcs.length {k : Bool} {us : List Value} {ws : List (Array Nat)} (h : Pcs k us ws) : us.length = ws.length := by
  induction h with
  | nil => rfl
  | cons v u _ ih => simp [ih]
noncomputable def catA (ws : List (Array Nat)) : List Nat := (ws.map (·.toList)).flatten
section
variable {prog : Program} {w : World} {A : Around} {E : Value → Shared → Prop} {s : Shared} {h₀ : Heap} {L : Addr} {m : Str → Option Value} {news : List (Addr × Obj)}
theorem push_seq {D : Addr} {its : Array Value} {n : Nat} {x : Value} {Q : Unit → Shared → Prop} (F : Fr h₀ L s.heap m) (N : News h₀ L s.heap ((D, listOf its n) :: news)) (hap : ∀ p ∈ news, p.1 ≠ D)
    (h : ∀ h', Fr h₀ L h' m → News h₀ L h' ((D, listOf (its.push x) (n + 1)) :: news) → Q () { s with heap := h' }) (hsz : its.size ≤ 1000000) :
    wpAny (model prog w) A (updateSeq D (·.push x)) Q E s := by
  refine wpAny_updateSeq (N.get (.head _)) rfl (h _ ?_ ?_) (by unfold sizeLine; omega) (by simp; unfold sizeLine; omega)
  · exact F.change (Heap.SameBut.update ..) (N _ (.head _)).2.1 (N _ (.head _)).2.2
  · refine N.setHead hap (Heap.SameBut.update ..) ?_
    have ho : s.heap.get? D = some { cls := .type "list", data := .seq its n } := N.get (.head _)
    rw [Heap.get?_update_self _ ho (by rw [mapSeq_push]; rfl), mapSeq_push]
end
end Mine
end R4
section V1
open PySem PySem.W PyProof.Rows PySem.Calls PySem.Spec PyProof.V PySem.SeqAt
set_option pp.structureInstances false
set_option maxRecDepth 100000
set_option maxHeartbeats 8000000
namespace Mine
local macro_rules | `(tactic| walk_at "ENTER") => `(tactic| ((case kA => exact rfl); (case kF => exact rfl); (case kK => assumption); (case k6 => k_is); (case k7 => k_is); (case k8 => ktr_room); (case k9 => exact BindsTo.of_eq rfl); (case c5 => decide); (case kB => exact locs rfl); (case c2 => exact rfl); (case c3 => exact rfl); (case c4 => exact rfl)))
noncomputable def wordL (c : Nat) (k : Nat) : List Nat := match k with
  | 0 => [c]
  | 1 => [64, c]
  | 2 => [c, 64]
  | _ => [c, 64, 64, 64, 64]
noncomputable def letterL (row : Nat) (n : Int) : Nat := 97 + 8 * row + (n / 18 % 8).toNat
noncomputable def headL (row : Nat) (n : Int) : List Nat := List.replicate (n / 9 % 2).toNat 46 ++ (49 + row) :: wordL (letterL row n) (n / 144 % 4).toNat
theorem fdm (n a b : Int) (ha : 0 ≤ a) (hb : 0 ≤ b) : (n.fdiv a).fmod b = n / a % b := by
  rw [Int.fdiv_eq_ediv_of_nonneg _ ha, Int.fmod_eq_emod_of_nonneg _ hb]
theorem str_app (a b : Array Nat) : Str.mk a ++ Str.mk b = Str.mk (a ++ b) := rfl
theorem mul_dot (k : Nat) (h : k < 2) : Txt.mul "." (k : Int) = ⟨(List.replicate k 46).toArray⟩ := by
  match k, h with
  | 0, _ => decide +kernel
  | 1, _ => decide +kernel
theorem head_str (row : Nat) (n : Int) (h : row = 0 ∨ row = 1) : Txt.mul "." ((n.fdiv 9).fmod 2) ++ Txt.item "12" row ++ Str.mk (wordL (letterL row n) (n / 144 % 4).toNat).toArray = ⟨(headL row n).toArray⟩ := by
  rw [show (n.fdiv 9).fmod 2 = ((n / 9 % 2).toNat : Int) by rw [fdm n 9 2 (by decide) (by decide)]; lia, mul_dot _ (by lia),
    show Txt.item "12" row = ⟨#[49 + row]⟩ by rcases h with rfl | rfl <;> decide +kernel, str_app, str_app]
  unfold headL
  congr 1
  apply Array.toList_inj.mp; simp
theorem head_claim0 {w : World} {mean : ExcName → Option Value} {mg mb : Str → Option Value} {news} {n : Int} {tr tn : Tok}
  {dp un : Nat} {gd : Option (List Code)} {cn : Str} {cs : Scope} {a : Addr} {ccd : Value} {cl : List (Str × Addr)} {outer : List Env} {A₀ : Around} {base h₀ : Heap} {L : Addr} {m : Str → Option Value} {s : Shared} {Q E : Value → Shared → Prop}
  (B : Below A₀ base outer h₀) (F : Fr h₀ L s.heap m) (X : (hd.heap_39 w.params).In h₀) (N : News h₀ L s.heap news) (T : Top hd.view_39 loose mean mg mb h₀) (hk : cs.kind = .function)
  (hdp : dp + 5 < recursionLimit) (hun : un + 200 < cLine)
  (hret : ∀ (t : Tok) (h' : Heap) (tk' : Nat), Fr h₀ L h' m → News h₀ L h' news → Q (mkT false (headL 0 n).toArray t) { s with heap := h', toks := tk' }) :
  wpAny (model PySem.Challenge.pw_ta0009_01 w) (ktrTop dp un gd cn cs L a ccd cl outer) (call (.ref 95) [.int 0 tr, .int n tn]) Q E s := by
  refine wpAny_call ?_
  k_dflt (refine' enter_def [("row", .int 0 tr), ("number", .int n tn)] B F X N T ?kA ?kF ?kK ?k6 ?k7 ?k8 ?k9 ?kB ?c2 ?c3 ?c4 ?c5 ?_; walk_at "ENTER")
  intro g' L' h1 tk0 FG F1 N1 B1 X1 T1
  dsimp only [List.reverse, List.reverseAux] at F1
  try dsimp only
  k_fold
  k_steps
  rename_i l' h2 F2 N2 l1
  have hi : (n.fdiv 144).fmod 4 = ((n / 144 % 4).toNat : Int) := by rw [fdm n 144 4 (by decide) (by decide)]; lia
  have hk4 : (n / 144 % 4).toNat < 4 := by lia
  have hc : (97 + 8 * 0 + (n.fdiv 18).fmod 8).toNat = letterL 0 n := by rw [fdm n 18 8 (by decide) (by decide)]; unfold letterL; lia
  have hit : ([⟨#[(97 + 8 * 0 + (n.fdiv 18).fmod 8).toNat]⟩, "@" ++ ⟨#[(97 + 8 * 0 + (n.fdiv 18).fmod 8).toNat]⟩, ⟨#[(97 + 8 * 0 + (n.fdiv 18).fmod 8).toNat]⟩ ++ "@", ⟨#[(97 + 8 * 0 + (n.fdiv 18).fmod 8).toNat]⟩ ++ "@@@@"] : List Str)[(n / 144 % 4).toNat]? = some ⟨(wordL (letterL 0 n) (n / 144 % 4).toNat).toArray⟩ := by
    rw [hc]
    generalize (n / 144 % 4).toNat = k at hk4 ⊢
    match k, hk4 with
    | 0, _ => rfl
    | 1, _ => rfl
    | 2, _ => rfl
    | 3, _ => rfl
  refine seq_item (k := true) ⟨_, _, _, rfl, .head _, .cons _ _ (.cons _ _ (.cons _ _ (.cons _ _ .nil)))⟩ N2 (by simp) (.inl hi) hit (fun _ => rfl) (fun t3 tk3 => ?_)
  have h9a : 0 ≤ (n.fdiv 9).fmod 2 := by rw [fdm n 9 2 (by decide) (by decide)]; lia
  have h9b : (n.fdiv 9).fmod 2 < 2 := by rw [fdm n 9 2 (by decide) (by decide)]; lia
  have hwl : (Str.mk (wordL (letterL 0 n) (n / 144 % 4).toNat).toArray).length ≤ 5 := by
    show (wordL (letterL 0 n) (n / 144 % 4).toNat).toArray.size ≤ 5
    unfold wordL; split <;> simp
  k_steps
  rename_i kF kN _ _
  rw [show Txt.item "12" 0 = Txt.item "12" ((0 : Nat) : Int) from rfl, head_str 0 n (by decide)]
  exact hret _ _ _ kF (cb_drop kN fun _ hp => .tail _ hp)
theorem head_claim1 {w : World} {mean : ExcName → Option Value} {mg mb : Str → Option Value} {news} {n : Int} {tr tn : Tok}
  {dp un : Nat} {gd : Option (List Code)} {cn : Str} {cs : Scope} {a : Addr} {ccd : Value} {cl : List (Str × Addr)} {outer : List Env} {A₀ : Around} {base h₀ : Heap} {L : Addr} {m : Str → Option Value} {s : Shared} {Q E : Value → Shared → Prop}
  (B : Below A₀ base outer h₀) (F : Fr h₀ L s.heap m) (X : (hd.heap_39 w.params).In h₀) (N : News h₀ L s.heap news) (T : Top hd.view_39 loose mean mg mb h₀) (hk : cs.kind = .function)
  (hdp : dp + 5 < recursionLimit) (hun : un + 200 < cLine)
  (hret : ∀ (t : Tok) (h' : Heap) (tk' : Nat), Fr h₀ L h' m → News h₀ L h' news → Q (mkT false (headL 1 n).toArray t) { s with heap := h', toks := tk' }) :
  wpAny (model PySem.Challenge.pw_ta0009_01 w) (ktrTop dp un gd cn cs L a ccd cl outer) (call (.ref 95) [.int 1 tr, .int n tn]) Q E s := by
  refine wpAny_call ?_
  k_dflt (refine' enter_def [("row", .int 1 tr), ("number", .int n tn)] B F X N T ?kA ?kF ?kK ?k6 ?k7 ?k8 ?k9 ?kB ?c2 ?c3 ?c4 ?c5 ?_; walk_at "ENTER")
  intro g' L' h1 tk0 FG F1 N1 B1 X1 T1
  dsimp only [List.reverse, List.reverseAux] at F1
  try dsimp only
  k_fold
  k_steps
  rename_i l' h2 F2 N2 l1
  have hi : (n.fdiv 144).fmod 4 = ((n / 144 % 4).toNat : Int) := by rw [fdm n 144 4 (by decide) (by decide)]; lia
  have hk4 : (n / 144 % 4).toNat < 4 := by lia
  have hc : (97 + 8 * 1 + (n.fdiv 18).fmod 8).toNat = letterL 1 n := by rw [fdm n 18 8 (by decide) (by decide)]; unfold letterL; lia
  have hit : ([⟨#[(97 + 8 * 1 + (n.fdiv 18).fmod 8).toNat]⟩, "@" ++ ⟨#[(97 + 8 * 1 + (n.fdiv 18).fmod 8).toNat]⟩, ⟨#[(97 + 8 * 1 + (n.fdiv 18).fmod 8).toNat]⟩ ++ "@", ⟨#[(97 + 8 * 1 + (n.fdiv 18).fmod 8).toNat]⟩ ++ "@@@@"] : List Str)[(n / 144 % 4).toNat]? = some ⟨(wordL (letterL 1 n) (n / 144 % 4).toNat).toArray⟩ := by
    rw [hc]
    generalize (n / 144 % 4).toNat = k at hk4 ⊢
    match k, hk4 with
    | 0, _ => rfl
    | 1, _ => rfl
    | 2, _ => rfl
    | 3, _ => rfl
  refine seq_item (k := true) ⟨_, _, _, rfl, .head _, .cons _ _ (.cons _ _ (.cons _ _ (.cons _ _ .nil)))⟩ N2 (by simp) (.inl hi) hit (fun _ => rfl) (fun t3 tk3 => ?_)
  have h9a : 0 ≤ (n.fdiv 9).fmod 2 := by rw [fdm n 9 2 (by decide) (by decide)]; lia
  have h9b : (n.fdiv 9).fmod 2 < 2 := by rw [fdm n 9 2 (by decide) (by decide)]; lia
  have hwl : (Str.mk (wordL (letterL 1 n) (n / 144 % 4).toNat).toArray).length ≤ 5 := by
    show (wordL (letterL 1 n) (n / 144 % 4).toNat).toArray.size ≤ 5
    unfold wordL; split <;> simp
  k_steps
  rename_i kF kN _ _
  rw [show Txt.item "12" 1 = Txt.item "12" ((1 : Nat) : Int) from rfl, head_str 1 n (by decide)]
  exact hret _ _ _ kF (cb_drop kN fun _ hp => .tail _ hp)
end Mine
end V1
section V2
open PySem PySem.W PyProof.Rows PySem.Calls PySem.Spec PyProof.V PySem.SeqAt
set_option pp.structureInstances false
set_option maxRecDepth 100000
set_option maxHeartbeats 8000000
namespace Mine
local macro_rules | `(tactic| walk_at "ENTER") => `(tactic| ((case kA => exact rfl); (case kF => exact rfl); (case kK => assumption); (case k6 => k_is); (case k7 => k_is); (case k8 => ktr_room); (case k9 => exact BindsTo.of_eq rfl); (case c5 => decide); (case kB => exact locs rfl); (case c2 => exact rfl); (case c3 => exact rfl); (case c4 => exact rfl)))
section
variable {prog : Program} {w : World} {A : Around} {E : Value → Shared → Prop} {s : Shared} {h₀ : Heap} {L : Addr} {m : Str → Option Value} {news : List (Addr × Obj)}
theorem list_item {l : Addr} {items : Array Value} {n : Nat} {value slice : PySem.Expr} {i : Int} {u : Tok} {idx : Nat} {x : Value} {Q : Value → Shared → Prop} (hm : (l, listOf items n) ∈ news) (N : News h₀ L s.heap news) (hl : items.size < 2 ^ 62)
    (hi : i = (idx : Int)) (he : items[idx]? = some x)
    (hs : ∀ o, subscripted slice false o (.int i u) = operate [o, .int i u] (getItem o (.int i u)))
    (h : Q x s) : wpAny (model prog w) A (subscriptTail value slice (.ref l) (.int i u)) Q E s := by
  have hlt : idx < items.size := by
    rcases Nat.lt_or_ge idx items.size with h1 | h1
    · exact h1
    · rw [Array.getElem?_eq_none h1] at he; cases he
  have hL : s.heap.IsList l items := SeqV.isList N hm
  refine tail_any hL.typeIs slot_list_getitem.lookup ?_ (hs _)
  subst hi
  exact wpAny_getItem_list hL (by lia) (by lia) (by simpa using he) h
theorem append_item {D : Addr} {its : Array Value} {n : Nat} {x : Value} {Q : Value → Shared → Prop} (F : Fr h₀ L s.heap m) (N : News h₀ L s.heap ((D, listOf its n) :: news)) (hap : ∀ p ∈ news, p.1 ≠ D)
    (h : ∀ h', Fr h₀ L h' m → News h₀ L h' ((D, listOf (its.push x) (n + 1)) :: news) → Q .none { s with heap := h' }) (hsz : its.size ≤ 1000000) :
    wpAny (model prog w) A (call (.builtin "list.append") [.ref D, x]) Q E s := by
  have hL : s.heap.IsList D its := SeqV.isList N (.head _)
  refine wpAny_call_entry slot_list_append hL.typeIs entry_list_append ?_ (args_list_append _ _)
  show wpAny _ _ (updateSeq D (·.push x) >>= fun _ => ret .none) _ _ s
  exact wpAny_bind (push_seq F N hap (fun h' F' N' => wpAny_pure ⟨.none, rfl, h h' F' N'⟩) hsz)
end
/-- a line's end -/
noncomputable def endL (k : Int) : List Nat := if k = 0 then [10] else if k = 1 then [13] else [13, 10]
noncomputable def mailL (h0 h1 : List Nat) (k0 k1 : Int) (tl : List Nat) : List Nat := h0 ++ (endL k0 ++ (h1 ++ (endL k1 ++ (51 :: tl))))
theorem mail_str (h0 h1 : List Nat) (k0 k1 : Int) (tl : List Nat) : Str.mk h0.toArray ++ Str.mk (endL k0).toArray ++ Str.mk h1.toArray ++ Str.mk (endL k1).toArray ++ "3" ++ Str.mk tl.toArray = ⟨(mailL h0 h1 k0 k1 tl).toArray⟩ := by
  rw [show ("3" : Str) = ⟨#[51]⟩ by decide +kernel, str_app, str_app, str_app, str_app, str_app]
  unfold mailL
  congr 1
  apply Array.toList_inj.mp; simp
theorem mail_claim {w : World} {mean : ExcName → Option Value} {mg mb : Str → Option Value} {news} {h0 h1' tl : List Nat} {k0 k1 : Int} {u0 u1 tt : Tok} {vh : Value} {l1 : Addr} {n1 : Nat}
  {dp un : Nat} {gd : Option (List Code)} {cn : Str} {cs : Scope} {a : Addr} {ccd : Value} {cl : List (Str × Addr)} {outer : List Env} {A₀ : Around} {base h₀ : Heap} {L : Addr} {m : Str → Option Value} {s : Shared} {Q E : Value → Shared → Prop}
  (B : Below A₀ base outer h₀) (F : Fr h₀ L s.heap m) (X : (hd.heap_39 w.params).In h₀) (N : News h₀ L s.heap news) (T : Top hd.view_39 loose mean mg mb h₀) (hk : cs.kind = .function)
  (hdp : dp + 5 < recursionLimit) (hun : un + 200 < cLine)
  (m0 : SeqV true news vh [⟨h0.toArray⟩, ⟨h1'.toArray⟩]) (m1 : (l1, listOf #[.int k0 u0, .int k1 u1] n1) ∈ news) (hk0 : 0 ≤ k0) (hk0' : k0 < 3) (hk1 : 0 ≤ k1) (hk1' : k1 < 3)
  (s0 : h0.length ≤ 100) (s1 : h1'.length ≤ 100) (s2 : tl.length ≤ 100)
  (hret : ∀ (t : Tok) (h' : Heap) (tk' : Nat), Fr h₀ L h' m → News h₀ L h' news → Q (mkT false (mailL h0 h1' k0 k1 tl).toArray t) { s with heap := h', toks := tk' }) :
  wpAny (model PySem.Challenge.pw_ta0009_01 w) (ktrTop dp un gd cn cs L a ccd cl outer) (call (.ref 102) [vh, .ref l1, Value.str ⟨tl.toArray⟩ tt]) Q E s := by
  refine wpAny_call ?_
  k_dflt (refine' enter_def [("heads", vh), ("spelled", .ref l1), ("tail", Value.str ⟨tl.toArray⟩ tt)] B F X N T ?kA ?kF ?kK ?k6 ?k7 ?k8 ?k9 ?kB ?c2 ?c3 ?c4 ?c5 ?_; walk_at "ENTER")
  intro g' L' hh tk0 FG F1 N1 B1 X1 T1
  dsimp only [List.reverse, List.reverseAux] at F1
  try dsimp only
  k_fold
  have e0 : Str.mk h0.toArray = Str.mk h0.toArray ∧ (Str.mk h0.toArray).length ≤ 100 := ⟨rfl, by simpa [Str.length] using s0⟩
  have e1 : (Str.mk h1'.toArray).length ≤ 100 := by simpa [Str.length] using s1
  have e2 : (Str.mk tl.toArray).length ≤ 100 := by simpa [Str.length] using s2
  have hend : ∀ k : Int, 0 ≤ k → k < 3 → ((["\n", "\r", "\r\n"] : List Str)[k.toNat]? = some ⟨(endL k).toArray⟩) := by
    intro k a b
    obtain rfl | rfl | rfl : k = 0 ∨ k = 1 ∨ k = 2 := by lia
    · decide +kernel
    · decide +kernel
    · decide +kernel
  have hel : ∀ k : Int, (Str.mk (endL k).toArray).length ≤ 2 := by
    intro k; unfold endL Str.length; split; simp; split <;> simp
  have l0' := hel k0; have l1' := hel k1
  k_steps
  rename_i l' _ lx h2 F2 N2
  refine seq_item (k := true) (idx := 0) (m0.mono fun _ hp => .tail _ hp) N2 (by simp) (.inl rfl) rfl (fun _ => rfl) (fun t1 tk1 => ?_)
  k_steps
  refine list_item (idx := 0) (.tail _ m1) N2 (by simp) rfl rfl (fun _ => rfl) ?_
  k_steps
  refine seq_item (k := true) ⟨_, _, _, rfl, .head _, .cons _ _ (.cons _ _ (.cons _ _ .nil))⟩ N2 (by simp) (.inl (by lia)) (hend k0 hk0 hk0') (fun _ => rfl) (fun t3 tk3 => ?_)
  k_steps
  refine seq_item (k := true) (idx := 1) (m0.mono fun _ hp => .tail _ hp) N2 (by simp) (.inl rfl) rfl (fun _ => rfl) (fun t1 tk1 => ?_)
  k_steps
  refine list_item (idx := 1) (.tail _ m1) N2 (by simp) rfl rfl (fun _ => rfl) ?_
  k_steps
  refine seq_item (k := true) ⟨_, _, _, rfl, .head _, .cons _ _ (.cons _ _ (.cons _ _ .nil))⟩ N2 (by simp) (.inl (by lia)) (hend k1 hk1 hk1') (fun _ => rfl) (fun t3 tk3 => ?_)
  k_steps
  rename_i kF kN _ _
  rw [show Str.mk h0.toArray ++ Str.mk (endL k0).toArray ++ Str.mk h1'.toArray ++ Str.mk (endL k1).toArray ++ "3" ++ Str.mk tl.toArray = ⟨(mailL h0 h1' k0 k1 tl).toArray⟩ from mail_str ..]
  exact hret _ _ _ kF (cb_drop kN fun _ hp => .tail _ hp)
end Mine
end V2
section V3
open PySem PySem.W PyProof.Rows PySem.Calls PySem.Spec PyProof.V PySem.SeqAt
set_option pp.structureInstances false
set_option maxRecDepth 100000
set_option maxHeartbeats 8000000
namespace Mine
local macro_rules | `(tactic| walk_at "ENTER") => `(tactic| ((case kA => exact rfl); (case kF => exact rfl); (case kK => assumption); (case k6 => k_is); (case k7 => k_is); (case k8 => ktr_room); (case k9 => exact BindsTo.of_eq rfl); (case c5 => decide); (case kB => exact locs rfl); (case c2 => exact rfl); (case c3 => exact rfl); (case c4 => exact rfl)))

/-- the numbers that a text spells; v: what was read of the one under way -/
noncomputable def numsGo : Nat → List Nat → List Nat
  | _, [] => []
  | v, c :: l => if c < 64 then (v * 64 + c % 64) :: numsGo 0 l else numsGo (v * 64 + c % 64) l
noncomputable def intsL (l : List Nat) : List Int := l.map fun n : Nat => (n : Int)
theorem ints_snoc {us : List Value} {xs : List Int} (h : IntsAre us xs) (a : Int) (t : Tok) : IntsAre (us ++ [.int a t]) (xs ++ [a]) := by
  induction h with
  | nil => exact .cons a t .nil
  | cons b u _ ih => exact .cons b u ih
local macro_rules | `(tactic| walk_at "READS") => `(tactic| (repeat' (first | exact trivial | refine And.intro rfl ?_)))
local macro_rules | `(tactic| walk_at "exec For Name Name cons nil") => `(tactic| ((rename Fr _ _ _ _ => lF'); (with_unfolding_all refine' For_invVF lF' ?k1 ?k2 ?_; (case k1 => exact rfl); (case k2 => exact rfl); k_whole); k_dflt (refine ld lF' (by rfl) ?_); refine Hold.out ?_))
theorem nums_claim {w : World} {mean : ExcName → Option Value} {mg mb : Str → Option Value} {news} {x : Array Nat} {tx : Tok}
  {dp un : Nat} {gd : Option (List Code)} {cn : Str} {cs : Scope} {a : Addr} {ccd : Value} {cl : List (Str × Addr)} {outer : List Env} {A₀ : Around} {base h₀ : Heap} {L : Addr} {m : Str → Option Value} {s : Shared} {Q E : Value → Shared → Prop}
  (B : Below A₀ base outer h₀) (F : Fr h₀ L s.heap m) (X : (hd.heap_39 w.params).In h₀) (N : News h₀ L s.heap news) (T : Top hd.view_39 loose mean mg mb h₀) (hk : cs.kind = .function)
  (hdp : dp + 5 < recursionLimit) (hun : un + 200 < cLine) (hx : x.size ≤ 100)
  (hret : ∀ (D : Addr) (us : List Value) (c : Nat) (h' : Heap) (tk' : Nat), Fr h₀ L h' m → News h₀ L h' ((D, listOf us.toArray c) :: news) → (∀ p ∈ news, p.1 < D) → IntsAre us (intsL (numsGo 0 x.toList)) → Q (.ref D) { s with heap := h', toks := tk' }) :
  wpAny (model PySem.Challenge.pw_ta0009_01 w) (ktrTop dp un gd cn cs L a ccd cl outer) (call (.ref 119) [.str ⟨x⟩ tx]) Q E s := by
  refine wpAny_call ?_
  k_dflt (refine' enter_def [("text", .str ⟨x⟩ tx)] B F X N T ?kA ?kF ?kK ?k6 ?k7 ?k8 ?k9 ?kB ?c2 ?c3 ?c4 ?c5 ?_; walk_at "ENTER")
  intro g' L' h1 tk0 FG F1 N1 B1 X1 T1
  dsimp only [List.reverse, List.reverseAux] at F1
  try dsimp only
  k_fold
  k_steps
  rename_i D _ lD _ _ F2 N2
  refine Hold.mk ?_
  refine text_inv (σ := (List Value × Nat) × (Nat × Tok)) (fun c => (D, listOf (List.toArray c.1.1) c.1.2) :: news) (fun c => [("value", .int (c.2.1 : Int) c.2.2), ("numbers", .ref D)])
    (fun i c => c.1.1.length ≤ i ∧ ∃ done : List Nat, IntsAre c.1.1 (intsL done) ∧ done ++ numsGo c.2.1 (x.toList.drop i) = numsGo 0 x.toList) (([], 0), (0, _)) rfl F2 N2 (by walk_at "READS") ⟨by simp, [], .nil, by simp⟩ ?_ ?_
  · clear F2 N2
    rintro ⟨⟨us, cnt⟩, v, tv⟩ i n t u h tk own hn hoff ⟨hl, done, hI, hd⟩ F N
    dsimp only at hl hI hd hoff F N ⊢
    change Fr g' L' h _ at F
    change News g' L' h _ at N
    have hi : i < x.size := by
      rcases Nat.lt_or_ge i x.size with h1 | h1
      · exact h1
      · rw [Array.getElem?_eq_none h1] at hn; cases hn
    have hn' : x.toList.drop i = n :: x.toList.drop (i + 1) := by
      rw [List.drop_eq_getElem_cons (by simpa using hi)]
      congr 1
      have h2 : x[i]? = some n := hn
      rw [Array.getElem?_eq_getElem hi] at h2
      simpa using h2
    rw [hn', numsGo] at hd
    have hfm : ((n : Int)).fmod 64 = ((n % 64 : Nat) : Int) := by rw [Int.fmod_eq_emod_of_nonneg _ (by decide)]; lia
    have hval : (v : Int) * 64 + (n : Int).fmod 64 = ((v * 64 + n % 64 : Nat) : Int) := by rw [hfm]; lia
    k_steps
    · rename_i h2 F2 N2 _ hlt
      have hlt' : n < 64 := by lia
      rw [if_pos hlt'] at hd
      refine append_item F2 N2 (fun p hp => ?_) (fun h3 F3 N3 => ?_) (by simp; lia)
      · rcases List.mem_append.mp hp with hp | hp
        · exact Nat.ne_of_lt (lD p hp)
        · exact hoff.ne (.head _) p hp
      clear F2 N2
      rw [hval] at N3
      k_steps
      rename_i h4 F4 N4
      rw [List.push_toArray] at N4
      obtain ⟨tt, N5⟩ : ∃ tt, News g' L' h4 ((D, listOf (us ++ [Value.int ((v * 64 + n % 64 : Nat) : Int) tt]).toArray (cnt + 1)) :: (news ++ own)) := ⟨_, N4⟩
      clear N4
      have N4 := N5
      refine rj_end ((us ++ [Value.int ((v * 64 + n % 64 : Nat) : Int) tt], cnt + 1), (0, _)) F4 N4 ?_ ?_ rfl (by walk_at "READS") ⟨by simp; lia, done ++ [v * 64 + n % 64], ?_, ?_⟩
      · intro p hp
        rcases List.mem_cons.mp hp with rfl | hp
        · exact .head _
        · exact .tail _ (List.mem_append_left _ hp)
      · intro p hp
        exact .tail _ (List.mem_append_right _ hp)
      · rw [intsL, List.map_append]; exact ints_snoc hI _ _
      · rw [← hd]; simp
    · rename_i h2 F2 N2 _ hlt
      have hlt' : ¬ n < 64 := by lia
      rw [if_neg hlt'] at hd
      rw [hval] at F2
      refine rj_end ((us, cnt), (v * 64 + n % 64, _)) F2 N2 ?_ ?_ rfl (by walk_at "READS") ⟨by dsimp only; lia, done, hI, hd⟩
      · intro p hp
        rcases List.mem_cons.mp hp with rfl | hp
        · exact .head _
        · exact .tail _ (List.mem_append_left _ hp)
      · intro p hp
        exact .tail _ (List.mem_append_right _ hp)
  · clear F2 N2
    rintro ⟨⟨us, cnt⟩, v, tv⟩ u h tk ⟨hl, done, hI, hd⟩ F N
    dsimp only at hl hI hd F N ⊢
    change Fr g' L' h _ at F
    change News g' L' h _ at N
    k_steps
    rename_i kF kN _ _
    rw [List.drop_of_length_le (by simp), numsGo, List.append_nil] at hd
    rw [hd] at hI
    exact hret D us cnt _ _ kF kN lD hI
end Mine
end V3
section N0
open PySem PySem.W PyProof.Rows PySem.Calls PySem.Spec PyProof.V PySem.SeqAt
set_option maxRecDepth 100000
namespace Mine
/-- an iterator over the list T, at place i -/
noncomputable def itObj (T : Addr) (i : Nat) : Obj := { cls := .type "list_iterator", data := .fields #[.ref T, .int i 0] }
section
variable {prog : Program} {w : World} {A : Around} {E : Value → Shared → Prop} {s : Shared} {h₀ : Heap} {L : Addr} {m : Str → Option Value} {news : List (Addr × Obj)}
theorem it_at {h : Heap} {I T : Addr} {i : Nat} (e : h.get? I = some (itObj T i)) : h.IsListIter I T i := ⟨_, e, rfl, rfl⟩
theorem next_special {I T : Addr} {i : Nat} {items : Array Value} {x : Value} {Q : Option Value → Shared → Prop} (hit : s.heap.get? I = some (itObj T i)) (hl : s.heap.IsList T items) (hx : items[i]? = some x)
    (hQ : ∀ h', h'.get? I = some (itObj T (i + 1)) → Heap.SameBut I s.heap h' → Q (some x) { s with heap := h' }) : wpAny (model prog w) A (callSpecial? (.ref I) (Str.ofString "__next__")) Q E s := by
  obtain ⟨ol, hol, _, nl, hdl⟩ := hl
  have hi := it_at hit
  refine wpAny_callSpecial?_slot (name := Str.ofString "__next__") hi.typeIs slot_listiter_next (wpAny_call_entry slot_listiter_next hi.typeIs entry_listiter_next ?_ (args_listiter_next _))
  show wpAny _ _ (field (.ref I) 0 >>= _) _ _ s
  refine wpAny_bind (wpAny_field hit rfl (x := .ref T) rfl ?_)
  show wpAny _ _ (if (Value.ref T == Value.none) = true then _ else _) _ _ s
  rw [if_neg (show ¬ ((Value.ref T == Value.none) = true) from Bool.false_ne_true)]
  show wpAny _ _ (field (.ref I) 1 >>= _) _ _ s
  refine wpAny_bind (wpAny_field hit rfl (x := .int i 0) rfl ?_)
  show wpAny _ _ (seqItems? (.ref T) >>= _) _ _ s
  refine wpAny_bind (wpAny_seqItems hol hdl ?_)
  simp only [Int.toNat_natCast, hx]
  refine wpAny_bind (wpAny_setField hit rfl (by simp) (wpAny_pure ⟨x, rfl, hQ _ ?_ (Heap.SameBut.update ..)⟩))
  rw [Heap.get?_update_self _ hit (Obj.isFreed_of_fields (Obj.data_mapFields rfl _))]
  rfl
theorem next_ok {I T : Addr} {i n : Nat} {items : Array Value} {x : Value} {Q : Value → Shared → Prop} (F : Fr h₀ L s.heap m) (N : News h₀ L s.heap ((I, itObj T i) :: news)) (hT : (T, listOf items n) ∈ news) (hap : ∀ p ∈ news, p.1 ≠ I) (hx : items[i]? = some x)
    (h : ∀ h', Fr h₀ L h' m → News h₀ L h' ((I, itObj T (i + 1)) :: news) → Q x { s with heap := h' }) :
    wpAny (model prog w) A (call (.builtin "next") [.ref I]) Q E s := by
  have hit := N.get (.head _)
  have hI := it_at hit
  have hl : s.heap.IsList T items := SeqV.isList N (.tail _ hT)
  refine call_function_entry (by decide +kernel) (by decide +kernel) kdk_entry_next (kdk_args_next _) ?_
  unfold Builtin.«next»
  refine wpAny_bind (m := someArgs "next" 1 2 _) (wpAny_of_eq (a := [Value.ref I]) (by first | rfl | kernel_rfl!) ?_)
  dsimp only
  refine wpAny_bind (wpAny_specialOf (name := Str.ofString "__next__") hI.typeIs slot_listiter_next.lookup ?_)
  refine wpAny_ite_split (fun hab => absurd hab (by decide)) (fun _ => ?_)
  refine wpAny_bind (next_special hit hl hx fun h' hit' hs => ?_)
  refine wpAny_pure ⟨_, rfl, h h' ?_ ?_⟩
  · exact F.change hs (N _ (.head _)).2.1 (N _ (.head _)).2.2
  · exact N.setHead hap hs hit'
theorem next_stop {I T : Addr} {i n : Nat} {items : Array Value} {Q : Value → Shared → Prop} (hh : A.handled = none) (N : News h₀ L s.heap ((I, itObj T i) :: news)) (hT : (T, listOf items n) ∈ news) (hx : items[i]? = none)
    (h : ∀ h' X oX vs, (∀ b o, b ≠ I → s.heap.get? b = some o → h'.get? b = some o) → s.heap.get? X = none → h'.get? X = some oX → oX.cls = .type "StopIteration" → oX.data = .fields vs → vs[1]? = some .none → E (.ref X) { s with heap := h' }) :
    wpAny (model prog w) A (call (.builtin "next") [.ref I]) Q E s := by
  have hit := N.get (.head _)
  have hI := it_at hit
  have hl : s.heap.IsList T items := SeqV.isList N (.tail _ hT)
  obtain ⟨ol, hol, _, nl, hdl⟩ := hl
  refine call_function_entry (by decide +kernel) (by decide +kernel) kdk_entry_next (kdk_args_next _) ?_
  unfold Builtin.«next»
  refine wpAny_bind (m := someArgs "next" 1 2 _) (wpAny_of_eq (a := [Value.ref I]) (by first | rfl | kernel_rfl!) ?_)
  dsimp only
  refine wpAny_bind (wpAny_specialOf (name := Str.ofString "__next__") hI.typeIs slot_listiter_next.lookup ?_)
  refine wpAny_ite_split (fun hab => absurd hab (by decide)) (fun _ => ?_)
  refine wpAny_bind (wpAny_callSpecial?_slot (name := Str.ofString "__next__") hI.typeIs slot_listiter_next (wpAny_call_entry slot_listiter_next hI.typeIs entry_listiter_next ?_ (args_listiter_next _)))
  show wpAny _ _ (field (.ref I) 0 >>= _) _ _ s
  refine wpAny_bind (wpAny_field hit rfl (x := .ref T) rfl ?_)
  show wpAny _ _ (if (Value.ref T == Value.none) = true then _ else _) _ _ s
  rw [if_neg (show ¬ ((Value.ref T == Value.none) = true) from Bool.false_ne_true)]
  show wpAny _ _ (field (.ref I) 1 >>= _) _ _ s
  refine wpAny_bind (wpAny_field hit rfl (x := .int i 0) rfl ?_)
  show wpAny _ _ (seqItems? (.ref T) >>= _) _ _ s
  refine wpAny_bind (wpAny_seqItems hol hdl ?_)
  simp only [Int.toNat_natCast, hx]
  refine wpAny_bind (wpAny_rule (wpAny_bind (wpAny_setField hit rfl (by simp) ?_)))
  unfold Builtin.SmallTypes.stopIteration
  refine wpAny_bind ?_
  simp only [newExc, newTuple]
  refine wpAny_bind (wpAny_newObj_type ?_ (by size_fits))
  refine wpAny_bind (m := firstArgMember _ _) (wpAny_of_eq (a := Value.none) (by first | rfl | (simp only [firstArgMember]; rfl)) ?_)
  refine wpAny_newObj_type ?_ (by size_fits)
  simp only [raiseNew]
  refine wpAny_bind (wpAny_handled ?_)
  rw [show A.in1.handled = none from hh]
  refine wpAny_bind (wpAny_pure (wpAny_throw ?_))
  refine h _ _ _ _ (fun b o hb e => ?_) ?_ (Heap.get?_push_size _ rfl) rfl rfl ?_
  · refine Heap.get?_push_of_some _ (Heap.get?_push_of_some _ ?_)
    rw [Heap.get?_update_other _ _ (Ne.symm hb)]; exact e
  · cases q : s.heap.get? ((s.heap.update I (Obj.mapFields fun x => x.setIfInBounds 0 Value.none)).push { cls := Value.type "tuple", data := Data.seq #[] }).objs.size with
    | none => rfl
    | some o =>
      have := Heap.lt_size q
      rw [Heap.size_push, Heap.size_after_update] at this
      exact absurd (Nat.lt_of_succ_lt this) (Nat.lt_irrefl _)
  · rw [Array.getElem?_append_left (by simp)]; rfl
end
end Mine
end N0
section R5
open PySem PySem.W PyProof.Rows PySem.Calls PySem.Spec PyProof.V PySem.SeqAt
set_option maxRecDepth 100000
namespace Mine
theorem slot_bytes_join : Slot "bytes" "join" "bytes.join" :=
  .of (owner := "bytes") (n := "join") (by rw [typeLookup_type, builtinLookup_eq_fast]; kernel_rfl) (by decide +kernel) (by decide +kernel) (by decide +kernel)
    (by first | exact .inl (by decide +kernel) | exact .inr (by decide +kernel)) (by rw [isSubtype_type]; kernel_rfl)
theorem entry_bytes_join : entryFor table "bytes.join" = some Builtin.«bytes.join» := entryFor_of_tree (by kernel_rfl)
theorem args_bytes_join (a b : Value) : argsOk "bytes.join" ⟨[a, b], []⟩ := by unfold argsOk; kernel_rfl
section
variable {prog : Program} {w : World} {A : Around} {E : Value → Shared → Prop} {s : Shared} {h₀ : Heap} {L : Addr} {m : Str → Option Value} {news : List (Addr × Obj)}
theorem pcs_strs {us : List Value} {ws : List (Array Nat)} (P : Pcs false us ws) : ∃ l : List (Str × Tok), us = strValues l ∧ l.map (·.1) = ws.map Str.mk := by
  induction P with
  | nil => exact ⟨[], rfl, rfl⟩
  | cons w t _ ih =>
    obtain ⟨l, e1, e2⟩ := ih
    exact ⟨(⟨w⟩, t) :: l, by rw [e1]; rfl, by simp [e2]⟩
theorem foldl_cat (ws : List Str) : ∀ acc : Array Nat, (ws.foldl (fun acc p => acc ++ (#[] : Array Nat) ++ p.cps) acc).toList = acc.toList ++ (ws.map (·.cps.toList)).flatten := by
  induction ws with
  | nil => intro acc; simp
  | cons w ws ih => intro acc; rw [List.foldl_cons, ih]; simp
theorem join_cat (ws : List (Array Nat)) : Txt.join ⟨#[]⟩ (ws.map Str.mk) = ⟨(catA ws).toArray⟩ := by
  unfold Txt.join Builtin.Str.glued catA
  congr 1
  apply Array.toList_inj.mp
  cases ws with
  | nil => rfl
  | cons v ws =>
    simp only [List.map_cons, List.drop_one, List.tail_cons, List.headD_cons, List.flatten_cons]
    rw [foldl_cat]
    simp only [List.map_map]
    rfl
theorem sum_fold (ws : List Str) : ∀ n : Nat, ws.foldl (fun n p => n + p.length + 0) n = n + (ws.map (·.length)).sum := by
  induction ws with
  | nil => intro n; simp
  | cons w ws ih => intro n; rw [List.foldl_cons, ih]; simp; lia
theorem cat_len (ws : List (Array Nat)) : (catA ws).length = (ws.map (·.size)).sum := by
  unfold catA
  induction ws with
  | nil => rfl
  | cons w ws ih => simp only [List.map_cons, List.flatten_cons, List.length_append, List.sum_cons, ih]; simp
theorem join_str {us : List Value} {ws : List (Array Nat)} {D : Addr} {cnt : Nat} {t0 : Tok} {Q : Value → Shared → Prop} (N : News h₀ L s.heap ((D, listOf us.toArray cnt) :: news)) (P : Pcs false us ws) (hz : (catA ws).length ≤ 10000)
    (h : ∀ t tk, Q (.str ⟨(catA ws).toArray⟩ t) { s with toks := tk }) : wpAny (model prog w) A (call (.builtin "str.join") [.str ⟨#[]⟩ t0, .ref D]) Q E s := by
  obtain ⟨l, rfl, e2⟩ := pcs_strs P
  refine SC.join (SeqV.isList N (.head _)) e2 ?_ (fun t' k => ?_)
  · unfold JoinOk
    have : (List.map Str.mk ws).toArray.foldl (fun x1 x2 => x1 + x2.length + (⟨#[]⟩ : Str).length) 0 = (catA ws).length := by
      rw [cat_len, List.foldl_toArray]
      show (List.map Str.mk ws).foldl (fun n p => n + p.length + 0) 0 = _
      rw [sum_fold, List.map_map]
      simp; rfl
    rw [this]
    unfold Builtin.Str.tooLong sizeLine
    simp; lia
  · rw [join_cat]; exact h t' k
theorem Pcs.get {k : Bool} {us : List Value} {ws : List (Array Nat)} (P : Pcs k us ws) : ∀ i, i < us.length → ∃ w t, ws[i]? = some w ∧ us[i]? = some (mkT k w t) := by
  induction P with
  | nil => intro i h; simp at h
  | cons w t _ ih =>
    intro i h
    cases i with
    | zero => exact ⟨w, t, rfl, rfl⟩
    | succ i =>
      obtain ⟨w', t', e1, e2⟩ := ih i (by simpa using h)
      exact ⟨w', t', by simpa using e1, by simpa using e2⟩
theorem joined_cat (ps : List (Array UInt8)) : (Builtin.Bytes.joined #[] ps).toList = (ps.map (·.toList)).flatten := by
  unfold Builtin.Bytes.joined
  have key : ∀ (ps : List (Array UInt8)) (i : Nat) (acc : Array UInt8), ((ps.zipIdx i).foldl (fun out (p, i) => (if i > 0 then out ++ #[] else out) ++ p) acc).toList = acc.toList ++ (ps.map (·.toList)).flatten := by
    intro ps
    induction ps with
    | nil => intro i acc; simp
    | cons p ps ih =>
      intro i acc
      rw [List.zipIdx_cons, List.foldl_cons, ih]
      show ((if i > 0 then acc ++ #[] else acc) ++ p).toList ++ _ = _
      split <;> simp
  rw [key]; rfl
theorem joined_T (ws : List (Array Nat)) : Builtin.Bytes.joined #[] (ws.map (·.map Nat.toUInt8)) = (catA ws).toArray.map Nat.toUInt8 := by
  apply Array.toList_inj.mp
  rw [joined_cat]
  unfold catA
  simp [List.map_flatten, List.map_map, Function.comp_def]
theorem joinLetGo_none {M : Model} {A : Around} {E : Value → Shared → Prop} {s : Shared} (keep : List Value) {Q : Unit → Shared → Prop} : ∀ (taken : List (Value × Option Value)), (∀ p ∈ taken, p.2 = none) → Q () s → wpAny M A (Builtin.Bytes.joinLetGo taken keep) Q E s := by
  intro taken
  induction taken with
  | nil => intro _ h; exact wpAny_pure h
  | cons p taken ih =>
    obtain ⟨x, w⟩ := p
    intro hn h
    obtain rfl : w = none := hn _ (.head _)
    unfold Builtin.Bytes.joinLetGo
    exact wpAny_bind (wpAny_letGo (ih (fun p hp => hn p (.tail _ hp)) h))
theorem sum_size (ws : List (Array Nat)) : ∀ n : Nat, (ws.map (·.map Nat.toUInt8)).foldl (fun n (p : Array UInt8) => n + p.size) n = n + (catA ws).length := by
  rw [cat_len]
  induction ws with
  | nil => intro n; simp
  | cons w ws ih => intro n; rw [List.map_cons, List.foldl_cons, ih]; simp; lia
theorem join_bytes {us : List Value} {ws : List (Array Nat)} {D : Addr} {cnt : Nat} {t0 : Tok} {Q : Value → Shared → Prop} (N : News h₀ L s.heap ((D, listOf us.toArray cnt) :: news)) (P : Pcs true us ws) (hz : (catA ws).length ≤ 10000) (hne : ws ≠ [])
    (h : ∀ t tk, Q (.bytes ((catA ws).toArray.map Nat.toUInt8) t) { s with toks := tk }) : wpAny (model prog w) A (call (.builtin "bytes.join") [.bytes #[] t0, .ref D]) Q E s := by
  have hg : s.heap.get? D = some (listOf us.toArray cnt) := N.get (.head _)
  refine wpAny_call_entry slot_bytes_join (T := "bytes") rfl entry_bytes_join ?_ (args_bytes_join _ _)
  show wpAny _ _ (Builtin.Bytes.joinM .bytes ⟨[.bytes #[] t0, .ref D], []⟩) _ _ s
  unfold Builtin.Bytes.joinM
  refine wpAny_bind (wpAny_pure ?_)
  refine wpAny_bind (wpAny_bind (wpAny_bind (wpAny_load hg (wpAny_pure (wpAny_pure ?_)))))
  dsimp only
  refine wpAny_bind (wpAny_seqItems hg rfl ?_)
  have hus : us.toArray.size = us.length := by simp
  have hlen : us.length = ws.length := P.length
  rcases us with _ | ⟨x, _ | ⟨y, us'⟩⟩
  · exact absurd (List.length_eq_zero_iff.mp hlen.symm) hne
  · obtain ⟨w1, t1, e1, e2⟩ := P.get 0 (by simp)
    have hws : ws = [w1] := by
      rcases ws with _ | ⟨a, _ | ⟨b, ws⟩⟩
      · simp at hlen
      · simpa using e1
      · simp at hlen
    subst hws
    obtain rfl : x = mkT true w1 t1 := by simpa using e2
    refine wpAny_bind (wpAny_typeOf (T := "bytes") rfl ?_)
    have hh := h t1 s.toks
    have ec : (catA [w1]).toArray.map Nat.toUInt8 = w1.map Nat.toUInt8 := by simp [catA]
    rw [ec] at hh
    exact wpAny_bind (wpAny_rule (wpAny_pure ⟨_, rfl, hh⟩))
  · refine wpAny_bind ?_
    clear hus
    generalize hU : x :: y :: us' = us at *
    clear hU x y us'
    rw [Std.Legacy.Range.forIn_eq_forIn_range']
    have hsz : ([:us.toArray.size] : Std.Legacy.Range).size = us.length := by simp [Std.Legacy.Range.size]
    show wpAny _ _ (forIn (List.range' 0 ([:us.toArray.size] : Std.Legacy.Range).size 1) _ _) _ _ _
    rw [hsz]
    refine wpAny_forIn_list _ (fun rest b s' => s' = s ∧ (∀ q ∈ b.2, q.2 = none) ∧ ∃ j, j + rest.length = us.length ∧ rest = List.range' j rest.length ∧ b.1 = ((ws.take j).map (·.map Nat.toUInt8)).toArray) _ ?_ ?_ _ _ ⟨rfl, by simp, 0, by simp, by simp, by simp⟩
    · rintro i rest ⟨parts, taken⟩ s' ⟨rfl, hq, j, hj, hr, hb⟩
      dsimp only at hq hb
      obtain ⟨rfl, hr⟩ : i = j ∧ rest = List.range' (j + 1) rest.length := by
        rw [List.length_cons, List.range'_succ] at hr
        exact ⟨(List.cons.inj hr).1, (List.cons.inj hr).2⟩
      obtain ⟨w1, t1, e1, e2⟩ := P.get i (by simp at hj; lia)
      refine wpAny_bind (wpAny_seqItems hg rfl ?_)
      dsimp only
      have hget : us.toArray.getD i Value.none = mkT true w1 t1 := by simp [Array.getD_eq_getD_getElem?, e2]
      rw [hget]
      have fin : ∀ (r : Option (Array UInt8 × Option Value)), r = some (w1.map Nat.toUInt8, none) → (∀ q ∈ taken ++ [(mkT true w1 t1, (none : Option Value))], q.2 = none) ∧ ∃ j, j + rest.length = us.length ∧ rest = List.range' j rest.length ∧ parts.push (w1.map Nat.toUInt8) = ((ws.take j).map (·.map Nat.toUInt8)).toArray := by
        intro r hr'
        refine ⟨?_, i + 1, ?_, hr, ?_⟩
        · intro q hq'
          rcases List.mem_append.mp hq' with h1 | h1
          · exact hq q h1
          · obtain rfl := List.mem_singleton.mp h1; rfl
        · simp at hj; lia
        · rw [hb, List.take_succ, e1]; simp
      by_cases hh : (Builtin.Bytes.Kind.bytes == Builtin.Bytes.Kind.bytearray || taken.any fun x => x.fst.onHeap) = true
      · rw [if_pos hh]
        refine wpAny_bind (wpAny_of_eq (special_buffer _ _) ?_)
        dsimp only
        refine wpAny_bind (wpAny_holding (wpAny_of_eq (takeQuiet_bytes _ _ _) ?_))
        dsimp only
        refine wpAny_bind (wpAny_seqItems hg rfl ?_)
        dsimp only
        rw [if_neg (by simp)]
        refine wpAny_pure ⟨rfl, ?_⟩
        exact fin _ rfl
      · rw [if_neg hh]
        refine wpAny_bind (wpAny_holding (wpAny_of_eq (takeQuiet_bytes _ _ _) ?_))
        dsimp only
        refine wpAny_bind (wpAny_seqItems hg rfl ?_)
        dsimp only
        rw [if_neg (by simp)]
        refine wpAny_pure ⟨rfl, ?_⟩
        exact fin _ rfl
    · rintro ⟨parts, taken⟩ s' ⟨rfl, hq, j, hj, hr, hb⟩
      dsimp only at hq hb
      have hpl : parts.toList = ws.map (·.map Nat.toUInt8) := by
        rw [hb, List.take_of_length_le (by simp at hj; lia)]
      refine wpAny_bind (wpAny_pure ?_)
      have hns : Builtin.Bytes.tooLong (Array.foldl (fun x1 x2 => x1 + x2.size) ((#[] : Array UInt8).size * (parts.size - 1)) parts) = false := by
        rw [← Array.foldl_toList, hpl]
        have := sum_size ws 0
        simp only [List.size_toArray, List.length_nil, Nat.zero_mul]
        rw [this]
        unfold Builtin.Bytes.tooLong sizeLine
        simp; lia
      dsimp only
      rw [if_neg (by rw [hns]; exact Bool.false_ne_true)]
      rw [hpl, joined_T]
      refine wpAny_bind (wpAny_mkBytes ?_ (by simp; unfold sizeLine; lia))
      refine wpAny_bind (wpAny_holding (wpAny_point ?_))
      refine wpAny_bind (joinLetGo_none _ _ hq ?_)
      exact wpAny_pure ⟨_, rfl, h _ _⟩
end
end Mine
end R5
section R6
open PySem PySem.W PyProof.Rows PySem.Calls PySem.Spec PyProof.V PySem.SeqAt
set_option maxRecDepth 100000
namespace Mine
/-- what is written when every found piece is replaced by r -/
noncomputable def outS (nx : Nat → Option (Nat × Nat)) (w r : Array Nat) : (n s : Nat) → List Nat
  | 0, s => (w.extract s w.size).toList
  | n + 1, s => match nx s with
    | some (b, e) => (w.extract s b).toList ++ (r.toList ++ outS nx w r n e)
    | none => (w.extract s w.size).toList
/-- the searcher nx is what the words c find in the text w -/
structure Finds (c w : Array Nat) (nx : Nat → Option (Nat × Nat)) : Prop where
  goes : ∀ s, s ≤ w.size → ∃ kk, kk < 4 * 2 ^ 64 ∧ Goes kk (Sre.forSearch c w 0 s w.size false) fun m => match nx s with
    | some (b, e) => Found w b e m
    | none => Lost m
  fwd : ∀ s b e, nx s = some (b, e) → s ≤ w.size → s ≤ b ∧ b < e ∧ e ≤ w.size
theorem catA_snoc (ws : List (Array Nat)) (x : Array Nat) : catA (ws ++ [x]) = catA ws ++ x.toList := by simp [catA]
theorem low_extract {k : Bool} {w : Array Nat} (h : low k w) (a b : Nat) : low k (w.extract a b) := by
  intro hk c hc
  refine h hk c ?_
  rw [Array.toList_extract] at hc
  exact List.mem_of_mem_drop (List.mem_of_mem_take hc)
section
variable {prog : Program} {w : World} {A : Around} {E : Value → Shared → Prop} {s : Shared} {h₀ : Heap} {L : Addr} {m : Str → Option Value} {news : List (Addr × Obj)}
theorem mkT_ne_none (k : Bool) (r : Array Nat) (t : Tok) : (mkT k r t != Value.none) = true := by cases k <;> rfl
theorem sub_loop {k : Bool} {p D : Addr} {c x r : Array Nat} {td tr : Tok} {nx : Nat → Option (Nat × Nat)} {R : Result → Shared → Prop}
    (hP : ∀ h, Fr h₀ L h m → PatAt h k p c) (hF : Finds c x nx) (lx : low k x) (hap : ∀ q ∈ news, q.1 ≠ D) (hx : x.size ≤ 5000)
    (hR : ∀ t tk h', Fr h₀ L h' m → News h₀ L h' news → R (.ok (.ret (mkT k (outS nx x r (x.size + 1) 0).toArray t))) { s with heap := h', toks := tk }) (ho : (outS nx x r (x.size + 1) 0).length ≤ 10000) :
    ∀ (n : Nat) (st cnt nn : Nat) (us : List Value) (ws : List (Array Nat)) (h : Heap) (tk : Nat), st ≤ x.size → x.size < st + n → us.length ≤ 2 * st → Fr h₀ L h m → News h₀ L h ((D, listOf us.toArray cnt) :: news) → Pcs k us ws →
      catA ws ++ outS nx x r n st = outS nx x r (x.size + 1) 0 →
      codeAny (model prog w) A (.builtin "re.Pattern.sub.loop" ⟨[.ref p, mkT k x td, mkT k r tr, rawInt 0, rawInt 0, rawInt nn, rawInt st, rawInt st, .bool false, .ref D, .bool false], []⟩) R { s with heap := h, toks := tk } := by
  intro n
  induction n with
  | zero => intro st cnt nn us ws h tk h1 h2; lia
  | succ n ih =>
    intro st cnt nn us ws h tk h1 h2 hu F N P hout
    refine codeAny_builtin entry_re_loop ?_
    unfold Builtin.«re.Pattern.sub.loop»
    refine wpAny_bind (whole (hP _ F) lx ?_)
    dsimp only
    rw [if_pos (by rfl)]
    refine wpAny_bind (wpAny_of_eq (notTurned_mkT k r tr) ?_)
    obtain ⟨kk, hkk, hg⟩ := hF.goes st h1
    have search : ∀ {Q : Option Sre.M → Shared → Prop}, (match nx st with
        | some (b, e) => ∀ mm, mm.start = b → mm.handed = e → Q (some mm) { s with heap := h, toks := tk }
        | none => Q none { s with heap := h, toks := tk }) → wpAny (model prog w) (A.under (.builtin "re.Pattern.sub.loop" ⟨[.ref p, mkT k x td, mkT k r tr, rawInt 0, rawInt 0, rawInt nn, rawInt st, rawInt st, .bool false, .ref D, .bool false], []⟩)) (Builtin.Re.reNextFound { pattern := Value.ref p, string := mkT k x td, code := c, text := x, kind := if k = true then 1 else 0, groups := 0, pos := 0, lim := x.size } (st : Int).toNat false) Q (fun e s' => R (.error e) s') { s with heap := h, toks := tk } := by
      intro Q hQ
      unfold Builtin.Re.reNextFound
      refine run_end hg hkk (fun m' hm => ?_)
      cases hn : nx st with
      | none => rw [hn] at hm hQ; exact .inr ⟨hm, hQ⟩
      | some be => obtain ⟨b, e⟩ := be; rw [hn] at hm hQ; exact .inl ⟨hm.1, hQ m' hm.2.1 hm.2.2⟩
    refine wpAny_bind (search ?_)
    cases hn : nx st with
    | none =>
      dsimp only
      have hcat : catA ws ++ (x.extract st x.size).toList = outS nx x r (x.size + 1) 0 := by
        rw [← hout]; unfold outS; rw [hn]
      by_cases hs : st < x.size
      · rw [if_pos (by simpa using hs)]
        refine wpAny_bind (slice_T (by unfold sizeLine; lia) (fun t1 tk1 => ?_))
        refine wpAny_bind (push_seq (s := { s with heap := h, toks := tk1 }) F N hap (fun h2 F2 N2 => ?_) (by simp; lia))
        replace P := P.snoc (x.extract st x.size) t1
        replace hcat : catA (ws ++ [x.extract st x.size]) = outS nx x r (x.size + 1) 0 := by rw [catA_snoc, hcat]
        have e : us.toArray.push (mkT k (x.extract st x.size) t1) = (us ++ [mkT k (x.extract st x.size) t1]).toArray := by simp
        have e' : ((st : Int).toNat) = st := by simp
        simp only [e'] at N2 ⊢
        rw [e] at N2
        clear F N e e'
        have F := F2; have N := N2
        generalize us ++ [mkT k (x.extract st x.size) t1] = us' at *
        generalize ws ++ [x.extract st x.size] = ws' at *
        generalize h2 = h' at *
        refine wpAny_bind (slice_T (by unfold sizeLine; lia) (fun t3 tk3 => ?_))
        refine wpAny_bind (wpAny_seqItems (N.get (.head _)) rfl ?_)
        rcases us' with _ | ⟨u1, us'⟩
        · have hw0 : ws' = [] := List.length_eq_zero_iff.mp P.length.symm
          subst hw0
          have := hR t3 tk3 h' F (cb_drop N fun _ hp => .tail _ hp)
          rw [← hcat] at this
          rw [show x.extract 0 0 = (catA []).toArray by simp [catA]]
          exact wpAny_bind (wpAny_pure (wpAny_pure this))
        · have hne : ws' ≠ [] := fun hw => by have := P.length; rw [hw] at this; simp at this
          refine wpAny_bind ?_
          have hz : (catA ws').length ≤ 10000 := by rw [hcat]; exact ho
          cases k with
          | false =>
            have := join_str (prog := prog) (w := w) (A := A.under (.builtin "re.Pattern.sub.loop" ⟨[.ref p, mkT false x td, mkT false r tr, rawInt 0, rawInt 0, rawInt nn, rawInt st, rawInt st, .bool false, .ref D, .bool false], []⟩)) (E := fun e s' => R (.error e) s') (s := { s with heap := h', toks := tk3 }) (t0 := t3) (Q := fun v s' => wpAny (model prog w) (A.under (.builtin "re.Pattern.sub.loop" ⟨[.ref p, mkT false x td, mkT false r tr, rawInt 0, rawInt 0, rawInt nn, rawInt st, rawInt st, .bool false, .ref D, .bool false], []⟩)) (ret v) (fun fin s' => match fin with | .done f => R (.ok f) s' | .again c' => c'.quiet = true ∧ codeAny (model prog w) A c' R s') (fun e s' => R (.error e) s') s') N P hz (fun t5 tk5 => wpAny_pure (by
                have := hR t5 tk5 h' F (cb_drop N fun _ hp => .tail _ hp)
                rw [← hcat] at this
                exact this))
            rw [show x.extract 0 0 = #[] by simp]
            exact this
          | true =>
            have := join_bytes (prog := prog) (w := w) (A := A.under (.builtin "re.Pattern.sub.loop" ⟨[.ref p, mkT true x td, mkT true r tr, rawInt 0, rawInt 0, rawInt nn, rawInt st, rawInt st, .bool false, .ref D, .bool false], []⟩)) (E := fun e s' => R (.error e) s') (s := { s with heap := h', toks := tk3 }) (t0 := t3) (Q := fun v s' => wpAny (model prog w) (A.under (.builtin "re.Pattern.sub.loop" ⟨[.ref p, mkT true x td, mkT true r tr, rawInt 0, rawInt 0, rawInt nn, rawInt st, rawInt st, .bool false, .ref D, .bool false], []⟩)) (ret v) (fun fin s' => match fin with | .done f => R (.ok f) s' | .again c' => c'.quiet = true ∧ codeAny (model prog w) A c' R s') (fun e s' => R (.error e) s') s') N P hz hne (fun t5 tk5 => wpAny_pure (by
                have := hR t5 tk5 h' F (cb_drop N fun _ hp => .tail _ hp)
                rw [← hcat] at this
                exact this))
            rw [show x.extract 0 0 = #[] by simp, show mkT true #[] t3 = Value.bytes #[] t3 by simp [mkT]]
            exact this
      · rw [if_neg (by simpa using hs)]
        replace hcat : catA ws = outS nx x r (x.size + 1) 0 := by
          rw [← hcat, show x.extract st x.size = #[] from by simp; lia]; simp
        generalize us = us' at *
        generalize ws = ws' at *
        generalize h = h' at *
        refine wpAny_bind (slice_T (by unfold sizeLine; lia) (fun t3 tk3 => ?_))
        refine wpAny_bind (wpAny_seqItems (N.get (.head _)) rfl ?_)
        rcases us' with _ | ⟨u1, us'⟩
        · have hw0 : ws' = [] := List.length_eq_zero_iff.mp P.length.symm
          subst hw0
          have := hR t3 tk3 h' F (cb_drop N fun _ hp => .tail _ hp)
          rw [← hcat] at this
          rw [show x.extract 0 0 = (catA []).toArray by simp [catA]]
          exact wpAny_bind (wpAny_pure (wpAny_pure this))
        · have hne : ws' ≠ [] := fun hw => by have := P.length; rw [hw] at this; simp at this
          refine wpAny_bind ?_
          have hz : (catA ws').length ≤ 10000 := by rw [hcat]; exact ho
          cases k with
          | false =>
            have := join_str (prog := prog) (w := w) (A := A.under (.builtin "re.Pattern.sub.loop" ⟨[.ref p, mkT false x td, mkT false r tr, rawInt 0, rawInt 0, rawInt nn, rawInt st, rawInt st, .bool false, .ref D, .bool false], []⟩)) (E := fun e s' => R (.error e) s') (s := { s with heap := h', toks := tk3 }) (t0 := t3) (Q := fun v s' => wpAny (model prog w) (A.under (.builtin "re.Pattern.sub.loop" ⟨[.ref p, mkT false x td, mkT false r tr, rawInt 0, rawInt 0, rawInt nn, rawInt st, rawInt st, .bool false, .ref D, .bool false], []⟩)) (ret v) (fun fin s' => match fin with | .done f => R (.ok f) s' | .again c' => c'.quiet = true ∧ codeAny (model prog w) A c' R s') (fun e s' => R (.error e) s') s') N P hz (fun t5 tk5 => wpAny_pure (by
                have := hR t5 tk5 h' F (cb_drop N fun _ hp => .tail _ hp)
                rw [← hcat] at this
                exact this))
            rw [show x.extract 0 0 = #[] by simp]
            exact this
          | true =>
            have := join_bytes (prog := prog) (w := w) (A := A.under (.builtin "re.Pattern.sub.loop" ⟨[.ref p, mkT true x td, mkT true r tr, rawInt 0, rawInt 0, rawInt nn, rawInt st, rawInt st, .bool false, .ref D, .bool false], []⟩)) (E := fun e s' => R (.error e) s') (s := { s with heap := h', toks := tk3 }) (t0 := t3) (Q := fun v s' => wpAny (model prog w) (A.under (.builtin "re.Pattern.sub.loop" ⟨[.ref p, mkT true x td, mkT true r tr, rawInt 0, rawInt 0, rawInt nn, rawInt st, rawInt st, .bool false, .ref D, .bool false], []⟩)) (ret v) (fun fin s' => match fin with | .done f => R (.ok f) s' | .again c' => c'.quiet = true ∧ codeAny (model prog w) A c' R s') (fun e s' => R (.error e) s') s') N P hz hne (fun t5 tk5 => wpAny_pure (by
                have := hR t5 tk5 h' F (cb_drop N fun _ hp => .tail _ hp)
                rw [← hcat] at this
                exact this))
            rw [show x.extract 0 0 = #[] by simp, show mkT true #[] t3 = Value.bytes #[] t3 by simp [mkT]]
            exact this
    | some be =>
      obtain ⟨b, e⟩ := be
      dsimp only
      intro mm e1 e2
      rw [e1, e2]
      have hfw := hF.fwd st b e hn h1
      have hcat : catA ws ++ (x.extract st b).toList ++ r.toList ++ outS nx x r n e = outS nx x r (x.size + 1) 0 := by
        rw [← hout]; conv => rhs; rw [outS]
        rw [hn]; simp
      have hbe : (e == b) = false := by simp; lia
      rw [hbe]
      by_cases hs : st < b
      · rw [if_pos (by simpa using hs)]
        refine wpAny_bind (slice_T (by unfold sizeLine; lia) (fun t1 tk1 => ?_))
        refine wpAny_bind (push_seq (s := { s with heap := h, toks := tk1 }) F N hap (fun h2 F2 N2 => ?_) (by simp; lia))
        replace P := P.snoc (x.extract st b) t1
        replace hcat : catA (ws ++ [x.extract st b]) ++ r.toList ++ outS nx x r n e = outS nx x r (x.size + 1) 0 := by rw [catA_snoc, hcat]
        have e' : ((st : Int).toNat) = st := by simp
        simp only [e'] at N2 ⊢
        rw [show us.toArray.push (mkT k (x.extract st b) t1) = (us ++ [mkT k (x.extract st b) t1]).toArray by simp] at N2
        clear F N e'
        have F := F2; have N := N2
        replace hu : (us ++ [mkT k (x.extract st b) t1]).length + 1 ≤ 2 * e := by simp; lia
        generalize us ++ [mkT k (x.extract st b) t1] = us' at *
        generalize ws ++ [x.extract st b] = ws' at *
        generalize h2 = h' at *
        rw [if_pos (by rfl)]
        refine wpAny_bind (wpAny_pure ?_)
        rw [if_pos (mkT_ne_none k r tr)]
        refine wpAny_bind (push_seq F N hap (fun h3 F3 N3 => ?_) (by simp; lia))
        refine wpAny_pure ⟨plainId_quiet (by decide +kernel) _, ?_⟩
        have P3 := P.snoc r tr
        rw [show us'.toArray.push (mkT k r tr) = (us' ++ [mkT k r tr]).toArray by simp] at N3
        refine ih e _ (nn + 1) _ _ _ _ (by lia) (by lia) (by simp; lia) F3 N3 P3 (by rw [catA_snoc, hcat])
      · rw [if_neg (by simpa using hs)]
        replace hcat : catA ws ++ r.toList ++ outS nx x r n e = outS nx x r (x.size + 1) 0 := by
          rw [← hcat, show x.extract st b = #[] from by simp; lia]; simp
        replace hu : us.length + 1 ≤ 2 * e := by lia
        generalize us = us' at *
        generalize ws = ws' at *
        generalize h = h' at *
        rw [if_pos (by rfl)]
        refine wpAny_bind (wpAny_pure ?_)
        rw [if_pos (mkT_ne_none k r tr)]
        refine wpAny_bind (push_seq F N hap (fun h3 F3 N3 => ?_) (by simp; lia))
        refine wpAny_pure ⟨plainId_quiet (by decide +kernel) _, ?_⟩
        have P3 := P.snoc r tr
        rw [show us'.toArray.push (mkT k r tr) = (us' ++ [mkT k r tr]).toArray by simp] at N3
        refine ih e _ (nn + 1) _ _ _ _ (by lia) (by lia) (by simp; lia) F3 N3 P3 (by rw [catA_snoc, hcat])
end
end Mine
end R6
section R7
open PySem PySem.W PyProof.Rows PySem.Calls PySem.Spec PyProof.V PySem.SeqAt
set_option maxRecDepth 100000
namespace Mine
section
variable {prog : Program} {w : World} {A : Around} {E : Value → Shared → Prop} {s : Shared} {h₀ : Heap} {L : Addr} {m : Str → Option Value} {news : List (Addr × Obj)}
theorem PatAt.typeIs {k : Bool} {p : Addr} {c : Array Nat} (P : PatAt s.heap k p c) : s.TypeIs (.ref p) "re.Pattern" := by
  obtain ⟨op, fs, ca, oc, items, nn, h1, h2, _⟩ := P.ex
  exact ⟨op, h1, h2⟩
theorem PatAt.noDict {k : Bool} {p : Addr} {c : Array Nat} (P : PatAt s.heap k p c) : ∀ a, Value.ref p = .ref a → ∃ o, s.heap.get? a = some o ∧ o.dict = none := by
  obtain ⟨op, fs, ca, oc, items, nn, h1, h2, h3, _⟩ := P.ex
  rintro a ⟨⟩
  exact ⟨op, h1, h3⟩
theorem sub_call {k : Bool} {p : Addr} {c x r : Array Nat} {td tr : Tok} {nx : Nat → Option (Nat × Nat)} {Q : Value → Shared → Prop} (F : Fr h₀ L s.heap m) (N : News h₀ L s.heap news)
    (hP : ∀ h, Fr h₀ L h m → PatAt h k p c) (hF : Finds c x nx) (lx : low k x) (lr : low k r) (h92 : 92 ∉ r.toList) (hx : x.size ≤ 5000) (ho : (outS nx x r (x.size + 1) 0).length ≤ 10000)
    (hR : ∀ t tk h', Fr h₀ L h' m → News h₀ L h' news → Q (mkT k (outS nx x r (x.size + 1) 0).toArray t) { s with heap := h', toks := tk }) :
    wpAny (model prog w) A (call (.builtin "re.Pattern.sub") [.ref p, mkT k r tr, mkT k x td]) Q E s := by
  refine wpAny_call (codeAny_call_builtin slot_re_sub.plain entry_re_sub (slot_re_sub.check _ _ _ _ _ _ _ _ (hP _ F).typeIs (args_re_sub _ _ _) ?_))
  show wpAny _ A.in1 (Builtin.Re.reSubstitute "re.Pattern.sub" "sub" false ⟨[.ref p, mkT k r tr, mkT k x td], []⟩) _ _ s
  unfold Builtin.Re.reSubstitute
  refine wpAny_bind (wpAny_of_eq (named_re _ _) ?_)
  dsimp only
  refine wpAny_bind (wpAny_pure ?_)
  have hnc : specialOf (mkT k r tr) "__call__" = pure none := by cases k; exact no_call_str; exact no_call_bytes
  refine wpAny_bind (wpAny_of_eq hnc ?_)
  rw [if_neg (by simp)]
  cases k with
  | false =>
    have e0 : asStr? (mkT false r tr) = pure (some ⟨r⟩) := rfl
    refine wpAny_bind (wpAny_of_eq e0 ?_)
    refine wpAny_bind (wpAny_pure ?_)
    have el : (!r.contains 92) = true := by simpa using h92
    dsimp only
    rw [el]
    rw [if_neg (by simp), if_pos rfl]
    refine wpAny_bind (wpAny_pure ?_)
    refine wpAny_bind (wpAny_holding (whole (hP _ F) lx ?_))
    rw [if_neg (by simp)]
    refine wpAny_bind (wpAny_newList ?_)
    refine wpAny_pure ⟨plainId_quiet (by decide +kernel) _, ?_⟩
    have F2 : Fr h₀ L (s.heap.push (listOf #[] 0)) m := F.push _
    have N2 : News h₀ L (s.heap.push (listOf #[] 0)) ((s.heap.objs.size, listOf #[] 0) :: news) := N.push F _
    refine sub_loop (n := x.size + 1) (us := []) (ws := []) (cnt := 0) (nn := 0) (st := 0) (h := s.heap.push (listOf #[] 0)) (tk := s.toks) hP hF lx (fun q hq => (N.fresh_ne q hq).symm) hx (fun t tk h' F' N' => hR t tk h' F' N') ho (by omega) (by omega) (by simp) F2 N2 .nil (by simp [catA])
  | true =>
    have e0 : asStr? (mkT true r tr) = pure none := rfl
    refine wpAny_bind (wpAny_of_eq e0 ?_)
    refine wpAny_bind (wpAny_of_eq (bufferQuiet_bytes _ _ _) ?_)
    refine wpAny_bind (wpAny_pure ?_)
    have el : (!(r.map Nat.toUInt8).contains 92) = true := by
      simp only [Bool.not_eq_true']
      rw [Bool.eq_false_iff]
      intro hc
      rw [Array.contains_iff_mem, Array.mem_map] at hc
      obtain ⟨cc, hcc, he⟩ := hc
      have h1 := lr rfl cc (Array.mem_toList_iff.mpr hcc)
      have h2 := congrArg UInt8.toNat he
      simp [Nat.toUInt8, UInt8.toNat_ofNat'] at h2
      rw [Nat.mod_eq_of_lt h1] at h2
      exact h92 (h2 ▸ Array.mem_toList_iff.mpr hcc)
    rw [el]
    rw [if_neg (by simp), if_pos rfl]
    refine wpAny_bind (wpAny_pure ?_)
    refine wpAny_bind (wpAny_holding (whole (hP _ F) lx ?_))
    rw [if_neg (by simp)]
    refine wpAny_bind (wpAny_newList ?_)
    refine wpAny_pure ⟨plainId_quiet (by decide +kernel) _, ?_⟩
    have F2 : Fr h₀ L (s.heap.push (listOf #[] 0)) m := F.push _
    have N2 : News h₀ L (s.heap.push (listOf #[] 0)) ((s.heap.objs.size, listOf #[] 0) :: news) := N.push F _
    refine sub_loop (n := x.size + 1) (us := []) (ws := []) (cnt := 0) (nn := 0) (st := 0) (h := s.heap.push (listOf #[] 0)) (tk := s.toks) hP hF lx (fun q hq => (N.fresh_ne q hq).symm) hx (fun t tk h' F' N' => hR t tk h' F' N') ho (by omega) (by omega) (by simp) F2 N2 .nil (by simp [catA])
end
end Mine
end R7
section R8
open PySem PySem.W
set_option maxRecDepth 100000
namespace Mine
/-- a dot at a line's start is doubled -/
noncomputable def dots : Bool → List Nat → List Nat
  | _, [] => []
  | b, c :: l => if b = true ∧ c = 46 then 46 :: 46 :: dots false l else c :: dots (c == 10) l
/-- every line end is CR LF; the flag says that a CR stood just before -/
noncomputable def crlf : Bool → List Nat → List Nat
  | _, [] => []
  | b, c :: l => if b = true ∧ c = 10 then crlf false l else if c = 13 then 13 :: 10 :: crlf true l else if c = 10 then 13 :: 10 :: crlf false l else c :: crlf false l
theorem crlf_true (l : List Nat) (h : l.head? ≠ some 10) : crlf true l = crlf false l := by
  cases l with
  | nil => rfl
  | cons c l =>
    have : c ≠ 10 := fun e => h (by rw [e]; rfl)
    simp [crlf, this]
theorem crlf_cons (c : Nat) (l : List Nat) (h1 : c ≠ 13) (h2 : c ≠ 10) : crlf false (c :: l) = c :: crlf false l := by simp [crlf, h1, h2]
theorem crlf_lf (l : List Nat) : crlf false (10 :: l) = 13 :: 10 :: crlf false l := by simp [crlf]
theorem crlf_crlf (l : List Nat) : crlf false (13 :: 10 :: l) = 13 :: 10 :: crlf false l := by simp [crlf]
theorem crlf_cr (l : List Nat) (h : l.head? ≠ some 10) : crlf false (13 :: l) = 13 :: 10 :: crlf false l := by
  rw [← crlf_true l h]; simp [crlf]
noncomputable def nx1 (w : Array Nat) (s : Nat) : Option (Nat × Nat) := (next1 w (w.size - s) s).map fun p => (p, p + 1)
noncomputable def nx3 (w : Array Nat) (s : Nat) : Option (Nat × Nat) := (next3 w (w.size - s) s).map fun p => (p, p + span3 w p)
theorem next1_some {text : Array Nat} : ∀ {n s p : Nat}, next1 text n s = some p → s ≤ p ∧ p < s + n ∧ at1 text p = true := by
  intro n
  induction n with
  | zero => intro s p h; cases h
  | succ n ih =>
    intro s p h
    unfold next1 at h
    split at h
    · rename_i h1; cases h; exact ⟨Nat.le_refl _, by lia, h1⟩
    · have := ih h; exact ⟨by lia, by lia, this.2.2⟩
theorem finds1 (w : Array Nat) (hw : w.size ≤ 5000) : Finds c1 w (nx1 w) where
  goes s hs := ⟨7 * w.size + 10, by lia, by
    refine (found1 w s hs).imp (fun m h => ?_)
    unfold nx1
    cases hn : next1 w (w.size - s) s with
    | none => rw [hn] at h; exact h
    | some p => rw [hn] at h; exact h⟩
  fwd s b e h hs := by
    unfold nx1 at h
    cases hn : next1 w (w.size - s) s with
    | none => rw [hn] at h; cases h
    | some p => rw [hn] at h; cases h; have := (next1_some hn).1; have := (next1_some hn).2.1; lia
theorem span3_le {w : Array Nat} {p : Nat} (h : p < w.size) : p < p + span3 w p ∧ p + span3 w p ≤ w.size := by
  by_cases hc : (w.getD p 0 == 13 && decide (p + 1 < w.size) && w.getD (p + 1) 0 == 10) = true
  · have e : span3 w p = 2 := by unfold span3; rw [if_pos hc]
    rw [Bool.and_eq_true, Bool.and_eq_true, decide_eq_true_eq] at hc
    lia
  · have e : span3 w p = 1 := by unfold span3; rw [if_neg hc]
    lia
theorem finds3 (w : Array Nat) : Finds c3 w (nx3 w) where
  goes s hs := ⟨22, by lia, by
    refine (found3 w s hs).imp (fun m h => ?_)
    unfold nx3
    cases hn : next3 w (w.size - s) s with
    | none => rw [hn] at h; exact h
    | some p => rw [hn] at h; exact h⟩
  fwd s b e h hs := by
    unfold nx3 at h
    cases hn : next3 w (w.size - s) s with
    | none => rw [hn] at h; cases h
    | some p =>
      rw [hn] at h
      have hb : p = b := congrArg Prod.fst (Option.some.inj h)
      have he : p + span3 w p = e := congrArg Prod.snd (Option.some.inj h)
      have h1 := (next3_some hn).1; have h2 := (next3_some hn).2.1
      have := span3_le (w := w) (p := p) (by lia)
      lia
noncomputable def atStart (w : Array Nat) (s : Nat) : Bool := s == 0 || w.getD (s - 1) 0 == 10
theorem drop_get (w : Array Nat) (s : Nat) (h : s < w.size) : w.toList.drop s = w.getD s 0 :: w.toList.drop (s + 1) := by
  rw [List.drop_eq_getElem_cons (by simpa using h)]
  congr 1
  simp [Array.getD, h]
theorem extract_get (w : Array Nat) (s p : Nat) (h : s < p) (hp : p ≤ w.size) : (w.extract s p).toList = w.getD s 0 :: (w.extract (s + 1) p).toList := by
  simp only [Array.toList_extract, List.extract_eq_take_drop]
  rw [drop_get w s (by lia), show p - s = (p - (s + 1)) + 1 by lia, List.take_succ_cons]
theorem start_succ (w : Array Nat) (s : Nat) : atStart w (s + 1) = (w.getD s 0 == 10) := by simp [atStart]
theorem dots_next (w : Array Nat) : ∀ (n s : Nat), s + n = w.size → dots (atStart w s) (w.toList.drop s) = match next1 w n s with
    | some p => (w.extract s p).toList ++ (46 :: 46 :: dots (atStart w (p + 1)) (w.toList.drop (p + 1)))
    | none => (w.extract s w.size).toList := by
  intro n
  induction n with
  | zero =>
    intro s h
    rw [List.drop_of_length_le (by simp; lia)]
    show _ = (w.extract s w.size).toList
    rw [show w.extract s w.size = #[] by simp; lia]; rfl
  | succ n ih =>
    intro s h
    rw [drop_get w s (by lia)]
    rw [dots]
    unfold next1
    have hs : at1 w s = (atStart w s && w.getD s 0 == 46) := by
      unfold at1 atStart; rw [decide_eq_true (by lia : s < w.size), Bool.and_true]
    rw [hs]
    by_cases hc : atStart w s = true ∧ w.getD s 0 = 46
    · rw [if_pos hc, if_pos (by simp [hc.1, hc.2])]
      dsimp only
      rw [start_succ, hc.2, show w.extract s s = #[] by simp; lia]
      simp
    · rw [if_neg hc, if_neg (by simpa using hc)]
      rw [← start_succ, ih (s + 1) (by lia)]
      cases hn : next1 w n (s + 1) with
      | none => dsimp only; rw [extract_get w s w.size (by lia) (Nat.le_refl _)]
      | some p =>
        have := next1_some hn
        dsimp only
        rw [extract_get w s p (by lia) (by lia), List.cons_append]
theorem out1 (w : Array Nat) : ∀ (n s : Nat), s ≤ w.size → w.size < s + n → outS (nx1 w) w #[46, 46] n s = dots (atStart w s) (w.toList.drop s) := by
  intro n
  induction n with
  | zero => intro s h1 h2; lia
  | succ n ih =>
    intro s h1 h2
    rw [dots_next w (w.size - s) s (by lia)]
    unfold outS nx1
    cases hn : next1 w (w.size - s) s with
    | none => rfl
    | some p =>
      have := next1_some hn
      have e := ih (p + 1) (by lia) (by lia)
      unfold nx1 at e
      show (w.extract s p).toList ++ ([46, 46] ++ outS _ w #[46, 46] n (p + 1)) = _
      rw [e]; rfl
theorem crlf_next (w : Array Nat) : ∀ (n s : Nat), s + n = w.size → crlf false (w.toList.drop s) = match next3 w n s with
    | some p => (w.extract s p).toList ++ (13 :: 10 :: crlf false (w.toList.drop (p + span3 w p)))
    | none => (w.extract s w.size).toList := by
  intro n
  induction n with
  | zero =>
    intro s h
    rw [List.drop_of_length_le (by simp; lia)]
    show _ = (w.extract s w.size).toList
    rw [show w.extract s w.size = #[] by simp; lia]; rfl
  | succ n ih =>
    intro s h
    rw [drop_get w s (by lia)]
    unfold next3
    by_cases hc : (w.getD s 0 == 10 || w.getD s 0 == 13) = true
    · rw [if_pos hc]
      dsimp only
      rw [show w.extract s s = #[] by simp; lia]
      by_cases h13 : w.getD s 0 = 13
      · rw [h13]
        by_cases hl : s + 1 < w.size
        · by_cases h10 : w.getD (s + 1) 0 = 10
          · rw [show span3 w s = 2 by unfold span3; rw [h13, h10, decide_eq_true hl]; rfl, drop_get w (s + 1) hl, h10, crlf_crlf]; rfl
          · rw [show span3 w s = 1 by unfold span3; rw [if_neg (by rw [Bool.and_eq_true]; rintro ⟨_, h⟩; exact h10 (beq_iff_eq.mp h))], crlf_cr]
            · rfl
            · rw [drop_get w (s + 1) hl]; exact fun h => h10 (Option.some.inj h)
        · rw [show span3 w s = 1 by unfold span3; rw [decide_eq_false hl]; simp, crlf_cr]
          · rfl
          · rw [List.drop_of_length_le (by simp; lia)]; simp
      · have h10 : w.getD s 0 = 10 := by
          rw [Bool.or_eq_true, beq_iff_eq, beq_iff_eq] at hc; exact hc.resolve_right h13
        rw [h10, show span3 w s = 1 by unfold span3; rw [h10]; rfl, crlf_lf]; rfl
    · rw [if_neg hc]
      rw [Bool.or_eq_true, beq_iff_eq, beq_iff_eq, not_or] at hc
      rw [crlf_cons _ _ hc.2 hc.1, ih (s + 1) (by lia)]
      cases hn : next3 w n (s + 1) with
      | none => dsimp only; rw [extract_get w s w.size (by lia) (Nat.le_refl _)]
      | some p =>
        have := next3_some hn
        dsimp only
        rw [extract_get w s p (by lia) (by lia), List.cons_append]
theorem out3 (w : Array Nat) : ∀ (n s : Nat), s ≤ w.size → w.size < s + n → outS (nx3 w) w #[13, 10] n s = crlf false (w.toList.drop s) := by
  intro n
  induction n with
  | zero => intro s h1 h2; lia
  | succ n ih =>
    intro s h1 h2
    rw [crlf_next w (w.size - s) s (by lia)]
    unfold outS nx3
    cases hn : next3 w (w.size - s) s with
    | none => rfl
    | some p =>
      have h3 := next3_some hn
      have h4 := span3_le (w := w) (p := p) (by lia)
      have e := ih (p + span3 w p) (by lia) (by lia)
      unfold nx3 at e
      show (w.extract s p).toList ++ ([13, 10] ++ outS _ w #[13, 10] n (p + span3 w p)) = _
      rw [e]; rfl
theorem dots_len : ∀ (l : List Nat) (b : Bool), (dots b l).length ≤ 2 * l.length := by
  intro l
  induction l with
  | nil => intro b; simp [dots]
  | cons c l ih =>
    intro b
    unfold dots
    split
    · have := ih false; simp; lia
    · have := ih (c == 10); simp; lia
theorem crlf_len : ∀ (l : List Nat) (b : Bool), (crlf b l).length ≤ 2 * l.length := by
  intro l
  induction l with
  | nil => intro b; simp [crlf]
  | cons c l ih =>
    intro b
    have h1 := ih true; have h2 := ih false
    unfold crlf
    split
    · simp; lia
    · split
      · simp; lia
      · split <;> simp <;> lia
theorem out1_all (w : Array Nat) : outS (nx1 w) w #[46, 46] (w.size + 1) 0 = dots true w.toList := by
  rw [out1 w _ 0 (by lia) (by lia)]; rfl
theorem out3_all (w : Array Nat) : outS (nx3 w) w #[13, 10] (w.size + 1) 0 = crlf false w.toList := by
  rw [out3 w _ 0 (by lia) (by lia)]; rfl
end Mine
end R8
section X0
open PySem PySem.W
namespace Mine
theorem bit63 (b : Nat) : Builtin.bitAnd (b : Int) 63 = ((b % 64 : Nat) : Int) := by
  unfold Builtin.bitAnd
  rw [decide_eq_true (by omega : (0 : Int) ≤ b), decide_eq_true (by omega : (0 : Int) ≤ 63)]
  show (((b : Int).toNat &&& (63 : Nat) : Nat) : Int) = _
  rw [Int.toNat_natCast]
  have : b &&& 63 = b % 64 := Nat.and_two_pow_sub_one_eq_mod b 6
  rw [this]
theorem bit64 (b : Nat) : Builtin.bitAnd (b : Int) 64 = if b / 64 % 2 = 1 then 64 else 0 := by
  unfold Builtin.bitAnd
  rw [decide_eq_true (by omega : (0 : Int) ≤ b), decide_eq_true (by omega : (0 : Int) ≤ 64)]
  show (((b : Int).toNat &&& (64 : Nat) : Nat) : Int) = _
  rw [Int.toNat_natCast]
  have h1 : b &&& 64 = (b % 128) &&& 64 := by
    have : b &&& 127 = b % 128 := Nat.and_two_pow_sub_one_eq_mod b 7
    rw [← this, Nat.and_assoc]; rfl
  have h2 : ∀ k < 128, (((k &&& 64 : Nat) : Int) = if k / 64 % 2 = 1 then 64 else 0) := by decide
  rw [h1, h2 (b % 128) (Nat.mod_lt _ (by decide)), show b % 128 / 64 % 2 = b / 64 % 2 by omega]
theorem bitor6 (v r : Nat) (h : r < 64) : Builtin.bitOr ((v * 64 : Nat) : Int) (r : Int) = ((v * 64 + r : Nat) : Int) := by
  unfold Builtin.bitOr
  have n1 : Builtin.bitNot ((v * 64 : Nat) : Int) < 0 := by unfold Builtin.bitNot; omega
  have n2 : Builtin.bitNot (r : Int) < 0 := by unfold Builtin.bitNot; omega
  unfold Builtin.bitAnd
  rw [decide_eq_false (by omega : ¬ 0 ≤ Builtin.bitNot ((v * 64 : Nat) : Int)), decide_eq_false (by omega : ¬ 0 ≤ Builtin.bitNot (r : Int))]
  dsimp only
  have nn : ∀ z : Int, Builtin.bitNot (Builtin.bitNot z) = z := by intro z; unfold Builtin.bitNot; omega
  rw [nn, nn, nn, Int.toNat_natCast, Int.toNat_natCast]
  congr 1
  have := Nat.shiftLeft_add_eq_or_of_lt (b := r) (i := 6) (by simpa using h) v
  rw [Nat.shiftLeft_eq] at this
  exact this.symm
end Mine
end X0
section M0
open PySem PySem.W PyProof.Rows PySem.Calls PySem.Spec PyProof.V PySem.SeqAt
namespace Mine
theorem runs_toks {M : Model} {Γ : PySem.Ctx} {p : Pos} {t : Sem Fin} {fs : List Frame} {s : Shared} {e : End} {s' : Shared} (h : Runs M Γ p t fs s e s') : s.toks ≤ s'.toks := by
  induction h with
  | done => exact Nat.le_refl _
  | raise => exact Nat.le_refl _
  | again _ _ ih => exact ih
  | rule _ ih => exact ih
  | «at» _ ih => exact ih
  | load _ _ ih => exact ih
  | update _ _ ih => exact ih
  | loadIfAlive _ ih => exact ih
  | point _ ih => exact ih
  | alloc _ ih => exact ih
  | fresh _ ih => exact Nat.le_of_succ_le ih
  | ask _ ih => exact ih
  | choose _ _ ih => exact ih
  | os _ ih => exact ih
  | handled _ ih => exact ih
  | genState _ _ ih => exact ih
  | stack _ ih => exact ih
  | thread _ ih => exact ih
  | newGen _ ih => exact ih
  | call _ _ i1 i2 => exact Nat.le_trans i1 i2
  | callSusp _ i1 => exact i1
  | yield => exact Nat.le_refl _
  | resumeFresh _ _ _ _ i1 i2 => exact Nat.le_trans i1 i2
  | resumeSuspended _ _ _ _ i1 i2 => exact Nat.le_trans i1 i2
  | resumeJustStarted _ _ _ ih => exact ih
  | resumeThrowFresh _ _ ih => exact ih
  | resumeRunning _ _ ih => exact ih
  | resumeFinished _ _ ih => exact ih
  | segRet _ _ i1 i2 => exact Nat.le_trans i1 i2
  | segGen _ _ i1 i2 => exact Nat.le_trans i1 i2
  | segSuspOut _ _ i1 => exact i1
  | segSuspGen _ _ _ _ i1 i2 => exact Nat.le_trans i1 i2
theorem wakes_toks {M : Model} {Γ : PySem.Ctx} {p : Pos} {g : Nat} {r : Resume} {s : Shared} {res : GenResult} {s' : Shared} (h : Wakes M Γ p g r s res s') : s.toks ≤ s'.toks := by
  unfold Wakes at h
  split at h
  · exact h.elim
  · split at h
    · obtain ⟨e₁, s₁, h1, _, _, rfl⟩ := h
      have := runs_toks h1
      exact this
    · rw [h.2]; exact Nat.le_refl _
    · rw [h.2]; exact Nat.le_refl _
  · obtain ⟨e₁, s₁, h1, _, _, rfl⟩ := h
    have := runs_toks h1
    exact this
  · rw [h.2]; exact Nat.le_refl _
  · rw [h.2]; exact Nat.le_refl _
theorem wp_toks {α : Type} {M : Model} : ∀ (t : Sem α) {Γ : PySem.Ctx} {Q : α → Pos → Shared → Prop} {E : Value → Pos → Shared → Prop} {p : Pos} {s : Shared} (n : Nat), n ≤ s.toks →
    Sem.wp M Γ t (fun a p' s' => n ≤ s'.toks → Q a p' s') (fun e p' s' => n ≤ s'.toks → E e p' s') p s → Sem.wp M Γ t Q E p s := by
  intro t
  induction t with
  | pure a => intro Γ Q E p s n hn h; rw [Sem.wp] at h ⊢; exact h hn
  | raise e => intro Γ Q E p s n hn h; rw [Sem.wp] at h ⊢; exact h hn
  | unsupported w => intro Γ Q E p s n hn h; rw [Sem.wp] at h ⊢; exact h
  | finish w => intro Γ Q E p s n hn h; rw [Sem.wp] at h ⊢; exact h
  | rule tag k ih => intro Γ Q E p s n hn h; rw [Sem.wp] at h ⊢; exact ih _ n hn h
  | «at» p' k ih => intro Γ Q E p s n hn h; rw [Sem.wp] at h ⊢; exact ih _ n hn h
  | load a part k ih => intro Γ Q E p s n hn h; rw [Sem.wp] at h ⊢; obtain ⟨o, h1, h2⟩ := h; exact ⟨o, h1, ih _ n hn h2⟩
  | update a part f k ih => intro Γ Q E p s n hn h; rw [Sem.wp] at h ⊢; exact ⟨h.1, ih _ n hn h.2⟩
  | alloc o k ih => intro Γ Q E p s n hn h; rw [Sem.wp] at h ⊢; exact ih _ n hn h
  | loadIfAlive a k ih => intro Γ Q E p s n hn h; rw [Sem.wp] at h ⊢; exact ih _ n hn h
  | point l k ih => intro Γ Q E p s n hn h; rw [Sem.wp] at h ⊢; exact ih _ n hn h
  | register a k ih => intro Γ Q E p s n hn h; rw [Sem.wp] at h ⊢; exact h
  | fresh k ih => intro Γ Q E p s n hn h; rw [Sem.wp] at h ⊢; exact ih _ n (Nat.le_succ_of_le hn) h
  | ask k ih => intro Γ Q E p s n hn h; rw [Sem.wp] at h ⊢; exact ih _ n hn h
  | choose src m k ih => intro Γ Q E p s n hn h; rw [Sem.wp] at h ⊢; exact ⟨h.1, ih _ n hn h.2⟩
  | os q l k ih => intro Γ Q E p s n hn h; rw [Sem.wp] at h ⊢; exact ih _ n hn h
  | call c hh g l k ih =>
    intro Γ Q E p s n hn h; rw [Sem.wp] at h ⊢
    obtain ⟨r, s', h1, h2⟩ := h
    exact ⟨r, s', h1, ih _ n (Nat.le_trans hn (runs_toks h1)) h2⟩
  | handled own k ih => intro Γ Q E p s n hn h; rw [Sem.wp] at h ⊢; exact ih _ n hn h
  | newGen c k ih => intro Γ Q E p s n hn h; rw [Sem.wp] at h ⊢; exact ih _ n hn h
  | genState g k ih => intro Γ Q E p s n hn h; rw [Sem.wp] at h ⊢; obtain ⟨st, h1, h2⟩ := h; exact ⟨st, h1, ih _ n hn h2⟩
  | resume g r l k ih =>
    intro Γ Q E p s n hn h; rw [Sem.wp] at h ⊢
    obtain ⟨res, s', h1, h2⟩ := h
    exact ⟨res, s', h1, ih _ n (Nat.le_trans hn (wakes_toks h1)) h2⟩
  | yield v g l k ih => intro Γ Q E p s n hn h; rw [Sem.wp] at h ⊢; exact h
  | stack k ih => intro Γ Q E p s n hn h; rw [Sem.wp] at h ⊢; exact ih _ n hn h
  | fork c k ih => intro Γ Q E p s n hn h; rw [Sem.wp] at h ⊢; exact h
  | thread k ih => intro Γ Q E p s n hn h; rw [Sem.wp] at h ⊢; exact ih _ n hn h
  | await a take timed l k ih => intro Γ Q E p s n hn h; rw [Sem.wp] at h ⊢; exact h
/-- tokens only grow: what a step ends in has no fewer than it began with -/
theorem toks_grow {α : Type} {M : Model} {A : Around} {E : Value → Shared → Prop} {s : Shared} {t : Sem α} {Q : α → Shared → Prop} (h : wpAny M A t (fun a s' => s.toks ≤ s'.toks → Q a s') E s) : wpAny M A t Q E s :=
  fun Γ p hΓ => wp_toks t s.toks (Nat.le_refl _) (Sem.wp_mono M Γ t (fun _ _ _ x => x) (fun e _ s' x => fun (_ : s.toks ≤ s'.toks) => x) p s (h Γ p hΓ))
theorem enter_defT {prog : Program} {w : World} {A₀ A : Around} {s : Shared} {K : Frag} {L : Addr} {h₀ base : Heap} {m mg mb : Str → Option Value} {news : List (Addr × Obj)} {p : Program} {loose : List Str} {mean : ExcName → Option Value}
    {env : Env} {outer : List Env} {R : Result → Shared → Prop} {name qual : Str} {params : Arguments} {body : List Stmt} {scope : Scope} {dV kV doc pm cdv ct oc : Value} {an od : Option Addr} {osl : Array (Option Value)} {f : Addr} {args : Args} (ps : List (Str × Value))
    (B : Below A₀ base outer h₀) (F : Fr h₀ L s.heap m) (X₀ : K.In h₀) (N : News h₀ L s.heap news) (T : Top p loose mean mg mb h₀) (hA : A.frames = some (env :: outer)) (hf : env.frame = some L) (hke : env.scope.kind = .function)
    (ho : K.lookup f = some ⟨oc, od, .func (fnOf name qual params body scope dV kV doc pm an cdv ct), osl⟩) (hcd : codeIn K cdv qual = true) (hroom : A.depth < recursionLimit)
    (hbind : BindsTo s (fnOf name qual params body scope dV kV doc pm an cdv ct) args ps) (hloc : ∀ y ∈ ps, scope.names.lookup y.1 = some .local)
    (hco : scope.isCoroutine = false) (hgen : scope.isGenerator = false) (hk : scope.kind = .function)
    (hcell : ∀ x ∈ scope.names, x.2 ≠ .cell)
    (hne : ps ≠ []) (h : ∀ g L' h₁ tk, 1 ≤ tk → Fr h₀ L g m → Fr g L' h₁ (kstB (fun _ => none) ps.reverse) → News g L' h₁ news → Below A base (env :: outer) g → K.In g → Top p loose mean mg mb g →
      wpAny (model prog w) (A.deeper (envOf qual scope L' f cdv)) (execs body (envOf qual scope L' f cdv))
        (fun fl s' => LeaveK h₀ L m g R (match fl with | .ret v => v | _ => .none) s')
        (fun e s' => wpAny (model prog w) (A.deeper (envOf qual scope L' f cdv)) (leaving (envOf qual scope L' f cdv) e) (fun _ s'' => R (.error e) s'') (fun e' s'' => R (.error e') s'') s')
        { s with heap := h₁, toks := tk }) : codeAny (model prog w) A (.call (.ref f) args) R s :=
  code_def B F X₀ N T hA hf hke ho hcd hroom hbind hloc (fun g L' h₁ FG F' N' B' X' T' => h g L' h₁ _ (Nat.le_trans (List.length_pos_iff.mpr hne) (Nat.le_add_left _ _)) FG (fr_kstB F') N' B' X' T') hco hgen hk hcell
theorem pos_grow {α : Type} {M : Model} {A : Around} {E : Value → Shared → Prop} {s : Shared} {t : Sem α} {Q : α → Shared → Prop} (hp : 1 ≤ s.toks) (h : wpAny M A t (fun a s' => 1 ≤ s'.toks → Q a s') E s) : wpAny M A t Q E s :=
  toks_grow (wpAny_mono h (fun _ _ x y => x (Nat.le_trans hp y)) fun _ _ x => x)
theorem gen_toks {α : Type} {M : Model} {A : Around} {E : Value → Shared → Prop} {h : Heap} {g : Array GenState} {d : Drawn} {o : OsState} {n : Nat} {t : Sem α} {Q : α → Shared → Prop} (hp : 1 ≤ n) (hh : ∀ tk, 1 ≤ tk → wpAny M A t Q E ⟨h, g, d, tk, o⟩) : wpAny M A t Q E ⟨h, g, d, n, o⟩ :=
  hh n hp
section
variable {prog : Program} {w : World} {A : Around} {E : Value → Shared → Prop} {s : Shared} {x y z : Str} {t u v : Tok} {Q : Value → Shared → Prop}
theorem replaceT (hs : 1 ≤ s.toks) (hu : 1 ≤ (u : Nat)) (huv : (u : Nat) < v) (hyz : (y == z) = false) (hx : x.length ≤ 1048576) (hz : z.length ≤ 14)
    (hq : ∀ t' k, 1 ≤ k → Q (.str (Txt.replace x y z) t') { s with toks := k }) : wpAny (model prog w) A (call (.builtin "str.replace") [.str x t, .str y u, .str z v]) Q E s :=
  pos_grow hs (SC.replaceW (Nat.ne_of_gt hu) (Nat.ne_of_gt (Nat.lt_trans hu huv)) (Nat.ne_of_lt huv) hyz hx hz (fun t' k hk => hq t' k hk))
end
end Mine
end M0
section E0
open PySem PySem.W PyProof.Rows PySem.Calls PySem.Spec PyProof.V PySem.SeqAt
set_option maxRecDepth 100000
namespace Mine
/-- the heap h' behind a StopIteration X that flew out of a call begun at h; I: the iterator; fr: the frames that stood -/
structure Thrown (h h' : Heap) (I : Addr) (fr : List Addr) (outer : List Env) (X : Addr) : Prop where
  keep : ∀ b o, b ≠ I → b ∉ fr → h.get? b = some o → h'.get? b = some o
  frame : ∀ b o, b ≠ I → b ∈ fr → h.get? b = some o → (∀ vs, o.data ≠ .fields vs) → ∃ sl, h'.get? b = some { o with slots := sl }
  new : h.get? X = none
  fly : ∃ (bs : Heap) (a0 : Value), Heap.FlyingW bs outer X (.type "StopIteration") a0 h' ∧ ∀ b o, b ≠ I → b ∉ fr → h.get? b = some o → bs.get? b = some o
theorem funFrames_move {base g h : Heap} {as : List Addr} : ∀ {l : List Env}, g.FunFrames base l → (∀ b o, g.get? b = some o → (∀ vs, o.data ≠ .fields vs) → h.get? b = some o) → (∀ env ∈ l, ∀ a, env.frame = some a → a ∈ as) → h.FunFrames (hideAll h as) l := by
  intro l
  induction l with
  | nil => intro _ _ _; trivial
  | cons env l ih =>
    rintro ⟨hk, ⟨L, o, hf, hn, ho, hd⟩, hr⟩ hm ha
    exact ⟨hk, ⟨L, o, hf, hideAll_none _ (ha env (.head _) L hf), hm L o ho hd, hd⟩, ih hr hm (fun e he => ha e (.tail _ he))⟩
section
variable {prog : Program} {w : World} {A : Around} {s : Shared} {L : Addr} {m : Str → Option Value} {news : List (Addr × Obj)}
theorem raise_next {base g : Heap} {env : Env} {outer : List Env} {I T : Addr} {i n : Nat} {items : Array Value} {Q : Value → Shared → Prop} {E E' : Value → Shared → Prop}
    (hfr : A.frames = some (env :: outer)) (hh : A.handled = none) (hf : env.frame = some L) (hkind : env.scope.kind ≠ .module) (G : g.FunFrames base outer) (F : Fr g L s.heap m) (N : News g L s.heap ((I, itObj T i) :: news))
    (hT : (T, listOf items n) ∈ news) (hx : items[i]? = none) (h : ∀ h' X, Thrown s.heap h' I (L :: outer.filterMap (·.frame)) outer X → E (.ref X) { s with heap := h' }) :
    wpAny (model prog w) A (call (.builtin "next") [.ref I]) Q (fun e s' => wpAny (model prog w) A (leaving env e) (fun _ s'' => E e s'') E' s') s := by
  refine next_stop hh N hT hx (fun h1 X oX vs hk hX hoX hcX hdX hvX => ?_)
  have hI : s.heap.get? I = some (itObj T i) := N.get (.head _)
  have hnf : ∀ b o, s.heap.get? b = some o → (∀ vs, o.data ≠ .fields vs) → h1.get? b = some o := by
    intro b o hb hd
    refine hk b o ?_ hb
    rintro rfl
    rw [hI] at hb
    cases hb
    exact hd _ rfl
  have hgf : ∀ b o, g.get? b = some o → (∀ vs, o.data ≠ .fields vs) → h1.get? b = some o := fun b o hb hd => hnf b o (F.keep b o hb) hd
  have hfrs : ∀ e ∈ env :: outer, ∀ a, e.frame = some a → a ∈ X :: L :: outer.filterMap (·.frame) := by
    intro e he a ha
    rcases List.mem_cons.mp he with rfl | he
    · rw [hf] at ha; cases ha; exact .tail _ (.head _)
    · exact .tail _ (.tail _ (List.mem_filterMap.mpr ⟨e, he, ha⟩))
  have hFF : h1.FunFrames (hideAll h1 (X :: L :: outer.filterMap (·.frame))) (env :: outer) := by
    obtain ⟨oL, es, ep, hoL, hdL, _⟩ := F.ns
    have hdL' : ∀ vs, oL.data ≠ .fields vs := fun vs q => by rw [hdL] at q; cases q
    exact ⟨hkind, ⟨L, oL, hf, hideAll_none _ (.tail _ (.head _)), hnf L oL hoL hdL', hdL'⟩, funFrames_move G hgf (fun e he => hfrs e (.tail _ he))⟩
  obtain ⟨a0, ha0⟩ : ∃ a0, vs[0]? = some a0 := ⟨vs[0]'(by have := (Array.getElem?_eq_some_iff.mp hvX).1; omega), Array.getElem?_eq_getElem _⟩
  refine wpAny_leaving_firstW (s := { s with heap := h1 }) hfr hFF hf hoX (fun b o e => of_hideAll _ e) (hideAll_none _ (.head _)) hdX hvX ha0 (fun h2 hleft => ?_)
  obtain ⟨hst, hff2, htr, hsl⟩ := hleft
  rw [hcX] at htr
  have hne : ∀ b o, s.heap.get? b = some o → b ≠ X := by rintro b o hb rfl; rw [hX] at hb; cases hb
  refine h h2 X ⟨?_, ?_, hX, ⟨_, a0, ⟨hst, hideAll_none _ (.head _), hff2.2.2, htr⟩, ?_⟩⟩
  · intro b o hb hbf e
    refine hst b o (hideAll_get _ (hk b o hb e) ?_)
    intro hm
    rcases List.mem_cons.mp hm with hm | hm
    · exact hne b o e hm
    · exact hbf hm
  · intro b o _ _ e hd
    exact hsl b o (hnf b o e hd) hd
  · intro b o hb hbf e
    refine hideAll_get _ (hk b o hb e) ?_
    intro hm
    rcases List.mem_cons.mp hm with hm | hm
    · exact hne b o e hm
    · exact hbf hm
end
theorem enter_defG {prog : Program} {w : World} {A₀ A : Around} {s : Shared} {K : Frag} {L : Addr} {h₀ base : Heap} {m mg mb : Str → Option Value} {news : List (Addr × Obj)} {p : Program} {loose : List Str} {mean : ExcName → Option Value}
    {env : Env} {outer : List Env} {R : Result → Shared → Prop} {name qual : Str} {params : Arguments} {body : List Stmt} {scope : Scope} {dV kV doc pm cdv ct oc : Value} {an od : Option Addr} {osl : Array (Option Value)} {f : Addr} {args : Args} (ps : List (Str × Value))
    (B : Below A₀ base outer h₀) (F : Fr h₀ L s.heap m) (X₀ : K.In h₀) (N : News h₀ L s.heap news) (T : Top p loose mean mg mb h₀) (hA : A.frames = some (env :: outer)) (hf : env.frame = some L) (hke : env.scope.kind = .function)
    (ho : K.lookup f = some ⟨oc, od, .func (fnOf name qual params body scope dV kV doc pm an cdv ct), osl⟩) (hcd : codeIn K cdv qual = true) (hroom : A.depth < recursionLimit)
    (hbind : BindsTo s (fnOf name qual params body scope dV kV doc pm an cdv ct) args ps) (hloc : ∀ y ∈ ps, scope.names.lookup y.1 = some .local)
    (hco : scope.isCoroutine = false) (hgen : scope.isGenerator = false) (hk : scope.kind = .function)
    (hcell : ∀ x ∈ scope.names, x.2 ≠ .cell) (hne : ps ≠ [])
    (h : ∀ g L' h₁ tk, 1 ≤ tk → GSub s.heap g (news.map (·.1)) → Fr h₀ L g m → Fr g L' h₁ (kstB (fun _ => none) ps.reverse) → News g L' h₁ news → Below A base (env :: outer) g → K.In g → Top p loose mean mg mb g →
      wpAny (model prog w) (A.deeper (envOf qual scope L' f cdv)) (execs body (envOf qual scope L' f cdv))
        (fun fl s' => LeaveK h₀ L m g R (match fl with | .ret v => v | _ => .none) s')
        (fun e s' => wpAny (model prog w) (A.deeper (envOf qual scope L' f cdv)) (leaving (envOf qual scope L' f cdv) e) (fun _ s'' => R (.error e) s'') (fun e' s'' => R (.error e') s'') s')
        { s with heap := h₁, toks := tk }) : codeAny (model prog w) A (.call (.ref f) args) R s :=
  code_defG B F X₀ N T hA hf hke ho hcd hroom hbind hloc (fun g L' h₁ FG F' N' B' X' T' G' => h g L' h₁ _ (Nat.le_trans (List.length_pos_iff.mpr hne) (Nat.le_add_left _ _)) G' FG (fr_kstB F') N' B' X' T') hco hgen hk hcell
theorem Thrown.out {h₀ hs g h h' : Heap} {L L' I X : Addr} {oI oI' : Obj} {m : Str → Option Value} {news : List (Addr × Obj)} {fr : List Addr} {outer : List Env} (G : GSub hs g (((I, oI) :: news).map (·.1))) (N : News h₀ L hs ((I, oI) :: news)) (F : Fr g L' h m) (N' : News g L' h ((I, oI') :: news))
    (t : Thrown h h' I (L' :: fr) outer X) : Thrown hs h' I fr outer X := by
  have up : ∀ b o, b ≠ I → hs.get? b = some o → h.get? b = some o ∧ b ≠ L' := by
    intro b o hb e
    by_cases hm : b ∈ news.map (·.1)
    · obtain ⟨p, hp, rfl⟩ := List.mem_map.mp hm
      have h1 := (N p (.tail _ hp)).1
      rw [e] at h1
      cases h1
      exact ⟨(N' p (.tail _ hp)).1, (N' p (.tail _ hp)).2.1⟩
    · have e2 := G b o e (fun hh => by
        rcases List.mem_cons.mp hh with hh | hh
        · exact hb hh
        · exact hm hh)
      refine ⟨F.keep b o e2, ?_⟩
      rintro rfl
      exact absurd (Heap.lt_size e2) (Nat.not_lt.mpr F.above)
  have nf : ∀ b o, b ∉ fr → b ≠ I → hs.get? b = some o → b ∉ L' :: fr := by
    intro b o hb hI e hm
    rcases List.mem_cons.mp hm with hm | hm
    · exact (up b o hI e).2 hm
    · exact hb hm
  refine ⟨fun b o hI hb e => t.keep b o hI (nf b o hb hI e) (up b o hI e).1, fun b o hI hb e hd => t.frame b o hI (.tail _ hb) (up b o hI e).1 hd, ?_, ?_⟩
  · cases q : hs.get? X with
    | none => rfl
    | some o =>
      by_cases hI : X = I
      · have := t.new
        rw [hI, (N' _ (.head _)).1] at this
        cases this
      · have := (up X o hI q).1
        rw [t.new] at this
        cases this
  · obtain ⟨bs, a0, htr, hk⟩ := t.fly
    exact ⟨bs, a0, htr, fun b o hI hb e => hk b o hI (nf b o hb hI e) (up b o hI e).1⟩
end Mine
end E0
section V6
open PySem PySem.W PyProof.Rows PySem.Calls PySem.Spec PyProof.V PySem.SeqAt
set_option pp.structureInstances false
set_option maxRecDepth 100000
set_option maxHeartbeats 8000000
namespace Mine
local macro_rules | `(tactic| walk_at "ENTER") => `(tactic| ((case kA => exact rfl); (case kF => exact rfl); (case kK => assumption); (case k6 => k_is); (case k7 => k_is); (case k8 => ktr_room); (case k9 => exact BindsTo.of_eq rfl); (case c5 => decide); (case kB => exact locs rfl); (case c2 => exact rfl); (case c3 => exact rfl); (case c4 => exact rfl)))

noncomputable def vgo : Nat → List Nat → Option (Nat × List Nat)
  | _, [] => none
  | v, b :: l => if b / 64 % 2 = 1 then vgo (v * 64 + b % 64) l else some (v * 64 + b % 64, l)
theorem ints_get {us : List Value} {ks : List Nat} (h : IntsAre us (intsL ks)) {i b : Nat} (hb : ks[i]? = some b) : ∃ t, us.toArray[i]? = some (.int (b : Int) t) := by
  induction ks generalizing us i with
  | nil => simp at hb
  | cons k ks ih =>
    cases h with
    | cons _ t h2 =>
      cases i with
      | zero => simp at hb; subst hb; exact ⟨t, by simp⟩
      | succ i =>
        obtain ⟨t', e⟩ := ih h2 (i := i) (by simpa using hb)
        exact ⟨t', by simpa using e⟩
theorem ints_none {us : List Value} {ks : List Nat} (h : IntsAre us (intsL ks)) {i : Nat} (hb : ks[i]? = none) : us.toArray[i]? = none := by
  have h1 := h.length
  rw [intsL, List.length_map] at h1
  rw [List.getElem?_eq_none_iff] at hb
  rw [Array.getElem?_eq_none_iff]
  simp; lia
local macro_rules | `(tactic| walk_at "READS") => `(tactic| (repeat' (first | exact trivial | refine And.intro rfl ?_)))
local macro_rules | `(tactic| walk_at "call builtin:next") => `(tactic| refine Hold.out ?_)
local macro_rules | `(tactic| walk_at "exec While") => `(tactic| refine Hold.out ?_)
theorem while_inv3 {prog : Program} {w : World} {A : Around} {E : Value → Shared → Prop} {Q : Flow → Shared → Prop} {s : Shared} {env : Env} {h₀ : Heap} {L : Addr} {body : List Stmt} {σ : Type} {test : PySem.Expr} {pos : Pos} {m₀ : Str → Option Value} (Led : σ → List (Addr × Obj)) (ps : σ → List (Str × Value)) (P Pd : σ → Prop) (μ : σ → Nat) (c₀ : σ)
    (F : Fr h₀ L s.heap m₀) (N : News h₀ L s.heap (Led c₀)) (hk : AllRead m₀ (ps c₀)) (hp : P c₀)
    (turn : ∀ (c : σ) (u : Str → Option Value) h tk, P c → Fr h₀ L h (kstB u (ps c)) → News h₀ L h (Led c) →
      wpAny (model prog w) A (isTrue test env (eval test env)) (fun b s₂ =>
        if b = true then wpAny (model prog w) A (execs body env) (WPost h₀ L s Led ps P μ Q c) E s₂ else WDone h₀ L s Led ps Pd s₂) E { s with heap := h, toks := tk })
    (done : ∀ (c : σ) (u : Str → Option Value) h tk, Pd c → Fr h₀ L h (kstB u (ps c)) → News h₀ L h (Led c) → Q .next { s with heap := h, toks := tk })
    (hE : PassesOwn (model prog w) A env E) :
    wpAny (model prog w) A (exec (.While test body [] pos) env) Q E s := by
  refine While_inv2 (fun n m nx => ∃ c : σ, nx = Led c ∧ μ c = n ∧ AllRead m (ps c) ∧ P c) F N ⟨c₀, rfl, rfl, hk, hp⟩ ?_ hE
  rintro n m₁ nx h tk F₁ N₁ ⟨c, rfl, rfl, hk', hp'⟩
  rw [← kstB_self hk'] at F₁
  refine wpAny_mono (turn c m₁ h tk hp' F₁ N₁) (fun b s₂ p => ?_) fun _ _ x => x
  cases b with
  | false =>
    simp only [Bool.false_eq_true, if_false] at p ⊢
    obtain ⟨c', h', tk', m', rfl, F', N', hk2, hp2⟩ := p
    rw [← kstB_self hk2] at F'
    exact done c' m' h' tk' hp2 F' N'
  | true =>
    simp only [if_true] at p ⊢
    refine wpAny_mono p (fun f s₃ h₃ => ?_) fun _ _ x => x
    have fin : WEnd h₀ L s Led ps P μ c s₃ → ∃ h' tk m₂ news₂ n', s₃ = { s with heap := h', toks := tk } ∧ Fr h₀ L h' m₂ ∧ News h₀ L h' news₂ ∧ n' < μ c ∧ ∃ c' : σ, news₂ = Led c' ∧ μ c' = n' ∧ AllRead m₂ (ps c') ∧ P c' := by
      rintro ⟨c', h', tk', m', news', rfl, F', N', hn, hk2, hp2, hm⟩
      exact ⟨h', tk', m', Led c', μ c', rfl, F', fun p hp => N' p (hn p hp), hm, c', rfl, rfl, hk2, hp2⟩
    cases f with
    | next => exact fin h₃
    | cont => exact fin h₃
    | brk => exact h₃
    | ret v => exact h₃
theorem bits_ok {v j : Nat} (h : v < 64 ^ j) (hj : j ≤ 200) : (Builtin.Int.intBits (v : Int) : Int) + 6 ≤ 2 ^ 27 := by
  have h1 : (v : Int).natAbs < 2 ^ (6 * j) := by
    rw [Int.natAbs_natCast, Nat.pow_mul]; exact h
  have := intBits_le h1
  lia
theorem varint_claim {w : World} {mean : ExcName → Option Value} {mg mb : Str → Option Value} {news} {I T' : Addr} {i n : Nat} {us : List Value} {ks : List Nat}
  {dp un : Nat} {gd : Option (List Code)} {cn : Str} {cs : Scope} {a : Addr} {ccd : Value} {cl : List (Str × Addr)} {outer : List Env} {A₀ : Around} {base h₀ : Heap} {L : Addr} {m : Str → Option Value} {s : Shared} {Q E : Value → Shared → Prop}
  (B : Below A₀ base outer h₀) (F : Fr h₀ L s.heap m) (X : (hd.heap_39 w.params).In h₀) (N : News h₀ L s.heap ((I, itObj T' i) :: news)) (T : Top hd.view_39 loose mean mg mb h₀) (hk : cs.kind = .function)
  (hdp : dp + 5 < recursionLimit) (hun : un + 200 < cLine) (hT : (T', listOf us.toArray n) ∈ news) (hap : ∀ p ∈ news, p.1 ≠ I) (hus : IntsAre us (intsL ks)) (hkl : ks.length ≤ 200)
  (hret : ∀ (v : Nat) (r : List Nat) (t : Tok) (h' : Heap) (tk' : Nat), vgo 0 (ks.drop i) = some (v, r) → Fr h₀ L h' m → News h₀ L h' ((I, itObj T' (ks.length - r.length)) :: news) → Q (.int (v : Int) t) { s with heap := h', toks := tk' })
  (hraise : vgo 0 (ks.drop i) = none → ∀ h' X tk', Thrown s.heap h' I (L :: outer.filterMap (·.frame)) (envX cn cs L a ccd cl :: outer) X → E (.ref X) { s with heap := h', toks := tk' }) :
  wpAny (model PySem.Challenge.pw_ta0009_01 w) (ktrTop dp un gd cn cs L a ccd cl outer) (call (.ref 38) [.ref I]) Q E s := by
  refine wpAny_call ?_
  k_dflt (refine' enter_defG [("iterator", .ref I)] B F X N T ?kA ?kF ?kK ?k6 ?k7 ?k8 ?k9 ?kB ?c2 ?c3 ?c4 ?c5 ?ne ?_; (case ne => exact fun h => nomatch h); walk_at "ENTER")
  intro g' L' h1 tk0 htk0 GS FG F1 N1 B1 X1 T1
  dsimp only [List.reverse, List.reverseAux] at F1
  try dsimp only
  k_fold
  k_steps
  refine Hold.mk ?_
  cases hx : ks[i]? with
  | none =>
    refine raise_next (Around.frames_deeper B1.stack) rfl rfl (fun q => nomatch q) B1.frames F1 N1 hT (ints_none hus hx) (fun h2 X2 ht => ?_)
    refine hraise ?_ _ _ _ (ht.out GS N F1 N1)
    rw [List.drop_of_length_le (by rw [List.getElem?_eq_none_iff] at hx; exact hx)]; rfl
  | some b =>
    obtain ⟨tb, hx2⟩ := ints_get hus hx
    have hdrop : ∀ j c, ks[j]? = some c → ks.drop j = c :: ks.drop (j + 1) := by
      intro j c hj
      rw [List.getElem?_eq_some_iff] at hj
      obtain ⟨hlt, e⟩ := hj
      rw [List.drop_eq_getElem_cons hlt, e]
    refine next_ok F1 N1 hT hap hx2 (fun h2 F2 N2 => ?_)
    k_steps
    rename_i h3 F3 N3
    rw [bit63] at F3
    refine Hold.mk ?_
    refine while_inv3 (σ := Nat × Nat × Tok × Nat × Tok) (fun c => (I, itObj T' c.1) :: news) (fun c => [("b", .int (c.2.1 : Int) c.2.2.1), ("val", .int (c.2.2.2.1 : Int) c.2.2.2.2), ("iterator", .ref I)])
      (fun c => c.1 ≤ ks.length ∧ c.2.2.2.1 < 64 ^ c.1 ∧ vgo 0 (ks.drop i) = if c.2.1 / 64 % 2 = 1 then vgo c.2.2.2.1 (ks.drop c.1) else some (c.2.2.2.1, ks.drop c.1))
      (fun c => c.1 ≤ ks.length ∧ vgo 0 (ks.drop i) = some (c.2.2.2.1, ks.drop c.1)) (fun c => ks.length - c.1) (i + 1, b, tb, b % 64, _) F3 N3 (by walk_at "READS") ⟨?_, ?_, ?_⟩ ?_ ?_ (by first | passes_own | with_unfolding_all passes_own)
    · rw [List.getElem?_eq_some_iff] at hx; obtain ⟨hlt, _⟩ := hx; exact hlt
    · have : 64 ^ 1 ≤ 64 ^ (i + 1) := Nat.pow_le_pow_right (by decide) (by lia)
      dsimp only; lia
    · rw [hdrop i b hx, vgo]; simp
    · clear F3 N3
      rintro ⟨j, c, tc, v, tv⟩ u h tk ⟨hj, hvl, hv⟩ F N
      dsimp only at hj hv hvl F N ⊢
      k_steps
      · rename_i hc
        rw [bit64] at hc
        have hc1 : c / 64 % 2 = 1 := by
          by_cases hh : c / 64 % 2 = 1
          · exact hh
          · rw [if_neg hh] at hc; exact absurd rfl hc
        rw [if_pos hc1] at hv
        refine ilshift_int (by decide) (bits_ok hvl (by lia)) ?_
        rw [show (v : Int) * 2 ^ (6 : Int).toNat = ((v * 64 : Nat) : Int) by rw [show (6 : Int).toNat = 6 from rfl]; lia]
        k_steps
        rename_i h5 F5 N5
        refine Hold.mk ?_
        cases hx5 : ks[j]? with
        | none =>
          refine raise_next (Around.frames_deeper B1.stack) rfl rfl (fun q => nomatch q) B1.frames F5 N5 hT (ints_none hus hx5) (fun h6 X6 ht => ?_)
          refine hraise ?_ _ _ _ (ht.out GS N F5 N5)
          rw [hv, List.drop_of_length_le (by rw [List.getElem?_eq_none_iff] at hx5; exact hx5)]; rfl
        | some b5 =>
          obtain ⟨t5, hx6⟩ := ints_get hus hx5
          have hj5 : j < ks.length := by rw [List.getElem?_eq_some_iff] at hx5; obtain ⟨hlt, _⟩ := hx5; exact hlt
          refine next_ok F5 N5 hT hap hx6 (fun h6 F6 N6 => ?_)
          k_steps
          rename_i h7 F7 N7
          rw [bit63, bitor6 _ _ (Nat.mod_lt _ (by decide))] at F7
          refine WEnd.intro (j + 1, b5, t5, v * 64 + b5 % 64, _) F7 N7 (fun p hp => hp) (by walk_at "READS") ⟨hj5, ?_, ?_⟩ ?_
          · dsimp only; rw [Nat.pow_succ]; lia
          · dsimp only; rw [hv, hdrop j b5 hx5, vgo]
          · dsimp only; lia
      · rename_i hc
        rw [bit64] at hc
        have hc1 : ¬ c / 64 % 2 = 1 := fun hh => by rw [if_pos hh] at hc; exact absurd hc (by decide)
        rw [if_neg hc1] at hv
        refine WDone.intro (j, c, tc, v, tv) F N (by walk_at "READS") ⟨hj, hv⟩
    · clear F3 N3
      rintro ⟨j, c, tc, v, tv⟩ u h tk ⟨hj, hv⟩ F N
      dsimp only at hj hv F N ⊢
      k_steps
      rename_i kF kN _ _
      refine hret v _ _ _ _ hv kF ?_
      rw [List.length_drop, show ks.length - (ks.length - j) = j by lia]
      exact kN
end Mine
end V6
section E1
open PySem PySem.W PyProof.Rows PySem.Calls PySem.Spec PyProof.V PySem.SeqAt
set_option maxRecDepth 100000
namespace Mine
/-- entering a def some of whose locals are captured; behind it the end is told as it is (no ground is asked for) -/
theorem enter_rawC {prog : Program} {w : World} {A₀ A : Around} {s : Shared} {K : Frag} {L : Addr} {h₀ base : Heap} {m mg mb : Str → Option Value} {news : List (Addr × Obj)} {p : Program} {loose : List Str} {mean : ExcName → Option Value}
    {env : Env} {outer : List Env} {R : Result → Shared → Prop} {name qual : Str} {params : Arguments} {body : List Stmt} {scope : Scope} {dV kV doc pm cdv ct oc : Value} {an od : Option Addr} {osl : Array (Option Value)} {f : Addr} {args : Args} {binds : List (Str × Value)}
    (B : Below A₀ base outer h₀) (F : Fr h₀ L s.heap m) (X₀ : K.In h₀) (N : News h₀ L s.heap news) (T : Top p loose mean mg mb h₀) (hA : A.frames = some (env :: outer)) (hf : env.frame = some L) (hke : env.scope.kind = .function)
    (ho : K.lookup f = some ⟨oc, od, .func (fnOf name qual params body scope dV kV doc pm an cdv ct), osl⟩) (hcd : codeIn K cdv qual = true) (hroom : A.depth < recursionLimit)
    (hbind : BindsTo s (fnOf name qual params body scope dV kV doc pm an cdv ct) args binds) (hkind : (binds.all fun y => scope.names.lookup y.1 == some .local || scope.names.lookup y.1 == some .cell) = true)
    (hnd : ((cellsFrom 0 scope.names []).map (·.1)).Nodup)
    (h : ∀ g L' h₁ tk cells, GSub s.heap g (news.map (·.1)) → Fr h₀ L g m → Fr g L' h₁ (bindL (envOfC qual scope L' f cdv).kindOf binds fun _ => none) → News g L' h₁ (cells ++ news) →
      CellsAre (bindC (envOfC qual scope L' f cdv).kindOf binds fun _ => none) (cellsFrom (L' + 1) scope.names []) cells → Below A base (env :: outer) g → K.In g → Top p loose mean mg mb g → (∀ p ∈ news, p.1 < L') →
      wpAny (model prog w) (A.deeper (envOfC qual scope L' f cdv)) (execs body (envOfC qual scope L' f cdv))
        (fun fl s' => R (.ok (.ret (match fl with | .ret v => v | _ => .none))) s')
        (fun e s' => wpAny (model prog w) (A.deeper (envOfC qual scope L' f cdv)) (leaving (envOfC qual scope L' f cdv) e) (fun _ s'' => R (.error e) s'') (fun e' s'' => R (.error e') s'') s')
        { s with heap := h₁, toks := tk })
    (hco : scope.isCoroutine = false) (hgen : scope.isGenerator = false) (hk : scope.kind = .function) : codeAny (model prog w) A (.call (.ref f) args) R s := by
  obtain ⟨FG, BG, st, _⟩ := groundX (R := R) B F N hA hf hke
  have X := X₀.keeps F.keep
  have hlim := T.nolimit.keeps F.keep
  refine codeAny_call_function hroom (X _ _ ho) rfl hco hgen rfl (codeRec_of X hcd) (hbind _ _ _ _ ?_)
  refine wpAny_newFunctionEnv_cells hk (fun x hx => kindsX hkind _ x hx) fun env' he s' x => ?_
  subst he
  refine ⟨hlim.keeps x.toInCall.keep, codeAny_func ?_⟩
  obtain ⟨h₁, tk, rfl, _⟩ := x.done
  have up := x.toInCall.keep
  obtain ⟨cells, NC, Y⟩ := Cl.news (h₀ := s.heap) (Nat.le_refl _) fun n c hm => ⟨x.cell n c (lookup_of_mem_nodup (cellsFrom_names scope.names 0 (s.heap.objs.size + 1) [] [] rfl ▸ hnd) hm), x.above n c hm⟩
  have hgs : GSub s.heap (hideAll s.heap (news.map (·.1))) (news.map (·.1)) := fun b o e n => hideAll_get _ e n
  have frm : Fr (hideAll s.heap (news.map (·.1))) s.heap.objs.size h₁ _ := ⟨x.toInCall.ns, fun b o e => up b o (of_hideAll _ e), Nat.le_of_eq (hideAll_size _ _)⟩
  have nws : News (hideAll s.heap (news.map (·.1))) s.heap.objs.size h₁ (cells ++ news) := by
    intro q hq
    rcases List.mem_append.mp hq with hq | hq
    · refine ⟨(NC q hq).1, (NC q hq).2.1, ?_⟩
      cases e : (hideAll s.heap (news.map (·.1))).get? q.1 with
      | none => rfl
      | some o => exact absurd (of_hideAll _ e) (by rw [(NC q hq).2.2]; exact fun z => nomatch z)
    · exact ⟨up _ _ (N q hq).1, Nat.ne_of_lt (Heap.lt_size (N q hq).1), hideAll_none _ (List.mem_map_of_mem hq)⟩
  exact h _ s.heap.objs.size h₁ tk cells hgs FG frm nws Y BG (X₀.keeps st) (T.keeps st) (fun q hq => Heap.lt_size (N q hq).1)
end Mine
end E1
section N1
open PySem PySem.W PyProof.Rows PySem.Calls PySem.Spec PyProof.V PySem.SeqAt
set_option maxRecDepth 100000
namespace Mine
section
variable {prog : Program} {w : World} {A : Around} {E : Value → Shared → Prop} {s : Shared} {h₀ : Heap} {L : Addr} {m : Str → Option Value} {news : List (Addr × Obj)}
theorem iter_list {D : Addr} {items : Array Value} {Q : Value → Shared → Prop} (F : Fr h₀ L s.heap m) (N : News h₀ L s.heap news) (hl : s.heap.IsList D items)
    (h : ∀ (I : Addr) h', Fr h₀ L h' m → News h₀ L h' ((I, itObj D 0) :: news) → (∀ p ∈ news, p.1 < I) → Q (.ref I) { s with heap := h' }) :
    wpAny (model prog w) A (call (.builtin "iter") [.ref D]) Q E s := by
  refine call_function_entry (by decide +kernel) (by decide +kernel) kdk_entry_iter (kdk_args_iter _) ?_
  unfold Builtin.«iter»
  refine wpAny_bind (m := someArgs "iter" 1 2 _) (wpAny_of_eq (a := [Value.ref D]) (by first | rfl | kernel_rfl!) ?_)
  show wpAny _ _ (pyIter (.ref D) >>= _) _ _ _
  refine wpAny_bind (wpAny_pyIter_list hl ?_)
  exact wpAny_pure ⟨_, rfl, h _ _ (F.push _) (News.push F N _ rfl) (fun q hq => Heap.lt_size (N q hq).1)⟩
end
end Mine
end N1
section C0
open PySem PySem.W PyProof.Rows PySem.Calls PySem.Spec PyProof.V PySem.SeqAt
set_option maxRecDepth 100000
namespace Mine
theorem areOf_all {α : Type} {K : ItemKind α} : ∀ {vs : List Value} {as : List α}, vs.length = as.length → (∀ (j : Nat) (v : Value), vs[j]? = some v → ∃ a, as[j]? = some a ∧ K.is a v) → AreOf K vs as := by
  intro vs
  induction vs with
  | nil => intro as h _; cases as with
    | nil => exact .nil
    | cons a as => simp at h
  | cons v vs ih =>
    intro as h hh
    cases as with
    | nil => simp at h
    | cons a as =>
      obtain ⟨a', e, hk⟩ := hh 0 v rfl
      simp only [List.getElem?_cons_zero, Option.some.injEq] at e
      subst e
      exact .cons hk (ih (by simpa using h) (fun j w hw => by simpa using hh (j + 1) w (by simpa using hw)))
/-- the signs of a text, by their code -/
noncomputable def sgK : ItemKind Nat := ⟨fun c v => ∃ t, v = .str ⟨#[c]⟩ t, fun v => match v with | .str a _ => a.cps[0]? | _ => none, fun _ _ h => by obtain ⟨t, rfl⟩ := h; rfl⟩
/-- octets -/
noncomputable def octK : ItemKind Nat := ⟨fun c v => ∃ t, v = .int (c : Int) t, fun v => match v with | .int i _ => some i.toNat | _ => none, fun _ _ h => by obtain ⟨t, rfl⟩ := h; rfl⟩
section
variable {prog : Program} {w : World} {A : Around} {E : Value → Shared → Prop} {s₁ : Shared} {h₀ : Heap} {L : Addr} {m : Str → Option Value} {news : List (Addr × Obj)}
theorem src_gen {α : Type} {K : ItemKind α} {env : Env} {elt : PySem.Expr} {x : Str} {scope : Scope} {Q : Value → Shared → Prop} {as : List α} {d : α → PyData} {o : Obj} {n : Nat} {P : Nat → Value → Prop} {St : Nat → Heap → Prop}
    (F : Fr h₀ L s₁.heap m) (N : News h₀ L s₁.heap news)
    (W : Walks prog w A s₁.heap.objs.size [s₁.heap.objs.size] [s₁.heap.objs.size] n P St) (hst : St 0 (s₁.heap.push o)) (hn : as.length = n) (hP : ∀ i v, P i v → ∃ a, as[i]? = some a ∧ K.is a v)
    (g2 : ∀ C a v s₂ m₂ E', a ∈ as → K.is a v → s₂.heap.Ns (compEnv scope C env).locals m₂ → m₂ x = some v → s₁.toks ≤ s₂.toks → (∀ b o, s₁.heap.get? b = some o → s₂.heap.get? b = some o) →
      wpAny (model prog w) A (eval elt (compEnv scope C env)) (fun r s₃ => Carried r (d a) ∧ Keeps s₂ s₃) E' s₂)
    (g3 : ∀ D (ys : List Value) h' tk, Fr h₀ L h' m → News h₀ L h' news → h₀.get? D = none → h'.IsList D ys.toArray → NewPlain h' news D ys.toArray → CarriedAll ys (as.map d) → Q (.ref D) { s₁ with heap := h', toks := tk })
    (hsz : n ≤ sizeLine) : CompPost prog w A env scope x [] elt Q (.ref s₁.heap.objs.size) { s₁ with heap := s₁.heap.push o } := by
  have up : ∀ (h' : Heap), (∀ b o', b ∉ [s₁.heap.objs.size] → (s₁.heap.push o).get? b = some o' → h'.get? b = some o') → ∀ b o', s₁.heap.get? b = some o' → h'.get? b = some o' :=
    fun h' hk b o' e => hk b o' (not_iter_of_old e) (Heap.get?_push_of_some _ e)
  refine ⟨(K.within (· ∈ as)).lift (fun _ => true), fun v r => ∃ a, (K.within (· ∈ as)).is a v ∧ Carried r (d a), s₁.heap.objs.size, [s₁.heap.objs.size], [s₁.heap.objs.size], n, P, St, rfl, W, hsz, hst, ?_, ⟨?_, ?_⟩, ?_⟩
  · intro b hb
    show b < (s₁.heap.push _).objs.size
    rw [Heap.size_push, List.mem_singleton.mp hb]
    exact Nat.lt_succ_self _
  · intro C i v s₃ m₃ E' hp hn' hm _ htk
    obtain ⟨a, e, ha⟩ := hP i v hp
    have ha' : (K.within (· ∈ as)).is a v := ⟨ha, List.mem_of_getElem? e⟩
    rw [ItemKind.lift_is ha', List.forIn_nil]
    exact wpAny_pure ⟨rfl, s₃.heap, s₃.toks, rfl, fun _ _ e => e⟩
  · intro C i v s₃ m₃ E' hp _ hn' hm hk htk
    obtain ⟨a, e, ha⟩ := hP i v hp
    have hmem := List.mem_of_getElem? e
    exact wpAny_mono (g2 C a v s₃ m₃ E' hmem ha hn' hm htk (up _ hk)) (fun r s₄ h₄ => ⟨⟨a, ⟨ha, hmem⟩, h₄.1⟩, h₄.2⟩) fun _ _ e => e
  · intro D h' tk ys vs hnew hlD hplD hlen hPs hF hk
    have hall : AreOf (K.within (· ∈ as)) vs as := by
      refine areOf_all (by rw [hlen, hn]) (fun j v hv => ?_)
      obtain ⟨a, e, ha⟩ := hP j v (hPs j v hv)
      exact ⟨a, e, ha, List.mem_of_getElem? e⟩
    have hc := hall.paired (fun _ => true) d _ hF
    rw [List.filter_eq_self.mpr (fun _ _ => rfl)] at hc
    refine g3 D ys.toList h' tk (F.keeps (up h' hk)) (N.grown (up h' hk)) ?_ (by rw [Array.toArray_toList]; exact hlD) ⟨by rw [Array.toArray_toList]; exact hplD, fun p hp e => by rw [← e, Heap.get?_push_of_some _ (N p hp).1] at hnew; cases hnew⟩ hc
    cases e : h₀.get? D with
    | none => rfl
    | some o' => rw [Heap.get?_push_of_some _ (F.keep _ _ e)] at hnew; cases hnew
theorem nameB {M : Model} {A : Around} {E : Value → Shared → Prop} {s : Shared} {K : Frag} {mg mb : Str → Option Value} {env : Env} {p : Program} {loose : List Str} {mean : ExcName → Option Value} {x : Str} {pos : Pos} {v : Value} {Q : Value → Shared → Prop}
    (F : Fr h₀ L s.heap m) (X : K.In h₀) (T : Top p loose mean mg mb h₀) (e : nsIn K mainGlobals x = some none) (hv : bootBuiltins x = some v) (hn : x ≠ "__name__") (h : Q v s) (hg : env.globals = mainGlobals) (hb : env.builtins = builtinsNs)
    (hk : env.scope.kind = .function) (hx : env.kindOf x = some .globalImplicit) (hd : (x == ("__debug__" : Str)) = false) :
    wpAny M A (eval (.Name x pos) env) Q E s :=
  Name_function_global hk hx (loadGlobal_builtin (env := env) (show s.heap.Ns env.globals mg from hg ▸ (T.keeps F.keep).g) (mg_none_of X T.g e) (show s.heap.Ns env.builtins mb from hb ▸ (T.keeps F.keep).b) ((T.builtins x hn).trans hv) h) hd
theorem src_str {env : Env} {elt : PySem.Expr} {x : Str} {scope : Scope} {Q : Value → Shared → Prop} {y : Str} {t : Tok} {d : Nat → PyData} (hh : A.handled = none)
    (F : Fr h₀ L s₁.heap m) (N : News h₀ L s₁.heap news)
    (g2 : ∀ C a v s₂ m₂ E', a ∈ y.cps.toList → sgK.is a v → s₂.heap.Ns (compEnv scope C env).locals m₂ → m₂ x = some v → s₁.toks ≤ s₂.toks → (∀ b o, s₁.heap.get? b = some o → s₂.heap.get? b = some o) →
      wpAny (model prog w) A (eval elt (compEnv scope C env)) (fun r s₃ => Carried r (d a) ∧ Keeps s₂ s₃) E' s₂)
    (g3 : ∀ D (ys : List Value) h' tk, Fr h₀ L h' m → News h₀ L h' news → h₀.get? D = none → h'.IsList D ys.toArray → NewPlain h' news D ys.toArray → CarriedAll ys (y.cps.toList.map d) → Q (.ref D) { s₁ with heap := h', toks := tk })
    (hsz : y.length ≤ sizeLine) : wpAny (model prog w) A (pyIter (.str y t)) (CompPost prog w A env scope x [] elt Q) E s₁ := by
  refine wpAny_pyIter_str fun o St W hst => ?_
  refine src_gen (K := sgK) F N (W A hh) hst (n := y.cps.size) (by simp) ?_ g2 g3 hsz
  rintro i v ⟨c, u, e, rfl⟩
  exact ⟨c, by rw [Array.getElem?_toList]; exact e, u, rfl⟩
theorem src_bytes {env : Env} {elt : PySem.Expr} {x : Str} {scope : Scope} {Q : Value → Shared → Prop} {b : Array UInt8} {t : Tok} {d : Nat → PyData} (hh : A.handled = none)
    (F : Fr h₀ L s₁.heap m) (N : News h₀ L s₁.heap news)
    (g2 : ∀ C a v s₂ m₂ E', a ∈ b.toList.map UInt8.toNat → octK.is a v → s₂.heap.Ns (compEnv scope C env).locals m₂ → m₂ x = some v → s₁.toks ≤ s₂.toks → (∀ b o, s₁.heap.get? b = some o → s₂.heap.get? b = some o) →
      wpAny (model prog w) A (eval elt (compEnv scope C env)) (fun r s₃ => Carried r (d a) ∧ Keeps s₂ s₃) E' s₂)
    (g3 : ∀ D (ys : List Value) h' tk, Fr h₀ L h' m → News h₀ L h' news → h₀.get? D = none → h'.IsList D ys.toArray → NewPlain h' news D ys.toArray → CarriedAll ys ((b.toList.map UInt8.toNat).map d) → Q (.ref D) { s₁ with heap := h', toks := tk })
    (hsz : b.size ≤ sizeLine) : wpAny (model prog w) A (pyIter (.bytes b t)) (CompPost prog w A env scope x [] elt Q) E s₁ := by
  refine KBw.pyIter_bytes ?_
  refine src_gen (K := octK) F N (KBw.walks hh s₁.heap.objs.size b t) ⟨_, Heap.get?_push_size _ rfl, rfl, rfl⟩ (n := b.size) (by simp) ?_ g2 g3 hsz
  rintro i v ⟨c, u, e, rfl⟩
  exact ⟨c.toNat, by simp [e], u, rfl⟩
end
end Mine
end C0
section E2
open PySem PySem.W PyProof.Rows PySem.Calls PySem.Spec PyProof.V PySem.SeqAt
set_option maxRecDepth 100000
namespace Mine
section
variable {prog : Program} {w : World} {A₀ : Around} {E : Value → Shared → Prop} {s' : Shared} {K : Frag} {base g h : Heap} {env : Env} {outer : List Env} {L I X : Addr} {m mg mb : Str → Option Value} {news : List (Addr × Obj)} {oI : Obj} {p : Program} {loose : List Str} {mean : ExcName → Option Value}
theorem hide1 {h : Heap} {I b : Addr} {o : Obj} (e : (hideAll h [I]).get? b = some o) : h.get? b = some o ∧ b ≠ I := by
  refine ⟨of_hideAll _ e, ?_⟩
  rintro rfl
  rw [hideAll_none _ (.head _)] at e; cases e
theorem stop_lands (B : Below A₀ base outer g) (XB : K.In base) (TB : Top p loose mean mg mb base) (F : Fr g L h m) (N : News g L h ((I, oI) :: news)) (hap : ∀ q ∈ news, q.1 ≠ I) (t : Thrown h s'.heap I (L :: outer.filterMap (·.frame)) (env :: outer) X)
    (hf : env.frame = some L) (hg : env.globals = mainGlobals) (hb : env.builtins = builtinsNs) (hk : env.scope.kind = .function) (hx : env.kindOf "StopIteration" = some .globalImplicit)
    (ex : nsIn K mainGlobals "StopIteration" = some none) {b₀ : Stmt} {suite : List Stmt} {pos np : Pos} {rest : List ExceptHandler} {Q : Flow → Shared → Prop}
    (k : ∀ h' g', KtsTurn (outer.filterMap (·.frame)) g g' → Fr g' L h' m → News g' L h' news → Below A₀ base outer g' → K.In g' → Top p loose mean mg mb g' →
      wpAny (model prog w) ((A₀.deeper env).mark (some (.ref X))) (execs (b₀ :: suite) env) Q E { s' with heap := h' })
    (hE : PassesOwnAt (model prog w) ((A₀.deeper env).mark (some (.ref X))) (A₀.deeper env) env E) :
    wpAny (model prog w) (A₀.deeper env) (noteFrame (.ref X) env)
      (fun _ s₂ => wpAny (model prog w) (A₀.deeper env) (setFlight (.ref X) none) (fun _ s₃ =>
        wpAny (model prog w) (A₀.deeper env) (handleBy (.ref X) env (.ExceptHandler (some (.Name "StopIteration" np)) none (b₀ :: suite) pos :: rest)) Q E s₃) E s₂) E s' := by
  obtain ⟨bs, a0, hfl, hbs⟩ := t.fly
  have hLg : g.get? L = none := by
    cases q : g.get? L with
    | none => rfl
    | some o => exact absurd (Heap.lt_size q) (Nat.not_lt.mpr F.above)
  have hIg : g.get? I = none := (N _ (.head _)).2.2
  have hIL : I ≠ L := (N _ (.head _)).2.1
  let G := hideAll h [I]
  have FG : Fr g L G m := by
    refine ⟨?_, fun b o e => hideAll_get _ (F.keep b o e) ?_, F.above⟩
    · obtain ⟨o, es, ep, ho, r⟩ := F.ns
      exact ⟨o, es, ep, hideAll_get _ ho (by simpa using fun q : L = I => hIL q.symm), r⟩
    · intro hm
      rw [List.mem_singleton] at hm
      rw [hm, hIg] at e; cases e
  have hBG : ∀ b o, G.get? b = some o → b ∉ (envOf "" default L 0 .none :: outer).filterMap (·.frame) → bs.get? b = some o := by
    intro b o e hb
    obtain ⟨e1, e2⟩ := hide1 e
    exact hbs b o e2 hb e1
  have hsm : G.UpToSlots s'.heap := by
    intro b o e hd
    obtain ⟨e1, e2⟩ := hide1 e
    by_cases hm : b ∈ L :: outer.filterMap (·.frame)
    · exact t.frame b o e2 hm e1 hd
    · exact ⟨o.slots, t.keep b o e2 hm e1⟩
  have hnf : ∀ q ∈ news, q.1 ∉ L :: outer.filterMap (·.frame) := by
    intro q hq hm
    have hN := N q (.tail _ hq)
    rcases List.mem_cons.mp hm with hm | hm
    · exact hN.2.1 hm
    · obtain ⟨_, o, ho, _⟩ := B.frames.mem hm
      rw [hN.2.2] at ho; cases ho
  refine wpAny_looks_onW (Around.frames_deeper B.stack) hf hfl fun h₄ hheld₄ hsm₄ => ?_
  refine wpAny_landsW hheld₄ fun h₅ hheld hsm₅' => ?_
  have hsm₅ := hsm₄.trans hsm₅'
  obtain ⟨g₅, T₅, F₅, K₅⟩ := kts_ground B FG hBG hheld.1 (hsm.trans hsm₅)
  have X₅ : K.In g₅ := XB.keeps K₅.stays
  have P₅ : Top p loose mean mg mb g₅ := TB.keeps K₅.stays
  obtain ⟨ob, hob, hobc⟩ := hheld.there
  refine wpAny_handleBy_builtin (X := "StopIteration") (T := "StopIteration") (b := true) ?ha ?hb ?hc (nameB F₅ X₅ P₅ ex PyProof.Rows.Boot.«StopIteration» (by decide) ⟨rfl, ⟨ob, hob, hobc⟩, ?_⟩ hg hb hk hx (by decide))
  case ha => rw [isSubtype_type]; kernel_rfl
  case hb => rw [isSubtype_type]; kernel_rfl
  case hc => rw [isSubtype_type]; kernel_rfl
  refine lands_againW hheld fun h₆ hfl₆ hsm₆ => ?_
  obtain ⟨g₆, T₆, F₆, K₆⟩ := kts_ground B FG hBG hfl₆.1 ((hsm.trans hsm₅).trans hsm₆)
  have Nl : News g₆ L h₆ news := fun q hq => ⟨hfl₆.1 _ _ (hbs _ _ (hap q hq) (hnf q hq) (N q (.tail _ hq)).1), (N q (.tail _ hq)).2.1, T₆.none_ _ (N q (.tail _ hq)).2.2⟩
  exact wpAny_passesOwnAt hE (k h₆ g₆ T₆ F₆ Nl K₆ (XB.keeps K₆.stays) (TB.keeps K₆.stays))
end
end Mine
end E2
section Y0
open PySem PySem.W
namespace Mine
/-- the tape that _law_read lays of a text -/
noncomputable def tapeL : Nat → List Nat → List Nat
  | _, [] => []
  | i, c :: l => (c + 128 * (i % 2)) :: tapeL (i + 1) l
theorem tape_len : ∀ (l : List Nat) (i : Nat), (tapeL i l).length = l.length := by
  intro l
  induction l with
  | nil => intro i; rfl
  | cons c l ih => intro i; simp [tapeL, ih]
theorem tape_drop : ∀ (l : List Nat) (i q : Nat), (tapeL i l).drop q = tapeL (i + q) (l.drop q) := by
  intro l
  induction l with
  | nil => intro i q; simp [tapeL]
  | cons c l ih =>
    intro i q
    cases q with
    | zero => rfl
    | succ q => rw [tapeL, List.drop_succ_cons, List.drop_succ_cons, ih]; congr 1; lia
theorem tape_vgo : ∀ (l : List Nat) (i v : Nat), (∀ c ∈ l, c < 128) → match vgo v (tapeL i l) with
    | none => numsGo v l = []
    | some (n, r) => ∃ q, 0 < q ∧ q ≤ l.length ∧ r = tapeL (i + q) (l.drop q) ∧ numsGo v l = n :: numsGo 0 (l.drop q) := by
  intro l
  induction l with
  | nil => intro i v _; simp [tapeL, vgo, numsGo]
  | cons c l ih =>
    intro i v hl
    have hc := hl c (.head _)
    have hb : (c + 128 * (i % 2)) % 64 = c % 64 := by lia
    rw [tapeL, vgo, numsGo, hb]
    by_cases h : c < 64
    · rw [if_neg (by lia), if_pos h]
      exact ⟨1, by lia, by simp, rfl, rfl⟩
    · rw [if_pos (by lia), if_neg h]
      have := ih (i + 1) (v * 64 + c % 64) (fun d hd => hl d (.tail _ hd))
      cases hv : vgo (v * 64 + c % 64) (tapeL (i + 1) l) with
      | none => rw [hv] at this; exact this
      | some nr =>
        obtain ⟨n, r⟩ := nr
        rw [hv] at this
        obtain ⟨q, h1, h2, h3, h4⟩ := this
        exact ⟨q + 1, by lia, by simp; lia, by rw [h3]; simp only [List.drop_succ_cons]; congr 1; lia, by rw [h4]; rfl⟩
end Mine
end Y0
section V7
open PySem PySem.W PyProof.Rows PySem.Calls PySem.Spec PyProof.V PySem.SeqAt
set_option pp.structureInstances false
set_option maxRecDepth 100000
set_option maxHeartbeats 8000000
namespace Mine
local macro_rules | `(tactic| walk_at "ENTER") => `(tactic| ((case kA => exact rfl); (case kF => exact rfl); (case kK => assumption); (case k6 => k_is); (case k7 => k_is); (case k8 => ktr_room); (case k9 => exact BindsTo.of_eq rfl); (case c5 => decide); (case kB => exact locs rfl); (case c2 => exact rfl); (case c3 => exact rfl); (case c4 => exact rfl)))

local macro_rules | `(tactic| walk_at "READS") => `(tactic| (repeat' (first | exact trivial | refine And.intro rfl ?_)))
local macro_rules | `(tactic| walk_at "exec Try") => `(tactic| refine Hold.out ?_)
local macro_rules | `(tactic| walk_at "exec For") => `(tactic| ((rename Fr _ _ _ _ => lF'); (with_unfolding_all refine' For_invVF lF' ?k1 ?k2 ?_; (case k1 => exact rfl); (case k2 => exact rfl); k_whole)))
local macro_rules | `(tactic| walk_at "pyIter str") => `(tactic| refine Hold.out ?_)
local macro_rules | `(tactic| walk_at "call ref") => `(tactic| refine Hold.out ?_)
local macro_rules | `(tactic| walk_at "call type:str") => `(tactic| refine PySem.P.str_of_int (by assumption) ?_)
noncomputable def strN (n : Nat) : Str := Str.ofString (toString (n : Int))
theorem strs_snoc {us : List Value} {xs : List Str} (h : StrsAre us xs) (a : Str) (t : Tok) : StrsAre (us ++ [.str a t]) (xs ++ [a]) := by
  induction h with
  | nil => exact .cons a t .nil
  | cons b u _ ih => exact .cons b u ih
theorem tape_get : ∀ (l : List Nat) (i k : Nat), (tapeL i l)[k]? = (l[k]?).map fun c => c + 128 * ((i + k) % 2) := by
  intro l
  induction l with
  | nil => intro i k; simp [tapeL]
  | cons c l ih =>
    intro i k
    cases k with
    | zero => simp [tapeL]
    | succ k => rw [tapeL, List.getElem?_cons_succ, List.getElem?_cons_succ, ih, show i + 1 + k = i + (k + 1) by lia]
theorem tape_map (x : Array Nat) : List.map (fun k' : Int => if 1 ≤ (Txt.item (Str.mk x) k').length ∧ (Txt.item (Str.mk x) k').length ≤ 1 then ((Txt.item (Str.mk x) k').cps.getD 0 0 : Int) + 128 * k'.fmod 2 else k') (rangeKs 0 ((Str.mk x).length - 0 : Int).toNat) = intsL (tapeL 0 x.toList) := by
  have hsz : ((Str.mk x).length - 0 : Int).toNat = x.size := by show (((x.size : Nat) : Int) - 0).toNat = _; lia
  rw [hsz]
  apply List.ext_getElem?
  intro k
  rw [rangeKs, List.map_map, List.getElem?_map, intsL, List.getElem?_map, tape_get]
  rcases Nat.lt_or_ge k x.size with h | h
  · rw [List.getElem?_range h, Array.getElem?_toList, Array.getElem?_eq_getElem h]
    have hi : (0 : Int) ≤ 0 + (k : Int) ∧ 0 + (k : Int) < (Str.mk x).length := ⟨by lia, by show _ < ((x.size : Nat) : Int); lia⟩
    simp only [Option.map_some, Function.comp]
    rw [PySem.W.item_meets hi]
    have hk : (0 + (k : Int)).toNat = k := by lia
    rw [hk, if_pos ⟨Nat.le_refl _, Nat.le_refl _⟩]
    congr 1
    have e1 : (Str.mk #[(Str.mk x).cps.getD k 0]).cps.getD 0 0 = x[k] := by
      show x.getD k 0 = _
      simp [Array.getD, h]
    rw [e1, Int.fmod_eq_emod_of_nonneg _ (by decide)]
    lia
  · rw [List.getElem?_eq_none (by simpa using h), Array.getElem?_toList, Array.getElem?_eq_none h]; rfl
theorem vgo_lt : ∀ (l : List Nat) (v j : Nat) {v' : Nat} {r : List Nat}, vgo v l = some (v', r) → v < 64 ^ j → v' < 64 ^ (j + l.length) := by
  intro l
  induction l with
  | nil => intro v j v' r h; cases h
  | cons b l ih =>
    intro v j v' r h hv
    have h2 : v * 64 + b % 64 < 64 ^ (j + 1) := by rw [Nat.pow_succ]; lia
    rw [vgo] at h
    split at h
    · have := ih _ (j + 1) h h2
      rw [List.length_cons, show j + (l.length + 1) = j + 1 + l.length by lia]; exact this
    · cases h
      refine Nat.lt_of_lt_of_le h2 (Nat.pow_le_pow_right (by decide) ?_)
      rw [List.length_cons]; lia
theorem log_lt {v n : Nat} (h : v < 64 ^ n) (hn : n ≤ 200) : ((v : Nat) : Int).natAbs.log2 < 1920 := by
  rw [Int.natAbs_natCast]
  rcases Nat.eq_zero_or_pos v with rfl | hv
  · decide
  · have h2 : v < 2 ^ (6 * n) := by rw [Nat.pow_mul]; exact h
    have := (Nat.log2_lt (Nat.ne_of_gt hv)).mpr h2
    lia
theorem vgo_log {l r : List Nat} {v : Nat} (h : vgo 0 l = some (v, r)) (hl : l.length ≤ 200) : ((v : Nat) : Int).natAbs.log2 < 1920 :=
  log_lt (n := l.length) (by have := vgo_lt l 0 0 h (by decide); simpa using this) hl
theorem read_claim {w : World} {mean : ExcName → Option Value} {mg mb : Str → Option Value} {news} {x : Array Nat} {tx : Tok}
  {dp un : Nat} {gd : Option (List Code)} {cn : Str} {cs : Scope} {a : Addr} {ccd : Value} {cl : List (Str × Addr)} {A₀ : Around} {base h₀ : Heap} {L : Addr} {m : Str → Option Value} {s : Shared} {Q E : Value → Shared → Prop}
  (B : Below A₀ base [] h₀) (F : Fr h₀ L s.heap m) (X : (hd.heap_39 w.params).In base) (N : News h₀ L s.heap news) (T : Top hd.view_39 loose mean mg mb base) (hk : cs.kind = .function)
  (hdp : dp + 10 < recursionLimit) (hun : un + 400 < cLine) (hx : x.size ≤ 100)
  (hlow : ∀ c ∈ x.toList, c < 128)
  (hret : ∀ (D : Addr) (us : List Value) (c : Nat) (h' : Heap) (tk' : Nat), Fr h₀ L h' m → News h₀ L h' ((D, listOf us.toArray c) :: news) → (∀ p ∈ news, p.1 < D) → StrsAre us ((numsGo 0 x.toList).map strN) → Q (.ref D) { s with heap := h', toks := tk' }) :
  wpAny (model PySem.Challenge.pw_ta0009_01 w) (ktrTop dp un gd cn cs L a ccd cl []) (call (.ref 124) [.str ⟨x⟩ tx]) Q E s := by
  have F0 := F
  have N0 := N
  refine wpAny_call ?_
  k_dflt (refine' enter_rawC (binds := [("text", .str ⟨x⟩ tx)]) B F (X.keeps B.stays) N (T.keeps B.stays) ?kA ?kF ?kK ?k6 ?k7 ?k8 ?k9 ?kB ?kD ?_ ?c2 ?c3 ?c4; (case kA => exact rfl); (case kF => exact rfl); (case kK => assumption); (case k6 => k_is); (case k7 => k_is); (case k8 => ktr_room); (case k9 => exact BindsTo.of_eq rfl); (case kB => exact rfl); (case kD => decide +kernel); (case c2 => exact rfl); (case c3 => exact rfl); (case c4 => exact rfl))
  intro g' L' h1 tk0 cells GS FG F1 N1 Y1 B1 X1 T1 l1
  k_cells Y1
  rename_i oC dC
  (try simp only [List.cons_append, List.nil_append] at N1)
  try dsimp only
  try k_fold
  have hxl : (Str.mk x).length ≤ 100 := hx
  k_steps
  rename_i nDD _ _ gD ys hI8 hL8 D hD tkD FD ND oD
  refine iter_list FD ND (SeqV.isList ND (.head _)) (fun I h2 F2 N2 l2 => ?_)
  k_steps
  rename_i h3 tk3 DT h4 l4 h5 F5 N5
  refine Hold.mk ?_
  refine wpAny_Try_except ?_
  k_steps
  refine Hold.mk ?_
  have hIy : IntsAre ys (intsL (tapeL 0 x.toList)) := by
    rw [← tape_map x]; exact hI8
  have hlenT : (tapeL 0 x.toList).length = x.size := by rw [tape_len]; simp
  have hdot : (Str.mk x ++ ".").cps.size = x.size + 1 := by
    show (x ++ _).size = _
    rw [Array.size_append]; rfl
  refine text_inv (σ := (List Value × Nat) × Nat) (fun c => (DT, listOf (List.toArray c.1.1) c.1.2) :: (I, itObj D c.2) :: (D, LCg.lst ys) :: (L' + 1, oC) :: news) (fun c => [("told", .ref DT), ("tape", .ref I)])
    (fun i c => c.1.1.length ≤ i ∧ i ≤ c.2 ∧ c.2 ≤ x.size ∧ ∃ done : List Nat, StrsAre c.1.1 (done.map strN) ∧ done ++ numsGo 0 (x.toList.drop c.2) = numsGo 0 x.toList) (([], 0), 0) rfl (by assumption) N5 (by walk_at "READS") ⟨by simp, by simp, by simp, [], .nil, by simp⟩ ?_ ?_
  · clear N5
    rintro ⟨⟨us, cnt⟩, q⟩ i n t u h tk own hn hoff ⟨hl, hiq, hq, done, hI, hd⟩ F N
    dsimp only at hl hiq hq hI hd hoff F N ⊢
    change Fr g' L' h _ at F
    change News g' L' h _ at N
    k_steps
    refine Hold.mk ?_
    have NI : News g' L' _ ((I, itObj D q) :: (DT, listOf us.toArray cnt) :: (D, LCg.lst ys) :: (L' + 1, oC) :: (news ++ own)) := fun p hp => N p (by
      simp only [List.mem_cons, List.cons_append] at hp ⊢
      rcases hp with h | h | h
      · exact .inr (.inl h)
      · exact .inl h
      · exact .inr (.inr h))
    have hapI : ∀ p ∈ (DT, listOf us.toArray cnt) :: (D, LCg.lst ys) :: (L' + 1, oC) :: (news ++ own), p.1 ≠ I := by
      intro p hp
      rcases List.mem_cons.mp hp with rfl | hp
      · exact Nat.ne_of_gt l4.1
      rcases List.mem_cons.mp hp with rfl | hp
      · exact Nat.ne_of_lt (l2 (D, LCg.lst ys) (.head _))
      rcases List.mem_cons.mp hp with rfl | hp
      · exact Nat.ne_of_lt (l2 _ (.tail _ (.head _)))
      rcases List.mem_append.mp hp with hp | hp
      · exact Nat.ne_of_lt (l2 p (.tail _ (.tail _ hp)))
      · exact hoff.ne (.tail _ (.head _)) p hp
    have hvg := tape_vgo (x.toList.drop q) q 0 (fun c hc => hlow c (List.mem_of_mem_drop hc))
    have hdr : (tapeL 0 x.toList).drop q = tapeL q (x.toList.drop q) := by rw [tape_drop]; simp
    k_dflt (refine' varint_claim (T' := D) (ks := tapeL 0 x.toList) (us := ys) (i := q) ?B ?F ?X ?N ?T ?hk ?hdp ?hun ?hT ?hap ?hus ?hkl ?hret ?hraise)
    case B => exact B1
    case F => exact F
    case X => exact X1
    case N => exact NI
    case T => exact T1
    case hk => rfl
    case hdp => dsimp only [Around.deeper, ktrTop]; lia
    case hun => dsimp only [Around.deeper, ktrTop]; lia
    case hT => exact .tail _ (.head _)
    case hap => exact hapI
    case hus => exact hIy
    case hkl => lia
    · intro v r tv h6 tk6 hv F6 N6
      rw [hdr] at hv
      rw [hv] at hvg
      obtain ⟨q', hq1, hq2, hr, hn2⟩ := hvg
      rw [hlenT, hr, tape_len] at N6
      simp only [List.length_drop] at hq2 N6
      rw [show x.size - (x.toList.length - q - q') = q + q' by simp at hq2 ⊢; lia] at N6
      have hlog : ((v : Nat) : Int).natAbs.log2 < 1920 := vgo_log hv (by rw [tape_len, List.length_drop]; simp; lia)
      try dsimp only
      k_steps
      have ND6 : News g' L' h6 ((DT, listOf us.toArray cnt) :: ((I, itObj D (q + q')) :: (D, LCg.lst ys) :: (L' + 1, oC) :: (news ++ own))) := fun p hp => N6 p (by
        simp only [List.mem_cons] at hp ⊢
        rcases hp with h | h | h
        · exact .inr (.inl h)
        · exact .inl h
        · exact .inr (.inr h))
      have hus100 : us.length ≤ 100 := by lia
      refine append_item F6 ND6 (fun p hp => ?_) (fun h7 F7 N7 => ?_) (by simp; lia)
      · rcases List.mem_cons.mp hp with rfl | hp
        · exact Nat.ne_of_lt l4.1
        rcases List.mem_cons.mp hp with rfl | hp
        · exact Nat.ne_of_lt l4.2.1
        rcases List.mem_cons.mp hp with rfl | hp
        · exact Nat.ne_of_lt l4.2.2.1
        rcases List.mem_append.mp hp with hp | hp
        · exact Nat.ne_of_lt (Nat.lt_trans (Nat.lt_trans (l1 p hp) (Nat.lt_succ_self _)) l4.2.2.1)
        · exact hoff.ne (.head _) p hp
      k_steps
      rw [List.push_toArray] at N7
      refine rj_end ((us ++ [Value.str (Str.ofString (toString (v : Int))) tk6], cnt + 1), q + q') F7 N7 ?_ ?_ rfl (by walk_at "READS") ⟨by simp; lia, by dsimp only; lia, by simp at hq2 ⊢; lia, done ++ [v], ?_, ?_⟩
      · intro p hp
        rcases List.mem_cons.mp hp with rfl | hp
        · exact .head _
        rcases List.mem_cons.mp hp with rfl | hp
        · exact .tail _ (.head _)
        rcases List.mem_cons.mp hp with rfl | hp
        · exact .tail _ (.tail _ (.head _))
        rcases List.mem_cons.mp hp with rfl | hp
        · exact .tail _ (.tail _ (.tail _ (.head _)))
        · exact .tail _ (.tail _ (.tail _ (.tail _ (List.mem_append_left _ hp))))
      · intro p hp
        exact .tail _ (.tail _ (.tail _ (.tail _ (List.mem_append_right _ hp))))
      · rw [List.map_append]; exact strs_snoc hI _ _
      · rw [← hd, hn2, List.append_assoc, List.drop_drop]; rfl
    · intro hv h6 X6 tk6 ht
      rw [hdr] at hv
      rw [hv] at hvg
      dsimp only at hvg
      rw [hvg, List.append_nil] at hd
      subst hd
      refine stop_lands B1 X T F NI hapI ht rfl rfl rfl rfl rfl ?ex ?k ?hE
      case ex => k_is
      case hE => first | passes_own | with_unfolding_all passes_own
      intro h9 g9 T9 F9 N9 B9 X9 P9
      k_steps
      have hnf : ∀ b o, h₀.get? b = some o → g9.get? b = some o := by
        intro b o e
        refine T9.other b o (FG.keep b o e) ?_
        intro hm
        have : b = L := by simpa [envX] using hm
        subst this
        exact absurd (Heap.lt_size e) (Nat.not_lt.mpr F0.above)
      have hup : g'.UpToSlots g9 := fun b o e _ => T9.up e
      have hL9 : ∃ o, g9.get? L = some o := by
        obtain ⟨o, _, _, ho, _⟩ := hup.ns FG.ns
        exact ⟨o, ho⟩
      refine hret DT us cnt h9 _ ⟨(Heap.UpToSlots.of_keeps F9.keep).ns (hup.ns FG.ns), fun b o e => F9.keep b o (hnf b o e), FG.above⟩ ?_ ?_ hI
      · intro p hp
        rcases List.mem_cons.mp hp with rfl | hp
        · have hN := N9 _ (.head _)
          refine ⟨hN.1, ?_, ?_⟩
          · obtain ⟨o, ho⟩ := hL9
            intro e
            dsimp only at e
            have := hN.2.2
            dsimp only at this
            rw [e, ho] at this; cases this
          · cases q : h₀.get? DT with
            | none => rfl
            | some o => have := hN.2.2; dsimp only at this; rw [hnf _ _ q] at this; cases this
        · exact ⟨(N9 p (.tail _ (.tail _ (.tail _ (List.mem_append_left _ hp))))).1, (N0 p hp).2⟩
      · intro p hp
        exact Nat.lt_trans (Nat.lt_trans (l1 p hp) (Nat.lt_succ_self _)) l4.2.2.1
  · clear N5
    rintro ⟨⟨us, cnt⟩, q⟩ u h tk ⟨hl, hiq, hq, done, hI, hd⟩ F N
    dsimp only at hiq hq
    rw [hdot] at hiq
    lia
end Mine
end V7
section Q0
open PySem PySem.W Builtin Builtin.Str
set_option maxRecDepth 100000
namespace Mine
noncomputable def occR (P : Nat → Bool) (w : Nat) : Nat → Nat → Nat → List Nat
  | 0, _, _ => []
  | n + 1, i, free => if free ≤ i ∧ P i = true then i :: occR P w n (i + 1) (i + w) else occR P w n (i + 1) free
noncomputable def hitAt (x y : Str) (i : Nat) : Bool := decide (i + y.length ≤ x.length) && subAt x y i
theorem occ_loop (x y : Str) (limit : Nat) : ∀ (n i free : Nat) (acc : Array Nat), acc.size ≤ i → i + n ≤ limit →
    (forIn (List.range' i n) (acc, free) (StrLaws.occBody x y x.length limit)).run.fst.toList = acc.toList ++ occR (hitAt x y) y.length n i free := by
  intro n
  induction n with
  | zero => intro i free acc _ _; simp [occR]
  | succ n ih =>
    intro i free acc h1 h2
    rw [List.range'_succ, List.forIn_cons]
    unfold occR StrLaws.occBody
    by_cases hc : free ≤ i ∧ hitAt x y i = true
    · have hc' : ((acc.size < limit ∧ free ≤ i) ∧ i + y.length ≤ x.length) ∧ subAt x y i = true := by
        obtain ⟨a, b⟩ := hc
        unfold hitAt at b
        rw [Bool.and_eq_true, decide_eq_true_eq] at b
        exact ⟨⟨⟨by lia, a⟩, b.1⟩, b.2⟩
      rw [if_pos hc, if_pos hc']
      refine (ih (i + 1) (i + y.length) (acc.push i) (by simp; lia) (by lia)).trans ?_
      simp
    · have hc' : ¬ (((acc.size < limit ∧ free ≤ i) ∧ i + y.length ≤ x.length) ∧ subAt x y i = true) := by
        rintro ⟨⟨⟨_, a⟩, b⟩, c⟩
        refine hc ⟨a, ?_⟩
        unfold hitAt
        rw [Bool.and_eq_true, decide_eq_true_eq]; exact ⟨b, c⟩
      rw [if_neg hc, if_neg hc']
      exact ih (i + 1) free acc (by lia) (by lia)
theorem occ_R (x y : Str) : occurrences x y 0 x.length (x.length + 1) = occR (hitAt x y) y.length (x.length + 1) 0 0 := by
  rw [StrLaws.occ_eq]
  have := occ_loop x y (x.length + 1) (x.length + 1) 0 0 #[] (by simp) (by lia)
  simpa using this
noncomputable def pcsL (x : List Nat) (w : Nat) : Nat → List Nat → List (List Nat)
  | a, [] => [x.drop a]
  | a, c :: cs => (x.drop a).take (c - a) :: pcsL x w (c + w) cs
theorem parts_pcs (x : Str) (w : Nat) : ∀ (cuts : List Nat) (a : Nat), (((a :: cuts.map (· + w)).zip (cuts ++ [x.length])).map fun (i, j) => strSub x i j).map (·.cps.toList) = pcsL x.cps.toList w a cuts := by
  intro cuts
  induction cuts with
  | nil =>
    intro a
    simp only [List.map_nil, List.nil_append, List.zip_cons_cons, List.zip_nil_right, List.map_cons, pcsL, strSub, Array.toList_extract, List.extract_eq_take_drop]
    rw [List.take_of_length_le]
    simp [Str.length]
  | cons c cs ih =>
    intro a
    simp only [List.map_cons, List.cons_append, List.zip_cons_cons, pcsL]
    rw [← ih (c + w)]
    simp only [List.map_cons, strSub, Array.toList_extract, List.extract_eq_take_drop]
theorem parts_L (x : Str) (cuts : List Nat) (w : Nat) : (partsBetween x cuts w).map (·.cps.toList) = pcsL x.cps.toList w 0 cuts := parts_pcs x w cuts 0
noncomputable def glueL (z : List Nat) : List (List Nat) → List Nat
  | [] => []
  | [p] => p
  | p :: q :: r => p ++ (z ++ glueL z (q :: r))
theorem glue_fold (z : Str) : ∀ (ps : List Str) (acc : Array Nat), (ps.foldl (fun acc p => acc ++ z.cps ++ p.cps) acc).toList = glueL z.cps.toList (acc.toList :: ps.map (·.cps.toList)) := by
  intro ps
  induction ps with
  | nil => intro acc; rfl
  | cons p ps ih =>
    intro acc
    rw [List.foldl_cons, ih]
    cases ps with
    | nil => simp [glueL]
    | cons q r => simp [glueL]
theorem glued_L (z : Str) (ps : List Str) : (glued z ps).cps.toList = glueL z.cps.toList (ps.map (·.cps.toList)) := by
  unfold glued
  cases ps with
  | nil => rfl
  | cons p ps => exact glue_fold z ps p.cps
/-- what stands for a piece: with a dot ahead of a dot, if asked -/
noncomputable def dotP (d : Bool) (p : List Nat) : List Nat := if d = true ∧ p.head? = some 46 then 46 :: p else p
noncomputable def scan (Y z : List Nat) (d : Bool) : Bool → Nat → List Nat → List Nat
  | _, _, [] => []
  | b, k + 1, _ :: l => scan Y z d b k l
  | b, 0, c :: l => if Y.isPrefixOf (c :: l) = true then z ++ scan Y z d true (Y.length - 1) l else (if d = true ∧ b = true ∧ c = 46 then [46] else []) ++ c :: scan Y z d false 0 l
theorem dotP_nil (d : Bool) : dotP d [] = [] := by simp [dotP]
theorem dotP_app (d : Bool) (u v : List Nat) (h : u ≠ []) : dotP d (u ++ v) = dotP d u ++ v := by
  cases u with
  | nil => exact absurd rfl h
  | cons c u =>
    unfold dotP
    by_cases hc : d = true ∧ c = 46
    · rw [if_pos (by simpa using hc), if_pos (by simpa using hc)]; rfl
    · rw [if_neg (by simpa using hc), if_neg (by simpa using hc)]
theorem glue_cons (z p : List Nat) (r : List (List Nat)) (h : r ≠ []) : glueL z (p :: r) = p ++ (z ++ glueL z r) := by
  cases r with
  | nil => exact absurd rfl h
  | cons q r => rfl
theorem pcs_ne (x : List Nat) (w a : Nat) (cs : List Nat) : pcsL x w a cs ≠ [] := by cases cs <;> simp [pcsL]
theorem scan_pcs (x Y z : List Nat) (d : Bool) (P : Nat → Bool) (hY : 1 ≤ Y.length) (hP : ∀ i, P i = Y.isPrefixOf (x.drop i)) : ∀ (n i free a : Nat), i + n = x.length + 1 →
    (free ≤ i → a ≤ i → glueL z ((pcsL x Y.length a (occR P Y.length n i free)).map (dotP d)) = dotP d ((x.drop a).take (i - a)) ++ scan Y z d (a == i) 0 (x.drop i)) ∧
    (i < free → a = free → free ≤ x.length → glueL z ((pcsL x Y.length a (occR P Y.length n i free)).map (dotP d)) = scan Y z d true (free - i) (x.drop i)) := by
  intro n
  induction n with
  | zero =>
    intro i free a h
    refine ⟨fun _ _ => ?_, fun _ _ _ => by lia⟩
    rw [List.drop_of_length_le (by lia : x.length ≤ i)]
    simp only [occR, pcsL, List.map_cons, List.map_nil, glueL, scan, List.append_nil]
    rw [List.take_of_length_le]
    simp; lia
  | succ n ih =>
    intro i free a h
    refine ⟨fun hf ha => ?_, fun hf ha hl => ?_⟩
    · by_cases hp : P i = true
      · unfold occR
        rw [if_pos ⟨hf, hp⟩]
        rw [hP, List.isPrefixOf_iff_prefix] at hp
        have hlen := hp.length_le
        rw [List.length_drop] at hlen
        simp only [pcsL, List.map_cons]
        rw [glue_cons _ _ _ (by simp [pcs_ne])]
        obtain ⟨c, hd⟩ : ∃ c, x.drop i = c :: x.drop (i + 1) := ⟨x[i]'(by lia), List.drop_eq_getElem_cons (by lia)⟩
        congr 1
        have hs : scan Y z d (a == i) 0 (x.drop i) = z ++ scan Y z d true (Y.length - 1) (x.drop (i + 1)) := by
          have hp2 := List.isPrefixOf_iff_prefix.mpr hp
          rw [hd] at hp2 ⊢
          rw [scan, if_pos hp2]
        rw [hs]
        congr 1
        by_cases hw : Y.length = 1
        · have := (ih (i + 1) (i + Y.length) (i + Y.length) (by lia)).1 (by lia) (by lia)
          rw [this, hw]
          simp [dotP_nil]
        · have := (ih (i + 1) (i + Y.length) (i + Y.length) (by lia)).2 (by lia) rfl (by lia)
          rw [this]
          congr 1; lia
      · have hne : ¬ (free ≤ i ∧ P i = true) := fun hh => hp hh.2
        unfold occR
        rw [if_neg hne]
        by_cases hi : i = x.length
        · have h0 : n = 0 := by lia
          subst h0
          rw [List.drop_of_length_le (by lia : x.length ≤ i)]
          simp only [occR, pcsL, List.map_cons, List.map_nil, glueL, scan, List.append_nil]
          rw [List.take_of_length_le]
          simp; lia
        · have := (ih (i + 1) free a (by lia)).1 (by lia) (by lia)
          rw [this]
          have hd : x.drop i = x[i]'(by lia) :: x.drop (i + 1) := List.drop_eq_getElem_cons (by lia)
          have hnp : ¬ Y.isPrefixOf (x[i]'(by lia) :: x.drop (i + 1)) = true := by rw [← hd, ← hP]; exact hp
          rw [hd, scan, if_neg hnp]
          have hb : (a == i + 1) = false := by simp; lia
          rw [hb]
          have ht : (x.drop a).take (i + 1 - a) = (x.drop a).take (i - a) ++ [x[i]'(by lia)] := by
            rw [show i + 1 - a = (i - a) + 1 by lia, List.take_add_one]
            congr 1
            rw [List.getElem?_drop, show a + (i - a) = i by lia, List.getElem?_eq_getElem (by lia)]
            rfl
          rw [ht]
          by_cases hai : a = i
          · subst hai
            simp only [Nat.sub_self, List.take_zero, List.nil_append, dotP_nil]
            unfold dotP
            simp only [List.head?_cons, Option.some.injEq, beq_self_eq_true, true_and]
            split <;> simp
          · rw [dotP_app _ _ _ (by
              intro he
              have := congrArg List.length he
              rw [List.length_take, List.length_drop] at this
              simp at this; lia)]
            have hb2 : (a == i) = false := by simp [hai]
            rw [hb2]
            simp
    · have hne : ¬ (free ≤ i ∧ P i = true) := fun hh => by lia
      unfold occR
      rw [if_neg hne]
      obtain ⟨c, hd⟩ : ∃ c, x.drop i = c :: x.drop (i + 1) := ⟨x[i]'(by lia), List.drop_eq_getElem_cons (by lia)⟩
      rw [hd, show free - i = (free - (i + 1)) + 1 by lia, scan]
      by_cases hw : i + 1 < free
      · exact (ih (i + 1) free a (by lia)).2 hw ha hl
      · have := (ih (i + 1) free a (by lia)).1 (by lia) (by lia)
        rw [this]
        have e : a = i + 1 := by lia
        subst e
        rw [show free - (i + 1) = 0 by lia]
        simp [dotP_nil]
theorem hit_prefix (x y : Str) (i : Nat) (hy : 1 ≤ y.length) : hitAt x y i = y.cps.toList.isPrefixOf (x.cps.toList.drop i) := by
  rw [Bool.eq_iff_iff]
  unfold hitAt subAt
  rw [Bool.and_eq_true, decide_eq_true_eq, beq_iff_eq, List.isPrefixOf_iff_prefix, List.prefix_iff_eq_take]
  have e1 : (x.cps.extract i (i + y.length)).toList = (x.cps.toList.drop i).take y.length := by
    rw [Array.toList_extract, List.extract_eq_take_drop]; congr 1; lia
  have e2 : y.cps.toList.length = y.length := by simp [Str.length]
  have e3 : x.cps.toList.length = x.length := by simp [Str.length]
  rw [e2]
  constructor
  · rintro ⟨_, h⟩
    rw [← e1, h]
  · intro h
    refine ⟨?_, Array.toList_inj.mp (by rw [e1, ← h])⟩
    have := congrArg List.length h
    rw [List.length_take, List.length_drop, e2, e3] at this
    lia
theorem replace_scan (x y z : Str) (hy : 1 ≤ y.length) : (Txt.replace x y z).cps.toList = scan y.cps.toList z.cps.toList false true 0 x.cps.toList := by
  have key := (scan_pcs x.cps.toList y.cps.toList z.cps.toList false (hitAt x y) (by simpa [Str.length] using hy) (fun i => hit_prefix x y i hy) (x.length + 1) 0 0 0 (by simp [Str.length])).1 (Nat.le_refl _) (Nat.le_refl _)
  have e2 : y.cps.toList.length = y.length := by simp [Str.length]
  rw [e2, ← occ_R] at key
  have hd : (dotP false) = _root_.id := by funext p; simp [dotP]
  rw [hd, List.map_id] at key
  simp only [List.drop_zero, Nat.sub_self, List.take_zero, beq_self_eq_true, _root_.id, List.nil_append] at key
  rw [← key]
  unfold Txt.replace
  have hy0 : (y.length == 0 && z.length == 0) = false := by
    have : (y.length == 0) = false := by simp; lia
    rw [this]; rfl
  rw [hy0, Bool.or_false]
  split
  · rename_i h
    rw [List.isEmpty_iff.mp h]
    simp [pcsL, glueL]
  · rw [glued_L, parts_L]
theorem split_scan (x y : Str) (hy : 1 ≤ y.length) (hk : Str.strKind y = 1) : glueL y.cps.toList (((Txt.split x y).map (·.cps.toList)).map (dotP true)) = scan y.cps.toList y.cps.toList true true 0 x.cps.toList := by
  have key := (scan_pcs x.cps.toList y.cps.toList y.cps.toList true (hitAt x y) (by simpa [Str.length] using hy) (fun i => hit_prefix x y i hy) (x.length + 1) 0 0 0 (by simp [Str.length])).1 (Nat.le_refl _) (Nat.le_refl _)
  have e2 : y.cps.toList.length = y.length := by simp [Str.length]
  rw [e2, ← occ_R] at key
  simp only [List.drop_zero, Nat.sub_self, List.take_zero, beq_self_eq_true, dotP_nil, List.nil_append] at key
  rw [← key]
  have hkx : decide (Str.strKind x < Str.strKind y) = false := by
    rw [hk]; unfold Str.strKind; simp; split
    · lia
    · split <;> lia
  have hone : ∀ cuts : List Nat, cuts = [] → pcsL x.cps.toList y.length 0 cuts = [x.cps.toList] := by rintro _ rfl; rfl
  unfold Txt.split
  rw [hkx, Bool.or_false]
  split
  · rename_i h
    rw [decide_eq_true_eq] at h
    have h0 : occurrences x y 0 x.length (x.length + 1) = [] := by
      rw [occ_R]
      have : ∀ n i free, occR (hitAt x y) y.length n i free = [] := by
        intro n
        induction n with
        | zero => intro i free; rfl
        | succ n ih =>
          intro i free
          unfold occR
          have hh : hitAt x y i = false := by
            unfold hitAt
            rw [decide_eq_false (by lia)]; rfl
          rw [hh, if_neg (by simp)]
          exact ih _ _
      exact this _ _ _
    rw [hone _ h0]; rfl
  · split
    · rename_i h
      rw [hone _ (List.isEmpty_iff.mp h)]; rfl
    · rw [parts_L]
theorem scan_flag (Y z : List Nat) : ∀ (l : List Nat) (k : Nat) (b b' : Bool), scan Y z false b k l = scan Y z false b' k l := by
  intro l
  induction l with
  | nil => intro k b b'; simp [scan]
  | cons c l ih =>
    intro k b b'
    cases k with
    | succ k => rw [scan, scan]; exact ih k b b'
    | zero => rw [scan, scan]; simp
noncomputable def s1 := scan [13, 10] [10] false true 0
noncomputable def s2 := scan [13] [10] false true 0
noncomputable def s3 := scan [10] [13, 10] false true 0
theorem s1_crlf (l : List Nat) : s1 (13 :: 10 :: l) = 10 :: s1 l := by simp [s1, scan]
theorem s1_other (c : Nat) (l : List Nat) (h : ¬ (c = 13 ∧ l.head? = some 10)) : s1 (c :: l) = c :: s1 l := by
  unfold s1
  rw [scan, if_neg]
  · rw [scan_flag _ _ l 0 false true]; simp
  · cases l with
    | nil => simp
    | cons e l =>
      simp only [List.isPrefixOf, Bool.and_true, Bool.and_eq_true, beq_iff_eq]
      rintro ⟨rfl, rfl⟩
      exact h ⟨rfl, rfl⟩
theorem s2_cr (l : List Nat) : s2 (13 :: l) = 10 :: s2 l := by simp [s2, scan]
theorem s2_other (c : Nat) (l : List Nat) (h : c ≠ 13) : s2 (c :: l) = c :: s2 l := by
  unfold s2
  rw [scan, if_neg (by simpa using fun e => h e.symm), scan_flag _ _ l 0 false true]; simp
theorem s3_lf (l : List Nat) : s3 (10 :: l) = 13 :: 10 :: s3 l := by simp [s3, scan]
theorem s3_other (c : Nat) (l : List Nat) (h : c ≠ 10) : s3 (c :: l) = c :: s3 l := by
  unfold s3
  rw [scan, if_neg (by simpa using fun e => h e.symm), scan_flag _ _ l 0 false true]; simp
theorem three_crlf : ∀ (n : Nat) (l : List Nat), l.length ≤ n → s3 (s2 (s1 l)) = crlf false l := by
  intro n
  induction n with
  | zero =>
    intro l h
    rw [List.length_eq_zero_iff.mp (Nat.le_zero.mp h)]
    simp [s1, s2, s3, scan, crlf]
  | succ n ih =>
    intro l h
    cases l with
    | nil => simp [s1, s2, s3, scan, crlf]
    | cons c l =>
      simp only [List.length_cons] at h
      by_cases hc : c = 13 ∧ l.head? = some 10
      · obtain ⟨rfl, hh⟩ := hc
        cases l with
        | nil => cases hh
        | cons e l =>
          simp only [List.head?_cons, Option.some.injEq] at hh
          subst hh
          simp only [List.length_cons] at h
          rw [s1_crlf, s2_other _ _ (by decide), s3_lf, crlf_crlf, ih l (by lia)]
      · rw [s1_other c l hc]
        by_cases h13 : c = 13
        · subst h13
          rw [s2_cr, s3_lf, crlf_cr l (by simpa using hc), ih l (by lia)]
        · rw [s2_other _ _ h13]
          by_cases h10 : c = 10
          · subst h10; rw [s3_lf, crlf_lf, ih l (by lia)]
          · rw [s3_other _ _ h10, crlf_cons _ _ h13 h10, ih l (by lia)]
theorem scan_lf : ∀ (l : List Nat) (b : Bool), scan [10] [10] true b 0 l = dots b l := by
  intro l
  induction l with
  | nil => intro b; simp [scan, dots]
  | cons c l ih =>
    intro b
    rw [scan, dots]
    by_cases h : c = 10
    · subst h; simp [ih]
    · rw [if_neg (by simpa using fun e => h e.symm), ih]
      have h10 : (c == 10) = false := by simpa using h
      rw [h10]
      by_cases hb : b = true ∧ c = 46
      · rw [if_pos ⟨rfl, hb⟩, if_pos hb, hb.2]; rfl
      · rw [if_neg (fun hh => hb hh.2), if_neg hb]; rfl
theorem scan_crlf : ∀ (l : List Nat) (f b : Bool), scan [13, 10] [13, 10] true b 0 (crlf f l) = dots b (crlf f l) := by
  have hm : ∀ (r : List Nat) (b : Bool), (∀ b, scan [13, 10] [13, 10] true b 0 r = dots b r) → scan [13, 10] [13, 10] true b 0 (13 :: 10 :: r) = dots b (13 :: 10 :: r) := by
    intro r b h
    rw [scan, if_pos (by simp)]
    simp [scan, dots, h]
  intro l
  induction l with
  | nil => intro f b; simp [crlf, scan, dots]
  | cons c l ih =>
    intro f b
    rw [crlf]
    split
    · exact ih false b
    · split
      · exact hm _ b (ih true)
      · split
        · exact hm _ b (ih false)
        · rename_i h13 h10
          rw [scan, if_neg (by simpa using fun e => absurd e.symm h13), dots, ih]
          have h10' : (c == 10) = false := by simpa using h10
          rw [h10']
          by_cases hb : b = true ∧ c = 46
          · rw [if_pos ⟨rfl, hb⟩, if_pos hb, hb.2]; rfl
          · rw [if_neg (fun hh => hb hh.2), if_neg hb]; rfl
end Mine
end Q0
section V4
open PySem PySem.W PyProof.Rows PySem.Calls PySem.Spec PyProof.V PySem.SeqAt
set_option pp.structureInstances false
set_option maxRecDepth 100000
set_option maxHeartbeats 8000000
namespace Mine
local macro_rules | `(tactic| walk_at "ENTER") => `(tactic| ((case kA => exact rfl); (case kF => exact rfl); (case kK => assumption); (case k6 => k_is); (case k7 => k_is); (case k8 => ktr_room); (case k9 => exact BindsTo.of_eq rfl); (case c5 => decide); (case kB => exact locs rfl); (case c2 => exact rfl); (case c3 => exact rfl); (case c4 => exact rfl)))

local macro_rules | `(tactic| walk_at "exec If") => `(tactic| (refine wpAny_If ?_; refine pos_grow ?hp ?_; (case hp => (dsimp only; omega))))
local macro_rules | `(tactic| walk_at "execs cons") => `(tactic| ((refine gen_toks ?hp ?_; (case hp => (try dsimp only at *); omega)); intro tk htk; (with_reducible refine wpAny_execs_cons ?_); (try dsimp only)))
theorem len_mk (l : List Nat) : (Str.mk l.toArray).length = l.length := by simp [Str.length]
theorem s1_len (l : List Nat) : ∀ n, l.length ≤ n → (s1 l).length ≤ l.length := by
  intro n
  induction n generalizing l with
  | zero => intro h; rw [List.length_eq_zero_iff.mp (Nat.le_zero.mp h)]; simp [s1, scan]
  | succ n ih =>
    intro h
    cases l with
    | nil => simp [s1, scan]
    | cons c l =>
      simp only [List.length_cons] at h
      by_cases hc : c = 13 ∧ l.head? = some 10
      · obtain ⟨rfl, hh⟩ := hc
        cases l with
        | nil => cases hh
        | cons e l =>
          simp only [List.head?_cons, Option.some.injEq] at hh
          subst hh
          simp only [List.length_cons] at h
          rw [s1_crlf]
          have := ih l (by lia)
          simp; lia
      · rw [s1_other c l hc]
        have := ih l (by lia)
        simp; lia
theorem s2_len (l : List Nat) : (s2 l).length = l.length := by
  induction l with
  | nil => simp [s2, scan]
  | cons c l ih =>
    by_cases h : c = 13
    · subst h; rw [s2_cr]; simp [ih]
    · rw [s2_other _ _ h]; simp [ih]
theorem rep1 (x : Array Nat) : Txt.replace ⟨x⟩ "\r\n" "\n" = ⟨(s1 x.toList).toArray⟩ := by
  apply congrArg Str.mk
  exact Array.toList_inj.mp ((replace_scan _ _ _ (by decide +kernel)).trans rfl)
theorem rep2 (l : List Nat) : Txt.replace ⟨l.toArray⟩ "\r" "\n" = ⟨(s2 l).toArray⟩ := by
  apply congrArg Str.mk
  exact Array.toList_inj.mp ((replace_scan _ _ _ (by decide +kernel)).trans rfl)
theorem rep3 (l : List Nat) : Txt.replace ⟨(s2 (s1 l)).toArray⟩ "\n" "\r\n" = ⟨(crlf false l).toArray⟩ := by
  rw [← three_crlf l.length l (Nat.le_refl _)]
  apply congrArg Str.mk
  exact Array.toList_inj.mp ((replace_scan _ _ _ (by decide +kernel)).trans rfl)
local macro_rules | `(tactic| walk_at "call builtin:str.replace") => `(tactic| (refine' replaceT ?hs ?hu ?huv ?hyz ?hx ?hz ?_; (case hs => (dsimp only; omega)); (case hu => omega); (case huv => exact Nat.lt_succ_self _); (case hyz => decide +kernel); (case hx => omega); (case hz => decide +kernel); intro t' k' hk'; (first | rw [rep1] | rw [rep2] | rw [rep3]); (try dsimp only)))
noncomputable def dotS (a : Str) : Str := ⟨(dotP true a.cps.toList).toArray⟩
section
variable {prog : Program} {w : World} {A : Around} {E : Value → Shared → Prop} {s : Shared} {value slice : PySem.Expr} {x : Str} {t : Tok} {Q : Value → Shared → Prop}
theorem slice_K {j : Int} {uj : Tok} (h : ∀ h' t' k, (∀ b o, s.heap.get? b = some o → h'.get? b = some o) → Q (.str (Txt.slice x none (some j)) t') { s with heap := h', toks := k })
    (hs : subscripted slice false (.str x t) (.ref s.heap.objs.size) = operate [.ref s.heap.objs.size, .str x t] (getItem (.str x t) (.ref s.heap.objs.size)))
    (ht : ∀ r, letTemporaryGo value (.str x t) r = pure ()) (hsz : x.length ≤ sizeLine) :
    wpAny (model prog w) A (subscriptTail value slice (.str x t) (.ref s.heap.objs.size)) Q E { s with heap := s.heap.push { cls := .type "slice", data := .fields #[.none, .int j uj, .none] } } :=
  tail_of_ItemOn (SBH.sliceItem_ns (P := fun h' => ∀ b o, s.heap.get? b = some o → h'.get? b = some o) (fun _ _ hk b o e => Heap.get?_push_of_some _ (hk b o e)) (fun _ _ e => e) h hsz) hs ht
theorem carried_strs : ∀ {ys : List Value} {as : List Str}, CarriedAll ys (as.map PyData.str) → ∃ l : List (Str × Tok), ys = strValues l ∧ l.map (·.1) = as := by
  intro ys as
  induction as generalizing ys with
  | nil => intro h; cases h; exact ⟨[], rfl, rfl⟩
  | cons a as ih =>
    intro h
    cases h with
    | cons h1 h2 =>
      cases h1 with
      | str x t =>
        obtain ⟨l, e1, e2⟩ := ih h2
        exact ⟨(a, t) :: l, by rw [e1]; rfl, by simp [e2]⟩
end
theorem ns_keep {h h' : Heap} {L : Addr} {m : Str → Option Value} (x : h.Ns L m) (k : ∀ b o, h.get? b = some o → h'.get? b = some o) : h'.Ns L m := by
  obtain ⟨oL, a1, a2, hL, a3⟩ := x
  exact ⟨oL, a1, a2, k _ _ hL, a3⟩
theorem split_len (x y : Str) : (Txt.split x y).length ≤ x.length + 2 := by
  unfold Txt.split
  split
  · simp
  · split
    · simp
    · unfold Builtin.Str.partsBetween
      have := StrLaws.occ_length_le x y 0 x.length (x.length + 1)
      simp
      lia
theorem slice_dot (a : Str) : (Txt.slice a none (some 1) == ".") = true ↔ a.cps.toList.head? = some 46 := by
  rw [beq_iff_eq]
  have h := txt_slice a none (some 1)
  have h2 : lslice a.cps.toList none (some 1) = a.cps.toList.take 1 := by
    unfold lslice
    cases a.cps.toList with
    | nil => simp
    | cons c l =>
      simp [clipAt]
      rw [show (max 0 (min 1 ((l.length : Int) + 1))).toNat = 1 by lia]; rfl
  rw [h2] at h
  constructor
  · intro e
    rw [e] at h
    cases hl : a.cps.toList with
    | nil => rw [hl] at h; cases h
    | cons c l => rw [hl] at h; simp only [List.take_succ_cons, List.take_zero] at h; have := List.cons.inj h; rw [← this.1]; rfl
  · intro e
    cases hl : a.cps.toList with
    | nil => rw [hl] at e; cases e
    | cons c l =>
      rw [hl] at e h
      simp only [List.head?_cons, Option.some.injEq] at e
      subst e
      show Txt.slice a none (some 1) = Str.mk #[46]
      cases hs : Txt.slice a none (some 1) with
      | mk cs =>
        rw [hs] at h
        congr 1
        exact Array.toList_inj.mp h
theorem dotS_yes (a : Str) (h : (Txt.slice a none (some 1) == ".") = true) : "." ++ a = dotS a := by
  unfold dotS dotP
  rw [if_pos ⟨rfl, (slice_dot a).mp h⟩]
  show Str.mk _ = Str.mk _
  congr 1
  apply Array.toList_inj.mp
  rw [Array.toList_append]; rfl
theorem dotS_no (a : Str) (h : (Txt.slice a none (some 1) == ".") = false) : a = dotS a := by
  unfold dotS dotP
  rw [if_neg (fun hh => by rw [(slice_dot a).mpr hh.2] at h; cases h)]
theorem dotS_join (x y : Str) (l : List Str) (h : l = Txt.split x y) (hy : 1 ≤ y.length) (hk : Builtin.Str.strKind y = 1) : Txt.join y (l.map dotS) = ⟨(scan y.cps.toList y.cps.toList true true 0 x.cps.toList).toArray⟩ := by
  apply congrArg Str.mk
  apply Array.toList_inj.mp
  rw [← split_scan x y hy hk, h]
  refine (glued_L y _).trans ?_
  rw [List.map_map, List.map_map]
  congr 1
theorem join_ok (x y : Str) (l : List Str) (h : l = Txt.split x y) (hx : x.length ≤ 200) (hy : y.length ≤ 2) (hlen : ∀ a ∈ l, a.length ≤ x.length) : JoinOk y (l.map dotS) = true := by
  unfold JoinOk
  have h1 : ∀ (ps : List Str) (n : Nat), (∀ a ∈ ps, a.length ≤ 200) → (ps.map dotS).foldl (fun x1 x2 => x1 + x2.length + y.length) n ≤ n + 203 * ps.length := by
    intro ps
    induction ps with
    | nil => intro n _; simp
    | cons p ps ih =>
      intro n hp
      rw [List.map_cons, List.foldl_cons]
      have h2 := ih (n + (dotS p).length + y.length) (fun a ha => hp a (.tail _ ha))
      have h3 : (dotS p).length ≤ 201 := by
        have := hp p (.head _)
        unfold dotS dotP
        simp only [Str.length] at this ⊢
        split <;> simp <;> lia
      simp only [List.length_cons]
      lia
  have h4 := h1 l 0 (fun a ha => Nat.le_trans (hlen a ha) hx)
  have h5 : l.length ≤ 202 := by rw [h]; have := split_len x y; lia
  rw [List.foldl_toArray]
  unfold Builtin.Str.tooLong sizeLine
  simp only [Bool.not_eq_true', decide_eq_false_iff_not]
  lia
local macro_rules | `(tactic| walk_at "call builtin:str.join") => `(tactic| refine Hold.out ?_)
local macro_rules | `(tactic| walk_at "pyIter ref") => `(tactic| refine Hold.out ?_)
theorem hand_claim0 {w : World} {mean : ExcName → Option Value} {mg mb : Str → Option Value} {news} {x : Array Nat} {tx th : Tok}
  {dp un : Nat} {gd : Option (List Code)} {cn : Str} {cs : Scope} {a : Addr} {ccd : Value} {cl : List (Str × Addr)} {outer : List Env} {A₀ : Around} {base h₀ : Heap} {L : Addr} {m : Str → Option Value} {s : Shared} {Q E : Value → Shared → Prop}
  (B : Below A₀ base outer h₀) (F : Fr h₀ L s.heap m) (X : (hd.heap_39 w.params).In h₀) (N : News h₀ L s.heap news) (T : Top hd.view_39 loose mean mg mb h₀) (hk : cs.kind = .function)
  (hdp : dp + 5 < recursionLimit) (hun : un + 200 < cLine) (hx : x.size ≤ 100)
  (hret : ∀ (t : Tok) (h' : Heap) (tk' : Nat), Fr h₀ L h' m → News h₀ L h' news → Q (.str ⟨(crlf false x.toList).toArray⟩ t) { s with heap := h', toks := tk' }) :
  wpAny (model PySem.Challenge.pw_ta0009_01 w) (ktrTop dp un gd cn cs L a ccd cl outer) (call (.ref 107) [.str ⟨x⟩ tx, .int 0 th]) Q E s := by
  refine wpAny_call ?_
  k_dflt (refine' enter_defT [("text", .str ⟨x⟩ tx), ("hand", .int 0 th)] B F X N T ?kA ?kF ?kK ?k6 ?k7 ?k8 ?k9 ?kB ?c2 ?c3 ?c4 ?c5 ?ne ?_; (case ne => exact fun h => nomatch h); walk_at "ENTER")
  intro g' L' h1 tk0 htk0 FG F1 N1 B1 X1 T1
  dsimp only [List.reverse, List.reverseAux] at F1
  try dsimp only
  k_fold
  have hxl : (Str.mk x).length ≤ 100 := hx
  have hl1 : (Str.mk (s1 x.toList).toArray).length ≤ 100 := by rw [len_mk]; have := s1_len x.toList x.toList.length (Nat.le_refl _); simp at this; lia
  have hl2 : (Str.mk (s2 (s1 x.toList)).toArray).length ≤ 100 := by rw [len_mk, s2_len]; rw [len_mk] at hl1; exact hl1
  have hl3 : (Str.mk (crlf false x.toList).toArray).length ≤ 200 := by rw [len_mk]; have := crlf_len x.toList false; simp at this; lia
  k_steps
  rename_i kF kN _ _
  exact hret _ _ _ kF kN
theorem hand_claim1 {w : World} {mean : ExcName → Option Value} {mg mb : Str → Option Value} {news} {x : Array Nat} {tx th : Tok}
  {dp un : Nat} {gd : Option (List Code)} {cn : Str} {cs : Scope} {a : Addr} {ccd : Value} {cl : List (Str × Addr)} {outer : List Env} {A₀ : Around} {base h₀ : Heap} {L : Addr} {m : Str → Option Value} {s : Shared} {Q E : Value → Shared → Prop}
  (B : Below A₀ base outer h₀) (F : Fr h₀ L s.heap m) (X : (hd.heap_39 w.params).In h₀) (N : News h₀ L s.heap news) (T : Top hd.view_39 loose mean mg mb h₀) (hk : cs.kind = .function)
  (hdp : dp + 5 < recursionLimit) (hun : un + 200 < cLine) (hx : x.size ≤ 100)
  (hret : ∀ (t : Tok) (h' : Heap) (tk' : Nat), Fr h₀ L h' m → News h₀ L h' news → Q (.str ⟨(dots true (crlf false x.toList)).toArray⟩ t) { s with heap := h', toks := tk' }) :
  wpAny (model PySem.Challenge.pw_ta0009_01 w) (ktrTop dp un gd cn cs L a ccd cl outer) (call (.ref 107) [.str ⟨x⟩ tx, .int 1 th]) Q E s := by
  refine wpAny_call ?_
  k_dflt (refine' enter_defT [("text", .str ⟨x⟩ tx), ("hand", .int 1 th)] B F X N T ?kA ?kF ?kK ?k6 ?k7 ?k8 ?k9 ?kB ?c2 ?c3 ?c4 ?c5 ?ne ?_; (case ne => exact fun h => nomatch h); walk_at "ENTER")
  intro g' L' h1 tk0 htk0 FG F1 N1 B1 X1 T1
  dsimp only [List.reverse, List.reverseAux] at F1
  try dsimp only
  k_fold
  have hxl : (Str.mk x).length ≤ 100 := hx
  have hl1 : (Str.mk (s1 x.toList).toArray).length ≤ 100 := by rw [len_mk]; have := s1_len x.toList x.toList.length (Nat.le_refl _); simp at this; lia
  have hl2 : (Str.mk (s2 (s1 x.toList)).toArray).length ≤ 100 := by rw [len_mk, s2_len]; rw [len_mk] at hl1; exact hl1
  have hl3 : (Str.mk (crlf false x.toList).toArray).length ≤ 200 := by rw [len_mk]; have := crlf_len x.toList false; simp at this; lia
  k_steps
  rename_i l h6 k6 hsplit hstrs hlen hlist F6 N6
  refine Hold.mk ?_
  refine srcC_listDW (K := ItemKind.str) (pz := fun _ => true) (d := fun a => .str (dotS a)) rfl hlist hstrs.areOf F6 N6 ?_ ?_ ?_ ?_
  · intro C a v s₂ m₂ E' _ _ _ _ _
    rw [List.forIn_nil]
    exact wpAny_pure ⟨rfl, s₂.heap, s₂.toks, rfl, fun _ _ e => e⟩
  · clear F6 N6 hlist
    rintro C a v ⟨h7, g7, d7, tk7, o7⟩ m₂ E' ha ⟨t, rfl⟩ _ hns hx7 htk7
    have hal2 : a.length ≤ 200 := by have := hlen a ha; lia
    have hal : a.length ≤ sizeLine := by unfold sizeLine; lia
    k_steps
    refine' slice_K (s := ⟨_, _, _, _, _⟩) ?h ?hs ?ht hal
    case hs => with_unfolding_all rfl
    case ht => intro _; with_unfolding_all rfl
    intro hK tK kK kpK
    have nsK := ns_keep hns kpK
    have kp7 : ∀ b o, h7.get? b = some o → hK.get? b = some o := kpK
    k_steps
    · rename_i hy1 _ _ _
      rw [dotS_yes a hy1]; exact .str _ _
    · exact ⟨_, _, rfl, kp7⟩
    · rename_i hy1
      have := dotS_no a hy1
      rw [← this]; exact .str _ _
    · exact ⟨_, _, rfl, kp7⟩
  · intro D ys h7 tk7 F7 N7 hD hlD hnp hcar
    rw [List.filter_eq_self.mpr (fun _ _ => rfl)] at hcar
    rw [show List.map (fun a => PyData.str (dotS a)) (List.map (fun x => x.1) l) = (((l.map (·.1)).map dotS)).map PyData.str by simp] at hcar
    obtain ⟨l2, rfl, e2⟩ := carried_strs hcar
    k_steps
    refine Hold.mk ?_
    refine' SC.join ?hl e2 ?hj ?_
    case hl => exact hlD
    case hj => exact join_ok _ _ _ hsplit hl3 (by decide) hlen
    intro t8 k8
    rw [dotS_join _ _ _ hsplit (by decide) (by decide +kernel)]
    have e9 : scan ("\r\n" : Str).cps.toList ("\r\n" : Str).cps.toList true true 0 (Str.mk (crlf false x.toList).toArray).cps.toList = dots true (crlf false x.toList) := scan_crlf x.toList false true
    rw [e9]
    k_steps
    rename_i kF kN _ _
    exact hret _ _ _ kF (cb_drop kN fun _ hp => .tail _ hp)
  · rw [hsplit]
    have := split_len (Str.mk (crlf false x.toList).toArray) "\r\n"
    unfold sizeLine; lia
theorem hand_claim2 {w : World} {mean : ExcName → Option Value} {mg mb : Str → Option Value} {news} {x : Array Nat} {tx th : Tok}
  {dp un : Nat} {gd : Option (List Code)} {cn : Str} {cs : Scope} {a : Addr} {ccd : Value} {cl : List (Str × Addr)} {outer : List Env} {A₀ : Around} {base h₀ : Heap} {L : Addr} {m : Str → Option Value} {s : Shared} {Q E : Value → Shared → Prop}
  (B : Below A₀ base outer h₀) (F : Fr h₀ L s.heap m) (X : (hd.heap_39 w.params).In h₀) (N : News h₀ L s.heap news) (T : Top hd.view_39 loose mean mg mb h₀) (hk : cs.kind = .function)
  (hdp : dp + 5 < recursionLimit) (hun : un + 200 < cLine) (hx : x.size ≤ 100)
  (hret : ∀ (t : Tok) (h' : Heap) (tk' : Nat), Fr h₀ L h' m → News h₀ L h' news → Q (.str ⟨(dots true x.toList).toArray⟩ t) { s with heap := h', toks := tk' }) :
  wpAny (model PySem.Challenge.pw_ta0009_01 w) (ktrTop dp un gd cn cs L a ccd cl outer) (call (.ref 107) [.str ⟨x⟩ tx, .int 2 th]) Q E s := by
  refine wpAny_call ?_
  k_dflt (refine' enter_defT [("text", .str ⟨x⟩ tx), ("hand", .int 2 th)] B F X N T ?kA ?kF ?kK ?k6 ?k7 ?k8 ?k9 ?kB ?c2 ?c3 ?c4 ?c5 ?ne ?_; (case ne => exact fun h => nomatch h); walk_at "ENTER")
  intro g' L' h1 tk0 htk0 FG F1 N1 B1 X1 T1
  dsimp only [List.reverse, List.reverseAux] at F1
  try dsimp only
  k_fold
  have hxl : (Str.mk x).length ≤ 100 := hx
  have hl3 : (Str.mk x).length ≤ 200 := by lia
  k_steps
  rename_i l h6 k6 hsplit hstrs hlen hlist F6 N6
  refine Hold.mk ?_
  refine srcC_listDW (K := ItemKind.str) (pz := fun _ => true) (d := fun a => .str (dotS a)) rfl hlist hstrs.areOf F6 N6 ?_ ?_ ?_ ?_
  · intro C a v s₂ m₂ E' _ _ _ _ _
    rw [List.forIn_nil]
    exact wpAny_pure ⟨rfl, s₂.heap, s₂.toks, rfl, fun _ _ e => e⟩
  · clear F6 N6 hlist
    rintro C a v ⟨h7, g7, d7, tk7, o7⟩ m₂ E' ha ⟨t, rfl⟩ _ hns hx7 htk7
    have hal2 : a.length ≤ 200 := by have := hlen a ha; lia
    have hal : a.length ≤ sizeLine := by unfold sizeLine; lia
    k_steps
    refine' slice_K (s := ⟨_, _, _, _, _⟩) ?h ?hs ?ht hal
    case hs => with_unfolding_all rfl
    case ht => intro _; with_unfolding_all rfl
    intro hK tK kK kpK
    have nsK := ns_keep hns kpK
    have kp7 : ∀ b o, h7.get? b = some o → hK.get? b = some o := kpK
    k_steps
    · rename_i hy1 _ _ _
      rw [dotS_yes a hy1]; exact .str _ _
    · exact ⟨_, _, rfl, kp7⟩
    · rename_i hy1
      have := dotS_no a hy1
      rw [← this]; exact .str _ _
    · exact ⟨_, _, rfl, kp7⟩
  · intro D ys h7 tk7 F7 N7 hD hlD hnp hcar
    rw [List.filter_eq_self.mpr (fun _ _ => rfl)] at hcar
    rw [show List.map (fun a => PyData.str (dotS a)) (List.map (fun x => x.1) l) = (((l.map (·.1)).map dotS)).map PyData.str by simp] at hcar
    obtain ⟨l2, rfl, e2⟩ := carried_strs hcar
    k_steps
    refine Hold.mk ?_
    refine' SC.join ?hl e2 ?hj ?_
    case hl => exact hlD
    case hj => exact join_ok _ _ _ hsplit hl3 (by decide) hlen
    intro t8 k8
    rw [dotS_join _ _ _ hsplit (by decide) (by decide +kernel)]
    have e9 : scan ("\n" : Str).cps.toList ("\n" : Str).cps.toList true true 0 (Str.mk x).cps.toList = dots true x.toList := scan_lf x.toList true
    rw [e9]
    k_steps
    rename_i kF kN _ _
    exact hret _ _ _ kF (cb_drop kN fun _ hp => .tail _ hp)
  · rw [hsplit]
    have := split_len (Str.mk x) "\n"
    unfold sizeLine; lia
end Mine
end V4
section R9
open PySem PySem.W PyProof.Rows PySem.Calls PySem.Spec PyProof.V PySem.SeqAt
set_option pp.structureInstances false
set_option maxRecDepth 100000
set_option maxHeartbeats 8000000
namespace Mine
local macro_rules | `(tactic| walk_at "ENTER") => `(tactic| ((case kA => exact rfl); (case kF => exact rfl); (case kK => assumption); (case k6 => k_is); (case k7 => k_is); (case k8 => ktr_room); (case k9 => exact BindsTo.of_eq rfl); (case c5 => decide); (case kB => exact locs rfl); (case c2 => exact rfl); (case c3 => exact rfl); (case c4 => exact rfl)))
theorem rfl_bytes (t : Tok) : Value.bytes #[46, 46] t = mkT true #[46, 46] t := by
  unfold mkT
  rw [if_pos rfl, show (#[46, 46] : Array Nat).map Nat.toUInt8 = #[46, 46] by decide +kernel]
theorem pat3 {w : World} {h : Heap} (X : (hd.heap_39 w.params).In h) : PatAt h false 53 c3 := by
  have h53 := X 53 _ (by k_is)
  have h52 := X 52 _ (by k_is)
  exact ⟨⟨_, _, 52, _, _, _, h53, rfl, rfl, rfl, rfl, rfl, rfl, h52, rfl, by decide +kernel⟩⟩
theorem pat2 {w : World} {h : Heap} (X : (hd.heap_39 w.params).In h) : PatAt h true 48 c1 := by
  have h48 := X 48 _ (by k_is)
  have h47 := X 47 _ (by k_is)
  exact ⟨⟨_, _, 47, _, _, _, h48, rfl, rfl, rfl, rfl, rfl, rfl, h47, rfl, by decide +kernel⟩⟩
theorem pat1 {w : World} {h : Heap} (X : (hd.heap_39 w.params).In h) : PatAt h false 43 c1 := by
  have h43 := X 43 _ (by k_is)
  have h42 := X 42 _ (by k_is)
  exact ⟨⟨_, _, 42, _, _, _, h43, rfl, rfl, rfl, rfl, rfl, rfl, h42, rfl, by decide +kernel⟩⟩
theorem fix_claim {w : World} {mean : ExcName → Option Value} {mg mb : Str → Option Value} {news} {x : Array Nat} {tx : Tok}
  {dp un : Nat} {gd : Option (List Code)} {cn : Str} {cs : Scope} {a : Addr} {ccd : Value} {cl : List (Str × Addr)} {outer : List Env} {A₀ : Around} {base h₀ : Heap} {L : Addr} {m : Str → Option Value} {s : Shared} {Q E : Value → Shared → Prop}
  (B : Below A₀ base outer h₀) (F : Fr h₀ L s.heap m) (X : (hd.heap_39 w.params).In h₀) (N : News h₀ L s.heap news) (T : Top hd.view_39 loose mean mg mb h₀) (hk : cs.kind = .function)
  (hdp : dp + 5 < recursionLimit) (hun : un + 200 < cLine) (hx : x.size ≤ 1000)
  (hret : ∀ (t : Tok) (h' : Heap) (tk' : Nat), Fr h₀ L h' m → News h₀ L h' news → Q (mkT false (crlf false x.toList).toArray t) { s with heap := h', toks := tk' }) :
  wpAny (model PySem.Challenge.pw_ta0009_01 w) (ktrTop dp un gd cn cs L a ccd cl outer) (call (.ref 74) [mkT false x tx]) Q E s := by
  refine wpAny_call ?_
  k_dflt (refine' enter_def [("data", mkT false x tx)] B F X N T ?kA ?kF ?kK ?k6 ?k7 ?k8 ?k9 ?kB ?c2 ?c3 ?c4 ?c5 ?_; walk_at "ENTER")
  intro g' L' h1 tk0 FG F1 N1 B1 X1 T1
  dsimp only [List.reverse, List.reverseAux] at F1
  try dsimp only
  k_fold
  k_steps
  have P : ∀ h, Fr g' L' h (kstB (fun _ => none) [("data", mkT false x tx)]) → PatAt h false 53 c3 := fun h F => (pat3 X1).keeps F.keep
  refine getMethod_builtin (P _ F1).typeIs plainAttrs_re slot_re_sub type_re_sub (P _ F1).noDict ?_
  k_steps
  refine sub_call (k := false) (r := #[13, 10]) F1 N1 P (finds3 x) (by intro h; cases h) (by intro h; cases h) (by decide) (by omega) (by rw [out3_all]; have := crlf_len x.toList false; simp at this; omega) (fun t tk h' F' N' => ?_)
  rw [out3_all]
  k_steps
  rename_i kF kN _ _
  exact hret _ _ _ kF kN
theorem quote_claim {w : World} {mean : ExcName → Option Value} {mg mb : Str → Option Value} {news} {x : Array Nat} {tx : Tok}
  {dp un : Nat} {gd : Option (List Code)} {cn : Str} {cs : Scope} {a : Addr} {ccd : Value} {cl : List (Str × Addr)} {outer : List Env} {A₀ : Around} {base h₀ : Heap} {L : Addr} {m : Str → Option Value} {s : Shared} {Q E : Value → Shared → Prop}
  (B : Below A₀ base outer h₀) (F : Fr h₀ L s.heap m) (X : (hd.heap_39 w.params).In h₀) (N : News h₀ L s.heap news) (T : Top hd.view_39 loose mean mg mb h₀) (hk : cs.kind = .function)
  (hdp : dp + 5 < recursionLimit) (hun : un + 200 < cLine) (hx : x.size ≤ 1000) (hlow : low true x)
  (hret : ∀ (t : Tok) (h' : Heap) (tk' : Nat), Fr h₀ L h' m → News h₀ L h' news → Q (mkT true (dots true x.toList).toArray t) { s with heap := h', toks := tk' }) :
  wpAny (model PySem.Challenge.pw_ta0009_01 w) (ktrTop dp un gd cn cs L a ccd cl outer) (call (.ref 67) [mkT true x tx]) Q E s := by
  refine wpAny_call ?_
  k_dflt (refine' enter_def [("bindata", mkT true x tx)] B F X N T ?kA ?kF ?kK ?k6 ?k7 ?k8 ?k9 ?kB ?c2 ?c3 ?c4 ?c5 ?_; walk_at "ENTER")
  intro g' L' h1 tk0 FG F1 N1 B1 X1 T1
  dsimp only [List.reverse, List.reverseAux] at F1
  try dsimp only
  k_fold
  k_steps
  have P : ∀ h, Fr g' L' h (kstB (fun _ => none) [("bindata", mkT true x tx)]) → PatAt h true 48 c1 := fun h F => (pat2 X1).keeps F.keep
  refine getMethod_builtin (P _ F1).typeIs plainAttrs_re slot_re_sub type_re_sub (P _ F1).noDict ?_
  k_steps
  rw [show Value.bytes #[46, 46] tk0 = mkT true #[46, 46] tk0 from rfl_bytes tk0]
  refine sub_call (k := true) (r := #[46, 46]) F1 N1 P (finds1 x (by omega)) hlow (by intro _; decide) (by decide) (by omega) (by rw [out1_all]; have := dots_len x.toList true; simp at this; omega) (fun t tk h' F' N' => ?_)
  rw [out1_all]
  k_steps
  rename_i kF kN _ _
  exact hret _ _ _ kF kN
theorem data_claim {w : World} {mean : ExcName → Option Value} {mg mb : Str → Option Value} {news} {x : Array Nat} {tx : Tok}
  {dp un : Nat} {gd : Option (List Code)} {cn : Str} {cs : Scope} {a : Addr} {ccd : Value} {cl : List (Str × Addr)} {outer : List Env} {A₀ : Around} {base h₀ : Heap} {L : Addr} {m : Str → Option Value} {s : Shared} {Q E : Value → Shared → Prop}
  (B : Below A₀ base outer h₀) (F : Fr h₀ L s.heap m) (X : (hd.heap_39 w.params).In h₀) (N : News h₀ L s.heap news) (T : Top hd.view_39 loose mean mg mb h₀) (hk : cs.kind = .function)
  (hdp : dp + 5 < recursionLimit) (hun : un + 200 < cLine) (hx : x.size ≤ 1000)
  (hret : ∀ (t : Tok) (h' : Heap) (tk' : Nat), Fr h₀ L h' m → News h₀ L h' news → Q (mkT false (dots true (crlf false x.toList)).toArray t) { s with heap := h', toks := tk' }) :
  wpAny (model PySem.Challenge.pw_ta0009_01 w) (ktrTop dp un gd cn cs L a ccd cl outer) (call (.ref 60) [mkT false x tx]) Q E s := by
  refine wpAny_call ?_
  k_dflt (refine' enter_def [("data", mkT false x tx)] B F X N T ?kA ?kF ?kK ?k6 ?k7 ?k8 ?k9 ?kB ?c2 ?c3 ?c4 ?c5 ?_; walk_at "ENTER")
  intro g' L' h1 tk0 FG F1 N1 B1 X1 T1
  dsimp only [List.reverse, List.reverseAux] at F1
  try dsimp only
  k_fold
  k_steps
  have P1 : ∀ h, Fr g' L' h (kstB (fun _ => none) [("data", mkT false x tx)]) → PatAt h false 43 c1 := fun h F => (pat1 X1).keeps F.keep
  have P : ∀ h, Fr g' L' h (kstB (fun _ => none) [("data", mkT false x tx)]) → PatAt h false 53 c3 := fun h F => (pat3 X1).keeps F.keep
  refine getMethod_builtin (P1 _ F1).typeIs plainAttrs_re slot_re_sub type_re_sub (P1 _ F1).noDict ?_
  k_steps
  refine getMethod_builtin (P _ F1).typeIs plainAttrs_re slot_re_sub type_re_sub (P _ F1).noDict ?_
  k_steps
  refine sub_call (k := false) (r := #[13, 10]) F1 N1 P (finds3 x) (by intro h; cases h) (by intro h; cases h) (by decide) (by omega) (by rw [out3_all]; have := crlf_len x.toList false; simp at this; omega) (fun t tk h' F' N' => ?_)
  rw [out3_all]
  k_steps
  have hl := crlf_len x.toList false
  refine sub_call (k := false) (r := #[46, 46]) F' N' P1 (finds1 (crlf false x.toList).toArray (by simp at hl ⊢; omega)) (by intro h; cases h) (by intro h; cases h) (by decide) (by simp at hl ⊢; omega) (by rw [out1_all]; have := dots_len (crlf false x.toList) true; simp at this hl ⊢; omega) (fun t tk h' F' N' => ?_)
  rw [out1_all]
  k_steps
  rename_i kF kN _ _
  exact hret _ _ _ kF kN
end Mine
end R9
section V5
open PySem PySem.W PyProof.Rows PySem.Calls PySem.Spec PyProof.V PySem.SeqAt
set_option pp.structureInstances false
set_option maxRecDepth 100000
set_option maxHeartbeats 8000000
namespace Mine
local macro_rules | `(tactic| walk_at "ENTER") => `(tactic| ((case kA => exact rfl); (case kF => exact rfl); (case kK => assumption); (case k6 => k_is); (case k7 => k_is); (case k8 => ktr_room); (case k9 => exact BindsTo.of_eq rfl); (case c5 => decide); (case kB => exact locs rfl); (case c2 => exact rfl); (case c3 => exact rfl); (case c4 => exact rfl)))

theorem mkT_true (x : Array Nat) (t : Tok) : mkT true x t = Value.bytes (x.map Nat.toUInt8) t := rfl
theorem join_sgs (l : List Nat) : Txt.join "" (l.map sg) = ⟨l.toArray⟩ := by
  have h : (l.map sg) = (l.map fun c => (#[c] : Array Nat)).map Str.mk := by rw [List.map_map]; rfl
  rw [h]
  refine (join_cat _).trans ?_
  congr 1
  unfold catA
  rw [List.map_map]
  have : ∀ l : List Nat, (l.map ((fun x : Array Nat => x.toList) ∘ fun c => (#[c] : Array Nat))).flatten = l := by
    intro l
    induction l with
    | nil => rfl
    | cons c l ih => rw [List.map_cons, List.flatten_cons, ih]; rfl
  rw [this]
theorem dots_mem : ∀ (l : List Nat) (b : Bool) (c : Nat), c ∈ dots b l → c ∈ l ∨ c = 46 := by
  intro l
  induction l with
  | nil => intro b c h; simp [dots] at h
  | cons a l ih =>
    intro b c h
    unfold dots at h
    split at h
    · simp only [List.mem_cons] at h
      rcases h with h | h | h
      · exact .inr h
      · exact .inr h
      · exact (ih _ _ h).imp (.tail _) (fun x => x)
    · simp only [List.mem_cons] at h
      rcases h with h | h
      · exact .inl (h ▸ .head _)
      · exact (ih _ _ h).imp (.tail _) (fun x => x)
theorem back_low (l : List Nat) (h : ∀ c ∈ l, c < 256) : (l.toArray.map Nat.toUInt8).toList.map UInt8.toNat = l := by
  have := congrArg Array.toList (low_map l.toArray (by simpa using h))
  simpa using this
theorem join_sgs_ok (l : List Nat) (h : l.length ≤ 1000) : JoinOk "" (l.map sg) = true := by
  unfold JoinOk
  have h1 : ∀ (l : List Nat) (n : Nat), (l.map sg).foldl (fun x1 x2 => x1 + x2.length + ("" : Str).length) n = n + l.length := by
    intro l
    induction l with
    | nil => intro n; rfl
    | cons c l ih =>
      intro n
      rw [List.map_cons, List.foldl_cons, ih]
      show n + 1 + 0 + l.length = _
      simp; lia
  rw [List.foldl_toArray, h1]
  unfold Builtin.Str.tooLong sizeLine
  simp only [Bool.not_eq_true', decide_eq_false_iff_not]
  lia
local macro_rules | `(tactic| walk_at "call ref") => `(tactic| first | (k_dflt (refine' fix_claim ?B ?F ?X ?N ?T ?hk ?hdp ?hun ?hx ?_; (case B => assumption); (case F => assumption); (case X => assumption); (case N => assumption); (case T => assumption); (case hk => rfl); (case hdp => (dsimp only [Around.deeper, ktrTop]; omega)); (case hun => (dsimp only [Around.deeper, ktrTop]; omega)); (case hx => assumption); intro t' h' tk' F' N'; (try dsimp only))) | (k_dflt (refine' data_claim ?B ?F ?X ?N ?T ?hk ?hdp ?hun ?hx ?_; (case B => assumption); (case F => assumption); (case X => assumption); (case N => assumption); (case T => assumption); (case hk => rfl); (case hdp => (dsimp only [Around.deeper, ktrTop]; omega)); (case hun => (dsimp only [Around.deeper, ktrTop]; omega)); (case hx => assumption); intro t' h' tk' F' N'; (try dsimp only))) | (k_dflt (refine' quote_claim ?B ?F ?X ?N ?T ?hk ?hdp ?hun ?hx ?hlow ?_; (case B => assumption); (case F => assumption); (case X => assumption); (case N => assumption); (case T => assumption); (case hk => rfl); (case hdp => (dsimp only [Around.deeper, ktrTop]; omega)); (case hun => (dsimp only [Around.deeper, ktrTop]; omega)); (case hx => assumption); (case hlow => assumption); intro t' h' tk' F' N'; (try dsimp only); (try rw [mkT_true]))))
local macro_rules | `(tactic| walk_at "eval ListComp") => `(tactic| ((with_reducible apply ListComp_rowsP); (case hfree => decide); (case hcell => decide); (case hkind => with_unfolding_all rfl); (case hnames => decide); (case hx => with_unfolding_all rfl); (case hs => intro _; with_unfolding_all rfl)))
local macro_rules | `(tactic| walk_at "pyIter str") => `(tactic| refine Hold.out ?_)
local macro_rules | `(tactic| walk_at "pyIter bytes") => `(tactic| refine Hold.out ?_)
local macro_rules | `(tactic| walk_at "pyIter ref") => `(tactic| refine Hold.out ?_)
local macro_rules | `(tactic| walk_at "call builtin:str.join") => `(tactic| refine Hold.out ?_)
local macro_rules | `(tactic| walk_at "eval Name") => `(tactic| (k_inBlock; (with_reducible rename Fr _ _ _ _ => kF); k_dflt (refine' nameB kF ?k1 ?k2 ?k3 ?k8 ?k9 ?_ ?k4 ?k10 ?k5 ?k6 ?k7; (case k4 => rfl); (case k10 => rfl); (case k5 => rfl); (case k6 => rfl); (case k7 => decide); (case k1 => assumption); (case k2 => assumption); (case k3 => k_is); (case k8 => rfl); (case k9 => decide)); (try dsimp only)))
theorem bytes_mk (x : Array Nat) (t : Tok) : Value.bytes ((x.toList.map fun c : Nat => (c : Int)).map fun n => n.toNat.toUInt8).toArray t = mkT true x t := by
  show _ = Value.bytes (x.map Nat.toUInt8) t
  congr 1
  apply Array.toList_inj.mp
  simp [List.map_map, Function.comp_def]
theorem done_claim0 {w : World} {mean : ExcName → Option Value} {mg mb : Str → Option Value} {news} {x : Array Nat} {tx th : Tok}
  {dp un : Nat} {gd : Option (List Code)} {cn : Str} {cs : Scope} {a : Addr} {ccd : Value} {cl : List (Str × Addr)} {outer : List Env} {A₀ : Around} {base h₀ : Heap} {L : Addr} {m : Str → Option Value} {s : Shared} {Q E : Value → Shared → Prop}
  (B : Below A₀ base outer h₀) (F : Fr h₀ L s.heap m) (X : (hd.heap_39 w.params).In h₀) (N : News h₀ L s.heap news) (T : Top hd.view_39 loose mean mg mb h₀) (hk : cs.kind = .function)
  (hdp : dp + 10 < recursionLimit) (hun : un + 400 < cLine) (hx : x.size ≤ 100)
  (hret : ∀ (t : Tok) (h' : Heap) (tk' : Nat), Fr h₀ L h' m → News h₀ L h' news → Q (.str ⟨(crlf false x.toList).toArray⟩ t) { s with heap := h', toks := tk' }) :
  wpAny (model PySem.Challenge.pw_ta0009_01 w) (ktrTop dp un gd cn cs L a ccd cl outer) (call (.ref 112) [.str ⟨x⟩ tx, .int 0 th]) Q E s := by
  refine wpAny_call ?_
  k_dflt (refine' enter_def [("text", .str ⟨x⟩ tx), ("hand", .int 0 th)] B F X N T ?kA ?kF ?kK ?k6 ?k7 ?k8 ?k9 ?kB ?c2 ?c3 ?c4 ?c5 ?_; walk_at "ENTER")
  intro g' L' h1 tk0 FG F1 N1 B1 X1 T1
  dsimp only [List.reverse, List.reverseAux] at F1
  try dsimp only
  k_fold
  have hx1 : x.size ≤ 1000 := by lia
  have hxl : (Str.mk x).length ≤ 100 := hx
  k_steps
  rename_i kF kN _ _
  exact hret _ _ _ kF kN
theorem done_claim1 {w : World} {mean : ExcName → Option Value} {mg mb : Str → Option Value} {news} {x : Array Nat} {tx th : Tok}
  {dp un : Nat} {gd : Option (List Code)} {cn : Str} {cs : Scope} {a : Addr} {ccd : Value} {cl : List (Str × Addr)} {outer : List Env} {A₀ : Around} {base h₀ : Heap} {L : Addr} {m : Str → Option Value} {s : Shared} {Q E : Value → Shared → Prop}
  (B : Below A₀ base outer h₀) (F : Fr h₀ L s.heap m) (X : (hd.heap_39 w.params).In h₀) (N : News h₀ L s.heap news) (T : Top hd.view_39 loose mean mg mb h₀) (hk : cs.kind = .function)
  (hdp : dp + 10 < recursionLimit) (hun : un + 400 < cLine) (hx : x.size ≤ 100)
  (hret : ∀ (t : Tok) (h' : Heap) (tk' : Nat), Fr h₀ L h' m → News h₀ L h' news → Q (.str ⟨(dots true (crlf false x.toList)).toArray⟩ t) { s with heap := h', toks := tk' }) :
  wpAny (model PySem.Challenge.pw_ta0009_01 w) (ktrTop dp un gd cn cs L a ccd cl outer) (call (.ref 112) [.str ⟨x⟩ tx, .int 1 th]) Q E s := by
  refine wpAny_call ?_
  k_dflt (refine' enter_def [("text", .str ⟨x⟩ tx), ("hand", .int 1 th)] B F X N T ?kA ?kF ?kK ?k6 ?k7 ?k8 ?k9 ?kB ?c2 ?c3 ?c4 ?c5 ?_; walk_at "ENTER")
  intro g' L' h1 tk0 FG F1 N1 B1 X1 T1
  dsimp only [List.reverse, List.reverseAux] at F1
  try dsimp only
  k_fold
  have hx1 : x.size ≤ 1000 := by lia
  have hxl : (Str.mk x).length ≤ 100 := hx
  k_steps
  rename_i kF kN _ _
  exact hret _ _ _ kF kN
theorem done_claim2 {w : World} {mean : ExcName → Option Value} {mg mb : Str → Option Value} {news} {x : Array Nat} {tx th : Tok}
  {dp un : Nat} {gd : Option (List Code)} {cn : Str} {cs : Scope} {a : Addr} {ccd : Value} {cl : List (Str × Addr)} {outer : List Env} {A₀ : Around} {base h₀ : Heap} {L : Addr} {m : Str → Option Value} {s : Shared} {Q E : Value → Shared → Prop}
  (B : Below A₀ base outer h₀) (F : Fr h₀ L s.heap m) (X : (hd.heap_39 w.params).In h₀) (N : News h₀ L s.heap news) (T : Top hd.view_39 loose mean mg mb h₀) (hk : cs.kind = .function)
  (hdp : dp + 10 < recursionLimit) (hun : un + 400 < cLine) (hx : x.size ≤ 100) (hlow : low true x)
  (hret : ∀ (t : Tok) (h' : Heap) (tk' : Nat), Fr h₀ L h' m → News h₀ L h' news → Q (.str ⟨(dots true x.toList).toArray⟩ t) { s with heap := h', toks := tk' }) :
  wpAny (model PySem.Challenge.pw_ta0009_01 w) (ktrTop dp un gd cn cs L a ccd cl outer) (call (.ref 112) [.str ⟨x⟩ tx, .int 2 th]) Q E s := by
  refine wpAny_call ?_
  k_dflt (refine' enter_def [("text", .str ⟨x⟩ tx), ("hand", .int 2 th)] B F X N T ?kA ?kF ?kK ?k6 ?k7 ?k8 ?k9 ?kB ?c2 ?c3 ?c4 ?c5 ?_; walk_at "ENTER")
  intro g' L' h1 tk0 FG F1 N1 B1 X1 T1
  dsimp only [List.reverse, List.reverseAux] at F1
  try dsimp only
  k_fold
  have hx1 : x.size ≤ 1000 := by lia
  have hxl : (Str.mk x).length ≤ 100 := hx
  k_steps
  refine Hold.mk ?_
  refine src_str (d := fun c => .int c) rfl F1 N1 ?_ ?_ (by unfold sizeLine; lia)
  · rintro C c v ⟨h7, g7, d7, tk7, o7⟩ m₂ E' hc ⟨t, rfl⟩ hns hx7 htk7 hk7
    k_steps
    · exact .int _ _
    · exact ⟨_, _, rfl, fun _ _ e => e⟩
  · intro D ys h7 tk7 F7 N7 hD hlD hnp hcar
    have hyl : ys.length ≤ 100 := by rw [hcar.length_eq]; simpa using hx
    k_steps
    refine' bytes_K (ns := x.toList.map fun c : Nat => (c : Int)) F7 N7 ?hl ?hi ?hr ?hz ?hh ?_
    case hl => exact hlD
    case hi => exact hcar.intsOf
    case hr =>
      intro n hn
      obtain ⟨c, hc, rfl⟩ := List.mem_map.mp hn
      have := hlow rfl c hc
      lia
    case hz => unfold sizeLine; lia
    case hh => rfl
    intro h8 t8 k8 F8 N8 _
    rw [show Value.bytes ((x.toList.map fun c : Nat => (c : Int)).map fun n => n.toNat.toUInt8).toArray t8 = mkT true x t8 from bytes_mk x t8]
    have hdl := dots_len x.toList true
    have hdl2 : (dots true x.toList).length ≤ 200 := by simp at hdl; lia
    k_steps
    rename_i h9 F9 N9 _
    refine Hold.mk ?_
    have hdlow : ∀ c ∈ dots true x.toList, c < 256 := fun c hc => (dots_mem _ _ _ hc).elim (hlow rfl c) (fun e => by lia)
    refine src_bytes (d := fun c => .str (sg c)) rfl F9 N9 ?_ ?_ (by simp; unfold sizeLine; lia)
    · rintro C c v ⟨ha, ga, da, tka, oa⟩ m₂ E' hc ⟨t, rfl⟩ hns hxa htka hka
      rw [back_low _ hdlow] at hc
      have hc2 := hdlow c hc
      k_steps
      · exact .str _ _
      · exact ⟨_, _, rfl, fun _ _ e => e⟩
    · intro D2 ys2 hb tkb Fb Nb hD2 hlD2 hnp2 hcar2
      rw [back_low _ hdlow, show List.map (fun c => PyData.str (sg c)) (dots true x.toList) = ((dots true x.toList).map sg).map PyData.str by simp] at hcar2
      obtain ⟨l2, rfl, e2⟩ := carried_strs hcar2
      k_steps
      refine Hold.mk ?_
      refine' SC.join ?hl e2 ?hj ?_
      case hl => exact hlD2
      case hj => exact join_sgs_ok _ (by lia)
      intro t8 k8
      rw [join_sgs]
      k_steps
      rename_i kF kN _ _
      exact hret _ _ _ kF (cb_drop kN fun _ hp => .tail _ hp)
end Mine
end V5
section P0
open PySem PySem.W PyProof.Rows
namespace Mine
section
variable {α : Type} (c : α → α → Int)
noncomputable def levGo (x : α) (n : Nat) (f : List α → Int) : List α → Int
  | [] => 2 * ((n : Int) + 1)
  | y :: b => min (min (f (y :: b)) (levGo x n f b) + 2) (f b + c x y)
noncomputable def lev : List α → List α → Int
  | [] => fun b => 2 * (b.length : Int)
  | x :: a => levGo c x a.length (lev a)
theorem lev_nil (b : List α) : lev c [] b = 2 * (b.length : Int) := rfl
theorem lev_nil' (a : List α) : lev c a [] = 2 * (a.length : Int) := by
  cases a with
  | nil => rfl
  | cons x a => show 2 * ((a.length : Int) + 1) = _; simp
theorem lev_cons (x y : α) (a b : List α) : lev c (x :: a) (y :: b) = min (min (lev c a (y :: b)) (lev c (x :: a) b) + 2) (lev c a b + c x y) := rfl
/-- an edit script of cost n -/
inductive Ed : Int → List α → List α → Prop
  | nil : Ed 0 [] []
  | del {n a b} (x : α) : Ed n a b → Ed (n + 2) (x :: a) b
  | ins {n a b} (y : α) : Ed n a b → Ed (n + 2) a (y :: b)
  | sub {n a b} (x y : α) : Ed n a b → Ed (n + c x y) (x :: a) (y :: b)
variable {c}
theorem ed_ins_all (b : List α) : Ed c (2 * (b.length : Int)) [] b := by
  induction b with
  | nil => exact .nil
  | cons y b ih =>
    have := Ed.ins (c := c) y ih
    have e : 2 * (((y :: b).length : Nat) : Int) = 2 * (b.length : Int) + 2 := by simp; omega
    rw [e]; exact this
theorem ed_del_all (a : List α) : Ed c (2 * (a.length : Int)) a [] := by
  induction a with
  | nil => exact .nil
  | cons y b ih =>
    have := Ed.del (c := c) y ih
    have e : 2 * (((y :: b).length : Nat) : Int) = 2 * (b.length : Int) + 2 := by simp; omega
    rw [e]; exact this
theorem ed_lev (a b : List α) : Ed c (lev c a b) a b := by
  induction a generalizing b with
  | nil => exact ed_ins_all b
  | cons x a ih =>
    induction b with
    | nil => rw [lev_nil']; exact ed_del_all _
    | cons y b ihb =>
      rw [lev_cons]
      have h1 := Ed.del x (ih (y :: b))
      have h2 := Ed.ins y ihb
      have h3 := Ed.sub x y (ih b)
      rcases Int.le_total (min (lev c a (y :: b)) (lev c (x :: a) b) + 2) (lev c a b + c x y) with h | h
      · rw [Int.min_eq_left h]
        rcases Int.le_total (lev c a (y :: b)) (lev c (x :: a) b) with g | g
        · rw [Int.min_eq_left g]; exact h1
        · rw [Int.min_eq_right g]; exact h2
      · rw [Int.min_eq_right h]; exact h3
/-- Lipschitz in both arguments -/
theorem lev_lip (hc0 : ∀ x y, 0 ≤ c x y) (a b : List α) : (∀ x, lev c a b ≤ lev c (x :: a) b + 2) ∧ (∀ y, lev c a b ≤ lev c a (y :: b) + 2) := by
  induction a generalizing b with
  | nil =>
    refine ⟨fun x => ?_, fun y => ?_⟩
    · induction b with
      | nil => rw [lev_nil, lev_nil']; simp
      | cons y b ih =>
        simp only [lev_cons, lev_nil] at ih ⊢
        have := hc0 x y
        simp only [List.length_cons]
        omega
    · rw [lev_nil, lev_nil]; simp only [List.length_cons]; omega
  | cons z a ih =>
    induction b with
    | nil =>
      refine ⟨fun x => ?_, fun y => ?_⟩
      · rw [lev_nil', lev_nil']; simp only [List.length_cons]; omega
      · rw [lev_cons, lev_nil', lev_nil']
        have := (ih [y]).2
        have h1 := (ih []).2 y
        rw [lev_nil'] at h1
        have := hc0 z y
        simp only [List.length_cons]
        omega
    | cons w b ihb =>
      refine ⟨fun x => ?_, fun y => ?_⟩
      · rw [lev_cons c x w]
        have h1 := (ihb).1 x
        have h2 := (ih b).1 z
        have h3 := (ihb).2 w
        have h4 := hc0 x w
        have h5 := lev_cons c z w a b
        omega
      · rw [lev_cons c z y]
        have h1 := (ih (w :: b)).2 y
        have h2 := lev_cons c z w a b
        have h3 := (ih b).2 w
        have h4 := hc0 z y
        omega
theorem lev_trim1 (hc0 : ∀ x y, 0 ≤ c x y) (hcx : ∀ x, c x x = 0) (x : α) (a b : List α) : lev c (x :: a) (x :: b) = lev c a b := by
  rw [lev_cons, hcx]
  have h1 := (lev_lip hc0 a b).2 x
  have h2 := (lev_lip hc0 a b).1 x
  omega
theorem lev_le_ed (hc0 : ∀ x y, 0 ≤ c x y) {n : Int} {a b : List α} (h : Ed c n a b) : lev c a b ≤ n := by
  induction h with
  | nil => exact Int.le_refl _
  | @del n a b x _ ih =>
    cases b with
    | nil => rw [lev_nil'] at ih ⊢; simp only [List.length_cons]; omega
    | cons y b => rw [lev_cons]; omega
  | @ins n a b y _ ih =>
    cases a with
    | nil => rw [lev_nil] at ih ⊢; simp only [List.length_cons]; omega
    | cons x a => rw [lev_cons]; omega
  | sub x y _ ih => rw [lev_cons]; omega
theorem Ed.append {m n : Int} {a b a' b' : List α} (h : Ed c m a b) (h' : Ed c n a' b') : Ed c (m + n) (a ++ a') (b ++ b') := by
  induction h with
  | nil => simpa using h'
  | @del k a b x _ ih => have := Ed.del x ih; rw [show k + 2 + n = k + n + 2 by omega]; exact this
  | @ins k a b x _ ih => have := Ed.ins x ih; rw [show k + 2 + n = k + n + 2 by omega]; exact this
  | @sub k a b x y _ ih => have := Ed.sub x y ih; rw [show k + c x y + n = k + n + c x y by omega]; exact this
theorem Ed.rev {m : Int} {a b : List α} (h : Ed c m a b) : Ed c m a.reverse b.reverse := by
  induction h with
  | nil => exact .nil
  | del x _ ih => rw [List.reverse_cons]; have := ih.append (Ed.del x .nil); simpa using this
  | ins x _ ih => rw [List.reverse_cons]; have := ih.append (Ed.ins x .nil); simpa using this
  | sub x y _ ih => rw [List.reverse_cons, List.reverse_cons]; have := ih.append (Ed.sub x y .nil); simpa using this
theorem lev_rev (hc0 : ∀ x y, 0 ≤ c x y) (a b : List α) : lev c a.reverse b.reverse = lev c a b := by
  have h1 := lev_le_ed hc0 (ed_lev (c := c) a b).rev
  have h2 := lev_le_ed hc0 (ed_lev (c := c) a.reverse b.reverse).rev
  rw [List.reverse_reverse, List.reverse_reverse] at h2
  omega
theorem Ed.symm (hs : ∀ x y, c x y = c y x) {m : Int} {a b : List α} (h : Ed c m a b) : Ed c m b a := by
  induction h with
  | nil => exact .nil
  | del x _ ih => exact .ins x ih
  | ins x _ ih => exact .del x ih
  | sub x y _ ih => rw [hs]; exact .sub y x ih
theorem lev_symm (hc0 : ∀ x y, 0 ≤ c x y) (hs : ∀ x y, c x y = c y x) (a b : List α) : lev c a b = lev c b a := by
  have h1 := lev_le_ed hc0 ((ed_lev (c := c) a b).symm hs)
  have h2 := lev_le_ed hc0 ((ed_lev (c := c) b a).symm hs)
  omega
theorem lev_trimL (hc0 : ∀ x y, 0 ≤ c x y) (hcx : ∀ x, c x x = 0) (p a b : List α) : lev c (p ++ a) (p ++ b) = lev c a b := by
  induction p with
  | nil => rfl
  | cons x p ih => rw [List.cons_append, List.cons_append, lev_trim1 hc0 hcx, ih]
theorem lev_trimR (hc0 : ∀ x y, 0 ≤ c x y) (hcx : ∀ x, c x x = 0) (s a b : List α) : lev c (a ++ s) (b ++ s) = lev c a b := by
  rw [← lev_rev hc0, List.reverse_append, List.reverse_append, lev_trimL hc0 hcx, lev_rev hc0]
theorem lev_drop (hc0 : ∀ x y, 0 ≤ c x y) (hcx : ∀ x, c x x = 0) {a b : List α} {n : Nat} (h : a.take n = b.take n) : lev c (a.drop n) (b.drop n) = lev c a b := by
  have h1 := List.take_append_drop n a
  have h2 := List.take_append_drop n b
  rw [← lev_trimL hc0 hcx (a.take n), h1, h, h2]
theorem lev_take (hc0 : ∀ x y, 0 ≤ c x y) (hcx : ∀ x, c x x = 0) {a b : List α} {n : Nat} (h : a.drop (a.length - n) = b.drop (b.length - n)) : lev c (a.take (a.length - n)) (b.take (b.length - n)) = lev c a b := by
  have h1 := List.take_append_drop (a.length - n) a
  have h2 := List.take_append_drop (b.length - n) b
  rw [← lev_trimR hc0 hcx (a.drop (a.length - n)), h1, h, h2]
theorem lev_self (hc0 : ∀ x y, 0 ≤ c x y) (hcx : ∀ x, c x x = 0) (a : List α) : lev c a a = 0 := by
  have := lev_trimL hc0 hcx a [] []
  simpa [lev_nil] using this
/-- the distance is at least twice the difference of the lengths -/
theorem lev_len (hc0 : ∀ x y, 0 ≤ c x y) (a b : List α) : 2 * ((b.length : Int) - a.length) ≤ lev c a b := by
  have : ∀ n, Ed c n a b → 2 * ((b.length : Int) - a.length) ≤ n := by
    intro n h
    induction h with
    | nil => simp
    | del x _ ih => simp only [List.length_cons]; omega
    | ins x _ ih => simp only [List.length_cons]; omega
    | sub x y _ ih => have := hc0 x y; simp only [List.length_cons]; omega
  exact this _ (ed_lev a b)

/-- the table over prefixes -/
noncomputable def T (c : α → α → Int) (a b : List α) (i j : Nat) : Int := lev c (a.take i).reverse (b.take j).reverse
theorem T_left (a b : List α) (j : Nat) (h : j ≤ b.length) : T c a b 0 j = 2 * (j : Int) := by
  unfold T; rw [List.take_zero, List.reverse_nil, lev_nil, List.length_reverse, List.length_take, Nat.min_eq_left h]
theorem T_right (a b : List α) (i : Nat) (h : i ≤ a.length) : T c a b i 0 = 2 * (i : Int) := by
  unfold T; rw [List.take_zero, List.reverse_nil, lev_nil', List.length_reverse, List.length_take, Nat.min_eq_left h]
theorem take_rev {a : List α} {i : Nat} {x : α} (h : a[i]? = some x) : (a.take (i + 1)).reverse = x :: (a.take i).reverse := by
  rw [List.take_add_one, h]; simp
theorem T_succ {a b : List α} {i j : Nat} {x y : α} (hx : a[i]? = some x) (hy : b[j]? = some y) : T c a b (i + 1) (j + 1) = min (min (T c a b i (j + 1)) (T c a b (i + 1) j) + 2) (T c a b i j + c x y) := by
  unfold T; rw [take_rev hx, take_rev hy, lev_cons]
theorem T_full (hc0 : ∀ x y, 0 ≤ c x y) (a b : List α) : T c a b a.length b.length = lev c a b := by
  unfold T; rw [List.take_length, List.take_length, lev_rev hc0]
theorem T_row (hc0 : ∀ x y, 0 ≤ c x y) {a b : List α} {j : Nat} {M : Int} (hj : j < b.length) (h : ∀ k, k ≤ a.length → M ≤ T c a b k j) : ∀ k, k ≤ a.length → M ≤ T c a b k (j + 1) := by
  intro k
  induction k with
  | zero =>
    intro _
    have := h 0 (Nat.zero_le _)
    rw [T_left _ _ _ (by omega)] at this ⊢
    omega
  | succ k ih =>
    intro hk
    have h1 := ih (by omega)
    have h2 := h (k + 1) hk
    have h3 := h k (by omega)
    rw [T_succ (List.getElem?_eq_getElem (by omega)) (List.getElem?_eq_getElem hj)]
    have := hc0 a[k] b[j]
    omega
theorem T_min (hc0 : ∀ x y, 0 ≤ c x y) {a b : List α} {j : Nat} {M : Int} (hj : j ≤ b.length) (h : ∀ k, k ≤ a.length → M ≤ T c a b k j) : M ≤ lev c a b := by
  have : ∀ n j, j + n = b.length → (∀ k, k ≤ a.length → M ≤ T c a b k j) → M ≤ lev c a b := by
    intro n
    induction n with
    | zero => intro j hj h; rw [← T_full hc0]; have := h a.length (Nat.le_refl _); rwa [show j = b.length by omega] at this
    | succ n ih => intro j hj h; exact ih (j + 1) (by omega) (T_row hc0 (by omega) h)
  exact this (b.length - j) j (by omega) h
theorem T_min1 (hc0 : ∀ x y, 0 ≤ c x y) (hc2 : ∀ x y, c x y ≤ 2) {a b : List α} {j : Nat} {M : Int} (ha : a ≠ []) (hj : j < b.length) (h : ∀ k, k < a.length → M ≤ T c a b (k + 1) (j + 1)) : M ≤ lev c a b := by
  refine T_min hc0 (j := j + 1) (by omega) fun k hk => ?_
  cases k with
  | zero =>
    have hl : 0 < a.length := List.length_pos_iff.mpr ha
    have h1 := h 0 hl
    rw [T_succ (List.getElem?_eq_getElem hl) (List.getElem?_eq_getElem hj), T_left _ _ _ (by omega), T_left _ _ _ (by omega)] at h1
    rw [T_left _ _ _ (by omega)]
    have := hc2 a[0] b[j]
    omega
  | succ k => exact h k (by omega)
end
noncomputable def subCost (a b : Str) : Int := if a = b then 0 else if Txt.lower a = Txt.lower b then 1 else 2
theorem subCost_symm (a b : Str) : subCost a b = subCost b a := by
  unfold subCost
  by_cases h : a = b
  · simp [h]
  · have h' : ¬ b = a := fun e => h e.symm
    simp only [h, h', if_false]
    by_cases g : Txt.lower a = Txt.lower b
    · simp [g]
    · have g' : ¬ Txt.lower b = Txt.lower a := fun e => g e.symm
      simp [g, g']
theorem subCost_0 (a b : Str) : 0 ≤ subCost a b := by unfold subCost; split <;> (try split) <;> omega
theorem subCost_2 (a b : Str) : subCost a b ≤ 2 := by unfold subCost; split <;> (try split) <;> omega
theorem subCost_self (a : Str) : subCost a a = 0 := by unfold subCost; simp
end Mine
end P0
section L0
open PySem PySem.W PyProof.Rows PySem.Calls PySem.Spec PyProof.V PySem.SeqAt
set_option pp.structureInstances false
set_option maxRecDepth 100000
set_option maxHeartbeats 8000000
namespace Mine
local macro_rules | `(tactic| walk_at "ENTER") => `(tactic| ((case kA => exact rfl); (case kF => exact rfl); (case kK => assumption); (case k6 => k_is); (case k7 => k_is); (case k8 => ktr_room); (case k9 => exact BindsTo.of_eq rfl); (case c5 => decide); (case kB => exact locs rfl); (case c2 => exact rfl); (case c3 => exact rfl); (case c4 => exact rfl)))
theorem sub_claim {w : World} {mean : ExcName → Option Value} {mg mb : Str → Option Value} {news} {x y : Str} {tx ty : Tok}
  {dp un : Nat} {gd : Option (List Code)} {cn : Str} {cs : Scope} {a : Addr} {ccd : Value} {cl : List (Str × Addr)} {outer : List Env} {A₀ : Around} {base h₀ : Heap} {L : Addr} {m : Str → Option Value} {s : Shared} {Q E : Value → Shared → Prop}
  (B : Below A₀ base outer h₀) (F : Fr h₀ L s.heap m) (X : (hd.heap_39 w.params).In h₀) (N : News h₀ L s.heap news) (T : Top hd.view_39 loose mean mg mb h₀) (hk : cs.kind = .function)
  (hdp : dp + 1 < recursionLimit) (hun : un + 100 < cLine) (lx : x.length ≤ 100) (ly : y.length ≤ 100)
  (hret : ∀ (t : Tok) (h' : Heap) (tk' : Nat), Fr h₀ L h' m → News h₀ L h' news → Q (.int (subCost x y) t) { s with heap := h', toks := tk' }) :
  wpAny (model PySem.Challenge.pw_ta0009_01 w) (ktrTop dp un gd cn cs L a ccd cl outer) (call (.ref 81) [.str x tx, .str y ty]) Q E s := by
  refine wpAny_call ?_
  k_dflt (refine' enter_def [("ch_a", .str x tx), ("ch_b", .str y ty)] B F X N T ?kA ?kF ?kK ?k6 ?k7 ?k8 ?k9 ?kB ?c2 ?c3 ?c4 ?c5 ?_; walk_at "ENTER")
  intro g' L' h1 tk0 FG F1 N1 B1 X1 T1
  dsimp only [List.reverse, List.reverseAux] at F1
  try dsimp only
  k_fold
  k_steps
  · rename_i h kF kN _ _
    have e : subCost x y = 0 := by unfold subCost; rw [if_pos (by simpa using h)]
    rw [← e]; exact hret _ _ _ kF kN
  · rename_i h _ _ h2 kF kN _ _
    have e : subCost x y = 1 := by unfold subCost; rw [if_neg (by simpa using h), if_pos (by simpa using h2)]
    rw [← e]; exact hret _ _ _ kF kN
  · rename_i h _ _ h2 kF kN _ _
    have e : subCost x y = 2 := by unfold subCost; rw [if_neg (by simpa using h), if_neg (by simpa using h2)]
    rw [← e]; exact hret _ _ _ kF kN
end Mine
end L0
section A0
open PySem PySem.W PyProof.Rows PySem.Calls PySem.Spec PyProof.V PySem.SeqAt
set_option maxRecDepth 100000
set_option maxHeartbeats 8000000
set_option pp.structureInstances false
namespace Mine
noncomputable def bodyAt (k : Nat) : List Stmt := match PySem.Challenge.pw_ta0009_01.main.body[k]? with
  | some (.FunctionDef _ _ b ..) => b
  | _ => []
noncomputable def scopeAt (k : Nat) : Scope := match PySem.Challenge.pw_ta0009_01.main.body[k]? with
  | some (.FunctionDef _ _ _ _ _ _ sc ..) => sc
  | _ => default
noncomputable def lvRestS : {l : List Stmt // l = (bodyAt 16).drop 12} := by
  refine ⟨?l, ?h⟩
  case h =>
    symm
    with_unfolding_all (conv => lhs; whnf)
noncomputable def lvScopeS : {l : Scope // l = scopeAt 16} := by
  refine ⟨?l, ?h⟩
  case h =>
    symm
    with_unfolding_all (conv => lhs; whnf)
#print lvRestS
#print lvScopeS
end Mine
end A0
section D1
open PySem PySem.W PyProof.Rows PySem.Calls PySem.Spec PyProof.V PySem.SeqAt
set_option pp.structureInstances false
set_option maxRecDepth 100000
set_option maxHeartbeats 8000000
namespace Mine
theorem row_get (A B : Nat → Int) {n i : Nat} (h : i < n) : (List.map (fun l => if l < i then A l else B l) (List.range n)).getD ((i : Int)).toNat 0 = B i := by
  rw [List.getD_eq_getElem?_getD, List.getElem?_map, Int.toNat_natCast, List.getElem?_range h]
  simp
theorem row_set (A B : Nat → Int) {n i : Nat} : (List.map (fun l => if l < i then A l else B l) (List.range n)).set ((i : Int)).toNat (A i) = List.map (fun l => if l < i + 1 then A l else B l) (List.range n) := by
  apply List.ext_getElem
  · simp
  · intro k h1 h2
    simp only [List.getElem_set, List.getElem_map, List.getElem_range, Int.toNat_natCast]
    by_cases e : i = k
    · subst e; simp
    · rw [if_neg e]
      by_cases e2 : k < i
      · rw [if_pos e2, if_pos (by lia)]
      · rw [if_neg e2, if_neg (by lia)]
local macro_rules | `(tactic| walk_at "READS") => `(tactic| (repeat' (first | exact trivial | refine And.intro rfl ?_)))
local macro_rules | `(tactic| walk_at "pyIter ref") => `(tactic| refine Hold.out ?_)
local macro_rules | `(tactic| walk_at "call builtin:len") => `(tactic| (refine' seq_len ?hx ?N ?hl ?_; (case hx => assumption); (case N => first | assumption | exact cb_drop (by assumption) (fun p hp => .tail _ hp) | exact cb_drop (by assumption) (fun p hp => List.mem_append_left _ (.tail _ hp)) | exact cb_drop (by assumption) (fun p hp => .tail _ (List.mem_append_left _ hp))); (case hl => omega); intro t' tk'))
local macro_rules | `(tactic| walk_at "call type:list") => `(tactic| (refine' list_rng ?hh ?F ?N ?hr ?hn ?_; (case hh => rfl); (case F => assumption); (case N => assumption); (case hr => assumption); (case hn => omega); intro D us c h' tk' F' N' lD iD))
local macro_rules | `(tactic| walk_at "call ref") => `(tactic| (k_dflt (refine' sub_claim ?B ?F ?X ?N ?T ?hk ?hdp ?hun ?lx ?ly ?_; (case B => assumption); (case F => assumption); (case X => assumption); (case N => assumption); (case T => assumption); (case hk => rfl); (case hdp => (dsimp only [Around.deeper, ktrTop]; omega)); (case hun => (dsimp only [Around.deeper, ktrTop]; omega)); (case lx => assumption); (case ly => assumption); intro t' h' tk' F' N'; (try dsimp only))))
theorem lev_dp {w : World} {mean : ExcName → Option Value} {mg mb : Str → Option Value} {news} {k : Bool} {va vb : Value} {as bs : List Str} {mc : Int} {tm : Tok}
  {dp un : Nat} {gd : Option (List Code)} {cn : Str} {cs : Scope} {a : Addr} {ccd : Value} {cl : List (Str × Addr)} {outer : List Env} {base g' : Heap} {L' : Addr} {m : Str → Option Value} {s : Shared} {Q : Flow → Shared → Prop} {E : Value → Shared → Prop}
  (B1 : Below (ktrTop dp un gd cn cs L a ccd cl outer) base (envX cn cs L a ccd cl :: outer) g') (X1 : (hd.heap_39 w.params).In g') (T1 : Top hd.view_39 loose mean mg mb g')
  (F : Fr g' L' s.heap m) (N : News g' L' s.heap news) 
  (hdp : dp + 5 < recursionLimit) (hun : un + 200 < cLine)
  (hE : PassesOwn (model PySem.Challenge.pw_ta0009_01 w) ((ktrTop dp un gd cn cs L a ccd cl outer).deeper (envOf "_levenshtein_distance" lvScopeS.1 L' 88 (.ref 87))) (envOf "_levenshtein_distance" lvScopeS.1 L' 88 (.ref 87)) E)
  (hm : AllRead m [("a", va), ("b", vb), ("max_cost", .int mc tm)])
  (hx : SeqV k news va as) (hy : SeqV k news vb bs) (sx : ∀ x ∈ as, x.length ≤ 100) (sy : ∀ x ∈ bs, x.length ≤ 100) (hab : as.length ≤ bs.length) (ha0 : as ≠ []) (lb : bs.length ≤ 40) (hmc : lev subCost as bs ≤ mc + 1)
  (hret : ∀ (t : Tok) (h' : Heap) (tk' : Nat) m', Fr g' L' h' m' → News g' L' h' news → Q (.ret (.int (lev subCost as bs) t)) { s with heap := h', toks := tk' }) :
  wpAny (model PySem.Challenge.pw_ta0009_01 w) ((ktrTop dp un gd cn cs L a ccd cl outer).deeper (envOf "_levenshtein_distance" lvScopeS.1 L' 88 (.ref 87))) (execs lvRestS.1 (envOf "_levenshtein_distance" lvScopeS.1 L' 88 (.ref 87))) Q E s := by
  dsimp only [lvRestS, lvScopeS] at hE ⊢
  rw [← kstB_self hm] at F
  k_steps
  · rename_i hlt _
    have h1 := lev_len subCost_0 as bs
    have e : lev subCost as bs = mc + 1 := by lia
    rw [← e] at *
    exact hret _ _ _ _ (by assumption) (by assumption)
  rename_i D us cnt _ _ lD iD _ _ _ _ _ _ h5 tk5 _ _ _ hR F5 N5 _
  refine Hold.mk ?_
  have lD' : ∀ p ∈ news, p.1 ≠ D := fun p hp => Nat.ne_of_lt (lD p hp)
  have hs1 := small_1 bs.length lb
  refine range_inv0 (σ := List Value × (Int × Tok)) (fun c => (D, listOf (List.toArray c.1) cnt) :: news) (fun c => [("row", .ref D), ("result", .int c.2.1 c.2.2), ("a", va), ("b", vb), ("max_cost", .int mc tm)])
    (fun j c => IntsAre c.1 ((List.range as.length).map fun i : Nat => T subCost as bs (i + 1) j) ∧ (0 < j → c.2.1 = T subCost as bs as.length j)) (us, (0, _)) rfl hR hs1.1 hs1.2 F5 N5 (by walk_at "READS") ⟨?_, fun h => absurd h (by lia)⟩ ?_ ?_
  · dsimp only
    have e : ((List.range as.length).map fun i : Nat => T subCost as bs (i + 1) 0) = (List.range as.length).map fun i : Nat => 2 + 2 * (i : Int) := by
      apply List.map_congr_left
      intro i hi
      rw [T_right _ _ _ (by have := List.mem_range.mp hi; lia)]
      lia
    rw [e]; exact iD
  · clear F5 N5 hR iD
    rintro ⟨us, r, tr⟩ j t u h tk own hj hoff ⟨hi, _⟩ F N
    dsimp only at hi hoff F N ⊢
    change Fr g' L' h _ at F
    change News g' L' h _ at N
    obtain ⟨y, hy1⟩ : ∃ y, bs[j]? = some y := ⟨bs[j], List.getElem?_eq_getElem hj⟩
    have ly : y.length ≤ 100 := sy y (List.mem_of_getElem? hy1)
    k_steps
    refine seq_item hy (cb_drop N fun p hp => List.mem_append_left _ (.tail _ hp)) (by lia) (.inl rfl) hy1 (fun _ => rfl) (fun t1 tk1 => ?_)
    k_steps
    rename_i hR F5 N5 _
    refine Hold.mk ?_
    have hs2 := small_1 as.length (by lia)
    refine range_inv0 (σ := List Value × (Int × Tok) × (Int × Tok) × (Int × Tok)) (fun c => (D, listOf (List.toArray c.1) cnt) :: (news ++ own)) (fun c => [("result", .int c.2.1.1 c.2.1.2), ("distance", .int c.2.2.1.1 c.2.2.1.2), ("minimum", .int c.2.2.2.1 c.2.2.2.2), ("row", .ref D), ("bchar", .str y t1), ("a", va), ("b", vb), ("max_cost", .int mc tm)])
      (fun i c => IntsAre c.1 ((List.range as.length).map fun l : Nat => if l < i then T subCost as bs (l + 1) (j + 1) else T subCost as bs (l + 1) j) ∧ ((i = 0 → c.2.1.1 = 2 * (j : Int)) ∧ (0 < i → c.2.1.1 = T subCost as bs i (j + 1))) ∧ c.2.2.1.1 = T subCost as bs i j ∧ ∀ l, l < i → c.2.2.2.1 ≤ T subCost as bs (l + 1) (j + 1)) (us, (_, _), (_, _), (_, _)) rfl hR hs2.1 hs2.2 F5 N5 (by walk_at "READS") ⟨?_, ?_, ?_, fun l h => absurd h (by lia)⟩ ?_ ?_
    · dsimp only
      simpa using hi
    · dsimp only
      exact ⟨fun _ => by lia, fun h => absurd h (by lia)⟩
    · dsimp only
      rw [T_left as bs j (by lia)]; lia
    · clear F5 N5 hR
      rintro ⟨us, ⟨r, tr⟩, ⟨d, td⟩, ⟨mn, tmn⟩⟩ i ti u h tk own2 hi2 hoff2 ⟨hI, hr, hd, hmn⟩ F N
      dsimp only at hI hr hd hmn hoff2 F N ⊢
      change Fr g' L' h _ at F
      change News g' L' h _ at N
      obtain ⟨x, hx1⟩ : ∃ x, as[i]? = some x := ⟨as[i], List.getElem?_eq_getElem hi2⟩
      have lx : x.length ≤ 100 := sx x (List.mem_of_getElem? hx1)
      k_steps
      refine seq_item hx (cb_drop N fun p hp => .tail _ (List.mem_append_left _ (List.mem_append_left _ hp))) (by lia) (.inl rfl) hx1 (fun _ => rfl) (fun t2 tk2 => ?_)
      k_steps
      rename_i F7 N7
      have hg := row_get (fun l => T subCost as bs (l + 1) (j + 1)) (fun l => T subCost as bs (l + 1) j) hi2
      have hV := T_succ (c := subCost) hx1 hy1
      rw [subCost_symm x y, ← hd] at hV
      have hc0 := subCost_0 y x
      have hc2 := subCost_2 y x
      have hT0 : i = 0 → d = 2 * (j : Int) ∧ T subCost as bs i (j + 1) = 2 * (j : Int) + 2 := fun e => by
        subst e; rw [hd, T_left as bs j (by lia), T_left as bs (j + 1) (by lia)]; exact ⟨rfl, by lia⟩
      have hV' : (if d + subCost y x < (if T subCost as bs (i + 1) j < r then T subCost as bs (i + 1) j else r) + 2 then d + subCost y x else (if T subCost as bs (i + 1) j < r then T subCost as bs (i + 1) j else r) + 2) = T subCost as bs (i + 1) (j + 1) := by
        rw [hV]
        obtain ⟨hr0, hr1⟩ := hr
        rcases Nat.eq_zero_or_pos i with e | e
        · have a1 := hr0 e
          obtain ⟨a2, a3⟩ := hT0 e
          rw [a1, a3]
          split <;> split at * <;> lia
        · rw [hr1 e]
          split <;> split at * <;> lia
      rw [hg] at F7 ⊢
      rw [hV'] at F7 ⊢
      have hne : ∀ p ∈ (news ++ own) ++ own2, p.1 ≠ D := by
        intro p hp
        rcases List.mem_append.mp hp with hp | hp
        · rcases List.mem_append.mp hp with hp | hp
          · exact lD' p hp
          · exact hoff.ne (.head _) p hp
        · exact hoff2.ne (.head _) p hp
      refine ksa_set F7 N7 (.head hne) hI (by lia) (by simp; lia) (by lia) (fun h8 F8 N8 hI8 _ _ => ?_)
      rw [row_set (fun l => T subCost as bs (l + 1) (j + 1)) (fun l => T subCost as bs (l + 1) j)] at hI8
      have hsub : ∀ {q : Addr × Obj} {v : Addr × Obj}, q ∈ v :: (news ++ own) → q ∈ v :: ((news ++ own) ++ own2) := fun hp => by
        rcases List.mem_cons.mp hp with rfl | hp
        · exact .head _
        · exact .tail _ (List.mem_append_left _ hp)
      k_steps
      · rename_i hlt h9 F9 N9
        exact rj_end (σ := List Value × (Int × Tok) × (Int × Tok) × (Int × Tok)) (_, (T subCost as bs (i + 1) (j + 1), _), (T subCost as bs (i + 1) j, _), (T subCost as bs (i + 1) (j + 1), _)) F9 N9 (fun p hp => hsub hp) (fun p hp => .tail _ (List.mem_append_right _ hp)) rfl (by walk_at "READS")
          ⟨hI8, ⟨fun h => absurd h (by lia), fun _ => rfl⟩, rfl, by
            intro l hl
            dsimp only
            rcases Nat.lt_or_ge l i with h1 | h1
            · have := hmn l h1; lia
            · have : l = i := by lia
              subst this; exact Int.le_refl _⟩
      · rename_i hlt
        exact rj_end (σ := List Value × (Int × Tok) × (Int × Tok) × (Int × Tok)) (_, (T subCost as bs (i + 1) (j + 1), _), (T subCost as bs (i + 1) j, _), (mn, tmn)) F8 N8 (fun p hp => hsub hp) (fun p hp => .tail _ (List.mem_append_right _ hp)) rfl (by walk_at "READS")
          ⟨hI8, ⟨fun h => absurd h (by lia), fun _ => rfl⟩, rfl, by
            intro l hl
            dsimp only
            rcases Nat.lt_or_ge l i with h1 | h1
            · exact hmn l h1
            · have : l = i := by lia
              subst this; lia⟩
    · rintro ⟨us, ⟨r, tr⟩, ⟨d, td⟩, ⟨mn, tmn⟩⟩ u h tk ⟨hI, hr, hd, hmn⟩ F N
      dsimp only at hI hr hd hmn F N ⊢
      change Fr g' L' h _ at F
      change News g' L' h _ at N
      have hmn' : mn ≤ lev subCost as bs := T_min1 subCost_0 subCost_2 ha0 hj hmn
      have hI' : IntsAre us ((List.range as.length).map fun l : Nat => T subCost as bs (l + 1) (j + 1)) := by
        have e : ((List.range as.length).map fun l : Nat => if l < as.length then T subCost as bs (l + 1) (j + 1) else T subCost as bs (l + 1) j) = (List.range as.length).map fun l : Nat => T subCost as bs (l + 1) (j + 1) := by
          apply List.map_congr_left
          intro l hl
          rw [if_pos (List.mem_range.mp hl)]
        rw [← e]; exact hI
      k_steps
      · have e : lev subCost as bs = mc + 1 := by lia
        rw [← e]
        exact hret _ _ _ _ F (cb_drop N fun p hp => .tail _ (List.mem_append_left _ hp))
      · exact rj_end (us, (r, tr)) F N (fun p hp => by
          rcases List.mem_cons.mp hp with rfl | hp
          · exact .head _
          · exact .tail _ (List.mem_append_left _ hp)) (fun p hp => .tail _ (List.mem_append_right _ hp)) rfl (by walk_at "READS") ⟨hI', fun _ => hr.2 (List.length_pos_iff.mpr ha0)⟩
  · rintro ⟨us, r, tr⟩ u h tk ⟨_, hr⟩ F N
    dsimp only at hr F N ⊢
    k_steps
    have e : r = lev subCost as bs := by
      rw [hr (by have := List.length_pos_iff.mpr ha0; lia), T_full subCost_0]
    subst e
    exact hret _ _ _ _ F (cb_drop N fun p hp => .tail _ hp)
end Mine
end D1
section L1
open PySem PySem.W PyProof.Rows PySem.Calls PySem.Spec PyProof.V PySem.SeqAt
set_option pp.structureInstances false
set_option maxRecDepth 100000
set_option maxHeartbeats 8000000
namespace Mine
local macro_rules | `(tactic| walk_at "ENTER") => `(tactic| ((case kA => exact rfl); (case kF => exact rfl); (case kK => assumption); (case k6 => k_is); (case k7 => k_is); (case k8 => ktr_room); (case k9 => exact BindsTo.of_eq rfl); (case c5 => decide); (case kB => exact locs rfl); (case c2 => exact rfl); (case c3 => exact rfl); (case c4 => exact rfl)))
local macro_rules | `(tactic| walk_at "READS") => `(tactic| (repeat' (first | exact trivial | refine And.intro rfl ?_)))
local macro_rules | `(tactic| walk_at "OWN") => `(tactic| (first | passes_own | with_unfolding_all passes_own))
local macro_rules | `(tactic| walk_at "exec If Compare cons nil") => `(tactic| ((with_reducible show wpAny _ _ (exec (Stmt.If _ [Stmt.Assign [PySem.Expr.Tuple _ _ _] _ _] _ _) _) _ _ _); refine Hold.out ?_))
local macro_rules | `(tactic| walk_at "exec While BoolOp") => `(tactic| refine Hold.out ?_)
local macro_rules | `(tactic| walk_at "eval BoolOp Or cons") => `(tactic| (refine' or_none ?F ?hv ?_ ?hk ?hl ?hd; (case F => assumption); (case hv => rfl); (case hk => rfl); (case hl => rfl); (case hd => decide); intro pv hpv))
local macro_rules | `(tactic| walk_at "truthy") => `(tactic| (refine' seq_truthy ?hx ?N ?hl ?_; (case hx => assumption); (case N => assumption); (case hl => omega); intro tk'))
local macro_rules | `(tactic| walk_at "call builtin:len") => `(tactic| (refine' seq_len ?hx ?N ?hl ?_; (case hx => assumption); (case N => assumption); (case hl => omega); intro t' tk'))
local macro_rules | `(tactic| walk_at "subscriptTail Name Slice") => `(tactic| (refine' seq_slice_truthy ?F ?N ?hx ?pl ?pu ?sz ?_; (case F => assumption); (case N => assumption); (case hx => assumption); (case pl => first | assumption | exact IsPart.none | exact IsPart.int _ _); (case pu => first | assumption | exact IsPart.none | exact IsPart.int _ _); (case sz => omega); intro h' tk' F' N'; (try dsimp only)))
theorem drop_ne {α : Type} {l : List α} {n : Nat} (h : lslice l (some (n : Int)) none ≠ []) : ∃ x, l[n]? = some x ∧ n < l.length := by
  rw [lslice_from] at h
  rcases Nat.lt_or_ge n l.length with h1 | h1
  · exact ⟨l[n], by simp [h1], h1⟩
  · exact absurd (List.drop_of_length_le h1) h
theorem take_step {α : Type} {l r : List α} {n : Nat} {x : α} (h : l.take n = r.take n) (hx : l[n]? = some x) (hy : r[n]? = some x) : l.take (n + 1) = r.take (n + 1) := by
  rw [List.take_add_one, List.take_add_one, h, hx, hy]
theorem take_ne {α : Type} {l : List α} {n : Nat} (hn : n ≤ l.length) (h : lslice l none (if (-(n : Int)) = 0 then none else some (-(n : Int))) ≠ []) : ∃ x, l[l.length - (n + 1)]? = some x ∧ n < l.length := by
  rw [lslice_post _ _ hn] at h
  rcases Nat.lt_or_ge n l.length with h1 | h1
  · exact ⟨l[l.length - (n + 1)], by rw [List.getElem?_eq_getElem (by lia)], h1⟩
  · exact absurd (by rw [show l.length - n = 0 by lia]; rfl) h
theorem drop_step {α : Type} {l r : List α} {n : Nat} {x : α} (h : l.drop (l.length - n) = r.drop (r.length - n)) (hl : n < l.length) (hr : n < r.length) (hx : l[l.length - (n + 1)]? = some x) (hy : r[r.length - (n + 1)]? = some x) :
    l.drop (l.length - (n + 1)) = r.drop (r.length - (n + 1)) := by
  have e1 : l.drop (l.length - (n + 1)) = x :: l.drop (l.length - n) := by
    rw [List.drop_eq_getElem_cons (by lia)]
    have : l.length - (n + 1) + 1 = l.length - n := by lia
    rw [this]
    congr 1
    rw [List.getElem?_eq_getElem (by lia)] at hx; exact Option.some.inj hx
  have e2 : r.drop (r.length - (n + 1)) = x :: r.drop (r.length - n) := by
    rw [List.drop_eq_getElem_cons (by lia)]
    have : r.length - (n + 1) + 1 = r.length - n := by lia
    rw [this]
    congr 1
    rw [List.getElem?_eq_getElem (by lia)] at hy; exact Option.some.inj hy
  rw [e1, e2, h]
theorem lev_claim {w : World} {mean : ExcName → Option Value} {mg mb : Str → Option Value} {news} {k : Bool} {va vb : Value} {xs ys : List Str} {mc : Int} {tm : Tok}
  {dp un : Nat} {gd : Option (List Code)} {cn : Str} {cs : Scope} {a : Addr} {ccd : Value} {cl : List (Str × Addr)} {outer : List Env} {A₀ : Around} {base h₀ : Heap} {L : Addr} {m : Str → Option Value} {s : Shared} {Q E : Value → Shared → Prop}
  (B : Below A₀ base outer h₀) (F : Fr h₀ L s.heap m) (X : (hd.heap_39 w.params).In h₀) (N : News h₀ L s.heap news) (T : Top hd.view_39 loose mean mg mb h₀) (hk : cs.kind = .function)
  (hdp : dp + 5 < recursionLimit) (hun : un + 200 < cLine)
  (hx : SeqV k news va xs) (hy : SeqV k news vb ys) (ox : Oks xs) (oy : Oks ys) (sx : ∀ x ∈ xs, x.length ≤ 100) (sy : ∀ x ∈ ys, x.length ≤ 100) (lx : xs.length ≤ 40) (ly : ys.length ≤ 40) (hmc : lev subCost xs ys ≤ mc + 1)
  (hret : ∀ (t : Tok) (h' : Heap) (tk' : Nat), Fr h₀ L h' m → News h₀ L h' news → Q (.int (lev subCost xs ys) t) { s with heap := h', toks := tk' }) :
  wpAny (model PySem.Challenge.pw_ta0009_01 w) (ktrTop dp un gd cn cs L a ccd cl outer) (call (.ref 88) [va, vb, .int mc tm]) Q E s := by
  refine wpAny_call ?_
  k_dflt (refine' enter_def [("a", va), ("b", vb), ("max_cost", .int mc tm)] B F X N T ?kA ?kF ?kK ?k6 ?k7 ?k8 ?k9 ?kB ?c2 ?c3 ?c4 ?c5 ?_; walk_at "ENTER")
  intro g' L' h1 tk0 FG F1 N1 B1 X1 T1
  dsimp only [List.reverse, List.reverseAux] at F1
  try dsimp only
  k_fold
  k_steps
  refine seq_eq ox oy hx hy N1 (by show un + 3 + 64 < cLine; lia) ?_
  k_steps
  · rename_i hxy kF kN _ _
    have e : lev subCost xs ys = 0 := by rw [hxy, lev_self subCost_0 subCost_self]
    rw [← e]
    exact hret _ _ _ kF kN
  rename_i hne h2 F2 N2
  refine Hold.mk ?_
  refine while_inv (σ := Int × Tok) (fun _ => news) (fun c => [("pre", .int c.1 c.2), ("a", va), ("b", vb), ("max_cost", .int mc tm)]) (fun c => ∃ n : Nat, c.1 = n ∧ n ≤ xs.length ∧ n ≤ ys.length ∧ xs.take n = ys.take n) (fun c => xs.length - c.1.toNat) (0, tk0) F2 N2 (by walk_at "READS") ⟨0, rfl, by simp⟩ ?_ ?_ (by walk_at "OWN")
  · clear F2 N2
    rintro ⟨i, ti⟩ u h tk1 ⟨n, rfl, hn1, hn2, hn3⟩ F2 N2
    dsimp only at F2 N2 ⊢
    k_steps
    all_goals (try dsimp only)
    · rename_i hA _ _ _ N3 hB
      obtain ⟨x, hx1, hx2⟩ := drop_ne hA
      obtain ⟨y, hy1, hy2⟩ := drop_ne hB
      refine seq_item hx N3 (by lia) (.inl rfl) hx1 (fun _ => rfl) (fun t1 tk2 => ?_)
      k_steps
      try dsimp only
      refine seq_item hy N3 (by lia) (.inl rfl) hy1 (fun _ => rfl) (fun t2 tk3 => ?_)
      k_steps
      · rename_i hxy h4 F4 N4
        have hxy' : x = y := by simpa using hxy
        subst hxy'
        exact WEnd.intro ((n : Int) + 1, _) F4 N4 (fun _ hp => hp) (by walk_at "READS") ⟨n + 1, rfl, by lia, by lia, take_step hn3 hx1 hy1⟩ (by dsimp only; lia)
      · rename_i F4 _ _ _ _ _
        exact WDone.intro ((n : Int), ti) (by assumption) N3 (by walk_at "READS") ⟨n, rfl, hn1, hn2, hn3⟩
    · exact WDone.intro ((n : Int), ti) (by assumption) (by assumption) (by walk_at "READS") ⟨n, rfl, hn1, hn2, hn3⟩
    · exact WDone.intro ((n : Int), ti) (by assumption) (by assumption) (by walk_at "READS") ⟨n, rfl, hn1, hn2, hn3⟩
  clear F2 N2
  rintro ⟨i, ti⟩ u h tk1 ⟨n, rfl, hn1, hn2, hn3⟩ F2 N2
  dsimp only at F2 N2 ⊢
  k_steps
  refine' seq_slice ?F ?N hx (IsPart.int _ _) IsPart.none ?sz ?_
  case F => assumption
  case N => assumption
  case sz => unfold sizeLine; lia
  intro va2 news2 h3 tk3 sub2 F3 N3 S2
  dsimp only
  rw [lslice_from] at S2
  k_steps
  refine' seq_slice ?F ?N (SeqV.mono hy sub2) (IsPart.int _ _) IsPart.none ?sz ?_
  case F => assumption
  case N => assumption
  case sz => unfold sizeLine; lia
  intro vb2 news3 h4 tk4 sub3 F4 N4 S3
  dsimp only
  rw [lslice_from] at S3
  replace S2 := SeqV.mono S2 sub3
  have sub := fun p hp => sub3 p (sub2 p hp)
  clear sub2 sub3 hx hy
  obtain ⟨as, has⟩ : ∃ l, l = xs.drop n := ⟨_, rfl⟩
  obtain ⟨bs, hbs⟩ : ∃ l, l = ys.drop n := ⟨_, rfl⟩
  rw [← has] at S2
  rw [← hbs] at S3
  have la : as.length ≤ 40 := by rw [has, List.length_drop]; lia
  have lb : bs.length ≤ 40 := by rw [hbs, List.length_drop]; lia
  k_steps
  rename_i F5 N5
  refine Hold.mk ?_
  refine while_inv (σ := Int × Tok) (fun _ => news3) (fun c => [("post", .int c.1 c.2), ("a", va2), ("b", vb2), ("max_cost", .int mc tm)]) (fun c => ∃ n : Nat, c.1 = -(n : Int) ∧ n ≤ as.length ∧ n ≤ bs.length ∧ as.drop (as.length - n) = bs.drop (bs.length - n)) (fun c => as.length - (-c.1).toNat) (0, _) F5 N5 (by walk_at "READS") ⟨0, rfl, by simp⟩ ?_ ?_ (by walk_at "OWN")
  · clear F5 N5
    rintro ⟨i, ti⟩ u h tk1 ⟨n, rfl, hn1, hn2, hn3⟩ F2 N2
    dsimp only at F2 N2 ⊢
    k_steps
    · rename_i hA _ _ _ _ _ N3 hB
      obtain ⟨x, hx1, hx2⟩ := take_ne hn1 hA
      obtain ⟨y, hy1, hy2⟩ := take_ne hn2 hB
      refine seq_item S2 N3 (by lia) (.inr (by lia)) hx1 (fun _ => rfl) (fun t1 tk2 => ?_)
      k_steps
      try dsimp only
      refine seq_item S3 N3 (by lia) (.inr (by lia)) hy1 (fun _ => rfl) (fun t2 tk3 => ?_)
      k_steps
      · rename_i hxy h4 F4 N4
        have hxy' : x = y := by simpa using hxy
        subst hxy'
        exact WEnd.intro (-(n : Int) - 1, _) F4 N4 (fun _ hp => hp) (by walk_at "READS") ⟨n + 1, by dsimp only; lia, by lia, by lia, drop_step hn3 hx2 hy2 hx1 hy1⟩ (by dsimp only; lia)
      · exact WDone.intro (-(n : Int), ti) (by assumption) N3 (by walk_at "READS") ⟨n, rfl, hn1, hn2, hn3⟩
    · exact WDone.intro (-(n : Int), ti) (by assumption) (by assumption) (by walk_at "READS") ⟨n, rfl, hn1, hn2, hn3⟩
    · exact WDone.intro (-(n : Int), ti) (by assumption) (by assumption) (by walk_at "READS") ⟨n, rfl, hn1, hn2, hn3⟩
  clear F5 N5
  rintro ⟨i, ti2⟩ u2 h6 tk6 ⟨q, rfl, hq1, hq2, hq3⟩ F2 N2
  dsimp only at F2 N2 ⊢
  k_steps
  refine' seq_slice ?F ?N S2 IsPart.none ?pu ?sz ?_
  case F => assumption
  case N => assumption
  case pu => assumption
  case sz => unfold sizeLine; lia
  intro va3 news4 h7 tk7 sub4 F3 N3 S4
  dsimp only
  rw [lslice_post _ _ hq1] at S4
  k_steps
  refine' seq_slice ?F ?N (SeqV.mono S3 sub4) IsPart.none ?pu ?sz ?_
  case F => assumption
  case N => assumption
  case pu => assumption
  case sz => unfold sizeLine; lia
  intro vb3 news5 h8 tk8 sub5 F4 N4 S5
  dsimp only
  rw [lslice_post _ _ hq2] at S5
  replace S4 := SeqV.mono S4 sub5
  replace sub := fun p hp => sub5 p (sub4 p (sub p hp))
  clear sub4 sub5 S2 S3
  obtain ⟨as2, has2⟩ : ∃ l, l = as.take (as.length - q) := ⟨_, rfl⟩
  obtain ⟨bs2, hbs2⟩ : ∃ l, l = bs.take (bs.length - q) := ⟨_, rfl⟩
  rw [← has2] at S4
  rw [← hbs2] at S5
  have la2 : as2.length ≤ 40 := by rw [has2, List.length_take]; lia
  have lb2 : bs2.length ≤ 40 := by rw [hbs2, List.length_take]; lia
  have hlev : lev subCost xs ys = lev subCost as2 bs2 := by
    rw [has2, hbs2, lev_take subCost_0 subCost_self hq3, has, hbs, lev_drop subCost_0 subCost_self hn3]
  have sa2 : ∀ x ∈ as2, x.length ≤ 100 := fun x hx => sx x (by rw [has2] at hx; have := List.mem_of_mem_take hx; rw [has] at this; exact List.mem_of_mem_drop this)
  have sb2 : ∀ x ∈ bs2, x.length ≤ 100 := fun x hx => sy x (by rw [hbs2] at hx; have := List.mem_of_mem_take hx; rw [hbs] at this; exact List.mem_of_mem_drop this)
  rw [hlev] at hmc hret
  clear hlev
  k_steps
  rotate_left
  · rename_i hA _ hB _ _ _ _ kF kN _ _
    have e : lev subCost as2 bs2 = 2 * ((as2.length : Int) + bs2.length) := by
      have : bs2 = [] := by simpa using hB
      rw [this, lev_nil']; simp
    rw [← e]
    exact hret _ _ _ kF (cb_drop kN sub)
  · rename_i hA _ _ _ _ kF kN _ _
    have e : lev subCost as2 bs2 = 2 * ((as2.length : Int) + bs2.length) := by
      have : as2 = [] := by simpa using hA
      rw [this, lev_nil]; simp
    rw [← e]
    exact hret _ _ _ kF (cb_drop kN sub)
  rename_i hA _ hB _ _ _ _
  refine Hold.mk ?_
  refine seq_then (fun s' => ∃ va vb as bs h' tk m', s' = { s with heap := h', toks := tk } ∧ Fr g' L' h' m' ∧ News g' L' h' news5 ∧ AllRead m' [("a", va), ("b", vb), ("max_cost", .int mc tm)] ∧ SeqV k news5 va as ∧ SeqV k news5 vb bs ∧ as.length ≤ bs.length ∧ as ≠ [] ∧ bs.length ≤ 40 ∧ lev subCost as2 bs2 = lev subCost as bs ∧ (∀ x ∈ as, x.length ≤ 100) ∧ (∀ x ∈ bs, x.length ≤ 100)) ?_ ?_
  · refine wpAny_If ?_
    k_steps
    · rename_i hlt _ _ _ _ _ _ F9 N9
      exact ⟨rfl, _, _, bs2, as2, _, _, _, rfl, F9, cb_drop N9 (fun p hp => .tail _ hp), by walk_at "READS", S5, S4, by lia, by assumption, la2, lev_symm subCost_0 subCost_symm _ _, sb2, sa2⟩
    · rename_i hlt
      exact ⟨rfl, _, _, as2, bs2, _, _, _, rfl, by assumption, by assumption, by walk_at "READS", S4, S5, by lia, by assumption, lb2, rfl, sa2, sb2⟩
  · rintro s' ⟨va, vb, as, bs, h9, tk9, m9, rfl, F9, N9, hm9, S6, S7, hab, ha0, lb9, e9, sa9, sb9⟩
    rw [e9] at hmc hret
    dsimp only
    k_dflt (refine' lev_dp B1 X1 T1 F9 N9 hdp hun ?hE hm9 S6 S7 sa9 sb9 hab ha0 lb9 hmc ?_)
    case hE => walk_at "OWN"
    intro t h' tk' m' F' N'
    k_steps
    rename_i kF kN _ _
    exact hret _ _ _ kF (cb_drop kN sub)
end Mine
end L1
section W2
open PySem PySem.W PyProof.Rows PySem.Calls PySem.Spec PyProof.V PySem.SeqAt
set_option pp.structureInstances false
set_option maxRecDepth 100000
set_option maxHeartbeats 8000000
namespace Mine
local macro_rules | `(tactic| walk_at "storeName") => `(tactic| ((first | (with_reducible show wpAny _ _ (storeName _ ("numbers" : Str) _) _ _ _) | (with_reducible show wpAny _ _ (storeName _ ("one" : Str) _) _ _ _) | (with_reducible show wpAny _ _ (storeName _ ("two" : Str) _) _ _ _)); refine Hold.out ?_))
local macro_rules | `(tactic| walk_at "binaryOp Add ref ref") => `(tactic| (k_dflt (refine' kmk_add_ints ?F ?N ?a ?b ?i ?j ?_ ?z; (case F => k_asm); (case N => k_asm); (case a => kmk_list); (case b => kmk_list); (case i => l_ints); (case j => l_ints); (case z => kmk_sum)); intro D' ws' h' F' N' l1 hI'; (try k_lt l1); (try k_sweep)))
section
variable {prog : Program} {w : World} {A : Around} {E : Value → Shared → Prop} {s : Shared} {h₀ : Heap} {L : Addr} {m : Str → Option Value} {news : List (Addr × Obj)}
theorem intsAre_take {vs : List Value} {xs : List Int} (h : IntsAre vs xs) : ∀ n, IntsAre (vs.take n) (xs.take n) := by
  induction h with
  | nil => intro n; simp; exact .nil
  | cons b u _ ih => intro n; cases n with
    | zero => exact .nil
    | succ n => exact .cons b u (ih n)
theorem intsAre_drop {vs : List Value} {xs : List Int} (h : IntsAre vs xs) : ∀ n, IntsAre (vs.drop n) (xs.drop n) := by
  induction h with
  | nil => intro n; simp; exact .nil
  | cons b u h ih => intro n; cases n with
    | zero => exact .cons b u h
    | succ n => exact ih n
theorem ints_slice {value slice : PySem.Expr} {l : Addr} {vs : List Value} {ns : List Int} {vl vu : Value} {lo hi : Option Int} {Q : Value → Shared → Prop} (F : Fr h₀ L s.heap m) (N : News h₀ L s.heap news) (hl : s.heap.IsList l vs.toArray) (pl : IsPart vl lo) (pu : IsPart vu hi) (hi' : IntsAre vs ns)
    (h : ∀ D ws h', Fr h₀ L h' m → News h₀ L h' ((D, listOf (List.toArray ws) 0) :: news) → (∀ p ∈ news, p.1 < D) → IntsAre ws (lslice ns lo hi) → Q (.ref D) { s with heap := h' })
    (hs : subscripted slice false (.ref l) (.ref s.heap.objs.size) = operate [.ref s.heap.objs.size, .ref l] (getItem (.ref l) (.ref s.heap.objs.size))) (ht : ∀ r, letTemporaryGo value (.ref l) r = pure ()) (hz : ns.length ≤ 1000) :
    wpAny (model prog w) A (subscriptTail value slice (.ref l) (.ref s.heap.objs.size)) Q E { s with heap := s.heap.push { cls := .type "slice", data := .fields #[vl, vu, .none] } } := by
  have hlen := hi'.length
  refine slice_list F N hl pl pu (fun h' F' N' => ?_) hs ht (by simp only [List.size_toArray]; unfold sizeLine; omega)
  refine h _ (lslice vs lo hi) h' F' ?_ (fun p hp => Nat.lt_succ_of_lt (Heap.lt_size (N p hp).1)) ?_
  · have e : (lslice vs lo hi).toArray = slicePick vs.toArray lo hi none := by
      apply Array.toList_inj.mp
      rw [slicePick_lslice]
    rw [e]; exact N'
  · unfold lslice; rw [hlen]; exact intsAre_take (intsAre_drop hi' _) _
end
local macro_rules | `(tactic| walk_at "subscriptTail Name Slice ref ref") => `(tactic| refine Hold.out ?_)
noncomputable def numsOf (sc : List Int) : List Int := sc.take 4 ++ [15, 11, 2, 3].drop sc.length
theorem nums_four (sc : List Int) : ∃ a b c d, numsOf sc = [a, b, c, d] := by
  match sc with
  | [] => exact ⟨_, _, _, _, rfl⟩
  | [a] => exact ⟨_, _, _, _, rfl⟩
  | [a, b] => exact ⟨_, _, _, _, rfl⟩
  | [a, b, c] => exact ⟨_, _, _, _, rfl⟩
  | a :: b :: c :: d :: r =>
    refine ⟨a, b, c, d, ?_⟩
    simp only [numsOf, List.length_cons]
    rw [List.drop_of_length_le (by simp)]; rfl
theorem ints_four {us : List Value} {a b c d : Int} (h : IntsAre us [a, b, c, d]) : ∃ t0 t1 t2 t3, us = [.int a t0, .int b t1, .int c t2, .int d t3] := by
  cases h with
  | cons _ t0 h => cases h with
    | cons _ t1 h => cases h with
      | cons _ t2 h => cases h with
        | cons _ t3 h => cases h; exact ⟨_, _, _, _, rfl⟩
theorem blk0 {w : World} {mean : ExcName → Option Value} {mg mb : Str → Option Value} {rest : List Stmt}
  {dp un : Nat} {gd : Option (List Code)} {a : Addr} {ccd : Value} {A₀ : Around} {base : Heap} {L : Addr} {s : Shared} {Q : Flow → Shared → Prop}
  {la : Addr} {vals : List Value} {sc : List Int} {u : Str → Option Value} {oN : Obj} {led : List (Addr × Obj)}
  (B : Below A₀ base [] base) (F : Fr base L s.heap (kstB u [("script", .ref la)])) (X : (hd.heap_39 w.params).In base) (N : News base L s.heap ((L + 1, oN) :: led)) (hled : ∀ p ∈ led, p.1 ≠ L + 1) (T : Top hd.view_39 loose mean mg mb base)
  (hdp : dp + 20 < recursionLimit) (hun : un + 600 < cLine) (hS : base.IsList la vals.toArray) (hI : IntsAre vals sc) (hlen : sc.length ≤ 63)
  (hoN : oN.data = .cell none)
  (k : ∀ h' tk' Dn n0 n1 n2 n3 t0 t1 t2 t3 tt oN', numsOf sc = [n0, n1, n2, n3] → oN'.data = .cell (some (.ref Dn)) → Fr base L h' (kstB u [("total", .int (sc.sum + 5) tt), ("script", .ref la)]) →
    News base L h' ((L + 1, oN') :: (Dn, listOf #[.int n0 t0, .int n1 t1, .int n2 t2, .int n3 t3] 0) :: led) → L + 1 < Dn → (∀ p ∈ led, p.1 < Dn) →
    wpAny (model PySem.Challenge.pw_ta0009_01 w) (ktrTop dp un gd "law" lawSc.1 L a ccd (lawCl L) []) (execs rest (envX "law" lawSc.1 L a ccd (lawCl L))) Q (fun _ _ => False) { s with heap := h', toks := tk' }) :
  wpAny (model PySem.Challenge.pw_ta0009_01 w) (ktrTop dp un gd "law" lawSc.1 L a ccd (lawCl L) []) (execs (st0.1 :: st1.1 :: rest) (envX "law" lawSc.1 L a ccd (lawCl L))) Q (fun _ _ => False) s := by
  dsimp only [lawSc, st0, st1, lawCl]
  k_steps
  refine Hold.mk ?_
  refine ints_slice F N (Fr.lst F hS) .none (.int _ _) hI (fun D1 ws1 h1 F1 N1 l1 I1 => ?_) (by with_unfolding_all rfl) (by intro _; with_unfolding_all rfl) (by omega)
  rw [show lslice sc none (some 4) = sc.take 4 by unfold lslice; simp only [Option.elim, List.drop_zero, Nat.sub_zero]; rw [show (4 : Int) = ((4 : Nat) : Int) from rfl, clipAt_nat]; rcases Nat.le_total 4 sc.length with h | h; (rw [Nat.min_eq_left h]); (rw [Nat.min_eq_right h, List.take_of_length_le h, List.take_of_length_le (Nat.le_refl _)])] at I1
  k_steps
  rename_i l2 h2 F2 N2 l2'
  refine Hold.mk ?_
  refine ints_slice (ns := [15, 11, 2, 3]) F2 N2 (SeqV.isList N2 (.head _)) (.int _ _) .none (.cons _ _ (.cons _ _ (.cons _ _ (.cons _ _ .nil)))) (fun D2 ws2 h2 F2 N2 l2 I2 => ?_) (by with_unfolding_all rfl) (by intro _; with_unfolding_all rfl) (by decide)
  rw [lslice_from] at I2
  refine kmk_add_ints F2 N2 (SeqV.isList N2 (.tail _ (.tail _ (.head _)))) (SeqV.isList N2 (.head _)) I1 I2 (fun D3 ws3 h3 F3 N3 l3 I3 => ?_) ?z
  case z => unfold sizeLine; simp; omega
  k_steps
  refine Hold.mk ?_
  refine storeX_C (c := L + 1) F3 N3 (by kernel_rfl) (.tail ?u1 (.tail ?u2 (.tail ?u3 (.tail ?u4 (.head hled))))) hoN (fun h4 oN' F4 N4 hoN' => ?_) (by kernel_rfl) (by kernel_rfl)
  case u1 => exact Nat.ne_of_gt (l3 _ (.tail _ (.tail _ (.tail _ (.head _)))))
  case u2 => exact Nat.ne_of_gt (l2 _ (.tail _ (.tail _ (.head _))))
  case u3 => exact Nat.ne_of_gt l2'.2.1
  case u4 => exact Nat.ne_of_gt (l1 _ (.head _))
  k_steps
  rename_i FZ NZ
  obtain ⟨n0, n1, n2, n3, e⟩ := nums_four sc
  rw [show List.take 4 sc ++ List.drop sc.length [15, 11, 2, 3] = [n0, n1, n2, n3] from e] at I3
  obtain ⟨t0, t1, t2, t3, rfl⟩ := ints_four I3
  refine k _ _ D3 n0 n1 n2 n3 t0 t1 t2 t3 _ oN' e hoN' FZ (fun p hp => NZ p ?_) (l3 _ (.tail _ (.tail _ (.tail _ (.head _))))) (fun p hp => l3 p (.tail _ (.tail _ (.tail _ (.tail _ hp)))))
  rcases List.mem_cons.mp hp with rfl | hp
  · exact .tail _ (.tail _ (.tail _ (.tail _ (.head _))))
  rcases List.mem_cons.mp hp with rfl | hp
  · exact .head _
  · exact .tail _ (.tail _ (.tail _ (.tail _ (.tail _ hp))))
end Mine
end W2
section W3
open PySem PySem.W PyProof.Rows PySem.Calls PySem.Spec PyProof.V PySem.SeqAt
set_option pp.structureInstances false
set_option maxRecDepth 100000
set_option maxHeartbeats 8000000
namespace Mine
local macro_rules | `(tactic| walk_at "CompSrc") => `(tactic| refine Hold.out ?_)
local macro_rules | `(tactic| walk_at "call ref") => `(tactic| refine Hold.out ?_)
local macro_rules | `(tactic| walk_at "CompEnd") => `(tactic| refine Hold.out ?_)
theorem off1_mem {D : Addr} : ∀ {l : List (Addr × Obj)}, LCg.Off1 D l → ∀ p ∈ l, p.1 ≠ D
  | [], _, _, h => nomatch h
  | _ :: _, x, p, h => by
    rcases List.mem_cons.mp h with rfl | h
    · exact x.1
    · exact off1_mem x.2 p h
theorem blk2 {w : World} {mean : ExcName → Option Value} {mg mb : Str → Option Value} {rest : List Stmt}
  {dp un : Nat} {gd : Option (List Code)} {a : Addr} {ccd : Value} {A₀ : Around} {base : Heap} {L : Addr} {s : Shared} {Q : Flow → Shared → Prop}
  {m : Str → Option Value} {oN : Obj} {led : List (Addr × Obj)} {Dn : Addr} {n0 n1 n2 n3 : Int} {t0 t1 t2 t3 : Tok}
  (B : Below A₀ base [] base) (F : Fr base L s.heap m) (X : (hd.heap_39 w.params).In base) (N : News base L s.heap ((L + 1, oN) :: (Dn, listOf #[.int n0 t0, .int n1 t1, .int n2 t2, .int n3 t3] 0) :: led)) (T : Top hd.view_39 loose mean mg mb base)
  (hdp : dp + 20 < recursionLimit) (hun : un + 600 < cLine) (hoN : oN.data = .cell (some (.ref Dn)))
  (k : ∀ h' tk' Dh u0 u1, Fr base L h' (fun y => if y = "heads" then some (.ref Dh) else m y) →
    News base L h' ((Dh, LCg.lst [.str ⟨(headL 0 n0).toArray⟩ u0, .str ⟨(headL 1 n1).toArray⟩ u1]) :: (L + 1, oN) :: (Dn, listOf #[.int n0 t0, .int n1 t1, .int n2 t2, .int n3 t3] 0) :: led) → (∀ p ∈ (L + 1, oN) :: (Dn, listOf #[.int n0 t0, .int n1 t1, .int n2 t2, .int n3 t3] 0) :: led, p.1 ≠ Dh) →
    wpAny (model PySem.Challenge.pw_ta0009_01 w) (ktrTop dp un gd "law" lawSc.1 L a ccd (lawCl L) []) (execs rest (envX "law" lawSc.1 L a ccd (lawCl L))) Q (fun _ _ => False) { s with heap := h', toks := tk' }) :
  wpAny (model PySem.Challenge.pw_ta0009_01 w) (ktrTop dp un gd "law" lawSc.1 L a ccd (lawCl L) []) (execs (st2.1 :: rest) (envX "law" lawSc.1 L a ccd (lawCl L))) Q (fun _ _ => False) s := by
  dsimp only [lawSc, st2, lawCl]
  k_steps
  rename_i h1 tkr ta tb tc hr F1 N1 hk1
  refine Hold.mk ?_
  refine LCg.CompSrc.range (n := 2) rfl F1 N1 hr (by decide) (by decide) (by decide) (fun g => ?_)
  clear F1 N1 hr hk1
  refine LCg.CompRest.succ ?_
  rintro v I oI C oC D m₂ h tk E' ⟨t, rfl⟩ hC hx F2 N2 off ne
  rw [show (0 : Int) + ((0 : Nat) : Int) = 0 from rfl] at hx
  have cE := InElt.start h
  k_steps
  refine Hold.mk ?_
  k_dflt (refine' head_claim0 B F2 X N2 T rfl ?hdp ?hun ?_; (case hdp => omega); (case hun => omega))
  intro u0 h3 tk3 F3 N3
  clear F2 N2
  k_steps
  refine Hold.mk ?_
  refine LCg.CompEnd.intro F3 N3 _ (fun p hp => hp) off trivial ?_
  clear F3 N3 hC hx off ne cE
  refine LCg.CompRest.succ ?_
  rintro v I oI C oC D m₂ h tk E' ⟨t, rfl⟩ hC hx F2 N2 off ne
  rw [show (0 : Int) + ((0 + 1 : Nat) : Int) = 1 from rfl] at hx
  have cE := InElt.start h
  k_steps
  refine Hold.mk ?_
  k_dflt (refine' head_claim1 B F2 X N2 T rfl ?hdp ?hun ?_; (case hdp => omega); (case hun => omega))
  intro u1 h3 tk3 F3 N3
  clear F2 N2
  k_steps
  refine Hold.mk ?_
  refine LCg.CompEnd.intro F3 N3 _ (fun p hp => hp) off trivial ?_
  refine LCg.CompRest.zero ?_
  intro D7 h7 tk7 F7 N7 off7
  dsimp only
  exact k _ _ D7 u0 u1 F7 N7 (off1_mem off7)
end Mine
end W3
section W5
open PySem PySem.W PyProof.Rows PySem.Calls PySem.Spec PyProof.V PySem.SeqAt
set_option pp.structureInstances false
set_option maxRecDepth 100000
set_option maxHeartbeats 8000000
namespace Mine
local macro_rules | `(tactic| walk_at "CompSrc") => `(tactic| refine Hold.out ?_)
local macro_rules | `(tactic| walk_at "call ref") => `(tactic| refine Hold.out ?_)
local macro_rules | `(tactic| walk_at "CompEnd") => `(tactic| refine Hold.out ?_)
local macro_rules | `(tactic| walk_at "eval ListComp") => `(tactic| (k_dflt (refine LCg.ListComp_U (F₀ := by k_asm) (by with_unfolding_all rfl) (by decide) (by rfl) (by decide) (by rfl) ?_)))
local macro_rules | `(tactic| walk_at "storeName") => `(tactic| ((first | (with_reducible show wpAny _ _ (storeName _ ("numbers" : Str) _) _ _ _) | (with_reducible show wpAny _ _ (storeName _ ("one" : Str) _) _ _ _) | (with_reducible show wpAny _ _ (storeName _ ("two" : Str) _) _ _ _)); refine Hold.out ?_))
theorem news_rot3 {h₀ h : Heap} {L : Addr} {a b c d : Addr × Obj} {r : List (Addr × Obj)} (N : News h₀ L h (a :: b :: c :: d :: r)) : News h₀ L h (d :: a :: b :: c :: r) := fun p hp => N p (by
  simp only [List.mem_cons] at hp ⊢
  rcases hp with h | h | h | h | h
  · exact .inr (.inr (.inr (.inl h)))
  · exact .inl h
  · exact .inr (.inl h)
  · exact .inr (.inr (.inl h))
  · exact .inr (.inr (.inr (.inr h))))
theorem blk4 {w : World} {mean : ExcName → Option Value} {mg mb : Str → Option Value} {rest : List Stmt}
  {dp un : Nat} {gd : Option (List Code)} {a : Addr} {ccd : Value} {A₀ : Around} {base : Heap} {L : Addr} {s : Shared} {Q : Flow → Shared → Prop}
  {m : Str → Option Value} {oN oO : Obj} {led : List (Addr × Obj)} {Dn : Addr} {n0 n1 n2 n3 : Int} {t0 t1 t2 t3 : Tok}
  (B : Below A₀ base [] base) (F : Fr base L s.heap m) (X : (hd.heap_39 w.params).In base) (N : News base L s.heap ((L + 1, oN) :: (Dn, listOf #[.int n0 t0, .int n1 t1, .int n2 t2, .int n3 t3] 0) :: (L + 1 + 1, oO) :: led)) (T : Top hd.view_39 loose mean mg mb base)
  (hdp : dp + 20 < recursionLimit) (hun : un + 600 < cLine) (hoN : oN.data = .cell (some (.ref Dn))) (hoO : oO.data = .cell none) (hD : Dn ≠ L + 1 + 1) (hled : ∀ p ∈ led, p.1 ≠ L + 1 + 1)
  (k : ∀ h' tk' D1 u0 u1 oO', Fr base L h' m → oO'.data = .cell (some (.ref D1)) →
    News base L h' ((L + 1 + 1, oO') :: (D1, LCg.lst [.int (n0.fmod 3) u0, .int (n1.fmod 3) u1]) :: (L + 1, oN) :: (Dn, listOf #[.int n0 t0, .int n1 t1, .int n2 t2, .int n3 t3] 0) :: led) → (∀ p ∈ (L + 1, oN) :: (Dn, listOf #[.int n0 t0, .int n1 t1, .int n2 t2, .int n3 t3] 0) :: (L + 1 + 1, oO) :: led, p.1 ≠ D1) → 
    wpAny (model PySem.Challenge.pw_ta0009_01 w) (ktrTop dp un gd "law" lawSc.1 L a ccd (lawCl L) []) (execs rest (envX "law" lawSc.1 L a ccd (lawCl L))) Q (fun _ _ => False) { s with heap := h', toks := tk' }) :
  wpAny (model PySem.Challenge.pw_ta0009_01 w) (ktrTop dp un gd "law" lawSc.1 L a ccd (lawCl L) []) (execs (st4.1 :: rest) (envX "law" lawSc.1 L a ccd (lawCl L))) Q (fun _ _ => False) s := by
  dsimp only [lawSc, st4, lawCl]
  k_steps
  rename_i h1 tkr ta tb tc hr F1 N1 hk1
  refine Hold.mk ?_
  refine LCg.CompSrc.range (n := 2) rfl F1 N1 hr (by decide) (by decide) (by decide) (fun g => ?_)
  clear F1 N1 hr hk1
  refine LCg.CompRest.succ ?_
  rintro v I oI C oC D m₂ h tk E' ⟨t, rfl⟩ hC hx F2 N2 off ne
  rw [show (0 : Int) + ((0 : Nat) : Int) = 0 from rfl] at hx
  have cE := InElt.start h
  k_steps
  refine Hold.mk ?_
  refine LCg.CompEnd.intro F2 N2 _ (fun p hp => hp) off trivial ?_
  clear F2 N2 hC hx off ne cE
  refine LCg.CompRest.succ ?_
  rintro v I oI C oC D m₂ h tk E' ⟨t, rfl⟩ hC hx F2 N2 off ne
  rw [show (0 : Int) + ((0 + 1 : Nat) : Int) = 1 from rfl] at hx
  have cE := InElt.start h
  k_steps
  refine Hold.mk ?_
  refine LCg.CompEnd.intro F2 N2 _ (fun p hp => hp) off trivial ?_
  refine LCg.CompRest.zero ?_
  intro D7 h7 tk7 F7 N7 off7
  clear F2 N2
  k_steps
  refine Hold.mk ?_
  refine storeX_C (c := L + 1 + 1) F7 N7 (by kernel_rfl) (.tail ?u1 (.tail ?u2 (.tail ?u3 (.head hled)))) hoO (fun h4 oN' F4 N4 hoN' => ?_) (by kernel_rfl) (by kernel_rfl)
  case u1 => exact fun e => off1_mem off7 _ (.tail _ (.tail _ (.head _))) e.symm
  case u2 => exact Nat.ne_of_lt (Nat.lt_succ_self _)
  case u3 => exact hD
  k_steps
  exact k _ _ D7 _ _ oN' F4 hoN' (news_rot3 N4) (off1_mem off7)
theorem blk5 {w : World} {mean : ExcName → Option Value} {mg mb : Str → Option Value} {rest : List Stmt}
  {dp un : Nat} {gd : Option (List Code)} {a : Addr} {ccd : Value} {A₀ : Around} {base : Heap} {L : Addr} {s : Shared} {Q : Flow → Shared → Prop}
  {m : Str → Option Value} {oN oO : Obj} {led : List (Addr × Obj)} {Dn : Addr} {n0 n1 n2 n3 : Int} {t0 t1 t2 t3 : Tok}
  (B : Below A₀ base [] base) (F : Fr base L s.heap m) (X : (hd.heap_39 w.params).In base) (N : News base L s.heap ((L + 1, oN) :: (Dn, listOf #[.int n0 t0, .int n1 t1, .int n2 t2, .int n3 t3] 0) :: (L + 1 + 1 + 1, oO) :: led)) (T : Top hd.view_39 loose mean mg mb base)
  (hdp : dp + 20 < recursionLimit) (hun : un + 600 < cLine) (hoN : oN.data = .cell (some (.ref Dn))) (hoO : oO.data = .cell none) (hD : Dn ≠ L + 1 + 1 + 1) (hled : ∀ p ∈ led, p.1 ≠ L + 1 + 1 + 1)
  (k : ∀ h' tk' D1 u0 u1 oO', Fr base L h' m → oO'.data = .cell (some (.ref D1)) →
    News base L h' ((L + 1 + 1 + 1, oO') :: (D1, LCg.lst [.int ((n0.fdiv 3).fmod 3) u0, .int ((n1.fdiv 3).fmod 3) u1]) :: (L + 1, oN) :: (Dn, listOf #[.int n0 t0, .int n1 t1, .int n2 t2, .int n3 t3] 0) :: led) → (∀ p ∈ (L + 1, oN) :: (Dn, listOf #[.int n0 t0, .int n1 t1, .int n2 t2, .int n3 t3] 0) :: (L + 1 + 1 + 1, oO) :: led, p.1 ≠ D1) → 
    wpAny (model PySem.Challenge.pw_ta0009_01 w) (ktrTop dp un gd "law" lawSc.1 L a ccd (lawCl L) []) (execs rest (envX "law" lawSc.1 L a ccd (lawCl L))) Q (fun _ _ => False) { s with heap := h', toks := tk' }) :
  wpAny (model PySem.Challenge.pw_ta0009_01 w) (ktrTop dp un gd "law" lawSc.1 L a ccd (lawCl L) []) (execs (st5.1 :: rest) (envX "law" lawSc.1 L a ccd (lawCl L))) Q (fun _ _ => False) s := by
  dsimp only [lawSc, st5, lawCl]
  k_steps
  rename_i h1 tkr ta tb tc hr F1 N1 hk1
  refine Hold.mk ?_
  refine LCg.CompSrc.range (n := 2) rfl F1 N1 hr (by decide) (by decide) (by decide) (fun g => ?_)
  clear F1 N1 hr hk1
  refine LCg.CompRest.succ ?_
  rintro v I oI C oC D m₂ h tk E' ⟨t, rfl⟩ hC hx F2 N2 off ne
  rw [show (0 : Int) + ((0 : Nat) : Int) = 0 from rfl] at hx
  have cE := InElt.start h
  k_steps
  refine Hold.mk ?_
  refine LCg.CompEnd.intro F2 N2 _ (fun p hp => hp) off trivial ?_
  clear F2 N2 hC hx off ne cE
  refine LCg.CompRest.succ ?_
  rintro v I oI C oC D m₂ h tk E' ⟨t, rfl⟩ hC hx F2 N2 off ne
  rw [show (0 : Int) + ((0 + 1 : Nat) : Int) = 1 from rfl] at hx
  have cE := InElt.start h
  k_steps
  refine Hold.mk ?_
  refine LCg.CompEnd.intro F2 N2 _ (fun p hp => hp) off trivial ?_
  refine LCg.CompRest.zero ?_
  intro D7 h7 tk7 F7 N7 off7
  clear F2 N2
  k_steps
  refine Hold.mk ?_
  refine storeX_C (c := L + 1 + 1 + 1) F7 N7 (by kernel_rfl) (.tail ?u1 (.tail ?u2 (.tail ?u3 (.head hled)))) hoO (fun h4 oN' F4 N4 hoN' => ?_) (by kernel_rfl) (by kernel_rfl)
  case u1 => exact fun e => off1_mem off7 _ (.tail _ (.tail _ (.head _))) e.symm
  case u2 => exact Nat.ne_of_lt (Nat.lt_succ_of_lt (Nat.lt_succ_self _))
  case u3 => exact hD
  k_steps
  exact k _ _ D7 _ _ oN' F4 hoN' (news_rot3 N4) (off1_mem off7)
end Mine
end W5
section W6
open PySem PySem.W PyProof.Rows PySem.Calls PySem.Spec PyProof.V PySem.SeqAt
set_option pp.structureInstances false
set_option maxRecDepth 100000
set_option maxHeartbeats 8000000
namespace Mine
local macro_rules | `(tactic| walk_at "call ref") => `(tactic| refine Hold.out ?_)
local macro_rules | `(tactic| walk_at "READS") => `(tactic| (repeat' (first | exact trivial | refine And.intro rfl ?_)))
theorem endL_len (k : Int) : (endL k).length ≤ 2 := by unfold endL; split <;> (try split) <;> simp
theorem fr_reads {h₀ h : Heap} {L : Addr} {m : Str → Option Value} {ps : List (Str × Value)} (F : Fr h₀ L h m) (hk : AllRead m ps) : Fr h₀ L h (kstB m ps) := by rw [kstB_self hk]; exact F
theorem mkT_false (x : Array Nat) (t : Tok) : mkT false x t = .str ⟨x⟩ t := rfl
theorem blk678 {w : World} {mean : ExcName → Option Value} {mg mb : Str → Option Value} {rest : List Stmt}
  {dp un : Nat} {gd : Option (List Code)} {a : Addr} {ccd : Value} {A₀ : Around} {base : Heap} {L : Addr} {s : Shared} {Q : Flow → Shared → Prop}
  {u0 : Str → Option Value} {oT oO : Obj} {led : List (Addr × Obj)} {D1 D2 Dh : Addr} {k0 k1 j0 j1 tot : Int} {t0 t1 t2 t3 t4 t5 t6 t7 : Tok} {h0 h1 tl : List Nat}
  (B : Below A₀ base [] base) (F : Fr base L s.heap (kstB u0 [("tail", .str ⟨tl.toArray⟩ t4), ("heads", .ref Dh), ("total", .int tot t7)])) (X : (hd.heap_39 w.params).In base)
  (N : News base L s.heap ((L + 1 + 1 + 1, oT) :: (D2, LCg.lst [.int j0 t2, .int j1 t3]) :: (L + 1 + 1, oO) :: (D1, LCg.lst [.int k0 t0, .int k1 t1]) :: (Dh, LCg.lst [.str ⟨h0.toArray⟩ t5, .str ⟨h1.toArray⟩ t6]) :: led)) (T : Top hd.view_39 loose mean mg mb base)
  (hdp : dp + 20 < recursionLimit) (hun : un + 600 < cLine) (hoO : oO.data = .cell (some (.ref D1))) (hoT : oT.data = .cell (some (.ref D2)))
  (hk0 : 0 ≤ k0) (hk0' : k0 < 3) (hk1 : 0 ≤ k1) (hk1' : k1 < 3) (hj0 : 0 ≤ j0) (hj0' : j0 < 3) (hj1 : 0 ≤ j1) (hj1' : j1 < 3)
  (s0 : h0.length ≤ 20) (s1 : h1.length ≤ 20) (s2 : tl.length ≤ 20) (hq : dots true (crlf false (mailL h0 h1 j0 j1 tl)) = dots true (crlf false (mailL h0 h1 k0 k1 tl)))
  (k : ∀ h' tk' DT u0 u1 u, Fr base L h' (kstB u [("texts", .ref DT), ("other", mkT false (mailL h0 h1 j0 j1 tl).toArray u1), ("total", .int tot t7)]) →
    News base L h' ((DT, listOf #[mkT false (mailL h0 h1 k0 k1 tl).toArray u0] 0) :: (L + 1 + 1 + 1, oT) :: (D2, LCg.lst [.int j0 t2, .int j1 t3]) :: (L + 1 + 1, oO) :: (D1, LCg.lst [.int k0 t0, .int k1 t1]) :: led) → (∀ p ∈ (L + 1 + 1 + 1, oT) :: (D2, LCg.lst [.int j0 t2, .int j1 t3]) :: (L + 1 + 1, oO) :: (D1, LCg.lst [.int k0 t0, .int k1 t1]) :: led, p.1 < DT) → 
    wpAny (model PySem.Challenge.pw_ta0009_01 w) (ktrTop dp un gd "law" lawSc.1 L a ccd (lawCl L) []) (execs rest (envX "law" lawSc.1 L a ccd (lawCl L))) Q (fun _ _ => False) { s with heap := h', toks := tk' }) :
  wpAny (model PySem.Challenge.pw_ta0009_01 w) (ktrTop dp un gd "law" lawSc.1 L a ccd (lawCl L) []) (execs (st6.1 :: st7.1 :: st8.1 :: rest) (envX "law" lawSc.1 L a ccd (lawCl L))) Q (fun _ _ => False) s := by
  dsimp only [lawSc, st6, st7, st8, lawCl]
  k_steps
  refine Hold.mk ?_
  k_dflt (refine' mail_claim B F X N T rfl ?hdp ?hun ⟨_, _, _, rfl, .tail _ (.tail _ (.tail _ (.tail _ (.head _)))), .cons _ _ (.cons _ _ .nil)⟩ (.tail _ (.head _)) hj0 hj0' hj1 hj1' ?_ ?_ ?_ ?_; (case hdp => omega); (case hun => omega))
  · omega
  · omega
  · omega
  intro u1 h1' tk1 F1 N1
  have lenm : ∀ k0 k1 : Int, (mailL h0 h1 k0 k1 tl).length ≤ 100 := by
    intro k0 k1
    have e0 := endL_len k0
    have e1 := endL_len k1
    unfold mailL
    simp only [List.length_append, List.length_cons]
    omega
  k_steps
  rename_i h2 F2 N2
  refine Hold.mk ?_
  k_dflt (refine' mail_claim B F2 X N2 T rfl ?hdp ?hun ⟨_, _, _, rfl, .tail _ (.tail _ (.tail _ (.tail _ (.head _)))), .cons _ _ (.cons _ _ .nil)⟩ (.tail _ (.tail _ (.tail _ (.head _)))) hk0 hk0' hk1 hk1' ?_ ?_ ?_ ?_; (case hdp => omega); (case hun => omega))
  · omega
  · omega
  · omega
  intro u0 h3 tk3 F3 N3
  k_steps

  rename_i lT h4a l4 h4 F4 N4
  refine Hold.mk ?_
  k_dflt (refine' data_claim B F4 X N4 T rfl ?hdp ?hun ?_ ?_; (case hdp => omega); (case hun => omega))
  · have := lenm j0 j1; simp; omega
  intro u2 h5 tk5 F5 N5
  k_steps
  refine Hold.mk ?_
  k_dflt (refine' hand_claim1 B F5 X N5 T rfl ?hdp ?hun ?_ ?_; (case hdp => omega); (case hun => omega))
  · have := lenm k0 k1; simp; omega
  intro u3 h6 tk6 F6 N6
  rw [show (mailL h0 h1 k0 k1 tl).toArray.toList = mailL h0 h1 k0 k1 tl from rfl, mkT_false (dots true _).toArray, hq]
  generalize dots true (crlf false (mailL h0 h1 k0 k1 tl)) = z
  k_steps
  · rename_i hc
    exact absurd hc (by simp)
  · dsimp only
    refine k _ _ lT u0 u1 _ (fr_reads (ps := [("texts", .ref lT), ("other", mkT false (mailL h0 h1 j0 j1 tl).toArray u1), ("total", .int tot t7)]) F6 (by walk_at "READS")) (fun p hp => N6 p ?_) (fun p hp => ?_)
    · simp only [List.mem_cons] at hp ⊢
      rcases hp with h | h | h | h | h | h
      · exact .inl h
      · exact .inr (.inl h)
      · exact .inr (.inr (.inl h))
      · exact .inr (.inr (.inr (.inl h)))
      · exact .inr (.inr (.inr (.inr (.inl h))))
      · exact .inr (.inr (.inr (.inr (.inr (.inr h)))))
    · rcases List.mem_cons.mp hp with rfl | hp
      · exact l4.1
      rcases List.mem_cons.mp hp with rfl | hp
      · exact l4.2.1
      rcases List.mem_cons.mp hp with rfl | hp
      · exact l4.2.2.1
      rcases List.mem_cons.mp hp with rfl | hp
      · exact l4.2.2.2.1
      · exact kst_ltOf l4.2.2.2.2.2 p hp
end Mine
end W6
section U1
open PySem PySem.W PyProof.Rows PySem.Calls PySem.Spec PyProof.V PySem.SeqAt
set_option maxRecDepth 100000
namespace Mine
noncomputable def handL (h : Nat) (l : List Nat) : List Nat := match h with
  | 0 => crlf false l
  | 1 => dots true (crlf false l)
  | _ => dots true l
theorem hand_any {w : World} {mean : ExcName → Option Value} {mg mb : Str → Option Value} {news} {x : Array Nat} {tx th : Tok} {hd' : Nat}
  {dp un : Nat} {gd : Option (List Code)} {cn : Str} {cs : Scope} {a : Addr} {ccd : Value} {cl : List (Str × Addr)} {outer : List Env} {A₀ : Around} {base h₀ : Heap} {L : Addr} {m : Str → Option Value} {s : Shared} {Q E : Value → Shared → Prop}
  (B : Below A₀ base outer h₀) (F : Fr h₀ L s.heap m) (X : (hd.heap_39 w.params).In h₀) (N : News h₀ L s.heap news) (T : Top hd.view_39 loose mean mg mb h₀) (hk : cs.kind = .function)
  (hdp : dp + 5 < recursionLimit) (hun : un + 200 < cLine) (hx : x.size ≤ 100) (hh : hd' < 3)
  (hret : ∀ (t : Tok) (h' : Heap) (tk' : Nat), Fr h₀ L h' m → News h₀ L h' news → Q (.str ⟨(handL hd' x.toList).toArray⟩ t) { s with heap := h', toks := tk' }) :
  wpAny (model PySem.Challenge.pw_ta0009_01 w) (ktrTop dp un gd cn cs L a ccd cl outer) (call (.ref 107) [.str ⟨x⟩ tx, .int (hd' : Int) th]) Q E s := by
  match hd', hh with
  | 0, _ => exact hand_claim0 B F X N T hk hdp hun hx hret
  | 1, _ => exact hand_claim1 B F X N T hk hdp hun hx hret
  | 2, _ => exact hand_claim2 B F X N T hk hdp hun hx hret
theorem done_any {w : World} {mean : ExcName → Option Value} {mg mb : Str → Option Value} {news} {x : Array Nat} {tx th : Tok} {hd' : Nat}
  {dp un : Nat} {gd : Option (List Code)} {cn : Str} {cs : Scope} {a : Addr} {ccd : Value} {cl : List (Str × Addr)} {outer : List Env} {A₀ : Around} {base h₀ : Heap} {L : Addr} {m : Str → Option Value} {s : Shared} {Q E : Value → Shared → Prop}
  (B : Below A₀ base outer h₀) (F : Fr h₀ L s.heap m) (X : (hd.heap_39 w.params).In h₀) (N : News h₀ L s.heap news) (T : Top hd.view_39 loose mean mg mb h₀) (hk : cs.kind = .function)
  (hdp : dp + 10 < recursionLimit) (hun : un + 400 < cLine) (hx : x.size ≤ 100) (hh : hd' < 3) (hlow : low true x)
  (hret : ∀ (t : Tok) (h' : Heap) (tk' : Nat), Fr h₀ L h' m → News h₀ L h' news → Q (.str ⟨(handL hd' x.toList).toArray⟩ t) { s with heap := h', toks := tk' }) :
  wpAny (model PySem.Challenge.pw_ta0009_01 w) (ktrTop dp un gd cn cs L a ccd cl outer) (call (.ref 112) [.str ⟨x⟩ tx, .int (hd' : Int) th]) Q E s := by
  match hd', hh with
  | 0, _ => exact done_claim0 B F X N T hk hdp hun hx hret
  | 1, _ => exact done_claim1 B F X N T hk hdp hun hx hret
  | 2, _ => exact done_claim2 B F X N T hk hdp hun hx hlow hret
end Mine
end U1
section U2
open PySem PySem.W PyProof.Rows PySem.Calls PySem.Spec PyProof.V PySem.SeqAt
set_option maxRecDepth 100000
namespace Mine
theorem strs_snoc' {us : List Value} {xs : List Str} (h : StrsAre us xs) (a : Str) (t : Tok) : StrsAre (us ++ [.str a t]) (xs ++ [a]) := by
  induction h with
  | nil => exact .cons a t .nil
  | cons b u _ ih => exact .cons b u ih
section
variable {prog : Program} {w : World} {A : Around} {s : Shared} {h₀ : Heap} {L : Addr} {m : Str → Option Value} {env : Env}
theorem ints_at {us : List Value} {ks : List Nat} (h : IntsAre us (intsL ks)) {i : Nat} {v : Value} (hv : us.toArray[i]? = some v) : ∃ n t, ks[i]? = some n ∧ v = .int (n : Int) t := by
  induction ks generalizing us i with
  | nil => cases h; simp at hv
  | cons k ks ih =>
    cases h with
    | cons _ t h2 =>
      cases i with
      | zero => simp at hv; exact ⟨k, t, rfl, hv.symm⟩
      | succ i =>
        obtain ⟨n, t', e1, e2⟩ := ih h2 (i := i) (by simpa using hv)
        exact ⟨n, t', by simpa using e1, e2⟩
open LCg LCt in
theorem compT_filter {ct elt : PySem.Expr} {x : Str} {scope : Scope} {cl : List (Str × Addr)} {news : List (Addr × Obj)} {S : List (Addr × Obj) → Prop} {Fin : List Value → List (Addr × Obj) → Prop} {us : List Value} {ks : List Nat} (p : Nat → Bool) (hI : IntsAre us (intsL ks))
    (turn : ∀ (n : Nat) t I oI C oC D m₂ ys h tk (E' : Value → Shared → Prop) (K1 K2 : Value → List (Addr × Obj) → Prop), n ∈ ks → NsObj oC m₂ → m₂ x = some (.int (n : Int) t) → Fr h₀ L h m → News h₀ L h ((I, oI) :: (C, oC) :: (D, lst ys) :: news) → Off3 I C D news → ((@Ne Nat I C) ∧ (@Ne Nat I D) ∧ (@Ne Nat C D)) →
      (p n = true → ∀ t', K1 (.int (n : Int) t') news) → (p n = false → K2 .none news) →
      wpAny (model prog w) A (isTrue ct (compEnvC scope cl C env) (eval ct (compEnvC scope cl C env))) (fun ok s' => if ok = true then
        wpAny (model prog w) A (eval elt (compEnvC scope cl C env)) (CompEnd h₀ L m { s with heap := h, toks := tk } I oI C oC D (lst ys) S K1) E' s'
        else CompEnd h₀ L m { s with heap := h, toks := tk } I oI C oC D (lst ys) S K2 Value.none s') E' { s with heap := h, toks := tk })
    (fin : ∀ ys, IntsAre ys (intsL (ks.filter p)) → Fin ys news) :
    CompRestT prog w A h₀ L m env ct elt x scope cl s S (fun i v => us.toArray[i]? = some v) Fin us.toArray.size 0 [] news := by
  have hlen : us.length = ks.length := by have := hI.length; rw [intsL, List.length_map] at this; exact this
  suffices H : ∀ (k i : Nat) (ys : List Value), i + k = ks.length → IntsAre ys (intsL ((ks.take i).filter p)) → CompRestT prog w A h₀ L m env ct elt x scope cl s S (fun i v => us.toArray[i]? = some v) Fin k i ys news by
    exact H us.toArray.size 0 [] (by simp [hlen]) .nil
  intro k
  induction k with
  | zero =>
    intro i ys hi hys
    refine CompRestT.zero (fin ys ?_)
    rw [List.take_of_length_le (by lia)] at hys; exact hys
  | succ k ih =>
    intro i ys hi hys
    refine CompRestT.succ ?_
    intro v I oI C oC D m₂ h tk E' hv hC hx F N off ne
    obtain ⟨n, t, hn, rfl⟩ := ints_at hI hv
    have htk : ks.take (i + 1) = ks.take i ++ [n] := by rw [List.take_add_one, hn]; rfl
    refine turn n t I oI C oC D m₂ ys h tk E' _ _ (List.mem_of_getElem? hn) hC hx F N off ne (fun hp t' => ?_) (fun hp => ?_)
    · refine ih (i + 1) _ (by lia) ?_
      rw [htk, List.filter_append, List.filter_cons, hp, if_pos rfl, List.filter_nil, intsL, List.map_append]
      exact ints_snoc hys _ _
    · refine ih (i + 1) _ (by lia) ?_
      rw [htk, List.filter_append, List.filter_cons, hp, if_neg (by simp), List.filter_nil, List.append_nil]
      exact hys
open LCg in
theorem compU_map {elt : PySem.Expr} {x : Str} {scope : Scope} {cl : List (Str × Addr)} {news : List (Addr × Obj)} {S : List (Addr × Obj) → Prop} {Fin : List Value → List (Addr × Obj) → Prop} {us : List Value} {ks : List Nat} (f : Nat → Str) (hI : IntsAre us (intsL ks))
    (turn : ∀ (n : Nat) t I oI C oC D m₂ ys h tk (E' : Value → Shared → Prop) (K1 : Value → List (Addr × Obj) → Prop), n ∈ ks → NsObj oC m₂ → m₂ x = some (.int (n : Int) t) → Fr h₀ L h m → News h₀ L h ((I, oI) :: (C, oC) :: (D, lst ys) :: news) → Off3 I C D news → ((@Ne Nat I C) ∧ (@Ne Nat I D) ∧ (@Ne Nat C D)) →
      (∀ t', K1 (.str (f n) t') news) →
      wpAny (model prog w) A (eval elt (compEnvC scope cl C env)) (CompEnd h₀ L m { s with heap := h, toks := tk } I oI C oC D (lst ys) S K1) E' { s with heap := h, toks := tk })
    (fin : ∀ ys, StrsAre ys (ks.map f) → Fin ys news) :
    CompRest prog w A h₀ L m env elt x scope cl s S (fun i v => us.toArray[i]? = some v) Fin us.toArray.size 0 [] news := by
  have hlen : us.length = ks.length := by have := hI.length; rw [intsL, List.length_map] at this; exact this
  suffices H : ∀ (k i : Nat) (ys : List Value), i + k = ks.length → StrsAre ys ((ks.take i).map f) → CompRest prog w A h₀ L m env elt x scope cl s S (fun i v => us.toArray[i]? = some v) Fin k i ys news by
    exact H us.toArray.size 0 [] (by simp [hlen]) .nil
  intro k
  induction k with
  | zero =>
    intro i ys hi hys
    refine CompRest.zero (fin ys ?_)
    rw [List.take_of_length_le (by lia)] at hys; exact hys
  | succ k ih =>
    intro i ys hi hys
    refine CompRest.succ ?_
    intro v I oI C oC D m₂ h tk E' hv hC hx F N off ne
    obtain ⟨n, t, hn, rfl⟩ := ints_at hI hv
    have htk : ks.take (i + 1) = ks.take i ++ [n] := by rw [List.take_add_one, hn]; rfl
    refine turn n t I oI C oC D m₂ ys h tk E' _ (List.mem_of_getElem? hn) hC hx F N off ne (fun t' => ?_)
    refine ih (i + 1) _ (by lia) ?_
    rw [htk, List.map_append]
    exact strs_snoc' hys _ _
end
end Mine
end U2
section W7
open PySem PySem.W PyProof.Rows PySem.Calls PySem.Spec PyProof.V PySem.SeqAt
set_option pp.structureInstances false
set_option maxRecDepth 100000
set_option maxHeartbeats 8000000
namespace Mine
local macro_rules | `(tactic| walk_at "call ref") => `(tactic| refine Hold.out ?_)
local macro_rules | `(tactic| walk_at "pyIter ref") => `(tactic| refine Hold.out ?_)
local macro_rules | `(tactic| walk_at "exec For") => `(tactic| ((rename Fr _ _ _ _ => lF'); (with_unfolding_all refine' For_invVF lF' ?k1 ?k2 ?_; (case k1 => exact rfl); (case k2 => exact rfl); k_whole)))
local macro_rules | `(tactic| walk_at "READS") => `(tactic| (repeat' (first | exact trivial | refine And.intro rfl ?_)))
noncomputable def MarkH : Prop := True
local macro_rules | `(tactic| walk_at "exec Assign") => `(tactic| ((with_reducible rename MarkH => hM'); clear hM'; refine Hold.out ?_))
local macro_rules | `(tactic| walk_at "call builtin:list.append") => `(tactic| refine Hold.out ?_)
local macro_rules | `(tactic| walk_at "exec Assign cons ListComp") => `(tactic| refine Hold.out ?_)
local macro_rules | `(tactic| walk_at "CompSrcT") => `(tactic| refine Hold.out ?_)
local macro_rules | `(tactic| walk_at "CompEnd") => `(tactic| refine Hold.out ?_)
local macro_rules | `(tactic| walk_at "subscriptTail") => `(tactic| refine Hold.out ?_)
noncomputable def feedsN (l : List Nat) : Nat := ((numsGo 0 l).filter fun n => decide (63 < n) && n % 64 == 10).length
theorem news_rot1 {h₀ h : Heap} {L : Addr} {a b : Addr × Obj} {r : List (Addr × Obj)} (N : News h₀ L h (a :: b :: r)) : News h₀ L h (b :: a :: r) := fun p hp => N p (by
  simp only [List.mem_cons] at hp ⊢
  rcases hp with h | h | h
  · exact .inr (.inl h)
  · exact .inl h
  · exact .inr (.inr h))
theorem nums_len : ∀ (l : List Nat) (v : Nat), (numsGo v l).length ≤ l.length := by
  intro l
  induction l with
  | nil => intro v; simp [numsGo]
  | cons c l ih =>
    intro v
    rw [numsGo]
    split
    · have := ih 0; simp; lia
    · have := ih (v * 64 + c % 64); simp; lia
theorem news_rot4 {h₀ h : Heap} {L : Addr} {a b c d e : Addr × Obj} {r : List (Addr × Obj)} (N : News h₀ L h (a :: b :: c :: d :: e :: r)) : News h₀ L h (e :: a :: b :: c :: d :: r) := fun p hp => N p (by
  simp only [List.mem_cons] at hp ⊢
  rcases hp with h | h | h | h | h | h
  · exact .inr (.inr (.inr (.inr (.inl h))))
  · exact .inl h
  · exact .inr (.inl h)
  · exact .inr (.inr (.inl h))
  · exact .inr (.inr (.inr (.inl h)))
  · exact .inr (.inr (.inr (.inr (.inr h)))))
theorem blk11 {w : World} {mean : ExcName → Option Value} {mg mb : Str → Option Value} {rest : List Stmt}
  {dp un : Nat} {gd : Option (List Code)} {a : Addr} {ccd : Value} {A₀ : Around} {base : Heap} {L : Addr} {s : Shared} {Q : Flow → Shared → Prop}
  {u0 : Str → Option Value} {led : List (Addr × Obj)} {DT : Addr} {tot : Int} {t0 t1 t7 : Tok} {c0 : Nat} {vo : Value} {tx : Nat → List Nat} {hn : Nat → Nat}
  (B : Below A₀ base [] base) (F : Fr base L s.heap (kstB u0 [("texts", .ref DT), ("other", vo), ("total", .int tot t7)])) (X : (hd.heap_39 w.params).In base)
  (N : News base L s.heap ((DT, listOf #[mkT false (tx 0).toArray t0] c0) :: led)) (hDT : ∀ p ∈ led, p.1 < DT) (T : Top hd.view_39 loose mean mg mb base)
  (hdp : dp + 20 < recursionLimit) (hun : un + 600 < cLine)
  (h0 : (tot.fdiv (3 ^ 0)).fmod 3 = (hn 0 : Int)) (h1 : (tot.fdiv (3 ^ 1)).fmod 3 = (hn 1 : Int)) (hn3 : ∀ i, i < 2 → hn i < 3) (hst : ∀ i, i < 2 → tx (i + 1) = handL (hn i) (tx i)) (hlen : ∀ i, i ≤ 2 → (tx i).length ≤ 100) (hlow : ∀ i, i ≤ 2 → ∀ c ∈ tx i, c < 128)
  (k : ∀ h' tk' DG DB vs gs bs c1 c2 c3 u, Fr base L h' (kstB u [("bent", .ref DB), ("grown", .ref DG), ("texts", .ref DT), ("other", vo), ("total", .int tot t7)]) →
    News base L h' ((DT, listOf (List.toArray vs) c1) :: (DG, listOf (List.toArray gs) c2) :: (DB, listOf (List.toArray bs) c3) :: led) → DT < DG → DG < DB → 
    StrsAre vs ((List.range 3).map fun j => ⟨(tx j).toArray⟩) → IntsAre gs ((List.range 2).map fun i => ((tx (i + 1)).length : Int) - (tx i).length) → IntsAre bs ((List.range 2).map fun i => if hn i < 2 then (feedsN (tx i) : Int) else 0) →
    wpAny (model PySem.Challenge.pw_ta0009_01 w) (ktrTop dp un gd "law" lawSc.1 L a ccd (lawCl L) []) (execs rest (envX "law" lawSc.1 L a ccd (lawCl L))) Q (fun _ _ => False) { s with heap := h', toks := tk' }) :
  wpAny (model PySem.Challenge.pw_ta0009_01 w) (ktrTop dp un gd "law" lawSc.1 L a ccd (lawCl L) []) (execs (st9.1 :: st10.1 :: st11.1 :: rest) (envX "law" lawSc.1 L a ccd (lawCl L))) Q (fun _ _ => False) s := by
  dsimp only [lawSc, st9, st10, st11, lawCl]
  k_steps
  rename_i DG hg1 lg hg2 DB hb1 lb hb2 _ _ h5 tk5 ta tb tc hr F5 N5 hk5
  refine Hold.mk ?_
  have N6 : News base L h5 ((DT, listOf (List.toArray [mkT false (tx 0).toArray t0]) c0) :: (DG, listOf (List.toArray []) 0) :: (DB, listOf (List.toArray []) 0) :: led) := fun p hp => N5 p (by
    simp only [List.mem_cons] at hp ⊢
    rcases hp with h | h | h | h
    · exact .inr (.inr (.inl h))
    · exact .inr (.inl h)
    · exact .inl h
    · exact .inr (.inr (.inr h)))
  clear N5
  have hled : ∀ p ∈ led, p.1 ≠ DT ∧ p.1 ≠ DG ∧ p.1 ≠ DB := fun p hp => ⟨Nat.ne_of_lt (hDT p hp), Nat.ne_of_lt (kst_ltOf lg.2 p hp), Nat.ne_of_lt (kst_ltOf lb.2.2 p hp)⟩
  refine range_inv0 (σ := (List Value × Nat) × (List Value × Nat) × (List Value × Nat)) (n := 2) (fun c => (DT, listOf (List.toArray c.1.1) c.1.2) :: (DG, listOf (List.toArray c.2.1.1) c.2.1.2) :: (DB, listOf (List.toArray c.2.2.1) c.2.2.2) :: led)
    (fun c => [("bent", .ref DB), ("grown", .ref DG), ("texts", .ref DT), ("other", vo), ("total", .int tot t7)])
    (fun i c => StrsAre c.1.1 ((List.range (i + 1)).map fun j => ⟨(tx j).toArray⟩) ∧ IntsAre c.2.1.1 ((List.range i).map fun i => ((tx (i + 1)).length : Int) - (tx i).length) ∧ IntsAre c.2.2.1 ((List.range i).map fun i => if hn i < 2 then (feedsN (tx i) : Int) else 0))
    (([_], c0), ([], 0), ([], 0)) rfl hr (by decide) (by decide) F5 N6 (by walk_at "READS") ⟨.cons _ _ .nil, .nil, .nil⟩ ?_ ?_
  · clear F5 N6 hr hk5
    rintro ⟨⟨vs, c1⟩, ⟨gs, c2⟩, ⟨bs, c3⟩⟩ i t u h tk own hi hoff ⟨hvs, hgs, hbs⟩ F N
    dsimp only at hvs hgs hbs hoff F N ⊢
    change Fr base L h _ at F
    change News base L h _ at N
    have hM : MarkH := trivial
    k_steps
    refine Hold.mk ?_
    refine seq_then (fun s' => ∃ h' tk' th, s' = { s with heap := h', toks := tk' } ∧ Fr base L h' (fun y => if y = "hand" then some (.int (hn i : Int) th) else if y = "place" then some (.int (i : Int) t) else kstB u [("bent", .ref DB), ("grown", .ref DG), ("texts", .ref DT), ("other", vo), ("total", .int tot t7)] y) ∧
      News base L h' ((DT, listOf (List.toArray vs) c1) :: (DG, listOf (List.toArray gs) c2) :: (DB, listOf (List.toArray bs) c3) :: (led ++ own))) ?_ ?_
    · obtain rfl | rfl : i = 0 ∨ i = 1 := by lia
      · k_steps
        rename_i FZ NZ
        rw [show (((0 : Nat) : Int).toNat) = 0 from rfl, h0] at FZ
        exact Hold.mk ⟨rfl, _, _, _, rfl, FZ, NZ⟩
      · k_steps
        rename_i FZ NZ
        rw [show (((1 : Nat) : Int).toNat) = 1 from rfl, h1] at FZ
        exact Hold.mk ⟨rfl, _, _, _, rfl, FZ, NZ⟩
    · rintro s' ⟨h', tk', th, rfl, F2, N2⟩
      clear F N
      have hxi : ((List.range (i + 1)).map fun j => (⟨(tx j).toArray⟩ : Str))[i]? = some ⟨(tx i).toArray⟩ := by simp
      have hln : ((List.range (i + 1)).map fun j => (⟨(tx j).toArray⟩ : Str)).length = i + 1 := by simp
      have hl0 := hlen i (by lia)
      k_steps
      refine Hold.mk ?_
      refine seq_item (k := true) ⟨_, _, _, rfl, .head _, hvs⟩ N2 (by rw [hln]; lia) (.inr (by rw [hln]; lia)) hxi (fun _ => rfl) (fun t9 tk9 => ?_)
      k_steps
      rename_i h3 F3 N3
      refine Hold.mk ?_
      k_dflt (refine' hand_any B F3 X N3 T rfl ?hdp ?hun ?_ (hn3 i hi) ?_; (case hdp => lia); (case hun => lia))
      · simpa using hl0
      intro t10 h4 tk4 F4 N4
      rw [show (tx i).toArray.toList = tx i from rfl, ← hst i hi]
      clear F3 N3
      have hap : ∀ p ∈ led ++ own, p.1 ≠ DT ∧ p.1 ≠ DG ∧ p.1 ≠ DB := by
        intro p hp
        rcases List.mem_append.mp hp with hp | hp
        · exact hled p hp
        · exact ⟨hoff.ne (.head _) p hp, hoff.ne (.tail _ (.head _)) p hp, hoff.ne (.tail _ (.tail _ (.head _))) p hp⟩
      have hvl : vs.length = i + 1 := by rw [hvs.length, hln]
      k_steps
      refine Hold.mk ?_
      refine append_item F4 N4 (fun p hp => ?_) (fun h5 F5 N5 => ?_) (by simp; lia)
      · rcases List.mem_cons.mp hp with rfl | hp
        · exact Nat.ne_of_gt lg.1
        rcases List.mem_cons.mp hp with rfl | hp
        · exact Nat.ne_of_gt lb.2.1
        · exact (hap p hp).1
      clear F4 N4
      rw [List.push_toArray] at N5
      have hvs2 : StrsAre (vs ++ [.str ⟨(tx (i + 1)).toArray⟩ t10]) ((List.range (i + 1 + 1)).map fun j => ⟨(tx j).toArray⟩) := by
        rw [List.range_succ (n := i + 1), List.map_append]; exact strs_snoc hvs _ _
      have hxi2 : ((List.range (i + 1 + 1)).map fun j => (⟨(tx j).toArray⟩ : Str))[i + 1]? = some ⟨(tx (i + 1)).toArray⟩ := by simp
      have hln2 : ((List.range (i + 1 + 1)).map fun j => (⟨(tx j).toArray⟩ : Str)).length = i + 1 + 1 := by simp
      k_steps
      refine Hold.mk ?_
      k_dflt (refine' done_any B F5 X N5 T rfl ?hdp ?hun ?_ (hn3 i hi) ?_ ?_; (case hdp => lia); (case hun => lia))
      · simpa using hl0
      · intro _ c hc
        have := hlow i (by lia) c hc
        lia
      intro t11 h6 tk6 F6 N6
      rw [show (tx i).toArray.toList = tx i from rfl, ← hst i hi]
      clear F5 N5
      k_steps
      refine Hold.mk ?_
      refine seq_item (k := true) ⟨_, _, _, rfl, .head _, hvs2⟩ N6 (by rw [hln2]; lia) (.inr (by rw [hln2]; lia)) hxi2 (fun _ => rfl) (fun t12 tk12 => ?_)
      k_steps
      · rename_i hc
        exact absurd hc (by simp)
      refine Hold.mk ?_
      refine seq_item (k := true) ⟨_, _, _, rfl, .head _, hvs2⟩ N6 (by rw [hln2]; lia) (.inr (by rw [hln2]; lia)) hxi2 (fun _ => rfl) (fun t13 tk13 => ?_)
      have hl1 : (Str.mk (tx (i + 1)).toArray).length ≤ 100 := by rw [len_mk]; exact hlen (i + 1) (by lia)
      have hl2 : (Str.mk (tx i).toArray).length ≤ 100 := by rw [len_mk]; exact hl0
      k_steps
      refine Hold.mk ?_
      have NG : News base L h6 ((DG, listOf (List.toArray gs) c2) :: (DT, listOf (List.toArray (vs ++ [Value.str ⟨(tx (i + 1)).toArray⟩ t10])) (c1 + 1)) :: (DB, listOf (List.toArray bs) c3) :: (led ++ own)) := news_rot1 N6
      have hgl : gs.length = i := by rw [hgs.length]; simp
      have hbl : bs.length = i := by rw [hbs.length]; simp
      refine append_item F6 NG (fun p hp => ?_) (fun h7 F7 N7 => ?_) (by simp; lia)
      · rcases List.mem_cons.mp hp with rfl | hp
        · exact Nat.ne_of_lt lg.1
        rcases List.mem_cons.mp hp with rfl | hp
        · exact Nat.ne_of_gt lb.1
        · exact (hap p hp).2.1
      clear F6 N6 NG
      rw [List.push_toArray] at N7
      obtain ⟨tg, N7'⟩ : ∃ tg, News base L h7 ((DG, listOf (List.toArray (gs ++ [Value.int (((Str.mk (tx (i + 1)).toArray).length : Int) - (Str.mk (tx i).toArray).length) tg])) (c2 + 1)) :: (DT, listOf (List.toArray (vs ++ [Value.str ⟨(tx (i + 1)).toArray⟩ t10])) (c1 + 1)) :: (DB, listOf (List.toArray bs) c3) :: (led ++ own)) := ⟨_, N7⟩
      clear N7
      have N7 := N7'
      clear N7'
      k_steps
      refine Hold.mk ?_
      k_dflt (refine LCt.Assign_ListComp_T (F₀ := F7) (by rfl) (by with_unfolding_all rfl) (by with_unfolding_all rfl) (by decide) (by rfl) (by decide) (by rfl) (by rfl) (by rfl) ?_)
      k_steps
      refine Hold.mk ?_
      k_dflt (refine' nums_claim B F7 X N7 T rfl ?hdp ?hun ?_ ?_; (case hdp => lia); (case hun => lia))
      · simpa using hl0
      intro Dn us cn h8 tk8 F8 N8 lD hI
      rw [show (tx i).toArray.toList = tx i from rfl] at hI
      k_steps
      refine Hold.mk ?_
      have hul : us.length ≤ 100 := by
        have h1 := hI.length
        have h2 := nums_len (tx i) 0
        rw [intsL, List.length_map] at h1
        lia
      refine LCt.CompSrcT.ledger rfl F8 N8 (.head _) (by simp; unfold sizeLine; lia) (fun g => ?_)
      clear F8 N8
      refine compT_filter (fun n => decide (63 < n) && n % 64 == 10) hI ?_ ?_
      · intro n tn I oI C oC D m₂ ys h tk E' K1 K2 hnk hC hx F2 N2 off ne k1 k2
        have cE := InElt.start h
        have hfm : ((n : Int)).fmod 64 = ((n % 64 : Nat) : Int) := by rw [Int.fmod_eq_emod_of_nonneg _ (by decide)]; lia
        k_steps
        · rename_i q1 q2
          rw [hfm] at q2
          have q3 : n % 64 = 10 := by lia
          have q4 : 63 < n := by lia
          exact Hold.mk (LCg.CompEnd.intro F2 N2 _ (fun p hp => hp) off (.inr ⟨_, .head _, rfl, _, rfl⟩) (k1 (by simp [q3, q4]) _))
        · rename_i q1 q2
          rw [hfm] at q2
          have q3 : ¬ n % 64 = 10 := by lia
          exact Hold.mk (LCg.CompEnd.intro F2 N2 _ (fun p hp => hp) off (.inr ⟨_, .head _, rfl, _, rfl⟩) (k2 (by simp [q3])))
        · rename_i q1
          have q4 : ¬ 63 < n := by lia
          exact Hold.mk (LCg.CompEnd.intro F2 N2 _ (fun p hp => hp) off (.inr ⟨_, .head _, rfl, _, rfl⟩) (k2 (by simp [q4])))
      · intro ys hys D9 h9 tk9 F9 N9 off9
        have hyl : ys.length = feedsN (tx i) := by have h1 := hys.length; rw [intsL, List.length_map] at h1; exact h1
        have hyl2 : ys.length ≤ 100 := by
          have h2 := nums_len (tx i) 0
          have h3 := List.length_filter_le (fun n => decide (63 < n) && n % 64 == 10) (numsGo 0 (tx i))
          unfold feedsN at hyl
          lia
        dsimp only
        have hapB : ∀ (oG oT : Obj), ∀ p ∈ (D9, LCg.lst ys) :: (Dn, listOf us.toArray cn) :: (DG, oG) :: (DT, oT) :: (led ++ own), p.1 ≠ DB := by
          intro oG oT p hp
          rcases List.mem_cons.mp hp with rfl | hp
          · exact fun e => off1_mem off9 _ (.tail _ (.tail _ (.tail _ (.head _)))) e.symm
          rcases List.mem_cons.mp hp with rfl | hp
          · exact Nat.ne_of_gt (lD _ (.tail _ (.tail _ (.head _))))
          rcases List.mem_cons.mp hp with rfl | hp
          · exact Nat.ne_of_lt lb.1
          rcases List.mem_cons.mp hp with rfl | hp
          · exact Nat.ne_of_lt lb.2.1
          · exact (hap p hp).2.2
        k_steps
        · rename_i hlt
          have hlt' : hn i < 2 := by lia
          refine len_list (SeqV.isList N9 (.head _)) (by simp; lia) ?_
          k_steps
          refine Hold.mk ?_
          refine append_item F9 (news_rot4 N9) (hapB _ _) (fun h10 F10 N10 => ?_) (by simp; lia)
          rw [List.push_toArray, show (((List.toArray ys).size : Nat) : Int) = (if hn i < 2 then (feedsN (tx i) : Int) else 0) by rw [if_pos hlt', List.size_toArray, hyl]] at N10
          k_steps
          obtain ⟨tb, NZ⟩ : ∃ tb, News base L h10 ((DB, listOf (List.toArray (bs ++ [Value.int (if hn i < 2 then (feedsN (tx i) : Int) else 0) tb])) (c3 + 1)) :: (D9, LCg.lst ys) :: (Dn, listOf us.toArray cn) :: (DG, listOf (List.toArray (gs ++ [Value.int (((Str.mk (tx (i + 1)).toArray).length : Int) - (Str.mk (tx i).toArray).length) tg])) (c2 + 1)) :: (DT, listOf (List.toArray (vs ++ [Value.str ⟨(tx (i + 1)).toArray⟩ t10])) (c1 + 1)) :: (led ++ own)) := ⟨_, N10⟩
          refine rj_end ((vs ++ [Value.str ⟨(tx (i + 1)).toArray⟩ t10], c1 + 1), (gs ++ [Value.int (((Str.mk (tx (i + 1)).toArray).length : Int) - (Str.mk (tx i).toArray).length) tg], c2 + 1), (bs ++ [Value.int (if hn i < 2 then (feedsN (tx i) : Int) else 0) tb], c3 + 1)) F10 NZ ?_ ?_ rfl (by walk_at "READS") ⟨hvs2, ?_, ?_⟩
          · intro p hp
            simp only [List.mem_cons, List.mem_append] at hp ⊢
            rcases hp with h | h | h | h
            · exact .inr (.inr (.inr (.inr (.inl h))))
            · exact .inr (.inr (.inr (.inl h)))
            · exact .inl h
            · exact .inr (.inr (.inr (.inr (.inr (.inl h)))))
          · intro p hp
            exact .tail _ (.tail _ (.tail _ (.tail _ (.tail _ (List.mem_append_right _ hp)))))
          · dsimp only
            rw [List.range_succ, List.map_append, len_mk, len_mk]
            exact ints_snoc hgs _ _
          · dsimp only
            rw [List.range_succ, List.map_append]
            exact ints_snoc hbs _ _
        · rename_i hlt
          have hlt' : ¬ hn i < 2 := by lia
          refine Hold.mk ?_
          refine append_item F9 (news_rot4 N9) (hapB _ _) (fun h10 F10 N10 => ?_) (by simp; lia)
          rw [List.push_toArray] at N10
          have hz0 : (0 : Int) = (if hn i < 2 then (feedsN (tx i) : Int) else 0) := by rw [if_neg hlt']
          k_steps
          obtain ⟨tb, NZ⟩ : ∃ tb, News base L h10 ((DB, listOf (List.toArray (bs ++ [Value.int (if hn i < 2 then (feedsN (tx i) : Int) else 0) tb])) (c3 + 1)) :: (D9, LCg.lst ys) :: (Dn, listOf us.toArray cn) :: (DG, listOf (List.toArray (gs ++ [Value.int (((Str.mk (tx (i + 1)).toArray).length : Int) - (Str.mk (tx i).toArray).length) tg])) (c2 + 1)) :: (DT, listOf (List.toArray (vs ++ [Value.str ⟨(tx (i + 1)).toArray⟩ t10])) (c1 + 1)) :: (led ++ own)) := by rw [← hz0]; exact ⟨_, N10⟩
          refine rj_end ((vs ++ [Value.str ⟨(tx (i + 1)).toArray⟩ t10], c1 + 1), (gs ++ [Value.int (((Str.mk (tx (i + 1)).toArray).length : Int) - (Str.mk (tx i).toArray).length) tg], c2 + 1), (bs ++ [Value.int (if hn i < 2 then (feedsN (tx i) : Int) else 0) tb], c3 + 1)) F10 NZ ?_ ?_ rfl (by walk_at "READS") ⟨hvs2, ?_, ?_⟩
          · intro p hp
            simp only [List.mem_cons, List.mem_append] at hp ⊢
            rcases hp with h | h | h | h
            · exact .inr (.inr (.inr (.inr (.inl h))))
            · exact .inr (.inr (.inr (.inl h)))
            · exact .inl h
            · exact .inr (.inr (.inr (.inr (.inr (.inl h)))))
          · intro p hp
            exact .tail _ (.tail _ (.tail _ (.tail _ (.tail _ (List.mem_append_right _ hp)))))
          · dsimp only
            rw [List.range_succ, List.map_append, len_mk, len_mk]
            exact ints_snoc hgs _ _
          · dsimp only
            rw [List.range_succ, List.map_append]
            exact ints_snoc hbs _ _
  · clear F5 N6
    rintro ⟨⟨vs, c1⟩, ⟨gs, c2⟩, ⟨bs, c3⟩⟩ u h tk ⟨hvs, hgs, hbs⟩ F N
    dsimp only at hvs hgs hbs F N ⊢
    change Fr base L h _ at F
    change News base L h _ at N
    exact k _ _ DG DB vs gs bs c1 c2 c3 u F N lg.1 lb.1 hvs hgs hbs
end Mine
end W7
section U4
open PySem PySem.W PyProof.Rows PySem.Calls PySem.Spec PyProof.V PySem.SeqAt
set_option maxRecDepth 100000
namespace Mine
noncomputable def GEnd (h₀ : Heap) (L : Addr) (J : (Str → Option Value) → List (Addr × Obj) → Prop) (own : List (Addr × Obj)) (s₁ s₂ : Shared) : Prop :=
  ∃ h' tk m' news' nx, s₂ = { s₁ with heap := h', toks := tk } ∧ Fr h₀ L h' m' ∧ News h₀ L h' news' ∧ (∀ p ∈ nx, p ∈ news') ∧ (∀ p ∈ own, p ∈ news') ∧ OwnOff own (nx.map (·.1)) ∧ J m' nx
noncomputable def GPost (h₀ : Heap) (L : Addr) (J : (Str → Option Value) → List (Addr × Obj) → Prop) (own : List (Addr × Obj)) (s₁ : Shared) (Q : Flow → Shared → Prop) (f : Flow) (s₂ : Shared) : Prop :=
  match f with
  | .ret v => Q (.ret v) s₂
  | .brk => Q .next s₂
  | _ => GEnd h₀ L J own s₁ s₂
theorem g_end {σ : Type} {Led : σ → List (Addr × Obj)} {ps : σ → List (Str × Value)} {P : Nat → σ → Prop} {i : Nat} (c : σ) {h₀ : Heap} {L : Addr} {m' : Str → Option Value} {own news' : List (Addr × Obj)} {s₁ : Shared} {h' : Heap} {tk : Nat}
    (F : Fr h₀ L h' m') (N : News h₀ L h' news') (hn : ∀ p ∈ Led c, p ∈ news') (ho : ∀ p ∈ own, p ∈ news') (ha : OwnOff own ((Led c).map (·.1))) (hk : AllRead m' (ps c)) (hp : P i c) :
    GEnd h₀ L (RJ Led ps P i) own s₁ { s₁ with heap := h', toks := tk } := ⟨h', tk, m', news', Led c, rfl, F, N, hn, ho, ha, c, rfl, hk, hp⟩
section
variable {prog : Program} {w : World} {A : Around} {E : Value → Shared → Prop} {Q : Flow → Shared → Prop} {s : Shared} {env : Env} {h₀ : Heap} {x : Str} {body : List Stmt}
theorem list_invG {σ : Type} {ax : Addr} {its : Array Value} {m₀ : Str → Option Value} (Led : σ → List (Addr × Obj)) (ps : σ → List (Str × Value)) (P : Nat → σ → Prop) (c₀ : σ)
    (hh : A.handled = none) (hl : s.heap.IsList ax its) (hax : ax ≠ env.locals) (hax0 : h₀.get? ax = none) (hap : ∀ p ∈ Led c₀, p.1 ≠ ax) (F : Fr h₀ env.locals s.heap m₀) (N : News h₀ env.locals s.heap (Led c₀)) (hk : AllRead m₀ (ps c₀)) (hp : P 0 c₀)
    (turn : ∀ (c : σ) (i : Nat) (v : Value) (u : Str → Option Value) h tk own, its[i]? = some v → OwnOff own ((Led c).map (·.1)) → P i c →
      Fr h₀ env.locals h (fun y => if y = x then some v else kstB u (ps c) y) → News h₀ env.locals h (Led c ++ own) →
      wpAny (model prog w) A (execs body env) (GPost h₀ env.locals (RJ Led ps P (i + 1)) own { s with heap := h, toks := tk } Q) E { s with heap := h, toks := tk })
    (done : ∀ (c : σ) (u : Str → Option Value) h tk, P its.size c → Fr h₀ env.locals h (kstB u (ps c)) → News h₀ env.locals h (Led c) → Q .next { s with heap := h, toks := tk }) :
    wpAny (model prog w) A (pyIter (.ref ax)) (fun it s₂ => LoopAtV prog w A h₀ env x body Q E it s₂) E s := by
  have hlt : ax < s.heap.objs.size := by obtain ⟨_, e, _⟩ := hl; exact Heap.lt_size e
  have hne : ax ≠ s.heap.objs.size := Nat.ne_of_lt hlt
  have hI0 : h₀.get? s.heap.objs.size = none := next_is_new F
  refine wpAny_pyIter_list hl ?_
  have W := Walks.list (prog := prog) (w := w) hh s.heap.objs.size ax hne its
  refine ⟨s.heap.objs.size, _, _, _, _, _, m₀, Led c₀, (fun i m nx => RJ Led ps P i m nx ∧ ∀ p ∈ nx, p.1 ≠ s.heap.objs.size ∧ p.1 ≠ ax), rfl, W, ?_, ?_, ?_, ⟨⟨_, Heap.get?_push_size _ rfl, rfl, rfl⟩, hl.push _⟩, F.push _, (fun p hp => ⟨Heap.get?_push_of_some _ (N p hp).1, (N p hp).2⟩), ⟨⟨c₀, rfl, hk, hp⟩, fun p hp => ⟨Nat.ne_of_lt (Heap.lt_size (N p hp).1), hap p hp⟩⟩, ?_, ?_⟩
  · intro hm
    rcases List.mem_cons.mp hm with e | hm
    · exact absurd F.ns.lt (e ▸ Nat.lt_irrefl _)
    · exact hax (List.mem_singleton.mp hm).symm
  · intro b' hb
    rw [List.mem_singleton.mp hb]
    exact hI0
  · intro p hp hI
    exact absurd (Heap.lt_size (N p hp).1) ((List.mem_singleton.mp hI) ▸ Nat.lt_irrefl _)
  · rintro i v m₁ nx s₁ own ⟨hh', tk', rfl⟩ hin hv ⟨⟨c, rfl, hk', hp'⟩, hsep'⟩ hoff hown hown2 hall hst F₁ N₁
    have hsep : OwnOff own ((Led c).map (·.1)) := by
      intro p hp b hb e
      obtain ⟨q, hq, rfl⟩ := List.mem_map.mp hb
      have h1 := hown p hp
      rw [e] at h1
      rcases List.mem_cons.mp h1 with h1 | h1
      · exact (hsep' q hq).1 h1
      · exact (hsep' q hq).2 (List.mem_singleton.mp h1)
    have N₂ : News h₀ env.locals hh' (Led c ++ own) := fun p hp => N₁ p ((List.mem_append.mp hp).elim (fun h => List.mem_append.mpr (.inr h)) fun h => List.mem_append.mpr (.inl h))
    rw [← kstB_self hk'] at F₁
    obtain ⟨oI, hoI, _⟩ := hst.1
    obtain ⟨oA, hoA, _⟩ := hst.2
    have mI := hall _ (.head _) hI0 _ hoI
    have mA := hall _ (.tail _ (.head _)) hax0 _ hoA
    refine wpAny_mono (turn c i v m₁ hh' tk' own hv hsep hp' F₁ N₂) (fun f s₂ p => ?_) fun _ _ e => e
    have fin : GEnd h₀ env.locals (RJ Led ps P (i + 1)) own { s with heap := hh', toks := tk' } s₂ → LoopStepU h₀ env.locals [s.heap.objs.size] own (fun m nx => RJ Led ps P (i + 1) m nx ∧ ∀ p ∈ nx, p.1 ≠ s.heap.objs.size ∧ p.1 ≠ ax) { s with heap := hh', toks := tk' } .next s₂ := by
      rintro ⟨h', tk, m', news', nx, e, F', N', hn, ho, ha, hm⟩
      have off : ∀ p ∈ nx, p.1 ≠ s.heap.objs.size ∧ p.1 ≠ ax := fun p hp => ⟨fun e => ha _ mI _ (List.mem_map_of_mem hp) e.symm, fun e => ha _ mA _ (List.mem_map_of_mem hp) e.symm⟩
      exact ⟨rfl, h', tk, m', nx, e, F', fun p hp => N' p ((List.mem_append.mp hp).elim (ho p) (hn p)), fun p hp hq => (off p hp).1 (List.mem_singleton.mp hq), hm, off⟩
    cases f with
    | ret v => exact .ret p
    | brk => exact .brk p
    | next => exact .next (fin p)
    | cont => exact .cont (fin p)
  · rintro h' tk m' news' F' N' _ ⟨⟨c, rfl, hk', hp'⟩, _⟩
    rw [← kstB_self hk'] at F'
    exact done c m' h' tk hp' F' N'
end
end Mine
end U4
section U5
open PySem PySem.W PyProof.Rows PySem.Calls PySem.Spec PyProof.V PySem.SeqAt
set_option maxRecDepth 100000
namespace Mine
section
variable {prog : Program} {w : World} {A : Around} {E : Value → Shared → Prop} {s : Shared} {h₀ : Heap} {L : Addr} {m : Str → Option Value} {news : List (Addr × Obj)} {v v' : Value} {xs ys : List Str}
theorem seq_ne {Q : Value → Shared → Prop} (ox : Oks xs) (oy : Oks ys) (hx : SeqV true news v xs) (hy : SeqV true news v' ys) (N : News h₀ L s.heap news) (hu : A.units + 64 < cLine)
    (h : Q (.bool (!decide (xs = ys))) s) : wpAny (model prog w) A (compareOp .NotEq v v') Q E s := by
  obtain ⟨l, n, vs, rfl, hm, hs⟩ := hx
  obtain ⟨l', n', vs', rfl, hm', hs'⟩ := hy
  exact ne_dataH_same (reads_strs (SeqV.isList N hm) hs) (reads_strs (SeqV.isList N hm') hs') (shaped_strs xs ox) (shaped_strs ys oy) hu (by simp only [noMix]; exact noMix_strs xs ys) (by simp only [PySem.Spec.same]; rw [same_strs]; exact h)
theorem list_itemN {l : Addr} {items : Array Value} {n : Nat} {value slice : PySem.Expr} {i : Int} {u : Tok} {x : Value} {Q : Value → Shared → Prop} (hm : (l, listOf items n) ∈ news) (N : News h₀ L s.heap news) (hl : items.size < 2 ^ 62)
    (hi : i < 0) (hi' : -(items.size : Int) ≤ i) (he : items[(i + items.size).toNat]? = some x)
    (hs : ∀ o, subscripted slice false o (.int i u) = operate [o, .int i u] (getItem o (.int i u)))
    (h : Q x s) : wpAny (model prog w) A (subscriptTail value slice (.ref l) (.int i u)) Q E s := by
  have hL : s.heap.IsList l items := ⟨_, N.get hm, rfl, n, rfl⟩
  refine tail_any hL.typeIs slot_list_getitem.lookup ?_ (hs _)
  exact wpAny_getItem_list_neg hL hi hi' (by omega) he h
end
theorem strOk_of (s : String) : PyData.strOk (Str.ofString s) = true := by
  rw [Str.ofString_eq_toList]
  unfold PyData.strOk
  rw [Array.all_eq_true]
  intro i hi
  simp only [List.getElem_toArray, List.getElem_map, decide_eq_true_eq]
  have := (s.toList[i]'(by simpa using hi)).valid
  have h2 : (s.toList[i]'(by simpa using hi)).toNat < 0x110000 := by
    rcases this with h | h
    · exact Nat.lt_trans h (by decide)
    · exact h.2
  exact h2
end Mine
end U5
section W8
open PySem PySem.W PyProof.Rows PySem.Calls PySem.Spec PyProof.V PySem.SeqAt
set_option pp.structureInstances false
set_option maxRecDepth 100000
set_option maxHeartbeats 8000000
namespace Mine
local macro_rules | `(tactic| walk_at "call ref") => `(tactic| refine Hold.out ?_)
local macro_rules | `(tactic| walk_at "pyIter ref") => `(tactic| refine Hold.out ?_)
local macro_rules | `(tactic| walk_at "exec For") => `(tactic| ((rename Fr _ _ _ _ => lF'); (with_unfolding_all refine' For_invVF lF' ?k1 ?k2 ?_; (case k1 => exact rfl); (case k2 => exact rfl); k_whole)))
local macro_rules | `(tactic| walk_at "READS") => `(tactic| (repeat' (first | exact trivial | refine And.intro rfl ?_)))
local macro_rules | `(tactic| walk_at "call builtin:list.append") => `(tactic| refine Hold.out ?_)
local macro_rules | `(tactic| walk_at "CompSrc") => `(tactic| refine Hold.out ?_)
local macro_rules | `(tactic| walk_at "CompEnd") => `(tactic| refine Hold.out ?_)
local macro_rules | `(tactic| walk_at "GPost") => `(tactic| refine Hold.out ?_)
local macro_rules | `(tactic| walk_at "subscriptTail") => `(tactic| refine Hold.out ?_)
local macro_rules | `(tactic| walk_at "binaryOp Add ref ref") => `(tactic| refine Hold.out ?_)
local macro_rules | `(tactic| walk_at "eval ListComp") => `(tactic| (k_dflt (refine LCg.ListComp_U (F₀ := by k_asm) (by with_unfolding_all rfl) (by decide) (by rfl) (by decide) (by rfl) ?_)))
local macro_rules | `(tactic| walk_at "call type:str") => `(tactic| refine PySem.P.str_of_int (by assumption) ?_)
local macro_rules | `(tactic| walk_at "compareOp") => `(tactic| refine Hold.out ?_)
local macro_rules | `(tactic| walk_at "compareOp NotEq ref ref") => `(tactic| refine Hold.out ?_)
theorem news_rot2 {h₀ h : Heap} {L : Addr} {a b c : Addr × Obj} {r : List (Addr × Obj)} (N : News h₀ L h (a :: b :: c :: r)) : News h₀ L h (c :: a :: b :: r) := fun p hp => N p (by
  simp only [List.mem_cons] at hp ⊢
  rcases hp with h | h | h | h
  · exact .inr (.inr (.inl h))
  · exact .inl h
  · exact .inr (.inl h)
  · exact .inr (.inr (.inr h)))
theorem numsGo_lt : ∀ (l : List Nat) (v j : Nat), v < 64 ^ j → ∀ n ∈ numsGo v l, n < 64 ^ (j + l.length) := by
  intro l
  induction l with
  | nil => intro v j _ n hn; simp [numsGo] at hn
  | cons c l ih =>
    intro v j hv n hn
    have h2 : v * 64 + c % 64 < 64 ^ (j + 1) := by rw [Nat.pow_succ]; lia
    rw [numsGo] at hn
    split at hn
    · rcases List.mem_cons.mp hn with rfl | hn
      · exact Nat.lt_of_lt_of_le h2 (Nat.pow_le_pow_right (by decide) (by rw [List.length_cons]; lia))
      · have := ih 0 0 (by decide) n hn
        exact Nat.lt_of_lt_of_le this (Nat.pow_le_pow_right (by decide) (by rw [List.length_cons]; lia))
    · have := ih _ (j + 1) h2 n hn
      rw [List.length_cons, show j + (l.length + 1) = j + 1 + l.length by lia]; exact this
theorem blk13 {w : World} {mean : ExcName → Option Value} {mg mb : Str → Option Value} {rest : List Stmt}
  {dp un : Nat} {gd : Option (List Code)} {a : Addr} {ccd : Value} {A₀ : Around} {base : Heap} {L : Addr} {s : Shared} {Q : Flow → Shared → Prop}
  {u0 : Str → Option Value} {led : List (Addr × Obj)} {DT DG DB : Addr} {vs : List Value} {tot : Int} {t7 tO : Tok} {c1 : Nat} {txs : Nat → List Nat}
  (B : Below A₀ base [] base) (F : Fr base L s.heap (kstB u0 [("bent", .ref DB), ("grown", .ref DG), ("texts", .ref DT), ("other", .str ⟨(txs 0).toArray⟩ tO), ("total", .int tot t7)])) (X : (hd.heap_39 w.params).In base)
  (N : News base L s.heap ((DT, listOf (List.toArray vs) c1) :: led)) (T : Top hd.view_39 loose mean mg mb base)
  (hdp : dp + 20 < recursionLimit) (hun : un + 600 < cLine)
  (hvs : StrsAre vs ((List.range 3).map fun j => ⟨(txs (j + 1)).toArray⟩)) (hlen : ∀ i, i < 4 → (txs i).length ≤ 100) (hlow : ∀ i, i < 4 → ∀ c ∈ txs i, c < 128)
  (k : ∀ h' tk' DR cR (rs : List (Addr × List Value)) u, Fr base L h' (kstB u [("rows", .ref DR), ("bent", .ref DB), ("grown", .ref DG), ("texts", .ref DT), ("other", .str ⟨(txs 0).toArray⟩ tO), ("total", .int tot t7)]) →
    News base L h' ((DR, listOf (List.toArray (rs.map fun r => Value.ref r.1)) cR) :: (rs.map fun r => (r.1, LCg.lst r.2)) ++ (DT, listOf (List.toArray vs) c1) :: led) → (∀ p ∈ (DT, listOf (List.toArray vs) c1) :: led, p.1 < DR) → (∀ r ∈ rs, r.1 ≠ DR) → rs.length = 4 → (∀ j r, rs[j]? = some r → StrsAre r.2 ((numsGo 0 (txs j)).map strN)) →
    wpAny (model PySem.Challenge.pw_ta0009_01 w) (ktrTop dp un gd "law" lawSc.1 L a ccd (lawCl L) []) (execs rest (envX "law" lawSc.1 L a ccd (lawCl L))) Q (fun _ _ => False) { s with heap := h', toks := tk' }) :
  wpAny (model PySem.Challenge.pw_ta0009_01 w) (ktrTop dp un gd "law" lawSc.1 L a ccd (lawCl L) []) (execs (st12.1 :: st13.1 :: rest) (envX "law" lawSc.1 L a ccd (lawCl L))) Q (fun _ _ => False) s := by
  dsimp only [lawSc, st12, st13, lawCl]
  k_steps
  rename_i DR hr1 lR hr2 l0 h2 F2 N2 l2
  refine Hold.mk ?_
  have hvl : vs.length = 3 := by rw [hvs.length]; simp
  refine kmk_add_lit (zs := .str ⟨(txs 0).toArray⟩ tO :: vs) F2 N2 (SeqV.isList (vs := [.str ⟨(txs 0).toArray⟩ tO]) N2 (.head _)) (SeqV.isList N2 (.tail _ (.tail _ (.head _)))) (by simp) (fun D4 h3 F3 N3 l3 => ?_) (by simp; unfold sizeLine; lia)
  k_steps
  refine Hold.mk ?_
  have hD4 : (D4, listOf (List.toArray (.str ⟨(txs 0).toArray⟩ tO :: vs)) 0) ∈ (D4, listOf (List.toArray (.str ⟨(txs 0).toArray⟩ tO :: vs)) 0) :: (l0, listOf #[.str ⟨(txs 0).toArray⟩ tO] 0) :: (DR, listOf #[] 0) :: (DT, listOf (List.toArray vs) c1) :: led := .head _
  have hv4 : StrsAre (.str ⟨(txs 0).toArray⟩ tO :: vs) ((List.range 4).map fun j => ⟨(txs j).toArray⟩) := .cons _ _ hvs
  have hl4 : ∀ p ∈ (DT, listOf (List.toArray vs) c1) :: led, p.1 < DR := by
    intro p hp
    rcases List.mem_cons.mp hp with rfl | hp
    · exact lR.1
    · exact kst_ltOf lR.2 p hp
  refine list_invG (σ := (List Value × Nat) × List (Addr × List Value)) (ax := D4) (fun c => (DR, listOf (List.toArray c.1.1) c.1.2) :: (c.2.map fun r => (r.1, LCg.lst r.2)) ++ (DT, listOf (List.toArray vs) c1) :: led)
    (fun c => [("rows", .ref DR), ("bent", .ref DB), ("grown", .ref DG), ("texts", .ref DT), ("other", .str ⟨(txs 0).toArray⟩ tO), ("total", .int tot t7)])
    (fun i c => c.1.1 = c.2.map (fun r => Value.ref r.1) ∧ (∀ r ∈ c.2, r.1 ≠ DR) ∧ c.2.length = i ∧ (∀ j r, c.2[j]? = some r → StrsAre r.2 ((numsGo 0 (txs j)).map strN)))
    (([], 0), []) rfl (SeqV.isList N3 hD4) (N3 _ hD4).2.1 (N3 _ hD4).2.2 ?ha F3 (fun p hp => N3 p (.tail _ (.tail _ hp))) (by walk_at "READS") ⟨rfl, by simp, rfl, by simp⟩ ?_ ?_
  case ha => exact fun p hp => Nat.ne_of_lt (l3 p (.tail _ hp))
  · clear F3 N3 F2 N2
    rintro ⟨⟨rv, cR⟩, rs⟩ i v u h tk own hv hoff ⟨hrv, hRD, hrl, hrs⟩ F N
    dsimp only at hrv hRD hrl hrs hoff F N ⊢
    change Fr base L h _ at F
    change News base L h _ at N
    have hi : i < 4 := by
      rcases Nat.lt_or_ge i 4 with h1 | h1
      · exact h1
      · rw [Array.getElem?_eq_none (by simp [hvl]; lia)] at hv; cases hv
    obtain ⟨tv, hv2⟩ := strsAre_get hv4 (i := i) (x := ⟨(txs i).toArray⟩) (by simp [hi])
    have hv3 : v = .str ⟨(txs i).toArray⟩ tv := by
      have h1 : (Value.str ⟨(txs 0).toArray⟩ tO :: vs)[i]? = some v := by simpa using hv
      rw [hv2] at h1; exact (Option.some.inj h1).symm
    subst hv3
    have hli := hlen i hi
    obtain ⟨LL, hLL⟩ : ∃ LL, LL = (rs.map fun r => (r.1, LCg.lst r.2)) ++ (DT, listOf (List.toArray vs) c1) :: led ++ own := ⟨_, rfl⟩
    have N1 : News base L h ((DR, listOf (List.toArray rv) cR) :: LL) := by rw [hLL]; exact N
    clear N
    have hapR : ∀ p ∈ LL, p.1 ≠ DR := by
      intro p hp
      rw [hLL] at hp
      rcases List.mem_append.mp hp with hp | hp
      · rcases List.mem_append.mp hp with hp | hp
        · obtain ⟨r, hr, rfl⟩ := List.mem_map.mp hp
          exact hRD r hr
        · exact Nat.ne_of_lt (hl4 p hp)
      · exact hoff.ne (.head _) p hp
    k_steps
    refine Hold.mk ?_
    k_dflt (refine' nums_claim B F X N1 T rfl ?hdp ?hun ?_ ?_; (case hdp => lia); (case hun => lia))
    · simpa using hli
    intro Dn us cn h8 tk8 F8 N8 lD hI
    rw [show (txs i).toArray.toList = txs i from rfl] at hI
    k_steps
    refine Hold.mk ?_
    have hul : us.length ≤ 100 := by
      have h1 := hI.length
      have h2 := nums_len (txs i) 0
      rw [intsL, List.length_map] at h1
      lia
    refine LCg.CompSrc.ledger rfl F8 N8 (.head _) (by simp; unfold sizeLine; lia) (fun g => ?_)
    clear F8 N8
    refine compU_map strN hI ?_ ?_
    · intro n tn I oI C oC D m₂ ys h tk E' K1 hnk hC hx F2 N2 off ne k1
      have cE := InElt.start h
      have hlog : ((n : Nat) : Int).natAbs.log2 < 1920 := log_lt (n := (txs i).length) (by have := numsGo_lt (txs i) 0 0 (by decide) n hnk; simpa using this) (by lia)
      k_steps
      refine Hold.mk ?_
      exact LCg.CompEnd.intro F2 N2 _ (fun p hp => hp) off (.inr ⟨_, .head _, rfl, _, rfl⟩) (k1 _)
    · intro ys hys D9 h9 tk9 F9 N9 off9
      k_steps
      refine Hold.mk ?_
      have hrvl : rv.length = i := by rw [hrv, List.length_map, hrl]
      have hD9R : DR ≠ D9 := off1_mem off9 _ (.tail _ (.head _))
      refine append_item F9 (news_rot2 N9) (fun p hp => ?_) (fun h10 F10 N10 => ?_) (by simp; lia)
      · rcases List.mem_cons.mp hp with rfl | hp
        · exact fun e => hD9R e.symm
        rcases List.mem_cons.mp hp with rfl | hp
        · exact Nat.ne_of_gt (lD _ (.head _))
        · exact hapR p hp
      clear F9 N9
      rw [List.push_toArray] at N10
      k_steps
      refine Hold.mk ?_
      k_dflt (refine' read_claim B F10 X N10 T rfl ?hdp ?hun ?_ (hlow i hi) ?_; (case hdp => lia); (case hun => lia))
      · simpa using hli
      intro D11 us11 c11 h11 tk11 F11 N11 l11 hs11
      rw [show (txs i).toArray.toList = txs i from rfl] at hs11
      clear F10 N10
      k_steps
      refine Hold.mk ?_
      refine list_itemN (.tail _ (.head _)) N11 (by simp; lia) (by decide) (by simp; lia) (x := .ref D9) ?_ (fun _ => rfl) ?_
      · simp only [List.size_toArray, List.length_append, List.length_singleton]
        rw [show (-1 + ((rv.length + 1 : Nat) : Int)).toNat = rv.length by lia]
        simp
      k_steps
      refine Hold.mk ?_
      have oks : Oks ((numsGo 0 (txs i)).map strN) := by
        intro x hx
        obtain ⟨n, _, rfl⟩ := List.mem_map.mp hx
        exact strOk_of _
      refine seq_ne oks oks ⟨_, _, _, rfl, .head _, hs11⟩ ⟨_, _, _, rfl, .tail _ (.tail _ (.head _)), hys⟩ N11 (by show un + 64 < cLine; lia) ?_
      k_steps
      · refine Hold.mk ?_
        refine g_end (c := ((rv ++ [Value.ref D9], cR + 1), rs ++ [(D9, ys)])) F11 N11 ?_ ?_ ?_ (by walk_at "READS") ⟨?_, ?_, ?_, ?_⟩
        · intro p hp
          simp only [List.map_append, List.map_cons, List.map_nil, List.cons_append, List.append_assoc, List.nil_append, List.mem_cons, List.mem_append] at hp
          simp only [hLL, List.mem_cons, List.mem_append]
          rcases hp with h | h | h | h | h
          · exact .inr (.inl h)
          · exact .inr (.inr (.inr (.inr (.inl (.inl h)))))
          · exact .inr (.inr (.inl h))
          · exact .inr (.inr (.inr (.inr (.inl (.inr (.inl h))))))
          · exact .inr (.inr (.inr (.inr (.inl (.inr (.inr h))))))
        · intro p hp
          refine .tail _ (.tail _ (.tail _ (.tail _ ?_)))
          rw [hLL]
          exact List.mem_append_right _ hp
        · intro p hp b hb
          have hoD : p.1 ≠ D9 := by
            refine off1_mem off9 p (.tail _ (.tail _ ?_))
            rw [hLL]
            exact List.mem_append_right _ hp
          simp only [List.map_append, List.map_cons, List.map_nil, List.cons_append, List.append_assoc, List.nil_append, List.mem_cons, List.mem_append, List.map_map] at hb
          have hoff' := hoff p hp b
          simp only [List.map_append, List.map_cons, List.map_nil, List.cons_append, List.append_assoc, List.nil_append, List.mem_cons, List.mem_append, List.map_map] at hoff'
          rcases hb with h | h | h | h | h
          · exact hoff' (.inl h)
          · exact hoff' (.inr (.inl h))
          · rw [h]; exact hoD
          · exact hoff' (.inr (.inr (.inl h)))
          · exact hoff' (.inr (.inr (.inr h)))
        · dsimp only; rw [hrv, List.map_append]; rfl
        · intro r hr
          rcases List.mem_append.mp hr with hr | hr
          · exact hRD r hr
          · rw [List.mem_singleton.mp hr]; exact fun e => hD9R e.symm
        · dsimp only; rw [List.length_append, hrl]; rfl
        · intro j r hj
          rcases Nat.lt_or_ge j rs.length with h1 | h1
          · rw [List.getElem?_append_left h1] at hj
            exact hrs j r hj
          · rw [List.getElem?_append_right h1] at hj
            have hj0 : j - rs.length = 0 := by
              rcases Nat.eq_zero_or_pos (j - rs.length) with h2 | h2
              · exact h2
              · rw [List.getElem?_eq_none (by simp; lia)] at hj; cases hj
            rw [hj0] at hj
            obtain rfl := (Option.some.inj hj).symm
            rw [show j = i by lia]
            exact hys
      · rename_i hc
        exact absurd rfl hc
  · clear F3 N3 F2 N2
    rintro ⟨⟨rv, cR⟩, rs⟩ u h tk ⟨hrv, hRD, hrl, hrs⟩ F N
    dsimp only at hrv hRD hrl hrs F N ⊢
    change Fr base L h _ at F
    change News base L h _ at N
    subst hrv
    exact k _ _ DR cR rs u F N hl4 hRD (by simpa [hvl] using hrl) hrs
end Mine
end W8
section W9
open PySem PySem.W PyProof.Rows PySem.Calls PySem.Spec PyProof.V PySem.SeqAt
set_option pp.structureInstances false
set_option maxRecDepth 100000
set_option maxHeartbeats 8000000
namespace Mine
local macro_rules | `(tactic| walk_at "READS") => `(tactic| (repeat' (first | exact trivial | refine And.intro rfl ?_)))
local macro_rules | `(tactic| walk_at "CompSrc") => `(tactic| refine Hold.out ?_)
local macro_rules | `(tactic| walk_at "CompEnd") => `(tactic| refine Hold.out ?_)
theorem blk14 {w : World} {mean : ExcName → Option Value} {mg mb : Str → Option Value} {rest : List Stmt}
  {dp un : Nat} {gd : Option (List Code)} {a : Addr} {ccd : Value} {A₀ : Around} {base : Heap} {L : Addr} {s : Shared} {Q : Flow → Shared → Prop}
  {m : Str → Option Value} {led : List (Addr × Obj)} {oT oO : Obj} {D1 D2 : Addr} {k0 k1 j0 j1 : Int} {t0 t1 t2 t3 : Tok}
  (B : Below A₀ base [] base) (F : Fr base L s.heap m) (X : (hd.heap_39 w.params).In base)
  (N : News base L s.heap ((L + 1 + 1 + 1, oT) :: (D2, LCg.lst [.int j0 t2, .int j1 t3]) :: (L + 1 + 1, oO) :: (D1, LCg.lst [.int k0 t0, .int k1 t1]) :: led)) (T : Top hd.view_39 loose mean mg mb base)
  (hdp : dp + 20 < recursionLimit) (hun : un + 600 < cLine) (hoO : oO.data = .cell (some (.ref D1))) (hoT : oT.data = .cell (some (.ref D2)))
  (k : ∀ h' tk' DS u0 u1, Fr base L h' (fun y => if y = "steps" then some (.ref DS) else m y) →
    News base L h' ((DS, LCg.lst [.int (if k0 - j0 < 0 then -(k0 - j0) else k0 - j0) u0, .int (if k1 - j1 < 0 then -(k1 - j1) else k1 - j1) u1]) :: (L + 1 + 1 + 1, oT) :: (D2, LCg.lst [.int j0 t2, .int j1 t3]) :: (L + 1 + 1, oO) :: (D1, LCg.lst [.int k0 t0, .int k1 t1]) :: led) →
    wpAny (model PySem.Challenge.pw_ta0009_01 w) (ktrTop dp un gd "law" lawSc.1 L a ccd (lawCl L) []) (execs rest (envX "law" lawSc.1 L a ccd (lawCl L))) Q (fun _ _ => False) { s with heap := h', toks := tk' }) :
  wpAny (model PySem.Challenge.pw_ta0009_01 w) (ktrTop dp un gd "law" lawSc.1 L a ccd (lawCl L) []) (execs (st14.1 :: rest) (envX "law" lawSc.1 L a ccd (lawCl L))) Q (fun _ _ => False) s := by
  dsimp only [lawSc, st14, lawCl]
  k_steps
  rename_i h1 tkr ta tb tc hr F1 N1 hk1
  refine Hold.mk ?_
  refine LCg.CompSrc.range (n := 2) rfl F1 N1 hr (by decide) (by decide) (by decide) (fun g => ?_)
  clear F1 N1 hr hk1
  refine LCg.CompRest.succ ?_
  rintro v I oI C oC D m₂ h tk E' ⟨t, rfl⟩ hC hx F2 N2 off ne
  rw [show (0 : Int) + ((0 : Nat) : Int) = 0 from rfl] at hx
  have cE := InElt.start h
  k_steps
  refine Hold.mk ?_
  refine LCg.CompEnd.intro F2 N2 _ (fun p hp => hp) off trivial ?_
  clear F2 N2 hC hx off ne cE
  refine LCg.CompRest.succ ?_
  rintro v I oI C oC D m₂ h tk E' ⟨t, rfl⟩ hC hx F2 N2 off ne
  rw [show (0 : Int) + ((0 + 1 : Nat) : Int) = 1 from rfl] at hx
  have cE := InElt.start h
  k_steps
  refine Hold.mk ?_
  refine LCg.CompEnd.intro F2 N2 _ (fun p hp => hp) off trivial ?_
  refine LCg.CompRest.zero ?_
  intro D7 h7 tk7 F7 N7 off7
  clear F2 N2
  dsimp only
  exact k _ _ D7 _ _ F7 N7
theorem blk15 {w : World} {mean : ExcName → Option Value} {mg mb : Str → Option Value} {rest : List Stmt}
  {dp un : Nat} {gd : Option (List Code)} {a : Addr} {ccd : Value} {A₀ : Around} {base : Heap} {L : Addr} {s : Shared} {Q : Flow → Shared → Prop}
  {u0 : Str → Option Value} {led : List (Addr × Obj)} {DS DR DT DG DB r0 r1 r2 r3 : Addr} {s0 s1 g0 g1 b0 b1 tot : Int} {T0 T1 T2 : Str} {t0 t1 t2 t3 t4 t5 t6 t7 t8 t9 : Tok} {cR c1 c2 c3 : Nat} {vo : Value}
  (B : Below A₀ base [] base) (F : Fr base L s.heap (kstB u0 [("steps", .ref DS), ("rows", .ref DR), ("bent", .ref DB), ("grown", .ref DG), ("texts", .ref DT), ("other", vo), ("total", .int tot t9)])) (X : (hd.heap_39 w.params).In base)
  (N : News base L s.heap ((DS, LCg.lst [.int s0 t0, .int s1 t1]) :: (DR, listOf #[.ref r0, .ref r1, .ref r2, .ref r3] cR) :: (DT, listOf #[.str T0 t2, .str T1 t3, .str T2 t4] c1) :: (DG, listOf #[.int g0 t5, .int g1 t6] c2) :: (DB, listOf #[.int b0 t7, .int b1 t8] c3) :: led)) (T : Top hd.view_39 loose mean mg mb base)
  (hdp : dp + 20 < recursionLimit) (hun : un + 600 < cLine)
  (k : ∀ h' tk' led' DA a0 a1 a2 a3 a4 u0 u1 u2 u3 u4 u, Fr base L h' (kstB u [("asked", .ref DA), ("total", .int tot t9)]) → News base L h' led' → (∀ p ∈ led, p ∈ led') →
    (DA, listOf #[.ref a0, .ref a1, .ref a2, .ref a3, .ref a4] 0) ∈ led' → (a0, listOf #[.ref r0, .ref r1, .int (s0 + (s1 + 0)) u0] 0) ∈ led' → (a1, listOf #[vo, .str T0 t2, .int (2 - ((List.count 0 [s0, s1] : Nat) : Int)) u1] 0) ∈ led' → (a2, listOf #[.ref r1, .ref r2, .int (g0 + b0) u2] 0) ∈ led' → (a3, listOf #[.ref r3, .ref r2, .int (g1 + b1) u3] 0) ∈ led' → (a4, listOf #[.ref r1, .ref r3, .int (g0 + (g1 + (b0 + (b1 + 0)))) u4] 0) ∈ led' →
    wpAny (model PySem.Challenge.pw_ta0009_01 w) (ktrTop dp un gd "law" lawSc.1 L a ccd (lawCl L) []) (execs rest (envX "law" lawSc.1 L a ccd (lawCl L))) Q (fun _ _ => False) { s with heap := h', toks := tk' }) :
  wpAny (model PySem.Challenge.pw_ta0009_01 w) (ktrTop dp un gd "law" lawSc.1 L a ccd (lawCl L) []) (execs (st15.1 :: rest) (envX "law" lawSc.1 L a ccd (lawCl L))) Q (fun _ _ => False) s := by
  dsimp only [lawSc, st15, lawCl]
  k_steps
  rename_i FZ NZ
  exact k _ _ _ _ _ _ _ _ _ _ _ _ _ _ _ (fr_reads (ps := [("asked", .ref _), ("total", .int tot t9)]) FZ (by walk_at "READS")) NZ (fun p hp => .tail _ (.tail _ (.tail _ (.tail _ (.tail _ (.tail _ (.tail _ (.tail _ (.tail _ (.tail _ (.tail _ (.tail _ hp)))))))))))) (.head _) (.tail _ (.tail _ (.tail _ (.tail _ (.tail _ (.tail _ (.head _)))))))
    (.tail _ (.tail _ (.tail _ (.tail _ (.tail _ (.head _)))))) (.tail _ (.tail _ (.tail _ (.tail _ (.head _))))) (.tail _ (.tail _ (.tail _ (.head _)))) (.tail _ (.head _))
end Mine
end W9
section W10
open PySem PySem.W PyProof.Rows PySem.Calls PySem.Spec PyProof.V PySem.SeqAt
set_option pp.structureInstances false
set_option maxRecDepth 100000
set_option maxHeartbeats 8000000
namespace Mine
local macro_rules | `(tactic| walk_at "call ref") => `(tactic| refine Hold.out ?_)
local macro_rules | `(tactic| walk_at "pyIter ref") => `(tactic| refine Hold.out ?_)
local macro_rules | `(tactic| walk_at "exec For") => `(tactic| ((rename Fr _ _ _ _ => lF'); (with_unfolding_all refine' For_invVF lF' ?k1 ?k2 ?_; (case k1 => exact rfl); (case k2 => exact rfl); k_whole)))
local macro_rules | `(tactic| walk_at "READS") => `(tactic| (repeat' (first | exact trivial | refine And.intro rfl ?_)))
local macro_rules | `(tactic| walk_at "subscriptTail") => `(tactic| refine Hold.out ?_)
theorem blk16 {w : World} {mean : ExcName → Option Value} {mg mb : Str → Option Value}
  {dp un : Nat} {gd : Option (List Code)} {a : Addr} {ccd : Value} {A₀ : Around} {base : Heap} {L : Addr} {s : Shared} {Q : Flow → Shared → Prop}
  {u0 : Str → Option Value} {led : List (Addr × Obj)} {DA : Addr} {ask : List Value} {tot : Int} {t7 : Tok} {ca : Nat}
  (B : Below A₀ base [] base) (F : Fr base L s.heap (kstB u0 [("asked", .ref DA), ("total", .int tot t7)])) (X : (hd.heap_39 w.params).In base)
  (N : News base L s.heap led) (hDA : (DA, listOf (List.toArray ask) ca) ∈ led) (hal : ask.length = 5) (T : Top hd.view_39 loose mean mg mb base)
  (hdp : dp + 20 < recursionLimit) (hun : un + 600 < cLine)
  (hent : ∀ i, i < 5 → ∃ (ai : Addr) (va vb : Value) (p : Int) (t : Tok) (k : Bool) (xs ys : List Str) (c : Nat), ask[i]? = some (.ref ai) ∧ (ai, listOf #[va, vb, .int p t] c) ∈ led ∧ SeqV k led va xs ∧ SeqV k led vb ys ∧ Oks xs ∧ Oks ys ∧ (∀ x ∈ xs, x.length ≤ 100) ∧ (∀ x ∈ ys, x.length ≤ 100) ∧ xs.length ≤ 40 ∧ ys.length ≤ 40 ∧ lev subCost xs ys = 2 * p)
  (hret : ∀ h' tk' m, Fr base L h' m → News base L h' led → Q (.ret (.bool true)) { s with heap := h', toks := tk' }) :
  wpAny (model PySem.Challenge.pw_ta0009_01 w) (ktrTop dp un gd "law" lawSc.1 L a ccd (lawCl L) []) (execs [st16.1, st17.1] (envX "law" lawSc.1 L a ccd (lawCl L))) Q (fun _ _ => False) s := by
  dsimp only [lawSc, st16, st17, lawCl]
  k_steps
  rename_i h5 tk5 ta tb tc hr F5 N5 hk5
  refine Hold.mk ?_
  refine range_inv0 (σ := Unit) (n := 5) (fun c => led)
    (fun c => [("asked", .ref DA), ("total", .int tot t7)])
    (fun i c => True) () rfl hr (by decide) (by decide) F5 N5 (by walk_at "READS") trivial ?_ ?_
  · clear F5 N5 hr hk5
    rintro ⟨⟩ i t u h tk own hi hoff _ F N
    dsimp only at F N ⊢
    change Fr base L h _ at F
    change News base L h _ at N
    obtain ⟨ai, va, vb, p, tp, k, xs, ys, c, hai, hal', sx, sy, ox, oy, lx, ly, bx, bv, hlev⟩ := hent i hi
    k_steps
    refine Hold.mk ?_
    refine list_item (idx := i) (List.mem_append_left _ hDA) N (by simp [hal]) rfl (x := .ref ai) (by simpa using hai) (fun _ => rfl) ?_
    k_steps
    rename_i h9 F9 N9
    refine Hold.mk ?_
    have hm3 : ∀ z : Int, z.fmod 3 ≤ 2 := fun z => by rw [Int.fmod_eq_emod_of_nonneg _ (by decide)]; omega
    k_dflt (refine' lev_claim B F9 X N9 T rfl ?hdp ?hun (sx.mono fun p hp => List.mem_append_left _ hp) (sy.mono fun p hp => List.mem_append_left _ hp) ox oy lx ly bx bv ?hmc ?_; (case hdp => omega); (case hun => omega))
    case hmc =>
      rw [hlev]
      have := hm3 (tot + (i : Int))
      omega
    intro t10 h10 tk10 F10 N10
    rw [hlev]
    clear F9 N9
    k_steps
    · rename_i hc
      exact absurd rfl hc
    · rename_i FZ NZ _ _
      exact rj_end () FZ NZ (fun p hp => List.mem_append_left _ hp) (fun p hp => List.mem_append_right _ hp) rfl (by walk_at "READS") trivial
  · clear F5 N5
    rintro ⟨⟩ u h tk _ F N
    dsimp only at F N ⊢
    change Fr base L h _ at F
    change News base L h _ at N
    k_steps
    exact hret _ _ _ F N
end Mine
end W10
section W4
open PySem PySem.W PyProof.Rows PySem.Calls PySem.Spec PyProof.V PySem.SeqAt
set_option pp.structureInstances false
set_option maxRecDepth 100000
set_option maxHeartbeats 8000000
namespace Mine
local macro_rules | `(tactic| walk_at "CompSrc") => `(tactic| refine Hold.out ?_)
local macro_rules | `(tactic| walk_at "call ref") => `(tactic| refine Hold.out ?_)
local macro_rules | `(tactic| walk_at "CompEnd") => `(tactic| refine Hold.out ?_)
local macro_rules | `(tactic| walk_at "subscriptTail") => `(tactic| refine Hold.out ?_)
local macro_rules | `(tactic| walk_at "subscriptTail Name Slice ref ref") => `(tactic| refine Hold.out ?_)
local macro_rules | `(tactic| walk_at "eval ListComp") => `(tactic| (k_dflt (refine LCg.ListComp_U (F₀ := by k_asm) (by with_unfolding_all rfl) (by decide) (by rfl) (by decide) (by rfl) ?_)))
noncomputable def signL (x : Int) : Nat := match (x % 6).toNat with
  | 0 => 10
  | 1 => 13
  | 2 => 46
  | 3 => 98
  | 4 => (x / 6 % 64).toNat
  | _ => 64 + (x / 6 % 64).toNat
theorem fm6 (x : Int) : x.fmod 6 = ((x % 6).toNat : Int) := by rw [Int.fmod_eq_emod_of_nonneg _ (by decide)]; lia
theorem sign_item (x : Int) : (["\n", "\x0d", ".", "b", ⟨#[((x.fdiv 6).fmod 64).toNat]⟩, ⟨#[(64 + (x.fdiv 6).fmod 64).toNat]⟩] : List Str)[(x % 6).toNat]? = some ⟨#[signL x]⟩ := by
  have h : (x % 6).toNat < 6 := by lia
  have e : (x.fdiv 6).fmod 64 = x / 6 % 64 := fdm x 6 64 (by decide) (by decide)
  rw [e]
  unfold signL
  generalize (x % 6).toNat = k at h ⊢
  match k, h with
  | 0, _ => rfl
  | 1, _ => rfl
  | 2, _ => rfl
  | 3, _ => rfl
  | 4, _ => rfl
  | 5, _ =>
    show some (Str.mk #[(64 + x / 6 % 64).toNat]) = some (Str.mk #[64 + (x / 6 % 64).toNat])
    rw [show (64 + x / 6 % 64).toNat = 64 + (x / 6 % 64).toNat by lia]
theorem blk3 {w : World} {mean : ExcName → Option Value} {mg mb : Str → Option Value} {rest : List Stmt}
  {dp un : Nat} {gd : Option (List Code)} {a : Addr} {ccd : Value} {A₀ : Around} {base : Heap} {L : Addr} {s : Shared} {Q : Flow → Shared → Prop}
  {m : Str → Option Value} {oN : Obj} {led : List (Addr × Obj)} {Dn : Addr} {n0 n1 n2 n3 : Int} {t0 t1 t2 t3 : Tok}
  (B : Below A₀ base [] base) (F : Fr base L s.heap m) (X : (hd.heap_39 w.params).In base) (N : News base L s.heap ((L + 1, oN) :: (Dn, listOf #[.int n0 t0, .int n1 t1, .int n2 t2, .int n3 t3] 0) :: led)) (T : Top hd.view_39 loose mean mg mb base)
  (hdp : dp + 20 < recursionLimit) (hun : un + 600 < cLine) (hoN : oN.data = .cell (some (.ref Dn)))
  (k : ∀ h' tk' tt, Fr base L h' (fun y => if y = "tail" then some (.str ⟨[signL n2, signL n3].toArray⟩ tt) else m y) →
    News base L h' ((L + 1, oN) :: (Dn, listOf #[.int n0 t0, .int n1 t1, .int n2 t2, .int n3 t3] 0) :: led) → 
    wpAny (model PySem.Challenge.pw_ta0009_01 w) (ktrTop dp un gd "law" lawSc.1 L a ccd (lawCl L) []) (execs rest (envX "law" lawSc.1 L a ccd (lawCl L))) Q (fun _ _ => False) { s with heap := h', toks := tk' }) :
  wpAny (model PySem.Challenge.pw_ta0009_01 w) (ktrTop dp un gd "law" lawSc.1 L a ccd (lawCl L) []) (execs (st3.1 :: rest) (envX "law" lawSc.1 L a ccd (lawCl L))) Q (fun _ _ => False) s := by
  dsimp only [lawSc, st3, lawCl]
  k_steps
  refine Hold.mk ?_
  refine ints_slice (ns := [n0, n1, n2, n3]) F N (SeqV.isList N (.tail _ (.head _))) (.int _ _) .none (.cons _ _ (.cons _ _ (.cons _ _ (.cons _ _ .nil)))) (fun D2 ws2 h2 F2 N2 l2 I2 => ?_) (by with_unfolding_all rfl) (by intro _; with_unfolding_all rfl) (by simp)
  rw [show lslice [n0, n1, n2, n3] (some 2) none = [n2, n3] from lslice_from [n0, n1, n2, n3] 2] at I2
  obtain ⟨t4, t5, rfl⟩ : ∃ t4 t5, ws2 = [.int n2 t4, .int n3 t5] := by
    cases I2 with
    | cons _ t h => cases h with
      | cons _ t' h => cases h; exact ⟨_, _, rfl⟩
  k_steps
  refine Hold.mk ?_
  refine LCg.CompSrc.ledger rfl F2 N2 (.head _) (by show (2 : Nat) ≤ _; decide) (fun g => ?_)
  clear F2 N2
  refine LCg.CompRest.succ ?_
  rintro v I oI C oC D m₂ h tk E' hv hC hx F2 N2 off ne
  have hv' : v = .int n2 t4 := (Option.some.inj hv).symm
  subst hv'
  have cE := InElt.start h
  have q1 : 0 ≤ (n2.fdiv 6).fmod 64 := by rw [fdm n2 6 64 (by decide) (by decide)]; lia
  have q2 : (n2.fdiv 6).fmod 64 < 64 := by rw [fdm n2 6 64 (by decide) (by decide)]; lia
  k_steps
  rename_i l' h2 F2 N2 l1
  refine Hold.mk ?_
  refine seq_item (k := true) ⟨_, _, _, rfl, .head _, .cons _ _ (.cons _ _ (.cons _ _ (.cons _ _ (.cons _ _ (.cons _ _ .nil)))))⟩ N2 (by simp) (.inl (fm6 n2)) (sign_item n2) (fun _ => rfl) (fun u0 tk3 => ?_)
  k_steps
  refine Hold.mk ?_
  refine LCg.CompEnd.intro F2 (cb_drop N2 fun _ hp => .tail _ hp) _ (fun p hp => hp) off (.inr ⟨_, .head _, rfl, _, rfl⟩) ?_
  clear F2 N2 hC hx hv off ne cE q1 q2 l1
  refine LCg.CompRest.succ ?_
  rintro v I oI C oC D m₂ h tk E' hv hC hx F2 N2 off ne
  have hv' : v = .int n3 t5 := (Option.some.inj hv).symm
  subst hv'
  have cE := InElt.start h
  have q1 : 0 ≤ (n3.fdiv 6).fmod 64 := by rw [fdm n3 6 64 (by decide) (by decide)]; lia
  have q2 : (n3.fdiv 6).fmod 64 < 64 := by rw [fdm n3 6 64 (by decide) (by decide)]; lia
  k_steps
  rename_i l' h2 F2 N2 l1
  refine Hold.mk ?_
  refine seq_item (k := true) ⟨_, _, _, rfl, .head _, .cons _ _ (.cons _ _ (.cons _ _ (.cons _ _ (.cons _ _ (.cons _ _ .nil)))))⟩ N2 (by simp) (.inl (fm6 n3)) (sign_item n3) (fun _ => rfl) (fun u1 tk3 => ?_)
  k_steps
  refine Hold.mk ?_
  refine LCg.CompEnd.intro F2 (cb_drop N2 fun _ hp => .tail _ hp) _ (fun p hp => hp) off (.inr ⟨_, .head _, rfl, _, rfl⟩) ?_
  refine LCg.CompRest.zero ?_
  intro D7 h7 tk7 F7 N7 off7
  clear F2 N2
  k_steps
  refine' SC.join (l := [(⟨#[signL n2]⟩, u0), (⟨#[signL n3]⟩, u1)]) (SeqV.isList N7 (.head _)) rfl ?hj ?_
  case hj => exact join_sgs_ok [signL n2, signL n3] (by simp)
  intro t8 k8
  rw [show Txt.join "" (List.map (·.1) [((⟨#[signL n2]⟩ : Str), u0), (⟨#[signL n3]⟩, u1)]) = ⟨[signL n2, signL n3].toArray⟩ from join_sgs [signL n2, signL n3]]
  k_steps
  rename_i FZ NZ
  exact k _ _ _ FZ (cb_drop NZ fun _ hp => .tail _ (.tail _ hp))
end Mine
end W4
section G0
open PySem PySem.W PyProof.Rows PySem.Calls PySem.Spec PyProof.V PySem.SeqAt
set_option pp.structureInstances false
set_option maxRecDepth 100000
set_option maxHeartbeats 8000000
namespace Mine
noncomputable def lawO (n0 n1 n2 n3 : Int) : List Nat := mailL (headL 0 n0) (headL 1 n1) ((n0.fdiv 3).fmod 3) ((n1.fdiv 3).fmod 3) [signL n2, signL n3]
noncomputable def lawT (n0 n1 n2 n3 : Int) : List Nat := mailL (headL 0 n0) (headL 1 n1) (n0.fmod 3) (n1.fmod 3) [signL n2, signL n3]
noncomputable def lawH (tot : Int) (i : Nat) : Nat := ((tot.fdiv (3 ^ i)).fmod 3).toNat
noncomputable def lawX (n0 n1 n2 n3 tot : Int) : Nat → List Nat
  | 0 => lawT n0 n1 n2 n3
  | i + 1 => handL (lawH tot i) (lawX n0 n1 n2 n3 tot i)
noncomputable def lawS (n0 n1 n2 n3 tot : Int) : Nat → List Nat
  | 0 => lawO n0 n1 n2 n3
  | j + 1 => lawX n0 n1 n2 n3 tot j
noncomputable def rowsN (l : List Nat) : List Str := (numsGo 0 l).map strN
noncomputable def absI (x : Int) : Int := if x < 0 then -x else x
noncomputable def grewI (n0 n1 n2 n3 tot : Int) (i : Nat) : Int := ((lawX n0 n1 n2 n3 tot (i + 1)).length : Int) - (lawX n0 n1 n2 n3 tot i).length
noncomputable def bentI (n0 n1 n2 n3 tot : Int) (i : Nat) : Int := if lawH tot i < 2 then (feedsN (lawX n0 n1 n2 n3 tot i) : Int) else 0
structure LawPure (n0 n1 n2 n3 tot : Int) : Prop where
  heads0 : (headL 0 n0).length ≤ 20
  heads1 : (headL 1 n1).length ≤ 20
  quote : dots true (crlf false (lawO n0 n1 n2 n3)) = dots true (crlf false (lawT n0 n1 n2 n3))
  len : ∀ i, i < 4 → (lawS n0 n1 n2 n3 tot i).length ≤ 45
  lenO : (lawO n0 n1 n2 n3).length ≤ 40
  lenT : (lawT n0 n1 n2 n3).length ≤ 40
  lenR : ∀ i, i < 4 → (rowsN (lawS n0 n1 n2 n3 tot i)).length ≤ 40
  low : ∀ i, i < 4 → ∀ c ∈ lawS n0 n1 n2 n3 tot i, c < 128
  item : ∀ i, i < 4 → ∀ x ∈ rowsN (lawS n0 n1 n2 n3 tot i), x.length ≤ 100
  e0 : lev subCost (rowsN (lawO n0 n1 n2 n3)) (rowsN (lawT n0 n1 n2 n3)) = 2 * (absI (n0.fmod 3 - (n0.fdiv 3).fmod 3) + (absI (n1.fmod 3 - (n1.fdiv 3).fmod 3) + 0))
  e1 : lev subCost (sgs ⟨(lawO n0 n1 n2 n3).toArray⟩) (sgs ⟨(lawT n0 n1 n2 n3).toArray⟩) = 2 * (2 - ((List.count 0 [absI (n0.fmod 3 - (n0.fdiv 3).fmod 3), absI (n1.fmod 3 - (n1.fdiv 3).fmod 3)] : Nat) : Int))
  e2 : lev subCost (rowsN (lawX n0 n1 n2 n3 tot 0)) (rowsN (lawX n0 n1 n2 n3 tot 1)) = 2 * (grewI n0 n1 n2 n3 tot 0 + bentI n0 n1 n2 n3 tot 0)
  e3 : lev subCost (rowsN (lawX n0 n1 n2 n3 tot 2)) (rowsN (lawX n0 n1 n2 n3 tot 1)) = 2 * (grewI n0 n1 n2 n3 tot 1 + bentI n0 n1 n2 n3 tot 1)
  e4 : lev subCost (rowsN (lawX n0 n1 n2 n3 tot 0)) (rowsN (lawX n0 n1 n2 n3 tot 2)) = 2 * (grewI n0 n1 n2 n3 tot 0 + (grewI n0 n1 n2 n3 tot 1 + (bentI n0 n1 n2 n3 tot 0 + (bentI n0 n1 n2 n3 tot 1 + 0))))
end Mine
end G0
section W11
open PySem PySem.W PyProof.Rows PySem.Calls PySem.Spec PyProof.V PySem.SeqAt
set_option pp.structureInstances false
set_option maxRecDepth 100000
set_option maxHeartbeats 8000000
namespace Mine
local macro_rules | `(tactic| walk_at "READS") => `(tactic| (repeat' (first | exact trivial | refine And.intro rfl ?_)))
theorem strs_three {vs : List Value} {f : Nat → Str} (h : StrsAre vs ((List.range 3).map f)) : ∃ a b c, vs = [.str (f 0) a, .str (f 1) b, .str (f 2) c] := by
  cases h with
  | cons _ a h => cases h with
    | cons _ b h => cases h with
      | cons _ c h => cases h; exact ⟨_, _, _, rfl⟩
theorem ints_two {vs : List Value} {f : Nat → Int} (h : IntsAre vs ((List.range 2).map f)) : ∃ a b, vs = [.int (f 0) a, .int (f 1) b] := by
  cases h with
  | cons _ a h => cases h with
    | cons _ b h => cases h; exact ⟨_, _, rfl⟩
theorem list_four {α : Type} {l : List α} (h : l.length = 4) : ∃ a b c d, l = [a, b, c, d] := by
  match l, h with
  | [a, b, c, d], _ => exact ⟨a, b, c, d, rfl⟩
theorem oks_rows (l : List Nat) : Oks (rowsN l) := by
  intro x hx
  obtain ⟨n, _, rfl⟩ := List.mem_map.mp hx
  exact strOk_of _
theorem oks_sgs (l : List Nat) (h : ∀ c ∈ l, c < 128) : Oks (sgs ⟨l.toArray⟩) := by
  intro x hx
  obtain ⟨c, hc, rfl⟩ := List.mem_map.mp hx
  have := h c (by simpa using hc)
  show PyData.strOk ⟨#[c]⟩ = true
  simp [PyData.strOk]; lia
theorem item_sgs (l : List Nat) : ∀ x ∈ sgs ⟨l.toArray⟩, x.length ≤ 100 := by
  intro x hx
  obtain ⟨c, _, rfl⟩ := List.mem_map.mp hx
  show 1 ≤ 100; lia
theorem news_rotA {h₀ h : Heap} {L : Addr} {a b c d e : Addr × Obj} (N : News h₀ L h [a, b, c, d, e]) : News h₀ L h [b, c, a, d, e] := fun p hp => N p (by
  simp only [List.mem_cons, List.not_mem_nil, or_false] at hp ⊢
  rcases hp with h | h | h | h | h <;> simp [h])
theorem news_rotB {h₀ h : Heap} {L : Addr} {a b c d e : Addr × Obj} (N : News h₀ L h [a, b, c, d, e]) : News h₀ L h [a, b, d, c, e] := fun p hp => N p (by
  simp only [List.mem_cons, List.not_mem_nil, or_false] at hp ⊢
  rcases hp with h | h | h | h | h <;> simp [h])
theorem news_rotC {h₀ h : Heap} {L : Addr} {a b c d e f : Addr × Obj} (N : News h₀ L h [a, b, c, d, e, f]) : News h₀ L h [c, d, f, a, b, e] := fun p hp => N p (by
  simp only [List.mem_cons, List.not_mem_nil, or_false] at hp ⊢
  rcases hp with h | h | h | h | h | h <;> simp [h])
theorem news_rotD {h₀ h : Heap} {L : Addr} {a b c d e f g : Addr × Obj} (N : News h₀ L h [a, b, c, d, e, f, g]) : News h₀ L h [a, b, e, f, g, c, d] := fun p hp => N p (by
  simp only [List.mem_cons, List.not_mem_nil, or_false] at hp ⊢
  rcases hp with h | h | h | h | h | h | h <;> simp [h])
theorem news_rotE {h₀ h : Heap} {L : Addr} {x0 x1 x10 x11 x12 x13 x2 x3 x4 x5 x6 x7 x8 x9 : Addr × Obj} (N : News h₀ L h [x0, x1, x2, x3, x4, x5, x6, x7, x8, x9, x10, x11, x12, x13]) : News h₀ L h [x8, x9, x10, x11, x0, x5, x6, x7, x1, x2, x3, x4] := fun p hp => N p (by
  simp only [List.mem_cons, List.not_mem_nil, or_false] at hp ⊢
  rcases hp with h | h | h | h | h | h | h | h | h | h | h | h <;> simp [h])
theorem news_rotF {h₀ h : Heap} {L : Addr} {x0 x1 x10 x11 x12 x2 x3 x4 x5 x6 x7 x8 x9 : Addr × Obj} (N : News h₀ L h [x0, x1, x2, x3, x4, x5, x6, x7, x8, x9, x10, x11, x12]) : News h₀ L h [x0, x5, x6, x7, x8, x9, x10, x11, x12] := fun p hp => N p (by
  simp only [List.mem_cons, List.not_mem_nil, or_false] at hp ⊢
  rcases hp with h | h | h | h | h | h | h | h | h <;> simp [h])
theorem sgs_len (l : List Nat) : (sgs ⟨l.toArray⟩).length = l.length := by simp [sgs]
theorem law_body {w : World} {mean : ExcName → Option Value} {mg mb : Str → Option Value}
  {dp un : Nat} {gd : Option (List Code)} {a : Addr} {ccd : Value} {A₀ : Around} {base : Heap} {L : Addr} {s : Shared} {Q : Flow → Shared → Prop}
  {la : Addr} {vals : List Value} {sc : List Int} {u : Str → Option Value} {oN oO oT : Obj}
  (B : Below A₀ base [] base) (F : Fr base L s.heap (kstB u [("script", .ref la)])) (X : (hd.heap_39 w.params).In base) (N : News base L s.heap [(L + 1 + 1 + 1, oT), (L + 1 + 1, oO), (L + 1, oN)]) (T : Top hd.view_39 loose mean mg mb base)
  (hdp : dp + 20 < recursionLimit) (hun : un + 600 < cLine) (hS : base.IsList la vals.toArray) (hI : IntsAre vals sc) (hlen : sc.length ≤ 63)
  (hoN : oN.data = .cell none) (hoO : oO.data = .cell none) (hoT : oT.data = .cell none) (pure : ∀ n0 n1 n2 n3 tot, LawPure n0 n1 n2 n3 tot)
  (hret : ∀ h' tk' m led, Fr base L h' m → News base L h' led → Q (.ret (.bool true)) { s with heap := h', toks := tk' }) :
  wpAny (model PySem.Challenge.pw_ta0009_01 w) (ktrTop dp un gd "law" lawSc.1 L a ccd (lawCl L) []) (execs [st0.1, st1.1, st2.1, st3.1, st4.1, st5.1, st6.1, st7.1, st8.1, st9.1, st10.1, st11.1, st12.1, st13.1, st14.1, st15.1, st16.1, st17.1] (envX "law" lawSc.1 L a ccd (lawCl L))) Q (fun _ _ => False) s := by
  have c12 : (L + 1 + 1 : Nat) ≠ L + 1 := Nat.ne_of_gt (Nat.lt_succ_self _)
  have c13 : (L + 1 + 1 + 1 : Nat) ≠ L + 1 := Nat.ne_of_gt (Nat.lt_succ_of_lt (Nat.lt_succ_self _))
  have c23 : (L + 1 + 1 + 1 : Nat) ≠ L + 1 + 1 := Nat.ne_of_gt (Nat.lt_succ_self _)
  refine blk0 (led := [(L + 1 + 1, oO), (L + 1 + 1 + 1, oT)]) B F X (fun p hp => N p (by simp only [List.mem_cons, List.not_mem_nil, or_false] at hp ⊢; rcases hp with h | h | h <;> simp [h])) ?_ T hdp hun hS hI hlen hoN ?_
  · intro p hp
    simp only [List.mem_cons, List.not_mem_nil, or_false] at hp
    rcases hp with rfl | rfl
    · exact c12
    · exact c13
  intro h1 tk1 Dn n0 n1 n2 n3 t0 t1 t2 t3 tt oN' _ hoN' F1 N1 lDn ledDn
  have P := pure n0 n1 n2 n3 (sc.sum + 5)
  refine blk2 B F1 X N1 T hdp hun hoN' ?_
  intro h2 tk2 Dh u0 u1 F2 N2 offh
  refine blk3 (led := [(Dh, _), (L + 1 + 1, oO), (L + 1 + 1 + 1, oT)]) B F2 X (news_rotA N2) T hdp hun hoN' ?_
  intro h3 tk3 tt3 F3 N3
  refine blk4 (led := [(Dh, _), (L + 1 + 1 + 1, oT)]) B F3 X (news_rotB N3) T hdp hun hoN' hoO ?_ ?_ ?_
  · exact Nat.ne_of_gt (ledDn (L + 1 + 1, oO) (.head _))
  · intro p hp
    simp only [List.mem_cons, List.not_mem_nil, or_false] at hp
    rcases hp with rfl | rfl
    · exact fun e => offh (L + 1 + 1, oO) (.tail _ (.tail _ (.head _))) e.symm
    · exact c23
  intro h4 tk4 D1 u2 u3 oO' F4 hoO' N4 off1
  refine blk5 (led := [(L + 1 + 1, oO'), (D1, _), (Dh, _)]) B F4 X (news_rotC N4) T hdp hun hoN' hoT ?_ ?_ ?_
  · exact Nat.ne_of_gt (ledDn (L + 1 + 1 + 1, oT) (.tail _ (.head _)))
  · intro p hp
    simp only [List.mem_cons, List.not_mem_nil, or_false] at hp
    rcases hp with rfl | rfl | rfl
    · exact fun e => c23 e.symm
    · exact fun e => off1 (L + 1 + 1 + 1, oT) (.tail _ (.tail _ (.tail _ (.tail _ (.head _))))) e.symm
    · exact fun e => offh (L + 1 + 1 + 1, oT) (.tail _ (.tail _ (.tail _ (.head _)))) e.symm
  intro h5 tk5 D2 u4 u5 oT' F5 hoT' N5 off2
  have fm0 : ∀ z : Int, 0 ≤ z.fmod 3 := fun z => by rw [Int.fmod_eq_emod_of_nonneg _ (by decide)]; lia
  have fm3 : ∀ z : Int, z.fmod 3 < 3 := fun z => by rw [Int.fmod_eq_emod_of_nonneg _ (by decide)]; lia
  have F5' := fr_reads (ps := [("tail", .str ⟨[signL n2, signL n3].toArray⟩ tt3), ("heads", .ref Dh), ("total", .int (sc.sum + 5) tt)]) F5 (by walk_at "READS")
  refine blk678 (h0 := headL 0 n0) (h1 := headL 1 n1) (tl := [signL n2, signL n3]) (k0 := n0.fmod 3) (k1 := n1.fmod 3) (j0 := (n0.fdiv 3).fmod 3) (j1 := (n1.fdiv 3).fmod 3) B F5' X (news_rotD N5) T hdp hun hoO' hoT' (fm0 _) (fm3 _) (fm0 _) (fm3 _) (fm0 _) (fm3 _) (fm0 _) (fm3 _) P.heads0 P.heads1 (by show 2 ≤ 20; lia) P.quote ?_
  intro h6 tk6 DT u6 u7 u8 F6 N6 lT
  refine blk11 (t1 := u6) (tx := lawX n0 n1 n2 n3 (sc.sum + 5)) (hn := lawH (sc.sum + 5)) B F6 X N6 lT T hdp hun ?_ ?_ ?_ (fun i _ => rfl) ?_ ?_ ?_
  · exact (Int.toNat_of_nonneg (fm0 _)).symm
  · exact (Int.toNat_of_nonneg (fm0 _)).symm
  · intro i _
    have h1 := fm0 ((sc.sum + 5).fdiv (3 ^ i))
    have h2 := fm3 ((sc.sum + 5).fdiv (3 ^ i))
    unfold lawH; lia
  · intro i hi
    have := P.len (i + 1) (by lia)
    exact Nat.le_trans this (by lia)
  · intro i hi
    exact P.low (i + 1) (by lia)
  intro h7 tk7 DG DB vs gs bs e1 e2 e3 u9 F7 N7 lDG lDB hvs hgs hbs
  refine blk13 (txs := lawS n0 n1 n2 n3 (sc.sum + 5)) B F7 X N7 T hdp hun hvs ?_ P.low ?_
  · intro i hi
    exact Nat.le_trans (P.len i hi) (by lia)
  intro h8 tk8 DR cR rs u10 F8 N8 lDR hRD hrl hrs
  obtain ⟨⟨r0, y0⟩, ⟨r1, y1⟩, ⟨r2, y2⟩, ⟨r3, y3⟩, rfl⟩ := list_four hrl
  obtain ⟨v0, v1, v2, rfl⟩ := strs_three hvs
  obtain ⟨g0, g1, rfl⟩ := ints_two hgs
  obtain ⟨b0, b1, rfl⟩ := ints_two hbs
  have q0 := hrs 0 _ rfl
  have q1 := hrs 1 _ rfl
  have q2 := hrs 2 _ rfl
  have q3 := hrs 3 _ rfl
  dsimp only at q0 q1 q2 q3
  refine blk14 (led := [(DR, listOf #[.ref r0, .ref r1, .ref r2, .ref r3] cR), (DT, _), (DG, _), (DB, _), (r0, LCg.lst y0), (r1, LCg.lst y1), (r2, LCg.lst y2), (r3, LCg.lst y3)]) B F8 X (news_rotE N8) T hdp hun hoO' hoT' ?_
  intro h9 tk9 DS u11 u12 F9 N9
  refine blk15 (led := [(r0, LCg.lst y0), (r1, LCg.lst y1), (r2, LCg.lst y2), (r3, LCg.lst y3)]) B (fr_reads (ps := [("steps", .ref DS), ("rows", .ref DR), ("bent", .ref DB), ("grown", .ref DG), ("texts", .ref DT), ("other", .str ⟨(lawS n0 n1 n2 n3 (sc.sum + 5) 0).toArray⟩ u7), ("total", .int (sc.sum + 5) tt)]) F9 (by walk_at "READS")) X (news_rotF N9) T hdp hun ?_
  intro h10 tk10 led' DA a0 a1 a2 a3 a4 w0 w1 w2 w3 w4 u13 F10 N10 sub mA m0 m1 m2 m3 m4
  refine blk16 (ask := [.ref a0, .ref a1, .ref a2, .ref a3, .ref a4]) B F10 X N10 mA rfl T hdp hun ?_ (fun h' tk' m F N => hret h' tk' m led' F N)
  have R0 : SeqV true led' (.ref r0) (rowsN (lawO n0 n1 n2 n3)) := ⟨r0, _, y0, rfl, sub _ (.head _), q0⟩
  have R1 : SeqV true led' (.ref r1) (rowsN (lawX n0 n1 n2 n3 (sc.sum + 5) 0)) := ⟨r1, _, y1, rfl, sub _ (.tail _ (.head _)), q1⟩
  have R2 : SeqV true led' (.ref r2) (rowsN (lawX n0 n1 n2 n3 (sc.sum + 5) 1)) := ⟨r2, _, y2, rfl, sub _ (.tail _ (.tail _ (.head _))), q2⟩
  have R3 : SeqV true led' (.ref r3) (rowsN (lawX n0 n1 n2 n3 (sc.sum + 5) 2)) := ⟨r3, _, y3, rfl, sub _ (.tail _ (.tail _ (.tail _ (.head _)))), q3⟩
  intro i hi
  match i, hi with
  | 0, _ => exact ⟨a0, _, _, _, w0, true, _, _, 0, rfl, m0, R0, R1, oks_rows _, oks_rows _, P.item 0 (by decide), P.item 1 (by decide), P.lenR 0 (by decide), P.lenR 1 (by decide), P.e0⟩
  | 1, _ => exact ⟨a1, _, _, _, w1, false, _, _, 0, rfl, m1, ⟨_, _, rfl, rfl⟩, ⟨_, _, rfl, rfl⟩, oks_sgs _ (P.low 0 (by decide)), oks_sgs _ (P.low 1 (by decide)), item_sgs _, item_sgs _, by rw [sgs_len]; exact P.lenO, by rw [sgs_len]; exact P.lenT, P.e1⟩
  | 2, _ => exact ⟨a2, _, _, _, w2, true, _, _, 0, rfl, m2, R1, R2, oks_rows _, oks_rows _, P.item 1 (by decide), P.item 2 (by decide), P.lenR 1 (by decide), P.lenR 2 (by decide), P.e2⟩
  | 3, _ => exact ⟨a3, _, _, _, w3, true, _, _, 0, rfl, m3, R3, R2, oks_rows _, oks_rows _, P.item 3 (by decide), P.item 2 (by decide), P.lenR 3 (by decide), P.lenR 2 (by decide), P.e3⟩
  | 4, _ => exact ⟨a4, _, _, _, w4, true, _, _, 0, rfl, m4, R1, R3, oks_rows _, oks_rows _, P.item 1 (by decide), P.item 3 (by decide), P.lenR 1 (by decide), P.lenR 3 (by decide), P.e4⟩
end Mine
end W11
section Z1
open PySem PySem.W PySem.W.KIN PySem.NumText PyProof.Rows
namespace Mine
-- numerals
theorem strN_signs (n : Nat) : (strN n).cps.toList = (Nat.toDigits 10 n).map Char.toNat := signs_num n
theorem strN_inj {a b : Nat} (h : strN a = strN b) : a = b := by
  have e : (Nat.toDigits 10 a).map Char.toNat = (Nat.toDigits 10 b).map Char.toNat := by rw [← strN_signs, ← strN_signs, h]
  have := congrArg digitsVal e
  rwa [val_back, val_back] at this
theorem strN_lower (n : Nat) : Txt.lower (strN n) = strN n := by
  refine KXs.lower_still fun c hc => ?_
  rw [strN_signs] at hc
  obtain ⟨ch, hch, e⟩ := List.mem_map.mp hc
  have r := digit_range (Nat.isDigit_of_mem_toDigits (by decide) (by decide) hch)
  lia
theorem cost_strN (a b : Nat) : subCost (strN a) (strN b) = if a = b then 0 else 2 := by
  unfold subCost
  rw [strN_lower, strN_lower]
  by_cases h : a = b
  · subst h; simp
  · have h' : ¬ strN a = strN b := fun e => h (strN_inj e)
    rw [if_neg h', if_neg h', if_neg h]
-- the weight: numbers that are no feed behind a figure
noncomputable def isF (n : Nat) : Bool := decide (63 < n) && n % 64 == 10
noncomputable def gN (l : List Nat) : Nat := (l.filter fun n => !isF n).length
noncomputable def fN (l : List Nat) : Nat := (l.filter fun n => isF n).length
theorem gN_cons (x : Nat) (l : List Nat) : gN (x :: l) = (if isF x = true then 0 else 1) + gN l := by
  unfold gN
  by_cases h : isF x = true
  · simp [h]
  · simp [h]; lia
theorem fN_cons (x : Nat) (l : List Nat) : fN (x :: l) = (if isF x = true then 1 else 0) + fN l := by
  unfold fN
  by_cases h : isF x = true
  · simp [h]; lia
  · simp [h]
inductive Grow : List Nat → List Nat → Prop
  | nil : Grow [] []
  | keep {a b} (x : Nat) : Grow a b → Grow (x :: a) (x :: b)
  | ins {a b} (y : Nat) : isF y = false → Grow a b → Grow a (y :: b)
  | sub {a b} (x y : Nat) : isF x = true → isF y = false → Grow a b → Grow (x :: a) (y :: b)
theorem Grow.refl : ∀ l : List Nat, Grow l l
  | [] => .nil
  | x :: l => .keep x (Grow.refl l)
theorem Grow.trans {b c : List Nat} (h : Grow b c) : ∀ {a}, Grow a b → Grow a c := by
  induction h with
  | nil => intro a h; exact h
  | keep x _ ih =>
    intro a h
    cases h with
    | keep _ h => exact .keep x (ih h)
    | ins _ hy h => exact .ins x hy (ih h)
    | sub z _ hz hx h => exact .sub z x hz hx (ih h)
  | ins y hy _ ih => intro a h; exact .ins y hy (ih h)
  | sub x y hx hy _ ih =>
    intro a h
    cases h with
    | keep _ h => exact .sub x y hx hy (ih h)
    | ins _ hx' h => rw [hx] at hx'; cases hx'
    | sub z _ hz hx' h => rw [hx] at hx'; cases hx'
theorem Grow.ed {a b : List Nat} (h : Grow a b) : ∃ n, n ≤ 2 * ((gN b : Int) - gN a) ∧ Ed subCost n (a.map strN) (b.map strN) := by
  induction h with
  | nil => exact ⟨0, by simp [gN], .nil⟩
  | keep x _ ih =>
    obtain ⟨n, h1, h2⟩ := ih
    refine ⟨_, ?_, Ed.sub (strN x) (strN x) h2⟩
    rw [subCost_self, gN_cons, gN_cons]; lia
  | ins y hy _ ih =>
    obtain ⟨n, h1, h2⟩ := ih
    refine ⟨_, ?_, Ed.ins (strN y) h2⟩
    rw [gN_cons, hy]
    simp only [Bool.false_eq_true, if_false]
    lia
  | sub x y hx hy _ ih =>
    obtain ⟨n, h1, h2⟩ := ih
    refine ⟨_, ?_, Ed.sub (strN x) (strN y) h2⟩
    have := subCost_2 (strN x) (strN y)
    rw [gN_cons, gN_cons, hx, hy]
    simp only [Bool.false_eq_true, if_false, if_true]
    lia
theorem ed_low {n : Int} {A B : List Str} (h : Ed subCost n A B) : ∀ a b : List Nat, A = a.map strN → B = b.map strN → 2 * ((gN b : Int) - gN a) ≤ n := by
  induction h with
  | nil =>
    intro a b ha hb
    rw [List.map_eq_nil_iff.mp ha.symm, List.map_eq_nil_iff.mp hb.symm]; simp
  | del x _ ih =>
    intro a b ha hb
    cases a with
    | nil => cases ha
    | cons z a =>
      simp only [List.map_cons, List.cons.injEq] at ha
      have := ih a b ha.2 hb
      rw [gN_cons]; split <;> lia
  | ins x _ ih =>
    intro a b ha hb
    cases b with
    | nil => cases hb
    | cons z b =>
      simp only [List.map_cons, List.cons.injEq] at hb
      have := ih a b ha hb.2
      rw [gN_cons]; split <;> lia
  | sub x y _ ih =>
    intro a b ha hb
    cases a with
    | nil => cases ha
    | cons u a =>
      cases b with
      | nil => cases hb
      | cons v b =>
        simp only [List.map_cons, List.cons.injEq] at ha hb
        have := ih a b ha.2 hb.2
        rw [ha.1, hb.1, cost_strN, gN_cons, gN_cons]
        by_cases e : u = v
        · subst e; rw [if_pos rfl]; lia
        · rw [if_neg e]; split <;> split <;> lia
theorem Grow.lev {a b : List Nat} (h : Grow a b) : lev subCost (a.map strN) (b.map strN) = 2 * ((gN b : Int) - gN a) := by
  obtain ⟨n, h1, h2⟩ := h.ed
  have h3 := lev_le_ed subCost_0 h2
  have h4 := ed_low (ed_lev (c := subCost) (a.map strN) (b.map strN)) a b rfl rfl
  lia
-- the hands
theorem dots_grow : ∀ (l : List Nat) (v : Nat) (b : Bool), Grow (numsGo v l) (numsGo v (dots b l)) ∧ (dots b l).length + gN (numsGo v l) = l.length + gN (numsGo v (dots b l)) := by
  intro l
  induction l with
  | nil => intro v b; exact ⟨Grow.refl _, rfl⟩
  | cons c l ih =>
    intro v b
    rw [dots]
    split
    · rename_i h
      obtain ⟨_, rfl⟩ := h
      have := ih 0 false
      rw [numsGo, numsGo, numsGo]
      simp only [show (46 : Nat) < 64 by decide, if_true]
      refine ⟨.keep _ (.ins _ (by decide) this.1), ?_⟩
      rw [gN_cons, gN_cons, gN_cons]
      simp only [List.length_cons]
      have e : isF (0 * 64 + 46 % 64) = false := by decide
      rw [e]
      simp only [Bool.false_eq_true, if_false]
      lia
    · rw [numsGo, numsGo]
      split
      · have := ih 0 (c == 10)
        refine ⟨.keep _ this.1, ?_⟩
        rw [gN_cons, gN_cons]
        simp only [List.length_cons]
        lia
      · have := ih (v * 64 + c % 64) (c == 10)
        refine ⟨this.1, ?_⟩
        simp only [List.length_cons]
        lia
theorem crlf_grow : ∀ (n : Nat) (l : List Nat) (v : Nat), l.length ≤ n → Grow (numsGo v l) (numsGo v (crlf false l)) ∧ (crlf false l).length + (fN (numsGo v l) + gN (numsGo v l)) = l.length + gN (numsGo v (crlf false l)) := by
  intro n
  induction n with
  | zero =>
    intro l v h
    rw [List.length_eq_zero_iff.mp (Nat.le_zero.mp h)]
    exact ⟨Grow.refl _, rfl⟩
  | succ n ih =>
    intro l v h
    have f10 : isF 10 = false := by decide
    have f13 : ∀ v, isF (v * 64 + 13) = false := by
      intro v; unfold isF
      rw [show (v * 64 + 13) % 64 = 13 by lia]; simp
    cases l with
    | nil => exact ⟨Grow.refl _, rfl⟩
    | cons c l =>
      simp only [List.length_cons] at h
      have hi := ih l 0 (by lia)
      by_cases h10 : c = 10
      · subst h10
        rw [crlf_lf, numsGo, numsGo, numsGo]
        simp only [show (10 : Nat) < 64 by decide, show (13 : Nat) < 64 by decide, if_true, show 10 % 64 = 10 by decide, show 13 % 64 = 13 by decide, Nat.zero_mul, Nat.zero_add, List.length_cons]
        by_cases hv : v = 0
        · subst hv
          simp only [Nat.zero_mul, Nat.zero_add]
          refine ⟨.ins _ (by decide) (.keep _ hi.1), ?_⟩
          rw [fN_cons, gN_cons, gN_cons, gN_cons, f10]
          simp only [Bool.false_eq_true, if_false, show isF 13 = false by decide]
          lia
        · have hF : isF (v * 64 + 10) = true := by
            unfold isF
            rw [show (v * 64 + 10) % 64 = 10 by lia, decide_eq_true (by lia : 63 < v * 64 + 10)]; rfl
          refine ⟨.sub _ _ hF (f13 v) (.ins _ (by decide) hi.1), ?_⟩
          rw [fN_cons, gN_cons, gN_cons, gN_cons, f10, hF, f13]
          simp only [Bool.false_eq_true, if_false, if_true]
          lia
      · by_cases h13 : c = 13
        · subst h13
          by_cases hl : l.head? = some 10
          · cases l with
            | nil => cases hl
            | cons e l =>
              simp only [List.head?_cons, Option.some.injEq] at hl
              subst hl
              simp only [List.length_cons] at h
              have hj := ih l 0 (by lia)
              rw [crlf_crlf]
              simp only [numsGo, show (10 : Nat) < 64 by decide, show (13 : Nat) < 64 by decide, if_true, List.length_cons, show 10 % 64 = 10 by decide, show 13 % 64 = 13 by decide, Nat.zero_mul, Nat.zero_add]
              refine ⟨.keep _ (.keep _ hj.1), ?_⟩
              simp only [fN_cons, gN_cons, f10, f13, Bool.false_eq_true, if_false]
              lia
          · rw [crlf_cr l hl, numsGo, numsGo, numsGo]
            simp only [show (10 : Nat) < 64 by decide, show (13 : Nat) < 64 by decide, if_true, show 10 % 64 = 10 by decide, show 13 % 64 = 13 by decide, Nat.zero_mul, Nat.zero_add, List.length_cons]
            refine ⟨.keep _ (.ins _ (by decide) hi.1), ?_⟩
            rw [fN_cons, gN_cons, gN_cons, gN_cons, f10, f13]
            simp only [Bool.false_eq_true, if_false]
            lia
        · rw [crlf_cons _ _ h13 h10, numsGo, numsGo]
          split
          · refine ⟨.keep _ hi.1, ?_⟩
            rename_i hc
            have hF : isF (v * 64 + c % 64) = false := by
              unfold isF
              have : ¬ (v * 64 + c % 64) % 64 = 10 := by lia
              rw [beq_eq_false_iff_ne.mpr this, Bool.and_false]
            rw [fN_cons, gN_cons, gN_cons, hF]
            simp only [List.length_cons, Bool.false_eq_true, if_false]
            lia
          · have hj := ih l (v * 64 + c % 64) (by lia)
            refine ⟨hj.1, ?_⟩
            simp only [List.length_cons]
            lia
theorem hand_grow (h : Nat) (hh : h < 3) (l : List Nat) : Grow (numsGo 0 l) (numsGo 0 (handL h l)) ∧
    ((handL h l).length : Int) - l.length + (if h < 2 then (fN (numsGo 0 l) : Int) else 0) = (gN (numsGo 0 (handL h l)) : Int) - gN (numsGo 0 l) := by
  have hc := crlf_grow l.length l 0 (Nat.le_refl _)
  match h, hh with
  | 0, _ => refine ⟨hc.1, ?_⟩; show ((crlf false l).length : Int) - l.length + _ = (gN (numsGo 0 (crlf false l)) : Int) - _; rw [if_pos (by decide)]; lia
  | 1, _ =>
    have hd := dots_grow (crlf false l) 0 true
    refine ⟨hd.1.trans hc.1, ?_⟩
    show ((dots true (crlf false l)).length : Int) - l.length + _ = (gN (numsGo 0 (dots true (crlf false l))) : Int) - _
    rw [if_pos (by decide)]; lia
  | 2, _ =>
    have hd := dots_grow l 0 true
    refine ⟨hd.1, ?_⟩
    show ((dots true l).length : Int) - l.length + _ = (gN (numsGo 0 (dots true l)) : Int) - _
    rw [if_neg (by decide)]; lia
theorem lawH_lt (tot : Int) (i : Nat) : lawH tot i < 3 := by
  have : (tot.fdiv (3 ^ i)).fmod 3 < 3 := by rw [Int.fmod_eq_emod_of_nonneg _ (by decide)]; lia
  unfold lawH; lia
theorem step_grow (n0 n1 n2 n3 tot : Int) (i : Nat) : Grow (numsGo 0 (lawX n0 n1 n2 n3 tot i)) (numsGo 0 (lawX n0 n1 n2 n3 tot (i + 1))) ∧
    grewI n0 n1 n2 n3 tot i + bentI n0 n1 n2 n3 tot i = (gN (numsGo 0 (lawX n0 n1 n2 n3 tot (i + 1))) : Int) - gN (numsGo 0 (lawX n0 n1 n2 n3 tot i)) := hand_grow _ (lawH_lt tot i) _
theorem pure_e2 (n0 n1 n2 n3 tot : Int) : lev subCost (rowsN (lawX n0 n1 n2 n3 tot 0)) (rowsN (lawX n0 n1 n2 n3 tot 1)) = 2 * (grewI n0 n1 n2 n3 tot 0 + bentI n0 n1 n2 n3 tot 0) := by
  have h := step_grow n0 n1 n2 n3 tot 0
  rw [h.2]; exact h.1.lev
theorem pure_e3 (n0 n1 n2 n3 tot : Int) : lev subCost (rowsN (lawX n0 n1 n2 n3 tot 2)) (rowsN (lawX n0 n1 n2 n3 tot 1)) = 2 * (grewI n0 n1 n2 n3 tot 1 + bentI n0 n1 n2 n3 tot 1) := by
  have h := step_grow n0 n1 n2 n3 tot 1
  rw [h.2, lev_symm subCost_0 subCost_symm]; exact h.1.lev
theorem pure_e4 (n0 n1 n2 n3 tot : Int) : lev subCost (rowsN (lawX n0 n1 n2 n3 tot 0)) (rowsN (lawX n0 n1 n2 n3 tot 2)) = 2 * (grewI n0 n1 n2 n3 tot 0 + (grewI n0 n1 n2 n3 tot 1 + (bentI n0 n1 n2 n3 tot 0 + (bentI n0 n1 n2 n3 tot 1 + 0)))) := by
  have h := step_grow n0 n1 n2 n3 tot 0
  have g := step_grow n0 n1 n2 n3 tot 1
  have e := (g.1.trans h.1).lev
  have e2 := h.2
  have e3 := g.2
  unfold rowsN
  simp only [Nat.zero_add] at e e2 e3
  rw [e]
  show 2 * ((gN (numsGo 0 (lawX n0 n1 n2 n3 tot (1 + 1))) : Int) - _) = _
  lia
end Mine
end Z1
section Z2
open PySem PySem.W PySem.W.KIN PySem.NumText PyProof.Rows
set_option linter.unusedSimpArgs false
namespace Mine
-- heads and mails
theorem head_mem {row : Nat} (hr : row < 2) (n : Int) : ∀ c ∈ headL row n, c ≠ 10 ∧ c ≠ 13 ∧ c < 128 ∧ ¬ (65 ≤ c ∧ c ≤ 90) := by
  intro c hc
  unfold headL at hc
  rw [List.mem_append, List.mem_cons] at hc
  rcases hc with h | h | h
  · have := (List.mem_replicate.mp h).2; lia
  · lia
  · have hl : letterL row n ≤ 112 ∧ 97 ≤ letterL row n := by unfold letterL; lia
    unfold wordL at h
    split at h <;> simp only [List.mem_cons, List.not_mem_nil, or_false] at h <;> lia
theorem word_len (c k : Nat) : (wordL c k).length ≤ 5 ∧ 1 ≤ (wordL c k).length := by unfold wordL; split <;> simp
theorem head_len (row : Nat) (n : Int) : (headL row n).length ≤ 7 := by
  unfold headL
  have := (word_len (letterL row n) (n / 144 % 4).toNat).1
  simp only [List.length_append, List.length_replicate, List.length_cons]
  lia
theorem end_len (k : Int) : (endL k).length ≤ 2 := by unfold endL; split <;> (try split) <;> simp
theorem mail_len (n0 n1 k0 k1 : Int) (a b : Nat) : (mailL (headL 0 n0) (headL 1 n1) k0 k1 [a, b]).length ≤ 21 := by
  unfold mailL
  have h1 := head_len 0 n0; have h2 := head_len 1 n1; have h3 := end_len k0; have h4 := end_len k1
  simp only [List.length_append, List.length_cons, List.length_nil]
  lia
theorem crlf_app : ∀ (h r : List Nat), (∀ c ∈ h, c ≠ 10 ∧ c ≠ 13) → crlf false (h ++ r) = h ++ crlf false r := by
  intro h r
  induction h with
  | nil => intro _; rfl
  | cons c h ih =>
    intro hc
    have h1 := hc c (.head _)
    rw [List.cons_append, crlf_cons _ _ h1.2 h1.1, ih fun d hd => hc d (.tail _ hd)]; rfl
theorem crlf_end (k : Int) (r : List Nat) (hr : r.head? ≠ some 10) : crlf false (endL k ++ r) = 13 :: 10 :: crlf false r := by
  unfold endL
  split
  · exact crlf_lf r
  · split
    · exact crlf_cr r hr
    · exact crlf_crlf r
theorem head_first {row : Nat} (hr : row < 2) (n : Int) (r : List Nat) : (headL row n ++ r).head? ≠ some 10 := by
  have hm := head_mem hr n
  have hne : headL row n ≠ [] := by unfold headL; simp
  cases h : headL row n with
  | nil => exact absurd h hne
  | cons c l =>
    rw [h] at hm
    have := (hm c (.head _)).1
    simpa using this
theorem mail_crlf (n0 n1 k0 k1 : Int) (tl : List Nat) : crlf false (mailL (headL 0 n0) (headL 1 n1) k0 k1 tl) = headL 0 n0 ++ (13 :: 10 :: (headL 1 n1 ++ (13 :: 10 :: 51 :: crlf false tl))) := by
  unfold mailL
  rw [crlf_app _ _ fun c hc => ⟨(head_mem (by decide) n0 c hc).1, (head_mem (by decide) n0 c hc).2.1⟩, crlf_end _ _ (head_first (by decide) n1 _),
    crlf_app _ _ fun c hc => ⟨(head_mem (by decide) n1 c hc).1, (head_mem (by decide) n1 c hc).2.1⟩, crlf_end _ _ (by simp), crlf_cons _ _ (by decide) (by decide)]
-- lengths behind the hands
noncomputable def tN (l : List Nat) : Nat := (crlf false l).count 10
theorem dots_count : ∀ (l : List Nat) (b : Bool), (dots b l).count 10 = l.count 10 := by
  intro l
  induction l with
  | nil => intro b; simp [dots]
  | cons c l ih =>
    intro b
    rw [dots]
    split
    · rename_i h; obtain ⟨_, rfl⟩ := h; simp [ih]
    · simp [ih, List.count_cons]
theorem dots_length : ∀ (l : List Nat) (b : Bool), (dots b l).length ≤ l.length + l.count 10 + (if b = true then 1 else 0) := by
  intro l
  induction l with
  | nil => intro b; simp [dots]
  | cons c l ih =>
    intro b
    rw [dots]
    split
    · rename_i h
      obtain ⟨rfl, rfl⟩ := h
      have := ih false
      simp at this ⊢; lia
    · have := ih (c == 10)
      rw [List.count_cons]
      simp only [List.length_cons]
      by_cases h10 : (c == 10) = true
      · rw [if_pos h10] at this ⊢; lia
      · rw [if_neg h10] at this ⊢; lia
theorem crlf_length : ∀ (l : List Nat) (f : Bool), (crlf f l).length ≤ l.length + (crlf f l).count 10 := by
  intro l
  induction l with
  | nil => intro f; simp [crlf]
  | cons c l ih =>
    intro f
    have h1 := ih true; have h2 := ih false
    rw [crlf]
    split
    · simp only [List.length_cons]; lia
    · split
      · simp [List.count_cons]; lia
      · split
        · simp [List.count_cons]; lia
        · rename_i h; simp only [List.length_cons]; rw [List.count_cons, if_neg (by simpa using h)]; lia
theorem count_le_t : ∀ (l : List Nat) (f : Bool), l.count 10 ≤ (crlf f l).count 10 + (if f = true then 1 else 0) := by
  intro l
  induction l with
  | nil => intro f; simp [crlf]
  | cons c l ih =>
    intro f
    have h1 := ih true; have h2 := ih false
    simp only [if_true, Bool.false_eq_true, if_false] at h1 h2
    rw [crlf]
    split
    · rename_i h; obtain ⟨rfl, rfl⟩ := h; simp [List.count_cons]; lia
    · split
      · rename_i h; subst h; simp [List.count_cons]; lia
      · split
        · rename_i h; subst h; simp [List.count_cons]; lia
        · rename_i h; rw [List.count_cons, List.count_cons, if_neg (by simpa using h)]; lia
theorem t_dots : ∀ (l : List Nat) (f b : Bool), (f = true → b = true → l.head? ≠ some 46 ∨ True) → (crlf f (dots b l)).count 10 = (crlf f l).count 10 := by
  intro l
  induction l with
  | nil => intro f b _; simp [dots]
  | cons c l ih =>
    intro f b _
    rw [dots]
    split
    · rename_i h
      obtain ⟨_, rfl⟩ := h
      have := ih false false (fun _ _ => .inr trivial)
      simp [crlf, List.count_cons, this]
    · have h1 := ih true (c == 10) (fun _ _ => .inr trivial)
      have h2 := ih false (c == 10) (fun _ _ => .inr trivial)
      rw [crlf, crlf]
      split
      · exact h2
      · split
        · simp only [List.count_cons, h1]
        · split
          · simp only [List.count_cons, h2]
          · simp only [List.count_cons, h2]
theorem t_crlf : ∀ (l : List Nat) (f g : Bool), (crlf g (crlf f l)).count 10 ≤ (crlf f l).count 10 := by
  intro l
  induction l with
  | nil => intro f g; simp [crlf]
  | cons c l ih =>
    intro f g
    have e : ∀ r, crlf g (13 :: 10 :: r) = 13 :: 10 :: crlf false r := by intro r; cases g <;> simp [crlf]
    rw [crlf]
    split
    · exact ih false g
    · split
      · rw [e]
        have := ih true false
        simp [List.count_cons]; lia
      · split
        · rw [e]
          have := ih false false
          simp [List.count_cons]; lia
        · rename_i h1 h2
          have := ih false false
          rw [crlf]
          rw [if_neg (fun h => h2 h.2), if_neg h1, if_neg h2, List.count_cons, List.count_cons]
          lia
theorem hand_bound (h : Nat) (l : List Nat) : tN (handL h l) ≤ tN l ∧ (handL h l).length ≤ l.length + 2 * tN l + 1 := by
  have hd : ∀ l, tN (dots true l) = tN l := fun l => t_dots l false true (fun _ _ => .inr trivial)
  have hc : tN (crlf false l) ≤ tN l := t_crlf l false false
  have h1 : (crlf false l).length ≤ l.length + tN l := crlf_length l false
  have h2 : ∀ l, (dots true l).length ≤ l.length + l.count 10 + 1 := fun l => dots_length l true
  have h3 : l.count 10 ≤ tN l := count_le_t l false
  have h4 := h2 l
  have h5 := h2 (crlf false l)
  have h6 : (crlf false l).count 10 = tN l := rfl
  unfold handL
  split
  · exact ⟨hc, by lia⟩
  · exact ⟨by rw [hd]; exact hc, by lia⟩
  · exact ⟨by rw [hd]; lia, by lia⟩
theorem count_crlf_le (l : List Nat) : ∀ f, (crlf f l).count 10 ≤ l.length := by
  induction l with
  | nil => intro f; simp [crlf]
  | cons c l ih =>
    intro f
    have h1 := ih true; have h2 := ih false
    rw [crlf]
    split
    · simp only [List.length_cons]; lia
    · split
      · simp [List.count_cons]; lia
      · split
        · simp [List.count_cons]; lia
        · rw [List.count_cons]; simp only [List.length_cons]; split <;> lia
theorem clean_count {row : Nat} (hr : row < 2) (n : Int) : (headL row n).count 10 = 0 := by
  rw [List.count_eq_zero]
  exact fun h => (head_mem hr n 10 h).1 rfl
theorem mail_t (n0 n1 k0 k1 : Int) (a b : Nat) : tN (mailL (headL 0 n0) (headL 1 n1) k0 k1 [a, b]) ≤ 4 := by
  unfold tN
  rw [mail_crlf]
  have := count_crlf_le [a, b] false
  simp only [List.count_append, List.count_cons, clean_count (show 0 < 2 by decide), clean_count (show 1 < 2 by decide)]
  simp at this ⊢
  lia
theorem X_bound (n0 n1 n2 n3 tot : Int) : ∀ i, tN (lawX n0 n1 n2 n3 tot i) ≤ 4 ∧ (lawX n0 n1 n2 n3 tot i).length ≤ 21 + 9 * i := by
  intro i
  induction i with
  | zero => exact ⟨mail_t .., mail_len ..⟩
  | succ i ih =>
    have := hand_bound (lawH tot i) (lawX n0 n1 n2 n3 tot i)
    exact ⟨Nat.le_trans this.1 ih.1, by show (handL _ _).length ≤ _; lia⟩
theorem S_len (n0 n1 n2 n3 tot : Int) (i : Nat) (hi : i < 4) : (lawS n0 n1 n2 n3 tot i).length ≤ 40 := by
  cases i with
  | zero => exact Nat.le_trans (mail_len ..) (by decide)
  | succ i => have := (X_bound n0 n1 n2 n3 tot i).2; show (lawX _ _ _ _ _ i).length ≤ 40; lia
-- signs
theorem dots_low : ∀ (l : List Nat) (b : Bool), (∀ c ∈ l, c < 128) → ∀ c ∈ dots b l, c < 128 := by
  intro l
  induction l with
  | nil => intro b _ c hc; simp [dots] at hc
  | cons d l ih =>
    intro b h c hc
    have hd := h d (.head _)
    have ht := fun b => ih b (fun c hc => h c (.tail _ hc))
    rw [dots] at hc
    split at hc
    · simp only [List.mem_cons] at hc
      rcases hc with h | h | h
      · lia
      · lia
      · exact ht _ _ h
    · simp only [List.mem_cons] at hc
      rcases hc with h | h
      · lia
      · exact ht _ _ h
theorem crlf_low : ∀ (l : List Nat) (b : Bool), (∀ c ∈ l, c < 128) → ∀ c ∈ crlf b l, c < 128 := by
  intro l
  induction l with
  | nil => intro b _ c hc; simp [crlf] at hc
  | cons d l ih =>
    intro b h c hc
    have hd := h d (.head _)
    have ht := fun b => ih b (fun c hc => h c (.tail _ hc))
    rw [crlf] at hc
    split at hc
    · exact ht _ _ hc
    · split at hc
      · simp only [List.mem_cons] at hc
        rcases hc with h | h | h
        · lia
        · lia
        · exact ht _ _ h
      · split at hc
        · simp only [List.mem_cons] at hc
          rcases hc with h | h | h
          · lia
          · lia
          · exact ht _ _ h
        · simp only [List.mem_cons] at hc
          rcases hc with h | h
          · lia
          · exact ht _ _ h
theorem sign_low (x : Int) : signL x < 128 := by unfold signL; split <;> lia
theorem end_mem (k : Int) : ∀ c ∈ endL k, c = 10 ∨ c = 13 := by
  intro c hc
  unfold endL at hc
  split at hc
  · simp at hc; exact .inl hc
  · split at hc
    · simp at hc; exact .inr hc
    · simp at hc; exact hc.symm
theorem mail_low (n0 n1 k0 k1 : Int) (a b : Nat) (ha : a < 128) (hb : b < 128) : ∀ c ∈ mailL (headL 0 n0) (headL 1 n1) k0 k1 [a, b], c < 128 := by
  intro c hc
  unfold mailL at hc
  simp only [List.mem_append, List.mem_cons, List.not_mem_nil, or_false] at hc
  rcases hc with h | h | h | h | h | h | h
  · exact (head_mem (by decide) n0 c h).2.2.1
  · have := end_mem k0 c h; lia
  · exact (head_mem (by decide) n1 c h).2.2.1
  · have := end_mem k1 c h; lia
  · lia
  · lia
  · lia
theorem hand_low (h : Nat) (l : List Nat) (hl : ∀ c ∈ l, c < 128) : ∀ c ∈ handL h l, c < 128 := by
  unfold handL
  split
  · exact crlf_low l _ hl
  · exact dots_low _ _ (crlf_low l _ hl)
  · exact dots_low l _ hl
theorem S_low (n0 n1 n2 n3 tot : Int) (i : Nat) : ∀ c ∈ lawS n0 n1 n2 n3 tot i, c < 128 := by
  cases i with
  | zero => exact mail_low _ _ _ _ _ _ (sign_low _) (sign_low _)
  | succ i =>
    show ∀ c ∈ lawX n0 n1 n2 n3 tot i, c < 128
    induction i with
    | zero => exact mail_low _ _ _ _ _ _ (sign_low _) (sign_low _)
    | succ i ih => exact hand_low _ _ ih
theorem nums_lt : ∀ (l : List Nat) (v k : Nat), v < 64 ^ k → ∀ n ∈ numsGo v l, n < 64 ^ (k + l.length) := by
  intro l
  induction l with
  | nil => intro v k _ n hn; simp [numsGo] at hn
  | cons c l ih =>
    intro v k hv n hn
    have h1 : v * 64 + c % 64 < 64 ^ (k + 1) := by rw [Nat.pow_succ]; lia
    rw [numsGo] at hn
    rw [List.length_cons]
    split at hn
    · rcases List.mem_cons.mp hn with h | h
      · subst h
        exact Nat.lt_of_lt_of_le h1 (Nat.pow_le_pow_right (by decide) (by lia))
      · have := ih 0 k (Nat.pow_pos (by decide)) n h
        exact Nat.lt_of_lt_of_le this (Nat.pow_le_pow_right (by decide) (by lia))
    · have := ih _ (k + 1) h1 n hn
      rwa [show k + (l.length + 1) = k + 1 + l.length by lia]
theorem rows_item (l : List Nat) (hl : l.length ≤ 40) : ∀ x ∈ rowsN l, x.length ≤ 100 := by
  intro x hx
  obtain ⟨n, hn, rfl⟩ := List.mem_map.mp hx
  have h1 := nums_lt l 0 0 (by decide) n hn
  have h2 : n < 10 ^ 100 := by
    have h4 : 64 ^ (0 + l.length) ≤ 64 ^ 40 := Nat.pow_le_pow_right (by decide) (by lia)
    have h5 : (64 : Nat) ^ 40 ≤ 10 ^ 100 := by decide
    exact Nat.lt_of_lt_of_le h1 (Nat.le_trans h4 h5)
  have h3 := digits10_le (k := 100) (by decide) h2
  show (strN n).cps.size ≤ 100
  rw [← Array.length_toList, strN_signs, List.length_map]
  exact h3
end Mine
end Z2
section Z3
open PySem PySem.W PySem.W.KIN PySem.NumText PyProof.Rows
set_option linter.unusedSimpArgs false
set_option linter.unusedVariables false
namespace Mine
section
variable {α : Type} {c : α → α → Int}
theorem ed_pos (hc0 : ∀ x y, 0 ≤ c x y) {n : Int} {a b : List α} (h : Ed c n a b) : 0 ≤ n := by
  induction h with
  | nil => lia
  | del _ _ ih => lia
  | ins _ _ ih => lia
  | sub x y _ ih => have := hc0 x y; lia
theorem ed_ne {G : α → Prop} (hc0 : ∀ x y, 0 ≤ c x y) (hc2 : ∀ x y, G x → G y → x ≠ y → 2 ≤ c x y) {n : Int} {a b : List α} (h : Ed c n a b) : (∀ x ∈ a, G x) → (∀ x ∈ b, G x) → a = b ∨ 2 ≤ n := by
  induction h with
  | nil => intro _ _; exact .inl rfl
  | del _ h _ => intro _ _; have := ed_pos hc0 h; exact .inr (by lia)
  | ins _ h _ => intro _ _; have := ed_pos hc0 h; exact .inr (by lia)
  | sub x y h ih =>
    intro ha hb
    have h0 := ed_pos hc0 h
    by_cases e : x = y
    · rcases ih (fun z hz => ha z (.tail _ hz)) (fun z hz => hb z (.tail _ hz)) with h1 | h1
      · exact .inl (by rw [e, h1])
      · have := hc0 x y; exact .inr (by lia)
    · have := hc2 x y (ha x (.head _)) (hb y (.head _)) e
      exact .inr (by lia)
theorem lev_ne {G : α → Prop} (hc0 : ∀ x y, 0 ≤ c x y) (hc2 : ∀ x y, G x → G y → x ≠ y → 2 ≤ c x y) {a b : List α} (ha : ∀ x ∈ a, G x) (hb : ∀ x ∈ b, G x) (hne : a ≠ b) : 2 ≤ lev c a b :=
  (ed_ne hc0 hc2 (ed_lev (c := c) a b) ha hb).resolve_left hne
theorem lev_four {G : α → Prop} (hc0 : ∀ x y, 0 ≤ c x y) (hc2 : ∀ x y, G x → G y → x ≠ y → 2 ≤ c x y) {x y u v : α} {a b : List α} (ha : ∀ z ∈ x :: (a ++ [u]), G z) (hb : ∀ z ∈ y :: (b ++ [v]), G z) (hxy : x ≠ y) (huv : u ≠ v) : 4 ≤ lev c (x :: (a ++ [u])) (y :: (b ++ [v])) := by
  have last : ∀ {p q : List α}, p ++ [u] ≠ q ++ [v] := fun e => huv (by
    have := congrArg List.getLast? e
    simpa using this)
  rw [lev_cons]
  have h1 : 2 ≤ lev c (a ++ [u]) (y :: (b ++ [v])) := lev_ne hc0 hc2 (fun z hz => ha z (.tail _ hz)) hb (by rw [← List.cons_append]; exact last)
  have h2 : 2 ≤ lev c (x :: (a ++ [u])) (b ++ [v]) := lev_ne hc0 hc2 ha (fun z hz => hb z (.tail _ hz)) (by rw [← List.cons_append]; exact last)
  have h3 : 2 ≤ lev c (a ++ [u]) (b ++ [v]) := lev_ne hc0 hc2 (fun z hz => ha z (.tail _ hz)) (fun z hz => hb z (.tail _ hz)) last
  have h4 := hc2 x y (ha x (.head _)) (hb y (.head _)) hxy
  lia
theorem lev_map {β : Type} {d : β → β → Int} (f : α → β) : ∀ (a b : List α), (∀ x ∈ a, ∀ y ∈ b, d (f x) (f y) = c x y) → lev d (a.map f) (b.map f) = lev c a b := by
  intro a
  induction a with
  | nil => intro b _; rw [List.map_nil, lev_nil, lev_nil, List.length_map]
  | cons x a ih =>
    intro b
    induction b with
    | nil => intro _; rw [List.map_nil, lev_nil', lev_nil', List.length_map]
    | cons y b ihb =>
      intro h
      have h1 := ih (y :: b) (fun z hz => h z (.tail _ hz))
      have h2 := ihb (fun z hz w hw => h z hz w (.tail _ hw))
      have h3 := ih b (fun z hz w hw => h z (.tail _ hz) w (.tail _ hw))
      simp only [List.map_cons] at h1 h2 h3 ⊢
      rw [lev_cons, lev_cons, h1, h2, h3, h x (.head _) y (.head _)]
end
-- signs
noncomputable def GoodS (x : Str) : Prop := ∃ n, n < 128 ∧ ¬ (65 ≤ n ∧ n ≤ 90) ∧ x = sg n
theorem lower_sg (n : Nat) (h : n < 128) (h2 : ¬ (65 ≤ n ∧ n ≤ 90)) : Txt.lower (sg n) = sg n := by
  rw [lower_ascii (by intro c hc; simp [sg] at hc; lia)]
  unfold sg lo1
  simp only [List.map_toArray, List.map_cons, List.map_nil, if_neg h2]
theorem sg_inj {a b : Nat} (h : sg a = sg b) : a = b := by simpa [sg] using h
theorem good_cost (x y : Str) (hx : GoodS x) (hy : GoodS y) (h : x ≠ y) : 2 ≤ subCost x y := by
  obtain ⟨a, ha, ha2, rfl⟩ := hx
  obtain ⟨b, hb, hb2, rfl⟩ := hy
  unfold subCost
  rw [lower_sg a ha ha2, lower_sg b hb hb2, if_neg h, if_neg h]; lia
noncomputable def goodN (n : Nat) : Prop := n < 128 ∧ ¬ (65 ≤ n ∧ n ≤ 90)
theorem good_map {l : List Nat} (h : ∀ n ∈ l, goodN n) : ∀ x ∈ l.map sg, GoodS x := by
  intro x hx
  obtain ⟨n, hn, rfl⟩ := List.mem_map.mp hx
  exact ⟨n, (h n hn).1, (h n hn).2, rfl⟩
theorem levS_four {x y u v : Nat} {a b : List Nat} (ha : ∀ z ∈ x :: (a ++ [u]), goodN z) (hb : ∀ z ∈ y :: (b ++ [v]), goodN z) (hxy : x ≠ y) (huv : u ≠ v) : 4 ≤ lev subCost ((x :: (a ++ [u])).map sg) ((y :: (b ++ [v])).map sg) := by
  have h1 := good_map ha
  have h2 := good_map hb
  simp only [List.map_cons, List.map_append, List.map_nil] at h1 h2 ⊢
  exact lev_four subCost_0 good_cost h1 h2 (fun e => hxy (sg_inj e)) (fun e => huv (sg_inj e))
theorem trimLS (p a b : List Nat) : lev subCost ((p ++ a).map sg) ((p ++ b).map sg) = lev subCost (a.map sg) (b.map sg) := by
  rw [List.map_append, List.map_append, lev_trimL subCost_0 subCost_self]
theorem trimRS (s a b : List Nat) : lev subCost ((a ++ s).map sg) ((b ++ s).map sg) = lev subCost (a.map sg) (b.map sg) := by
  rw [List.map_append, List.map_append, lev_trimR subCost_0 subCost_self]
/-- two ends, by figures 0, 1, 2 -/
noncomputable def endK (k : Nat) : List Nat := match k with
  | 0 => [10]
  | 1 => [13]
  | _ => [13, 10]
theorem end_K (k : Nat) (h : k < 3) : endL (k : Int) = endK k := by
  match k, h with
  | 0, _ => rfl
  | 1, _ => rfl
  | 2, _ => rfl
theorem ends_left (p : Nat) (j k : Nat) (hj : j < 3) (hk : k < 3) (h : j ≠ k) (hp : p ≠ 10) (hp2 : p ≠ 13) : ∃ P x y A B, endK j ++ [p] = P ++ x :: A ∧ endK k ++ [p] = P ++ y :: B ∧ x ≠ y := by
  match j, k, hj, hk, h with
  | 0, 1, _, _, _ => exact ⟨[], 10, 13, [p], [p], rfl, rfl, by decide⟩
  | 0, 2, _, _, _ => exact ⟨[], 10, 13, [p], [10, p], rfl, rfl, by decide⟩
  | 1, 0, _, _, _ => exact ⟨[], 13, 10, [p], [p], rfl, rfl, by decide⟩
  | 2, 0, _, _, _ => exact ⟨[], 13, 10, [10, p], [p], rfl, rfl, by decide⟩
  | 1, 2, _, _, _ => exact ⟨[13], p, 10, [], [p], rfl, rfl, hp⟩
  | 2, 1, _, _, _ => exact ⟨[13], 10, p, [p], [], rfl, rfl, fun e => hp e.symm⟩
  | 0, 0, _, _, h => exact absurd rfl h
  | 1, 1, _, _, h => exact absurd rfl h
  | 2, 2, _, _, h => exact absurd rfl h
theorem ends_right (p : Nat) (j k : Nat) (hj : j < 3) (hk : k < 3) (h : j ≠ k) (hp : p ≠ 10) (hp2 : p ≠ 13) : ∃ P x y A B, p :: endK j = A ++ x :: P ∧ p :: endK k = B ++ y :: P ∧ x ≠ y := by
  match j, k, hj, hk, h with
  | 0, 1, _, _, _ => exact ⟨[], 10, 13, [p], [p], rfl, rfl, by decide⟩
  | 1, 0, _, _, _ => exact ⟨[], 13, 10, [p], [p], rfl, rfl, by decide⟩
  | 1, 2, _, _, _ => exact ⟨[], 13, 10, [p], [p, 13], rfl, rfl, by decide⟩
  | 2, 1, _, _, _ => exact ⟨[], 10, 13, [p, 13], [p], rfl, rfl, by decide⟩
  | 0, 2, _, _, _ => exact ⟨[10], p, 13, [], [p], rfl, rfl, hp2⟩
  | 2, 0, _, _, _ => exact ⟨[10], 13, p, [p], [], rfl, rfl, fun e => hp2 e.symm⟩
  | 0, 0, _, _, h => exact absurd rfl h
  | 1, 1, _, _, h => exact absurd rfl h
  | 2, 2, _, _, h => exact absurd rfl h
theorem ends_far : ∀ j < 3, ∀ k < 3, lev subCost ((endK j).map sg) ((endK k).map sg) = if j = k then 0 else 2 := by
  intro j hj k hk
  have : ∀ x y, subCost (sg x) (sg y) = (if sg x = sg y then 0 else if Txt.lower (sg x) = Txt.lower (sg y) then 1 else 2) := fun _ _ => rfl
  have e1 : subCost (sg 10) (sg 13) = 2 := by
    have := good_cost (sg 10) (sg 13) ⟨10, by decide, by decide, rfl⟩ ⟨13, by decide, by decide, rfl⟩ (fun e => absurd (sg_inj e) (by decide))
    have := subCost_2 (sg 10) (sg 13); lia
  have e2 : subCost (sg 13) (sg 10) = 2 := by rw [subCost_symm]; exact e1
  have e3 := subCost_self (sg 10)
  have e4 := subCost_self (sg 13)
  match j, k, hj, hk with
  | 0, 0, _, _ => exact lev_self subCost_0 subCost_self _
  | 1, 1, _, _ => exact lev_self subCost_0 subCost_self _
  | 2, 2, _, _ => exact lev_self subCost_0 subCost_self _
  | 0, 1, _, _ => simp [endK, lev_cons, lev_nil, lev_nil', e1]; decide
  | 1, 0, _, _ => simp [endK, lev_cons, lev_nil, lev_nil', e2]; decide
  | 0, 2, _, _ => simp [endK, lev_cons, lev_nil, lev_nil', e1, e3]; decide
  | 2, 0, _, _ => simp [endK, lev_cons, lev_nil, lev_nil', e2, e3]; decide
  | 1, 2, _, _ => simp [endK, lev_cons, lev_nil, lev_nil', e2, e4]; decide
  | 2, 1, _, _ => simp [endK, lev_cons, lev_nil, lev_nil', e1, e4]; decide
theorem end_goodK (k : Nat) : ∀ n ∈ endK k, goodN n := by
  intro n hn
  unfold endK at hn
  unfold goodN
  split at hn <;> simp at hn <;> lia
theorem spelled_far (p q : Nat) (m : List Nat) (hm : ∀ n ∈ p :: (m ++ [q]), goodN n ∧ n ≠ 10 ∧ n ≠ 13) (j0 k0 j1 k1 : Nat) (hj0 : j0 < 3) (hk0 : k0 < 3) (hj1 : j1 < 3) (hk1 : k1 < 3) :
    lev subCost ((endK j0 ++ (p :: (m ++ [q]) ++ endK j1)).map sg) ((endK k0 ++ (p :: (m ++ [q]) ++ endK k1)).map sg) = (if j0 = k0 then 0 else 2) + (if j1 = k1 then 0 else 2) := by
  by_cases h0 : j0 = k0
  · subst h0
    rw [if_pos rfl, ← List.append_assoc, ← List.append_assoc, trimLS, ends_far _ hj1 _ hk1]; lia
  by_cases h1 : j1 = k1
  · subst h1
    rw [if_pos rfl, trimRS, ends_far _ hj0 _ hk0]; lia
  rw [if_neg h0, if_neg h1]
  have up : lev subCost ((endK j0 ++ (p :: (m ++ [q]) ++ endK j1)).map sg) ((endK k0 ++ (p :: (m ++ [q]) ++ endK k1)).map sg) ≤ 4 := by
    have a0 := ed_lev (c := subCost) ((endK j0).map sg) ((endK k0).map sg)
    have a1 := ed_lev (c := subCost) ((p :: (m ++ [q])).map sg) ((p :: (m ++ [q])).map sg)
    have a2 := ed_lev (c := subCost) ((endK j1).map sg) ((endK k1).map sg)
    have := lev_le_ed subCost_0 (a0.append (a1.append a2))
    rw [ends_far _ hj0 _ hk0, ends_far _ hj1 _ hk1, lev_self subCost_0 subCost_self, if_neg h0, if_neg h1] at this
    rw [List.map_append, List.map_append, List.map_append, List.map_append]
    lia
  obtain ⟨P, x, y, A, B, e1, e2, hxy⟩ := ends_left p j0 k0 hj0 hk0 h0 (hm p (.head _)).2.1 (hm p (.head _)).2.2
  have hq := hm q (by simp)
  obtain ⟨S, u, v, C, D, e3, e4, huv⟩ := ends_right q j1 k1 hj1 hk1 h1 hq.2.1 hq.2.2
  have g0 : ∀ (j k : Nat) (T : List Nat), T = endK j ++ (p :: (m ++ [q]) ++ endK k) → ∀ n ∈ T, goodN n := by
    rintro j k T rfl n hn
    rw [List.mem_append, List.mem_append] at hn
    rcases hn with h | h | h
    · exact end_goodK _ n h
    · exact (hm n h).1
    · exact end_goodK _ n h
  have f1 : endK j0 ++ (p :: (m ++ [q]) ++ endK j1) = P ++ ((x :: ((A ++ m ++ C) ++ [u])) ++ S) := by
    have : endK j0 ++ (p :: (m ++ [q]) ++ endK j1) = (endK j0 ++ [p]) ++ m ++ (q :: endK j1) := by simp
    rw [this, e1, e3]; simp
  have f2 : endK k0 ++ (p :: (m ++ [q]) ++ endK k1) = P ++ ((y :: ((B ++ m ++ D) ++ [v])) ++ S) := by
    have : endK k0 ++ (p :: (m ++ [q]) ++ endK k1) = (endK k0 ++ [p]) ++ m ++ (q :: endK k1) := by simp
    rw [this, e2, e4]; simp
  have g1 := g0 j0 j1 _ f1.symm
  have g2 := g0 k0 k1 _ f2.symm
  rw [f1, f2] at up ⊢
  rw [trimLS, trimRS] at up ⊢
  have := levS_four (a := A ++ m ++ C) (b := B ++ m ++ D) (x := x) (y := y) (u := u) (v := v) (fun z hz => g1 z (by rw [List.mem_append, List.mem_append]; exact .inr (.inl hz))) (fun z hz => g2 z (by rw [List.mem_append, List.mem_append]; exact .inr (.inl hz))) hxy huv
  lia
theorem head_shape {row : Nat} (hr : row < 2) (n : Int) : ∃ p m q, headL row n = p :: (m ++ [q]) := by
  have hw := word_len (letterL row n) (n / 144 % 4).toNat
  have hne : wordL (letterL row n) (n / 144 % 4).toNat ≠ [] := by intro e; rw [e] at hw; simp at hw
  have hw2 := (List.dropLast_concat_getLast hne).symm
  unfold headL
  rw [hw2]
  have hd : (n / 9 % 2).toNat < 2 := by lia
  generalize (n / 9 % 2).toNat = d at hd
  match d, hd with
  | 0, _ => exact ⟨49 + row, _, _, rfl⟩
  | 1, _ => exact ⟨46, (49 + row) :: _, _, rfl⟩
theorem figs (n : Int) : ∃ k : Nat, k < 3 ∧ n.fmod 3 = (k : Int) := by
  have h0 : 0 ≤ n.fmod 3 := by rw [Int.fmod_eq_emod_of_nonneg _ (by decide)]; lia
  have h1 : n.fmod 3 < 3 := by rw [Int.fmod_eq_emod_of_nonneg _ (by decide)]; lia
  exact ⟨(n.fmod 3).toNat, by lia, by lia⟩
theorem pure_e1 (n0 n1 n2 n3 : Int) : lev subCost (sgs ⟨(lawO n0 n1 n2 n3).toArray⟩) (sgs ⟨(lawT n0 n1 n2 n3).toArray⟩) = 2 * (2 - ((List.count 0 [absI (n0.fmod 3 - (n0.fdiv 3).fmod 3), absI (n1.fmod 3 - (n1.fdiv 3).fmod 3)] : Nat) : Int)) := by
  obtain ⟨k0, hk0, e0⟩ := figs n0
  obtain ⟨k1, hk1, e1⟩ := figs n1
  obtain ⟨j0, hj0, e2⟩ := figs (n0.fdiv 3)
  obtain ⟨j1, hj1, e3⟩ := figs (n1.fdiv 3)
  obtain ⟨p, m, q, hh⟩ := head_shape (show 1 < 2 by decide) n1
  have hs : ∀ l : List Nat, sgs ⟨l.toArray⟩ = l.map sg := fun l => by simp [sgs]
  unfold lawO lawT mailL
  rw [e0, e1, e2, e3, end_K _ hk0, end_K _ hk1, end_K _ hj0, end_K _ hj1, hs, hs, trimLS, hh]
  have hm : ∀ n ∈ p :: (m ++ [q]), goodN n ∧ n ≠ 10 ∧ n ≠ 13 := by
    intro n hn
    rw [← hh] at hn
    have := head_mem (show 1 < 2 by decide) n1 n hn
    exact ⟨⟨this.2.2.1, this.2.2.2⟩, this.1, this.2.1⟩
  have f := spelled_far p q m hm j0 k0 j1 k1 hj0 hk0 hj1 hk1
  have g : ∀ (a b : List Nat), a ++ (p :: (m ++ [q]) ++ (b ++ 51 :: [signL n2, signL n3])) = (a ++ (p :: (m ++ [q]) ++ b)) ++ (51 :: [signL n2, signL n3]) := by intro a b; simp
  rw [g, g, trimRS, f]
  have c0 : ∀ j k : Nat, (absI ((k : Int) - j) = 0) ↔ j = k := by intro j k; unfold absI; split <;> lia
  have c1 : ∀ x y : Int, ((List.count 0 [x, y] : Nat) : Int) = (if x = 0 then 1 else 0) + (if y = 0 then 1 else 0) := by
    intro x y
    rw [List.count_cons, List.count_cons, List.count_nil]
    by_cases hx : x = 0 <;> by_cases hy : y = 0 <;> simp [hx, hy]
  rw [c1]
  simp only [c0]
  by_cases h0 : j0 = k0
  · by_cases h1 : j1 = k1
    · rw [if_pos h0, if_pos h1, if_pos h0, if_pos h1]; decide
    · rw [if_pos h0, if_neg h1, if_pos h0, if_neg h1]; decide
  · by_cases h1 : j1 = k1
    · rw [if_neg h0, if_pos h1, if_neg h0, if_pos h1]; decide
    · rw [if_neg h0, if_neg h1, if_neg h0, if_neg h1]; decide
end Mine
end Z3
section Z4
open PySem PySem.W PySem.W.KIN PySem.NumText PyProof.Rows
set_option linter.unusedSimpArgs false
set_option linter.unusedVariables false
namespace Mine
-- the numbers of a mail
noncomputable def wordV (c k : Nat) : Nat := match k with
  | 0 => c
  | 1 => c
  | 2 => c * 64
  | _ => c * 64 * 64 * 64 * 64
theorem nums_dots (d : Nat) (r : List Nat) : numsGo 0 (List.replicate d 46 ++ r) = List.replicate d 46 ++ numsGo 0 r := by
  induction d with
  | zero => rfl
  | succ d ih => rw [List.replicate_succ, List.cons_append, numsGo, if_pos (by decide), ih]; rfl
theorem nums_word (c k : Nat) (r : List Nat) (h1 : 64 ≤ c) (h2 : c < 128) : numsGo 0 (wordL c k ++ r) = numsGo (wordV (c % 64) k) r := by
  have hc : ¬ c < 64 := by lia
  unfold wordL wordV
  split <;> simp [numsGo, hc]
noncomputable def endN (V k : Nat) : List Nat := match k with
  | 0 => [V * 64 + 10]
  | 1 => [V * 64 + 13]
  | _ => [V * 64 + 13, 10]
theorem nums_end (V k : Nat) (r : List Nat) : numsGo V (endK k ++ r) = endN V k ++ numsGo 0 r := by
  unfold endK endN
  split <;> simp [numsGo]
noncomputable def headV (row : Nat) (n : Int) : Nat := wordV (letterL row n % 64) (n / 144 % 4).toNat
theorem nums_head (row : Nat) (hr : row < 2) (n : Int) (r : List Nat) : numsGo 0 (headL row n ++ r) = List.replicate (n / 9 % 2).toNat 46 ++ (49 + row) :: numsGo (headV row n) r := by
  unfold headL
  rw [List.append_assoc, nums_dots, List.cons_append, numsGo, if_pos (by lia), show 0 * 64 + (49 + row) % 64 = 49 + row by lia, nums_word _ _ _ (by unfold letterL; lia) (by unfold letterL; lia)]
  rfl
theorem heads_differ (n0 n1 : Int) : headV 0 n0 ≠ headV 1 n1 ∧ 0 < headV 0 n0 ∧ 0 < headV 1 n1 := by
  have h0 : 33 ≤ letterL 0 n0 % 64 ∧ letterL 0 n0 % 64 ≤ 40 := by unfold letterL; lia
  have h1 : 41 ≤ letterL 1 n1 % 64 ∧ letterL 1 n1 % 64 ≤ 48 := by unfold letterL; lia
  unfold headV
  generalize letterL 0 n0 % 64 = a at h0 ⊢
  generalize letterL 1 n1 % 64 = b at h1 ⊢
  unfold wordV
  split <;> split <;> lia
noncomputable def codeF (V W : Nat) (i : Nat) : Nat := match i with
  | 0 => 10
  | 1 => 46
  | 2 => 50
  | 3 => V * 64 + 10
  | 4 => V * 64 + 13
  | 5 => W * 64 + 10
  | _ => W * 64 + 13
theorem place_inj {p q r t : Nat} (hr : r < 64) (ht : t < 64) (e : p * 64 + r = q * 64 + t) : p = q ∧ r = t := by lia
theorem codeF_inj (V W : Nat) (h : V ≠ W) (hV : 0 < V) (hW : 0 < W) (i j : Nat) (hi : i < 7) (hj : j < 7) (e : codeF V W i = codeF V W j) : i = j := by
  have key : ∀ i, i < 7 → ∃ p r, r < 64 ∧ codeF V W i = p * 64 + r ∧ ((p = 0 ∧ ((i = 0 ∧ r = 10) ∨ (i = 1 ∧ r = 46) ∨ (i = 2 ∧ r = 50))) ∨ (p = V ∧ ((i = 3 ∧ r = 10) ∨ (i = 4 ∧ r = 13))) ∨ (p = W ∧ ((i = 5 ∧ r = 10) ∨ (i = 6 ∧ r = 13)))) := by
    intro i hi
    match i, hi with
    | 0, _ => exact ⟨0, 10, by decide, rfl, .inl ⟨rfl, .inl ⟨rfl, rfl⟩⟩⟩
    | 1, _ => exact ⟨0, 46, by decide, rfl, .inl ⟨rfl, .inr (.inl ⟨rfl, rfl⟩)⟩⟩
    | 2, _ => exact ⟨0, 50, by decide, rfl, .inl ⟨rfl, .inr (.inr ⟨rfl, rfl⟩)⟩⟩
    | 3, _ => exact ⟨V, 10, by decide, rfl, .inr (.inl ⟨rfl, .inl ⟨rfl, rfl⟩⟩)⟩
    | 4, _ => exact ⟨V, 13, by decide, rfl, .inr (.inl ⟨rfl, .inr ⟨rfl, rfl⟩⟩)⟩
    | 5, _ => exact ⟨W, 10, by decide, rfl, .inr (.inr ⟨rfl, .inl ⟨rfl, rfl⟩⟩)⟩
    | 6, _ => exact ⟨W, 13, by decide, rfl, .inr (.inr ⟨rfl, .inr ⟨rfl, rfl⟩⟩)⟩
  obtain ⟨p, r, hr, ep, cp⟩ := key i hi
  obtain ⟨q, t, ht, eq, cq⟩ := key j hj
  rw [ep, eq] at e
  obtain ⟨e1, e2⟩ := place_inj hr ht e
  clear ep eq key e
  lia
noncomputable def cInt (i j : Nat) : Int := if i = j then 0 else 2
noncomputable def endC (b k : Nat) : List Nat := match k with
  | 0 => [b]
  | 1 => [b + 1]
  | _ => [b + 1, 0]
noncomputable def codes (d j0 j1 : Nat) : List Nat := endC 3 j0 ++ (List.replicate d 1 ++ (2 :: endC 5 j1))
noncomputable def absN (a b : Nat) : Nat := (a - b) + (b - a)
theorem codes_far : ∀ d < 2, ∀ j0 < 3, ∀ k0 < 3, ∀ j1 < 3, ∀ k1 < 3, lev cInt (codes d j0 j1) (codes d k0 k1) = ((2 * (absN k0 j0 + absN k1 j1) : Nat) : Int) := by decide +kernel
theorem codes_lt : ∀ d < 2, ∀ j0 < 3, ∀ j1 < 3, ∀ x ∈ codes d j0 j1, x < 7 := by decide
theorem codes_map (V W d j0 j1 : Nat) : (codes d j0 j1).map (codeF V W) = endN V j0 ++ (List.replicate d 46 ++ (50 :: endN W j1)) := by
  unfold codes
  rw [List.map_append, List.map_append, List.map_cons, List.map_replicate]
  have e1 : (endC 3 j0).map (codeF V W) = endN V j0 := by unfold endC endN; split <;> rfl
  have e2 : (endC 5 j1).map (codeF V W) = endN W j1 := by unfold endC endN; split <;> rfl
  rw [e1, e2]; rfl
theorem rows_far (V W d : Nat) (h : V ≠ W) (hV : 0 < V) (hW : 0 < W) (hd : d < 2) (j0 j1 k0 k1 : Nat) (hj0 : j0 < 3) (hj1 : j1 < 3) (hk0 : k0 < 3) (hk1 : k1 < 3) :
    lev subCost ((endN V j0 ++ (List.replicate d 46 ++ (50 :: endN W j1))).map strN) ((endN V k0 ++ (List.replicate d 46 ++ (50 :: endN W k1))).map strN) = ((2 * (absN k0 j0 + absN k1 j1) : Nat) : Int) := by
  rw [← codes_map, ← codes_map, List.map_map, List.map_map, ← codes_far d hd j0 hj0 k0 hk0 j1 hj1 k1 hk1]
  refine lev_map _ _ _ fun x hx y hy => ?_
  have h1 := codes_lt d hd j0 hj0 j1 hj1 x hx
  have h2 := codes_lt d hd k0 hk0 k1 hk1 y hy
  show subCost (strN (codeF V W x)) (strN (codeF V W y)) = _
  rw [cost_strN]
  unfold cInt
  by_cases e : x = y
  · subst e; rw [if_pos rfl, if_pos rfl]
  · rw [if_neg e, if_neg fun g => e (codeF_inj V W h hV hW x y h1 h2 g)]
theorem mail_nums (n0 n1 : Int) (k0 k1 : Nat) (h0 : k0 < 3) (h1 : k1 < 3) (tl : List Nat) : rowsN (mailL (headL 0 n0) (headL 1 n1) k0 k1 tl) =
    (List.replicate (n0 / 9 % 2).toNat 46 ++ [49]).map strN ++ ((endN (headV 0 n0) k0 ++ (List.replicate (n1 / 9 % 2).toNat 46 ++ (50 :: endN (headV 1 n1) k1))).map strN ++ (51 :: numsGo 0 tl).map strN) := by
  unfold mailL rowsN
  rw [end_K _ h0, end_K _ h1, nums_head 0 (by decide), nums_end, nums_head 1 (by decide), nums_end, numsGo, if_pos (by decide), ← List.map_append, ← List.map_append]
  congr 1
  simp
theorem pure_e0 (n0 n1 n2 n3 : Int) : lev subCost (rowsN (lawO n0 n1 n2 n3)) (rowsN (lawT n0 n1 n2 n3)) = 2 * (absI (n0.fmod 3 - (n0.fdiv 3).fmod 3) + (absI (n1.fmod 3 - (n1.fdiv 3).fmod 3) + 0)) := by
  obtain ⟨k0, hk0, e0⟩ := figs n0
  obtain ⟨k1, hk1, e1⟩ := figs n1
  obtain ⟨j0, hj0, e2⟩ := figs (n0.fdiv 3)
  obtain ⟨j1, hj1, e3⟩ := figs (n1.fdiv 3)
  obtain ⟨g1, g2, g3⟩ := heads_differ n0 n1
  unfold lawO lawT
  rw [e0, e1, e2, e3, mail_nums _ _ _ _ hj0 hj1, mail_nums _ _ _ _ hk0 hk1, lev_trimL subCost_0 subCost_self, lev_trimR subCost_0 subCost_self, rows_far _ _ _ g1 g2 g3 (by lia) _ _ _ _ hj0 hj1 hk0 hk1]
  have c0 : ∀ j k : Nat, absI ((k : Int) - j) = (absN k j : Nat) := by intro j k; unfold absI absN; split <;> lia
  rw [c0, c0]; lia
theorem law_pure (n0 n1 n2 n3 tot : Int) : LawPure n0 n1 n2 n3 tot where
  heads0 := Nat.le_trans (head_len 0 n0) (by decide)
  heads1 := Nat.le_trans (head_len 1 n1) (by decide)
  quote := by unfold lawO lawT; rw [mail_crlf, mail_crlf]
  len i hi := Nat.le_trans (S_len n0 n1 n2 n3 tot i hi) (by decide)
  lenO := S_len n0 n1 n2 n3 tot 0 (by decide)
  lenT := S_len n0 n1 n2 n3 tot 1 (by decide)
  lenR i hi := by
    unfold rowsN
    rw [List.length_map]
    exact Nat.le_trans (nums_len _ _) (S_len n0 n1 n2 n3 tot i hi)
  low i _ := S_low n0 n1 n2 n3 tot i
  item i hi := rows_item _ (S_len n0 n1 n2 n3 tot i hi)
  e0 := pure_e0 n0 n1 n2 n3
  e1 := pure_e1 n0 n1 n2 n3
  e2 := pure_e2 n0 n1 n2 n3 tot
  e3 := pure_e3 n0 n1 n2 n3 tot
  e4 := pure_e4 n0 n1 n2 n3 tot
end Mine
end Z4
section W12
open PySem PySem.W PyProof.Rows PySem.Calls PySem.Spec PyProof.V PySem.SeqAt
set_option pp.structureInstances false
set_option maxRecDepth 100000
set_option maxHeartbeats 800000
namespace Mine
local macro_rules | `(tactic| walk_at "READS") => `(tactic| (repeat' (first | exact trivial | refine And.intro rfl ?_)))
theorem around_eq {A B : Around} (h1 : A.handled = B.handled) (h2 : A.depth = B.depth) (h3 : A.frames = B.frames) (h4 : A.guards = B.guards) (h5 : A.units = B.units) : A = B := by
  cases A; cases B; cases h1; cases h2; cases h3; cases h4; cases h5; rfl
theorem env_eq {n n' : Str} {sc sc' : Scope} {L L' a a' : Addr} {c c' : Value} {cl : List (Str × Addr)} (h1 : n = n') (h2 : sc = sc') (h3 : L = L') (h4 : a = a') (h5 : c = c') (h6 : cellsFrom (L + 1) sc.names [] = cl) : envOfC n sc L a c = envX n' sc' L' a' c' cl := by
  subst h1 h2 h3 h4 h5 h6; rfl
theorem execs_eq {b b' : List Stmt} {e e' : Env} (h1 : b = b') (h2 : e = e') : execs b e = execs b' e' := by
  subst h1 h2; rfl
theorem swap {M M' : Model} {A A' : Around} {t t' : Sem Flow} {s s' : Shared} {Q : Flow → Shared → Prop} {E : Value → Shared → Prop} (hM : M = M') (hA : A = A') (ht : t = t') (hs : s = s') (h : wpAny M' A' t' Q E s') : wpAny M A t Q E s := by
  subst hM hA ht hs; exact h
theorem loose_is : looseW hd.view_39 [Str.ofString "_twin_re_1", Str.ofString "_twin_re_2", Str.ofString "_twin_re_3"] = loose := by kernel_rfl
theorem law_holds : PySem.Challenge.rw_ta0009_01.Holds := by
  refine Mine.hd ?_
  k_go0
  rename Fr _ _ _ _ => F
  rename News _ _ _ _ => N
  rename Top _ _ _ _ _ _ => T
  rename Below _ _ _ _ => B
  rename Frag.In _ _ => X
  rename Heap.IsList _ _ _ => hS
  rename IntsAre _ _ => hI
  rename World => w
  rename_i hgens _ _ _ _ _ _ _ _ _ _ _ _ _ _ _ _ _ _ _ _ _ _ _ _ _ _ _ _ hcond _ _ h₁ tk₁ oT oO oN hT hO hN _
  have T1 := T
  rw [loose_is] at T1
  have B1 : Below callerA _ [] _ := B
  have F1 := fr_reads (ps := [("script", .ref _)]) F (by walk_at "READS")
  rename Shared => s₁
  rename Shared.gens _ = #[] => hg
  have hS1 : s₁.heap.IsList _ _ := hS
  have cT : oT.data = .cell none := hT.trans (by with_unfolding_all rfl)
  have cO : oO.data = .cell none := hO.trans (by with_unfolding_all rfl)
  have cN : oN.data = .cell none := hN.trans (by with_unfolding_all rfl)
  have key := fun Q a ccd => law_body (Q := Q) (a := a) (ccd := ccd) (s := { s₁ with heap := h₁, toks := tk₁ }) (dp := 302) (un := 7) (gd := some []) B F1 X N T1 (by decide) (by decide) hS hI (by omega) cN cO cT law_pure
  refine wpAny_mono (Q := fun f s' => _) (E := fun _ _ => False) ?_ (fun _ _ q => q) (fun _ _ f => False.elim f)
  refine' swap ?hM ?hA ?ht ?hs (key _ _ _ ?kret)
  case hM => exact rfl
  case hA =>
    refine around_eq ?a1 ?a2 ?a3 ?a4 ?a5
    case a1 => exact rfl
    case a2 => exact rfl
    case a4 => exact rfl
    case a5 => exact rfl
    case a3 =>
      refine congrArg some (congrArg (fun e => [e]) ?_)
      refine' env_eq ?e1 ?e2 ?e3 ?e4 ?e5 ?e6
      case e1 => exact rfl
      case e2 => exact rfl
      case e3 => exact rfl
      case e4 => exact rfl
      case e5 => exact rfl
      case e6 => exact rfl
  case hs => exact rfl
  case ht =>
    refine execs_eq ?b1 ?b2
    case b1 => exact rfl
    case b2 =>
      refine' env_eq ?e1 ?e2 ?e3 ?e4 ?e5 ?e6
      case e1 => exact rfl
      case e2 => exact rfl
      case e3 => exact rfl
      case e4 => exact rfl
      case e5 => exact rfl
      case e6 => exact rfl
  intro h' tk' m led F' N'
  refine ⟨.inl ⟨.bool true, .bool true, [], rfl, ?ra, ?rd, ?po, ?un⟩, ?ke, ?os, ?ge⟩
  case ra => intro cls; rfl
  case rd => exact .bool true
  case un => intro _; exact ⟨List.nodup_nil, fun _ h => nomatch h⟩
  case ke => exact F'.keep
  case os => rfl
  case ge => exact hg
  case po => with_unfolding_all rfl
end Mine
end W12
open PySem PySem.W PyProof.Rows
set_option maxRecDepth 100000 in
set_option maxHeartbeats 8000000 in
theorem PySem.Challenge.cw_ta0009_01_holds : PySem.Challenge.rw_ta0009_01.Holds :=
  Mine.law_holds
