import PyProof.Rows.All
import Wide.All
import OpenK.AllK
import Wide.FinOn
import KE.KStateW
import Lean
import PySem.Challenge.RW_ny0043_01
set_option Elab.async false

/-! ## LTop -/
section
theorem Mine.startLTop : True := by
  w_top off
  trivial
open PySem PySem.W PyProof.Rows
set_option Elab.async false
namespace Mine
set_option maxRecDepth 100000 in
set_option maxHeartbeats 8000000 in
open_top hd for PySem.Challenge.rw_ny0043_01
end Mine
end

/-! ## LBase -/
section
theorem Mine.startLBase : True := by
  w_top off
  trivial
open PySem PySem.W PyProof.Rows PySem.Calls PySem.Spec
set_option Elab.async false
namespace Mine

noncomputable abbrev Led := List (Addr × Obj)
noncomputable abbrev Claim (w : World) (k : Nat) (f : Addr) (vs : List Value) (Pre : Led → Prop) (Post : Led → Led → Value → Prop) : Prop :=
  ∀ (p : Program) (loose : List Str) (mean : ExcName → Option Value) (mg mb : Str → Option Value) (dp un : Nat) (gd : Option (List Code)) (cn : Str) (cs : Scope) (a : Addr) (ccd : Value) (cl : List (Str × Addr)) (outer : List Env) (A₀ : Around) (base h₀ : Heap) (L : Addr) (m : Str → Option Value)
    (news : Led) (s : Shared) (Q E : Value → Shared → Prop),
    Below A₀ base outer h₀ → Fr h₀ L s.heap m → (hd.heap_39 w.params).In h₀ → News h₀ L s.heap news → Top p loose mean mg mb h₀ → cs.kind = .function → dp + k < recursionLimit → un + (200 + 10 * k) < cLine → Pre news →
    (∀ r news' h' tk', Fr h₀ L h' m → News h₀ L h' news' → Post news news' r → Q r { s with heap := h', toks := tk' }) →
    wpAny (model PySem.Challenge.rw_ny0043_01.row.prog w) (ktrTop dp un gd cn cs L a ccd cl outer) (call (.ref f) vs) Q E s

noncomputable abbrev tupO (vs : List Value) (n : Nat := 0) : Obj := { cls := .type "tuple", data := .seq vs.toArray n }
/-- a goal is named, so that what is taken apart ahead of it stays small -/
theorem foldG {G : Prop} (h : ∀ P : Prop, (G → P) → P) : G := h G id
/-- a state is written out anew, its count of tokens forgotten -/
theorem ckpt {M : Model} {A : Around} {α : Type} {tr : Sem α} {Q : α → Shared → Prop} {E : Value → Shared → Prop} {h : Heap} {g d : _} {o : _} {t : Nat} (H : ∀ t', wpAny M A tr Q E ⟨h, g, d, t', o⟩) : wpAny M A tr Q E ⟨h, g, d, t, o⟩ := H t
end Mine
end

/-! ## LRules -/
section
theorem Mine.startLRules : True := by
  w_top off
  trivial
open PySem PySem.W PyProof.Rows PySem.Calls PySem.Spec
set_option Elab.async false
namespace Mine
section
variable {prog : Program} {w : World} {A : Around} {E : Value → Shared → Prop} {s : Shared} {h₀ : Heap} {L : Addr} {m : Str → Option Value} {news : List (Addr × Obj)}

theorem adjust_upto (b n : Nat) (hb : b ≤ n) : Builtin.Slice.sliceAdjust none (some (b : Int)) 1 (n : Int) = (0, (b : Int)) := by
  unfold Builtin.Slice.sliceAdjust
  have h1 : ¬ ((1 : Int) < 0) := by (first | lia | omega)
  have h2 : ¬ ((b : Int) < 0) := by (first | lia | omega)
  simp only [h1, h2, if_false]
  congr 1
  (first | lia | omega)
theorem places_upto (b : Nat) : Builtin.Slice.slicePlaces 0 (b : Int) 1 = b := by
  unfold Builtin.Slice.slicePlaces
  have h1 : (1 : Int) > 0 := by (first | lia | omega)
  simp only [h1, if_true, Int.ediv_one]
  split <;> (first | lia | omega)
theorem sliceApplied_upto {sl : Addr} {b n : Nat} {u : Tok} {Q : Int × Int × Nat → Shared → Prop} (hs : s.heap.IsSliceOf sl .none (.int b u) .none) (hb : b ≤ n) (h : Q (0, 1, b) s) :
    wpAny (model prog w) A (Builtin.Slice.sliceApplied (.ref sl) (pure (n : Int))) Q E s := by
  obtain ⟨os, hos, hcs, hds⟩ := id hs
  unfold Builtin.Slice.sliceApplied Builtin.Slice.sliceFields
  refine wpAny_bind (wpAny_bind (wpAny_field hos hds (x := .none) rfl (wpAny_bind (wpAny_field hos hds (x := .int b u) rfl (wpAny_bind (wpAny_field hos hds (x := .none) rfl (wpAny_pure ?_)))))))
  refine wpAny_bind (slicePart_none ?_)
  show wpAny _ _ (if ((1 : Int) == 0) = true then _ else _) _ _ s
  rw [if_neg (by decide)]
  refine wpAny_bind (slicePart_none (wpAny_bind (slicePart_int (wpAny_bind (wpAny_pure ?_)))))
  show wpAny _ _ (match Builtin.Slice.sliceAdjust none (some (b : Int)) 1 (n : Int) with | (lo, hi) => pure (lo, (1 : Int), Builtin.Slice.slicePlaces lo hi 1)) _ _ s
  rw [adjust_upto b n hb]
  show wpAny _ _ (pure ((0 : Int), (1 : Int), Builtin.Slice.slicePlaces 0 (b : Int) 1)) _ _ s
  rw [places_upto b]
  exact wpAny_pure h
theorem pick_upto (xs : Array Value) (b : Nat) : ((List.range b).filterMap fun (k : Nat) => xs[((0 : Int) + (k : Int) * 1).toNat]?).toArray = (xs.toList.take b).toArray := by
  have e : (fun (k : Nat) => xs[((0 : Int) + (k : Int) * 1).toNat]?) = fun k => xs[0 + k]? := by
    funext k
    have : ((0 : Int) + (k : Int) * 1).toNat = 0 + k := by (first | lia | omega)
    rw [this]
  rw [e]
  have := pick_run xs 0 b
  rw [List.filterMap_map] at this
  have e2 : ((fun x => xs[x]?) ∘ fun x => 0 + x) = fun k => xs[0 + k]? := rfl
  rw [e2] at this
  rw [this, List.drop_zero]
theorem getItem_tuple_upto {t sl : Addr} {items : Array Value} {b : Nat} {u : Tok} {Q : Value → Shared → Prop} (ht : IsTup s.heap t items) (hs : s.heap.IsSliceOf sl .none (.int b u) .none) (ha : b < items.size)
    (h : Q (.ref s.heap.objs.size) { s with heap := s.heap.push { cls := .type "tuple", data := .seq (items.toList.take b).toArray } })
    (hsz : items.size ≤ sizeLine := by size_fits) : wpAny (model prog w) A (getItem (.ref t) (.ref sl)) Q E s := by
  have htake : sizeOk (.seq (items.toList.take b).toArray) := by
    show (items.toList.take b).toArray.size ≤ sizeLine
    rw [List.size_toArray, List.length_take, Array.length_toList]
    (first | lia | omega)
  obtain ⟨os, hos, hcs, hds⟩ := id hs
  have hTs : s.TypeIs (.ref sl) "slice" := ⟨os, hos, hcs⟩
  unfold getItem
  try with_reducible refine wpAny_holding ?_
  first | refine wpAny_bind (wpAny_pure ?_) | skip
  refine wpAny_bind (wpAny_sequenceKey ht.typeIs (by decide) ?_)
  refine wpAny_bind (wpAny_callSpecial?_slot (name := Str.ofString "__getitem__") ht.typeIs slot_tuple_getitem
    (wpAny_call_entry slot_tuple_getitem ht.typeIs entry_tuple_getitem ?_ (args_tuple_getitem _ _)))
  show wpAny _ _ (Builtin.Tuple.tupleItemsOf (.ref t) >>= _) _ _ s
  refine wpAny_bind (tupleItemsOf_ ht ?_)
  refine wpAny_bind (wpAny_typeOf hTs ?_)
  rw [if_pos (by decide)]
  refine wpAny_bind (sliceApplied_upto hs (Nat.le_of_lt ha) ?_)
  have hno : ¬ (((0 : Int) == 0 && (1 : Int) == 1 && b == items.size) = true) := by
    have : (b == items.size) = false := by rw [beq_eq_false_iff_ne]; (first | lia | omega)
    rw [this]; simp
  show wpAny _ _ (if ((0 : Int) == 0 && (1 : Int) == 1 && b == items.size) = true then _ else _) _ _ s
  rw [if_neg hno, pick_upto items b]
  first
    | exact wpAny_bind (m := Builtin.Tuple.tupleExact _) (wpAny_newObj_type (wpAny_pure ⟨_, rfl, wpAny_pure h⟩) htake)
    | exact wpAny_bind (m := Builtin.Tuple.tupleExact _) (wpAny_newObj_type (wpAny_bind (wpAny_pure (wpAny_pure ⟨_, rfl, wpAny_pure h⟩))) htake)
    | exact wpAny_bind (wpAny_bind (m := Builtin.Tuple.tupleExact _) (wpAny_newObj_type (wpAny_pure (wpAny_pure ⟨_, rfl, wpAny_pure h⟩)) htake))
    | exact wpAny_bind (wpAny_bind (m := Builtin.Tuple.tupleExact _) (wpAny_newObj_type (wpAny_pure ⟨_, rfl, wpAny_pure h⟩) htake))
theorem slice_tuple_upto {value slice : Expr} {t : Addr} {vs : List Value} {b : Nat} {k : Nat} {u : Tok} {Q : Value → Shared → Prop}
    (F : Fr h₀ L s.heap m) (N : News h₀ L s.heap news) (hm : (t, tupO vs k) ∈ news) (ha : b < vs.length)
    (h : ∀ D h', Fr h₀ L h' m → News h₀ L h' ((D, tupO (vs.take b)) :: news) → (∀ p ∈ news, p.1 < D) → Q (.ref D) { s with heap := h' })
    (hs : subscripted slice false (.ref t) (.ref s.heap.objs.size) = operate [.ref s.heap.objs.size, .ref t] (getItem (.ref t) (.ref s.heap.objs.size)))
    (hg : ∀ r, letTemporaryGo value (.ref t) r = pure ())
    (hsz : vs.length ≤ sizeLine) :
    wpAny (model prog w) A (subscriptTail value slice (.ref t) (.ref s.heap.objs.size)) Q E { s with heap := s.heap.push { cls := .type "slice", data := .fields #[.none, .int b u, .none] } } := by
  have ht : IsTup s.heap t vs.toArray := ⟨_, (N _ hm).1, rfl, _, rfl⟩
  have ht' : IsTup (s.heap.push { cls := .type "slice", data := .fields #[.none, .int b u, .none] }) t vs.toArray := ht.keeps fun _ _ e => Heap.get?_push_of_some _ e
  refine subscriptTail_ops (s := { s with heap := s.heap.push { cls := .type "slice", data := .fields #[.none, .int b u, .none] } }) ht'.typeIs slot_tuple_getitem.lookup
    (getItem_tuple_upto ht' (Heap.IsSliceOf.new ..) (by simpa using ha) ?_ (by simpa using hsz)) hs hg
  have N1 := News.push (F.push { cls := .type "slice", data := .fields #[.none, .int b u, .none] }) (N.grown fun _ _ e => Heap.get?_push_of_some _ e) { cls := .type "tuple", data := .seq (vs.take b).toArray }
  rw [Heap.size_push] at N1
  show Q (.ref (s.heap.push _).objs.size) _
  rw [Heap.size_push]
  exact h _ _ ((F.push _).push _) N1 fun p hp => Nat.lt_succ_of_lt (Heap.lt_size (N p hp).1)

theorem ktr_u {dp un : Nat} {gd : Option (List Code)} {cn : Str} {cs : Scope} {a : Addr} {ccd : Value} {cl : List (Str × Addr)} {outer : List Env} : (ktrTop dp un gd cn cs L a ccd cl outer).units = un := rfl
theorem kqd_shaped {n : Nat} {d : Dat} (hn : n ≤ 9) (h : kqdOk n d = true) : SeqAt.shaped (kqdP d) = true := by
  have l := kqd_lay n d h
  unfold SeqAt.shaped
  rw [l.1, Bool.true_and]
  exact decide_eq_true (Nat.le_trans l.2 (Nat.le_trans hn (by decide)))
theorem dat_eq {v1 v2 : Value} {d1 d2 : Dat} {Q : Value → Shared → Prop} (N : News h₀ L s.heap news) (D1 : DatIn news v1 d1) (D2 : DatIn news v2 d2) (o1 : kqdOk 8 d1 = true) (o2 : kqdOk 8 d2 = true) (hu : A.units + 64 < cLine)
    (h : ∀ b : Bool, (b = true ↔ d1 = d2) → Q (.bool b) s) : wpAny (model prog w) A (compareOp .Eq v1 v2) Q E s := by
  obtain ⟨as, ra⟩ := kqd_in N 8 D1 o1
  obtain ⟨bs, rb⟩ := kqd_in N 8 D2 o2
  exact eq_dataH ra rb (kqd_shaped (by decide) o1) (kqd_shaped (by decide) o2) hu (h _ (kqd_eqv 8 d1 d2 8 o1 o2))
theorem dat_ne {v1 v2 : Value} {d1 d2 : Dat} {Q : Value → Shared → Prop} (N : News h₀ L s.heap news) (D1 : DatIn news v1 d1) (D2 : DatIn news v2 d2) (o1 : kqdOk 8 d1 = true) (o2 : kqdOk 8 d2 = true) (hu : A.units + 64 < cLine)
    (h : ∀ b : Bool, (b = true ↔ d1 ≠ d2) → Q (.bool b) s) : wpAny (model prog w) A (compareOp .NotEq v1 v2) Q E s := by
  obtain ⟨as, ra⟩ := kqd_in N 8 D1 o1
  obtain ⟨bs, rb⟩ := kqd_in N 8 D2 o2
  refine ne_dataH ra rb (kqd_shaped (by decide) o1) (kqd_shaped (by decide) o2) hu (h _ ?_)
  have q := kqd_eqv 8 d1 d2 8 o1 o2
  rw [Bool.not_eq_true', Bool.eq_false_iff]
  exact not_congr q
end
end Mine
end

/-! ## LFmt -/
section
theorem Mine.startLFmt : True := by
  w_top off
  trivial
open PySem PySem.W PyProof.Rows PySem.Calls PySem.Spec
set_option Elab.async false
namespace Mine
open Builtin Builtin.Str in
theorem int_textS (c : Percent) (h1 : c.alt = false) (h2 : c.type = 100 ∨ c.type = 105 ∨ c.type = 117) (h3 : c.prec = none) (n : Int) (d : List Nat) :
    percentInt c (decide (n < 0)) d = (if n < 0 then [45] else []) ++ d := by
  unfold percentInt
  by_cases hn : n < 0 <;> rcases h2 with h2 | h2 | h2 <;> simp [h1, h2, h3, hn]
theorem toString_neg (n : Int) (h : n < 0) : (PySem.Str.ofString (toString n)).cps.toList = 45 :: (PySem.Str.ofString (toString ((n.natAbs : Nat) : Int))).cps.toList := by
  obtain ⟨k, rfl⟩ : ∃ k : Nat, n = Int.negSucc k := ⟨(-n - 1).toNat, by (first | lia | omega)⟩
  have e1 : toString (Int.negSucc k) = "-" ++ toString (k + 1) := rfl
  have e2 : toString (((Int.negSucc k).natAbs : Nat) : Int) = toString (k + 1) := rfl
  rw [e1, e2]
  rw [signs_ofString, signs_ofString, String.toList_append, List.map_append]
  rfl
theorem ofString_toString_nonneg (n : Int) (h : ¬ n < 0) : ((n.natAbs : Nat) : Int) = n := by (first | lia | omega)
theorem toString_text (n : Int) : (if n < 0 then [45] else []) ++ (PySem.Str.ofString (toString ((n.natAbs : Nat) : Int))).cps.toList = (PySem.Str.ofString (toString n)).cps.toList := by
  by_cases h : n < 0
  · rw [if_pos h, toString_neg n h]; rfl
  · rw [if_neg h, ofString_toString_nonneg n h]; rfl
theorem toString_len {n : Int} (h : n.natAbs < 10 ^ 20) : (PySem.Str.ofString (toString n)).length ≤ 21 := by
  rw [PySem.ofString_length]
  exact int_text_length_le10 (k := 20) (by decide) h
open Builtin Builtin.Str in
theorem after_intS {M : Model} {A : Around} {E : Value → Shared → Prop} {s : Shared} {l : List Nat} {p : List Value} {r : List Nat}
    {f : Nat → List Value × Writer × List Nat → Sem (ForInStep (List Value × Writer × List Nat))} {Q : List Value × Writer × List Nat → Shared → Prop}
    {w : Writer} {T : PySem.Str} {N : Nat} {o : Option Value} {c : Percent} {n : Int} {d : List Nat} (g : KPc.Good w T N) (h1 : c.alt = false) (h2 : c.type = 100 ∨ c.type = 105 ∨ c.type = 117) (h3 : c.prec = none) (hm : n.natAbs < 10 ^ 20)
    (hd : d = (PySem.Str.ofString (toString ((n.natAbs : Nat) : Int))).cps.toList) (ho : o = none) (h : ∀ w', KPc.Good w' (T ++ PySem.Str.ofString (toString n)) (N + 21) → wpAny M A (forIn l (p, w', r) f) Q E s) :
    wpAny M A (forIn l (p, w.add ⟨(percentInt c (decide (n < 0)) d).toArray⟩ o, r) f) Q E s := by
  rw [int_textS c h1 h2 h3, hd, toString_text]
  exact KPc.after_str g (toString_len hm) (KPc.obj_none ho) h
local macro_rules | `(tactic| kpt_hd) => `(tactic| assumption)
local macro_rules | `(tactic| kpt_piece) => `(tactic| (refine after_intS (by kpc_g) rfl (by kpc_kind) rfl (by assumption) rfl (by kpc_none) ?_; intro _ _))
open Builtin Builtin.Str in
set_option maxRecDepth 100000 in
set_option maxHeartbeats 4000000 in
theorem meets_fmt {b : Addr} {f n : PySem.Str} {l : Int} {t t1 t2 t3 : Tok} (hf : f.length ≤ 100) (hn : n.length ≤ 100) (hl : l.natAbs < 10 ^ 20) (hl2 : l.natAbs.log2 < 1920) :
    Meets («str.__mod__» ⟨[.str ⟨#[37, 115, 58, 37, 100, 40, 37, 115, 41]⟩ t, .ref b], []⟩) (fun _ R s => IsTup s.heap b #[.str f t1, .int l t2, .str n t3] ∧ ∀ t' k, R (.ok (.ret (.str (f ++ Str.ofString ":" ++ Str.ofString (toString l) ++ Str.ofString "(" ++ n ++ Str.ofString ")") t'))) { s with toks := k }) := by
  kpt_run
end Mine
end

/-! ## LFind -/
section
theorem Mine.startLFind : True := by
  w_top off
  trivial
open PySem PySem.W PyProof.Rows PySem.Calls PySem.Spec
set_option Elab.async false
namespace Mine
theorem at_one (x : Str) (c i : Nat) : StrLaws.At x ⟨#[c]⟩ x.length i ↔ x.cps.toList[i]? = some c := by
  unfold StrLaws.At
  rw [StrLaws.subAt_eq]
  have hl : (⟨#[c]⟩ : Str).length = 1 := rfl
  rw [hl]
  simp only [beq_iff_eq]
  have hx : x.length = x.cps.toList.length := by simp [PySem.Str.length]
  rw [hx]
  generalize x.cps.toList = l
  constructor
  · rintro ⟨h1, h2⟩
    have : i < l.length := by (first | lia | omega)
    rw [List.drop_eq_getElem_cons this] at h2
    simp only [List.take_succ_cons, List.take_zero, List.cons.injEq, and_true] at h2
    rw [List.getElem?_eq_getElem this, h2]
  · intro h
    obtain ⟨h1, h2⟩ := List.getElem?_eq_some_iff.mp h
    refine ⟨by (first | lia | omega), ?_⟩
    rw [List.drop_eq_getElem_cons h1]
    simp [h2]
/-- Txt.find3 of a single sign, as a fact about places -/
theorem find3_spec (text : Str) (c : Nat) (j : Int) (hj : 0 ≤ j) :
    (Txt.find3 text ⟨#[c]⟩ j < 0 ∧ ∀ k : Nat, j ≤ k → text.cps.toList[k]? ≠ some c) ∨
    ∃ k : Nat, Txt.find3 text ⟨#[c]⟩ j = k ∧ j ≤ k ∧ text.cps.toList[k]? = some c ∧ ∀ k' : Nat, j ≤ k' → k' < k → text.cps.toList[k']? ≠ some c := by
  obtain ⟨n, rfl⟩ : ∃ n : Nat, j = n := ⟨j.toNat, by (first | lia | omega)⟩
  have hfr : fromIndex text.length (n : Int) = n := by
    unfold fromIndex
    rw [if_neg (by (first | lia | omega))]
    (first | lia | omega)
  unfold Txt.find3
  rw [hfr, StrLaws.occ_eq]
  rcases StrLaws.occ_first text ⟨#[c]⟩ text.length 1 (Nat.le_refl _) (List.range' n (text.length + 1 - n)) n (fun i hi => (List.mem_range'_1.mp hi).1) with ⟨h0, hn⟩ | ⟨pre, a, post, e, h0, ha, hn⟩
  · left
    rw [h0]
    refine ⟨by decide, fun k hk hc => ?_⟩
    have hat := (at_one text c k).mpr hc
    exact hn k (List.mem_range'_1.mpr ⟨by (first | lia | omega), by have := hat.1; (first | lia | omega)⟩) hat
  · right
    refine ⟨a, ?_, ?_, (at_one text c a).mp ha, fun k' hk1 hk2 hc => ?_⟩
    · generalize (forIn (List.range' n (text.length + 1 - n)) ((#[] : Array Nat), n) (StrLaws.occBody text ⟨#[c]⟩ text.length 1)).run.fst = arr at h0
      have h1 : arr.toList[0]? = some a := by simpa using h0
      cases hl : arr.toList with
      | nil => rw [hl] at h1; cases h1
      | cons b r => rw [hl] at h1; simp at h1; simp [h1]
    · have : a ∈ List.range' n (text.length + 1 - n) := by rw [e]; simp
      have := (List.mem_range'_1.mp this).1
      (first | lia | omega)
    · refine hn k' ?_ ((at_one text c k').mpr hc)
      have hsplit : ∀ (p : Nat) (len : Nat) (pre post : List Nat), List.range' p len = pre ++ a :: post → p ≤ k' → k' < a → k' ∈ pre := by
        intro p len
        induction len generalizing p with
        | zero => intro pre post h; cases pre <;> simp at h
        | succ len ih =>
          intro pre post h h1 h2
          rw [List.range'_succ] at h
          cases pre with
          | nil => simp at h; (first | lia | omega)
          | cons b pre =>
            simp only [List.cons_append, List.cons.injEq] at h
            by_cases hk : k' = p
            · rw [← h.1, hk]; exact List.mem_cons_self
            · exact List.mem_cons_of_mem _ (ih (p + 1) pre post h.2 (by (first | lia | omega)) h2)
      exact hsplit n _ pre post e (by (first | lia | omega)) hk2
end Mine
end

/-! ## LText -/
section
theorem Mine.startLText : True := by
  w_top off
  trivial
open PySem PySem.W PyProof.Rows PySem.Calls PySem.Spec PySem.NumText
set_option Elab.async false
namespace Mine
theorem str_eq {x y : Str} (h : x.cps.toList = y.cps.toList) : x = y := Str.ext' (Array.toList_inj.mp h)
theorem cps_app (x y : Str) : (x ++ y).cps.toList = x.cps.toList ++ y.cps.toList := by rw [PySem.Str.cps_append]; simp
theorem len_cps (x : Str) : x.length = x.cps.toList.length := by simp [PySem.Str.length]
theorem num_digits (m : Nat) : NumText.AllDigits (PySem.Str.ofString (toString ((m : Nat) : Int))).cps.toList ∧ (PySem.Str.ofString (toString ((m : Nat) : Int))).cps.toList ≠ [] := by
  constructor
  · intro c hc
    rw [KIN.signs_num] at hc
    obtain ⟨ch, hch, e⟩ := List.mem_map.mp hc
    have r := digit_range (Nat.isDigit_of_mem_toDigits (by decide) (by decide) hch)
    rw [← e]
    exact r
  · rw [KIN.signs_num]
    intro e
    have h := toDigits_len_ge 10 m
    rw [List.map_eq_nil_iff.mp e] at h
    exact absurd h (by decide)
theorem int_reads {n : Int} (h : n.natAbs < 10 ^ 20) : PySem.intText? (PySem.Str.ofString (toString n)) = some n := by
  have hl := toString_len h
  obtain ⟨hd, hne⟩ := num_digits n.natAbs
  by_cases hn : n < 0
  · rw [intText_neg (toString_neg n hn) hd hne (by (first | lia | omega)), KIN.signs_num, KIN.val_back]
    congr 1
    (first | lia | omega)
  · obtain ⟨m, rfl⟩ := Int.eq_ofNat_of_zero_le (Int.not_lt.mp hn)
    have e := intText_digits (x := PySem.Str.ofString (toString ((m : Nat) : Int))) hd hne (by (first | lia | omega))
    rw [KIN.signs_num, KIN.val_back] at e
    exact e
theorem occ_skip (s sub : Str) (hi limit : Nat) : ∀ (l : List Nat) (st : Array Nat × Nat), (∀ i ∈ l, ¬ StrLaws.At s sub hi i) → (forIn l st (StrLaws.occBody s sub hi limit)) = (pure st : Id _)
  | [], st, _ => by rw [List.forIn_nil]
  | a :: l, st, h => by
    rw [List.forIn_cons]
    have ha := h a (List.mem_cons_self ..)
    have e : StrLaws.occBody s sub hi limit a st = pure (ForInStep.yield st) := by
      unfold StrLaws.occBody
      rw [if_neg (fun hc => ha ⟨hc.1.2, hc.2⟩)]
    rw [e]
    exact occ_skip s sub hi limit l st fun i hi' => h i (List.mem_cons_of_mem _ hi')
theorem forIn_app {σ : Type} (f : Nat → σ → Id (ForInStep σ)) (hf : ∀ i st, ∃ st', f i st = pure (ForInStep.yield st')) : ∀ (l l' : List Nat) (st : σ), (forIn (l ++ l') st f : Id σ) = forIn l' (forIn l st f : Id σ).run f
  | [], l', st => by rw [List.forIn_nil]; rfl
  | a :: l, l', st => by
    rw [List.cons_append, List.forIn_cons, List.forIn_cons]
    obtain ⟨st', e⟩ := hf a st
    rw [e]
    exact forIn_app f hf l l' st'
theorem occ_one (A B : Str) (c : Nat) (hA : c ∉ A.cps.toList) (hB : c ∉ B.cps.toList) (lim : Nat) (hl : 1 ≤ lim) :
    Builtin.Str.occurrences (A ++ ⟨#[c]⟩ ++ B) ⟨#[c]⟩ 0 (A ++ ⟨#[c]⟩ ++ B).length lim = [A.length] := by
  have hx : (A ++ ⟨#[c]⟩ ++ B).cps.toList = A.cps.toList ++ c :: B.cps.toList := by rw [cps_app, cps_app]; simp
  have hat : ∀ i, StrLaws.At (A ++ ⟨#[c]⟩ ++ B) ⟨#[c]⟩ (A ++ ⟨#[c]⟩ ++ B).length i ↔ i = A.length := by
    intro i
    rw [at_one, hx]
    have hla : A.length = A.cps.toList.length := len_cps A
    constructor
    · intro h
      rcases Nat.lt_trichotomy i A.cps.toList.length with hlt | heq | hgt
      · rw [List.getElem?_append_left hlt] at h
        exact absurd (List.mem_of_getElem? h) hA
      · (first | lia | omega)
      · rw [List.getElem?_append_right (by (first | lia | omega))] at h
        obtain ⟨k, hk⟩ : ∃ k, i - A.cps.toList.length = k + 1 := ⟨i - A.cps.toList.length - 1, by (first | lia | omega)⟩
        rw [hk, List.getElem?_cons_succ] at h
        exact absurd (List.mem_of_getElem? h) hB
    · intro h
      rw [h, hla, List.getElem?_append_right (Nat.le_refl _)]
      simp
  have hlen : (A ++ ⟨#[c]⟩ ++ B).length = A.length + 1 + B.length := by rw [PySem.Str.length_append, PySem.Str.length_append]; rfl
  generalize hX : (A ++ ⟨#[c]⟩ ++ B) = X at *
  rw [StrLaws.occ_eq]
  have hr : List.range' 0 (X.length + 1 - 0) = List.range' 0 A.length ++ (A.length :: List.range' (A.length + 1) (B.length + 1)) := by
    rw [← List.range'_succ, hlen]
    have := List.range'_append (s := 0) (m := A.length) (n := B.length + 1 + 1) (step := 1)
    simp only [Nat.zero_add, Nat.one_mul] at this
    rw [this]
    congr 1
    (first | lia | omega)
  have hb : ∀ i st, ∃ st', StrLaws.occBody X ⟨#[c]⟩ X.length lim i st = pure (ForInStep.yield st') := by
    intro i st
    unfold StrLaws.occBody
    split <;> exact ⟨_, rfl⟩
  have e0 := occ_skip X ⟨#[c]⟩ X.length lim (List.range' 0 A.length) (#[], 0) (fun i hi h => by
    have := (hat i).mp h
    have := (List.mem_range'_1.mp hi).2
    (first | lia | omega))
  rw [hr, forIn_app _ hb, e0]
  rw [List.forIn_cons]
  have e : StrLaws.occBody X ⟨#[c]⟩ X.length lim A.length ((pure (#[], 0) : Id (Array Nat × Nat)).run) = pure (ForInStep.yield (#[A.length], A.length + 1)) := by
    unfold StrLaws.occBody
    have h := (hat A.length).mpr rfl
    rw [if_pos ⟨⟨⟨by simp [Id.run]; exact hl, Nat.zero_le _⟩, h.1⟩, h.2⟩]
    rfl
  rw [e]
  show (forIn (List.range' (A.length + 1) (B.length + 1)) (#[A.length], A.length + 1) (StrLaws.occBody X ⟨#[c]⟩ X.length lim)).run.fst.toList = _
  rw [occ_skip _ _ _ _ _ _ (fun i hi h => by
    have := (hat i).mp h
    have := (List.mem_range'_1.mp hi).1
    (first | lia | omega))]
  rfl
theorem split_one (A B : Str) (c : Nat) (hc : c < 256) (hA : c ∉ A.cps.toList) (hB : c ∉ B.cps.toList) : Txt.split (A ++ ⟨#[c]⟩ ++ B) ⟨#[c]⟩ = [A, B] := by
  have hlen : (A ++ ⟨#[c]⟩ ++ B).length = A.length + 1 + B.length := by rw [PySem.Str.length_append, PySem.Str.length_append]; rfl
  have hx : (A ++ ⟨#[c]⟩ ++ B).cps.toList = A.cps.toList ++ c :: B.cps.toList := by rw [cps_app, cps_app]; simp
  unfold Txt.split
  rw [if_neg, occ_one A B c hA hB _ (by (first | lia | omega)), if_neg (by simp), StrLaws.partsBetween_eq]
  · show [Builtin.Str.strSub _ 0 A.length, Builtin.Str.strSub _ (A.length + 1) _] = [A, B]
    congr 1
    · refine str_eq ?_
      rw [StrLaws.strSub_toList, hx, List.drop_zero, Nat.sub_zero, len_cps A, List.take_left']
      rfl
    · congr 1
      refine str_eq ?_
      rw [StrLaws.strSub_toList, hx, hlen, len_cps A, List.drop_append, List.drop_of_length_le (by (first | lia | omega))]
      have : A.cps.toList.length + 1 - A.cps.toList.length = 1 := by (first | lia | omega)
      rw [this, List.nil_append, List.drop_succ_cons, List.drop_zero, List.take_of_length_le]
      rw [len_cps B]; (first | lia | omega)
  · have k1 : Builtin.Str.strKind (⟨#[c]⟩ : Str) = 1 := by
      unfold Builtin.Str.strKind
      rw [if_pos (by simp [hc])]
    rw [k1, hlen]
    have k2 : 1 ≤ Builtin.Str.strKind (A ++ ⟨#[c]⟩ ++ B) := by unfold Builtin.Str.strKind; split; exact Nat.le_refl _; split <;> decide
    have : (⟨#[c]⟩ : Str).length = 1 := rfl
    rw [this]
    simp only [Bool.or_eq_true, decide_eq_true_eq]
    (first | lia | omega)
theorem ofString_dot : Str.ofString "." = ⟨#[46]⟩ := by decide +kernel
end Mine
end

/-! ## LMap -/
section
theorem Mine.startLMap : True := by
  w_top off
  trivial
open PySem PySem.W PyProof.Rows PySem.Calls PySem.Spec
set_option Elab.async false
namespace Mine
namespace MP
set_option maxRecDepth 100000
theorem mro_map : mroOf (.type "map") = pure [.type "map", .type "object"] := by rw [mroOf_type]; kernel_rfl
theorem lookup_map_new : typeLookup (.type "map") "__new__" = pure (some (.builtin "map.__new__")) := by rw [typeLookup_type, builtinLookup_eq_fast]; kernel_rfl
theorem slot_map_init : Slot "map" "__init__" "object.__init__" :=
  .of (owner := "object") (n := "__init__") (by rw [typeLookup_type, builtinLookup_eq_fast]; kernel_rfl) (by decide +kernel) (by decide +kernel) (by decide +kernel)
    (by first | exact .inl (by decide +kernel) | exact .inr (by decide +kernel)) (by rw [isSubtype_type]; kernel_rfl)
theorem slot_map_next : Slot "map" "__next__" "map.__next__" :=
  .of (owner := "map") (n := "__next__") (by rw [typeLookup_type, builtinLookup_eq_fast]; kernel_rfl) (by decide +kernel) (by decide +kernel) (by decide +kernel)
    (by first | exact .inl (by decide +kernel) | exact .inr (by decide +kernel)) (by rw [isSubtype_type]; kernel_rfl)
theorem slot_map_iter : Slot "map" "__iter__" "map.__iter__" :=
  .of (owner := "map") (n := "__iter__") (by rw [typeLookup_type, builtinLookup_eq_fast]; kernel_rfl) (by decide +kernel) (by decide +kernel) (by decide +kernel)
    (by first | exact .inl (by decide +kernel) | exact .inr (by decide +kernel)) (by rw [isSubtype_type]; kernel_rfl)
theorem called_map : TypeCalled "map" "map.__new__" "object.__init__" :=
  ⟨by decide +kernel, by decide +kernel, ⟨_, _, mro_map⟩, madeBy_type mro_map lookup_map_new (by decide +kernel), by decide +kernel, by rw [isSubtype_type]; kernel_rfl, slot_map_init⟩
theorem typeCall_map_2 (a b : Value) : checkTypeCall "map" ⟨[a, b], []⟩ = pure () := by kernel_rfl
theorem newCall_map_2 (a b : Value) : checkBuiltinCall "map.__new__" ⟨[.type "map", a, b], []⟩ = pure () := by kernel_rfl
theorem entry_map_new : entryFor table "map.__new__" = some Builtin.«map.__new__» := entryFor_of_tree (by kernel_rfl)
theorem entry_map_next : entryFor table "map.__next__" = some Builtin.«map.__next__» := entryFor_of_tree (by kernel_rfl)
theorem entry_map_iter : entryFor table "map.__iter__" = some Builtin.«dict_keyiterator.__iter__» :=
  entryFor_alias (id' := "dict_keyiterator.__iter__") (by kernel_rfl) (by first | rfl | decide +kernel | (unfold String.splitOn; simp +decide [String.splitOnAux])) (by decide +kernel) (by kernel_rfl)
theorem args_map_next (a : Value) : argsOk "map.__next__" ⟨[a], []⟩ := by unfold argsOk; kernel_rfl
theorem args_map_iter (a : Value) : argsOk "map.__iter__" ⟨[a], []⟩ := by unfold argsOk; kernel_rfl
theorem sub_map : isSubtype (.type "map") (.type "map") = pure true := by rw [isSubtype_type]; kernel_rfl
noncomputable abbrev mapO (TI : Addr) (f : Value) : Obj := { cls := .type "map", data := .fields #[.ref TI, f] }
theorem meets_map_new (f : Value) (l : Addr) (xs : Array Value) :
    Meets (Builtin.«map.__new__» ⟨[.type "map", f, .ref l], []⟩) (fun _ R s => s.heap.IsList l xs ∧
      R (.ok (.ret (.ref (s.heap.objs.size + 2)))) { s with heap := ((s.heap.push { cls := .type "list_iterator", data := .fields #[.ref l, .int 0 0] }).push { cls := .type "tuple", data := .seq #[.ref s.heap.objs.size] }).push (mapO (s.heap.objs.size + 1) f) }) :=
  .of_wp fun prog w A R s h => by
    obtain ⟨hp, g, d, tk, os⟩ := s; obtain ⟨hl, h⟩ := h
    have hsub := sub_map
    have hL : Heap.IsList (Shared.heap ⟨hp, g, d, tk, os⟩) l xs := hl
    wp_walk using wpAny_pyIter_list hL
    refine ⟨_, rfl, ?_⟩
    simpa [Heap.size_push] using h
end MP
end Mine
end

/-! ## LMap2 -/
section
theorem Mine.startLMap2 : True := by
  w_top off
  trivial
open PySem PySem.W PyProof.Rows PySem.Calls PySem.Spec
set_option Elab.async false
namespace Mine
namespace MP
set_option maxRecDepth 100000
section
variable {prog : Program} {w : World} {A : Around} {E : Value → Shared → Prop} {s : Shared}
theorem call_map {f : Value} {l : Addr} {xs : Array Value} {Q : Value → Shared → Prop} (hl : s.heap.IsList l xs)
    (h : Q (.ref (s.heap.objs.size + 2)) { s with heap := ((s.heap.push { cls := .type "list_iterator", data := .fields #[.ref l, .int 0 0] }).push { cls := .type "tuple", data := .seq #[.ref s.heap.objs.size] }).push (mapO (s.heap.objs.size + 1) f) }) :
    wpAny (model prog w) A (call (.type "map") [f, .ref l]) Q E s := by
  refine callType_new called_map (by decide) (typeCall_map_2 _ _) (newCall_map_2 _ _) (fun obj => F.args_object_init_3 obj _ _) entry_map_new (meets_map_new f l xs) ⟨hl, ?_⟩
  refine ⟨⟨mapO (s.heap.objs.size + 1) f, ?_, rfl⟩, h⟩
  have e : s.heap.objs.size + 2 = ((s.heap.push { cls := .type "list_iterator", data := .fields #[.ref l, .int 0 0] }).push { cls := .type "tuple", data := .seq #[.ref s.heap.objs.size] }).objs.size := by rw [Heap.size_push, Heap.size_push]
  rw [e]
  exact Heap.get?_push_size _ rfl
theorem pyIter_map {M TI : Addr} {f : Value} {Q : Value → Shared → Prop} (hM : s.heap.get? M = some (mapO TI f)) (h : Q (.ref M) s) : wpAny (model prog w) A (pyIter (.ref M)) Q E s := by
  have hT : s.TypeIs (.ref M) "map" := ⟨_, hM, rfl⟩
  refine wpAny_pyIter_slot hT slot_map_iter (wpAny_call_entry slot_map_iter hT entry_map_iter ?_ (args_map_iter _))
  show wpAny _ _ (ret (.ref M)) _ _ s
  exact wpAny_pure ⟨_, rfl, "map", _, hT, slot_map_next.lookup, h⟩
theorem next_item {M TI it l : Addr} {k : Nat} {xs : Array Value} {x : Str} {t : Tok} {n : Int} {Q : Option Value → Shared → Prop}
    (hM : s.heap.get? M = some (mapO TI (.type "int"))) (hTI : s.heap.get? TI = some { cls := .type "tuple", data := .seq #[.ref it] }) (hi : s.heap.IsListIter it l k) (hl : s.heap.IsList l xs) (hx : xs[k]? = some (.str x t))
    (hn : PySem.intText? x = some n) (hz : x.length ≤ 640)
    (h : ∀ h', h'.IsListIter it l (k + 1) → Heap.SameBut it s.heap h' → Q (some (.int n s.toks)) { s with heap := h', toks := s.toks + 1 }) : wpAny (model prog w) A (pyNext (.ref M)) Q E s := by
  have hT : s.TypeIs (.ref M) "map" := ⟨_, hM, rfl⟩
  unfold pyNext
  refine wpAny_bind (wpAny_attempt (wpAny_callSpecial?_slot (name := Str.ofString "__next__") hT slot_map_next (wpAny_call_entry slot_map_next hT entry_map_next ?_ (args_map_next _))))
  show wpAny _ _ (field (.ref M) 0 >>= _) _ _ _
  refine wpAny_bind (wpAny_field hM rfl (x := .ref TI) rfl ?_)
  refine wpAny_bind (wpAny_seqItems hTI rfl ?_)
  refine wpAny_bind ?_
  simp only [List.forIn_toArray, List.forIn_cons, List.forIn_nil]
  refine wpAny_bind (wpAny_bind ?_)
  show wpAny _ _ (Builtin.SmallTypes.nextOf (.ref it)) _ _ _
  refine wpAny_nextOf_list_item hi hl hx fun h' hi' hs' => wpAny_pure (wpAny_pure ?_)
  have hMi : M ≠ it := fun e => by
    obtain ⟨o, ho, hc, _⟩ := hi
    rw [e, ho] at hM; cases hM; exact (by decide : ¬ (Value.type "map" = Value.type "list_iterator")) hc
  have hM' : h'.get? M = some (mapO TI (.type "int")) := (hs'.2 M hMi).trans hM
  refine wpAny_bind (wpAny_field (s := { s with heap := h' }) hM' rfl (x := .type "int") rfl ?_)
  refine wpAny_bind (wpAny_holding (KIN.call_text hn hz ?_))
  refine wpAny_bind (wpAny_letGo (wpAny_pure ⟨_, rfl, ?_⟩))
  exact wpAny_pure (h h' hi' hs')
theorem next_end {M TI it l : Addr} {k : Nat} {xs : Array Value} {f : Value} {Q : Option Value → Shared → Prop} (hh : A.handled = none)
    (hM : s.heap.get? M = some (mapO TI f)) (hTI : s.heap.get? TI = some { cls := .type "tuple", data := .seq #[.ref it] }) (hi : s.heap.IsListIter it l k) (hl : s.heap.IsList l xs) (hx : xs[k]? = none)
    (h : ∀ h', Heap.ExtBut it s.heap h' → Q none { s with heap := h' }) : wpAny (model prog w) A (pyNext (.ref M)) Q E s := by
  have hT : s.TypeIs (.ref M) "map" := ⟨_, hM, rfl⟩
  unfold pyNext
  refine wpAny_bind (wpAny_attempt (wpAny_callSpecial?_slot (name := Str.ofString "__next__") hT slot_map_next (wpAny_call_entry slot_map_next hT entry_map_next ?_ (args_map_next _))))
  show wpAny _ _ (field (.ref M) 0 >>= _) _ _ _
  refine wpAny_bind (wpAny_field hM rfl (x := .ref TI) rfl ?_)
  refine wpAny_bind (wpAny_seqItems hTI rfl ?_)
  refine wpAny_bind ?_
  simp only [List.forIn_toArray, List.forIn_cons, List.forIn_nil]
  refine wpAny_bind (wpAny_bind ?_)
  show wpAny _ _ (Builtin.SmallTypes.nextOf (.ref it)) _ _ _
  refine wpAny_nextOf_list_end hh hi hl hx fun h' e hk he => ?_
  obtain ⟨o, ho, hc⟩ := he
  refine wpAny_bind (wpAny_isInstance (T := "StopIteration") (b := true) ⟨o, ho, hc⟩ isSubtype_stop ?_)
  exact wpAny_pure (h h' hk)
/-- two targets out of a map of int over two texts -/
theorem unpack2 {l it TI M : Addr} {x y : Str} {t u : Tok} {n m : Int} {Q : List Value → Shared → Prop} (hh : A.handled = none)
    (hM : s.heap.get? M = some (mapO TI (.type "int"))) (hTI : s.heap.get? TI = some { cls := .type "tuple", data := .seq #[.ref it] }) (hi : s.heap.IsListIter it l 0) (hl : s.heap.IsList l #[.str x t, .str y u])
    (hn : PySem.intText? x = some n) (hz : x.length ≤ 640) (hm : PySem.intText? y = some m) (hz' : y.length ≤ 640)
    (h : ∀ h', Heap.ExtBut it s.heap h' → Q [.int n s.toks, .int m (s.toks + 1)] { s with heap := h', toks := s.toks + 2 }) : wpAny (model prog w) A (unpackItems (.ref M) 2 none) Q E s := by
  have hT : s.TypeIs (.ref M) "map" := ⟨_, hM, rfl⟩
  have hMi : M ≠ it := fun e => by
    obtain ⟨o, ho, hc, _⟩ := hi
    rw [e, ho] at hM; cases hM; exact (by decide : ¬ (Value.type "map" = Value.type "list_iterator")) hc
  have hTi : TI ≠ it := fun e => by
    obtain ⟨o, ho, hc, _⟩ := hi
    rw [e, ho] at hTI; cases hTI; exact (by decide : ¬ (Value.type "tuple" = Value.type "list_iterator")) hc
  have hli : l ≠ it := fun e => by
    obtain ⟨o, ho, hc, _⟩ := hi
    obtain ⟨o', ho', hc', _⟩ := hl
    rw [e, ho] at ho'; cases ho'; rw [hc] at hc'; exact (by decide : ¬ (Value.type "list_iterator" = Value.type "list")) hc'
  unfold unpackItems notIterableAtAll
  refine wpAny_bind (wpAny_bind (wpAny_specialOf hT slot_map_iter.lookup (wpAny_pure ?_)))
  simp only [Bool.false_eq_true, if_false]
  refine wpAny_bind (wpAny_holding (pyIter_map hM ?_))
  refine wpAny_bind (wpAny_holding ?_)
  unfold draw
  refine wpAny_bind (next_item hM hTI hi hl rfl hn hz fun h1 hi1 hs1 => ?_)
  refine wpAny_bind (wpAny_holding ?_)
  unfold draw
  refine wpAny_bind (next_item (s := { s with heap := h1, toks := s.toks + 1 }) ((hs1.2 M hMi).trans hM) ((hs1.2 TI hTi).trans hTI) hi1 (hl.extBut hs1.extBut hli) rfl hm hz' fun h2 hi2 hs2 => ?_)
  refine wpAny_bind (wpAny_holding ?_)
  unfold draw
  refine wpAny_pure (wpAny_pure (wpAny_pure ?_))
  rw [if_neg (by simp)]
  refine wpAny_bind (wpAny_holding (next_end (s := { s with heap := h2, toks := s.toks + 2 }) hh ((hs2.2 M hMi).trans ((hs1.2 M hMi).trans hM)) ((hs2.2 TI hTi).trans ((hs1.2 TI hTi).trans hTI)) hi2 ((hl.extBut hs1.extBut hli).extBut hs2.extBut hli) rfl fun h3 hk3 => ?_))
  simp only [Option.isSome_none, Bool.false_eq_true, if_false]
  exact wpAny_pure (h h3 fun b o hb e => hk3 b o hb ((hs2.2 b hb).trans ((hs1.2 b hb).trans e)))
end
end MP
end Mine
end

/-! ## LGlc -/
section
theorem Mine.startLGlc : True := by
  w_top off
  trivial
open PySem PySem.W PyProof.Rows PySem.Calls PySem.Spec
set_option Elab.async false
namespace Mine
set_option maxRecDepth 100000 in
set_option maxHeartbeats 8000000 in
theorem glcK (w : World) (x y : Int) (t : Tok) (hx : x.natAbs < 10 ^ 20) (hy : y.natAbs < 10 ^ 20) :
    Claim w 2 49 [.str (Str.ofString (toString x) ++ Str.ofString "." ++ Str.ofString (toString y)) t] (fun _ => True)
      (fun news news' r => ∃ T t1 t2, r = .ref T ∧ news' = (T, tupO [.int x t1, .int y t2]) :: news) := by
  unfold Claim
  k_fill
  intro p loose mean mg mb dp un gd cn cs a ccd cl outer A₀ base h₀ L m news s Q E B F X N T hk hd hu hpre hret
  refine wpAny_call ?_
  k_dflt cell_enter
  rename_i g L1 h1 FG F1 N1 B1 X1 T1
  (repeat' ((fail_if_success (first | (with_reducible show wpAny _ _ (call (Value.type "map") _ _) _ _ _) | (with_reducible show wpAny _ _ (call (Value.builtin "str.split") _ _) _ _ _))); first | (k_unfold; (try dsimp only)) | (k_end; wrow_close) | (dsimp only; walk1) | walk1))
  refine splitN1 F1 N1 rfl ?_ (by
    have e1 := toString_len hx
    have e2 := toString_len hy
    have e3 : (Str.ofString ".").length = 1 := rfl
    rw [PySem.Str.length_append, PySem.Str.length_append, sizeLine_eq]
    (first | lia | omega))
  intro l h2 k2 hl F2 N2
  have hlen : l.map (·.1) = [Str.ofString (toString x), Str.ofString (toString y)] := by
    rw [hl, ofString_dot]
    exact split_one _ _ 46 (by decide) (int_text_free' 46 ⟨by decide, by decide⟩ x) (int_text_free' 46 ⟨by decide, by decide⟩ y)
  obtain ⟨tx, ty, rfl⟩ : ∃ tx ty, l = [(Str.ofString (toString x), tx), (Str.ofString (toString y), ty)] := by
    cases l with
    | nil => simp at hlen
    | cons p l =>
      cases l with
      | nil => simp at hlen
      | cons q l =>
        obtain ⟨a, ta⟩ := p
        obtain ⟨b, tb⟩ := q
        rw [List.map_cons, List.map_cons] at hlen
        injection hlen with h1 h2
        injection h2 with h2 h3
        obtain rfl := List.map_eq_nil_iff.mp h3
        dsimp only at h1 h2
        subst h1 h2
        exact ⟨ta, tb, rfl⟩
  (repeat' ((fail_if_success (first | (with_reducible show wpAny _ _ (call (Value.type "map") _ _) _ _ _) | (with_reducible show wpAny _ _ (call (Value.builtin "str.split") _ _) _ _ _))); first | (k_unfold; (try dsimp only)) | (k_end; wrow_close) | (dsimp only; walk1) | walk1))
  refine MP.call_map ⟨_, (N2 _ (.head _)).1, rfl, _, rfl⟩ ?_
  dsimp only
  rw [assign_Tuple]
  refine wpAny_bind (wpAny_standAt ?_)
  unfold unpack
  generalize hz : h2.objs.size = z
  generalize hH : ((h2.push { cls := .type "list_iterator", data := .fields #[.ref h1.objs.size, .int 0 0] }).push { cls := .type "tuple", data := .seq #[.ref z] }).push (MP.mapO (z + 1) (.type "int")) = H
  have hkeep : ∀ b o, h2.get? b = some o → H.get? b = some o := fun b o e => by rw [← hH]; exact Heap.get?_push_of_some _ (Heap.get?_push_of_some _ (Heap.get?_push_of_some _ e))
  have g1 : H.get? z = some { cls := .type "list_iterator", data := .fields #[.ref h1.objs.size, .int 0 0] } := by
    rw [← hH, ← hz]; exact Heap.get?_push_of_some _ (Heap.get?_push_of_some _ (Heap.get?_push_size _ rfl))
  have g2 : H.get? (z + 1) = some { cls := .type "tuple", data := .seq #[.ref z] } := by
    rw [← hH, ← hz]
    have e : h2.objs.size + 1 = (h2.push { cls := .type "list_iterator", data := .fields #[.ref h1.objs.size, .int 0 0] }).objs.size := (Heap.size_push ..).symm
    rw [e]; exact Heap.get?_push_of_some _ (Heap.get?_push_size _ rfl)
  have g3 : H.get? (z + 2) = some (MP.mapO (z + 1) (.type "int")) := by
    rw [← hH, ← hz]
    have e : h2.objs.size + 2 = ((h2.push { cls := .type "list_iterator", data := .fields #[.ref h1.objs.size, .int 0 0] }).push { cls := .type "tuple", data := .seq #[.ref h2.objs.size] }).objs.size := by rw [Heap.size_push, Heap.size_push]
    rw [e]; exact Heap.get?_push_size _ rfl
  refine wpAny_bind (wpAny_holding (MP.unpack2 (l := h1.objs.size) rfl g3 g2 ⟨_, g1, rfl, rfl⟩ ⟨_, hkeep _ _ (N2 _ (.head _)).1, rfl, _, rfl⟩ (int_reads hx) (Nat.le_trans (toString_len hx) (by decide)) (int_reads hy) (Nat.le_trans (toString_len hy) (by decide)) fun h' hk' => ?_))
  have hk2 : ∀ b o, h2.get? b = some o → h'.get? b = some o := fun b o e => hk' b o (Nat.ne_of_lt (hz ▸ Heap.lt_size e)) (hkeep b o e)
  have F3 : Fr g L1 h' _ := ⟨F2.ns.keeps hk2, fun b o e => hk2 b o (F2.keep b o e), F2.above⟩
  have N3 : News g L1 h' news := fun p hp => ⟨hk2 _ _ (N2 p (.tail _ hp)).1, (N2 p (.tail _ hp)).2⟩
  clear F2 N2 hkeep g1 g2 g3 hH hk'
  show wpAny _ _ (assignInOrder _ _) _ _ _
  (repeat' ((fail_if_success (first | (with_reducible show wpAny _ _ (call (Value.type "map") _ _) _ _ _) | (with_reducible show wpAny _ _ (call (Value.builtin "str.split") _ _) _ _ _))); first | (k_unfold; (try dsimp only)) | (k_end; wrow_close) | (dsimp only; walk1) | walk1))
  exact hret _ _ _ _ (by assumption) (by assumption) ⟨_, _, _, rfl, rfl⟩
end Mine
end

/-! ## LComp -/
section
theorem Mine.startLComp : True := by
  w_top off
  trivial
open PySem PySem.W PyProof.Rows PySem.Calls PySem.Spec
set_option Elab.async false
namespace Mine
noncomputable abbrev lst (ys : List Value) : Obj := LCg.lst ys
noncomputable abbrev NsObj (o : Obj) (m : Str → Option Value) : Prop := LCg.NsObj o m
/-- the tests of a comprehension's clause -/
noncomputable abbrev testsOf (ifs : List Expr) (env : Env) : Sem Bool := forIn ifs true fun c r => if r = true then do let ok ← isTrue c env (eval c env); pure (ForInStep.yield ok) else pure (ForInStep.yield r)
noncomputable def Off (I C D : Addr) (news : Led) : Prop := ∀ p ∈ news, p.1 ≠ I ∧ p.1 ≠ C ∧ p.1 ≠ D
/-- a turn's end in a comprehension -/
inductive CEnd (h₀ : Heap) (L : Addr) (m : Str → Option Value) (s₁ : Shared) (I : Addr) (oI : Obj) (C D : Addr) (ys : List Value) (keep : Led) (J : Led → Prop) (s₂ : Shared) : Prop
  | mk (h' tk oC m₂ news') (e : s₂ = { s₁ with heap := h', toks := tk }) (F : Fr h₀ L h' m) (hC : NsObj oC m₂) (N : News h₀ L h' ((I, oI) :: (C, oC) :: (D, lst ys) :: news')) (off : Off I C D news') (hk : ∀ p ∈ keep, p ∈ news') (j : J news') : CEnd h₀ L m s₁ I oI C D ys keep J s₂
/-- a comprehension's state between two turns -/
inductive CLoop (h₀ : Heap) (L : Addr) (m : Str → Option Value) (s : Shared) (I C D : Addr) (n : Nat) (St : Nat → Heap → Prop) (keep : Led) (J : Nat → List Value → Led → Prop) : Nat → Shared → Prop
  | mk (h' tk i ys oC' m' news') (hi : i ≤ n) (hyl : ys.length ≤ i) (hst : St i h') (F : Fr h₀ L h' m) (hC : NsObj oC' m') (N : News h₀ L h' ((C, oC') :: (D, lst ys) :: news')) (off : Off I C D news') (hk : ∀ p ∈ keep, p ∈ news') (j : J i ys news') : CLoop h₀ L m s I C D n St keep J (n + 1 - i) { s with heap := h', toks := tk }
section
variable {prog : Program} {w : World} {A : Around} {s : Shared} {h₀ : Heap} {L : Addr} {m : Str → Option Value} {R : Result → Shared → Prop}
theorem compLoop_any {elt target iter : Expr} {ifs : List Expr} {scope : Scope} {pos : Pos} {it acc : Value} {env : Env} (I : Nat → Shared → Prop)
    (turn : ∀ n s, I n s → wpAny (model prog w) A (pyNext it) (fun r s₁ => match r with
      | none => R (.ok .next) s₁
      | some v => wpAny (model prog w) A (letOwnedTupleGo target it v) (fun _ s₁' => wpAny (model prog w) A (assign target env v) (fun _ s₂ =>
          wpAny (model prog w) A (testsOf ifs env) (fun ok s₃ =>
            if ok = true then wpAny (model prog w) A (eval elt env) (fun x s₄ =>
              wpAny (model prog w) A (call (.builtin "list.append") [acc, x]) (fun _ s₅ => ∃ m, m < n ∧ I m s₅) (notedBy (model prog w) A env fun e s' => R (.error e) s') s₄) (notedBy (model prog w) A env fun e s' => R (.error e) s') s₃
            else ∃ m, m < n ∧ I m s₃) (notedBy (model prog w) A env fun e s' => R (.error e) s') s₂) (notedBy (model prog w) A env fun e s' => R (.error e) s') s₁') (notedBy (model prog w) A env fun e s' => R (.error e) s') s₁) (notedBy (model prog w) A env fun e s' => R (.error e) s') s)
    (n : Nat) (h : I n s) : codeAny (model prog w) A (.compLoop (.ListComp elt [⟨target, iter, ifs, 0⟩] scope pos) 0 it acc env) R s := by
  refine codeAny_loop rfl I (fun n s hI => ?_) n h
  show wpAny _ A ((compTurn (.ListComp elt [⟨target, iter, ifs, 0⟩] scope pos) 0 it acc env).onRaise (fun x => do noteFrame x env; theTreesLotGoes x)) _ _ s
  refine wpAny_noted ?_
  rw [compTurn_list]
  refine wpAny_bind (wpAny_standAt (wpAny_bind (wpAny_mono (turn n s hI) (fun r s₁ h₁ => ?_) fun _ _ h' => h')))
  cases r with
  | none => exact wpAny_pure h₁
  | some v =>
    refine wpAny_bind (wpAny_mono h₁ (fun _ s₁' h₁' => ?_) fun _ _ h' => h')
    refine wpAny_bind (wpAny_mono h₁' (fun _ s₂ h₂ => wpAny_bind (wpAny_mono h₂ (fun ok s₃ h₃ => ?_) fun _ _ h' => h')) fun _ _ h' => h')
    cases ok with
    | false => exact wpAny_pure ⟨rfl, h₃⟩
    | true =>
      exact wpAny_bind (wpAny_bind (wpAny_mono h₃ (fun x s₄ h₄ => wpAny_bind (wpAny_mono h₄ (fun _ s₅ h₅ => wpAny_pure (wpAny_pure ⟨rfl, h₅⟩)) fun _ _ h' => h')) fun _ _ h' => h'))
theorem comp_loop {elt target iter : Expr} {ifs : List Expr} {scope : Scope} {pos : Pos} {I C D : Addr} {n : Nat} {P Md : Nat → Value → Heap → Prop} {St : Nat → Heap → Prop} {keep : Led} {env : Env} {news : Led} {oC : Obj} {m₂ : Str → Option Value}
    (W : KTurns prog w A target I (I :: keep.map (·.1)) [I] n P Md St) (hsz : n ≤ sizeLine) (hIL : L ≠ I) (hI₀ : h₀.get? I = none) (hst : St 0 s.heap) (hIo : ∀ i h, St i h → ∃ o, h.get? I = some o)
    (F : Fr h₀ L s.heap m) (hC : NsObj oC m₂) (N : News h₀ L s.heap ((C, oC) :: (D, lst []) :: news)) (off : Off I C D news) (ne : I ≠ C ∧ I ≠ D ∧ C ≠ D)
    (J : Nat → List Value → Led → Prop) (hkp : ∀ p ∈ keep, p ∈ news) (h0 : J 0 [] news)
    (turn : ∀ i v ys news₁ h tk oI oC₁ m₁ (E' : Value → Shared → Prop), i < n → P i v h → J i ys news₁ → (∀ p ∈ keep, p ∈ news₁) → Fr h₀ L h m → NsObj oC₁ m₁ → News h₀ L h ((I, oI) :: (C, oC₁) :: (D, lst ys) :: news₁) → Off I C D news₁ →
      wpAny (model prog w) A (assign target env v) (fun _ s₂ => wpAny (model prog w) A (testsOf ifs env) (fun ok s₃ => if ok = true then
        wpAny (model prog w) A (eval elt env) (fun y s₄ => CEnd h₀ L m { s with heap := h, toks := tk } I oI C D ys keep (J (i + 1) (ys ++ [y])) s₄) E' s₃
        else CEnd h₀ L m { s with heap := h, toks := tk } I oI C D ys keep (J (i + 1) ys) s₃) E' s₂) E' { s with heap := h, toks := tk })
    (hR : ∀ h' tk ys oC' m' news', Fr h₀ L h' m → NsObj oC' m' → News h₀ L h' ((C, oC') :: (D, lst ys) :: news') → Off I C D news' → J n ys news' → R (.ok .next) { s with heap := h', toks := tk }) :
    codeAny (model prog w) A (.compLoop (.ListComp elt [⟨target, iter, ifs, 0⟩] scope pos) 0 (.ref I) (.ref D) env) R s := by
  obtain ⟨hIC, hID, hCD⟩ := ne
  refine compLoop_any
    (CLoop h₀ L m s I C D n St keep J) ?_ (n + 1)
    (.mk s.heap s.toks 0 [] oC m₂ news (Nat.zero_le _) (Nat.le_refl _) hst F hC N off hkp h0)
  rintro k s' ⟨h', tk, i, ys, oC', m', news', hi, hyl, hst', F', hC', N', off', hk', J'⟩
  have next : ∀ h₁ : Heap, (∀ b o, b ∉ [I] → h'.get? b = some o → h₁.get? b = some o) → Fr h₀ L h₁ m ∧ News h₀ L h₁ ((C, oC') :: (D, lst ys) :: news') := fun h₁ hk₁ =>
    ⟨⟨F'.ns.at' fun o e => hk₁ _ o (by simpa using hIL) e, fun b o e => hk₁ b o (fun hm => by rw [List.mem_singleton.mp hm, hI₀] at e; cases e) (F'.keep b o e), F'.above⟩,
     fun p hp => ⟨hk₁ _ _ (by
      rcases List.mem_cons.mp hp with rfl | hp
      · simpa using Ne.symm hIC
      · rcases List.mem_cons.mp hp with rfl | hp
        · simpa using Ne.symm hID
        · simpa using (off' p hp).1) (N' p hp).1, (N' p hp).2⟩⟩
  by_cases hlt : i < n
  · refine W.item i _ _ _ hlt hst' fun v h₁ tk₁ hMd hk₁ => ?_
    refine W.go i v _ _ _ hMd fun h₂ hP hst₂ hk₂ => ?_
    obtain ⟨F₂, N₂⟩ := next h₂ fun b o hb x => hk₂ b o hb (hk₁ b o hb x)
    obtain ⟨oI, heI⟩ := hIo _ _ hst₂
    have N₃ : News h₀ L h₂ ((I, oI) :: (C, oC') :: (D, lst ys) :: news') := fun p hp => by
      rcases List.mem_cons.mp hp with rfl | hp
      · exact ⟨heI, Ne.symm hIL, hI₀⟩
      · exact N₂ p hp
    have back : ∀ {ys' : List Value} {J' : Led → Prop} {s₄ : Shared}, CEnd h₀ L m { s with heap := h₂, toks := tk₁ } I oI C D ys' keep J' s₄ →
        ∃ h₄ tk₄ oC₄ m₄ news₄, s₄ = { s with heap := h₄, toks := tk₄ } ∧ St (i + 1) h₄ ∧ Fr h₀ L h₄ m ∧ NsObj oC₄ m₄ ∧ News h₀ L h₄ ((C, oC₄) :: (D, lst ys') :: news₄) ∧ Off I C D news₄ ∧ (∀ p ∈ keep, p ∈ news₄) ∧ J' news₄ ∧ News h₀ L h₄ ((I, oI) :: []) := by
      rintro ys' J' s₄ ⟨h₄, tk₄, oC₄, m₄, news₄, rfl, F₄, hC₄, N₄, off₄, hk₄, hJ₄⟩
      refine ⟨h₄, tk₄, oC₄, m₄, news₄, rfl, W.frame _ _ _ hst₂ fun b hb o e => ?_, F₄, hC₄, fun p hp => N₄ p (.tail _ hp), off₄, hk₄, hJ₄, fun p hp => by rw [List.mem_singleton.mp hp]; exact N₄ _ (.head _)⟩
      rcases List.mem_cons.mp hb with rfl | hb
      · rw [heI] at e
        obtain rfl := Option.some.inj e
        exact (N₄ _ (.head _)).1
      · obtain ⟨p, hp, rfl⟩ := List.mem_map.mp hb
        have e1 := (N₃ _ (.tail _ (.tail _ (.tail _ (hk' p hp))))).1
        obtain rfl := Option.some.inj (e1.symm.trans e)
        exact (N₄ _ (.tail _ (.tail _ (.tail _ (hk₄ p hp))))).1
    refine wpAny_mono (turn i v ys news' h₂ tk₁ oI oC' m' _ hlt hP J' hk' F₂ hC' N₃ off') (fun _ s₂ h₂' => wpAny_mono h₂' (fun ok s₃ h₃ => ?_) fun _ _ e => e) fun _ _ e => e
    cases ok with
    | false =>
      simp only [Bool.false_eq_true, if_false] at h₃ ⊢
      obtain ⟨h₄, tk₄, oC₄, m₄, news₄, rfl, hst₄, F₄, hC₄, N₄, off₄, hk₄, hJ₄, _⟩ := back h₃
      exact ⟨n + 1 - (i + 1), by (first | lia | omega), .mk h₄ tk₄ (i + 1) ys oC₄ m₄ news₄ hlt (by (first | lia | omega)) hst₄ F₄ hC₄ N₄ off₄ hk₄ hJ₄⟩
    | true =>
      simp only [if_true] at h₃ ⊢
      refine wpAny_mono h₃ (fun y s₄ h₄ => ?_) fun _ _ e => e
      obtain ⟨h₄, tk₄, oC₄, m₄, news₄, rfl, hst₄, F₄, hC₄, N₄, off₄, hk₄, hJ₄, NI⟩ := back h₄
      have zD := N₄ (D, lst ys) (.tail _ (.head _))
      refine append_at (hsz := by show ys.toArray.size ≤ sizeLine; rw [List.size_toArray]; exact Nat.le_trans hyl (Nat.le_trans hi hsz)) zD.1 fun h₅ hs₅ hD₅ => ?_
      refine ⟨n + 1 - (i + 1), by (first | lia | omega), .mk h₅ tk₄ (i + 1) (ys ++ [y]) oC₄ m₄ news₄ hlt (by rw [List.length_append, List.length_singleton]; (first | lia | omega)) (W.frame _ _ _ hst₄ fun b hb o e => hs₅.extBut b o ?_ e) (F₄.change hs₅ zD.2.1 zD.2.2) hC₄ ?_ off₄ hk₄ hJ₄⟩
      · rcases List.mem_cons.mp hb with rfl | hb
        · exact hID
        · obtain ⟨p, hp, rfl⟩ := List.mem_map.mp hb
          exact (off₄ p (hk₄ p hp)).2.2
      · intro p hp
        rcases List.mem_cons.mp hp with rfl | hp
        · exact ⟨hs₅.extBut _ _ hCD (N₄ _ (.head _)).1, (N₄ _ (.head _)).2⟩
        · rcases List.mem_cons.mp hp with rfl | hp
          · exact ⟨hD₅.trans (congrArg some (LCg.lst_snoc ys y)), zD.2⟩
          · exact ⟨hs₅.extBut _ _ (off₄ p hp).2.2 (N₄ _ (.tail _ (.tail _ hp))).1, (N₄ _ (.tail _ (.tail _ hp))).2⟩
  · obtain rfl : i = n := Nat.le_antisymm hi (Nat.not_lt.mp hlt)
    refine W.done _ _ _ hst' fun h₁ tk₁ hk₁ => ?_
    obtain ⟨F₁, N₁⟩ := next h₁ hk₁
    exact hR h₁ tk₁ ys oC' m' news' F₁ hC' N₁ off' J'
end
end Mine
end

/-! ## LComp2 -/
section
theorem Mine.startLComp2 : True := by
  w_top off
  trivial
open PySem PySem.W PyProof.Rows PySem.Calls PySem.Spec
set_option Elab.async false
namespace Mine
section
variable {prog : Program} {w : World} {A : Around} {E : Value → Shared → Prop} {s : Shared} {h₀ : Heap} {L : Addr} {m : Str → Option Value} {env : Env}
/-- the source of a comprehension and what its turns do; cs: the cells that it lays -/
structure CompJob (prog : Program) (w : World) (A : Around) (h₀ : Heap) (L : Addr) (m : Str → Option Value) (cenv : Addr → Env) (cells : Addr → Led) (elt target : Expr) (ifs : List Expr) (s₂ : Shared) (I : Addr) (n : Nat) (keep news : Led) (J : Nat → List Value → Led → Prop)
    (P Md : Nat → Value → Heap → Prop) (St : Nat → Heap → Prop) : Prop where
  W : KTurns prog w A target I (I :: keep.map (·.1)) [I] n P Md St
  hsz : n ≤ sizeLine
  hself : ∀ i (s : Shared) (Q : Value → Shared → Prop) (E : Value → Shared → Prop), St i s.heap → Q (.ref I) s → wpAny (model prog w) A (pyIter (.ref I)) Q E s
  hIo : ∀ i h, St i h → ∃ o, h.get? I = some o
  hst : St 0 s₂.heap
  F : Fr h₀ L s₂.heap m
  N : News h₀ L s₂.heap news
  hIL : L ≠ I
  hI₀ : h₀.get? I = none
  off : ∀ p ∈ news, p.1 ≠ I
  hkp : ∀ p ∈ keep, p ∈ news
  h0 : ∀ C, J 0 [] (cells C ++ news)
  turn : ∀ C D, I ≠ C → I ≠ D → C ≠ D → ∀ i v ys news₁ h tk oI oC₁ m₁ (E' : Value → Shared → Prop), i < n → P i v h → J i ys news₁ → (∀ p ∈ keep, p ∈ news₁) → Fr h₀ L h m → NsObj oC₁ m₁ → News h₀ L h ((I, oI) :: (C, oC₁) :: (D, lst ys) :: news₁) → Off I C D news₁ →
      wpAny (model prog w) A (assign target (cenv C) v) (fun _ s₃ => wpAny (model prog w) A (testsOf ifs (cenv C)) (fun ok s₄ => if ok = true then
        wpAny (model prog w) A (eval elt (cenv C)) (fun y s₅ => CEnd h₀ L m { s₂ with heap := h, toks := tk } I oI C D ys keep (J (i + 1) (ys ++ [y])) s₅) E' s₄
        else CEnd h₀ L m { s₂ with heap := h, toks := tk } I oI C D ys keep (J (i + 1) ys) s₄) E' s₃) E' { s₂ with heap := h, toks := tk }
theorem comp_block {elt target iter : Expr} {ifs : List Expr} {scope : Scope} {cl : List (Str × Addr)} {pos : Pos} {s₂ : Shared} {I : Addr} {n : Nat} {keep news : Led} {J : Nat → List Value → Led → Prop} {P Md : Nat → Value → Heap → Prop} {St : Nat → Heap → Prop}
    {RR : Value → Addr → Result → Shared → Prop}
    (X : CompJob prog w A h₀ L m (fun C => compEnvC scope cl C env) (fun _ => []) elt target ifs s₂ I n keep news J P Md St) (hcell : ∀ y ∈ scope.names, y.2 ≠ .cell) (hkind : scope.kind = .function)
    (hRR : ∀ D C h tk oC m' ys news', Fr h₀ L h m → NsObj oC m' → News h₀ L h ((C, oC) :: (D, lst ys) :: news') → Off I C D news' → C ≠ D → J n ys news' → RR (.ref D) C (.ok .next) { s₂ with heap := h, toks := tk }) :
    wpAny (model prog w) A (newList []) (fun acc s₃ => wpAny (model prog w) A (newFunctionEnv scope env.globals cl [] env.qual none .none (some env)) (fun cenv s₄ =>
      codeAny (model prog w) A (.compStart (.ListComp elt [⟨target, iter, ifs, 0⟩] scope pos) 0 (.ref I) acc { cenv with scope := relabel scope env }) (RR acc cenv.locals) s₄) E s₃) E s₂ := by
  refine wpAny_newObj_type (wpAny_newFunctionEnv hcell (by intro y hy; simp at hy) (fun h₁ hns₁ hsb₁ => ?_) hkind)
  dsimp only at hns₁ hsb₁ ⊢
  have F := X.F
  have N := X.N
  obtain ⟨o0, ho0⟩ := X.hIo _ _ X.hst
  have hIlt : I < s₂.heap.objs.size := Heap.lt_size ho0
  generalize hH2 : s₂.heap.push { cls := .type "list", dict := none, data := .seq ([] : List Value).toArray } = H2 at hns₁ hsb₁ ⊢
  have hC : H2.objs.size = s₂.heap.objs.size + 1 := by rw [← hH2, Heap.size_push]
  have hDC : s₂.heap.objs.size ≠ H2.objs.size := by rw [hC]; exact Nat.ne_of_lt (Nat.lt_succ_self _)
  have below : ∀ b, b < s₂.heap.objs.size → b ≠ H2.objs.size ∧ b ≠ s₂.heap.objs.size := fun b hb => ⟨by rw [hC]; exact Nat.ne_of_lt (Nat.lt_succ_of_lt hb), Nat.ne_of_lt hb⟩
  have old : ∀ b o, s₂.heap.get? b = some o → h₁.get? b = some o := fun b o e => hsb₁.extBut b o (below b (Heap.lt_size e)).1 (Heap.get?_push_of_some _ (hH2 ▸ Heap.get?_push_of_some _ e))
  have hacc : h₁.get? s₂.heap.objs.size = some (lst []) := hsb₁.extBut _ _ hDC (Heap.get?_push_of_some _ (hH2 ▸ Heap.get?_push_size _ rfl))
  have fresh₀ : ∀ a, s₂.heap.objs.size ≤ a → h₀.get? a = none := fun a ha => by
    cases e : h₀.get? a with
    | none => rfl
    | some o' => exact absurd (Heap.lt_size (F.keep a o' e)) (Nat.not_lt.mpr ha)
  have hD₀ := fresh₀ _ (Nat.le_refl _)
  have hC₀ := fresh₀ H2.objs.size (by rw [hC]; exact Nat.le_succ _)
  have hLlt : L < s₂.heap.objs.size := F.ns.lt
  obtain ⟨oC, heC, hoC⟩ := LCg.ns_obj hns₁
  have hst₁ : St 0 h₁ := X.W.frame _ _ _ X.hst fun b _ o e => old b o e
  have loop : ∀ s₃ : Shared, s₃ = { s₂ with heap := h₁, toks := s₂.toks + ([] : List (Str × Value)).length } →
      codeAny (model prog w) A (.compLoop (.ListComp elt [⟨target, iter, ifs, 0⟩] scope pos) 0 (.ref I) (.ref s₂.heap.objs.size) (compEnvC scope cl H2.objs.size env))
        (RR (.ref s₂.heap.objs.size) H2.objs.size) s₃ := by
    rintro s₃ rfl
    refine comp_loop (C := H2.objs.size) X.W X.hsz X.hIL X.hI₀ hst₁ X.hIo (F.keeps old) hoC (news := news) (fun p hp => ?_) (fun p hp => ⟨X.off p hp, (below _ (Heap.lt_size (N p hp).1)).1, (below _ (Heap.lt_size (N p hp).1)).2⟩) ⟨(below I hIlt).1, (below I hIlt).2, Ne.symm hDC⟩ J X.hkp (X.h0 H2.objs.size)
      (fun i v ys news₁ h tk oI oC₁ m₁ E' => X.turn H2.objs.size s₂.heap.objs.size (below I hIlt).1 (below I hIlt).2 (Ne.symm hDC) i v ys news₁ h tk oI oC₁ m₁ E') (fun h' tk ys oC' m' news' F' hC' N' off' J' => hRR _ _ h' tk oC' m' ys news' F' hC' N' off' (Ne.symm hDC) J')
    rcases List.mem_cons.mp hp with rfl | hp
    · exact ⟨heC, Ne.symm (below L hLlt).1, hC₀⟩
    · rcases List.mem_cons.mp hp with rfl | hp
      · exact ⟨hacc, Ne.symm (below L hLlt).2, hD₀⟩
      · exact ⟨old _ _ (N p hp).1, (N p hp).2⟩
  exact codeAny_compStart_list (loop _ rfl) (X.hself 0 _ _ _ hst₁ (loop _ rfl))
/-- what stands behind a source: the job and the end -/
inductive JobEnd (prog : Program) (w : World) (A : Around) (cenv : Addr → Env) (cells : Addr → Led) (elt target : Expr) (ifs : List Expr) (Q : Value → Shared → Prop) (it : Value) (s₂ : Shared) : Prop
  | mk (h₀ L m I n keep news J P Md St) (e : it = .ref I) (X : CompJob prog w A h₀ L m cenv cells elt target ifs s₂ I n keep news J P Md St)
      (fin : ∀ D h tk ys news', Fr h₀ L h m → News h₀ L h ((D, lst ys) :: news') → (∀ p ∈ news', p.1 ≠ D) → J n ys news' → Q (.ref D) { s₂ with heap := h, toks := tk }) : JobEnd prog w A cenv cells elt target ifs Q it s₂
/-- a list comprehension of one clause that lays no cell -/
theorem comp_gen {elt target iter : Expr} {ifs : List Expr} {scope : Scope} {cl : List (Str × Addr)} {pos : Pos} {Q : Value → Shared → Prop}
    (hclos : closureFor scope env = pure cl) (hcell : ∀ y ∈ scope.names, y.2 ≠ .cell) (hkind : scope.kind = .function)
    (hnames : ∀ y ∈ scope.names, y.2 = .local → scope.names.lookup y.1 = some .local)
    (h : wpAny (model prog w) A (eval iter env) (fun xv s₁ => wpAny (model prog w) A (pyIter xv) (JobEnd prog w A (fun C => compEnvC scope cl C env) (fun _ => []) elt target ifs Q) E s₁) E s)
    (hs : ∀ x, foldedSetIterable iter env x = pure x := by intro _; rfl) :
    wpAny (model prog w) A (eval (.ListComp elt [⟨target, iter, ifs, 0⟩] scope pos) env) Q E s := by
  rw [eval_ListComp]
  refine wpAny_comprehension_free (use := none) rfl hs hclos hkind hnames (wpAny_mono h (fun xv s₁ h₁ => wpAny_mono h₁ (fun it s₂ h₂ => ?_) fun _ _ e => e) fun _ _ e => e)
  obtain ⟨h₀, L, m, I, n, keep, news, J, P, Md, St, rfl, X, fin⟩ := h₂
  refine comp_block X hcell hkind ?_
  intro D C h tk oC m' ys news' F' hoC N' off hCD J'
  have zC := N' (C, oC) (.head _)
  refine ⟨m', hoC.ns zC.1, fun h'' hs'' => fin D h'' tk ys news' (F'.change hs'' zC.2.1 zC.2.2) (fun p hp => ?_) (fun p hp => (off p hp).2.2) J'⟩
  refine ⟨hs''.extBut _ _ ?_ (N' p (.tail _ hp)).1, (N' p (.tail _ hp)).2⟩
  rcases List.mem_cons.mp hp with rfl | hp
  · exact Ne.symm hCD
  · exact (off p hp).2.1
end
end Mine
end

/-! ## LCompSrc -/
section
theorem Mine.startLCompSrc : True := by
  w_top off
  trivial
open PySem PySem.W PyProof.Rows PySem.Calls PySem.Spec
set_option Elab.async false
namespace Mine
section
variable {prog : Program} {w : World} {A : Around} {E : Value → Shared → Prop} {s : Shared} {h₀ : Heap} {L : Addr} {m : Str → Option Value} {env : Env}
/-- what a comprehension's turns are to do, for whatever iterator, namespace and list -/
noncomputable def TurnsC (prog : Program) (w : World) (A : Around) (h₀ : Heap) (L : Addr) (m : Str → Option Value) (cenv : Addr → Env) (elt target : Expr) (ifs : List Expr) (s : Shared) (n : Nat) (keep : Led) (J : Nat → List Value → Led → Prop) (P : Nat → Value → Prop) : Prop :=
  ∀ I C D, I ≠ C → I ≠ D → C ≠ D → ∀ i v ys news₁ h tk oI oC₁ m₁ (E' : Value → Shared → Prop), i < n → P i v → J i ys news₁ → (∀ p ∈ keep, p ∈ news₁) → Fr h₀ L h m → NsObj oC₁ m₁ → News h₀ L h ((I, oI) :: (C, oC₁) :: (D, lst ys) :: news₁) → Off I C D news₁ →
      wpAny (model prog w) A (assign target (cenv C) v) (fun _ s₃ => wpAny (model prog w) A (testsOf ifs (cenv C)) (fun ok s₄ => if ok = true then
        wpAny (model prog w) A (eval elt (cenv C)) (fun y s₅ => CEnd h₀ L m { s with heap := h, toks := tk } I oI C D ys keep (J (i + 1) (ys ++ [y])) s₅) E' s₄
        else CEnd h₀ L m { s with heap := h, toks := tk } I oI C D ys keep (J (i + 1) ys) s₄) E' s₃) E' { s with heap := h, toks := tk }
theorem job_of {target elt : Expr} {ifs : List Expr} {cenv : Addr → Env} {cells : Addr → Led} {oI : Obj} {keep news : Led} {n : Nat} {P : Nat → Value → Prop} {St : Nat → Heap → Prop} {J : Nat → List Value → Led → Prop}
    (W : Walks prog w A s.heap.objs.size (s.heap.objs.size :: keep.map (·.1)) [s.heap.objs.size] n P St)
    (hgo : ∀ i v (s' : Shared) (Q : Unit → Shared → Prop) (E : Value → Shared → Prop), St i s'.heap → Q () s' → wpAny (model prog w) A (letOwnedTupleGo target (.ref s.heap.objs.size) v) Q E s')
    (hIo : ∀ i h, St i h → ∃ o, h.get? s.heap.objs.size = some o) (hst : St 0 (s.heap.push oI)) (hsz : n ≤ sizeLine) (F : Fr h₀ L s.heap m) (N : News h₀ L s.heap news) (hkp : ∀ p ∈ keep, p ∈ news) (h0 : ∀ C, J 0 [] (cells C ++ news))
    (turn : TurnsC prog w A h₀ L m cenv elt target ifs s n keep J P) :
    CompJob prog w A h₀ L m cenv cells elt target ifs { s with heap := s.heap.push oI } s.heap.objs.size n keep news J (fun i v _ => P i v) (fun i v h => P i v ∧ St (i + 1) h) St where
  W := KTurns.ofWalks W hgo
  hsz := hsz
  hself := W.self
  hIo := hIo
  hst := hst
  F := F.push _
  N := N.grown fun _ _ e => Heap.get?_push_of_some _ e
  hIL := Nat.ne_of_lt F.ns.lt
  hI₀ := next_is_new F
  off := fun p hp => Nat.ne_of_lt (Heap.lt_size (N p hp).1)
  hkp := hkp
  h0 := h0
  turn := fun C D a b c i v ys news₁ h tk oI oC₁ m₁ E' => turn s.heap.objs.size C D a b c i v ys news₁ h tk oI oC₁ m₁ E'
theorem letGo_fields {target : Expr} {I : Addr} {v : Value} {o : Obj} {ty : String} {fs : Array Value} {Q : Unit → Shared → Prop} (ho : s.heap.get? I = some o) (hc : o.cls = .type ty) (hd : o.data = .fields fs) (hty : ty = "list_iterator" ∨ ty = "range_iterator" ∨ ty = "str_ascii_iterator" ∨ ty = "str_iterator") (h : Q () s) :
    wpAny (model prog w) A (letOwnedTupleGo target (.ref I) v) Q E s := by
  unfold letOwnedTupleGo
  cases target <;> first
    | exact wpAny_pure h
    | (cases v <;> first
        | exact wpAny_pure h
        | (refine wpAny_bind (wpAny_load ho ?_)
           rw [hc, hd]
           rcases hty with rfl | rfl | rfl | rfl <;> exact wpAny_pure h))
theorem src_list {target elt : Expr} {ifs : List Expr} {cenv : Addr → Env} {cells : Addr → Led} {news : Led} {ax : Addr} {its : List Value} {k : Nat} {Q : Value → Shared → Prop} (hh : A.handled = none) (F : Fr h₀ L s.heap m) (N : News h₀ L s.heap news)
    (hm : (ax, ({ cls := .type "list", data := .seq its.toArray k } : Obj)) ∈ news) (hsz : its.length ≤ sizeLine) (J : Nat → List Value → Led → Prop) (h0 : ∀ C, J 0 [] (cells C ++ news))
    (turn : TurnsC prog w A h₀ L m cenv elt target ifs s its.length [(ax, { cls := .type "list", data := .seq its.toArray k })] J (fun i v => its[i]? = some v))
    (fin : ∀ D h tk ys news', Fr h₀ L h m → News h₀ L h ((D, lst ys) :: news') → (∀ p ∈ news', p.1 ≠ D) → J its.length ys news' → Q (.ref D) { s with heap := h, toks := tk }) :
    wpAny (model prog w) A (pyIter (.ref ax)) (JobEnd prog w A cenv cells elt target ifs Q) E s := by
  have hl : s.heap.IsList ax its.toArray := ⟨_, (N _ hm).1, rfl, _, rfl⟩
  have hne : ax ≠ s.heap.objs.size := Nat.ne_of_lt (Heap.lt_size (N _ hm).1)
  refine wpAny_pyIter_list hl ?_
  have W := Walks.list (prog := prog) (w := w) hh s.heap.objs.size ax hne its.toArray
  have W' : Walks prog w A s.heap.objs.size (s.heap.objs.size :: [(ax, ({ cls := .type "list", data := .seq its.toArray k } : Obj))].map (·.1)) [s.heap.objs.size] its.length (fun i v => its[i]? = some v) (fun i h => h.IsListIter s.heap.objs.size ax i ∧ h.IsList ax its.toArray) := by
    simpa using W
  refine ⟨h₀, L, m, s.heap.objs.size, its.length, _, news, J, _, _, _, rfl, job_of W' ?_ ?_ ?_ hsz F N ?_ h0 turn, fin⟩
  · rintro i v s' Q E ⟨⟨o, ho, hc, hd⟩, _⟩ h
    exact letGo_fields ho hc hd (.inl rfl) h
  · rintro i h ⟨⟨o, ho, _⟩, _⟩
    exact ⟨o, ho⟩
  · exact ⟨⟨_, Heap.get?_push_size _ rfl, rfl, rfl⟩, hl.push _⟩
  · intro p hp
    rw [List.mem_singleton.mp hp]; exact hm
theorem src_range {target elt : Expr} {ifs : List Expr} {cenv : Addr → Env} {cells : Addr → Led} {news : Led} {r : Addr} {a b c : Int} {t u v : Tok} {n : Nat} {Q : Value → Shared → Prop} (hh : A.handled = none) (F : Fr h₀ L s.heap m) (N : News h₀ L s.heap news)
    (hr : IsRange s.heap r a b c t u v) (hsm : Builtin.Range.small a b c = true) (hn : Builtin.Range.rangeSize a b c = ((n : Nat) : Int)) (hsz : n ≤ sizeLine) (J : Nat → List Value → Led → Prop) (h0 : ∀ C, J 0 [] (cells C ++ news))
    (turn : TurnsC prog w A h₀ L m cenv elt target ifs s n [] J (fun i v => ∃ t, v = .int (a + i * c) t))
    (fin : ∀ D h tk ys news', Fr h₀ L h m → News h₀ L h ((D, lst ys) :: news') → (∀ p ∈ news', p.1 ≠ D) → J n ys news' → Q (.ref D) { s with heap := h, toks := tk }) :
    wpAny (model prog w) A (pyIter (.ref r)) (JobEnd prog w A cenv cells elt target ifs Q) E s := by
  refine wpAny_pyIter_range hr hsm ?_
  refine ⟨h₀, L, m, s.heap.objs.size, n, _, news, J, _, _, _, rfl, job_of (keep := []) (Walks.range hh s.heap.objs.size a c n) ?_ ?_ ?_ hsz F N (fun _ h => nomatch h) h0 turn, fin⟩
  · intro i v s' Q E st h
    exact letGo_fields (o := _) st rfl rfl (.inr (.inl rfl)) h
  · intro i h st
    exact ⟨_, st⟩
  · show IsRangeIter _ _ _ _ _
    rw [hn]; simpa using Heap.get?_push_size _ rfl
theorem src_str {target elt : Expr} {ifs : List Expr} {cenv : Addr → Env} {cells : Addr → Led} {news : Led} {x : Str} {t : Tok} {Q : Value → Shared → Prop} (hh : A.handled = none) (F : Fr h₀ L s.heap m) (N : News h₀ L s.heap news) (hsz : x.cps.size ≤ sizeLine)
    (J : Nat → List Value → Led → Prop) (h0 : ∀ C, J 0 [] (cells C ++ news))
    (turn : TurnsC prog w A h₀ L m cenv elt target ifs s x.cps.size [] J (SignAt x))
    (fin : ∀ D h tk ys news', Fr h₀ L h m → News h₀ L h ((D, lst ys) :: news') → (∀ p ∈ news', p.1 ≠ D) → J x.cps.size ys news' → Q (.ref D) { s with heap := h, toks := tk }) :
    wpAny (model prog w) A (pyIter (.str x t)) (JobEnd prog w A cenv cells elt target ifs Q) E s := by
  cases ha : x.cps.all (· < 128)
  · refine wpAny_pyIter_wide ha ?_
    refine ⟨h₀, L, m, s.heap.objs.size, x.cps.size, _, news, J, _, _, _, rfl, job_of (keep := []) (Walks.strWide hh s.heap.objs.size x t) ?_ ?_ ⟨_, Heap.get?_push_size _ rfl, rfl, rfl⟩ hsz F N (fun _ h => nomatch h) h0 turn, fin⟩
    · rintro i v s' Q E ⟨o, ho, hc, hd⟩ h
      exact letGo_fields ho hc hd (.inr (.inr (.inr rfl))) h
    · rintro i h ⟨o, ho, _⟩
      exact ⟨o, ho⟩
  · refine wpAny_pyIter_ascii ha ?_
    refine ⟨h₀, L, m, s.heap.objs.size, x.cps.size, _, news, J, _, _, _, rfl, job_of (keep := []) (Walks.strAscii hh s.heap.objs.size x t) ?_ ?_ ⟨_, Heap.get?_push_size _ rfl, rfl, rfl⟩ hsz F N (fun _ h => nomatch h) h0 turn, fin⟩
    · rintro i v s' Q E ⟨o, ho, hc, hd⟩ h
      exact letGo_fields ho hc hd (.inr (.inr (.inl rfl))) h
    · rintro i h ⟨o, ho, _⟩
      exact ⟨o, ho⟩
/-- a name of the comprehension's own is stored -/
theorem cassign_name {x : Str} {px : Pos} {scope : Scope} {cl : List (Str × Addr)} {I C D : Addr} {oI oC oD : Obj} {m₁ : Str → Option Value} {news : Led} {v : Value} {h : Heap} {tk : Nat} {Q : Unit → Shared → Prop}
    (hx : scope.names.lookup x = some .local) (hkind : scope.kind = .function) (F : Fr h₀ L h m) (hoC : NsObj oC m₁) (N : News h₀ L h ((I, oI) :: (C, oC) :: (D, oD) :: news)) (off : Off I C D news) (hIC : I ≠ C) (hCD : C ≠ D)
    (k : ∀ h' oC', Fr h₀ L h' m → NsObj oC' (fun y => if y = x then some v else m₁ y) → News h₀ L h' ((I, oI) :: (C, oC') :: (D, oD) :: news) → Q () { s with heap := h', toks := tk + 1 }) :
    wpAny (model prog w) A (assign (.Name x px) (compEnvC scope cl C env) v) Q E { s with heap := h, toks := tk } := by
  have zC := N (C, oC) (.tail _ (.head _))
  refine wpAny_assign_Name (wpAny_storeName_local (lookup_relabel_local hx) (hoC.ns zC.1) (fun h₃ hn₃ hs₃ => ?_) (by simp [compEnvC, relabel, hkind]))
  obtain ⟨oC', heC, hoC'⟩ := LCg.ns_obj hn₃
  refine k h₃ oC' (F.change hs₃ zC.2.1 zC.2.2) hoC' fun p hp => ?_
  rcases List.mem_cons.mp hp with rfl | hp
  · exact ⟨hs₃.extBut _ _ hIC (N _ (.head _)).1, (N _ (.head _)).2⟩
  · rcases List.mem_cons.mp hp with rfl | hp
    · exact ⟨heC, zC.2⟩
    · have z := N p (.tail _ (.tail _ hp))
      refine ⟨hs₃.extBut _ _ ?_ z.1, z.2⟩
      rcases List.mem_cons.mp hp with rfl | hp
      · exact Ne.symm hCD
      · exact (off p hp).2.1
/-- a pair's parts are stored -/
theorem cassign_pair {x x₂ : Str} {px px₂ tp : Pos} {kk} {scope : Scope} {cl : List (Str × Addr)} {I C D T : Addr} {oI oC oD : Obj} {m₁ : Str → Option Value} {news : Led} {v₁ v₂ : Value} {h : Heap} {tk : Nat} {Q : Unit → Shared → Prop} (hh : A.handled = none)
    (hT : IsTup h T #[v₁, v₂])
    (hx : scope.names.lookup x = some .local) (hx₂ : scope.names.lookup x₂ = some .local) (hkind : scope.kind = .function) (F : Fr h₀ L h m) (hoC : NsObj oC m₁) (N : News h₀ L h ((I, oI) :: (C, oC) :: (D, oD) :: news)) (off : Off I C D news) (hIC : I ≠ C) (hCD : C ≠ D)
    (k : ∀ h' oC', Fr h₀ L h' m → NsObj oC' (fun y => if y = x₂ then some v₂ else if y = x then some v₁ else m₁ y) → News h₀ L h' ((I, oI) :: (C, oC') :: (D, oD) :: news) → Q () { s with heap := h', toks := tk + 1 + 1 }) :
    wpAny (model prog w) A (assign (.Tuple [.Name x px, .Name x₂ px₂] kk tp) (compEnvC scope cl C env) (.ref T)) Q E { s with heap := h, toks := tk } := by
  refine assign_Tuple_tuple (s := { s with heap := h, toks := tk }) hh hT rfl rfl fun h₅ he => ?_
  have he' : ∀ b o, h.get? b = some o → h₅.get? b = some o := fun b o e => he b o (Nat.ne_of_lt (Heap.lt_size e)) e
  have N5 : News h₀ L h₅ ((I, oI) :: (C, oC) :: (D, oD) :: news) := N.grown he'
  refine assignInOrder_cons (cassign_name hx hkind (F.keeps he') hoC N5 off hIC hCD ?_)
  intro h₆ oC₆ F₆ hoC₆ N₆
  refine assignInOrder_cons (cassign_name hx₂ hkind F₆ hoC₆ N₆ off hIC hCD ?_)
  intro h₇ oC₇ F₇ hoC₇ N₇
  exact assignInOrder_nil (k h₇ oC₇ F₇ hoC₇ N₇)
end
end Mine
end

section
local macro_rules | `(tactic| k_mem) => `(tactic| assumption)

/-! ## LTx -/
section
theorem Mine.startLTx : True := by
  w_top off
  trivial
open PySem PySem.W PyProof.Rows PySem.Calls PySem.Spec
set_option Elab.async false
namespace Mine
/-- the pieces for a number's figures -/
noncomputable def textL (n : Int) (ps : List Str) : List Str := (Str.ofString (toString (n % 10000))).cps.toList.map fun c => ps.getD (c - 48) Str.empty
noncomputable def textS (n : Int) (ps : List Str) : Str := Txt.join (Str.ofString "") (textL n ps)
theorem digit_reads {c : Nat} (h : 48 ≤ c ∧ c ≤ 57) : PySem.intText? ⟨#[c]⟩ = some ((c - 48 : Nat) : Int) := by
  obtain ⟨d, hd, rfl⟩ : ∃ d, d < 10 ∧ c = 48 + d := ⟨c - 48, by omega, by omega⟩
  have e : ∀ d : Nat, d < 10 → (⟨#[48 + d]⟩ : Str) = Str.ofString (toString (d : Int)) := by decide +kernel
  rw [Nat.add_sub_cancel_left, e d hd]
  exact int_reads (by rw [Int.natAbs_natCast]; exact Nat.lt_of_lt_of_le hd (by decide +kernel))
theorem num_fig (n : Int) : ∀ c ∈ (Str.ofString (toString (n % 10000))).cps.toList, 48 ≤ c ∧ c ≤ 57 := by
  have e : n % 10000 = (((n % 10000).toNat : Nat) : Int) := by omega
  rw [e]
  exact (num_digits _).1
theorem num_size (n : Int) : (Str.ofString (toString (n % 10000))).cps.toList.length ≤ 4 := by
  have e : n % 10000 = (((n % 10000).toNat : Nat) : Int) := by omega
  rw [e, KIN.signs_num, List.length_map]
  exact toDigits_len_pow (b := 10) (by decide) (by decide) (by omega)
theorem item_list {prog : Program} {w : World} {A : Around} {E : Value → Shared → Prop} {s : Shared} {h₀ : Heap} {L : Addr} {news : Led} {value slice : Expr} {l : Addr} {vs : List Value} {k i : Nat} {u : Tok} {v : Value} {Q : Value → Shared → Prop}
    (N : News h₀ L s.heap news) (hm : (l, ({ cls := .type "list", data := .seq vs.toArray k } : Obj)) ∈ news) (hi : i < 1000) (hx : vs[i]? = some v) (h : Q v s)
    (hs : subscripted slice false (.ref l) (.int i u) = operate [.ref l, .int i u] (getItem (.ref l) (.int i u)) := by with_unfolding_all rfl) :
    wpAny (model prog w) A (subscriptTail value slice (.ref l) (.int i u)) Q E s := by
  have hl : s.heap.IsList l vs.toArray := ⟨_, (N _ hm).1, rfl, _, rfl⟩
  exact tail_any hl.typeIs slot_list_getitem.lookup (wpAny_getItem_list hl (by omega) (by omega) (by simpa using hx) h) hs
theorem textL_len (n : Int) (ps : List Str) : (textL n ps).length ≤ 4 := by
  unfold textL
  rw [List.length_map]
  exact num_size n
theorem sum_le : ∀ (l : List Nat), (∀ x ∈ l, x ≤ 1) → l.sum ≤ l.length
  | [], _ => Nat.le_refl _
  | a :: l, h => by
    have h1 := h a (.head _)
    have h2 := sum_le l fun x hx => h x (.tail _ hx)
    simp only [List.sum_cons, List.length_cons]
    omega
theorem textL_one {n : Int} {ps : List Str} (h : ∀ p ∈ ps, p.length ≤ 1) : ∀ x ∈ textL n ps, x.length ≤ 1 := by
  intro x hx
  unfold textL at hx
  obtain ⟨c, _, rfl⟩ := List.mem_map.mp hx
  rw [List.getD_eq_getElem?_getD]
  cases e : ps[c - 48]? with
  | none => exact Nat.zero_le _
  | some y => exact h y (List.mem_of_getElem? e)
theorem fmod10000 (n : Int) : n.fmod 10000 = n % 10000 := Int.fmod_eq_emod_of_nonneg _ (by decide)
set_option maxRecDepth 100000 in
set_option maxHeartbeats 8000000 in
theorem textK (w : World) (n : Int) (t : Tok) (pa : Addr) (ps : List (Str × Tok)) (k : Nat) (hps : ps.length = 10) (hpl : ∀ p ∈ ps, p.1.length ≤ 1) :
    Claim w 2 61 [.int n t, .ref pa] (fun news => (pa, { cls := .type "list", data := .seq (strValues ps).toArray k }) ∈ news) (fun news news' r => news' = news ∧ ∃ t', r = .str (textS n (ps.map (·.1))) t') := by
  unfold Claim
  k_fill
  intro p loose mean mg mb dp un gd cn cs aa ccd cl outer A₀ base h₀ L m news s Q E B F X N T hk hd hu hpre hret
  refine wpAny_call ?_
  k_dflt (refine' code_defC ?k1 ?k2 ?k3 ?k4 ?k5 ?kA ?kF ?kK ?k6 ?k7 ?k8 ?k9 ?kB ?kD ?_ ?c2 ?c3 ?c4; (case kA => exact rfl); (case kF => exact rfl); (case kK => assumption); (case k1 => k_asm); (case k2 => k_asm); (case k3 => k_asm); (case k4 => k_asm); (case k5 => k_asm); (case k6 => k_is); (case k7 => k_is); (case k8 => ktr_room); (case k9 => exact BindsTo.of_eq rfl); (case kB => exact rfl); (case kD => decide +kernel); (case c2 => exact rfl); (case c3 => exact rfl); (case c4 => exact rfl))
  intro g L1 h1 tk1 cells FG F1 N1 Y B1 X1 T1 l1
  k_cells Y
  refine wpAny_mono (E := fun _ _ => False) ?_ (fun _ _ h => h) (fun _ _ h => h.elim)
  rename_i ow hwd
  replace hwd : ow.data = .cell (some (.ref pa)) := hwd
  replace N1 : News g L1 h1 ((L1 + 1, ow) :: news) := N1
  replace F1 : Fr g L1 h1 (fun y => if y = Str.ofString "number" then some (Value.int n t) else none) := F1
  (repeat' ((fail_if_success (first | (with_reducible show wpAny _ _ (call (Value.ref _) _ _) _ _ _) | (with_reducible show wpAny _ _ (pyIter _) _ _ _) | (with_reducible show wpAny _ _ (call (Value.type "int") _ _) _ _ _) | (with_reducible show wpAny _ _ (call (Value.builtin "str.join") _ _) _ _ _) | (with_reducible show wpAny _ _ (eval (Expr.ListComp _ _ _ _) _) _ _ _) | (with_reducible show wpAny _ _ (exec (Stmt.While _ _ _ _) _) _ _ _))); first | (k_unfold; (try dsimp only)) | (k_end; wrow_close) | walk1 | (dsimp only; walk1)))
  refine comp_gen (by with_unfolding_all rfl) (by decide) rfl (by decide) ?_
  (repeat' ((fail_if_success (first | (with_reducible show wpAny _ _ (call (Value.ref _) _ _) _ _ _) | (with_reducible show wpAny _ _ (pyIter _) _ _ _) | (with_reducible show wpAny _ _ (call (Value.type "int") _ _) _ _ _) | (with_reducible show wpAny _ _ (call (Value.builtin "str.join") _ _) _ _ _) | (with_reducible show wpAny _ _ (eval (Expr.ListComp _ _ _ _) _) _ _ _) | (with_reducible show wpAny _ _ (exec (Stmt.While _ _ _ _) _) _ _ _))); first | (k_unfold; (try dsimp only)) | (k_end; wrow_close) | walk1 | (dsimp only; walk1)))
  rw [fmod10000]
  generalize hX : Str.ofString (toString (n % 10000)) = X
  refine src_str rfl F1 N1 ?hsz (fun i ys n₁ => n₁ = (L1 + 1, ow) :: news ∧ ∃ l : List (Str × Tok), ys = strValues l ∧ l.map (·.1) = (X.cps.toList.take i).map fun c => (ps.map (·.1)).getD (c - 48) Str.empty) (fun _ => ⟨rfl, [], rfl, rfl⟩) ?turn ?fin
  case hsz =>
    have := num_size n
    rw [hX, Array.length_toList] at this
    exact Nat.le_trans this (by rw [sizeLine_eq]; decide)
  case turn =>
    rintro I C D hIC hID hCD i v ys n₁ h tk oI oC₁ m₁ E' hi ⟨c, u, hc, rfl⟩ ⟨rfl, l, rfl, hl⟩ hk F2 hoC N2 off
    refine cassign_name rfl rfl F2 hoC N2 off hIC hCD ?_
    clear F2 N2 hoC
    intro h3 oC3 F3 hoC3 N3
    refine wpAny_tests_nil ?_
    rw [if_pos rfl]
    have hm1 : (C, oC3) ∈ (I, oI) :: (C, oC3) :: (D, lst (strValues l)) :: (L1 + 1, ow) :: news := .tail _ (.head _)
    have hm2 : (L1 + 1, ow) ∈ (I, oI) :: (C, oC3) :: (D, lst (strValues l)) :: (L1 + 1, ow) :: news := .tail _ (.tail _ (.tail _ (.head _)))
    have hm3 : (pa, ({ cls := Value.type "list", data := Data.seq (strValues ps).toArray k } : Obj)) ∈ (I, oI) :: (C, oC3) :: (D, lst (strValues l)) :: (L1 + 1, ow) :: news := .tail _ (.tail _ (.tail _ (.tail _ hpre)))
    (repeat' ((fail_if_success (first | (with_reducible show wpAny _ _ (call (Value.ref _) _ _) _ _ _) | (with_reducible show wpAny _ _ (pyIter _) _ _ _) | (with_reducible show wpAny _ _ (call (Value.type "int") _ _) _ _ _) | (with_reducible show wpAny _ _ (call (Value.builtin "str.join") _ _) _ _ _) | (with_reducible show wpAny _ _ (eval (Expr.ListComp _ _ _ _) _) _ _ _) | (with_reducible show wpAny _ _ (exec (Stmt.While _ _ _ _) _) _ _ _))); first | (k_unfold; (try dsimp only)) | (k_end; wrow_close) | walk1 | (dsimp only; walk1)))
    dsimp only
    refine LCgL.ld_own N3 hm1 hoC3 (if_pos rfl) ?_
    (repeat' ((fail_if_success (first | (with_reducible show wpAny _ _ (call (Value.ref _) _ _) _ _ _) | (with_reducible show wpAny _ _ (pyIter _) _ _ _) | (with_reducible show wpAny _ _ (call (Value.type "int") _ _) _ _ _) | (with_reducible show wpAny _ _ (call (Value.builtin "str.join") _ _) _ _ _) | (with_reducible show wpAny _ _ (eval (Expr.ListComp _ _ _ _) _) _ _ _) | (with_reducible show wpAny _ _ (exec (Stmt.While _ _ _ _) _) _ _ _))); first | (k_unfold; (try dsimp only)) | (k_end; wrow_close) | walk1 | (dsimp only; walk1)))
    have hcd : 48 ≤ c ∧ c ≤ 57 := num_fig n c (by rw [hX]; exact List.mem_of_getElem? (by rw [Array.getElem?_toList]; exact hc))
    refine KIN.call_text (n := ((c - 48 : Nat) : Int)) (digit_reads hcd) (show 1 ≤ 640 by decide) ?_
    (repeat' ((fail_if_success (first | (with_reducible show wpAny _ _ (call (Value.ref _) _ _) _ _ _) | (with_reducible show wpAny _ _ (pyIter _) _ _ _) | (with_reducible show wpAny _ _ (call (Value.type "int") _ _) _ _ _) | (with_reducible show wpAny _ _ (call (Value.builtin "str.join") _ _) _ _ _) | (with_reducible show wpAny _ _ (eval (Expr.ListComp _ _ _ _) _) _ _ _) | (with_reducible show wpAny _ _ (exec (Stmt.While _ _ _ _) _) _ _ _))); first | (k_unfold; (try dsimp only)) | (k_end; wrow_close) | walk1 | (dsimp only; walk1)))
    obtain ⟨q, hq⟩ : ∃ q, ps[c - 48]? = some q := ⟨ps[c - 48], List.getElem?_eq_getElem (by omega)⟩
    refine item_list N3 hm3 (by omega) (show (strValues ps)[c - 48]? = some (.str q.1 q.2) by rw [strValues, List.getElem?_map, hq]; rfl) ?_
    refine ⟨h3, _, oC3, _, _, rfl, F3, hoC3, N3, off, hk, rfl, l ++ [q], by simp [strValues], ?_⟩
    rw [List.map_append, hl, List.take_add_one, List.map_append]
    congr 1
    rw [Array.getElem?_toList, hc, Option.toList_some, List.map_cons, List.map_nil, List.map_cons, List.map_nil, List.getD_eq_getElem?_getD, List.getElem?_map, hq]
    rfl
  case fin =>
    rintro D h tk ys n₁ F2 N2 off ⟨rfl, l, rfl, hl⟩
    (repeat' ((fail_if_success (first | (with_reducible show wpAny _ _ (call (Value.ref _) _ _) _ _ _) | (with_reducible show wpAny _ _ (pyIter _) _ _ _) | (with_reducible show wpAny _ _ (call (Value.type "int") _ _) _ _ _) | (with_reducible show wpAny _ _ (call (Value.builtin "str.join") _ _) _ _ _) | (with_reducible show wpAny _ _ (eval (Expr.ListComp _ _ _ _) _) _ _ _) | (with_reducible show wpAny _ _ (exec (Stmt.While _ _ _ _) _) _ _ _))); first | (k_unfold; (try dsimp only)) | (k_end; wrow_close) | walk1 | (dsimp only; walk1)))
    refine SC.join (l := l) (texts := textL n (ps.map (·.1))) ⟨_, (N2 _ (.head _)).1, rfl, _, rfl⟩ ?_ ?_ ?_
    · rw [hl, List.take_of_length_le (by simp)]; unfold textL; rw [hX]
    · have h1 := textL_len n (ps.map (·.1))
      have h2 := sum_le ((textL n (ps.map (·.1))).map (·.length)) (by
        intro y hy
        obtain ⟨x, hx, rfl⟩ := List.mem_map.mp hy
        exact textL_one (by
          intro p hp
          obtain ⟨q, hq, rfl⟩ := List.mem_map.mp hp
          exact hpl q hq) x hx)
      rw [List.length_map] at h2
      exact joinOk_of_weight (by omega) (by decide)
    · intro t' k'
      (repeat' ((fail_if_success (first | (with_reducible show wpAny _ _ (call (Value.ref _) _ _) _ _ _) | (with_reducible show wpAny _ _ (pyIter _) _ _ _) | (with_reducible show wpAny _ _ (call (Value.type "int") _ _) _ _ _) | (with_reducible show wpAny _ _ (call (Value.builtin "str.join") _ _) _ _ _) | (with_reducible show wpAny _ _ (eval (Expr.ListComp _ _ _ _) _) _ _ _) | (with_reducible show wpAny _ _ (exec (Stmt.While _ _ _ _) _) _ _ _))); first | (k_unfold; (try dsimp only)) | (k_end; wrow_close) | walk1 | (dsimp only; walk1)))
      exact hret _ _ _ _ (by assumption) (cb_drop (by assumption) fun p hp => .tail _ (.tail _ hp)) ⟨rfl, _, rfl⟩
end Mine
end

/-! ## LCut -/
section
theorem Mine.startLCut : True := by
  w_top off
  trivial
open PySem PySem.W PyProof.Rows PySem.Calls PySem.Spec
set_option Elab.async false
namespace Mine
noncomputable def cutI (n : Int) : Int := ((n.natAbs : Int) % 10 ^ 20) * (if 0 ≤ n then 1 else -1)
theorem cutI_lt (n : Int) : (cutI n).natAbs < 10 ^ 20 := by
  unfold cutI
  have h1 := Int.emod_nonneg (n.natAbs : Int) (show (10 ^ 20 : Int) ≠ 0 by decide)
  have h2 := Int.emod_lt_of_pos (n.natAbs : Int) (show (0 : Int) < 10 ^ 20 by decide)
  generalize (n.natAbs : Int) % 10 ^ 20 = z at h1 h2
  split <;> simp <;> omega
theorem cut_abs (n : Int) : (if n < 0 then -n else n).fmod (10 ^ Int.toNat 20) = (n.natAbs : Int) % 10 ^ 20 := by
  have e : (if n < 0 then -n else n) = (n.natAbs : Int) := by split <;> omega
  rw [e]
  exact Int.fmod_eq_emod_of_nonneg _ (by decide)
set_option maxRecDepth 100000 in
set_option maxHeartbeats 8000000 in
theorem cutK (w : World) (n : Int) (t : Tok) :
    Claim w 2 56 [.int n t] (fun _ => True) (fun news news' r => news' = news ∧ ∃ t', r = .int (cutI n) t') := by
  unfold Claim
  k_fill
  intro p loose mean mg mb dp un gd cn cs aa ccd cl outer A₀ base h₀ L m news s Q E B F X N T hk hd hu hpre hret
  refine wpAny_call ?_
  k_dflt cell_enter
  rename_i g L1 h1 FG F1 N1 B1 X1 T1
  refine wpAny_mono (E := fun _ _ => False) ?_ (fun _ _ h => h) (fun _ _ h => h.elim)
  replace F1 : Fr g L1 h1 (fun y => List.lookup y [(Str.ofString "number", Value.int n t)]) := F1
  (repeat' ((fail_if_success (first | (with_reducible show wpAny _ _ (call (Value.ref _) _ _) _ _ _) | (with_reducible show wpAny _ _ (exec (Stmt.While _ _ _ _) _) _ _ _))); first | (k_unfold; (try dsimp only)) | (k_end; wrow_close) | (dsimp only; walk1) | walk1))
  all_goals exact hret _ _ _ _ (by assumption) (by assumption) ⟨rfl, _, by
    rw [cut_abs]; unfold cutI
    first | rw [if_pos (by assumption)] | rw [if_neg (by assumption)]⟩
end Mine
end

/-! ## LFnAttr -/
section
theorem Mine.startLFnAttr : True := by
  w_top off
  trivial
open PySem PySem.W PyProof.Rows PySem.Calls PySem.Spec
set_option Elab.async false
namespace Mine
namespace FA
set_option maxRecDepth 100000
theorem slot_ga : Slot "function" "__getattribute__" "object.__getattribute__" :=
  .of (owner := "object") (n := "__getattribute__") (by rw [typeLookup_type, builtinLookup_eq_fast]; kernel_rfl) (by decide +kernel) (by decide +kernel) (by decide +kernel)
    (by first | exact .inl (by decide +kernel) | exact .inr (by decide +kernel)) (by rw [isSubtype_type]; kernel_rfl)
theorem slot_sa : Slot "function" "__setattr__" "object.__setattr__" :=
  .of (owner := "object") (n := "__setattr__") (by rw [typeLookup_type, builtinLookup_eq_fast]; kernel_rfl) (by decide +kernel) (by decide +kernel) (by decide +kernel)
    (by first | exact .inl (by decide +kernel) | exact .inr (by decide +kernel)) (by rw [isSubtype_type]; kernel_rfl)
theorem entry_ga : entryFor table "object.__getattribute__" = some Builtin.«object.__getattribute__» := entryFor_of_tree (by kernel_rfl)
theorem entry_sa : entryFor table "object.__setattr__" = some Builtin.«object.__setattr__» := entryFor_of_tree (by kernel_rfl)
theorem args_ga (a b : Value) : argsOk "object.__getattribute__" ⟨[a, b], []⟩ := by unfold argsOk; kernel_rfl
theorem args_sa (a b c : Value) : argsOk "object.__setattr__" ⟨[a, b, c], []⟩ := by unfold argsOk; kernel_rfl
theorem no_getattr : typeLookup (.type "function") "__getattr__" = pure none := by rw [typeLookup_type, builtinLookup_eq_fast]; kernel_rfl
theorem no_span : typeLookup (.type "function") "span" = pure none := by rw [typeLookup_type, builtinLookup_eq_fast]; kernel_rfl
theorem no_search : typeLookup (.type "function") "search" = pure none := by rw [typeLookup_type, builtinLookup_eq_fast]; kernel_rfl
theorem no_bool : typeLookup (.type "function") "__bool__" = pure none := by rw [typeLookup_type, builtinLookup_eq_fast]; kernel_rfl
theorem no_len : typeLookup (.type "function") "__len__" = pure none := by rw [typeLookup_type, builtinLookup_eq_fast]; kernel_rfl
theorem mro_fn : mroOf (.type "function") = pure [.type "function", .type "object"] := by rw [mroOf_type]; kernel_rfl
section
variable {prog : Program} {w : World} {A : Around} {E : Value → Shared → Prop} {s : Shared} {q d : Addr} {fd : FuncData} {sl : Array (Option Value)} {od : Obj} {name : Str} {v : Value} {g : Addr → Led}

theorem truthy_fn {Q : Bool → Shared → Prop} (hT : s.TypeIs (.ref q) "function") (h : Q true s) : wpAny (model prog w) A (truthy (.ref q)) Q E s := by
  unfold truthy
  refine wpAny_bind ?_
  unfold callSpecial?
  refine wpAny_bind (wpAny_specialOf hT no_bool (wpAny_pure ?_))
  refine wpAny_bind (wpAny_specialOf hT no_len ?_)
  exact wpAny_pure h
theorem getAttr_fn {x : Bool} {Q : Value → Shared → Prop} (hq : s.heap.get? q = some ⟨.type "function", some d, .func fd, sl⟩) (hd : s.heap.get? d = some od) (hl : lookIn name od = some (some v)) (hn : typeLookup (.type "function") name = pure none)
    (h : Q v { s with toks := s.toks + 1 }) (hv : ∀ id, v ≠ .builtin id) : wpAny (model prog w) A (getAttr (.ref q) name x) Q E s := by
  have hT : Shared.TypeIs { s with toks := s.toks + 1 } (.ref q) "function" := ⟨_, hq, rfl⟩
  unfold getAttr
  refine wpAny_bind (wpAny_mkText ?_)
  unfold getAttrBy
  try with_reducible refine wpAny_holding ?_
  refine wpAny_bind (wpAny_typeOf hT ?_)
  refine wpAny_bind (wpAny_of_eq slot_ga.lookup ?_)
  show wpAny _ _ (getAttrByItsOwn (.ref q) (.str name s.toks) (.type "function") (.builtin "object.__getattribute__") true x) Q E _
  unfold getAttrByItsOwn
  refine wpAny_bind (m := hookBefore (.type "function")) (wpAny_pure ?_)
  refine wpAny_bind (wpAny_attempt ?_)
  try with_reducible refine wpAny_holding ?_
  have e1 : callGetattribute (.ref q) (.str name s.toks) (.builtin "object.__getattribute__") x = boundAndCalled (.builtin "object.__getattribute__") (.ref q) (.str name s.toks) := by
    unfold callGetattribute; simp [onTheHeap]
  rw [e1]
  unfold boundAndCalled
  rw [slot_ga.bind]
  refine wpAny_bind (wpAny_pure ?_)
  refine wpAny_call_entry slot_ga hT entry_ga ?_ (args_ga _ _)
  unfold Builtin.«object.__getattribute__»
  refine wpAny_bind (wpAny_of_eq (a := ((Value.ref q, [Value.str name s.toks]) : Value × List Value)) rfl ?_)
  refine wpAny_bind (m := Builtin.ObjectAttr.attrName _) (wpAny_pure ?_)
  refine wpAny_bind (wpAny_typeOf hT ?_)
  unfold Builtin.ObjectAttr.find
  refine wpAny_bind (wpAny_bind (wpAny_of_eq hn ?_))
  refine wpAny_bind (m := Builtin.ObjectAttr.getOf none) (wpAny_pure ?_)
  refine wpAny_bind (m := Builtin.ObjectAttr.dataDescriptor? none none) (wpAny_pure ?_)
  show wpAny _ _ (Builtin.ObjectAttr.ownThenClass (.ref q) name none none) _ _ _
  unfold Builtin.ObjectAttr.ownThenClass Builtin.ObjectAttr.inOwnDict Builtin.ObjectAttr.ownDict
  refine wpAny_bind (wpAny_bind (wpAny_bind (wpAny_loadPart hq ?_)))
  show wpAny _ _ (instanceDict q false) _ _ _
  unfold instanceDict
  refine wpAny_bind (wpAny_loadPart hq ?_)
  refine wpAny_bind (wpAny_pure ?_)
  refine wpAny_pure ?_
  show wpAny _ _ (nsGet d name) _ _ _
  unfold nsGet
  refine wpAny_bind (wpAny_loadPart hd ?_)
  rw [nsLook_of hl]
  refine wpAny_pure ?_
  refine wpAny_bind (wpAny_rule (wpAny_pure ?_))
  refine wpAny_pure ⟨_, rfl, ?_⟩
  cases v <;> first | exact wpAny_pure h | exact absurd rfl (hv _)
theorem getMethod_fn {pl : Sem Bool} {Q : Value × List Value → Shared → Prop} (hq : s.heap.get? q = some ⟨.type "function", some d, .func fd, sl⟩) (hd : s.heap.get? d = some od) (hl : lookIn name od = some (some v)) (hn : typeLookup (.type "function") name = pure none)
    (h : Q (v, []) { s with toks := s.toks + 1 }) (hv : ∀ id, v ≠ .builtin id) : wpAny (model prog w) A (getMethod (.ref q) name pl) Q E s := by
  have hT : s.TypeIs (.ref q) "function" := ⟨_, hq, rfl⟩
  unfold getMethod
  refine wpAny_bind (wpAny_specialOf hT slot_ga.lookup ?_)
  show wpAny _ _ (if (Manifest.canonical "object.__getattribute__" != "object.__getattribute__") = true then _ else _) _ _ _
  rw [if_neg (by decide +kernel)]
  refine wpAny_bind (wpAny_specialOf hT no_getattr ?_)
  refine wpAny_bind (wpAny_specialOf hT hn ?_)
  exact wpAny_bind (getAttr_fn hq hd hl hn (wpAny_pure h) hv)

theorem refuse_fn (self : Value) : refuseLoop self "__setattr__" [.type "function", .type "object"] = pure () := by
  unfold refuseLoop
  kernel_rfl
theorem setAttr_fn {h₀ : Heap} {L : Addr} {m : Str → Option Value} {news : Led} {Q : Unit → Shared → Prop} (F : Fr h₀ L s.heap m) (N : News h₀ L s.heap news)
    (hn : typeLookup (.type "function") name = pure none)
    (U : ∀ d, Upd q ⟨.type "function", none, .func fd, sl⟩ ⟨.type "function", some d, .func fd, sl⟩ news (g d))
    (h : ∀ d h' tk, Fr h₀ L h' m → News h₀ L h' ((d, dictOf [⟨PyData.keyHash w.params name, .str name tk, v⟩] 1) :: g d) → (∀ p ∈ news, p.1 < d) → Q () { s with heap := h', toks := tk + 1 }) :
    wpAny (model prog w) A (setAttr (.ref q) name v) Q E s := by
  obtain ⟨pre, post, e1, e2, hp1, hp2⟩ := (U s.heap.objs.size).split
  subst e1
  have hq := N (q, ⟨.type "function", none, .func fd, sl⟩) (List.mem_append_right _ (.head _))
  have hT : Shared.TypeIs { s with toks := s.toks + 1 } (.ref q) "function" := ⟨_, hq.1, rfl⟩
  unfold setAttr
  refine wpAny_bind (wpAny_mkText ?_)
  refine wpAny_bind (wpAny_callSpecial?_slot (name := Str.ofString "__setattr__") hT slot_sa (wpAny_call_entry slot_sa hT entry_sa ?_ (args_sa _ _ _)))
  rw [osa_eq, refuse_eq]
  refine wpAny_bind (wpAny_bind (wpAny_typeOf hT (wpAny_bind (wpAny_of_eq mro_fn ?_))))
  rw [refuse_fn]
  refine wpAny_pure (wpAny_bind (wpAny_typeOf hT (wpAny_bind (wpAny_of_eq hn ?_))))
  refine wpAny_bind (m := Builtin.ObjectAttr.storeTaker? none) (wpAny_pure ?_)
  show wpAny _ _ (Builtin.ObjectAttr.storeInOwnDict (.ref q) (.type "function") (.str name s.toks) name v false) _ _ _
  unfold Builtin.ObjectAttr.storeInOwnDict
  refine wpAny_bind (m := ownStreamTells _ _) (wpAny_of_eq (a := ()) (by kernel_rfl) ?_)
  rw [if_neg (by decide +kernel)]
  refine wpAny_bind ?_
  show wpAny _ _ (instanceDict q true) _ _ _
  unfold instanceDict
  refine wpAny_bind (wpAny_loadPart hq.1 ?_)
  refine wpAny_bind (wpAny_alloc ?_)
  have F1 := F.push { cls := .type "dict", data := .dict #[] }
  have N1 := N.push F { cls := .type "dict", data := .dict #[] }
  have hqd : q ≠ s.heap.objs.size := Nat.ne_of_lt (Heap.lt_size hq.1)
  have U2 := news_upd (f := fun o : Obj => { o with dict := some s.heap.objs.size }) F1 (pre := (s.heap.objs.size, { cls := .type "dict", data := .dict #[] }) :: pre) (d := q) (post := post) N1
    (fun p hp => by
      rcases List.mem_cons.mp hp with rfl | hp
      · exact hqd.symm
      · exact hp1 p hp) hp2 rfl rfl
  refine wpAny_bind (wpAny_update (Heap.get?_push_of_some _ hq.1) ?_)
  refine wpAny_of_eq (a := some s.heap.objs.size) (by kernel_rfl) ?_
  show wpAny _ _ (Builtin.ObjectAttr.storeInDict s.heap.objs.size (.str name s.toks) name v) _ _ _
  unfold Builtin.ObjectAttr.storeInDict
  refine wpAny_bind (m := Builtin.ObjectAttr.newKeyGuard _ _ _) (wpAny_pure ?_)
  obtain ⟨F2, N2⟩ := U2
  have D := (N2 _ (List.mem_append_left _ (.head _))).1
  have hlt : ∀ p ∈ pre ++ (q, (⟨.type "function", none, .func fd, sl⟩ : Obj)) :: post, p.1 < s.heap.objs.size := fun p hp => Heap.lt_size (N p hp).1
  have U3 := news_upd (f := Obj.putName name (PyData.keyHash w.params name) (.str name (s.toks + 1)) v) F2 (pre := []) (d := s.heap.objs.size) N2 (fun _ h => nomatch h)
    (fun p hp => by
      rcases List.mem_append.mp hp with hp | hp
      · exact Nat.ne_of_lt (hlt p (List.mem_append_left _ hp))
      · rcases List.mem_cons.mp hp with rfl | hp
        · exact hqd
        · exact Nat.ne_of_lt (hlt p (List.mem_append_right _ (.tail _ hp)))) (putName_dict name _ _ v [] 0) rfl
  refine wpAny_bind ?_
  unfold nsSet
  refine wpAny_bind (wpAny_bind (wpAny_askSetting (wpAny_pure (wpAny_bind (wpAny_mkText (wpAny_bind (wpAny_loadPart D ?_)))))))
  refine wpAny_updatePart D ?_
  obtain ⟨F3, N3⟩ := U3
  have D3 := (N3 _ (.head _)).1
  refine wpAny_bind (wpAny_lookBehind D3 (pastItsLine_dict (Nat.le_of_ble_eq_true rfl)) ?_)
  refine wpAny_pure ⟨_, rfl, wpAny_pure ?_⟩
  refine h s.heap.objs.size _ (s.toks + 1) F3 ?_ hlt
  rw [e2]
  exact N3
end
end FA
end Mine
end

/-! ## LCode -/
section
theorem Mine.startLCode : True := by
  w_top off
  trivial
open PySem PySem.W PyProof.Rows PySem.Calls PySem.Spec
set_option Elab.async false
namespace Mine

/-- what the head of a code object says of its own table -/
noncomputable def CodeO (o : Obj) (c P : Addr) : Prop :=
  ∃ vs file tf flags tg inF text tt, o.cls = .type "code" ∧ o.data = .fields vs ∧ vs[11]? = some (.ref P) ∧ vs.getD 11 .none = .ref P ∧ vs.getD 18 .none = .str file tf ∧
    vs.getD 7 .none = .int flags tg ∧ vs.getD 9 .none = .bool inF ∧ vs.getD 10 .none = .int text tt ∧ c ≠ P
noncomputable def RecO (o : Obj) (q : Str) : Prop := ∃ vs t, o.data = .fields vs ∧ vs[1]? = some (.str q t)
theorem CodeO.at {o : Obj} {c P : Addr} {h : Heap} (x : CodeO o c P) (e : h.get? c = some o) : CodeHd h c P :=
  let ⟨vs, file, tf, flags, tg, inF, text, tt, r⟩ := x; ⟨o, vs, file, tf, flags, tg, inF, text, tt, e, r⟩
theorem CodeO.of {h : Heap} {c P : Addr} (x : CodeHd h c P) : ∃ o, h.get? c = some o ∧ CodeO o c P :=
  let ⟨o, vs, file, tf, flags, tg, inF, text, tt, e, r⟩ := x; ⟨o, e, vs, file, tf, flags, tg, inF, text, tt, r⟩
theorem CodeO.cls {o : Obj} {c P : Addr} (x : CodeO o c P) : o.cls = .type "code" := let ⟨_, _, _, _, _, _, _, _, r, _⟩ := x; r
theorem RecO.at {o : Obj} {c : Addr} {q : Str} {h : Heap} (x : RecO o q) (e : h.get? c = some o) : h.CodeRec (.ref c) q :=
  let ⟨vs, t, d, v⟩ := x; ⟨c, o, vs, t, rfl, e, d, v⟩

noncomputable def tailRest (name qualname : Str) (params : Arguments) (body : FuncBody) (scope : Scope) (env : Env) (defaultsV : Value) (pos : Pos) (firstLine : Nat) (closure : List (Str × Addr)) (closureTuple : Value) : Sem Value := do
  let fd : FuncData := { name, qualname, params, body, scope, globals := env.globals, closure, closureTuple,
                         code := ← functionCode env pos firstLine name qualname params scope body, builtins := ← builtinsFor env.globals env.builtins,
                         defaults := defaultsV, kwdefaults := .none, annotations := none, pyModule := (← nsGet env.globals "__name__").getD .none,
                         doc := ← match body with
                           | .stmts b => (match docOf b with | some s => mkText s | none => pure .none)
                           | .expr _ => pure .none }
  newObj (.type "function") (.func fd)
section
variable {M : Model} {A : Around} {E : Value → Shared → Prop} {s : Shared} {name qual : Str} {params : Arguments} {body : FuncBody} {scope : Scope} {env : Env} {c P : Addr} {ps : Array Value} {pos : Pos} {firstLine : Nat} {mg : Str → Option Value}
  {clos : List (Str × Addr)} {Q : Value → Shared → Prop}
theorem mk_miss {dV : Value} (hcl : closureFor scope env = pure clos) (hge0 : env.globals = mainGlobals) (hg : s.heap.Ns mainGlobals mg) (hcode : env.code = .ref c) (C : CodeHd s.heap c P) (hP : s.heap.get? P = some (tabObj ps)) (ht : TriplesOk ps.toList)
    (hnf : codeAmong pos ps.toList = none) (hgP : mainGlobals ≠ P) (hb : s.heap.BuiltinsAt mg P)
    (h : ∀ c' P' ctv doc h' tk, Heap.ExtBut P s.heap h' → s.heap.objs.size ≤ c' → c' < h'.objs.size → h'.CodeRec (.ref c') qual → h'.get? P = some (tabObj (ps ++ #[rawInt pos.line, rawInt pos.col, .ref c'])) →
      s.heap.objs.size ≤ P' → P' < h'.objs.size → CodeHd h' c' P' → h'.get? P' = some (tabObj #[]) →
      Q (.ref h'.objs.size) { s with heap := h'.push (kdv_obj name qual params body scope clos dV doc ((mg "__name__").getD .none) c' ctv), toks := tk }) :
    wpAny M A (makeTail name qual params body scope env dV .none none pos firstLine) Q E s := by
  obtain ⟨bm, ob, hbm, hne0, _, hneP, hbo, hcls, hdict, hdata⟩ := hb
  have mk : ∀ (s₁ : Shared) (ctv : Value), (∀ b o, s.heap.get? b = some o → s₁.heap.get? b = some o) → s.heap.objs.size ≤ s₁.heap.objs.size → s₁.gens = s.gens → s₁.drawn = s.drawn → s₁.os = s.os →
      wpAny M A (tailRest name qual params body scope env dV pos firstLine clos ctv) Q E s₁ := by
    intro s₁ ctv hk hsz e1 e2 e3
    obtain ⟨hp₁, g₁, d₁, t₁, o₁⟩ := s₁
    dsimp only at e1 e2 e3
    subst e1 e2 e3
    unfold tailRest
    rw [hge0]
    refine wpAny_bind (wpAny_functionCodeX hcode ((C.keeps hk).code (hk _ _ hP) ht) ((C.keeps hk).tab (hk _ _ hP)) hnf fun c' h' tk hx hge hlt _ hrec htb hown => ?_)
    obtain ⟨P', hP', hco, hta⟩ := hown
    have hx' : Heap.ExtBut P s.heap h' := fun b o hb' e => hx b o hb' (hk _ _ e)
    have hg' := hg.extBut hx' hgP
    refine wpAny_bind (wpAny_builtinsFor hg' hbm hne0 (hx' _ _ hneP hbo) hcls hdict hdata ?_)
    refine wpAny_bind (wpAny_nsGet hg' ?_)
    have fin : ∀ doc tk', Q (.ref h'.objs.size) { s with heap := h'.push (kdv_obj name qual params body scope clos dV doc ((mg "__name__").getD .none) c' ctv), toks := tk' } := fun doc tk' =>
      h c' P' ctv doc h' tk' hx' (Nat.le_trans hsz hge) hlt hrec htb.2 (Nat.le_trans hsz hP') hco.lt.2 (CodeHd.of hco hta) hta.2
    cases body with
    | expr e => exact wpAny_bind (wpAny_pure (wpAny_newObj_type (fin .none tk) (by size_fits)))
    | stmts b =>
      cases hdoc : docOf b with
      | none => exact wpAny_bind (by simp only [hdoc]; exact wpAny_pure (wpAny_newObj_type (fin .none tk) (by size_fits)))
      | some t => exact wpAny_bind (by simp only [hdoc]; exact wpAny_mkText (wpAny_newObj_type (fin _ _) (by size_fits)))
  unfold makeTail
  rw [hcl]
  refine wpAny_bind (wpAny_pure ?_)
  cases clos with
  | nil =>
    simp only [List.isEmpty_nil, if_true]
    exact wpAny_bind (wpAny_pure (mk s .none (fun _ _ e => e) (Nat.le_refl _) rfl rfl rfl))
  | cons q r =>
    simp only [List.isEmpty_cons, Bool.false_eq_true, if_false]
    refine wpAny_bind (wpAny_newTextTuple ?_)
    exact mk { s with heap := _ } _ (fun b o e => Heap.get?_push_of_some _ e) (by rw [Heap.size_push]; omega) rfl rfl rfl
end

noncomputable def Ent (news : Led) (ps : Array Value) (pos : Pos) (q : Str) : Prop :=
  codeAmong pos ps.toList = none ∨ ∃ c' oc, codeAmong pos ps.toList = some (.ref c') ∧ (c', oc) ∈ news ∧ oc.cls = .type "code" ∧ RecO oc q
noncomputable def KeepBut (P : Addr) (news news' : Led) : Prop := ∀ p ∈ news, p.1 ≠ P → p ∈ news'
theorem KeepBut.refl {P : Addr} {news : Led} : KeepBut P news news := fun _ h _ => h
theorem KeepBut.trans {P : Addr} {n1 n2 n3 : Led} (x : KeepBut P n1 n2) (y : KeepBut P n2 n3) : KeepBut P n1 n3 := fun p h e => y p (x p h e) e
theorem codeAmong_other {pos pos' : Pos} {c : Value} (hne : ¬ (pos'.line = pos.line ∧ pos'.col = pos.col)) : ∀ (l : List Value), TriplesOk l → codeAmong pos' (l ++ [rawInt pos.line, rawInt pos.col, c]) = codeAmong pos' l := by
  intro l h
  fun_induction TriplesOk l with
  | case1 =>
    simp only [List.nil_append, codeAmong, rawInt]
    rw [if_neg]
    intro e
    rw [Bool.and_eq_true, beq_iff_eq, beq_iff_eq] at e
    exact hne ⟨by omega, by omega⟩
  | case2 a' t b' u x rest ih => simp only [List.cons_append, codeAmong]; rw [ih h]
  | case3 l h1 h2 => exact h.elim
theorem news_ne {h₀ h : Heap} {L a b : Addr} {o o' : Obj} {news : Led} (N : News h₀ L h news) (ha : (a, o) ∈ news) (hb : (b, o') ∈ news) (hne : o ≠ o') : a ≠ b := fun e => by
  subst e
  exact hne (Option.some.inj ((N _ ha).1.symm.trans (N _ hb).1))
theorem cls_ne {o o' : Obj} (h : o.cls ≠ o'.cls) : o ≠ o' := fun e => h (by rw [e])

section
variable {M : Model} {A : Around} {E : Value → Shared → Prop} {s : Shared} {h₀ : Heap} {L c P : Addr} {m mg mb : Str → Option Value} {news : Led}
  {p : Program} {loose : List Str} {mean : ExcName → Option Value} {name qual : Str} {params : Arguments} {body : FuncBody} {scope : Scope} {env : Env} {ps : Array Value} {pos : Pos} {firstLine : Nat} {clos : List (Str × Addr)}
theorem mk_fnA {dV : Value} {Q : Value → Shared → Prop} (F : Fr h₀ L s.heap m) (N : News h₀ L s.heap news) (T : Top p loose mean mg mb h₀) (C : CodeHd s.heap c P) (hcd : env.code = .ref c) (hge0 : env.globals = mainGlobals)
    (hP : (P, tabObj ps) ∈ news) (ht : TriplesOk ps.toList) (hcl : closureFor scope env = pure clos) (he : Ent news ps pos qual)
    (h : ∀ f c' oc ctv doc h' tk ps' news', Fr h₀ L h' m → News h₀ L h' ((f, kdv_obj name qual params body scope clos dV doc ((mg "__name__").getD .none) c' ctv) :: news') → KeepBut P news news' → (P, tabObj ps') ∈ news' → TriplesOk ps'.toList →
      codeAmong pos ps'.toList = some (.ref c') → (∀ pos' : Pos, ¬ (pos'.line = pos.line ∧ pos'.col = pos.col) → codeAmong pos' ps'.toList = codeAmong pos' ps.toList) → (c', oc) ∈ news' → oc.cls = .type "code" → RecO oc qual →
      (codeAmong pos ps.toList = some (.ref c') ∨ codeAmong pos ps.toList = none ∧ ∃ P', CodeO oc c' P' ∧ (P', tabObj #[]) ∈ news' ∧ P' ≠ P) → (∀ p ∈ news', p.1 < f) → (∀ p ∈ news, p.1 < f) → Q (.ref f) { s with heap := h', toks := tk }) :
    wpAny M A (makeTail name qual params body scope env dV .none none pos firstLine) Q E s := by
  have hm := N (P, tabObj ps) hP
  have hgs := T.g.keeps F.keep
  obtain ⟨bm, ob, b1, b2, b3, b4, b5, b6⟩ := T.bmain
  have hgP : mainGlobals ≠ P := fun q => by
    obtain ⟨o, es, ep, e, hd, _⟩ := hgs
    rw [q, hm.1] at e; cases e; cases hd
  have hbP : bm ≠ P := fun q => by
    have e := F.keep _ _ b3
    rw [q, hm.1] at e; cases e; cases b4
  have hbG : bm ≠ mainGlobals := fun q => by
    obtain ⟨o, es, ep, e, hd, _⟩ := T.g
    rw [q, e] at b3; cases b3; rw [hd] at b6; cases b6
  have hLs : L < s.heap.objs.size := F.ns.lt
  have fresh : ∀ b, L < b → h₀.get? b = none := fun b hb => Heap.get?_none_of_le (Nat.le_trans F.above (Nat.le_of_lt hb))
  rcases he with hn | ⟨c', oc, hf, hoc, hcls, hrec⟩
  · refine mk_miss (mg := mg) hcl hge0 hgs hcd C hm.1 ht hn hgP ⟨bm, ob, b1, b2, hbG, hbP, F.keep _ _ b3, b4, b5, b6⟩ fun c' P' ctv doc h' tk hx hge hlt hrec htb hge2 hlt2 hco htab => ?_
    obtain ⟨oc, hoc, hcO⟩ := CodeO.of hco
    have hrecO : RecO oc qual := by
      obtain ⟨c₂, o₂, vs, t, e2, g2, d2, v2⟩ := hrec
      cases e2
      rw [hoc] at g2; cases g2
      exact ⟨vs, t, d2, v2⟩
    have hLc : L < c' := Nat.lt_of_lt_of_le hLs hge
    have hLP : L < P' := Nat.lt_of_lt_of_le hLs hge2
    have hPs : P < s.heap.objs.size := Heap.lt_size hm.1
    have old : ∀ b o, h₀.get? b = some o → h'.get? b = some o := fun b o e => hx b o (fun q => by rw [q, hm.2.2] at e; cases e) (F.keep b o e)
    have hl : (ps ++ #[rawInt pos.line, rawInt pos.col, Value.ref c']).toList = ps.toList ++ [rawInt pos.line, rawInt pos.col, .ref c'] := by simp
    refine h h'.objs.size c' oc ctv doc _ tk (ps ++ #[rawInt pos.line, rawInt pos.col, .ref c']) ((c', oc) :: (P', tabObj #[]) :: (P, tabObj (ps ++ #[rawInt pos.line, rawInt pos.col, .ref c'])) :: news.filter (fun p => decide (p.1 ≠ P)))
      ⟨(F.ns.extBut hx hm.2.1.symm).push _, fun b o e => Heap.get?_push_of_some _ (old b o e), F.above⟩ (fun q hq => ?_)
      (fun q hq hne => .tail _ (.tail _ (.tail _ (List.mem_filter.mpr ⟨hq, decide_eq_true hne⟩)))) (.tail _ (.tail _ (.head _))) (by rw [hl]; exact TriplesOk_snoc _ _ _ _ ht) (by rw [hl]; exact codeAmong_snoc _ ht hn)
      (fun pos' hne => by rw [hl]; exact codeAmong_other hne _ ht) (.head _) hcO.cls hrecO (.inr ⟨hn, P', hcO, .tail _ (.head _), Nat.ne_of_gt (Nat.lt_of_lt_of_le hPs hge2)⟩) (fun q hq => ?_)
      (fun q hq => Nat.lt_of_lt_of_le (Heap.lt_size (N q hq).1) (Nat.le_trans hge (Nat.le_of_lt hlt)))
    · rcases List.mem_cons.mp hq with rfl | hq
      · exact ⟨Heap.get?_push_size _ rfl, Nat.ne_of_gt (Nat.lt_trans hLc hlt), fresh _ (Nat.lt_trans hLc hlt)⟩
      rcases List.mem_cons.mp hq with rfl | hq
      · exact ⟨Heap.get?_push_of_some _ hoc, Nat.ne_of_gt hLc, fresh _ hLc⟩
      rcases List.mem_cons.mp hq with rfl | hq
      · exact ⟨Heap.get?_push_of_some _ htab, Nat.ne_of_gt hLP, fresh _ hLP⟩
      rcases List.mem_cons.mp hq with rfl | hq
      · exact ⟨Heap.get?_push_of_some _ htb, hm.2⟩
      · obtain ⟨hq, hne⟩ := List.mem_filter.mp hq
        exact ⟨Heap.get?_push_of_some _ (hx _ _ (of_decide_eq_true hne) (N q hq).1), (N q hq).2⟩
    · rcases List.mem_cons.mp hq with rfl | hq
      · exact hlt
      rcases List.mem_cons.mp hq with rfl | hq
      · exact hlt2
      rcases List.mem_cons.mp hq with rfl | hq
      · exact Nat.lt_of_lt_of_le hPs (Nat.le_trans hge (Nat.le_of_lt hlt))
      · obtain ⟨hq, hne⟩ := List.mem_filter.mp hq
        exact Nat.lt_of_lt_of_le (Heap.lt_size (N q hq).1) (Nat.le_trans hge (Nat.le_of_lt hlt))
  · refine kdv_makeTailHit (mg := mg) hcl hge0 hgs hcd C hm.1 ht hf ⟨bm, ob, b1, b2, hbG, hbP, F.keep _ _ b3, b4, b5, b6⟩ fun ctv doc h' tk hk hsz => ?_
    have hLs' : L < h'.objs.size := Nat.lt_of_lt_of_le F.ns.lt hsz
    have lt : ∀ p ∈ news, p.1 < h'.objs.size := fun q hq => Nat.lt_of_lt_of_le (Heap.lt_size (N q hq).1) hsz
    refine h h'.objs.size c' oc ctv doc _ tk ps news ⟨(F.ns.keeps hk).push _, fun b o e => Heap.get?_push_of_some _ (hk b o (F.keep b o e)), F.above⟩ (fun q hq => ?_) .refl hP ht hf (fun _ _ => rfl) hoc hcls hrec (.inl hf) lt lt
    rcases List.mem_cons.mp hq with rfl | hq
    · exact ⟨Heap.get?_push_size _ rfl, Nat.ne_of_gt hLs', fresh _ hLs'⟩
    · exact ⟨Heap.get?_push_of_some _ (hk _ _ (N q hq).1), (N q hq).2⟩
end

theorem Ent.next {h₀ h : Heap} {L P : Addr} {news news' : Led} {ps ps' : Array Value} {pos : Pos} {q : Str} (N : News h₀ L h news) (hP : (P, tabObj ps) ∈ news) (e : Ent news ps pos q) (k : KeepBut P news news')
    (hc : codeAmong pos ps'.toList = codeAmong pos ps.toList) : Ent news' ps' pos q := by
  rcases e with e | ⟨c', oc, e1, e2, e3, e4⟩
  · exact .inl (hc.trans e)
  · exact .inr ⟨c', oc, hc.trans e1, k _ e2 (news_ne N e2 hP (cls_ne (by rw [e3]; exact fun z => nomatch z))), e3, e4⟩
theorem Ent.now {news : Led} {ps : Array Value} {pos : Pos} {q : Str} {c' : Addr} {oc : Obj} (h1 : codeAmong pos ps.toList = some (.ref c')) (h2 : (c', oc) ∈ news) (h3 : oc.cls = .type "code") (h4 : RecO oc q) : Ent news ps pos q :=
  .inr ⟨c', oc, h1, h2, h3, h4⟩
theorem Ent.mono {news news' : Led} {ps : Array Value} {pos : Pos} {q : Str} (e : Ent news ps pos q) (k : ∀ p ∈ news, p.2.cls = .type "code" → p ∈ news') : Ent news' ps pos q := by
  rcases e with e | ⟨c', oc, e1, e2, e3, e4⟩
  · exact .inl e
  · exact .inr ⟨c', oc, e1, k _ e2 e3, e3, e4⟩
section
variable {prog : Program} {w : World} {A : Around} {E : Value → Shared → Prop} {s : Shared} {h₀ : Heap} {L : Addr} {m mg mb : Str → Option Value} {news : Led}
theorem setAttr_fnA {q : Addr} {fd : FuncData} {name : Str} {v : Value} {Q : Unit → Shared → Prop} (F : Fr h₀ L s.heap m) (N : News h₀ L s.heap news) (hq : (q, (⟨.type "function", none, .func fd, #[]⟩ : Obj)) ∈ news)
    (hn : typeLookup (.type "function") name = pure none)
    (h : ∀ d h' tk hsh news', Fr h₀ L h' m → News h₀ L h' news' → (q, (⟨.type "function", some d, .func fd, #[]⟩ : Obj)) ∈ news' → (d, dictOf [⟨hsh, .str name tk, v⟩] 1) ∈ news' → KeepBut q news news' → Q () { s with heap := h', toks := tk + 1 }) :
    wpAny (model prog w) A (setAttr (.ref q) name v) Q E s := by
  have N' : News h₀ L s.heap ((q, (⟨.type "function", none, .func fd, #[]⟩ : Obj)) :: news.filter (fun p => decide (p.1 ≠ q))) := fun p hp => by
    rcases List.mem_cons.mp hp with rfl | hp
    · exact N _ hq
    · exact N p (List.mem_filter.mp hp).1
  refine FA.setAttr_fn (fd := fd) (sl := #[]) (g := fun d => (q, (⟨.type "function", some d, .func fd, #[]⟩ : Obj)) :: news.filter (fun p => decide (p.1 ≠ q))) F N' hn (fun d => Upd.head fun p hp => of_decide_eq_true (List.mem_filter.mp hp).2) fun d h' tk F' N'' _ => ?_
  exact h d h' tk _ _ F' N'' (.tail _ (.head _)) (.head _) fun p hp hne => .tail _ (.tail _ (List.mem_filter.mpr ⟨hp, decide_eq_true hne⟩))
theorem mk_lamA {M : Model} {c P : Addr} {p : Program} {loose : List Str} {mean : ExcName → Option Value} {name qual : Str} {params : Arguments} {body : FuncBody} {scope : Scope} {env : Env} {ps : Array Value} {pos : Pos} {firstLine : Nat} {clos : List (Str × Addr)} {Q : Value → Shared → Prop}
    (F : Fr h₀ L s.heap m) (N : News h₀ L s.heap news) (T : Top p loose mean mg mb h₀) (C : CodeHd s.heap c P) (hcd : env.code = .ref c) (hge0 : env.globals = mainGlobals)
    (hP : (P, tabObj ps) ∈ news) (ht : TriplesOk ps.toList) (hcl : closureFor scope env = pure clos) (he : Ent news ps pos qual)
    (h : ∀ f c' oc ctv doc h' tk ps' news', Fr h₀ L h' m → News h₀ L h' ((f, kdv_obj name qual params body scope clos .none doc ((mg "__name__").getD .none) c' ctv) :: news') → KeepBut P news news' → (P, tabObj ps') ∈ news' → TriplesOk ps'.toList →
      codeAmong pos ps'.toList = some (.ref c') → (∀ pos' : Pos, ¬ (pos'.line = pos.line ∧ pos'.col = pos.col) → codeAmong pos' ps'.toList = codeAmong pos' ps.toList) → (c', oc) ∈ news' → oc.cls = .type "code" → RecO oc qual →
      (∀ p ∈ news', p.1 < f) → (∀ p ∈ news, p.1 < f) → Q (.ref f) { s with heap := h', toks := tk }) :
    wpAny M A (makeFunction name qual params body scope env [] [] [] pos firstLine) Q E s := by
  rw [makeFunction_eq]
  simp only [List.zip_nil_right, List.filterMap_nil, List.isEmpty_nil, if_true, pure_bind]
  exact mk_fnA F N T C hcd hge0 hP ht hcl he fun f c' oc ctv doc h' tk ps' news' a1 a2 a3 a4 a5 a6 a7 a8 a9 a10 _ a12 a13 => h f c' oc ctv doc h' tk ps' news' a1 a2 a3 a4 a5 a6 a7 a8 a9 a10 a12 a13
end
end Mine
end

/-! ## LEnter -/
section
theorem Mine.startLEnter : True := by
  w_top off
  trivial
open PySem PySem.W PyProof.Rows PySem.Calls PySem.Spec
set_option Elab.async false
namespace Mine
noncomputable abbrev cellO (v : Option Value) : Obj := { cls := .type "cell", data := .cell v }
section
variable {prog : Program} {w : World} {A₀ A : Around} {s : Shared} {base h₀ : Heap} {outer : List Env} {L : Addr} {m : Str → Option Value} {env : Env} {news : Led}
  {R : Result → Shared → Prop} {name qual : Str} {params : Arguments} {body : List Stmt} {scope : Scope} {cl : List (Str × Addr)} {dV kV doc pm cdv ct : Value} {an : Option Addr} {f : Addr} {fo : Obj} {args : Args} {x1 x2 cx : Str} {v1 v2 : Value}
/-- a def of two parameters that keeps one name in a cell of its own and closes over others -/
theorem enter2 (B : Below A₀ base outer h₀) (F : Fr h₀ L s.heap m) (N : News h₀ L s.heap news) (hlim : h₀.NoLimit) (hA : A.frames = some (env :: outer)) (hf : env.frame = some L) (hke : env.scope.kind = .function)
    (ho : s.heap.get? f = some fo) (hd : fo.data = .func (fnX name qual params body scope cl dV kV doc pm an cdv ct)) (hcd : s.heap.CodeRec cdv qual) (hroom : A.depth < recursionLimit)
    (hbind : BindsTo s (fnX name qual params body scope cl dV kV doc pm an cdv ct) args [(x1, v1), (x2, v2)])
    (hl1 : scope.names.lookup x1 = some .local) (hl2 : scope.names.lookup x2 = some .local)
    (hcs : ∀ n, cellsFrom n scope.names cl = (cx, n) :: cl) (hpc : ∀ h : Heap, pushCells h scope.names = h.push (cellO none))
    (h : ∀ g L' h₁ tk, Fr h₀ L g m → Fr g L' h₁ (fun y => if y = x2 then some v2 else if y = x1 then some v1 else none) → News g L' h₁ ((L' + 1, cellO none) :: news) → Below A base (env :: outer) g → h₀.StaysIn g → (∀ p ∈ news, p.1 < L') →
      wpAny (model prog w) (A.deeper (envX qual scope L' f cdv ((cx, L' + 1) :: cl))) (execs body (envX qual scope L' f cdv ((cx, L' + 1) :: cl)))
        (fun fl s' => LeaveK h₀ L m g R (match fl with | .ret v => v | _ => .none) s') (fun _ _ => False) { s with heap := h₁, toks := tk })
    (hco : scope.isCoroutine = false) (hgen : scope.isGenerator = false) (hk : scope.kind = .function) : codeAny (model prog w) A (.call (.ref f) args) R s := by
  obtain ⟨FG, BG, st, lv⟩ := groundX (R := R) B F N hA hf hke
  refine codeAny_call_function hroom ho hd hco hgen rfl hcd (hbind _ _ _ _ ?_)
  simp only [newFunctionEnv, Option.isSome_none, Bool.false_eq_true, if_false]
  refine wpAny_bind (wpAny_alloc ?_)
  refine wpAny_bind (wpAny_layCells _ (fun name kind cells => by cases hkc : kind == NameKind.cell <;> simp [hkc]) _ _ _ _ ?_)
  rw [hcs, hpc]
  show wpAny _ _ (do
      let _ ← forIn [(x1, v1), (x2, v2)] PUnit.unit fun p r => (do storeName (envX qual scope s.heap.objs.size f cdv ((cx, (s.heap.push { cls := .type "frame", data := .dict #[] }).objs.size) :: cl)) p.1 p.2; pure (.yield PUnit.unit))
      pure (envX qual scope s.heap.objs.size f cdv ((cx, (s.heap.push { cls := .type "frame", data := .dict #[] }).objs.size) :: cl))) _ _ _
  rw [Heap.size_push]
  generalize hh : (s.heap.push { cls := .type "frame", data := .dict #[] }).push (cellO none) = h1
  have hns : h1.Ns s.heap.objs.size (fun _ => none) := by rw [← hh]; exact (Heap.Ns.new s.heap (.type "frame")).push _
  have hkp : ∀ b o, s.heap.get? b = some o → h1.get? b = some o := fun b o e => by rw [← hh]; exact Heap.get?_push_of_some _ (Heap.get?_push_of_some _ e)
  have hce : h1.get? (s.heap.objs.size + 1) = some (cellO none) := by
    rw [← hh, show s.heap.objs.size + 1 = (s.heap.push { cls := .type "frame", data := .dict #[] }).objs.size from (Heap.size_push ..).symm]; exact Heap.get?_push_size _ rfl
  clear hh
  have hp : ((envX qual scope s.heap.objs.size f cdv ((cx, s.heap.objs.size + 1) :: cl)).scope.kind == .class || ((envX qual scope s.heap.objs.size f cdv ((cx, s.heap.objs.size + 1) :: cl)).scope.kind == .module && (envX qual scope s.heap.objs.size f cdv ((cx, s.heap.objs.size + 1) :: cl)).locals != (envX qual scope s.heap.objs.size f cdv ((cx, s.heap.objs.size + 1) :: cl)).globals)) = false := by
    show (scope.kind == .class || (scope.kind == .module && _)) = false
    rw [hk]; rfl
  refine wpAny_bind ?_
  rw [List.forIn_cons]
  refine wpAny_bind (wpAny_bind (wpAny_storeName_local (env := envX qual scope s.heap.objs.size f cdv ((cx, s.heap.objs.size + 1) :: cl)) hl1 hns (fun h2 hn2 hs2 => wpAny_pure ?_) hp))
  dsimp only
  rw [List.forIn_cons]
  refine wpAny_bind (wpAny_bind (wpAny_storeName_local (env := envX qual scope s.heap.objs.size f cdv ((cx, s.heap.objs.size + 1) :: cl)) hl2 hn2 (fun h3 hn3 hs3 => wpAny_pure ?_) hp))
  dsimp only
  rw [List.forIn_nil]
  have hk3 : ∀ b o, b ≠ s.heap.objs.size → h1.get? b = some o → h3.get? b = some o := fun b o hb e => (hs3.2 b hb).trans ((hs2.2 b hb).trans e)
  have hk4 : ∀ b o, s.heap.get? b = some o → h3.get? b = some o := fun b o e => hk3 b o (Nat.ne_of_lt (Heap.lt_size e)) (hkp b o e)
  refine wpAny_pure (wpAny_pure ⟨(hlim.keeps F.keep).keeps hk4, codeAny_func ?_⟩)
  refine wpAny_mono (h _ s.heap.objs.size h3 _ FG ⟨hn3, fun b o e => hk4 b o (of_hideAll _ e), Nat.le_of_eq (hideAll_size _ _)⟩ (fun p hp => ?_) BG st (fun p hp => Heap.lt_size (N p hp).1)) (fun fl s' hl => lv _ _ hl) fun _ _ y => y.elim
  rcases List.mem_cons.mp hp with rfl | hp
  · refine ⟨hk3 _ _ (Nat.ne_of_gt (Nat.lt_succ_self _)) hce, Nat.ne_of_gt (Nat.lt_succ_self _), ?_⟩
    exact Heap.get?_none_of_le (by rw [hideAll_size]; exact Nat.le_succ _)
  · exact ⟨hk4 _ _ (N p hp).1, Nat.ne_of_lt (Heap.lt_size (N p hp).1), hideAll_none _ (List.mem_map_of_mem hp)⟩
end
end Mine
end

/-! ## LSearch -/
section
theorem Mine.startLSearch : True := by
  w_top off
  trivial
open PySem PySem.W PyProof.Rows PySem.Calls PySem.Spec
set_option Elab.async false
namespace Mine
noncomputable def noPos : Pos := ⟨0, 0, 0, 0⟩
noncomputable def stB : Stmt → List Stmt
  | .FunctionDef _ _ b _ _ _ _ _ _ _ => b
  | _ => []
noncomputable def stA : Stmt → Arguments
  | .FunctionDef _ a _ _ _ _ _ _ _ _ => a
  | _ => default
noncomputable def stS : Stmt → Scope
  | .FunctionDef _ _ _ _ _ _ s _ _ _ => s
  | _ => default
noncomputable def stV : Stmt → Expr
  | .Assign _ v _ => v
  | _ => .Name "" noPos
noncomputable def lamA : Expr → Arguments
  | .Lambda a _ _ _ => a
  | _ => default
noncomputable def lamB : Expr → Expr
  | .Lambda _ b _ _ => b
  | e => e
noncomputable def lamS : Expr → Scope
  | .Lambda _ _ s _ => s
  | _ => default
noncomputable def nth : List Stmt → Nat → Stmt
  | [], _ => .Pass noPos
  | x :: _, 0 => x
  | _ :: r, n + 1 => nth r n
noncomputable def lastD : Stmt := nth PySem.Challenge.pw_ny0043_01.main.body 11
noncomputable def searchD : Stmt := nth (stB lastD) 0
noncomputable def hitL : Expr := stV (nth (stB searchD) 2)
noncomputable def spanL : Expr := stV (nth (stB searchD) 3)
noncomputable def progL : Expr := stV (nth (stB lastD) 1)
noncomputable def pS : Pos := ⟨66, 4, 72, 18⟩
noncomputable def pL : Pos := ⟨73, 11, 73, 23⟩
noncomputable def pH : Pos := ⟨70, 14, 70, 26⟩
noncomputable def pN : Pos := ⟨71, 19, 71, 53⟩
noncomputable def qS : Str := Str.ofString "_law_last" ++ ".<locals>." ++ Str.ofString "search"
noncomputable def qI : Str := qS ++ ".<locals>." ++ "<lambda>"
noncomputable def qL : Str := Str.ofString "_law_last" ++ ".<locals>." ++ "<lambda>"

/-- the inner table -/
structure In2 (news : Led) (P2 : Addr) : Prop where
  ex : ∃ ps, (P2, tabObj ps) ∈ news ∧ TriplesOk ps.toList ∧ Ent news ps pH qI ∧ Ent news ps pN qI
/-- the closure «search» at f -/
inductive SFn (news : Led) (f P2 : Addr) (word : Str) : Prop
  | mk (cw c1 dt tw t0 doc pm ctv ow oc) (h1 : (f, kdv_obj (Str.ofString "search") qS (stA searchD) (.stmts (stB searchD)) (stS searchD) [(Str.ofString "word", cw)] (.ref dt) doc pm c1 ctv) ∈ news)
    (h2 : (cw, ow) ∈ news) (h3 : ow.data = .cell (some (.str word tw))) (h4 : (dt, kdv_tup [.int 0 t0]) ∈ news) (h5 : (c1, oc) ∈ news) (h6 : CodeO oc c1 P2) (h7 : RecO oc qS) : SFn news f P2 word
/-- what «search» hands back -/
inductive HitIn (news : Led) (v : Value) (b : Int) (word : Str) : Prop
  | mk (q d sp cb cw c4 fd hsh tk tb tw doc pm ctv ob ow oc) (h1 : v = .ref q) (h2 : (q, (⟨.type "function", some d, .func fd, #[]⟩ : Obj)) ∈ news) (h3 : (d, dictOf [⟨hsh, .str (Str.ofString "span") tk, .ref sp⟩] 1) ∈ news)
    (h4 : (sp, kdv_obj (Str.ofString "<lambda>") qI (lamA spanL) (.expr (lamB spanL)) (lamS spanL) [(Str.ofString "word", cw), (Str.ofString "begin", cb)] .none doc pm c4 ctv) ∈ news)
    (h5 : (cb, ob) ∈ news) (h6 : ob.data = .cell (some (.int b tb))) (h7 : (cw, ow) ∈ news) (h8 : ow.data = .cell (some (.str word tw))) (h9 : (c4, oc) ∈ news) (h10 : oc.cls = .type "code") (h11 : RecO oc qI) : HitIn news v b word

theorem ne_of_all {l : Led} {d e : Addr} (h : ∀ p ∈ l, p.1 < d) (hd : d ≤ e) : ∀ p ∈ l, p.1 ≠ e := fun p hp => Nat.ne_of_lt (Nat.lt_of_lt_of_le (h p hp) hd)
local macro_rules | `(tactic| k_all) => `(tactic| first | exact ne_of_all (by assumption) (Nat.le_refl _) | exact ne_of_all (by assumption) (Nat.le_succ _))
set_option maxRecDepth 100000 in
set_option maxHeartbeats 8000000 in
theorem searchK0 (w : World) (f P2 cw c1 : Addr) (dt : Addr) (tw t0 : Tok) (doc pm ctv : Value) (ow oc : Obj) (word text : Str) (t tj : Tok) (j : Int) (args : List Value)
    (hargs : args = [.str text t, .int j tj] ∨ args = [.str text t] ∧ j = 0 ∧ tj = t0)
    (hw : word.length = 1) (ht : text.length ≤ 10000) (hj : 0 ≤ j) (hj2 : j ≤ 20000) (hwd : ow.data = .cell (some (.str word tw))) (hcO : CodeO oc c1 P2) (hrO : RecO oc qS) :
    Claim w 2 f args (fun news => (f, kdv_obj (Str.ofString "search") qS (stA searchD) (.stmts (stB searchD)) (stS searchD) [(Str.ofString "word", cw)] (.ref dt) doc pm c1 ctv) ∈ news ∧ (cw, ow) ∈ news ∧ (dt, kdv_tup [.int 0 t0]) ∈ news ∧ (c1, oc) ∈ news ∧ In2 news P2)
      (fun news news' r => KeepBut P2 news news' ∧ In2 news' P2 ∧ ((Txt.find3 text word j < 0 ∧ r = .none) ∨ (0 ≤ Txt.find3 text word j ∧ HitIn news' r (Txt.find3 text word j) word))) := by
  unfold Claim
  k_fill
  intro p loose mean mg mb dp un gd cn cs a ccd cl outer A₀ base h₀ L m news s Q E B F X N T hk hd hu hpre hret
  obtain ⟨hf, hcw, hdt, hc1, hin⟩ := hpre
  refine wpAny_call ?_
  refine enter2 (x1 := Str.ofString "chars") (x2 := Str.ofString "place") (v1 := .str text t) (v2 := .int j tj) (cx := Str.ofString "begin") B F N T.nolimit rfl rfl hk (N _ hf).1 rfl (hrO.at (N _ hc1).1) (by ktr_room) ?hb rfl rfl (fun _ => rfl) (fun _ => rfl) ?_ rfl rfl rfl
  case hb =>
    rcases hargs with rfl | ⟨rfl, rfl, rfl⟩
    · exact BindsTo.of_defaults rfl (N _ hdt).1 rfl rfl rfl
    · exact BindsTo.of_defaults rfl (N _ hdt).1 rfl rfl rfl
  intro g L' h₁ tk FG F' N' B' st l1
  have X' := X.keeps st
  have T' := T.keeps st
  dsimp only [stB, stS, searchD, lastD, nth, PySem.Challenge.pw_ny0043_01]
  repeat' ((fail_if_success (with_reducible show wpAny _ _ (eval (Expr.Lambda _ _ _ _) _) _ _ _)); first | (k_unfold; (try dsimp only)) | (k_end; wrow_close) | ((with_reducible show wpAny _ _ (eval (Expr.Name _ _) _) _ _ _); kc_free; k_dflt (refine' nameX_F ?N ?c ?m ?d ?_ ?a ?b; (case a => rfl); (case b => rfl); (case N => k_asm); (case c => rfl); (case m => k_mem); (case d => assumption); k_whole)) | ((with_reducible show wpAny _ _ (storeName _ _ _) _ _ _); k_dflt (refine' storeX_C ?F ?N ?c ?U ?d ?_ ?a ?b; (case a => rfl); (case b => rfl); (case F => k_asm); (case N => k_asm); (case c => rfl); (case U => k_updF); (case d => rfl); k_whole); intro hs1 ob F1 N1 hob; (try dsimp only at N1)) | (dsimp only; walk1) | walk1)
  · exact hret _ news _ _ (by assumption) (cb_drop (by assumption) fun p hp => .tail _ hp) ⟨.refl, hin, .inl ⟨by assumption, rfl⟩⟩
  rename_i tk1 hge
  obtain ⟨ps, hps, htr, heH, heN⟩ := hin.ex
  refine kla_eval rfl ?_
  refine mk_lamA F1 N1 T' (hcO.at (N1 _ (.tail _ hc1)).1) rfl rfl (.tail _ hps) htr rfl (heH.mono fun _ h _ => .tail _ h) ?_
  intro q c3 oc3 ctv3 doc3 h3 tk3 ps3 news3 F3 N3 k3 hps3 htr3 hca3 hoth3 hoc3 hcls3 hrec3 hlt3 _
  have ne1 : L' + 1 ≠ P2 := news_ne N1 (.head _) (.tail _ hps) (fun e => by rw [e] at hob; cases hob)
  have nec : c1 ≠ P2 := news_ne N hc1 hps (cls_ne (by rw [hcO.cls]; exact fun z => nomatch z))
  have hc1' := k3 _ (.tail _ hc1) nec
  have heN3 : Ent news3 ps3 pN qI := (heN.mono fun _ h _ => List.Mem.tail (L' + 1, ob) h).next N1 (.tail _ hps) k3 (hoth3 pN (by decide))
  have heH3 : Ent news3 ps3 pH qI := .now hca3 hoc3 hcls3 hrec3
  repeat' ((fail_if_success (with_reducible show wpAny _ _ (eval (Expr.Lambda _ _ _ _) _) _ _ _)); first | (k_unfold; (try dsimp only)) | (k_end; wrow_close) | ((with_reducible show wpAny _ _ (eval (Expr.Name _ _) _) _ _ _); kc_free; k_dflt (refine' nameX_F ?N ?c ?m ?d ?_ ?a ?b; (case a => rfl); (case b => rfl); (case N => k_asm); (case c => rfl); (case m => k_mem); (case d => assumption); k_whole)) | (dsimp only; walk1) | walk1)
  refine kla_eval rfl ?_
  rename_i h4 F4 N4
  refine mk_lamA F4 N4 T' (hcO.at (N4 _ (.tail _ hc1')).1) rfl rfl (.tail _ hps3) htr3 rfl (heN3.mono fun _ h _ => .tail _ h) ?_
  intro sp c5 oc5 ctv5 doc5 h5 tk5 ps5 news5 F5 N5 k5 hps5 htr5 hca5 hoth5 hoc5 hcls5 hrec5 hlt5 hlt5'
  have nq : q ≠ P2 := Nat.ne_of_gt (hlt3 _ hps3)
  have hq5 := k5 _ (.head _) nq
  have nsq : sp ≠ q := Nat.ne_of_gt (hlt5 _ hq5)
  walk1
  refine setAttr_fnA F5 N5 (.tail _ hq5) FA.no_span ?_
  intro d h6 tk6 hsh news6 F6 N6 hq6 hd6 k6
  repeat' ((fail_if_success (with_reducible show wpAny _ _ (eval (Expr.Lambda _ _ _ _) _) _ _ _)); first | (k_unfold; (try dsimp only)) | (k_end; wrow_close) | ((with_reducible show wpAny _ _ (eval (Expr.Name _ _) _) _ _ _); kc_free; k_dflt (refine' nameX_F ?N ?c ?m ?d ?_ ?a ?b; (case a => rfl); (case b => rfl); (case N => k_asm); (case c => rfl); (case m => k_mem); (case d => assumption); k_whole)) | (dsimp only; walk1) | walk1)
  have keep5 : ∀ p ∈ (L' + 1, ob) :: news, p.1 ≠ P2 → p ∈ news5 := fun p hp hne => k5 p (.tail _ (k3 p hp hne)) hne
  have keep6 : ∀ p ∈ (L' + 1, ob) :: news, p.1 ≠ P2 → p ∈ news6 := fun p hp hne => k6 p (.tail _ (keep5 p hp hne)) (Nat.ne_of_lt (hlt3 p (k3 p hp hne)))
  have code6 : ∀ p ∈ news5, p.2.cls = .type "code" → p ∈ news6 := fun p hp hc => k6 p (.tail _ hp) (news_ne N5 (.tail _ hp) (.tail _ hq5) (cls_ne (by rw [hc]; exact (by decide : Value.type "code" ≠ Value.type "function"))))
  have ncw : cw ≠ P2 := news_ne N hcw hps (fun e => by rw [e] at hwd; cases hwd)
  have hsp : (sp, kdv_obj (Str.ofString "<lambda>") qI (lamA spanL) (.expr (lamB spanL)) (lamS spanL) [(Str.ofString "word", cw), (Str.ofString "begin", L' + 1)] .none doc5 ((mg "__name__").getD .none) c5 ctv5) ∈ news6 := k6 _ (.head _) nsq
  refine hret _ news6 _ _ (by assumption) (by assumption) ⟨fun p hp hne => keep6 p (.tail _ hp) hne, ⟨ps5, k6 _ (.tail _ hps5) (Ne.symm nq), htr5, ?_, ?_⟩, .inr ⟨by omega, ?_⟩⟩
  · exact ((heH3.mono fun _ h _ => List.Mem.tail _ h).next N4 (.tail _ hps3) k5 (hoth5 pH (by decide))).mono code6
  · exact .now hca5 (code6 _ hoc5 hcls5) hcls5 hrec5
  · exact ⟨q, d, sp, L' + 1, cw, c5, _, hsh, tk6, _, tw, _, _, _, ob, ow, oc5, rfl, hq6, hd6, hsp, keep6 _ (.head _) ne1, hob, keep6 _ (.tail _ hcw) ncw, hwd, code6 _ hoc5 hcls5, hcls5, hrec5⟩
end Mine
end

/-! ## LSpan -/
section
theorem Mine.startLSpan : True := by
  w_top off
  trivial
open PySem PySem.W PyProof.Rows PySem.Calls PySem.Spec
set_option Elab.async false
namespace Mine
section
variable {prog : Program} {w : World} {A A₀ : Around} {s : Shared} {L : Addr} {h₀ base : Heap} {m : Str → Option Value} {news : Led}
theorem enterL {env : Env} {outer : List Env} {R : Result → Shared → Prop} {name qual : Str} {params : Arguments} {body : Expr} {scope : Scope} {cl : List (Str × Addr)} {dV doc pm ctv : Value} {c' : Addr} {f : Addr} {args : Args}
    (B : Below A₀ base outer h₀) (F : Fr h₀ L s.heap m) (N : News h₀ L s.heap news) (hlim : h₀.NoLimit) (hA : A.frames = some (env :: outer)) (hf : env.frame = some L) (hke : env.scope.kind = .function)
    (ho : (f, kdv_obj name qual params (.expr body) scope cl dV doc pm c' ctv) ∈ news) (hcd : s.heap.CodeRec (.ref c') qual) (hroom : A.depth < recursionLimit)
    (hbind : bindArgs (kdv_fn name qual params (.expr body) scope cl dV doc pm (.ref c') ctv) args = pure [])
    (h : ∀ g L' h₁, Fr h₀ L g m → Fr g L' h₁ (fun _ => none) → News g L' h₁ news → Below A base (env :: outer) g → h₀.StaysIn g → (∀ p ∈ news, p.1 < L') →
      wpAny (model prog w) (A.deeper (envX qual scope L' f (.ref c') cl)) (eval body (envX qual scope L' f (.ref c') cl))
        (fun v s' => LeaveK h₀ L m g R v s') (fun _ _ => False) { s with heap := h₁ })
    (hco : scope.isCoroutine = false) (hgen : scope.isGenerator = false) (hk : scope.kind = .function)
    (hcell : ∀ x ∈ scope.names, x.2 ≠ .cell) : codeAny (model prog w) A (.call (.ref f) args) R s := by
  obtain ⟨FG, BG, st, lv⟩ := groundX (R := R) B F N hA hf hke
  refine kla_callFunE hroom (N _ ho).1 rfl hco hgen rfl hcd ?_
  rw [hbind]
  refine wpAny_pure (wpAny_newFunctionEnv hcell (fun _ h => nomatch h) (fun h₁ hns hsb => ⟨(hlim.keeps F.keep).fresh _ hsb, ?_⟩) hk)
  show codeAny _ _ (.expr body (envX qual scope s.heap.objs.size f (.ref c') cl)) _ _
  have hk₁ : ∀ b o, s.heap.get? b = some o → h₁.get? b = some o := fun b o e => hsb.extBut b o (Nat.ne_of_lt (Heap.lt_size e)) (Heap.get?_push_of_some _ e)
  exact kla_codeExpr (wpAny_mono (h _ s.heap.objs.size h₁ FG ⟨hns, fun b o e => hk₁ b o (of_hideAll _ e), Nat.le_of_eq (hideAll_size _ _)⟩
    (fun p hp => ⟨hk₁ _ _ (N p hp).1, Nat.ne_of_lt (Heap.lt_size (N p hp).1), hideAll_none _ (List.mem_map_of_mem hp)⟩) BG st (fun p hp => Heap.lt_size (N p hp).1)) (fun v s' hl => lv _ _ hl) fun _ _ y => y.elim)
end
set_option maxRecDepth 100000 in
set_option maxHeartbeats 8000000 in
theorem spanK0 (w : World) (sp cb cw c4 : Addr) (tb tw : Tok) (doc pm ctv : Value) (ob ow oc : Obj) (word : Str) (b : Int) (hw : word.length = 1)
    (hob : ob.data = .cell (some (.int b tb))) (how : ow.data = .cell (some (.str word tw))) (hrO : RecO oc qI) :
    Claim w 2 sp [] (fun news => (sp, kdv_obj (Str.ofString "<lambda>") qI (lamA spanL) (.expr (lamB spanL)) (lamS spanL) [(Str.ofString "word", cw), (Str.ofString "begin", cb)] .none doc pm c4 ctv) ∈ news ∧ (cb, ob) ∈ news ∧ (cw, ow) ∈ news ∧ (c4, oc) ∈ news)
      (fun news news' r => ∃ T t1 t2, r = .ref T ∧ news' = (T, tupO [.int b t1, .int (b + 1) t2]) :: news) := by
  unfold Claim
  k_fill
  intro p loose mean mg mb dp un gd cn cs a ccd cl outer A₀ base h₀ L m news s Q E B F X N T hk hd hu hpre hret
  obtain ⟨hf, hcb, hcw, hc4⟩ := hpre
  refine wpAny_call ?_
  refine enterL B F N T.nolimit rfl rfl hk hf (hrO.at (N _ hc4).1) (by ktr_room) rfl ?_ rfl rfl rfl (by decide)
  intro g L' h₁ FG F' N' B' st l1
  have X' := X.keeps st
  have T' := T.keeps st
  dsimp only [lamB, lamS, spanL, stV, stB, stS, searchD, lastD, nth, PySem.Challenge.pw_ny0043_01]
  repeat' (first | (k_unfold; (try dsimp only)) | (k_end; wrow_close) | ((with_reducible show wpAny _ _ (eval (Expr.Name _ _) _) _ _ _); kc_free; k_dflt (refine' nameX_F ?N ?c ?m ?d ?_ ?a ?b; (case a => rfl); (case b => rfl); (case N => k_asm); (case c => rfl); (case m => k_mem); (case d => assumption); k_whole)) | walk1 | (dsimp only; walk1) | (leave1; try dsimp only))
  refine hret _ _ _ _ (by assumption) (by assumption) ⟨_, tb, s.toks + 1 + 1, rfl, by rw [hw]; rfl⟩
theorem spanK (w : World) {q : Addr} {news₀ : Led} {word : Str} {b : Int} (hw : word.length = 1) (hit : HitIn news₀ (.ref q) b word) :
    ∃ d fd hsh tk sp, (q, (⟨.type "function", some d, .func fd, #[]⟩ : Obj)) ∈ news₀ ∧ (d, dictOf [⟨hsh, .str (Str.ofString "span") tk, .ref sp⟩] 1) ∈ news₀ ∧ (∃ fd', (sp, (⟨.type "function", none, .func fd', #[]⟩ : Obj)) ∈ news₀) ∧
      Claim w 2 sp [] (fun news => ∀ p ∈ news₀, p ∈ news) (fun news news' r => ∃ T t1 t2, r = .ref T ∧ news' = (T, tupO [.int b t1, .int (b + 1) t2]) :: news) := by
  obtain ⟨q', d, sp, cb, cw, c4, fd, hsh, tk, tb, tw, doc, pm, ctv, ob, ow, oc, e, h1, h2, h3, h4, h5, h6, h7, h8, _, h9⟩ := hit
  cases e
  refine ⟨d, fd, hsh, tk, sp, h1, h2, ⟨_, h3⟩, ?_⟩
  intro p loose mean mg mb dp un gd cn cs a ccd cl outer A₀ base h₀ L m news s Q E B F X N T hk hd hu hpre hret
  exact spanK0 w sp cb cw c4 tb tw doc pm ctv ob ow oc word b hw h5 h7 h9 p loose mean mg mb dp un gd cn cs a ccd cl outer A₀ base h₀ L m news s Q E B F X N T hk hd hu ⟨hpre _ h3, hpre _ h4, hpre _ h6, hpre _ h8⟩ hret
end Mine
end

/-! ## LRev -/
section
theorem Mine.startLRev : True := by
  w_top off
  trivial
open PySem PySem.W PyProof.Rows PySem.Calls PySem.Spec
set_option Elab.async false
namespace Mine
theorem searchK (w : World) {f P2 : Addr} {word text : Str} {t : Tok} {j : Int} {args : List Value}
    (hargs : (∃ tj, args = [.str text t, .int j tj]) ∨ args = [.str text t] ∧ j = 0) (hw : word.length = 1) (ht : text.length ≤ 10000) (hj : 0 ≤ j) (hj2 : j ≤ 20000) :
    Claim w 2 f args (fun news => SFn news f P2 word ∧ In2 news P2)
      (fun news news' r => KeepBut P2 news news' ∧ In2 news' P2 ∧ ((Txt.find3 text word j < 0 ∧ r = .none) ∨ (0 ≤ Txt.find3 text word j ∧ HitIn news' r (Txt.find3 text word j) word))) := by
  intro p loose mean mg mb dp un gd cn cs a ccd cl outer A₀ base h₀ L m news s Q E B F X N T hk hd hu hpre hret
  obtain ⟨⟨cw, c1, dt, tw, t0, doc, pm, ctv, ow, oc, h1, h2, h3, h4, h5, h6, h7⟩, hin⟩ := hpre
  obtain ⟨tj, hx⟩ : ∃ tj, args = [.str text t, .int j tj] ∨ args = [.str text t] ∧ j = 0 ∧ tj = t0 := by
    rcases hargs with ⟨tj, h⟩ | ⟨h, e⟩
    · exact ⟨tj, .inl h⟩
    · exact ⟨t0, .inr ⟨h, e, rfl⟩⟩
  exact searchK0 w f P2 cw c1 dt tw t0 doc pm ctv ow oc word text t tj j args hx hw ht hj hj2 h3 h6 h7 p loose mean mg mb dp un gd cn cs a ccd cl outer A₀ base h₀ L m news s Q E B F X N T hk hd hu ⟨h1, h2, h4, h5, hin⟩ hret
theorem SFn.keep {h₀ h : Heap} {L f P2 : Addr} {news news' : Led} {word : Str} (x : SFn news f P2 word) (N : News h₀ L h news) (hin : In2 news P2) (k : KeepBut P2 news news') : SFn news' f P2 word := by
  obtain ⟨cw, c1, dt, tw, t0, doc, pm, ctv, ow, oc, h1, h2, h3, h4, h5, h6, h7⟩ := x
  obtain ⟨ps, hps, _⟩ := hin.ex
  exact ⟨cw, c1, dt, tw, t0, doc, pm, ctv, ow, oc, k _ h1 (news_ne N h1 hps (cls_ne (fun z => nomatch z))), k _ h2 (news_ne N h2 hps (fun e => by rw [e] at h3; cases h3)), h3,
    k _ h4 (news_ne N h4 hps (cls_ne (fun z => nomatch z))), k _ h5 (news_ne N h5 hps (cls_ne (by rw [h6.cls]; exact fun z => nomatch z))), h6, h7⟩
theorem HitIn.keep {h₀ h : Heap} {L P2 : Addr} {news news' : Led} {word : Str} {v : Value} {b : Int} (x : HitIn news v b word) (N : News h₀ L h news) (hin : In2 news P2) (k : KeepBut P2 news news') : HitIn news' v b word := by
  obtain ⟨q, d, sp, cb, cw, c4, fd, hsh, tk, tb, tw, doc, pm, ctv, ob, ow, oc, e, h1, h2, h3, h4, h5, h6, h7, h8, h9, h10⟩ := x
  obtain ⟨ps, hps, _⟩ := hin.ex
  exact ⟨q, d, sp, cb, cw, c4, fd, hsh, tk, tb, tw, doc, pm, ctv, ob, ow, oc, e, k _ h1 (news_ne N h1 hps (cls_ne (fun z => nomatch z))), k _ h2 (news_ne N h2 hps (cls_ne (fun z => nomatch z))), k _ h3 (news_ne N h3 hps (cls_ne (fun z => nomatch z))),
    k _ h4 (news_ne N h4 hps (fun e => by rw [e] at h5; cases h5)), h5, k _ h6 (news_ne N h6 hps (fun e => by rw [e] at h7; cases h7)), h7, k _ h8 (news_ne N h8 hps (cls_ne (by rw [h9]; exact fun z => nomatch z))), h9, h10⟩
theorem In2.mono {news news' : Led} {P2 : Addr} (x : In2 news P2) (k : ∀ p ∈ news, p ∈ news') : In2 news' P2 := by
  obtain ⟨ps, h1, h2, h3, h4⟩ := x.ex
  exact ⟨ps, k _ h1, h2, h3.mono fun p hp _ => k p hp, h4.mono fun p hp _ => k p hp⟩

/-- the object «prog»: a function whose one attribute is «search» -/
noncomputable def PFn (news : Led) (pr f : Addr) : Prop := ∃ d fd hsh tk, (pr, (⟨.type "function", some d, .func fd, #[]⟩ : Obj)) ∈ news ∧ (d, dictOf [⟨hsh, .str (Str.ofString "search") tk, .ref f⟩] 1) ∈ news
theorem PFn.keep {h₀ h : Heap} {L pr f P2 : Addr} {news news' : Led} (x : PFn news pr f) (N : News h₀ L h news) (hin : In2 news P2) (k : KeepBut P2 news news') : PFn news' pr f := by
  obtain ⟨d, fd, hsh, tk, h1, h2⟩ := x
  obtain ⟨ps, hps, _⟩ := hin.ex
  exact ⟨d, fd, hsh, tk, k _ h1 (news_ne N h1 hps (cls_ne (fun z => nomatch z))), k _ h2 (news_ne N h2 hps (cls_ne (fun z => nomatch z)))⟩

/-- r is the last place of c ahead of col, or -1 -/
noncomputable def Last (l : List Nat) (c : Nat) (col r : Int) : Prop :=
  (r = -1 ∧ ∀ k : Nat, l[k]? = some c → ¬ (k : Int) < col) ∨ ∃ k : Nat, r = k ∧ l[k]? = some c ∧ (k : Int) < col ∧ ∀ k' : Nat, k < k' → l[k']? = some c → ¬ (k' : Int) < col

structure SR where
  nw : Led
  i : Nat
  q : Addr
  vf : Value
  ti : Tok
  tj : Tok
structure FactsSR (news : Led) (P2 f pr : Addr) (text : Str) (c : Nat) (col : Int) (x : SR) : Prop where
  keep : KeepBut P2 news x.nw
  inn : In2 x.nw P2
  sf : SFn x.nw f P2 ⟨#[c]⟩
  pf : PFn x.nw pr f
  hit : HitIn x.nw (.ref x.q) x.i ⟨#[c]⟩
  occ : text.cps.toList[x.i]? = some c
  fb : (x.vf = .none ∧ ∀ k, k < x.i → text.cps.toList[k]? ≠ some c) ∨ ∃ b : Nat, HitIn x.nw x.vf b ⟨#[c]⟩ ∧ text.cps.toList[b]? = some c ∧ b < x.i ∧ (b : Int) < col ∧ ∀ k, b < k → k < x.i → text.cps.toList[k]? ≠ some c
theorem last_exit {news : Led} {P2 f pr : Addr} {text : Str} {c : Nat} {col : Int} {x : SR} (h : FactsSR news P2 f pr text c col x) (hi : ¬ (x.i : Int) < col) :
    ∃ y, Last text.cps.toList c col y ∧ ((y = -1 ∧ x.vf = .none) ∨ (0 ≤ y ∧ HitIn x.nw x.vf y ⟨#[c]⟩)) := by
  rcases h.fb with ⟨e, hn⟩ | ⟨b, hb, ho, hlt, hc, hn⟩
  · refine ⟨-1, .inl ⟨rfl, fun k hk hlt => ?_⟩, .inl ⟨rfl, e⟩⟩
    exact hn k (by (first | lia | omega)) hk
  · refine ⟨b, .inr ⟨b, rfl, ho, hc, fun k' hk ho' hl => ?_⟩, .inr ⟨by (first | lia | omega), hb⟩⟩
    exact hn k' hk (by (first | lia | omega)) ho'
theorem lt_of_occ {text : Str} {i c : Nat} (h : text.cps.toList[i]? = some c) : i < text.length := by
  have := (List.getElem?_eq_some_iff.mp h).1
  simpa [PySem.Str.length] using this
set_option maxRecDepth 100000 in
set_option maxHeartbeats 8000000 in
theorem revK (w : World) (pr f P2 : Addr) (word text : Str) (t tc : Tok) (col : Int) (c : Nat) (hw : word = ⟨#[c]⟩) (ht : text.length ≤ 10000) :
    Claim w 4 42 [.ref pr, .str text t, .int col tc] (fun news => PFn news pr f ∧ SFn news f P2 word ∧ In2 news P2)
      (fun news news' r => KeepBut P2 news news' ∧ In2 news' P2 ∧ ∃ x, Last text.cps.toList c col x ∧ ((x = -1 ∧ r = .none) ∨ (0 ≤ x ∧ HitIn news' r x word))) := by
  unfold Claim
  k_fill
  intro p loose mean mg mb dp un gd cn cs a ccd cl outer A₀ base h₀ L m news s Q E B F X N T hk hd hu hpre hret
  obtain ⟨hP, hS, hin⟩ := hpre
  refine wpAny_call ?_
  k_dflt cell_enter
  rename_i g L1 h1 FG F1 N1 B1 X1 T1
  replace F1 : Fr g L1 h1 (fun y => List.lookup y [(Str.ofString "col", Value.int col tc), (Str.ofString "chars", .str text t), (Str.ofString "prog", .ref pr)]) := F1
  refine wpAny_mono (E := fun _ _ => False) ?_ (fun _ _ h => h) (fun _ _ h => h.elim)
  (repeat' ((fail_if_success (first | (with_reducible show wpAny _ _ (eval (Expr.Lambda _ _ _ _) _) _ _ _) | (with_reducible show wpAny _ _ (getMethod (Value.ref _) _ _) _ _ _) | (with_reducible show wpAny _ _ (call (Value.ref _) _ _) _ _ _) | (with_reducible show wpAny _ _ (callWith _ (Value.ref _) _ _ _) _ _ _) | (with_reducible show wpAny _ _ (truthy (Value.ref _)) _ _ _) | (with_reducible show _ ∧ _) | (with_reducible show wpAny _ _ (exec (Stmt.While _ _ _ _) _) _ _ _))); first | (k_unfold; (try dsimp only)) | (k_end; wrow_close) | (dsimp only; walk1) | walk1))
  obtain ⟨d, fd, hsh, tkp, hp1, hp2⟩ := id hP
  refine FA.getMethod_fn (N1 _ hp1).1 (N1 _ hp2).1 rfl FA.no_search ?_ (by intro id h; cases h)
  dsimp only
  have hfm : ∃ ob : Obj, (f, ob) ∈ news ∧ ∃ oc od fd sl, ob = ⟨oc, od, .func fd, sl⟩ := by
    obtain ⟨cw, c1, dt, tw, t0, doc, pm, ctv, ow, oc, h1, _⟩ := hS
    exact ⟨_, h1, _, _, _, _, rfl⟩
  obtain ⟨obf, hfm, o1, o2, o3, o4, rfl⟩ := hfm
  refine callWith_F (FnAt.of N1 hfm) ?_
  (repeat' ((fail_if_success (first | (with_reducible show wpAny _ _ (eval (Expr.Lambda _ _ _ _) _) _ _ _) | (with_reducible show wpAny _ _ (getMethod (Value.ref _) _ _) _ _ _) | (with_reducible show wpAny _ _ (call (Value.ref _) _ _) _ _ _) | (with_reducible show wpAny _ _ (callWith _ (Value.ref _) _ _ _) _ _ _) | (with_reducible show wpAny _ _ (truthy (Value.ref _)) _ _ _) | (with_reducible show _ ∧ _) | (with_reducible show wpAny _ _ (exec (Stmt.While _ _ _ _) _) _ _ _))); first | (k_unfold; (try dsimp only)) | (k_end; wrow_close) | (dsimp only; walk1) | walk1))
  refine ⟨FnAt.of N1 hfm, ?_⟩
  refine searchK w (word := word) (text := text) (P2 := P2) (j := 0) (.inr ⟨rfl, rfl⟩) (by rw [hw]; rfl) ht (by decide) (by decide) _ _ _ _ _ _ _ _ _ _ _ _ _ _ _ _ _ _ _ _ _ _ _ B1 F1 X1 N1 T1 rfl (by ktr_room) (by ktr_units) ⟨hS, hin⟩ ?_
  intro r news2 h2 tk2 F2 N2 ⟨k2, hin2, hr⟩
  subst hw
  have hspec := find3_spec text c 0 (by decide)
  rcases hr with ⟨hlt, rfl⟩ | ⟨hge, hit⟩
  · (repeat' ((fail_if_success (first | (with_reducible show wpAny _ _ (eval (Expr.Lambda _ _ _ _) _) _ _ _) | (with_reducible show wpAny _ _ (getMethod (Value.ref _) _ _) _ _ _) | (with_reducible show wpAny _ _ (call (Value.ref _) _ _) _ _ _) | (with_reducible show wpAny _ _ (callWith _ (Value.ref _) _ _ _) _ _ _) | (with_reducible show wpAny _ _ (truthy (Value.ref _)) _ _ _) | (with_reducible show _ ∧ _) | (with_reducible show wpAny _ _ (exec (Stmt.While _ _ _ _) _) _ _ _))); first | (k_unfold; (try dsimp only)) | (k_end; wrow_close) | (dsimp only; walk1) | walk1))
    refine hret _ news2 _ _ (by assumption) (by assumption) ⟨k2, hin2, -1, .inl ⟨rfl, fun k hk => ?_⟩, .inl ⟨rfl, rfl⟩⟩
    rcases hspec with ⟨_, h⟩ | ⟨k, h, _⟩
    · exact absurd hk (h k (Int.natCast_nonneg k))
    · (first | lia | omega)
  obtain ⟨i0, hi0, _, hoc0, hno0⟩ : ∃ k : Nat, Txt.find3 text ⟨#[c]⟩ 0 = k ∧ (0 : Int) ≤ k ∧ text.cps.toList[k]? = some c ∧ ∀ k' : Nat, (0 : Int) ≤ k' → k' < k → text.cps.toList[k']? ≠ some c := by
    rcases hspec with ⟨h, _⟩ | h
    · (first | lia | omega)
    · exact h
  rw [hi0] at hit
  clear hspec hge hi0
  obtain ⟨q, rfl⟩ : ∃ q, r = .ref q := by
    obtain ⟨q, _, _, _, _, _, _, _, _, _, _, _, _, _, _, _, _, e, _⟩ := hit
    exact ⟨q, e⟩
  (repeat' ((fail_if_success (first | (with_reducible show wpAny _ _ (eval (Expr.Lambda _ _ _ _) _) _ _ _) | (with_reducible show wpAny _ _ (getMethod (Value.ref _) _ _) _ _ _) | (with_reducible show wpAny _ _ (call (Value.ref _) _ _) _ _ _) | (with_reducible show wpAny _ _ (callWith _ (Value.ref _) _ _ _) _ _ _) | (with_reducible show wpAny _ _ (truthy (Value.ref _)) _ _ _) | (with_reducible show _ ∧ _) | (with_reducible show wpAny _ _ (exec (Stmt.While _ _ _ _) _) _ _ _))); first | (k_unfold; (try dsimp only)) | (k_end; wrow_close) | (dsimp only; walk1) | walk1))
  obtain ⟨d2, fd2, hsh2, tkp2, sp2, hq2, hd2, ⟨fs2, hspm⟩, spK⟩ := spanK w (by rfl) hit
  rename_i h3 F3 N3
  refine FA.truthy_fn ⟨_, (N3 _ hq2).1, rfl⟩ ?_
  (repeat' ((fail_if_success (first | (with_reducible show wpAny _ _ (eval (Expr.Lambda _ _ _ _) _) _ _ _) | (with_reducible show wpAny _ _ (getMethod (Value.ref _) _ _) _ _ _) | (with_reducible show wpAny _ _ (call (Value.ref _) _ _) _ _ _) | (with_reducible show wpAny _ _ (callWith _ (Value.ref _) _ _ _) _ _ _) | (with_reducible show wpAny _ _ (truthy (Value.ref _)) _ _ _) | (with_reducible show _ ∧ _) | (with_reducible show wpAny _ _ (exec (Stmt.While _ _ _ _) _) _ _ _))); first | (k_unfold; (try dsimp only)) | (k_end; wrow_close) | (dsimp only; walk1) | walk1))
  rename_i h4 F4 N4
  refine FA.getMethod_fn (N4 _ hq2).1 (N4 _ hd2).1 rfl FA.no_span ?_ (by intro id h; cases h)
  dsimp only
  refine callWith_F0 (FnAt.of N4 hspm) ?_
  refine spK _ _ _ _ _ _ _ _ _ _ _ _ _ _ _ _ _ _ _ _ _ _ _ B1 F4 X1 N4 T1 rfl (by ktr_room) (by ktr_units) (fun _ h => h) ?_
  rintro r5 news5 h5 tk5 F5 N5 ⟨Tu, t1, t2, rfl, rfl⟩
  (repeat' ((fail_if_success (first | (with_reducible show wpAny _ _ (eval (Expr.Lambda _ _ _ _) _) _ _ _) | (with_reducible show wpAny _ _ (getMethod (Value.ref _) _ _) _ _ _) | (with_reducible show wpAny _ _ (call (Value.ref _) _ _) _ _ _) | (with_reducible show wpAny _ _ (callWith _ (Value.ref _) _ _ _) _ _ _) | (with_reducible show wpAny _ _ (truthy (Value.ref _)) _ _ _) | (with_reducible show _ ∧ _) | (with_reducible show wpAny _ _ (exec (Stmt.While _ _ _ _) _) _ _ _))); first | (k_unfold; (try dsimp only)) | (k_end; wrow_close) | (dsimp only; walk1) | walk1))
  rename_i h6 F6 N6
  refine ksw_while (σ := SR) (fun c => c.nw) (fun c => [(Str.ofString "m", .ref c.q), (Str.ofString "found", c.vf), (Str.ofString "i", .int c.i c.ti), (Str.ofString "j", .int (c.i + 1) c.tj)]) (FactsSR news P2 f pr text c col)
    [Str.ofString "m", Str.ofString "found", Str.ofString "i", Str.ofString "j"] (fun _ => True) (fun c => text.length - c.i) ⟨news2, i0, q, .none, t1, t2⟩ F6 (cb_drop N6 fun p hp => .tail _ hp)
    ⟨k2, hin2, hS.keep N hin k2, hP.keep N hin k2, hit, hoc0, .inl ⟨rfl, fun k hk => hno0 k (Int.natCast_nonneg k) hk⟩⟩ ?hk trivial ?turn (fun _ _ h => h.elim)
  case hk =>
    intro p hp
    simp only [List.mem_cons, List.not_mem_nil, or_false] at hp
    rcases hp with rfl | rfl | rfl | rfl <;> rfl
  case turn =>
    intro x u h7 tk7 hfx _ F7 N7
    clear F6 N6 hit hS hP
    (repeat' ((fail_if_success (first | (with_reducible show wpAny _ _ (eval (Expr.Lambda _ _ _ _) _) _ _ _) | (with_reducible show wpAny _ _ (getMethod (Value.ref _) _ _) _ _ _) | (with_reducible show wpAny _ _ (call (Value.ref _) _ _) _ _ _) | (with_reducible show wpAny _ _ (callWith _ (Value.ref _) _ _ _) _ _ _) | (with_reducible show wpAny _ _ (truthy (Value.ref _)) _ _ _) | (with_reducible show _ ∧ _) | (with_reducible show wpAny _ _ (exec (Stmt.While _ _ _ _) _) _ _ _))); first | (k_unfold; (try dsimp only)) | (k_end; wrow_close) | (dsimp only; walk1) | walk1))
    · exfalso; (first | lia | omega)
    rotate_left
    · exact hret _ x.nw _ _ (by assumption) (by assumption) ⟨hfx.keep, hfx.inn, last_exit hfx (by assumption)⟩
    rename_i hcol h8 F8 N8 _
    have hxi := lt_of_occ hfx.occ
    obtain ⟨d, fd, hsh, tkp, hp1, hp2⟩ := id hfx.pf
    refine FA.getMethod_fn (N8 _ hp1).1 (N8 _ hp2).1 rfl FA.no_search ?_ (by intro id h; cases h)
    dsimp only
    have hfm : ∃ ob : Obj, (f, ob) ∈ x.nw ∧ ∃ oc od fd sl, ob = ⟨oc, od, .func fd, sl⟩ := by
      obtain ⟨cw, c1, dt, tw, t0, doc, pm, ctv, ow, oc, h1, _⟩ := hfx.sf
      exact ⟨_, h1, _, _, _, _, rfl⟩
    obtain ⟨obf, hfm, o1, o2, o3, o4, rfl⟩ := hfm
    refine callWith_F (FnAt.of N8 hfm) ?_
    (repeat' ((fail_if_success (first | (with_reducible show wpAny _ _ (eval (Expr.Lambda _ _ _ _) _) _ _ _) | (with_reducible show wpAny _ _ (getMethod (Value.ref _) _ _) _ _ _) | (with_reducible show wpAny _ _ (call (Value.ref _) _ _) _ _ _) | (with_reducible show wpAny _ _ (callWith _ (Value.ref _) _ _ _) _ _ _) | (with_reducible show wpAny _ _ (truthy (Value.ref _)) _ _ _) | (with_reducible show _ ∧ _) | (with_reducible show wpAny _ _ (exec (Stmt.While _ _ _ _) _) _ _ _))); first | (k_unfold; (try dsimp only)) | (k_end; wrow_close) | (dsimp only; walk1) | walk1))
    refine ⟨FnAt.of N8 hfm, ?_⟩
    refine searchK w (word := ⟨#[c]⟩) (text := text) (P2 := P2) (j := (x.i : Int) + 1) (.inl ⟨_, rfl⟩) rfl ht (by (first | lia | omega)) (by (first | lia | omega)) _ _ _ _ _ _ _ _ _ _ _ _ _ _ _ _ _ _ _ _ _ _ _ B1 F8 X1 N8 T1 rfl (by ktr_room) (by ktr_units) ⟨hfx.sf, hfx.inn⟩ ?_
    intro r news9 h9 tk9 F9 N9 ⟨k9, hin9, hr⟩
    have hit9 := hfx.hit.keep N8 hfx.inn k9
    have sf9 := hfx.sf.keep N8 hfx.inn k9
    have pf9 := hfx.pf.keep N8 hfx.inn k9
    have hspec := find3_spec text c ((x.i : Int) + 1) (by (first | lia | omega))
    rcases hr with ⟨hlt, rfl⟩ | ⟨hge, hit⟩
    · (repeat' ((fail_if_success (first | (with_reducible show wpAny _ _ (eval (Expr.Lambda _ _ _ _) _) _ _ _) | (with_reducible show wpAny _ _ (getMethod (Value.ref _) _ _) _ _ _) | (with_reducible show wpAny _ _ (call (Value.ref _) _ _) _ _ _) | (with_reducible show wpAny _ _ (callWith _ (Value.ref _) _ _ _) _ _ _) | (with_reducible show wpAny _ _ (truthy (Value.ref _)) _ _ _) | (with_reducible show _ ∧ _) | (with_reducible show wpAny _ _ (exec (Stmt.While _ _ _ _) _) _ _ _))); first | (k_unfold; (try dsimp only)) | (k_end; wrow_close) | (dsimp only; walk1) | walk1))
      refine hret _ news9 _ _ (by assumption) (by assumption) ⟨hfx.keep.trans k9, hin9, x.i, .inr ⟨x.i, rfl, hfx.occ, hcol, fun k' hk ho' hl => ?_⟩, .inr ⟨by (first | lia | omega), hit9⟩⟩
      rcases hspec with ⟨_, h⟩ | ⟨k, h, _⟩
      · exact h k' (by (first | lia | omega)) ho'
      · (first | lia | omega)
    obtain ⟨i1, hi1, hij, hoc1, hno1⟩ : ∃ k : Nat, Txt.find3 text ⟨#[c]⟩ ((x.i : Int) + 1) = k ∧ (x.i : Int) + 1 ≤ k ∧ text.cps.toList[k]? = some c ∧ ∀ k' : Nat, (x.i : Int) + 1 ≤ k' → k' < k → text.cps.toList[k']? ≠ some c := by
      rcases hspec with ⟨h, _⟩ | h
      · (first | lia | omega)
      · exact h
    rw [hi1] at hit
    clear hspec hge hi1
    obtain ⟨q', rfl⟩ : ∃ q, r = .ref q := by
      obtain ⟨q, _, _, _, _, _, _, _, _, _, _, _, _, _, _, _, _, e, _⟩ := hit
      exact ⟨q, e⟩
    (repeat' ((fail_if_success (first | (with_reducible show wpAny _ _ (eval (Expr.Lambda _ _ _ _) _) _ _ _) | (with_reducible show wpAny _ _ (getMethod (Value.ref _) _ _) _ _ _) | (with_reducible show wpAny _ _ (call (Value.ref _) _ _) _ _ _) | (with_reducible show wpAny _ _ (callWith _ (Value.ref _) _ _ _) _ _ _) | (with_reducible show wpAny _ _ (truthy (Value.ref _)) _ _ _) | (with_reducible show _ ∧ _) | (with_reducible show wpAny _ _ (exec (Stmt.While _ _ _ _) _) _ _ _))); first | (k_unfold; (try dsimp only)) | (k_end; wrow_close) | (dsimp only; walk1) | walk1))
    obtain ⟨d2, fd2, hsh2, tkp2, sp2, hq2, hd2, ⟨fs2, hspm⟩, spK⟩ := spanK w (by rfl) hit
    rename Fr g L1 _ _ => F10
    rename News g L1 _ _ => N10
    refine FA.truthy_fn ⟨_, (N10 _ hq2).1, rfl⟩ ?_
    (repeat' ((fail_if_success (first | (with_reducible show wpAny _ _ (eval (Expr.Lambda _ _ _ _) _) _ _ _) | (with_reducible show wpAny _ _ (getMethod (Value.ref _) _ _) _ _ _) | (with_reducible show wpAny _ _ (call (Value.ref _) _ _) _ _ _) | (with_reducible show wpAny _ _ (callWith _ (Value.ref _) _ _ _) _ _ _) | (with_reducible show wpAny _ _ (truthy (Value.ref _)) _ _ _) | (with_reducible show _ ∧ _) | (with_reducible show wpAny _ _ (exec (Stmt.While _ _ _ _) _) _ _ _))); first | (k_unfold; (try dsimp only)) | (k_end; wrow_close) | (dsimp only; walk1) | walk1))
    rename Fr g L1 _ _ => F11
    rename News g L1 _ _ => N11
    refine FA.getMethod_fn (N11 _ hq2).1 (N11 _ hd2).1 rfl FA.no_span ?_ (by intro id h; cases h)
    dsimp only
    refine callWith_F0 (FnAt.of N11 hspm) ?_
    refine spK _ _ _ _ _ _ _ _ _ _ _ _ _ _ _ _ _ _ _ _ _ _ _ B1 F11 X1 N11 T1 rfl (by ktr_room) (by ktr_units) (fun _ h => h) ?_
    rintro r12 news12 h12 tk12 F12 N12 ⟨Tu2, t3, t4, rfl, rfl⟩
    (repeat' ((fail_if_success (first | (with_reducible show wpAny _ _ (eval (Expr.Lambda _ _ _ _) _) _ _ _) | (with_reducible show wpAny _ _ (getMethod (Value.ref _) _ _) _ _ _) | (with_reducible show wpAny _ _ (call (Value.ref _) _ _) _ _ _) | (with_reducible show wpAny _ _ (callWith _ (Value.ref _) _ _ _) _ _ _) | (with_reducible show wpAny _ _ (truthy (Value.ref _)) _ _ _) | (with_reducible show _ ∧ _) | (with_reducible show wpAny _ _ (exec (Stmt.While _ _ _ _) _) _ _ _))); first | (k_unfold; (try dsimp only)) | (k_end; wrow_close) | (dsimp only; walk1) | walk1))
    rename Fr g L1 _ _ => F13
    rename News g L1 _ _ => N13
    have hx1 := lt_of_occ hoc1
    refine ksw_end (⟨news9, i1, q', .ref x.q, t3, t4⟩ : SR) F13 N13 (fun p hp => .tail _ hp) ⟨hfx.keep.trans k9, hin9, sf9, pf9, hit, hoc1, .inr ⟨x.i, hit9, hfx.occ, by dsimp only; (first | lia | omega), hcol, fun k hk1 hk2 => hno1 k (by (first | lia | omega)) hk2⟩⟩ ?_ ?_ trivial ?_
    · intro p hp
      simp only [List.mem_cons, List.not_mem_nil, or_false] at hp
      rcases hp with rfl | rfl | rfl | rfl <;> rfl
    · intro z h2 h3
      simp only [List.forall_mem_cons, List.not_mem_nil, false_implies, implies_true, and_true, ne_eq] at h2
      obtain ⟨z1, z2, z3, z4⟩ := h2
      simp [kstB, h3, z1, z2, z3, z4]
    · dsimp only; (first | lia | omega)
end Mine
end

/-! ## LLast -/
section
theorem Mine.startLLast : True := by
  w_top off
  trivial
open PySem PySem.W PyProof.Rows PySem.Calls PySem.Spec
set_option Elab.async false
namespace Mine
noncomputable def SearchOk (news : Led) (ps : Array Value) : Prop :=
  codeAmong pS ps.toList = none ∨ ∃ c1 oc P2, codeAmong pS ps.toList = some (.ref c1) ∧ (c1, oc) ∈ news ∧ CodeO oc c1 P2 ∧ RecO oc qS ∧ P2 ≠ 70 ∧ In2 news P2
/-- the code tables of «_law_last» as they may stand -/
noncomputable def Tabs (news : Led) : Prop := ∃ ps, (70, tabObj ps) ∈ news ∧ TriplesOk ps.toList ∧ Ent news ps pL qL ∧ SearchOk news ps
/-- all but code tables is kept -/
noncomputable def NotTab (o : Obj) : Prop := ∀ ps, o ≠ tabObj ps
theorem nt_cls {o : Obj} (h : o.cls ≠ .none) : NotTab o := fun _ e => h (by rw [e])
theorem nt_cell {o : Obj} {v : Option Value} (h : o.data = .cell v) : NotTab o := fun _ e => by rw [e] at h; cases h
noncomputable def KeepNT (news news' : Led) : Prop := ∀ p ∈ news, NotTab p.2 → p ∈ news'
theorem KeepNT.refl {news : Led} : KeepNT news news := fun _ h _ => h
theorem KeepNT.trans {a b c : Led} (x : KeepNT a b) (y : KeepNT b c) : KeepNT a c := fun p h e => y p (x p h e) e
theorem KeepBut.nt {h₀ h : Heap} {L P : Addr} {ps : Array Value} {news news' : Led} (k : KeepBut P news news') (N : News h₀ L h news) (hP : (P, tabObj ps) ∈ news) : KeepNT news news' :=
  fun p hp hc => k p hp (news_ne N hp hP (hc _))

theorem In2.keepB {h₀ h : Heap} {L P P2 : Addr} {ps : Array Value} {news news' : Led} (x : In2 news P2) (N : News h₀ L h news) (hP : (P, tabObj ps) ∈ news) (hne : P2 ≠ P) (k : KeepBut P news news') : In2 news' P2 := by
  obtain ⟨qs, h1, h2, h3, h4⟩ := x.ex
  have kc : ∀ p ∈ news, p.2.cls = .type "code" → p ∈ news' := fun p hp hc => k p hp (news_ne N hp hP (cls_ne (by rw [hc]; exact fun z => nomatch z)))
  exact ⟨qs, k _ h1 hne, h2, h3.mono kc, h4.mono kc⟩
theorem In2.new {news : Led} {P2 : Addr} (h : (P2, tabObj #[]) ∈ news) : In2 news P2 := ⟨#[], h, trivial, .inl rfl, .inl rfl⟩
theorem SearchOk.ent {news : Led} {ps : Array Value} (x : SearchOk news ps) : Ent news ps pS qS := by
  rcases x with x | ⟨c1, oc, P2, h1, h2, h3, h4, _⟩
  · exact .inl x
  · exact .inr ⟨c1, oc, h1, h2, h3.cls, h4⟩
theorem Tabs.mono {news news' : Led} (x : Tabs news) (k : ∀ p ∈ news, p ∈ news') : Tabs news' := by
  obtain ⟨ps, h1, h2, h3, h4⟩ := x
  refine ⟨ps, k _ h1, h2, h3.mono fun p hp _ => k p hp, ?_⟩
  rcases h4 with h4 | ⟨c1, oc, P2, h5, h6, h7, h8, h9, h10⟩
  · exact .inl h4
  · exact .inr ⟨c1, oc, P2, h5, k _ h6, h7, h8, h9, h10.mono k⟩
set_option maxRecDepth 100000 in
set_option maxHeartbeats 8000000 in
theorem lastK (w : World) (word text : Str) (tw t tc : Tok) (col : Int) (c : Nat) (hw : word = ⟨#[c]⟩) (ht : text.length ≤ 10000) :
    Claim w 6 75 [.str word tw, .str text t, .int col tc] Tabs
      (fun news news' r => KeepNT news news' ∧ Tabs news' ∧ ∃ x tx, Last text.cps.toList c col x ∧ r = .int x tx) := by
  unfold Claim
  k_fill
  intro p loose mean mg mb dp un gd cn cs a ccd cl outer A₀ base h₀ L m news s Q E B F X N T hk hd hu hpre hret
  obtain ⟨ps, hps, htr, heL, hso⟩ := hpre
  refine wpAny_call ?_
  k_dflt (refine' code_defC ?k1 ?k2 ?k3 ?k4 ?k5 ?kA ?kF ?kK ?k6 ?k7 ?k8 ?k9 ?kB ?kD ?_ ?c2 ?c3 ?c4; (case kA => exact rfl); (case kF => exact rfl); (case kK => assumption); (case k1 => k_asm); (case k2 => k_asm); (case k3 => k_asm); (case k4 => k_asm); (case k5 => k_asm); (case k6 => k_is); (case k7 => k_is); (case k8 => ktr_room); (case k9 => exact BindsTo.of_eq rfl); (case kB => exact rfl); (case kD => decide +kernel); (case c2 => exact rfl); (case c3 => exact rfl); (case c4 => exact rfl))
  intro g L1 h1 tk1 cells FG F1 N1 Y B1 X1 T1 l1
  k_cells Y
  refine wpAny_mono (E := fun _ _ => False) ?_ (fun _ _ h => h) (fun _ _ h => h.elim)
  rename_i ow hwd
  replace hwd : ow.data = .cell (some (.str word tw)) := hwd
  replace N1 : News g L1 h1 ((L1 + 1, ow) :: news) := N1
  replace F1 : Fr g L1 h1 (fun y => if y = Str.ofString "col" then some (Value.int col tc) else if y = Str.ofString "text" then some (.str text t) else none) := F1
  have C74 : CodeHd g 74 70 := by
    have h74 := X1 74 _ (by k_dflt k_is)
    exact ⟨_, _, _, _, _, _, _, _, _, h74, rfl, rfl, rfl, rfl, rfl, rfl, rfl, rfl, by decide⟩
  refine wpAny_execs_cons ?_
  refine kdv_def rfl rfl rfl ?_
  refine kdv_all1 ?_
  walk1
  refine kdv_all0 ?_
  refine kdv_tuple F1 N1 rfl ?_
  intro dt h2 F2 N2 l2
  refine mk_fnA F2 N2 T1 (C74.keeps F2.keep) rfl rfl (.tail _ (.tail _ hps)) htr rfl (hso.ent.mono fun _ h _ => .tail _ (.tail _ h)) ?_
  intro f c1 oc1 ctv doc h3 tk3 ps3 news3 F3 N3 k3 hps3 htr3 hca3 hoth3 hoc3 hcls3 hrec3 hnew3 hlt3 hlt3'
  replace hrec3 : RecO oc1 qS := hrec3
  have hN2P := (List.Mem.tail (dt, kdv_tup [Value.int 0 tk1]) (List.Mem.tail (L1 + 1, ow) hps))
  have now70 : ∀ p ∈ (dt, kdv_tup [Value.int 0 tk1]) :: (L1 + 1, ow) :: news, NotTab p.2 → p ∈ news3 := fun p hp hc => k3 p hp (news_ne N2 hp hN2P (hc _))
  obtain ⟨P2, oc2, hoc2, hcO2, hrO2, hP2, hin3⟩ : ∃ P2 oc2, (c1, oc2) ∈ news3 ∧ CodeO oc2 c1 P2 ∧ RecO oc2 qS ∧ P2 ≠ 70 ∧ In2 news3 P2 := by
    rcases hnew3 with h | ⟨_, P', h1, h2, h3⟩
    · rcases hso with h' | ⟨c1', oc', P', h1, h2, h3, h4, h5, h6⟩
      · exact absurd (h'.symm.trans h) (fun z => nomatch z)
      · have e := h1.symm.trans h
        cases e
        exact ⟨P', oc', now70 _ (.tail _ (.tail _ h2)) (nt_cls (by rw [h3.cls]; exact fun z => nomatch z)), h3, h4, h5, (h6.mono fun p hp => List.Mem.tail _ (List.Mem.tail _ hp)).keepB N2 hN2P h5 k3⟩
    · exact ⟨P', oc1, hoc3, h1, hrec3, h3, .new h2⟩
  have hdt3 := now70 _ (.head _) (nt_cls (fun z => nomatch z))
  have how3 : (L1 + 1, ow) ∈ news3 := k3 _ (.tail _ (.head _)) (news_ne N2 (.tail _ (.head _)) hN2P (fun e => by rw [e] at hwd; cases hwd))
  have heL3 : Ent news3 ps3 pL qL := (heL.mono fun p hp _ => List.Mem.tail (dt, kdv_tup [Value.int 0 tk1]) (List.Mem.tail (L1 + 1, ow) hp)).next N2 hN2P k3 (hoth3 pL (by decide))
  (repeat' ((fail_if_success (first | (with_reducible show wpAny _ _ (eval (Expr.Lambda _ _ _ _) _) _ _ _) | (with_reducible show wpAny _ _ (exec (Stmt.FunctionDef _ _ _ _ _ _ _ _ _ _) _) _ _ _) | (with_reducible show wpAny _ _ (getMethod (Value.ref _) _ _) _ _ _) | (with_reducible show wpAny _ _ (setAttr (Value.ref _) _ _) _ _ _) | (with_reducible show wpAny _ _ (call (Value.ref _) _ _) _ _ _) | (with_reducible show FnAt _ _ ∧ _) | (with_reducible show wpAny _ _ (exec (Stmt.While _ _ _ _) _) _ _ _))); first | (k_unfold; (try dsimp only)) | (k_end; wrow_close) | (dsimp only; walk1) | walk1))
  rename Fr g L1 _ _ => F4
  rename News g L1 _ _ => N4
  refine kla_eval rfl ?_
  refine mk_lamA F4 N4 T1 (C74.keeps F4.keep) rfl rfl (.tail _ hps3) htr3 rfl (heL3.mono fun _ h _ => .tail _ h) ?_
  intro q c5 oc5 ctv5 doc5 h5 tk5 ps5 news5 F5 N5 k5 hps5 htr5 hca5 hoth5 hoc5 hcls5 hrec5 hlt5 hlt5'
  have S4 := And.intro trivial N4
  (repeat' ((fail_if_success (first | (with_reducible show wpAny _ _ (eval (Expr.Lambda _ _ _ _) _) _ _ _) | (with_reducible show wpAny _ _ (exec (Stmt.FunctionDef _ _ _ _ _ _ _ _ _ _) _) _ _ _) | (with_reducible show wpAny _ _ (getMethod (Value.ref _) _ _) _ _ _) | (with_reducible show wpAny _ _ (setAttr (Value.ref _) _ _) _ _ _) | (with_reducible show wpAny _ _ (call (Value.ref _) _ _) _ _ _) | (with_reducible show FnAt _ _ ∧ _) | (with_reducible show wpAny _ _ (exec (Stmt.While _ _ _ _) _) _ _ _))); first | (k_unfold; (try dsimp only)) | (k_end; wrow_close) | (dsimp only; walk1) | walk1))
  rename Fr g L1 _ _ => F6
  rename News g L1 _ _ => N6
  have kf : ∀ p ∈ (f, kdv_obj (Str.ofString "search") qS (stA searchD) (.stmts (stB searchD)) (stS searchD) [(Str.ofString "word", L1 + 1)] (.ref dt) doc ((mg "__name__").getD .none) c1 ctv) :: news3, NotTab p.2 → p ∈ news5 := fun p hp hc => k5 p hp (news_ne S4.2 hp (.tail _ hps3) (hc _))
  refine setAttr_fnA F6 N6 (.head _) FA.no_search ?_
  intro d7 h7 tk7 hsh7 news7 F7 N7 hq7 hd7 k7
  have k37 : ∀ p ∈ news3, p.1 ≠ 70 → p ∈ news7 := fun p hp hne => k7 p (.tail _ (k5 p (.tail _ hp) hne)) (Nat.ne_of_lt (hlt5 p (k5 p (.tail _ hp) hne)))
  have kc7 : ∀ p ∈ news3, NotTab p.2 → p ∈ news7 := fun p hp hc => k37 p hp (news_ne S4.2 (.tail _ hp) (.tail _ hps3) (hc _))
  have hf7 : (f, kdv_obj (Str.ofString "search") qS (stA searchD) (.stmts (stB searchD)) (stS searchD) [(Str.ofString "word", L1 + 1)] (.ref dt) doc ((mg "__name__").getD .none) c1 ctv) ∈ news7 := by
    have h5 := kf _ (.head _) (nt_cls (fun z => nomatch z))
    exact k7 _ (.tail _ h5) (Nat.ne_of_lt (hlt5 _ h5))
  have how7 : (L1 + 1, ow) ∈ news7 := k37 _ how3 (news_ne S4.2 (.tail _ how3) (.tail _ hps3) (fun e => by rw [e] at hwd; cases hwd))
  have hps7 : (70, tabObj ps5) ∈ news7 := k7 _ (.tail _ hps5) (Nat.ne_of_lt (hlt5 _ hps5))
  have hoc7 := kc7 _ hoc2 (nt_cls (by rw [hcO2.cls]; exact fun z => nomatch z))
  have hin7 : In2 news7 P2 := by
    have hin5 := (hin3.mono fun p hp => List.Mem.tail (f, kdv_obj (Str.ofString "search") qS (stA searchD) (.stmts (stB searchD)) (stS searchD) [(Str.ofString "word", L1 + 1)] (.ref dt) doc ((mg "__name__").getD .none) c1 ctv) hp).keepB S4.2 (.tail _ hps3) hP2 k5
    obtain ⟨qs, i1, i2, i3, i4⟩ := hin5.ex
    have kk : ∀ p ∈ news5, p ∈ news7 := fun p hp => k7 p (.tail _ hp) (Nat.ne_of_lt (hlt5 p hp))
    exact ⟨qs, kk _ i1, i2, i3.mono fun p hp _ => kk p hp, i4.mono fun p hp _ => kk p hp⟩
  have hS7 : SFn news7 f P2 word := ⟨L1 + 1, c1, dt, tw, tk1, doc, _, ctv, ow, oc2, hf7, how7, hwd, kc7 _ hdt3 (nt_cls (fun z => nomatch z)), hoc7, hcO2, hrO2⟩
  have hP7 : PFn news7 q f := ⟨d7, _, hsh7, tk7, hq7, hd7⟩
  have heL7 : Ent news7 ps5 pL qL := .now hca5 (k7 _ (.tail _ hoc5) (Nat.ne_of_lt (hlt5 _ hoc5))) hcls5 hrec5
  have hso7 : codeAmong pS ps5.toList = some (.ref c1) := (hoth5 pS (by decide)).trans hca3
  have keep7 : KeepNT news news7 := fun p hp hc => kc7 p (now70 p (.tail _ (.tail _ hp)) hc) hc
  (repeat' ((fail_if_success (first | (with_reducible show wpAny _ _ (eval (Expr.Lambda _ _ _ _) _) _ _ _) | (with_reducible show wpAny _ _ (exec (Stmt.FunctionDef _ _ _ _ _ _ _ _ _ _) _) _ _ _) | (with_reducible show wpAny _ _ (getMethod (Value.ref _) _ _) _ _ _) | (with_reducible show wpAny _ _ (setAttr (Value.ref _) _ _) _ _ _) | (with_reducible show wpAny _ _ (call (Value.ref _) _ _) _ _ _) | (with_reducible show FnAt _ _ ∧ _) | (with_reducible show wpAny _ _ (exec (Stmt.While _ _ _ _) _) _ _ _))); first | (k_unfold; (try dsimp only)) | (k_end; wrow_close) | (dsimp only; walk1) | walk1))
  rename Fr g L1 _ _ => F8
  rename News g L1 _ _ => N8
  have S8 := And.intro trivial N8
  refine revK w q f P2 word text _ _ col c hw ht _ _ _ _ _ _ _ _ _ _ _ _ _ _ _ _ _ _ _ _ _ _ _ B1 F8 X1 N8 T1 rfl (by ktr_room) (by ktr_units) ⟨hP7, hS7, hin7⟩ ?_
  intro r news9 h9 tk9 F9 N9 ⟨k9, hin9, y, hy, hr⟩
  have hin9' := hin9
  obtain ⟨qs7, j1, _⟩ := hin7.ex
  have keep9 : KeepNT news news9 := keep7.trans (k9.nt N8 j1)
  have tabs9 : Tabs news9 := by
    have kc : ∀ p ∈ news7, p.2.cls = .type "code" → p ∈ news9 := fun p hp hc => k9 p hp (news_ne N8 hp j1 (cls_ne (by rw [hc]; exact fun z => nomatch z)))
    exact ⟨ps5, k9 _ hps7 (Ne.symm hP2), htr5, heL7.mono kc, .inr ⟨c1, oc2, P2, hso7, kc _ hoc7 hcO2.cls, hcO2, hrO2, hP2, hin9⟩⟩
  rcases hr with ⟨rfl, rfl⟩ | ⟨hge, hit⟩
  · (repeat' ((fail_if_success (first | (with_reducible show wpAny _ _ (eval (Expr.Lambda _ _ _ _) _) _ _ _) | (with_reducible show wpAny _ _ (exec (Stmt.FunctionDef _ _ _ _ _ _ _ _ _ _) _) _ _ _) | (with_reducible show wpAny _ _ (getMethod (Value.ref _) _ _) _ _ _) | (with_reducible show wpAny _ _ (setAttr (Value.ref _) _ _) _ _ _) | (with_reducible show wpAny _ _ (call (Value.ref _) _ _) _ _ _) | (with_reducible show FnAt _ _ ∧ _) | (with_reducible show wpAny _ _ (exec (Stmt.While _ _ _ _) _) _ _ _))); first | (k_unfold; (try dsimp only)) | (k_end; wrow_close) | (dsimp only; walk1) | walk1))
    exact hret _ news9 _ _ (by assumption) (by assumption) ⟨keep9, tabs9, -1, _, hy, rfl⟩
  obtain ⟨q2, rfl⟩ : ∃ q, r = .ref q := by
    obtain ⟨q, _, _, _, _, _, _, _, _, _, _, _, _, _, _, _, _, e, _⟩ := hit
    exact ⟨q, e⟩
  obtain ⟨d2, fd2, hsh2, tkp2, sp2, hq2, hd2, ⟨fs2, hspm⟩, spK⟩ := spanK w (by rw [hw]; rfl) hit
  (repeat' ((fail_if_success (first | (with_reducible show wpAny _ _ (eval (Expr.Lambda _ _ _ _) _) _ _ _) | (with_reducible show wpAny _ _ (exec (Stmt.FunctionDef _ _ _ _ _ _ _ _ _ _) _) _ _ _) | (with_reducible show wpAny _ _ (getMethod (Value.ref _) _ _) _ _ _) | (with_reducible show wpAny _ _ (setAttr (Value.ref _) _ _) _ _ _) | (with_reducible show wpAny _ _ (call (Value.ref _) _ _) _ _ _) | (with_reducible show FnAt _ _ ∧ _) | (with_reducible show wpAny _ _ (exec (Stmt.While _ _ _ _) _) _ _ _))); first | (k_unfold; (try dsimp only)) | (k_end; wrow_close) | (dsimp only; walk1) | walk1))
  rename Fr g L1 _ _ => F10
  rename News g L1 _ _ => N10
  refine FA.getMethod_fn (N10 _ hq2).1 (N10 _ hd2).1 rfl FA.no_span ?_ (by intro id h; cases h)
  dsimp only
  refine callWith_F0 (FnAt.of N10 hspm) ?_
  refine spK _ _ _ _ _ _ _ _ _ _ _ _ _ _ _ _ _ _ _ _ _ _ _ B1 F10 X1 N10 T1 rfl (by ktr_room) (by ktr_units) (fun _ h => h) ?_
  rintro r12 news12 h12 tk12 F12 N12 ⟨Tu2, t3, t4, rfl, rfl⟩
  (repeat' ((fail_if_success (first | (with_reducible show wpAny _ _ (eval (Expr.Lambda _ _ _ _) _) _ _ _) | (with_reducible show wpAny _ _ (exec (Stmt.FunctionDef _ _ _ _ _ _ _ _ _ _) _) _ _ _) | (with_reducible show wpAny _ _ (getMethod (Value.ref _) _ _) _ _ _) | (with_reducible show wpAny _ _ (setAttr (Value.ref _) _ _) _ _ _) | (with_reducible show wpAny _ _ (call (Value.ref _) _ _) _ _ _) | (with_reducible show FnAt _ _ ∧ _) | (with_reducible show wpAny _ _ (exec (Stmt.While _ _ _ _) _) _ _ _))); first | (k_unfold; (try dsimp only)) | (k_end; wrow_close) | (dsimp only; walk1) | walk1))
  exact hret _ news9 _ _ (by assumption) (cb_drop (by assumption) fun p hp => .tail _ hp) ⟨keep9, tabs9, y, _, hy, rfl⟩
end Mine
end

/-! ## LSlice -/
section
theorem Mine.startLSlice : True := by
  w_top off
  trivial
open PySem PySem.W PyProof.Rows PySem.Calls PySem.Spec
set_option Elab.async false
namespace Mine
noncomputable def clip (i : Int) (n : Nat) : Nat := (max 0 (min (if i < 0 then i + n else i) n)).toNat
noncomputable def clL (l : Option Int) (n : Nat) : Nat := match l with | none => 0 | some i => clip i n
noncomputable def clU (u : Option Int) (n : Nat) : Nat := match u with | none => n | some i => clip i n
theorem clip_le (i : Int) (n : Nat) : clip i n ≤ n := by unfold clip; (first | lia | omega)
theorem clU_le (u : Option Int) (n : Nat) : clU u n ≤ n := by cases u; exact Nat.le_refl _; exact clip_le _ _
theorem clip_nat {k n : Nat} (h : k ≤ n) : clip (k : Int) n = k := by unfold clip; rw [if_neg (by (first | lia | omega))]; (first | lia | omega)
theorem clip_neg1 (n : Nat) : clip (-1) n = n - 1 := by
  unfold clip
  rw [if_pos (by decide)]
  cases n with
  | zero => rfl
  | succ k =>
    have e : (-1 + ((k + 1 : Nat) : Int)) = (k : Int) := by (first | lia | omega)
    have h : (k : Int) ≤ ((k + 1 : Nat) : Int) := Int.ofNat_le.mpr (Nat.le_succ k)
    rw [e, Int.min_eq_left h, Int.max_eq_right (Int.natCast_nonneg k)]
    rfl
theorem clip_cast (i : Int) (n : Nat) : ((clip i n : Nat) : Int) = max 0 (min (if i < 0 then i + n else i) n) := Int.toNat_of_nonneg (Int.le_max_left _ _)
theorem clip_twice (i : Int) (n : Nat) : max 0 (min ((clip i n : Nat) : Int) (n : Int)) = ((clip i n : Nat) : Int) := by
  rw [Int.min_eq_left (Int.ofNat_le.mpr (clip_le i n)), Int.max_eq_right (Int.natCast_nonneg _)]
theorem idx_clip (l u : Option Int) (n : Nat) : Builtin.Str.strSliceIndices l u 1 n = Builtin.Str.strSliceIndices (some (clL l n : Int)) (some (clU u n : Int)) 1 n := by
  have e : ∀ i : Int, max 0 (min (if i < 0 then i + (n : Int) else i) (n : Int)) = max 0 (min (if ((clip i n : Nat) : Int) < 0 then ((clip i n : Nat) : Int) + n else ((clip i n : Nat) : Int)) (n : Int)) := by
    intro i
    have h0 : ¬ ((clip i n : Nat) : Int) < 0 := Int.not_lt.mpr (Int.natCast_nonneg _)
    rw [if_neg h0, clip_twice, clip_cast]
  have h1 : (1 : Int) > 0 := by decide
  have a1 : max 0 (min (if ((0 : Nat) : Int) < 0 then ((0 : Nat) : Int) + (n : Int) else ((0 : Nat) : Int)) (n : Int)) = 0 := by rw [if_neg (by decide)]; (first | lia | omega)
  have a2 : max 0 (min (if (n : Int) < 0 then (n : Int) + (n : Int) else (n : Int)) (n : Int)) = n := by rw [if_neg (by (first | lia | omega))]; (first | lia | omega)
  unfold Builtin.Str.strSliceIndices clL clU
  cases l <;> cases u <;> simp only [h1, if_true]
  · rw [a1, a2]
  · rw [← e, a1]
  · rw [← e, a2]
  · rw [← e, ← e]
theorem slice_gen (x : Str) (l u : Option Int) : (Txt.slice x l u).cps.toList = (x.cps.toList.drop (clL l x.length)).take (clU u x.length - clL l x.length) := by
  have e : Txt.slice x l u = StrLaws.sliceText x (some (clL l x.length : Int)) (some (clU u x.length : Int)) := by
    unfold Txt.slice StrLaws.sliceText
    rw [idx_clip]
  rw [e]
  by_cases h : clL l x.length ≤ clU u x.length
  · rw [StrLaws.sliceText_nat x h (clU_le _ _)]
  · have hz : clU u x.length - clL l x.length = 0 := by (first | lia | omega)
    rw [hz, List.take_zero]
    have hi : Builtin.Str.strSliceIndices (some (clL l x.length : Int)) (some (clU u x.length : Int)) 1 x.length = [] := by
      have hcl : clL l x.length ≤ x.length := by cases l; exact Nat.zero_le _; exact clip_le _ _
      have hcu := clU_le u x.length
      unfold Builtin.Str.strSliceIndices sliceRange
      have h1 : (1 : Int) > 0 := by decide
      simp only [h1, if_true]
      rw [if_neg (show ¬ ((clL l x.length : Nat) : Int) < 0 by (first | lia | omega)), if_neg (show ¬ ((clU u x.length : Nat) : Int) < 0 by (first | lia | omega)), if_neg (by (first | lia | omega))]
      rfl
    unfold StrLaws.sliceText
    rw [hi]
    split
    · rename_i hx
      have : x.length = 0 := by simpa using Eq.symm (by simpa using hx)
      have : x.cps.toList.length = 0 := by rw [← len_cps]; exact this
      exact List.length_eq_zero_iff.mp this
    · rfl
/-- x[lo:] and x[lo:hi] of a text cut in three -/
theorem slice_mid {x : Str} {A B C : List Nat} {lo hi : Int} (hx : x.cps.toList = A ++ (B ++ C)) (hlo : lo = A.length) (hhi : hi = A.length + B.length) : Txt.slice x (some lo) (some hi) = ⟨B.toArray⟩ := by
  refine str_eq ?_
  have hn : x.length = A.length + (B.length + C.length) := by rw [len_cps, hx]; simp
  rw [slice_gen, hx]
  have e1 : clL (some lo) x.length = A.length := by rw [hlo]; exact clip_nat (by (first | lia | omega))
  have e2 : clU (some hi) x.length = A.length + B.length := by rw [hhi]; exact_mod_cast clip_nat (k := A.length + B.length) (by (first | lia | omega))
  rw [e1, e2, List.drop_left]
  have : A.length + B.length - A.length = B.length := by (first | lia | omega)
  rw [this, List.take_left]
theorem slice_from {x : Str} {A B : List Nat} {lo : Int} (hx : x.cps.toList = A ++ B) (hlo : lo = A.length) : Txt.slice x (some lo) none = ⟨B.toArray⟩ := by
  refine str_eq ?_
  have hn : x.length = A.length + B.length := by rw [len_cps, hx]; simp
  rw [slice_gen, hx]
  have e1 : clL (some lo) x.length = A.length := by rw [hlo]; exact clip_nat (by (first | lia | omega))
  rw [e1, List.drop_left]
  show B.take (x.length - A.length) = B
  rw [List.take_of_length_le (by (first | lia | omega))]
theorem slice_to {x : Str} {A B : List Nat} {hi : Int} (hx : x.cps.toList = A ++ B) (hhi : hi = A.length) : Txt.slice x none (some hi) = ⟨A.toArray⟩ := by
  refine str_eq ?_
  have hn : x.length = A.length + B.length := by rw [len_cps, hx]; simp
  rw [slice_gen, hx]
  have e1 : clU (some hi) x.length = A.length := by rw [hhi]; exact clip_nat (by (first | lia | omega))
  rw [e1]
  show List.take (A.length - 0) (List.drop 0 (A ++ B)) = A
  rw [List.drop_zero, Nat.sub_zero, List.take_left]
theorem slice_from_last {x : Str} {A B : List Nat} {c : Nat} {lo : Int} (hx : x.cps.toList = A ++ (B ++ [c])) (hlo : lo = A.length) : Txt.slice x (some lo) (some (-1)) = ⟨B.toArray⟩ := by
  refine str_eq ?_
  have hn : x.length = A.length + (B.length + 1) := by rw [len_cps, hx]; simp
  rw [slice_gen, hx]
  have e1 : clL (some lo) x.length = A.length := by rw [hlo]; exact clip_nat (by (first | lia | omega))
  have e2 : clU (some (-1)) x.length = A.length + B.length := by rw [show clU (some (-1)) x.length = clip (-1) x.length from rfl, clip_neg1]; (first | lia | omega)
  rw [e1, e2, List.drop_left]
  have : A.length + B.length - A.length = B.length := by (first | lia | omega)
  rw [this, List.take_left]
theorem slice_last {x : Str} {A : List Nat} {c : Nat} (hx : x.cps.toList = A ++ [c]) : Txt.slice x (some (-1)) none = ⟨#[c]⟩ := by
  have hn : x.length = A.length + 1 := by rw [len_cps, hx]; simp
  refine str_eq ?_
  rw [slice_gen, hx]
  have e1 : clL (some (-1)) x.length = A.length := by rw [show clL (some (-1)) x.length = clip (-1) x.length from rfl, clip_neg1]; (first | lia | omega)
  rw [e1, List.drop_left]
  show List.take (x.length - A.length) [c] = [c]
  rw [List.take_of_length_le (by simp; (first | lia | omega))]
theorem slice_first {x : Str} {A : List Nat} {c : Nat} (hx : x.cps.toList = c :: A) : Txt.slice x none (some 1) = ⟨#[c]⟩ := slice_to (A := [c]) (B := A) hx rfl
end Mine
end

/-! ## LStd -/
section
theorem Mine.startLStd : True := by
  w_top off
  trivial
open PySem PySem.W PyProof.Rows PySem.Calls PySem.Spec
set_option Elab.async false
namespace Mine
noncomputable abbrev Fn := Str × Int × Str
noncomputable def isLt (n : Str) : Bool := Txt.startswith n (Str.ofString "<") && Txt.endswith n (Str.ofString ">")
noncomputable def stdS (x : Fn) : Str :=
  if x.1 = Str.ofString "~" ∧ x.2.1 = 0 then
    (if isLt x.2.2 = true then Str.ofString "{" ++ Txt.slice x.2.2 (some 1) (some (-1)) ++ Str.ofString "}" else x.2.2)
  else x.1 ++ Str.ofString ":" ++ Str.ofString (toString x.2.1) ++ Str.ofString "(" ++ x.2.2 ++ Str.ofString ")"
structure FnOk (x : Fn) : Prop where
  fo : PyData.strOk x.1 = true
  no : PyData.strOk x.2.2 = true
  fl : x.1.length ≤ 100
  nl : x.2.2.length ≤ 100
  ll : x.2.1.natAbs < 10 ^ 20
theorem log2_lt {n : Nat} (h : n < 10 ^ 20) : n.log2 < 1920 := by
  by_cases h0 : n = 0
  · subst h0; decide
  · rw [Nat.log2_lt h0]
    exact Nat.lt_of_lt_of_le h (by decide +kernel)
noncomputable abbrev fnD (x : Fn) : Dat := .tuple [.str x.1, .int x.2.1, .str x.2.2]
theorem std_e1 {f n : Str} {l : Int} {b : Bool} (hb : b = true ↔ Dat.tuple [Dat.str f, Dat.int l] = Dat.tuple [Dat.str (Str.ofString "~"), Dat.int 0]) (h1 : b = true) (h2 : Txt.startswith n (Str.ofString "<") = true) (h3 : Txt.endswith n (Str.ofString ">") = true) :
    Str.ofString "{" ++ Txt.slice n (some 1) (some (-1)) ++ Str.ofString "}" = stdS (f, l, n) := by
  have e := hb.mp h1
  injection e with e; injection e with e1 e; injection e with e2 _
  injection e1 with e1; injection e2 with e2
  unfold stdS isLt
  rw [if_pos ⟨e1, e2⟩, if_pos (by simp only [h2, h3]; rfl)]
theorem std_e2 {f n : Str} {l : Int} {b : Bool} (hb : b = true ↔ Dat.tuple [Dat.str f, Dat.int l] = Dat.tuple [Dat.str (Str.ofString "~"), Dat.int 0]) (h1 : b = true) (h3 : Txt.endswith n (Str.ofString ">") = false) :
    n = stdS (f, l, n) := by
  have e := hb.mp h1
  injection e with e; injection e with e1 e; injection e with e2 _
  injection e1 with e1; injection e2 with e2
  unfold stdS isLt
  rw [if_pos ⟨e1, e2⟩, if_neg (by simp only [h3]; simp)]
theorem std_e3 {f n : Str} {l : Int} {b : Bool} (hb : b = true ↔ Dat.tuple [Dat.str f, Dat.int l] = Dat.tuple [Dat.str (Str.ofString "~"), Dat.int 0]) (h1 : b = true) (h3 : Txt.startswith n (Str.ofString "<") = false) :
    n = stdS (f, l, n) := by
  have e := hb.mp h1
  injection e with e; injection e with e1 e; injection e with e2 _
  injection e1 with e1; injection e2 with e2
  unfold stdS isLt
  rw [if_pos ⟨e1, e2⟩, if_neg (by simp only [h3]; simp)]
theorem std_e4 {f n : Str} {l : Int} {b : Bool} (hb : b = true ↔ Dat.tuple [Dat.str f, Dat.int l] = Dat.tuple [Dat.str (Str.ofString "~"), Dat.int 0]) (h1 : b = false) :
    f ++ Str.ofString ":" ++ Str.ofString (toString l) ++ Str.ofString "(" ++ n ++ Str.ofString ")" = stdS (f, l, n) := by
  unfold stdS
  rw [if_neg]
  rintro ⟨e1, e2⟩
  have : b = true := hb.mpr (by dsimp only at e1 e2; rw [e1, e2])
  rw [h1] at this; cases this
set_option maxRecDepth 100000 in
set_option maxHeartbeats 8000000 in
theorem stdK0 (w : World) (b : Addr) (f n : Str) (l : Int) (t1 t2 t3 : Tok) (k : Nat) (hfo : PyData.strOk f = true) (hno : PyData.strOk n = true) (hf : f.length ≤ 100) (hn : n.length ≤ 100) (hl : l.natAbs < 10 ^ 20) (hl2 : l.natAbs.log2 < 1920) :
    Claim w 2 21 [.ref b] (fun news => (b, tupO [.str f t1, .int l t2, .str n t3] k) ∈ news) (fun news news' r => news' = news ∧ ∃ t', r = .str (stdS (f, l, n)) t') := by
  unfold Claim
  k_fill
  intro p loose mean mg mb dp un gd cn cs a ccd cl outer A₀ base h₀ L m news s Q E B F X N T hk hd hu hpre hret
  refine wpAny_call ?_
  k_dflt cell_enter
  k_steps
  k_dflt (refine' slice_tuple_upto ?F ?N ?hm ?ha ?_ ?hs ?hg ?hz; (case F => k_asm); (case N => k_asm); (case hm => assumption); (case ha => exact Nat.le_of_ble_eq_true rfl); (case hs => with_unfolding_all rfl); (case hg => (intro _; with_unfolding_all rfl)); (case hz => exact Nat.le_of_ble_eq_true rfl); k_whole)
  intro D' h' F' N' l1
  try dsimp only [List.take] at N'
  k_steps
  k_dflt (refine' dat_eq ?N ?D1 ?D2 ?o1 ?o2 ?hu ?_; (case N => k_asm); (case D1 => exact DatIn.tuple (by k_mem) (by kqd_all)); (case D2 => exact DatIn.tuple (by k_mem) (by kqd_all)); (case o1 => (simp only [kqdOk, List.all_cons, List.all_nil, Bool.and_true]; assumption)); (case o2 => decide +kernel); (case hu => (simp only [units_deeper]; omega)); k_whole)
  intro b' hb'
  repeat' ((fail_if_success (with_reducible show wpAny _ _ (binaryOp _ _ _) _ _ _)); first | (k_unfold; (try dsimp only)) | (k_end; wrow_close) | walk1 | (dsimp only; walk1) | (leave1; try dsimp only))
  any_goals (k_dflt (refine' KPt.mod_tuple ?N ?b ?X ?M ?_; (case N => k_asm); (case b => k_mem); (case X => exact (by decide +kernel : PySem.Str.ofString "%s:%d(%s)" = ⟨#[37, 115, 58, 37, 100, 40, 37, 115, 41]⟩)); (case M => exact meets_fmt (by assumption) (by assumption) (by assumption) (by assumption))); intro _ _)
  k_steps
  all_goals (refine hret _ news _ _ (by assumption) (cb_drop (by assumption) (by intro p hp; repeat (first | exact hp | refine List.Mem.tail _ ?_))) ⟨rfl, _, congrArg (Value.str · _) ?_⟩)
  · exact std_e1 (by assumption) (by assumption) (by assumption) (by assumption)
  · exact std_e2 (by assumption) (by assumption) (by assumption)
  · exact std_e3 (by assumption) (by assumption) (by assumption)
  · exact std_e4 (by assumption) (by assumption)
/-- a function's datum is one tuple of the ledger -/
theorem fn_of {news : Led} {v : Value} {x : Fn} (D : DatIn news v (fnD x)) : ∃ b t1 t2 t3 k, v = .ref b ∧ (b, tupO [.str x.1 t1, .int x.2.1 t2, .str x.2.2 t3] k) ∈ news := by
  cases D with
  | tuple hm r => cases r with
    | cons r1 r => cases r with
      | cons r2 r => cases r with
        | cons r3 r =>
          cases r; cases r1; cases r2; cases r3
          exact ⟨_, _, _, _, _, rfl, hm⟩
theorem fn_in {news : Led} {b : Addr} {x : Fn} {t1 t2 t3 : Tok} {k : Nat} (hm : (b, tupO [.str x.1 t1, .int x.2.1 t2, .str x.2.2 t3] k) ∈ news) : DatIn news (.ref b) (fnD x) :=
  .tuple hm (.cons (.str _ _) (.cons (.int _ _) (.cons (.str _ _) .nil)))
theorem stdK (w : World) {v : Value} {x : Fn} (ok : FnOk x) : Claim w 2 21 [v] (fun news => DatIn news v (fnD x)) (fun news news' r => news' = news ∧ ∃ t', r = .str (stdS x) t') := by
  intro p loose mean mg mb dp un gd cn cs a ccd cl outer A₀ base h₀ L m news s Q E B F X N T hk hd hu hpre hret
  refine foldG fun P hP => ?_
  obtain ⟨b, t1, t2, t3, k, rfl, hm⟩ := fn_of hpre
  exact hP (stdK0 w b x.1 x.2.2 x.2.1 t1 t2 t3 k ok.fo ok.no ok.fl ok.nl ok.ll (log2_lt ok.ll) p loose mean mg mb dp un gd cn cs a ccd cl outer A₀ base h₀ L m news s Q E B F X N T hk hd hu hm hret)
end Mine
end

/-! ## LRow -/
section
theorem Mine.startLRow : True := by
  w_top off
  trivial
open PySem PySem.W PyProof.Rows PySem.Calls PySem.Spec
set_option Elab.async false
namespace Mine
structure Good (x : Fn) : Prop where
  ok : FnOk x
  f32 : 32 ∉ x.1.cps.toList
  f10 : 10 ∉ x.1.cps.toList
  n32 : 32 ∉ x.2.2.cps.toList
  n10 : 10 ∉ x.2.2.cps.toList
  n40 : 40 ∉ x.2.2.cps.toList
  n123 : 123 ∉ x.2.2.cps.toList
  n125 : 125 ∉ x.2.2.cps.toList
theorem last_mid {l A B1 B2 : List Nat} {c : Nat} {col r : Int} (hl : l = A ++ c :: (B1 ++ B2)) (hcol : col = A.length + 1 + B1.length) (hB : c ∉ B1) (h : Last l c col r) : r = A.length := by
  have hA : l[A.length]? = some c := by rw [hl, List.getElem?_append_right (Nat.le_refl _)]; simp
  have hno : ∀ k : Nat, A.length < k → (k : Int) < col → l[k]? ≠ some c := by
    intro k h1 h2 h3
    rw [hl, List.getElem?_append_right (by (first | lia | omega))] at h3
    obtain ⟨j, hj⟩ : ∃ j, k - A.length = j + 1 := ⟨k - A.length - 1, by (first | lia | omega)⟩
    rw [hj, List.getElem?_cons_succ, List.getElem?_append_left (by (first | lia | omega))] at h3
    exact hB (List.mem_of_getElem? h3)
  rcases h with ⟨_, h⟩ | ⟨k, rfl, h1, h2, h3⟩
  · exact absurd (by (first | lia | omega)) (h A.length hA)
  · have hk : k = A.length := by
      rcases Nat.lt_trichotomy k A.length with hlt | heq | hgt
      · exact absurd (by (first | lia | omega)) (h3 A.length hlt hA)
      · exact heq
      · exact absurd h1 (hno k hgt h2)
    rw [hk]
theorem last_none {l : List Nat} {c : Nat} {col r : Int} (hc : c ∉ l) (h : Last l c col r) : r = -1 := by
  rcases h with ⟨h, _⟩ | ⟨k, _, h1, _⟩
  · exact h
  · exact absurd (List.mem_of_getElem? h1) hc
noncomputable abbrev tx (n : Int) : Str := Str.ofString (toString n)
noncomputable def rowS (m : Int) (x : Fn) : Str := tx m ++ Str.ofString " " ++ stdS x
theorem tx_len {n : Int} (h : n.natAbs < 10 ^ 20) : (tx n).length ≤ 21 := toString_len h
theorem cps_lit (s : String) (l : List Nat) (h : (Str.ofString s).cps.toList = l) (x : Str) : (x ++ Str.ofString s).cps.toList = x.cps.toList ++ l := by rw [cps_app, h]
theorem rowA {m : Int} {x : Fn} (h : ¬ (x.1 = Str.ofString "~" ∧ x.2.1 = 0)) :
    (rowS m x).cps.toList = (tx m).cps.toList ++ 32 :: (x.1.cps.toList ++ 58 :: ((tx x.2.1).cps.toList ++ 40 :: (x.2.2.cps.toList ++ [41]))) := by
  unfold rowS stdS
  rw [if_neg h]
  simp only [cps_app, show (Str.ofString " ").cps.toList = [32] from rfl, show (Str.ofString ":").cps.toList = [58] from rfl, show (Str.ofString "(").cps.toList = [40] from rfl, show (Str.ofString ")").cps.toList = [41] from rfl]
  simp only [List.append_assoc, List.cons_append, List.nil_append]
theorem rowB {m : Int} {x : Fn} : (rowS m x).cps.toList = (tx m).cps.toList ++ 32 :: (stdS x).cps.toList := by
  unfold rowS
  simp only [cps_app, show (Str.ofString " ").cps.toList = [32] from rfl]
  simp only [List.append_assoc, List.cons_append, List.nil_append]
theorem swith_one (x : Str) (c : Nat) : Txt.startswith x ⟨#[c]⟩ = true ↔ ∃ A, x.cps.toList = c :: A := by
  have h := at_one x c 0
  have e : Txt.startswith x ⟨#[c]⟩ = true ↔ StrLaws.At x ⟨#[c]⟩ x.length 0 := by
    unfold Txt.startswith StrLaws.At
    rw [Bool.and_eq_true, decide_eq_true_eq]
  rw [e, h]
  cases x.cps.toList with
  | nil => simp
  | cons a l => simp
theorem ewith_one (x : Str) (c : Nat) : Txt.endswith x ⟨#[c]⟩ = true ↔ ∃ A, x.cps.toList = A ++ [c] := by
  have hl1 : (⟨#[c]⟩ : Str).length = 1 := rfl
  have e : Txt.endswith x ⟨#[c]⟩ = true ↔ 1 ≤ x.length ∧ StrLaws.At x ⟨#[c]⟩ x.length (x.length - 1) := by
    unfold Txt.endswith StrLaws.At
    rw [Bool.and_eq_true, decide_eq_true_eq, hl1]
    constructor
    · rintro ⟨h1, h2⟩; exact ⟨by (first | lia | omega), by (first | lia | omega), h2⟩
    · rintro ⟨h1, _, h2⟩; exact ⟨by (first | lia | omega), h2⟩
  rw [e, at_one, len_cps]
  generalize x.cps.toList = l
  rcases List.eq_nil_or_concat l with rfl | ⟨A, a, rfl⟩
  · simp
  · simp only [List.concat_eq_append, List.length_append, List.length_cons, List.length_nil]
    constructor
    · rintro ⟨_, h⟩
      rw [show A.length + (0 + 1) - 1 = A.length by (first | lia | omega), List.getElem?_append_right (Nat.le_refl _)] at h
      simp at h
      exact ⟨A, by rw [h]⟩
    · rintro ⟨A', h⟩
      obtain ⟨h1, h2⟩ := List.append_inj' h rfl
      refine ⟨by (first | lia | omega), ?_⟩
      rw [show A.length + (0 + 1) - 1 = A.length by (first | lia | omega), List.getElem?_append_right (Nat.le_refl _)]
      simpa using h2
theorem isLt_iff (n : Str) : isLt n = true ↔ ∃ B, n.cps.toList = 60 :: (B ++ [62]) := by
  unfold isLt
  rw [Bool.and_eq_true, show Str.ofString "<" = ⟨#[60]⟩ from by decide +kernel, show Str.ofString ">" = ⟨#[62]⟩ from by decide +kernel, swith_one, ewith_one]
  constructor
  · rintro ⟨⟨A, h1⟩, ⟨B, h2⟩⟩
    rw [h1] at h2
    cases B with
    | nil => simp at h2
    | cons b B =>
      simp only [List.cons_append, List.cons.injEq] at h2
      exact ⟨B, by rw [h1, h2.2]⟩
  · rintro ⟨B, h⟩
    exact ⟨⟨_, h⟩, ⟨60 :: B, by rw [h]; rfl⟩⟩
/-- the rest of a built-in function's row -/
theorem std_lt {x : Fn} (h : x.1 = Str.ofString "~" ∧ x.2.1 = 0) (hl : isLt x.2.2 = true) : ∃ B, x.2.2.cps.toList = 60 :: (B ++ [62]) ∧ (stdS x).cps.toList = 123 :: (B ++ [125]) := by
  obtain ⟨B, hB⟩ := (isLt_iff _).mp hl
  refine ⟨B, hB, ?_⟩
  unfold stdS
  rw [if_pos h, if_pos hl, slice_from_last (lo := 1) (A := [60]) (B := B) (c := 62) hB rfl]
  simp only [cps_app, show (Str.ofString "{").cps.toList = [123] from rfl, show (Str.ofString "}").cps.toList = [125] from rfl]
  rfl
theorem std_nlt {x : Fn} (h : x.1 = Str.ofString "~" ∧ x.2.1 = 0) (hl : isLt x.2.2 = false) : stdS x = x.2.2 := by
  unfold stdS
  rw [if_pos h, if_neg (by rw [hl]; decide)]
end Mine
end

/-! ## LRead -/
section
theorem Mine.startLRead : True := by
  w_top off
  trivial
open PySem PySem.W PyProof.Rows PySem.Calls PySem.Spec
set_option Elab.async false
namespace Mine
set_option maxRecDepth 100000 in
set_option maxHeartbeats 8000000 in
theorem readA (w : World) (row : Str) (t : Tok) (many : Int) (x : Fn) (hm : many.natAbs < 10 ^ 20) (hx : Good x) (hA : ¬ (x.1 = Str.ofString "~" ∧ x.2.1 = 0)) (hrow : row = rowS many x) (hlen : row.length ≤ 1000) :
    Claim w 8 82 [.str row t] Tabs (fun news news' r => KeepNT news news' ∧ Tabs news' ∧ DatIn news' r (.tuple [.int many, fnD x])) := by
  unfold Claim
  k_fill
  intro p loose mean mg mb dp un gd cn cs a ccd cl outer A₀ base h₀ L m news s Q E B F X N T hk hd hu hpre hret
  have hl : row.cps.toList = (tx many).cps.toList ++ 32 :: (x.1.cps.toList ++ 58 :: ((tx x.2.1).cps.toList ++ 40 :: (x.2.2.cps.toList ++ [41]))) := by rw [hrow]; exact rowA hA
  have hln : row.length = (tx many).cps.toList.length + (x.1.cps.toList.length + ((tx x.2.1).cps.toList.length + (x.2.2.cps.toList.length + 1 + 1) + 1) + 1) := by rw [len_cps, hl]; simp only [List.length_append, List.length_cons, List.length_nil]
  have hll := hx.ok.ll
  clear hrow
  refine wpAny_call ?_
  k_dflt cell_enter
  rename_i g L1 h1 FG F1 N1 B1 X1 T1
  refine wpAny_mono (E := fun _ _ => False) ?_ (fun _ _ h => h) (fun _ _ h => h.elim)
  replace F1 : Fr g L1 h1 (fun y => List.lookup y [(Str.ofString "row", Value.str row t)]) := F1
  (repeat' ((fail_if_success (first | (with_reducible show wpAny _ _ (call (Value.ref _) _ _) _ _ _) | (with_reducible show wpAny _ _ (exec (Stmt.While _ _ _ _) _) _ _ _))); first | (k_unfold; (try dsimp only)) | (k_end; wrow_close) | (dsimp only; walk1) | walk1))
  refine lastK w _ row _ _ _ _ 32 (by decide +kernel) (by (first | lia | omega)) _ _ _ _ _ _ _ _ _ _ _ _ _ _ _ _ _ _ _ _ _ _ _ B1 F1 X1 N1 T1 rfl (by ktr_room) (by ktr_units) hpre ?_
  rintro r news2 h2 tk2 F2 N2 hx13q
  refine foldG fun P14q hP14q => ?_
  obtain ⟨k2, tb2, b, tb, hb, rfl⟩ := hx13q
  refine hP14q ?_
  clear hP14q P14q
  try refine ckpt (g := s.gens) (d := s.drawn) (o := s.os) fun tk15q => ?_
  obtain rfl : b = ((tx many).cps.toList.length : Int) := last_mid (B2 := []) (by rw [hl, List.append_nil]) (by simp only [List.length_append, List.length_cons, List.length_nil]; (first | lia | omega)) (by
    simp only [List.mem_append, List.mem_cons, List.not_mem_nil, or_false, not_or]
    exact ⟨hx.f32, by decide, int_text_free' 32 ⟨by decide, by decide⟩ _, by decide, hx.n32, by decide⟩) hb
  (repeat' ((fail_if_success (first | (with_reducible show wpAny _ _ (call (Value.ref _) _ _) _ _ _) | (with_reducible show wpAny _ _ (exec (Stmt.While _ _ _ _) _) _ _ _))); first | (k_unfold; (try dsimp only)) | (k_end; wrow_close) | (dsimp only; walk1) | walk1))
  rename Fr g L1 _ _ => F3
  rename News g L1 _ _ => N3
  refine lastK w _ row _ _ _ _ 40 (by decide +kernel) (by (first | lia | omega)) _ _ _ _ _ _ _ _ _ _ _ _ _ _ _ _ _ _ _ _ _ _ _ B1 F3 X1 N3 T1 rfl (by ktr_room) (by ktr_units) tb2 ?_
  rintro r news4 h4 tk4 F4 N4 hx16q
  refine foldG fun P17q hP17q => ?_
  obtain ⟨k4, tb4, o, to, ho, rfl⟩ := hx16q
  refine hP17q ?_
  clear hP17q P17q
  try refine ckpt (g := s.gens) (d := s.drawn) (o := s.os) fun tk18q => ?_
  obtain rfl : o = (((tx many).cps.toList ++ 32 :: (x.1.cps.toList ++ 58 :: (tx x.2.1).cps.toList)).length : Int) := last_mid (B1 := x.2.2.cps.toList ++ [41]) (B2 := []) (by rw [hl]; simp only [List.append_assoc, List.cons_append, List.append_nil]) (by simp only [List.length_append, List.length_cons, List.length_nil]; (first | lia | omega)) (by
    simp only [List.mem_append, List.mem_cons, List.not_mem_nil, or_false, not_or]
    exact ⟨hx.n40, by decide⟩) ho
  (repeat' ((fail_if_success (first | (with_reducible show wpAny _ _ (call (Value.ref _) _ _) _ _ _) | (with_reducible show wpAny _ _ (exec (Stmt.While _ _ _ _) _) _ _ _))); first | (k_unfold; (try dsimp only)) | (k_end; wrow_close) | (dsimp only; walk1) | walk1))
  rename Fr g L1 _ _ => F5
  rename News g L1 _ _ => N5
  refine lastK w _ row _ _ _ _ 58 (by decide +kernel) (by (first | lia | omega)) _ _ _ _ _ _ _ _ _ _ _ _ _ _ _ _ _ _ _ _ _ _ _ B1 F5 X1 N5 T1 rfl (by ktr_room) (by ktr_units) tb4 ?_
  rintro r news6 h6 tk6 F6 N6 hx19q
  refine foldG fun P20q hP20q => ?_
  obtain ⟨k6, tb6, co, tco, hco, rfl⟩ := hx19q
  refine hP20q ?_
  clear hP20q P20q
  try refine ckpt (g := s.gens) (d := s.drawn) (o := s.os) fun tk21q => ?_
  obtain rfl : co = (((tx many).cps.toList ++ 32 :: x.1.cps.toList).length : Int) := last_mid (B1 := (tx x.2.1).cps.toList) (B2 := 40 :: (x.2.2.cps.toList ++ [41])) (by rw [hl]; simp only [List.append_assoc, List.cons_append]) (by simp only [List.length_append, List.length_cons, List.length_nil]; (first | lia | omega)) (int_text_free' 58 ⟨by decide, by decide⟩ _) hco
  clear hb ho hco
  have e1 : Txt.slice row none (some ((tx many).cps.toList.length : Int)) = tx many := by rw [slice_to hl rfl]
  have e2 : Txt.slice row (some ((((tx many).cps.toList ++ 32 :: x.1.cps.toList).length : Int) + 1)) (some (((tx many).cps.toList ++ 32 :: (x.1.cps.toList ++ 58 :: (tx x.2.1).cps.toList)).length : Int)) = tx x.2.1 := by
    rw [slice_mid (A := (tx many).cps.toList ++ 32 :: (x.1.cps.toList ++ [58])) (B := (tx x.2.1).cps.toList) (C := 40 :: (x.2.2.cps.toList ++ [41])) (by rw [hl]; simp only [List.append_assoc, List.cons_append, List.nil_append]) (by simp only [List.length_append, List.length_cons, List.length_nil]; (first | lia | omega)) (by simp only [List.length_append, List.length_cons, List.length_nil]; (first | lia | omega))]
  have e3 : Txt.slice row (some ((((tx many).cps.toList.length : Int) + 1))) (some (((tx many).cps.toList ++ 32 :: x.1.cps.toList).length : Int)) = x.1 := by
    rw [slice_mid (A := (tx many).cps.toList ++ [32]) (B := x.1.cps.toList) (C := 58 :: ((tx x.2.1).cps.toList ++ 40 :: (x.2.2.cps.toList ++ [41]))) (by rw [hl]; simp only [List.append_assoc, List.cons_append, List.nil_append]) (by simp only [List.length_append, List.length_cons, List.length_nil]; (first | lia | omega)) (by simp only [List.length_append, List.length_cons, List.length_nil]; (first | lia | omega))]
  have e4 : Txt.slice row (some ((((tx many).cps.toList ++ 32 :: (x.1.cps.toList ++ 58 :: (tx x.2.1).cps.toList)).length : Int) + 1)) (some (-1)) = x.2.2 := by
    rw [slice_from_last (A := (tx many).cps.toList ++ 32 :: (x.1.cps.toList ++ 58 :: ((tx x.2.1).cps.toList ++ [40]))) (B := x.2.2.cps.toList) (c := 41) (by rw [hl]; simp only [List.append_assoc, List.cons_append, List.nil_append]) (by simp only [List.length_append, List.length_cons, List.length_nil]; (first | lia | omega))]
  have e5 : Txt.slice row (some (-1)) none = ⟨#[41]⟩ := slice_last (A := (tx many).cps.toList ++ 32 :: (x.1.cps.toList ++ 58 :: ((tx x.2.1).cps.toList ++ 40 :: x.2.2.cps.toList))) (by rw [hl]; simp only [List.append_assoc, List.cons_append])
  (repeat' ((fail_if_success (first | (with_reducible show wpAny _ _ (call (Value.ref _) _ _) _ _ _) | (with_reducible show wpAny _ _ (exec (Stmt.While _ _ _ _) _) _ _ _))); first | (k_unfold; (try dsimp only)) | (k_end; wrow_close) | (dsimp only; walk1) | walk1))
  rename Fr g L1 _ _ => F7
  rename News g L1 _ _ => N7
  rw [e1, e2]
  refine glcK w many x.2.1 _ hm hll _ _ _ _ _ _ _ _ _ _ _ _ _ _ _ _ _ _ _ _ _ _ _ B1 F7 X1 N7 T1 rfl (by ktr_room) (by ktr_units) trivial ?_
  rintro r news8 h8 tk8 F8 N8 hx22q
  refine foldG fun P23q hP23q => ?_
  obtain ⟨Tu, t1, t2, rfl, rfl⟩ := hx22q
  refine hP23q ?_
  clear hP23q P23q
  try refine ckpt (g := s.gens) (d := s.drawn) (o := s.os) fun tk24q => ?_
  (repeat' ((fail_if_success (first | (with_reducible show wpAny _ _ (call (Value.ref _) _ _) _ _ _) | (with_reducible show wpAny _ _ (exec (Stmt.While _ _ _ _) _) _ _ _))); first | (k_unfold; (try dsimp only)) | (k_end; wrow_close) | (dsimp only; walk1) | walk1))
  · exfalso
    rename ((_ : Bool) = _) => hbad
    rw [e5] at hbad
    exact absurd hbad (by decide +kernel)
  rename Fr h₀ L _ _ => F9
  rename News h₀ L _ _ => N9
  refine hret _ _ _ _ F9 N9 ⟨(k2.trans (k4.trans k6)).trans fun p hp _ => .tail _ (.tail _ (.tail _ hp)), tb6.mono fun p hp => .tail _ (.tail _ (.tail _ hp)), ?_⟩
  refine DatIn.tuple (.head _) (.cons (.int _ _) (.cons (.tuple (.tail _ (.head _)) (.cons ?_ (.cons (.int _ _) (.cons ?_ .nil)))) .nil))
  · rw [e3]; exact .str _ _
  · rw [e4]; exact .str _ _
end Mine
end

/-! ## LStdB -/
section
theorem Mine.startLStdB : True := by
  w_top off
  trivial
open PySem PySem.W PyProof.Rows PySem.Calls PySem.Spec
set_option Elab.async false
namespace Mine
theorem std_no {x : Fn} (hx : Good x) (h : x.1 = Str.ofString "~" ∧ x.2.1 = 0) {c : Nat} (hc : c ∉ x.2.2.cps.toList) (h1 : c ≠ 123) (h2 : c ≠ 125) : c ∉ (stdS x).cps.toList := by
  cases hl : isLt x.2.2 with
  | true =>
    obtain ⟨B, hB, hs⟩ := std_lt h hl
    rw [hB] at hc
    rw [hs]
    simp only [List.mem_cons, List.mem_append, List.not_mem_nil, or_false, not_or] at hc ⊢
    exact ⟨h1, hc.2.1, h2⟩
  | false => rw [std_nlt h hl]; exact hc
theorem first_of {y : Str} {c : Nat} (h : Txt.slice y none (some 1) = ⟨#[c]⟩) : ∃ A, y.cps.toList = c :: A := by
  cases hc : y.cps.toList with
  | nil =>
    have := slice_gen y none (some 1)
    rw [h, hc] at this
    simp at this
  | cons a l =>
    rw [slice_first hc] at h
    injection h with h
    have := congrArg Array.toList h
    simp at this
    exact ⟨l, by rw [this]⟩
theorem last_of {y : Str} {c : Nat} (h : Txt.slice y (some (-1)) none = ⟨#[c]⟩) : ∃ A, y.cps.toList = A ++ [c] := by
  rcases List.eq_nil_or_concat y.cps.toList with hc | ⟨A, a, hc⟩
  · have := slice_gen y (some (-1)) none
    rw [h, hc] at this
    simp at this
  · rw [List.concat_eq_append] at hc
    rw [slice_last hc] at h
    injection h with h
    have := congrArg Array.toList h
    simp at this
    exact ⟨A, by rw [hc, this]⟩
/-- what a built-in's row reads as -/
theorem std_br {x : Fn} (hx : Good x) (h : x.1 = Str.ofString "~" ∧ x.2.1 = 0) : 
    ((Txt.slice (stdS x) none (some 1) = Str.ofString "{" → Txt.slice (stdS x) (some (-1)) none = Str.ofString "}" → Str.ofString "<" ++ Txt.slice (stdS x) (some 1) (some (-1)) ++ Str.ofString ">" = x.2.2)
    ∧ (¬ (Txt.slice (stdS x) none (some 1) = Str.ofString "{" ∧ Txt.slice (stdS x) (some (-1)) none = Str.ofString "}") → stdS x = x.2.2)
    ∧ (Txt.slice (stdS x) none (some 1) = Str.ofString "<" → Txt.slice (stdS x) (some (-1)) none = Str.ofString ">" → False)) := by
  cases hl : isLt x.2.2 with
  | true =>
    obtain ⟨B, hB, hs⟩ := std_lt h hl
    have e1 : Txt.slice (stdS x) none (some 1) = ⟨#[123]⟩ := slice_first hs
    have e2 : Txt.slice (stdS x) (some (-1)) none = ⟨#[125]⟩ := slice_last (A := 123 :: B) (by rw [hs]; rfl)
    rw [e1, e2, slice_from_last (lo := 1) (A := [123]) (B := B) (c := 125) hs rfl]
    refine ⟨fun _ _ => ?_, fun hn => ?_, fun hn => ?_⟩
    · apply str_eq
      rw [hB]
      simp only [cps_app, show (Str.ofString "<").cps.toList = [60] from rfl, show (Str.ofString ">").cps.toList = [62] from rfl]
      rfl
    · exact absurd ⟨by decide +kernel, by decide +kernel⟩ hn
    · exact absurd hn (by decide +kernel)
  | false =>
    have hs := std_nlt h hl
    rw [hs]
    refine ⟨fun h1 _ => ?_, fun _ => rfl, fun h1 h2 => ?_⟩
    · obtain ⟨A, hA⟩ := first_of (c := 123) (h1.trans (by decide +kernel))
      exact absurd (by rw [hA]; exact List.mem_cons_self ..) hx.n123
    · obtain ⟨A, hA⟩ := first_of (c := 60) (h1.trans (by decide +kernel))
      obtain ⟨C, hC⟩ := last_of (c := 62) (h2.trans (by decide +kernel))
      have : isLt x.2.2 = true := by
        unfold isLt
        rw [Bool.and_eq_true, show Str.ofString "<" = ⟨#[60]⟩ from by decide +kernel, show Str.ofString ">" = ⟨#[62]⟩ from by decide +kernel, swith_one, ewith_one]
        exact ⟨⟨_, hA⟩, ⟨_, hC⟩⟩
      rw [hl] at this; cases this
theorem nm1 {x : Fn} {y : Str} (hx : Good x) (h : x.1 = Str.ofString "~" ∧ x.2.1 = 0) (e : y = stdS x) (h1 : (Txt.slice y none (some 1) == Str.ofString "{") = true) (h2 : (Txt.slice y (some (-1)) none == Str.ofString "}") = true) : Str.ofString "<" ++ Txt.slice y (some 1) (some (-1)) ++ Str.ofString ">" = x.2.2 := by
  subst e; exact (std_br hx h).1 (eq_of_beq h1) (eq_of_beq h2)
theorem nm2 {x : Fn} {y : Str} (hx : Good x) (h : x.1 = Str.ofString "~" ∧ x.2.1 = 0) (e : y = stdS x) (h1 : (Txt.slice y none (some 1) == Str.ofString "{") = false) : y = x.2.2 := by
  subst e; exact (std_br hx h).2.1 fun q => by rw [q.1] at h1; revert h1; decide +kernel
theorem nm3 {x : Fn} {y : Str} (hx : Good x) (h : x.1 = Str.ofString "~" ∧ x.2.1 = 0) (e : y = stdS x) (h1 : (Txt.slice y (some (-1)) none == Str.ofString "}") = false) : y = x.2.2 := by
  subst e; exact (std_br hx h).2.1 fun q => by rw [q.2] at h1; revert h1; decide +kernel
theorem nm4 {x : Fn} {y : Str} (hx : Good x) (h : x.1 = Str.ofString "~" ∧ x.2.1 = 0) (e : y = stdS x) (h1 : (Txt.slice y none (some 1) == Str.ofString "<") = true) (h2 : (Txt.slice y (some (-1)) none == Str.ofString ">") = true) : False := by
  subst e; exact (std_br hx h).2.2 (eq_of_beq h1) (eq_of_beq h2)
theorem dot0 (n : Int) : tx n ++ Str.ofString ".0" = Str.ofString (toString n) ++ Str.ofString "." ++ Str.ofString (toString (0 : Int)) := by
  apply str_eq
  simp only [cps_app, List.append_assoc]
  rfl
end Mine
end

/-! ## LReadB -/
section
theorem Mine.startLReadB : True := by
  w_top off
  trivial
open PySem PySem.W PyProof.Rows PySem.Calls PySem.Spec
set_option Elab.async false
namespace Mine
theorem readB_end {news news4 : Led} {D C Tu : Addr} {o : Obj} {x : Fn} {many : Int} {n : Str} {t0 t1 t2 t3 : Tok} (hk : KeepNT news news4) (ht : Tabs news4) (h1 : x.1 = Str.ofString "~") (h2 : x.2.1 = 0) (h : n = x.2.2) :
    KeepNT news ((D, { cls := Value.type "tuple", data := Data.seq #[Value.int many t0, Value.ref C] }) :: (C, { cls := Value.type "tuple", data := Data.seq #[Value.str (Str.ofString "~") t1, Value.int 0 t2, Value.str n t3] }) :: (Tu, o) :: news4)
    ∧ Tabs ((D, { cls := Value.type "tuple", data := Data.seq #[Value.int many t0, Value.ref C] }) :: (C, { cls := Value.type "tuple", data := Data.seq #[Value.str (Str.ofString "~") t1, Value.int 0 t2, Value.str n t3] }) :: (Tu, o) :: news4)
    ∧ DatIn ((D, { cls := Value.type "tuple", data := Data.seq #[Value.int many t0, Value.ref C] }) :: (C, { cls := Value.type "tuple", data := Data.seq #[Value.str (Str.ofString "~") t1, Value.int 0 t2, Value.str n t3] }) :: (Tu, o) :: news4) (.ref D) (.tuple [.int many, fnD x]) := by
  refine ⟨hk.trans fun p hp _ => .tail _ (.tail _ (.tail _ hp)), ht.mono fun p hp => .tail _ (.tail _ (.tail _ hp)), ?_⟩
  unfold fnD
  rw [h1, h2, ← h]
  exact .tuple (vs := [.int many t0, .ref C]) (.head _) (.cons (.int _ _) (.cons (.tuple (vs := [.str _ t1, .int 0 t2, .str n t3]) (.tail _ (.head _)) (.cons (.str _ _) (.cons (.int _ _) (.cons (.str _ _) .nil)))) .nil))
theorem glcK' (w : World) (x y : Int) (t : Tok) (z : Str) (hx : x.natAbs < 10 ^ 20) (hy : y.natAbs < 10 ^ 20) (hz : z = Str.ofString (toString x) ++ Str.ofString "." ++ Str.ofString (toString y)) :
    Claim w 2 49 [.str z t] (fun _ => True)
      (fun news news' r => ∃ T t1 t2, r = .ref T ∧ news' = (T, tupO [.int x t1, .int y t2]) :: news) := by
  subst hz; exact glcK w x y t hx hy
/-- a statement's end: one text is stored -/
inductive MidT (g : Heap) (L : Addr) (s : Shared) (m : Str → Tok → Str → Option Value) (news : Led) (z : Str) (f : Flow) (s' : Shared) : Prop
  | mk (h' tk' nm tn) (hf : f = .next) (e : s' = { s with heap := h', toks := tk' }) (F : Fr g L h' (m nm tn)) (N : News g L h' news) (hn : nm = z) : MidT g L s m news z f s'
theorem fr_dup {g h : Heap} {L : Addr} {n : Str} {v1 v2 : Value} {m : Str → Option Value} (F : Fr g L h (fun y => if y = n then some v2 else if y = n then some v1 else m y)) : Fr g L h (fun y => if y = n then some v2 else m y) := by
  have e : (fun y => if y = n then some v2 else if y = n then some v1 else m y) = fun y => if y = n then some v2 else m y := by
    funext y
    by_cases h : y = n <;> simp [h]
  rw [← e]; exact F
theorem cutN {M : Model} {A : Around} {α : Type} {t : Sem α} {Q : α → Shared → Prop} {E : Value → Shared → Prop} {s : Shared} (Mid : α → Shared → Prop) (h1 : wpAny M A t Mid E s) (h2 : ∀ v s', Mid v s' → Q v s') : wpAny M A t Q E s := wpAny_mono h1 h2 fun _ _ h => h
set_option maxRecDepth 100000 in
set_option maxHeartbeats 8000000 in
theorem readB (w : World) (row : Str) (t : Tok) (many : Int) (x : Fn) (hm : many.natAbs < 10 ^ 20) (hx : Good x) (hA : x.1 = Str.ofString "~" ∧ x.2.1 = 0) (hrow : row = rowS many x) (hlen : row.length ≤ 1000) :
    Claim w 8 82 [.str row t] Tabs (fun news news' r => KeepNT news news' ∧ Tabs news' ∧ DatIn news' r (.tuple [.int many, fnD x])) := by
  unfold Claim
  k_fill
  intro p loose mean mg mb dp un gd cn cs a ccd cl outer A₀ base h₀ L m news s Q E B F X N T hk hd hu hpre hret
  have hl : row.cps.toList = (tx many).cps.toList ++ 32 :: (stdS x).cps.toList := by rw [hrow]; exact rowB
  have hln : row.length = (tx many).cps.toList.length + ((stdS x).cps.toList.length + 1) := by rw [len_cps, hl]; simp only [List.length_append, List.length_cons, List.length_nil]
  clear hrow
  refine wpAny_call ?_
  k_dflt cell_enter
  rename_i g L1 h1 FG F1 N1 B1 X1 T1
  refine wpAny_mono (E := fun _ _ => False) ?_ (fun _ _ h => h) (fun _ _ h => h.elim)
  replace F1 : Fr g L1 h1 (fun y => List.lookup y [(Str.ofString "row", Value.str row t)]) := F1
  (repeat' ((fail_if_success (first | (with_reducible show wpAny _ _ (call (Value.ref _) _ _) _ _ _) | (with_reducible show wpAny _ _ (exec (Stmt.While _ _ _ _) _) _ _ _))); first | (k_unfold; (try dsimp only)) | (k_end; wrow_close) | (dsimp only; walk1) | walk1))
  refine lastK w _ row _ _ _ _ 32 (by decide +kernel) (by omega) _ _ _ _ _ _ _ _ _ _ _ _ _ _ _ _ _ _ _ _ _ _ _ B1 F1 X1 N1 T1 rfl (by ktr_room) (by ktr_units) hpre ?_
  rintro r news2 h2 tk2 F2 N2 ⟨k2, tb2, b, tb, hb, rfl⟩
  obtain rfl : b = ((tx many).cps.toList.length : Int) := last_mid (B2 := []) (by rw [hl, List.append_nil]) (by omega) (std_no hx hA hx.n32 (by decide) (by decide)) hb
  (repeat' ((fail_if_success (first | (with_reducible show wpAny _ _ (call (Value.ref _) _ _) _ _ _) | (with_reducible show wpAny _ _ (exec (Stmt.While _ _ _ _) _) _ _ _))); first | (k_unfold; (try dsimp only)) | (k_end; wrow_close) | (dsimp only; walk1) | walk1))
  rename Fr g L1 _ _ => F3
  rename News g L1 _ _ => N3
  refine lastK w _ row _ _ _ _ 40 (by decide +kernel) (by omega) _ _ _ _ _ _ _ _ _ _ _ _ _ _ _ _ _ _ _ _ _ _ _ B1 F3 X1 N3 T1 rfl (by ktr_room) (by ktr_units) tb2 ?_
  rintro r news4 h4 tk4 F4 N4 ⟨k4, tb4, o, to, ho, rfl⟩
  obtain rfl : o = -1 := last_none (by
    rw [hl]
    simp only [List.mem_append, List.mem_cons, not_or]
    exact ⟨int_text_free' 40 ⟨by decide, by decide⟩ _, by decide, std_no hx hA hx.n40 (by decide) (by decide)⟩) ho
  clear hb ho
  have e1 : Txt.slice row none (some ((tx many).cps.toList.length : Int)) = tx many := by rw [slice_to hl rfl]
  have e2 : Txt.slice row (some (((tx many).cps.toList.length : Int) + 1)) none = stdS x := by
    rw [slice_from (A := (tx many).cps.toList ++ [32]) (B := (stdS x).cps.toList) (by rw [hl]; simp) (by simp)]
  repeat' ((fail_if_success (first
    | (with_reducible show wpAny _ _ (execs (Stmt.If (Expr.BoolOp _ _ _) _ _ _ :: _) _) _ _ _)
    | (with_reducible show wpAny _ _ (call (Value.ref _) _ _) _ _ _))); first | (k_unfold; (try dsimp only)) | (k_end; wrow_close) | (dsimp only; walk1) | walk1)
  dsimp only
  rename Fr g L1 _ _ => F5
  rename News g L1 _ _ => N5
  refine wpAny_execs_cons ?_
  refine cutN (MidT g L1 s (fun nm tn y => if y = Str.ofString "name" then some (Value.str nm tn) else if y = Str.ofString "opening" then some (Value.int (-1) to) else if y = Str.ofString "blank" then some (Value.int (tx many).cps.toList.length tb) else List.lookup y [(Str.ofString "row", Value.str row t)]) news4 x.2.2) ?_ ?_
  · (repeat' ((fail_if_success (first | (with_reducible show wpAny _ _ (call (Value.ref _) _ _) _ _ _) | (with_reducible show wpAny _ _ (exec (Stmt.While _ _ _ _) _) _ _ _))); first | (k_unfold; (try dsimp only)) | (k_end; wrow_close) | (dsimp only; walk1) | walk1))
    all_goals first
      | (exfalso; exact nm4 hx hA e2 (by with_reducible assumption) (by with_reducible assumption))
      | (refine ⟨_, _, _, _, rfl, rfl, by first | assumption | exact fr_dup (by assumption), by assumption, ?_⟩
         first
          | with_reducible exact nm1 hx hA e2 (by with_reducible assumption) (by with_reducible assumption)
          | with_reducible exact nm2 hx hA e2 (by with_reducible assumption)
          | with_reducible exact nm3 hx hA e2 (by with_reducible assumption))
  · clear F5 N5
    rintro f s' ⟨h5, tk5, nm, tn, rfl, rfl, F5, N5, hnm⟩
    replace F5 : Fr g L1 h5 (fun y => if y = Str.ofString "name" then some (Value.str nm tn) else if y = Str.ofString "opening" then some (Value.int (-1) to) else if y = Str.ofString "blank" then some (Value.int (tx many).cps.toList.length tb) else List.lookup y [(Str.ofString "row", Value.str row t)]) := F5
    dsimp only
    (repeat' ((fail_if_success (first | (with_reducible show wpAny _ _ (call (Value.ref _) _ _) _ _ _) | (with_reducible show wpAny _ _ (exec (Stmt.While _ _ _ _) _) _ _ _))); first | (k_unfold; (try dsimp only)) | (k_end; wrow_close) | (dsimp only; walk1) | walk1))
    rename Fr g L1 _ _ => F6
    rename News g L1 _ _ => N6
    refine glcK' w many 0 _ _ hm (by decide +kernel) (by rw [e1]; exact dot0 many) _ _ _ _ _ _ _ _ _ _ _ _ _ _ _ _ _ _ _ _ _ _ _ B1 F6 X1 N6 T1 rfl (by ktr_room) (by ktr_units) trivial ?_
    rintro r news8 h8 tk8 F8 N8 ⟨Tu, t1, t2, rfl, rfl⟩
    (repeat' ((fail_if_success (first | (with_reducible show wpAny _ _ (call (Value.ref _) _ _) _ _ _) | (with_reducible show wpAny _ _ (exec (Stmt.While _ _ _ _) _) _ _ _))); first | (k_unfold; (try dsimp only)) | (k_end; wrow_close) | (dsimp only; walk1) | walk1))
    rename Fr h₀ L _ _ => F9
    rename News h₀ L _ _ => N9
    exact hret _ _ _ _ F9 N9 (readB_end (k2.trans k4) tb4 hA.1 hA.2 hnm)
theorem readK (w : World) (t : Tok) (many : Int) (x : Fn) (hm : many.natAbs < 10 ^ 20) (hx : Good x) (hlen : (rowS many x).length ≤ 1000) :
    Claim w 8 82 [.str (rowS many x) t] Tabs (fun news news' r => KeepNT news news' ∧ Tabs news' ∧ DatIn news' r (.tuple [.int many, fnD x])) := by
  by_cases h : x.1 = Str.ofString "~" ∧ x.2.1 = 0
  · exact readB w _ t many x hm hx h rfl hlen
  · exact readA w _ t many x hm hx h rfl hlen
end Mine
end

/-! ## LKey -/
section
theorem Mine.startLKey : True := by
  w_top off
  trivial
open PySem PySem.W PyProof.Rows PySem.Calls PySem.Spec
set_option Elab.async false
namespace Mine
/-- a key's part: a text or an int -/
noncomputable abbrev MK := Sum Str Int
noncomputable def mkIs : MK → Value → Bool
  | .inl x, v => Value.isStrOf x v
  | .inr n, v => Value.isInt n v
theorem mkIs_shape {k : MK} {v : Value} (h : mkIs k v = true) : (∃ x t, k = .inl x ∧ v = .str x t) ∨ (∃ n t, k = .inr n ∧ v = .int n t) := by
  cases k with
  | inl x => obtain ⟨t, e⟩ := Value.isStrOf_shape h; exact .inl ⟨x, t, rfl, e⟩
  | inr n => obtain ⟨t, e⟩ := Value.isInt_shape h; exact .inr ⟨n, t, rfl, e⟩
noncomputable def mixKind (prog : Program) (w : World) : KeyKind prog w MK where
  is := mkIs
  hash := fun k => match k with | .inl x => hashStr w x | .inr n => hashInt n
  inj := fun v a b ha hb => by
    rcases mkIs_shape ha with ⟨x, t, rfl, rfl⟩ | ⟨n, t, rfl, rfl⟩ <;> rcases mkIs_shape hb with ⟨y, u, rfl, e⟩ | ⟨m, u, rfl, e⟩ <;> first | (injection e with e1; rw [e1]) | cases e
  byValue := fun k v h => by rcases mkIs_shape h with ⟨x, t, rfl, rfl⟩ | ⟨n, t, rfl, rfl⟩ <;> rfl
  pyHash := fun hv h => by
    rcases mkIs_shape hv with ⟨x, t, rfl, rfl⟩ | ⟨n, t, rfl, rfl⟩
    · exact wpAny_pyHash_str h
    · exact wpAny_pyHash_int h
  eqBool := fun hu hv h => by
    rcases mkIs_shape hu with ⟨x, t, rfl, rfl⟩ | ⟨n, t, rfl, rfl⟩ <;> rcases mkIs_shape hv with ⟨y, u, rfl, rfl⟩ | ⟨m, u, rfl, rfl⟩
    · refine wpAny_eqBool_str ?_
      rw [show decide (x = y) = decide ((Sum.inl x : MK) = Sum.inl y) by simp]; exact h
    · refine SeqAt.EqAt.str_int x t m u _ _ _ _ ?_
      rw [show false = decide ((Sum.inl x : MK) = Sum.inr m) by simp]; exact h
    · refine SeqAt.EqAt.int_str n t y u _ _ _ _ ?_
      rw [show false = decide ((Sum.inr n : MK) = Sum.inl y) by simp]; exact h
    · refine wpAny_eqBool_int ?_
      have e : (n == m) = decide ((Sum.inr n : MK) = Sum.inr m) := by rw [Bool.eq_iff_iff]; simp
      rw [e]; exact h
  «strs» := fun k x t v h => by
    rcases mkIs_shape h with ⟨y, u, rfl, e⟩ | ⟨n, u, rfl, e⟩
    · injection e with e; subst e; cases v <;> rfl
    · cases e
noncomputable def fnKey (x : Fn) : List MK := [.inl x.1, .inr x.2.1, .inl x.2.2]
theorem fnKey_inj {x y : Fn} : fnKey x = fnKey y ↔ x = y := by
  constructor
  · intro h
    unfold fnKey at h
    injection h with h1 h; injection h with h2 h; injection h with h3 _
    injection h1 with h1; injection h2 with h2; injection h3 with h3
    obtain ⟨a, b, c⟩ := x
    obtain ⟨a', b', c'⟩ := y
    dsimp only at h1 h2 h3
    rw [h1, h2, h3]
  · rintro rfl; rfl
noncomputable abbrev FK (w : World) : HeapKind PySem.Challenge.rw_ny0043_01.row.prog w (List MK) := tupleKind (mixKind _ w)
/-- a function in the ledger is a key -/
theorem key_of {w : World} {h₀ h : Heap} {L a : Addr} {news : Led} {x : Fn} (N : News h₀ L h news) (D : DatIn news (.ref a) (fnD x)) : (FK w).is h (fnKey x) a := by
  obtain ⟨f, l, n⟩ := x
  unfold fnD at D
  generalize hd : Dat.tuple [.str f, .int l, .str n] = d at D
  generalize hv : Value.ref a = v at D
  cases D with
  | tuple hm ha =>
    injection hv with hv; subst hv
    injection hd with hd; subst hd
    cases ha with
    | cons h1 h2 =>
      cases h2 with
      | cons h3 h4 =>
        cases h4 with
        | cons h5 h6 =>
          cases h6
          cases h1; cases h3; cases h5
          refine ⟨_, _, _, (N _ hm).1, rfl, rfl, ?_⟩
          refine .cons ?_ (.cons ?_ (.cons ?_ .nil)) <;> simp [mixKind, mkIs, Value.isStrOf, Value.isInt]
  | _ => first | cases hd | cases hv
end Mine
end

/-! ## LTbl -/
section
theorem Mine.startLTbl : True := by
  w_top off
  trivial
open PySem PySem.W PyProof.Rows PySem.Calls PySem.Spec
set_option Elab.async false
namespace Mine
/-- a table's entry: the function, its key's address, the count, its token -/
noncomputable abbrev Ro := Fn × Addr × Int × Tok
noncomputable def roH (y : Ro) : List MK × Addr × Value := (fnKey y.1, y.2.1, .int y.2.2.1 y.2.2.2)
structure TblAt (w : World) (news : Led) (d : Addr) (ys : List Ro) : Prop where
  lo : (d == sysModules) = false
  obj : ∃ o es ep, (d, o) ∈ news ∧ o.ExactDict ∧ o.data = .dict es ep ∧ es.toList = (ys.map roH).map (entryOfKey (FK w))
  keys : ∀ y ∈ ys, DatIn news (.ref y.2.1) (fnD y.1)
  nd : (ys.map (·.1)).Nodup
noncomputable def roX (y : Ro) : Fn × Int := (y.1, y.2.2.1)
noncomputable def Tbl (w : World) (news : Led) (d : Addr) (xs : List (Fn × Int)) : Prop := ∃ ys, TblAt w news d ys ∧ ys.map roX = xs
noncomputable def put (ys : List Ro) (x : Fn) (a : Addr) (n : Int) (t : Tok) : List Ro :=
  if (ys.any fun y => decide (y.1 = x)) = true then ys.map (fun y => if y.1 = x then (y.1, y.2.1, n, t) else y) else ys ++ [(x, a, n, t)]
theorem roH_keys (ys : List Ro) : (ys.map roH).map (·.1) = (ys.map (·.1)).map fnKey := by simp [List.map_map, roH, Function.comp_def]
theorem nodup_keys {ys : List Ro} (h : (ys.map (·.1)).Nodup) : ((ys.map roH).map (·.1)).Nodup := by
  rw [roH_keys]
  exact List.Pairwise.map _ (fun a b hab e => hab (fnKey_inj.mp e)) h
theorem atKey_ro (ys : List Ro) (x : Fn) : atKey (ys.map roH) (fnKey x) = (ys.find? fun y => decide (y.1 = x)).map fun y => (y.2.1, Value.int y.2.2.1 y.2.2.2) := by
  induction ys with
  | nil => rfl
  | cons y ys ih =>
    by_cases h : y.1 = x
    · simp [atKey, roH, h]
    · have h' : ¬ fnKey y.1 = fnKey x := fun e => h (fnKey_inj.mp e)
      simp [atKey, roH, h, h'] at ih ⊢
      exact ih
theorem some_any (ys : List Ro) (x : Fn) : (atKey (ys.map roH) (fnKey x)).isSome = ys.any fun y => decide (y.1 = x) := by
  rw [atKey_ro, Option.isSome_map, List.isSome_find?]
theorem put_storedH (ys : List Ro) (x : Fn) (a : Addr) (n : Int) (t : Tok) : storedH (ys.map roH) (fnKey x) a (.int n t) = (put ys x a n t).map roH := by
  unfold storedH put
  rw [some_any]
  split
  · rw [List.map_map, List.map_map]
    refine List.map_congr_left fun y _ => ?_
    by_cases h : y.1 = x
    · simp [putAt, roH, h]
    · have h' : ¬ fnKey y.1 = fnKey x := fun e => h (fnKey_inj.mp e)
      simp [putAt, roH, h, h']
  · simp [roH]
theorem put_mem {ys : List Ro} {x : Fn} {a : Addr} {n : Int} {t : Tok} {z : Ro} (h : z ∈ put ys x a n t) : (∃ y ∈ ys, z.1 = y.1 ∧ z.2.1 = y.2.1) ∨ (z.1 = x ∧ z.2.1 = a) := by
  unfold put at h
  split at h
  · obtain ⟨y, hy, rfl⟩ := List.mem_map.mp h
    refine .inl ⟨y, hy, ?_⟩
    split <;> exact ⟨rfl, rfl⟩
  · rcases List.mem_append.mp h with h | h
    · exact .inl ⟨z, h, rfl, rfl⟩
    · rw [List.mem_singleton.mp h]; exact .inr ⟨rfl, rfl⟩
section
variable {w : World} {h₀ : Heap} {L d a : Addr} {news : Led} {ys : List Ro} {x : Fn} {A : Around} {E : Value → Shared → Prop} {s : Shared} {m : Str → Option Value}
theorem TblAt.dict {h : Heap} (T : TblAt w news d ys) (N : News h₀ L h news) : h.DictOfH (FK w) d (ys.map roH) := by
  obtain ⟨o, es, ep, hm, hc, hd, he⟩ := T.obj
  refine ⟨o, es, ep, (N _ hm).1, hc, hd, he, fun z hz => ?_, nodup_keys T.nd⟩
  obtain ⟨y, hy, rfl⟩ := List.mem_map.mp hz
  exact key_of N (T.keys y hy)
theorem TblAt.mono {news' : Led} (T : TblAt w news d ys) (h : ∀ p ∈ news, p ∈ news') : TblAt w news' d ys :=
  let ⟨o, es, ep, hm, hc⟩ := T.obj
  ⟨T.lo, ⟨o, es, ep, h _ hm, hc⟩, fun y hy => (T.keys y hy).mono h, T.nd⟩
theorem Tbl.mono {news' : Led} {xs : List (Fn × Int)} (T : Tbl w news d xs) (h : ∀ p ∈ news, p ∈ news') : Tbl w news' d xs := let ⟨ys, T, e⟩ := T; ⟨ys, T.mono h, e⟩
/-- a function's tuple stays when a dict is changed -/
theorem datFn_keep {news' : Led} {h : Heap} {o : Obj} {es ep} (N : News h₀ L h news) (hm : (d, o) ∈ news) (hd : o.data = .dict es ep) (hk : ∀ p ∈ news, p.1 ≠ d → p ∈ news') (D : DatIn news (.ref a) (fnD x)) : DatIn news' (.ref a) (fnD x) := by
  obtain ⟨f, l, n⟩ := x
  unfold fnD at D ⊢
  generalize hdd : Dat.tuple [.str f, .int l, .str n] = dd at D ⊢
  generalize hv : Value.ref a = v at D ⊢
  cases D with
  | tuple hm' ha =>
    injection hdd with hdd; subst hdd
    refine .tuple (hk _ hm' ?_) ?_
    · rintro rfl
      have e : o = _ := Option.some.inj ((N _ hm).1.symm.trans (N _ hm').1)
      rw [e] at hd
      cases hd
    · cases ha with
      | cons h1 h2 =>
        cases h2 with
        | cons h3 h4 =>
          cases h4 with
          | cons h5 h6 =>
            cases h6
            cases h1; cases h3; cases h5
            exact .cons (.str _ _) (.cons (.int _ _) (.cons (.str _ _) .nil))
  | _ => first | cases hdd | cases hv
theorem tbl_in {Q : Value → Shared → Prop} (hu : A.units + 1 < cLine) (N : News h₀ L s.heap news) (T : TblAt w news d ys) (D : DatIn news (.ref a) (fnD x))
    (h : ∀ tk, Q (.bool (ys.any fun y => decide (y.1 = x))) { s with toks := tk }) : wpAny (model PySem.Challenge.rw_ny0043_01.row.prog w) A (compareOp .In (.ref a) (.ref d)) Q E s := by
  refine wpAny_in_heap (knd := FK w) (tupleKind_room_in1 hu) (key_of N D) T.lo (T.dict N) ?_
  rw [some_any]; exact h _
theorem tbl_get {Q : Value → Shared → Prop} {y : Ro} (hu : A.units + 1 < cLine) (N : News h₀ L s.heap news) (T : TblAt w news d ys) (D : DatIn news (.ref a) (fnD x)) (hy : (ys.find? fun y => decide (y.1 = x)) = some y)
    (h : ∀ tk, Q (.int y.2.2.1 y.2.2.2) { s with toks := tk }) : wpAny (model PySem.Challenge.rw_ny0043_01.row.prog w) A (getItem (.ref d) (.ref a)) Q E s := by
  refine wpAny_getItem_heap (knd := FK w) (p := (y.2.1, .int y.2.2.1 y.2.2.2)) (tupleKind_room_in1 hu) (key_of N D) (T.dict N) ?_ (h _)
  rw [atKey_ro, hy]; rfl
theorem tbl_after {h : Heap} {o' : Obj} {es' ep'} (F : Fr h₀ L s.heap m) (N : News h₀ L s.heap news) (T : TblAt w news d ys) (D : DatIn news (.ref a) (fnD x)) (n : Int) (t : Tok)
    (hs : Heap.SameBut d s.heap h) (ho' : h.get? d = some o') (hc' : o'.ExactDict) (hd' : o'.data = .dict es' ep') (he' : es'.toList = (storedH (ys.map roH) (fnKey x) a (.int n t)).map (entryOfKey (FK w))) (hn' : ((storedH (ys.map roH) (fnKey x) a (.int n t)).map (·.1)).Nodup) :
    ∃ news', Fr h₀ L h m ∧ News h₀ L h news' ∧ TblAt w news' d (put ys x a n t) ∧ ∀ p ∈ news, p.1 ≠ d → p ∈ news' := by
  obtain ⟨o, es, ep, hm, hc, hd, he⟩ := id T.obj
  have keep : ∀ p ∈ news, p.1 ≠ d → p ∈ news.map fun p => if p.1 = d then (d, o') else p := fun p hp hpd => List.mem_map.mpr ⟨p, hp, by simp [hpd]⟩
  refine ⟨news.map fun p => if p.1 = d then (d, o') else p, F.change hs (N _ hm).2.1 (N.fresh hm), N.replace hs ho', ⟨T.lo, ⟨o', es', ep', List.mem_map.mpr ⟨(d, o), hm, by simp⟩, hc', hd', by rw [he', put_storedH]⟩, fun z hz => ?_, ?_⟩, keep⟩
  · rcases put_mem hz with ⟨y, hy, e1, e2⟩ | ⟨e1, e2⟩
    · rw [e1, e2]; exact datFn_keep N hm hd keep (T.keys y hy)
    · rw [e1, e2]; exact datFn_keep N hm hd keep D
  · rw [put_storedH, roH_keys] at hn'
    exact (List.pairwise_map.mp hn').imp fun {a b} hab e => hab (congrArg fnKey e)
theorem tbl_set {Q : Unit → Shared → Prop} {n : Int} {t : Tok} (hu : A.units + 1 < cLine) (F : Fr h₀ L s.heap m) (N : News h₀ L s.heap news) (T : TblAt w news d ys) (D : DatIn news (.ref a) (fnD x))
    (hsz : ys.length ≤ sizeLine) (h : ∀ h' tk news', Fr h₀ L h' m → News h₀ L h' news' → TblAt w news' d (put ys x a n t) → (∀ p ∈ news, p.1 ≠ d → p ∈ news') → Q () { s with heap := h', toks := tk }) :
    wpAny (model PySem.Challenge.rw_ny0043_01.row.prog w) A (setItem (.ref d) (.ref a) (.int n t)) Q E s := by
  refine wpAny_setItem_heap (knd := FK w) (hsz := by rw [List.length_map]; exact hsz) (tupleKind_room_in1 hu) (key_of N D) (T.dict N) fun h' hm' hs => ?_
  obtain ⟨o', es', ep', ho', hc', hd', he', _, hn'⟩ := hm'
  obtain ⟨news', F', N', T', k'⟩ := tbl_after F N T D n t hs ho' hc' hd' he' hn'
  exact h _ _ news' F' N' T' k'
theorem tbl_dset {Q : Unit → Shared → Prop} {n : Int} {t : Tok} (hu : A.units < cLine) (F : Fr h₀ L s.heap m) (N : News h₀ L s.heap news) (T : TblAt w news d ys) (D : DatIn news (.ref a) (fnD x))
    (hsz : ys.length ≤ sizeLine) (h : ∀ h' tk news', Fr h₀ L h' m → News h₀ L h' news' → TblAt w news' d (put ys x a n t) → (∀ p ∈ news, p.1 ≠ d → p ∈ news') → Q () { s with heap := h', toks := tk }) :
    wpAny (model PySem.Challenge.rw_ny0043_01.row.prog w) A (dictSet d (.ref a) (.int n t)) Q E s := by
  refine wpAny_dictSet_heap (knd := FK w) (hsz := by rw [List.length_map]; exact hsz) hu (key_of N D) (T.dict N) fun h' hm' hs => ?_
  obtain ⟨o', es', ep', ho', hc', hd', he', _, hn'⟩ := hm'
  obtain ⟨news', F', N', T', k'⟩ := tbl_after F N T D n t hs ho' hc' hd' he' hn'
  exact h _ _ news' F' N' T' k'
end
end Mine
end

/-! ## LItems -/
section
theorem Mine.startLItems : True := by
  w_top off
  trivial
open PySem PySem.W PyProof.Rows PySem.Calls PySem.Spec
set_option Elab.async false
namespace Mine
/-- a dict's raw entries -/
noncomputable def RawD (h : Heap) (d : Addr) (es : Array DictEntry) (ep : Nat) : Prop := ∃ o, h.get? d = some o ∧ o.ExactDict ∧ o.data = .dict es ep
section
variable {prog : Program} {w : World} {A : Around} {E : Value → Shared → Prop} {s : Shared}
theorem raw_iter {v d : Addr} {es : Array DictEntry} {ep : Nat} {Q : Value → Shared → Prop} (hv : s.heap.IsItemsView v d) (hm : RawD s.heap d es ep)
    (hQ : Q (.ref s.heap.objs.size) { s with heap := s.heap.push { cls := .type "dict_itemiterator", data := .fields #[.none, .bool false, .ref d, .int 0 0, .int es.size 0, .int ep 0, .none, .none] } }) :
    wpAny (model prog w) A (pyIter (.ref v)) Q E s := by
  obtain ⟨ov, hov, hcv, hdv⟩ := id hv
  obtain ⟨o, ho, hc, hdat⟩ := id hm
  refine wpAny_pyIter_slot hv.typeIs PySem.F.slot_dict_items_iter (wpAny_call_entry PySem.F.slot_dict_items_iter hv.typeIs PySem.F.entry_dict_items_iter ?_ (PySem.F.args_dict_items_iter_1 _))
  unfold Builtin.«dict_items.__iter__»
  refine wpAny_bind (wpAny_pure ?_)
  refine wpAny_bind ?_
  unfold Builtin.Dict_items.dictOf
  refine wpAny_bind (wpAny_field hov hdv (x := .ref d) rfl (wpAny_pure ?_))
  refine wpAny_bind ?_
  unfold Builtin.Dict_items.newIterator
  refine wpAny_bind (wpAny_dictEntries ho hdat ?_)
  refine wpAny_bind (wpAny_dictEpoch ho hdat ?_)
  have hown : Builtin.Dict_items.ownsTuple "dict_itemiterator" = true := by decide
  simp only [hown, if_true]
  refine wpAny_newObj_type (wpAny_pure ⟨_, rfl, "dict_itemiterator", _, ⟨_, Heap.get?_push_size _ rfl, rfl⟩, PySem.F.slot_dict_itemiterator_next.lookup, ?_⟩)
    (by simp only [sizeOk, Builtin.Dict_items.ownedTupleFields, List.size_toArray, List.length_append, List.length_cons, List.length_nil, sizeLine_eq]; (first | lia | omega))
  simpa [rawInt, Builtin.Dict_items.ownedTupleFields] using hQ
theorem raw_next {it d : Addr} {i ep : Nat} {es : Array DictEntry} {e : DictEntry} {ok ov : Value} {Q : Option Value → Shared → Prop} (hit : IsItemIter s.heap it d i es.size ep ok ov)
    (hm : RawD s.heap d es ep) (hx : es[i]? = some e)
    (hQ : ∀ h', IsItemIterOut h' it d (i + 1) es.size ep e.key e.val s.heap.objs.size →
      h'.get? s.heap.objs.size = some { cls := .type "tuple", data := .seq #[e.key, e.val] } → h'.objs.size = s.heap.objs.size + 1 →
      (∀ b o, b ≠ it → s.heap.get? b = some o → h'.get? b = some o) → Q (some (.ref s.heap.objs.size)) { s with heap := h' }) :
    wpAny (model prog w) A (pyNext (.ref it)) Q E s := by
  obtain ⟨hp, g, dr, tk, os⟩ := s
  obtain ⟨od, hod, hcd, hdd⟩ := id hm
  have hT : Shared.TypeIs ⟨hp, g, dr, tk, os⟩ (.ref it) "dict_itemiterator" := ⟨_, hit, rfl⟩
  unfold pyNext
  refine wpAny_bind (wpAny_attempt (wpAny_callSpecial?_slot (name := Str.ofString "__next__") hT PySem.F.slot_dict_itemiterator_next
    (wpAny_call_entry PySem.F.slot_dict_itemiterator_next hT PySem.F.entry_dict_itemiterator_next ?_ (PySem.F.args_dict_itemiterator_next_1 _))))
  refine wpAny_bind (wpAny_pure ?_)
  refine wpAny_bind ?_
  refine wpAny_bind ?_
  first | refine wpAny_bind (wpAny_typeNameOfWhole_itemiter hT (wpAny_pure ?_)) | refine wpAny_bind (wpAny_typeNameOf_itemiter hT (wpAny_pure ?_))
  refine wpAny_bind (wpAny_fieldsOf hit rfl ?_)
  have hown : Builtin.Dict_items.ownsTuple "dict_itemiterator" = true := by decide
  simp only [hown, if_true]
  show wpAny _ _ (if (Value.ref d == Value.none) = true then _ else _) _ _ _
  rw [if_neg (show ¬ ((Value.ref d == Value.none) = true) from Bool.false_ne_true)]
  refine wpAny_bind (wpAny_pure ?_)
  refine wpAny_bind (wpAny_dictEntries hod hdd ?_)
  rw [if_neg (by simp)]
  refine wpAny_bind (wpAny_pure ?_)
  refine wpAny_bind (wpAny_dictEpoch hod hdd ?_)
  rw [if_neg (by simp)]
  refine wpAny_pure ?_
  simp only [show ¬ ((i : Int) < 0) from by (first | lia | omega), if_false, Int.toNat_natCast, hx]
  refine wpAny_bind ?_
  first | refine wpAny_bind (wpAny_typeNameOfWhole_itemiter hT (wpAny_pure ?_)) | refine wpAny_bind (wpAny_typeNameOf_itemiter hT (wpAny_pure ?_))
  refine wpAny_bind (wpAny_isOneOf_itemiter hT ?_)
  show wpAny _ _ (setField (.ref it) 3 (rawInt ((i : Int) + 1)) >>= _) _ _ ⟨hp, g, dr, tk, os⟩
  refine wpAny_bind (wpAny_setField_rec hit (by simp) fun h₁ he₁ hs₁ => ?_)
  replace hs₁ : Heap.SameBut it hp h₁ := hs₁
  replace he₁ : IsItemIter h₁ it d (i + 1) es.size ep ok ov := by
    have e : ((i + 1 : Nat) : Int) = (i : Int) + 1 := by (first | lia | omega)
    unfold IsItemIter; rw [e]; simpa [rawInt] using he₁
  have hT₁ : Shared.TypeIs ⟨h₁, g, dr, tk, os⟩ (.ref it) "dict_itemiterator" := ⟨_, he₁, rfl⟩
  refine wpAny_bind (wpAny_holding ?_)
  refine wpAny_bind (wpAny_isOneOf_itemiter hT₁ ?_)
  refine wpAny_bind (wpAny_isOneOf_itemiter hT₁ ?_)
  show wpAny _ _ (Builtin.Dict_items.pairFromOwner (.ref it) 6 e.key e.val) _ _ ⟨h₁, g, dr, tk, os⟩
  unfold Builtin.Dict_items.pairFromOwner
  refine wpAny_bind (wpAny_newTuple ?_)
  have he₂ : IsItemIter (h₁.push { cls := .type "tuple", data := .seq #[e.key, e.val] }) it d (i + 1) es.size ep ok ov := Heap.get?_push_of_some _ he₁
  generalize hh₂ : h₁.push { cls := .type "tuple", data := .seq #[e.key, e.val] } = h₂ at he₂
  have hz₁ : h₁.objs.size = hp.objs.size := hs₁.1
  have hil : it < hp.objs.size := Heap.lt_size hit
  have ht₂ : h₂.get? hp.objs.size = some { cls := .type "tuple", data := .seq #[e.key, e.val] } := by rw [← hh₂, ← hz₁]; exact Heap.get?_push_size _ rfl
  have hz₂ : h₂.objs.size = hp.objs.size + 1 := by rw [← hh₂, Heap.size_push, hz₁]
  have hk₂ : ∀ b o, b ≠ it → hp.get? b = some o → h₂.get? b = some o := fun b o hb e => by rw [← hh₂]; exact Heap.get?_push_of_some _ (hs₁.extBut b o hb e)
  show wpAny _ _ (Builtin.Dict_items.ownedTupleIsFree (.ref it) >>= _) _ _ ⟨h₂, g, dr, tk, os⟩
  rw [hz₁]
  clear hh₂ he₁ hs₁ hT₁ hz₁ h₁
  refine wpAny_bind ?_
  unfold Builtin.Dict_items.ownedTupleIsFree
  refine wpAny_bind (wpAny_field he₂ rfl (x := .none) rfl (wpAny_pure ?_))
  simp only [if_true]
  refine wpAny_bind (wpAny_field he₂ rfl (x := ok) rfl ?_)
  refine wpAny_bind (wpAny_field he₂ rfl (x := ov) rfl ?_)
  refine wpAny_bind (wpAny_setField_rec he₂ (by simp) fun h₃ he₃ hs₃ => ?_)
  replace hs₃ : Heap.SameBut it h₂ h₃ := hs₃
  replace he₃ : IsItemIter h₃ it d (i + 1) es.size ep e.key ov := he₃
  refine wpAny_bind (wpAny_setField_rec he₃ (by simp) fun h₄ he₄ hs₄ => ?_)
  replace hs₄ : Heap.SameBut it h₃ h₄ := hs₄
  replace he₄ : IsItemIter h₄ it d (i + 1) es.size ep e.key e.val := he₄
  refine wpAny_bind (wpAny_setField_rec he₄ (by simp) fun h₅ he₅ hs₅ => ?_)
  replace hs₅ : Heap.SameBut it h₄ h₅ := hs₅
  replace he₅ : IsItemIterOut h₅ it d (i + 1) es.size ep e.key e.val hp.objs.size := he₅
  refine wpAny_bind (wpAny_setField_rec he₅ (by simp) fun h₆ he₆ hs₆ => ?_)
  replace hs₆ : Heap.SameBut it h₅ h₆ := hs₆
  replace he₆ : IsItemIterOut h₆ it d (i + 1) es.size ep e.key e.val hp.objs.size := he₆
  refine wpAny_bind (wpAny_letGo (wpAny_pure (wpAny_pure ⟨_, rfl, wpAny_pure (hQ h₆ he₆ ?_ ?_ ?_)⟩)))
  · exact hs₆.extBut _ _ (Nat.ne_of_gt hil) (hs₅.extBut _ _ (Nat.ne_of_gt hil) (hs₄.extBut _ _ (Nat.ne_of_gt hil) (hs₃.extBut _ _ (Nat.ne_of_gt hil) ht₂)))
  · show h₆.objs.size = hp.objs.size + 1
    rw [hs₆.1, hs₅.1, hs₄.1, hs₃.1, hz₂]
  · exact fun b o hb e => hs₆.extBut b o hb (hs₅.extBut b o hb (hs₄.extBut b o hb (hs₃.extBut b o hb (hk₂ b o hb e))))
theorem raw_end {it d : Addr} {i ep : Nat} {es : Array DictEntry} {ok ov : Value} {Q : Option Value → Shared → Prop} (hh : A.handled = none) (hit : IsItemIter s.heap it d i es.size ep ok ov)
    (hm : RawD s.heap d es ep) (hx : es[i]? = none)
    (hQ : ∀ h', Heap.ExtBut it s.heap h' → Q none { s with heap := h' }) : wpAny (model prog w) A (pyNext (.ref it)) Q E s := by
  obtain ⟨od, hod, hcd, hdd⟩ := id hm
  have hT : s.TypeIs (.ref it) "dict_itemiterator" := ⟨_, hit, rfl⟩
  unfold pyNext
  refine wpAny_bind (wpAny_attempt (wpAny_callSpecial?_slot (name := Str.ofString "__next__") hT PySem.F.slot_dict_itemiterator_next
    (wpAny_call_entry PySem.F.slot_dict_itemiterator_next hT PySem.F.entry_dict_itemiterator_next ?_ (PySem.F.args_dict_itemiterator_next_1 _))))
  refine wpAny_bind (wpAny_pure ?_)
  refine wpAny_bind ?_
  refine wpAny_bind ?_
  first | refine wpAny_bind (wpAny_typeNameOfWhole_itemiter hT (wpAny_pure ?_)) | refine wpAny_bind (wpAny_typeNameOf_itemiter hT (wpAny_pure ?_))
  refine wpAny_bind (wpAny_fieldsOf hit rfl ?_)
  have hown : Builtin.Dict_items.ownsTuple "dict_itemiterator" = true := by decide
  simp only [hown, if_true]
  show wpAny _ _ (if (Value.ref d == Value.none) = true then _ else _) _ _ s
  rw [if_neg (show ¬ ((Value.ref d == Value.none) = true) from Bool.false_ne_true)]
  refine wpAny_bind (wpAny_pure ?_)
  refine wpAny_bind (wpAny_dictEntries hod hdd ?_)
  rw [if_neg (by simp)]
  refine wpAny_bind (wpAny_pure ?_)
  refine wpAny_bind (wpAny_dictEpoch hod hdd ?_)
  rw [if_neg (by simp)]
  refine wpAny_pure ?_
  simp only [show ¬ ((i : Int) < 0) from by (first | lia | omega), if_false, Int.toNat_natCast, hx]
  refine wpAny_bind ?_
  first | refine wpAny_bind (wpAny_typeNameOfWhole_itemiter hT (wpAny_pure ?_)) | refine wpAny_bind (wpAny_typeNameOf_itemiter hT (wpAny_pure ?_))
  show wpAny _ _ (setField (.ref it) 2 .none >>= _) _ _ s
  refine wpAny_bind (wpAny_setField hit rfl (by simp) ?_)
  show wpAny _ _ (newExc (.type "StopIteration") [] >>= _) _ _ _
  refine wpAny_bind ?_
  simp only [newExc, newTuple]
  refine wpAny_bind (wpAny_newObj_type ?_ (by size_fits))
  refine wpAny_bind (m := firstArgMember _ _) (wpAny_of_eq (a := Value.none) (by first | rfl | (simp only [firstArgMember]; rfl)) ?_)
  refine wpAny_newObj_type ?_ (by size_fits)
  simp only [raiseNew]
  refine wpAny_bind (wpAny_handled ?_)
  rw [show A.in1.handled = none from hh]
  refine wpAny_bind (wpAny_pure (wpAny_throw ?_))
  refine wpAny_bind (wpAny_isInstance (T := "StopIteration") (b := true) ⟨_, Heap.get?_push_size _ rfl, rfl⟩ isSubtype_stop ?_)
  exact wpAny_pure (hQ _ (((Heap.SameBut.update ..).extBut.push _).push _))
end
end Mine
end

/-! ## LTurns -/
section
theorem Mine.startLTurns : True := by
  w_top off
  trivial
open PySem PySem.W PyProof.Rows PySem.Calls PySem.Spec
set_option Elab.async false
namespace Mine
theorem RawD.at {h h' : Heap} {d : Addr} {es : Array DictEntry} {ep : Nat} (r : RawD h d es ep) (hk : ∀ o, h.get? d = some o → h'.get? d = some o) : RawD h' d es ep := let ⟨o, ho, x⟩ := r; ⟨o, hk o ho, x⟩
section
variable {prog : Program} {w : World} {A : Around} {E : Value → Shared → Prop} {s : Shared} {env : Env} {h₀ : Heap} {body : List Stmt} {Q : Flow → Shared → Prop}
theorem raw_turns {elts : List Expr} {kk : Nat} {pos : Pos} (hh : A.handled = none) (I d : Addr) (hne : d ≠ I) (es : Array DictEntry) (ep : Nat) :
    KTurns prog w A (.Tuple elts kk pos) I [I, d] [I] es.size
      (fun i v h => ∃ T e, v = .ref T ∧ es[i]? = some e ∧ h.IsTuple T #[e.key, e.val])
      (fun i v h => ∃ T e ok ov, v = .ref T ∧ es[i]? = some e ∧ h.IsTuple T #[e.key, e.val] ∧ IsItemIterOut h I d (i + 1) es.size ep ok ov T ∧ RawD h d es ep ∧ T ≠ I)
      (fun i h => (∃ ok ov, IsItemIter h I d i es.size ep ok ov) ∧ RawD h d es ep) where
  sub := fun b hb => by simp at hb; simp [hb]
  frame := fun i h h' st hk => by
    obtain ⟨⟨ok, ov, he⟩, hm⟩ := st
    exact ⟨⟨ok, ov, hk I (by simp) _ he⟩, hm.at fun o e => hk d (by simp) o e⟩
  item := fun i s Q E hi st hQ => by
    obtain ⟨⟨ok, ov, he⟩, hm⟩ := st
    obtain ⟨e, hx⟩ : ∃ e, es[i]? = some e := ⟨es[i], by simp [hi]⟩
    refine raw_next he hm hx fun h' ho hT hsz hk => ?_
    exact hQ (.ref s.heap.objs.size) h' s.toks ⟨s.heap.objs.size, e, _, _, rfl, hx, ⟨_, hT, rfl, _, rfl⟩, ho, hm.at (fun o e => hk d o hne e), Nat.ne_of_gt (Heap.lt_size he)⟩ fun b o hb e => hk b o (fun h => hb (by simp [h])) e
  go := fun i v s Q E hm hQ => by
    obtain ⟨T, e, ok, ov, rfl, hx, hT, ho, hd, hTI⟩ := hm
    refine wpAny_letOwnedTupleGo_items ho fun h' he hs => ?_
    exact hQ h' ⟨T, e, rfl, hx, hT.at fun o e => hs.extBut T o hTI e⟩ ⟨⟨ok, ov, he⟩, hd.at fun o e => hs.extBut d o hne e⟩ fun b o hb e => hs.extBut b o (fun h => hb (by simp [h])) e
  done := fun s Q E st hQ => by
    obtain ⟨⟨ok, ov, he⟩, hm⟩ := st
    exact raw_end hh he hm (by simp) fun h' hx => hQ h' s.toks fun b o hb e => hx b o (fun h => hb (by simp [h])) e
/-- one turn's end -/
inductive TurnEnd (h₀ : Heap) (L I : Addr) (oi : Obj) (d : Addr) (od : Obj) (J : (Str → Option Value) → Led → Prop) (s₁ : Shared) (f : Flow) (s₂ : Shared) : Prop
  | mk (hf : f = .next) (h' tk m' news') (e : s₂ = { s₁ with heap := h', toks := tk }) (F : Fr h₀ L h' m') (N : News h₀ L h' ((I, oi) :: news')) (off : ∀ p ∈ news', p.1 ≠ I) (hm : (d, od) ∈ news') (j : J m' news') : TurnEnd h₀ L I oi d od J s₁ f s₂
theorem raw_for {elts : List Expr} {kk : Nat} {pos : Pos} {d vw : Addr} {od : Obj} {es : Array DictEntry} {ep : Nat} {m : Str → Option Value} {news : Led}
    (hh : A.handled = none) (F : Fr h₀ env.locals s.heap m) (N : News h₀ env.locals s.heap news) (hvw : s.heap.IsItemsView vw d) (hm : (d, od) ∈ news) (hc : od.ExactDict) (hd : od.data = .dict es ep)
    (J : Nat → (Str → Option Value) → Led → Prop) (h0 : J 0 m news)
    (step : ∀ i T e m₁ news₁ h₁ tk₁ I oi, es[i]? = some e → IsTup h₁ T #[e.key, e.val] → J i m₁ news₁ → (∀ p ∈ news₁, p.1 ≠ I) → oi.cls = .type "dict_itemiterator" → (d, od) ∈ news₁ →
      Fr h₀ env.locals h₁ m₁ → News h₀ env.locals h₁ ((I, oi) :: news₁) →
      wpAny (model prog w) A (assign (.Tuple elts kk pos) env (.ref T)) (fun _ s₃ => wpAny (model prog w) A (execs body env)
        (TurnEnd h₀ env.locals I oi d od (J (i + 1)) { s with heap := h₁, toks := tk₁ }) E s₃) E { s with heap := h₁, toks := tk₁ })
    (hQ : ∀ h' tk m' news', Fr h₀ env.locals h' m' → News h₀ env.locals h' news' → J es.size m' news' → Q .next { s with heap := h', toks := tk }) :
    wpAny (model prog w) A (pyIter (.ref vw)) (fun it s₂ => TurnsAt prog w A h₀ env (.Tuple elts kk pos) body Q E it s₂) E s := by
  have hax := N _ hm
  have hraw : RawD s.heap d es ep := ⟨od, hax.1, hc, hd⟩
  have hne : d ≠ s.heap.objs.size := Nat.ne_of_lt (Heap.lt_size hax.1)
  refine raw_iter hvw hraw ?_
  refine ⟨s.heap.objs.size, _, _, _, _, _, _, m, news, fun i m₁ n₁ => (d, od) ∈ n₁ ∧ J i m₁ n₁, rfl, raw_turns hh s.heap.objs.size d hne es ep, ?_, ?_, ?_, ⟨⟨.none, .none, Heap.get?_push_size _ rfl⟩, hraw.at fun o e => Heap.get?_push_of_some _ e⟩, F.push _, fun p hp => ⟨Heap.get?_push_of_some _ (N p hp).1, (N p hp).2⟩, ⟨hm, h0⟩, ?_, ?_⟩
  · intro hI
    have hb' : env.locals = s.heap.objs.size ∨ env.locals = d := by simpa using hI
    rcases hb' with e | e
    · exact absurd F.ns.lt (e ▸ Nat.lt_irrefl _)
    · exact hax.2.1 e.symm
  · intro b hb
    have hb' : b = s.heap.objs.size := by simpa using hb
    rw [hb']; exact next_is_new F
  · intro p hp hI
    exact absurd (Heap.lt_size (N p hp).1) ((List.mem_singleton.mp hI) ▸ Nat.lt_irrefl _)
  · rintro i v m₁ news₁ h₁ tk₁ own hi ⟨T, e, rfl, hx, hT⟩ ⟨hdm, hJ⟩ hoff hown hget hall ⟨⟨ok, ov, he⟩, hr⟩ F₁ N₁
    have hI : h₀.get? s.heap.objs.size = none := next_is_new F
    obtain ⟨oi, hoi, hcl⟩ : ∃ oi : Obj, h₁.get? s.heap.objs.size = some oi ∧ oi.cls = .type "dict_itemiterator" := ⟨_, he, rfl⟩
    have hIm := hall s.heap.objs.size (by simp) hI _ hoi
    refine wpAny_mono (step i T e m₁ news₁ h₁ tk₁ s.heap.objs.size oi hx hT hJ (fun p hp h => hoff p hp (by simp [h])) hcl hdm F₁ ?_) (fun _ s₃ h₃ => wpAny_mono h₃ (fun f s₄ h₄ => ?_) fun _ _ e => e) fun _ _ e => e
    · intro p hp
      rcases List.mem_cons.mp hp with rfl | hp
      · exact N₁ _ (List.mem_append_left _ hIm)
      · exact N₁ _ (List.mem_append_right _ hp)
    · obtain ⟨rfl, h', tk, m', news', rfl, F', N', ho, hd', hJ'⟩ := h₄
      refine LoopStepV.next ⟨rfl, h', tk, m', news', rfl, F', ?_, fun p hp hI => ho p hp (by simpa using hI), hd', hJ'⟩
      intro p hp
      rcases List.mem_append.mp hp with hp | hp
      · have hb : p.1 = s.heap.objs.size ∨ p.1 = d := by simpa using hown p hp
        have hg := hget p hp
        obtain ⟨pa, po⟩ := p
        dsimp only at hb hg
        rcases hb with rfl | rfl
        · obtain rfl := Option.some.inj (hoi.symm.trans hg)
          exact N' _ (.head _)
        · obtain rfl : od = po := Option.some.inj ((N₁ _ (List.mem_append_right _ hdm)).1.symm.trans hg)
          exact N' _ (.tail _ hd')
      · exact N' _ (.tail _ hp)
  · intro h' tk m' news' F' N' _ hJ
    exact hQ h' tk m' news' F' N' hJ.2
end
end Mine
end

/-! ## LView -/
section
theorem Mine.startLView : True := by
  w_top off
  trivial
open PySem PySem.W PyProof.Rows PySem.Calls PySem.Spec
set_option Elab.async false
namespace Mine
section
variable {prog : Program} {w : World} {A : Around} {E : Value → Shared → Prop} {s : Shared}
theorem meets_items_raw (d : Addr) (hd : (d == sysModules) = false) :
    MeetsIn prog w (Builtin.«dict.items» ⟨[.ref d], []⟩) (fun _ R s => s.TypeIs (.ref d) "dict" ∧
      R (.ok (.ret (.ref s.heap.objs.size))) { s with heap := s.heap.push { cls := .type "dict_items", data := .fields #[.ref d] } }) :=
  .of_wp fun A R s ⟨hm, h⟩ => by
    unfold Builtin.«dict.items»
    refine wpAny_bind ?_
    unfold Builtin.Dict.noArgs
    refine wpAny_bind (wpAny_notOrdered_dict hm ?_)
    show wpAny _ _ (pure d) _ _ s
    refine wpAny_pure ?_
    show wpAny _ _ (Builtin.Dict.showsAll d >>= _) _ _ s
    unfold Builtin.Dict.showsAll
    rw [if_neg (by rw [hd]; exact Bool.false_ne_true)]
    refine wpAny_bind (wpAny_pure ?_)
    exact wpAny_bind (wpAny_newObj_type (wpAny_pure ⟨_, rfl, h⟩))
theorem meets_values_raw (d : Addr) (hd : (d == sysModules) = false) :
    MeetsIn prog w (Builtin.«dict.values» ⟨[.ref d], []⟩) (fun _ R s => s.TypeIs (.ref d) "dict" ∧
      R (.ok (.ret (.ref s.heap.objs.size))) { s with heap := s.heap.push { cls := .type "dict_values", data := .fields #[.ref d] } }) :=
  .of_wp fun A R s ⟨hm, h⟩ => by
    unfold Builtin.«dict.values»
    refine wpAny_bind ?_
    unfold Builtin.Dict.noArgs
    refine wpAny_bind (wpAny_notOrdered_dict hm ?_)
    show wpAny _ _ (pure d) _ _ s
    refine wpAny_pure ?_
    show wpAny _ _ (Builtin.Dict.showsAll d >>= _) _ _ s
    unfold Builtin.Dict.showsAll
    rw [if_neg (by rw [hd]; exact Bool.false_ne_true)]
    refine wpAny_bind (wpAny_pure ?_)
    exact wpAny_bind (wpAny_newObj_type (wpAny_pure ⟨_, rfl, h⟩))
end
section
variable {w : World} {h₀ : Heap} {L d : Addr} {news : Led} {ys : List Ro} {A : Around} {E : Value → Shared → Prop} {s : Shared} {m : Str → Option Value}
theorem tbl_mItems {pl : Sem Bool} {Q : Value × List Value → Shared → Prop} (N : News h₀ L s.heap news) (T : TblAt w news d ys) (h : Q (.builtin "dict.items", [.ref d]) s) :
    wpAny (model PySem.Challenge.rw_ny0043_01.row.prog w) A (getMethod (.ref d) "items" pl) Q E s :=
  getMethod_builtin (T.dict N).typeIs PySem.F.plainAttrs_dict PySem.F.slot_dict_items PySem.F.type_dict_items (dictOfH_noDict (T.dict N)) h
theorem tbl_mValues {pl : Sem Bool} {Q : Value × List Value → Shared → Prop} (N : News h₀ L s.heap news) (T : TblAt w news d ys) (h : Q (.builtin "dict.values", [.ref d]) s) :
    wpAny (model PySem.Challenge.rw_ny0043_01.row.prog w) A (getMethod (.ref d) "values" pl) Q E s :=
  getMethod_builtin (T.dict N).typeIs PySem.F.plainAttrs_dict PySem.F.slot_dict_values PySem.F.type_dict_values (dictOfH_noDict (T.dict N)) h
theorem tbl_items {Q : Value → Shared → Prop} (F : Fr h₀ L s.heap m) (N : News h₀ L s.heap news) (T : TblAt w news d ys)
    (h : ∀ vw h', Fr h₀ L h' m → News h₀ L h' ((vw, { cls := .type "dict_items", data := .fields #[.ref d] }) :: news) → (∀ p ∈ news, p.1 < vw) → Q (.ref vw) { s with heap := h' }) :
    wpAny (model PySem.Challenge.rw_ny0043_01.row.prog w) A (call (.builtin "dict.items") [.ref d]) Q E s :=
  call_meetsIn PySem.F.slot_dict_items (T.dict N).typeIs PySem.F.entry_dict_items (PySem.F.args_dict_items_1 _) (meets_items_raw d T.lo) ⟨(T.dict N).typeIs, h _ _ (F.push _) (News.push F N _) fun q hq => Heap.lt_size (N q hq).1⟩
theorem tbl_values {Q : Value → Shared → Prop} (F : Fr h₀ L s.heap m) (N : News h₀ L s.heap news) (T : TblAt w news d ys)
    (h : ∀ vw h', Fr h₀ L h' m → News h₀ L h' ((vw, { cls := .type "dict_values", data := .fields #[.ref d] }) :: news) → (∀ p ∈ news, p.1 < vw) → Q (.ref vw) { s with heap := h' }) :
    wpAny (model PySem.Challenge.rw_ny0043_01.row.prog w) A (call (.builtin "dict.values") [.ref d]) Q E s :=
  call_meetsIn PySem.F.slot_dict_values (T.dict N).typeIs PySem.F.entry_dict_values (PySem.F.args_dict_values_1 _) (meets_values_raw d T.lo) ⟨(T.dict N).typeIs, h _ _ (F.push _) (News.push F N _) fun q hq => Heap.lt_size (N q hq).1⟩
end
end Mine
end

/-! ## LAdd -/
section
theorem Mine.startLAdd : True := by
  w_top off
  trivial
open PySem PySem.W PyProof.Rows PySem.Calls PySem.Spec
set_option Elab.async false
namespace Mine
noncomputable def addTo (acc : List (Fn × Int)) (y : Fn × Int) : List (Fn × Int) :=
  if (acc.any fun z => decide (z.1 = y.1)) = true then acc.map (fun z => if z.1 = y.1 then (z.1, z.2 + y.2) else z) else acc ++ [y]
noncomputable def merge (xs ys : List (Fn × Int)) : List (Fn × Int) := ys.foldl addTo xs
theorem addTo_len (acc : List (Fn × Int)) (y : Fn × Int) : (addTo acc y).length ≤ acc.length + 1 := by
  unfold addTo
  split <;> simp
theorem merge_len (xs ys : List (Fn × Int)) : (merge xs ys).length ≤ xs.length + ys.length := by
  unfold merge
  induction ys generalizing xs with
  | nil => simp
  | cons y ys ih =>
    rw [List.foldl_cons]
    have h1 := ih (addTo xs y)
    have h2 := addTo_len xs y
    simp only [List.length_cons]
    (first | lia | omega)
theorem put_add_new {ps : List Ro} {x : Fn} {a : Addr} {c : Int} {t : Tok} (h : (ps.any fun y => decide (y.1 = x)) = false) : (put ps x a c t).map roX = addTo (ps.map roX) (x, c) := by
  unfold put addTo
  rw [List.any_map, if_neg (by rw [h]; decide), if_neg (by rw [show ((fun z : Fn × Int => decide (z.1 = (x, c).1)) ∘ roX) = fun y : Ro => decide (y.1 = x) from rfl, h]; decide), List.map_append]
  rfl
theorem put_add_old {ps : List Ro} {x : Fn} {a : Addr} {z : Ro} {c : Int} {t : Tok} (hn : (ps.map (·.1)).Nodup) (h : (ps.find? fun y => decide (y.1 = x)) = some z) : (put ps x a (z.2.2.1 + c) t).map roX = addTo (ps.map roX) (x, c) := by
  have hany : (ps.any fun y => decide (y.1 = x)) = true := by rw [← List.isSome_find?, h]; rfl
  have hz1 : z.1 = x := by have := List.find?_some h; simpa using this
  have hzm : z ∈ ps := List.mem_of_find?_eq_some h
  unfold put addTo
  rw [List.any_map, if_pos hany, if_pos (by rw [show ((fun z : Fn × Int => decide (z.1 = (x, c).1)) ∘ roX) = fun y : Ro => decide (y.1 = x) from rfl]; exact hany), List.map_map, List.map_map]
  refine List.map_congr_left fun y hy => ?_
  by_cases e : y.1 = x
  · have : y = z := by
      obtain ⟨i, hi⟩ := List.mem_iff_getElem?.mp hy
      obtain ⟨j, hj⟩ := List.mem_iff_getElem?.mp hzm
      have h1 : (ps.map (·.1))[i]? = some x := by rw [List.getElem?_map, hi, ← e]; rfl
      have h2 : (ps.map (·.1))[j]? = some x := by rw [List.getElem?_map, hj, ← hz1]; rfl
      have := (List.getElem?_inj (List.getElem?_eq_some_iff.mp h1).1 hn).mp (h1.trans h2.symm)
      subst this
      exact Option.some.inj (hi.symm.trans hj)
    subst this
    simp [roX, e]
  · simp [roX, e]
theorem tbl_empty {w : World} {news : Led} {d : Addr} {o : Obj} {K : Type} [DecidableEq K] {knd : KeyKind PySem.Challenge.rw_ny0043_01.row.prog w K} (hm : (d, o) ∈ news) (lo : (d == sysModules) = false) (hd : o.IsDictOf knd []) : TblAt w news d [] := by
  obtain ⟨es, ep, hc, hdat, _, hp, _⟩ := hd
  have he : es.toList = [] := List.length_eq_zero_iff.mp hp.length
  exact ⟨lo, ⟨o, es, ep, hm, hc, hdat, he⟩, fun _ hx => by simp at hx, List.nodup_nil⟩
theorem raw_at {w : World} {es : Array DictEntry} {ys : List Ro} {i : Nat} {e : DictEntry} (he : es.toList = (ys.map roH).map (entryOfKey (FK w))) (hx : es[i]? = some e) : ∃ y, ys[i]? = some y ∧ e.key = .ref y.2.1 ∧ e.val = .int y.2.2.1 y.2.2.2 := by
  rw [← Array.getElem?_toList, he, List.getElem?_map, List.getElem?_map] at hx
  cases hy : ys[i]? with
  | none => rw [hy] at hx; cases hx
  | some y =>
    rw [hy] at hx
    refine ⟨y, rfl, ?_⟩
    obtain rfl := Option.some.inj hx
    exact ⟨rfl, rfl⟩
theorem datFn_sub {news news' : Led} {a : Addr} {x : Fn} (hk : ∀ p ∈ news, p.2.cls = .type "tuple" → p ∈ news') (D : DatIn news (.ref a) (fnD x)) : DatIn news' (.ref a) (fnD x) := by
  obtain ⟨f, l, n⟩ := x
  unfold fnD at D ⊢
  generalize hdd : Dat.tuple [.str f, .int l, .str n] = dd at D ⊢
  generalize hv : Value.ref a = v at D ⊢
  cases D with
  | tuple hm' ha =>
    injection hdd with hdd; subst hdd
    refine .tuple (hk _ hm' rfl) ?_
    cases ha with
    | cons h1 h2 =>
      cases h2 with
      | cons h3 h4 =>
        cases h4 with
        | cons h5 h6 =>
          cases h6
          cases h1; cases h3; cases h5
          exact .cons (.str _ _) (.cons (.int _ _) (.cons (.str _ _) .nil))
  | _ => first | cases hdd | cases hv
noncomputable def offI (I : Addr) (n : Led) : Led := n.filter fun p => decide (p.1 ≠ I)
theorem mem_offI {I : Addr} {n : Led} {p : Addr × Obj} : p ∈ offI I n ↔ p ∈ n ∧ p.1 ≠ I := by simp [offI]
theorem TblAt.off {w : World} {h₀ h : Heap} {L d I : Addr} {news : Led} {ys : List Ro} {oi : Obj} {c : String} (N : News h₀ L h news) (T : TblAt w news d ys) (hI : (I, oi) ∈ news) (hc : oi.cls = .type c) (h1 : c ≠ "dict") (h2 : c ≠ "tuple") : TblAt w (offI I news) d ys := by
  have hne : ∀ p ∈ news, p.2.cls ≠ .type c → p.1 ≠ I := by
    rintro ⟨b, o⟩ hp hcl rfl
    have e : o = oi := Option.some.inj ((N _ hp).1.symm.trans (N _ hI).1)
    exact hcl (e ▸ hc)
  obtain ⟨o, es, ep, hm, hx, hd⟩ := T.obj
  refine ⟨T.lo, ⟨o, es, ep, mem_offI.mpr ⟨hm, hne _ hm (by rw [hx.1]; intro e; injection e with e; exact h1 e.symm)⟩, hx, hd⟩, fun y hy => datFn_sub (fun p hp hcl => mem_offI.mpr ⟨hp, hne _ hp (by rw [hcl]; intro e; injection e with e; exact h2 e.symm)⟩) (T.keys y hy), T.nd⟩
theorem put_new {ys : List Ro} {x : Fn} {a : Addr} {n : Int} {t : Tok} (h : x ∉ ys.map (·.1)) : put ys x a n t = ys ++ [(x, a, n, t)] := by
  unfold put
  rw [if_neg]
  simp only [List.any_eq_true, decide_eq_true_eq, not_exists, not_and]
  intro y hy e
  exact h (List.mem_map.mpr ⟨y, hy, e⟩)
theorem map_fst {ys zs : List Ro} (h : ys.map roX = zs.map roX) : ys.map (·.1) = zs.map (·.1) := by
  have := congrArg (List.map Prod.fst) h
  simpa [List.map_map, Function.comp_def, roX] using this
/-- the two loop names over a frame -/
noncomputable def loopM (m : Str → Option Value) (fv cv : Option Value) : Str → Option Value := fun y => if y = Str.ofString "caller" then cv else if y = Str.ofString "func" then fv else m y
theorem loopM_two {m : Str → Option Value} {fv cv : Option Value} {f c : Value} : (fun y => if y = Str.ofString "caller" then some c else if y = Str.ofString "func" then some f else loopM m fv cv y) = loopM m (some f) (some c) := by
  funext y
  unfold loopM
  by_cases h1 : y = Str.ofString "caller"
  · rw [if_pos h1, if_pos h1]
  · by_cases h2 : y = Str.ofString "func"
    · rw [if_neg h1, if_pos h2, if_neg h1, if_pos h2]
    · rw [if_neg h1, if_neg h2, if_neg h1, if_neg h2, if_neg h1, if_neg h2]
theorem not_mem_take {ys : List Ro} {i : Nat} {y : Ro} (hn : (ys.map (·.1)).Nodup) (hy : ys[i]? = some y) : y.1 ∉ (ys.take i).map (·.1) := by
  intro h
  obtain ⟨z, hz, e⟩ := List.mem_map.mp h
  obtain ⟨j, hj, hzj⟩ := List.mem_take_iff_getElem.mp hz
  have hi : (ys.map (·.1))[i]? = some y.1 := by rw [List.getElem?_map, hy]; rfl
  have hj' : (ys.map (·.1))[j]? = some y.1 := by
    rw [List.getElem?_map, List.getElem?_eq_getElem (by (first | lia | omega)), hzj, ← e]; rfl
  have := (List.getElem?_inj (by rw [List.length_map]; (first | lia | omega)) hn).mp (hj'.trans hi.symm)
  (first | lia | omega)
set_option maxRecDepth 100000 in
set_option maxHeartbeats 8000000 in
theorem addK (w : World) (a b : Addr) (xs ys : List (Fn × Int)) (hxs : xs.length + ys.length ≤ 100) :
    Claim w 2 28 [.ref a, .ref b] (fun news => Tbl w news a xs ∧ Tbl w news b ys) (fun news news' r => (∀ p ∈ news, p ∈ news') ∧ ∃ d, r = .ref d ∧ Tbl w news' d (merge xs ys)) := by
  unfold Claim
  k_fill
  intro p loose mean mg mb dp un gd cn cs aa ccd cl outer A₀ base h₀ L m news s Q E B F X N T hk hd hu hpre hret
  obtain ⟨⟨as, Ta, ea⟩, ⟨bs, Tb, eb⟩⟩ := hpre
  refine wpAny_call ?_
  k_dflt cell_enter
  rename_i g L1 h1 FG F1 N1 B1 X1 T1
  refine wpAny_mono (E := fun _ _ => False) ?_ (fun _ _ h => h) (fun _ _ h => h.elim)
  replace F1 : Fr g L1 h1 (fun y => List.lookup y [(Str.ofString "source", Value.ref b), (Str.ofString "target", Value.ref a)]) := F1
  (repeat' ((fail_if_success (first | (with_reducible show wpAny _ _ (call (Value.ref _) _ _) _ _ _) | (with_reducible show wpAny _ _ (call (Value.builtin "dict.items") _ _) _ _ _) | (with_reducible show wpAny _ _ (compareOp CmpOp.In (Value.ref _) (Value.ref _)) _ _ _) | (with_reducible show wpAny _ _ (setItem _ _ _) _ _ _) | (with_reducible show wpAny _ _ (getItem _ _) _ _ _) | (with_reducible show wpAny _ _ (getMethod (Value.ref _) _ _) _ _ _) | (with_reducible show wpAny _ _ (pyIter _) _ _ _) | (with_reducible show wpAny _ _ (exec (Stmt.For _ _ _ _ _) _) _ _ _))); first | (k_unfold; (try dsimp only)) | (k_end; wrow_close) | (dsimp only; walk1) | walk1))
  rename_i dN h2 oN hlt hlo hS fS hI fI h3 F3 N3
  refine For_turns F3 ?_
  (repeat' ((fail_if_success (first | (with_reducible show wpAny _ _ (call (Value.ref _) _ _) _ _ _) | (with_reducible show wpAny _ _ (call (Value.builtin "dict.items") _ _) _ _ _) | (with_reducible show wpAny _ _ (compareOp CmpOp.In (Value.ref _) (Value.ref _)) _ _ _) | (with_reducible show wpAny _ _ (setItem _ _ _) _ _ _) | (with_reducible show wpAny _ _ (getItem _ _) _ _ _) | (with_reducible show wpAny _ _ (getMethod (Value.ref _) _ _) _ _ _) | (with_reducible show wpAny _ _ (pyIter _) _ _ _) | (with_reducible show wpAny _ _ (exec (Stmt.For _ _ _ _ _) _) _ _ _))); first | (k_unfold; (try dsimp only)) | (k_end; wrow_close) | (dsimp only; walk1) | walk1))
  refine tbl_mItems N3 (Ta.mono fun p hp => .tail _ hp) ?_
  (repeat' ((fail_if_success (first | (with_reducible show wpAny _ _ (call (Value.ref _) _ _) _ _ _) | (with_reducible show wpAny _ _ (call (Value.builtin "dict.items") _ _) _ _ _) | (with_reducible show wpAny _ _ (compareOp CmpOp.In (Value.ref _) (Value.ref _)) _ _ _) | (with_reducible show wpAny _ _ (setItem _ _ _) _ _ _) | (with_reducible show wpAny _ _ (getItem _ _) _ _ _) | (with_reducible show wpAny _ _ (getMethod (Value.ref _) _ _) _ _ _) | (with_reducible show wpAny _ _ (pyIter _) _ _ _) | (with_reducible show wpAny _ _ (exec (Stmt.For _ _ _ _ _) _) _ _ _))); first | (k_unfold; (try dsimp only)) | (k_end; wrow_close) | (dsimp only; walk1) | walk1))
  refine tbl_items F3 N3 (Ta.mono fun p hp => .tail _ hp) ?_
  intro vw h4 F4 N4 hvlt
  obtain ⟨oa, ea', epa, hma, hca, hda, hea⟩ := id Ta.obj
  refine raw_for (s := _) rfl F4 (cb_drop N4 fun p hp => .tail _ hp) ⟨_, (N4 _ (.head _)).1, rfl, rfl⟩ (.tail _ hma) hca hda
    (fun i m₁ n₁ => (∃ fv cv, m₁ = loopM (fun y => if y = Str.ofString "new_callers" then some (Value.ref dN) else List.lookup y [(Str.ofString "source", Value.ref b), (Str.ofString "target", Value.ref a)]) fv cv) ∧ (∀ p ∈ news, p ∈ n₁) ∧ ∃ ps, TblAt w n₁ dN ps ∧ ps.map roX = (as.take i).map roX) ?h0 ?step ?hQ
  case h0 =>
    refine ⟨⟨none, none, ?_⟩, fun p hp => .tail _ hp, [], tbl_empty (.head _) hlo hS, rfl⟩
    funext y
    unfold loopM
    by_cases h1 : y = Str.ofString "caller"
    · subst h1; rfl
    · by_cases h2 : y = Str.ofString "func"
      · subst h2; rfl
      · rw [if_neg h1, if_neg h2]
  case step =>
    rintro i T e m₁ n₁ h₁ tk₁ I oi hx hT hx37q hoff hoi hdm F5 N5
    refine foldG fun P38q hP38q => ?_
    obtain ⟨⟨fv, cv, rfl⟩, hkeep, ps, Tp, ep⟩ := hx37q
    refine hP38q ?_
    clear hP38q P38q
    obtain ⟨y, hy, hk1, hk2⟩ := raw_at hea hx
    obtain ⟨ke, kk, kv⟩ := e
    dsimp only at hk1 hk2 hT
    subst hk1 hk2
    clear F4 N4 F3 N3
    (repeat' ((fail_if_success (first | (with_reducible show wpAny _ _ (call (Value.ref _) _ _) _ _ _) | (with_reducible show wpAny _ _ (call (Value.builtin "dict.items") _ _) _ _ _) | (with_reducible show wpAny _ _ (compareOp CmpOp.In (Value.ref _) (Value.ref _)) _ _ _) | (with_reducible show wpAny _ _ (setItem _ _ _) _ _ _) | (with_reducible show wpAny _ _ (getItem _ _) _ _ _) | (with_reducible show wpAny _ _ (getMethod (Value.ref _) _ _) _ _ _) | (with_reducible show wpAny _ _ (pyIter _) _ _ _) | (with_reducible show wpAny _ _ (exec (Stmt.For _ _ _ _ _) _) _ _ _))); first | (k_unfold; (try dsimp only)) | (k_end; wrow_close) | (dsimp only; walk1) | walk1))
    rename Fr g L1 _ _ => F6
    rename News g L1 _ _ => N6
    have hlen : ps.length ≤ 100 := by
      have e1 := congrArg List.length ep
      simp only [List.length_map, List.length_take] at e1
      have e2 := congrArg List.length ea
      simp only [List.length_map] at e2
      (first | lia | omega)
    refine tbl_set (by ktr_units) F6 N6 (Tp.mono fun p hp => .tail _ hp) ((Ta.keys y (List.mem_of_getElem? hy)).mono fun p hp => .tail _ (hkeep p hp)) (Nat.le_trans hlen (by rw [sizeLine_eq]; decide)) ?_
    intro h7 tk7 n7 F7 N7 T7 k7
    (repeat' ((fail_if_success (first | (with_reducible show wpAny _ _ (call (Value.ref _) _ _) _ _ _) | (with_reducible show wpAny _ _ (call (Value.builtin "dict.items") _ _) _ _ _) | (with_reducible show wpAny _ _ (compareOp CmpOp.In (Value.ref _) (Value.ref _)) _ _ _) | (with_reducible show wpAny _ _ (setItem _ _ _) _ _ _) | (with_reducible show wpAny _ _ (getItem _ _) _ _ _) | (with_reducible show wpAny _ _ (getMethod (Value.ref _) _ _) _ _ _) | (with_reducible show wpAny _ _ (pyIter _) _ _ _) | (with_reducible show wpAny _ _ (exec (Stmt.For _ _ _ _ _) _) _ _ _))); first | (k_unfold; (try dsimp only)) | (k_end; wrow_close) | (dsimp only; walk1) | walk1))
    have hN : dN ≠ I := by
      obtain ⟨o, _, _, hm, _⟩ := Tp.obj
      exact hoff _ hm
    have hIm : (I, oi) ∈ n7 := k7 _ (.head _) (fun e => hN e.symm)
    have hin : ∀ p ∈ news, p ∈ offI I n7 := fun p hp => mem_offI.mpr ⟨k7 p (.tail _ (hkeep p hp)) (Nat.ne_of_lt (hlt p hp)), hoff p (hkeep p hp)⟩
    refine ⟨rfl, h7, _, _, offI I n7, rfl, F7, ?_, fun p hp => (mem_offI.mp hp).2, hin _ hma, ⟨_, _, loopM_two⟩, hin, _, T7.off N7 hIm hoi (by decide) (by decide), ?_⟩
    · intro p hp
      rcases List.mem_cons.mp hp with rfl | hp
      · exact N7 _ hIm
      · exact N7 _ (mem_offI.mp hp).1
    · rw [put_new, List.map_append, ep, List.take_add_one, hy, List.map_append]
      · rfl
      · rw [map_fst ep]
        exact not_mem_take Ta.nd hy
  case hQ =>
    clear F4 N4 F3 N3
    rintro h5 tk5 m5 n5 F5 N5 hx39q
    refine foldG fun P40q hP40q => ?_
    obtain ⟨⟨fv, cv, rfl⟩, hkeep, ps, Tp, ep⟩ := hx39q
    refine hP40q ?_
    clear hP40q P40q
    have hfull : as.take ea'.size = as := by
      rw [List.take_of_length_le]
      have := congrArg List.length hea
      simp only [List.length_map, Array.length_toList] at this
      (first | lia | omega)
    rw [hfull] at ep
    (repeat' ((fail_if_success (first | (with_reducible show wpAny _ _ (call (Value.ref _) _ _) _ _ _) | (with_reducible show wpAny _ _ (call (Value.builtin "dict.items") _ _) _ _ _) | (with_reducible show wpAny _ _ (compareOp CmpOp.In (Value.ref _) (Value.ref _)) _ _ _) | (with_reducible show wpAny _ _ (setItem _ _ _) _ _ _) | (with_reducible show wpAny _ _ (getItem _ _) _ _ _) | (with_reducible show wpAny _ _ (getMethod (Value.ref _) _ _) _ _ _) | (with_reducible show wpAny _ _ (pyIter _) _ _ _) | (with_reducible show wpAny _ _ (exec (Stmt.For _ _ _ _ _) _) _ _ _))); first | (k_unfold; (try dsimp only)) | (k_end; wrow_close) | (dsimp only; walk1) | walk1))
    replace F5 : Fr g L1 h5 _ := F5
    replace N5 : News g L1 h5 n5 := N5
    have Tb5 := Tb.mono hkeep
    refine For_turns F5 ?_
    (repeat' ((fail_if_success (first | (with_reducible show wpAny _ _ (call (Value.ref _) _ _) _ _ _) | (with_reducible show wpAny _ _ (call (Value.builtin "dict.items") _ _) _ _ _) | (with_reducible show wpAny _ _ (compareOp CmpOp.In (Value.ref _) (Value.ref _)) _ _ _) | (with_reducible show wpAny _ _ (setItem _ _ _) _ _ _) | (with_reducible show wpAny _ _ (getItem _ _) _ _ _) | (with_reducible show wpAny _ _ (getMethod (Value.ref _) _ _) _ _ _) | (with_reducible show wpAny _ _ (pyIter _) _ _ _) | (with_reducible show wpAny _ _ (exec (Stmt.For _ _ _ _ _) _) _ _ _))); first | (k_unfold; (try dsimp only)) | (k_end; wrow_close) | (dsimp only; walk1) | walk1))
    refine tbl_mItems N5 Tb5 ?_
    (repeat' ((fail_if_success (first | (with_reducible show wpAny _ _ (call (Value.ref _) _ _) _ _ _) | (with_reducible show wpAny _ _ (call (Value.builtin "dict.items") _ _) _ _ _) | (with_reducible show wpAny _ _ (compareOp CmpOp.In (Value.ref _) (Value.ref _)) _ _ _) | (with_reducible show wpAny _ _ (setItem _ _ _) _ _ _) | (with_reducible show wpAny _ _ (getItem _ _) _ _ _) | (with_reducible show wpAny _ _ (getMethod (Value.ref _) _ _) _ _ _) | (with_reducible show wpAny _ _ (pyIter _) _ _ _) | (with_reducible show wpAny _ _ (exec (Stmt.For _ _ _ _ _) _) _ _ _))); first | (k_unfold; (try dsimp only)) | (k_end; wrow_close) | (dsimp only; walk1) | walk1))
    refine tbl_items F5 N5 Tb5 ?_
    intro vw2 h6 F6 N6 hvlt2
    obtain ⟨ob, eb', epb, hmb, hcb, hdb, heb⟩ := id Tb.obj
    refine raw_for (s := _) rfl F6 (cb_drop N6 fun p hp => .tail _ hp) ⟨_, (N6 _ (.head _)).1, rfl, rfl⟩ (hkeep _ hmb) hcb hdb
      (fun i m₁ n₁ => (∃ fv cv, m₁ = loopM (fun y => if y = Str.ofString "new_callers" then some (Value.ref dN) else List.lookup y [(Str.ofString "source", Value.ref b), (Str.ofString "target", Value.ref a)]) fv cv) ∧ (∀ p ∈ news, p ∈ n₁) ∧ ∃ ps, TblAt w n₁ dN ps ∧ ps.map roX = merge xs ((bs.take i).map roX)) ?h0 ?step ?hQ
    case h0 => exact ⟨⟨_, _, rfl⟩, hkeep, ps, Tp, by rw [ep, ea]; rfl⟩
    case step =>
      clear F5 N5 F6 N6 hkeep Tp ep
      rintro i T e m₁ n₁ h₁ tk₁ I oi hx hT hx41q hoff hoi hdm F7 N7
      refine foldG fun P42q hP42q => ?_
      obtain ⟨⟨fv, cv, rfl⟩, hkeep, ps, Tp, ep⟩ := hx41q
      refine hP42q ?_
      clear hP42q P42q
      obtain ⟨y, hy, hk1, hk2⟩ := raw_at heb hx
      obtain ⟨ke, kk, kv⟩ := e
      dsimp only at hk1 hk2 hT
      subst hk1 hk2
      (repeat' ((fail_if_success (first | (with_reducible show wpAny _ _ (call (Value.ref _) _ _) _ _ _) | (with_reducible show wpAny _ _ (call (Value.builtin "dict.items") _ _) _ _ _) | (with_reducible show wpAny _ _ (compareOp CmpOp.In (Value.ref _) (Value.ref _)) _ _ _) | (with_reducible show wpAny _ _ (setItem _ _ _) _ _ _) | (with_reducible show wpAny _ _ (getItem _ _) _ _ _) | (with_reducible show wpAny _ _ (getMethod (Value.ref _) _ _) _ _ _) | (with_reducible show wpAny _ _ (pyIter _) _ _ _) | (with_reducible show wpAny _ _ (exec (Stmt.For _ _ _ _ _) _) _ _ _))); first | (k_unfold; (try dsimp only)) | (k_end; wrow_close) | (dsimp only; walk1) | walk1))
      rename Fr g L1 _ _ => F8
      rename News g L1 _ _ => N8
      have D8 : DatIn ((I, oi) :: n₁) (.ref y.2.1) (fnD y.1) := (Tb.keys y (List.mem_of_getElem? hy)).mono fun p hp => .tail _ (hkeep p hp)
      have T8 : TblAt w ((I, oi) :: n₁) dN ps := Tp.mono fun p hp => .tail _ hp
      have hlen : ps.length ≤ 100 := by
        have e1 := congrArg List.length ep
        have e2 := merge_len xs ((bs.take i).map roX)
        simp only [List.length_map, List.length_take] at e1 e2
        have e3 := congrArg List.length eb
        simp only [List.length_map] at e3
        (first | lia | omega)
      have hN : dN ≠ I := by
        obtain ⟨o, _, _, hm, _⟩ := Tp.obj
        exact hoff _ hm
      have fin : ∀ h11 tk11 n11 (ps' : List Ro), News g L1 h11 n11 → TblAt w n11 dN ps' → (∀ p ∈ (I, oi) :: n₁, p.1 ≠ dN → p ∈ n11) → ps'.map roX = addTo (ps.map roX) (y.1, y.2.2.1) →
          Fr g L1 h11 (fun y_1 => if y_1 = Str.ofString "caller" then some (Value.int y.2.2.1 y.2.2.2) else if y_1 = Str.ofString "func" then some (Value.ref y.2.1) else loopM (fun y => if y = Str.ofString "new_callers" then some (Value.ref dN) else List.lookup y [(Str.ofString "source", Value.ref b), (Str.ofString "target", Value.ref a)]) fv cv y_1) →
          TurnEnd g L1 I oi b ob (fun m₁ n₁ => (∃ fv cv, m₁ = loopM (fun y => if y = Str.ofString "new_callers" then some (Value.ref dN) else List.lookup y [(Str.ofString "source", Value.ref b), (Str.ofString "target", Value.ref a)]) fv cv) ∧ (∀ p ∈ news, p ∈ n₁) ∧ ∃ ps, TblAt w n₁ dN ps ∧ ps.map roX = merge xs ((bs.take (i + 1)).map roX)) { s with heap := h₁, toks := tk₁ } Flow.next { s with heap := h11, toks := tk11 } := by
        intro h11 tk11 n11 ps' N11 T11 k11 hps F11
        have hIm : (I, oi) ∈ n11 := k11 _ (.head _) (fun e => hN e.symm)
        have hin : ∀ p ∈ news, p ∈ offI I n11 := fun p hp => mem_offI.mpr ⟨k11 p (.tail _ (hkeep p hp)) (Nat.ne_of_lt (hlt p hp)), hoff p (hkeep p hp)⟩
        refine ⟨rfl, h11, _, _, offI I n11, rfl, F11, ?_, fun p hp => (mem_offI.mp hp).2, hin _ hmb, ⟨_, _, loopM_two⟩, hin, _, T11.off N11 hIm hoi (by decide) (by decide), ?_⟩
        · intro p hp
          rcases List.mem_cons.mp hp with rfl | hp
          · exact N11 _ hIm
          · exact N11 _ (mem_offI.mp hp).1
        · rw [hps, ep, List.take_add_one, hy, List.map_append]
          unfold merge
          rw [List.foldl_append]; rfl
      refine tbl_in (by ktr_units) N8 T8 D8 ?_
      intro tk8
      (repeat' ((fail_if_success (first | (with_reducible show wpAny _ _ (call (Value.ref _) _ _) _ _ _) | (with_reducible show wpAny _ _ (call (Value.builtin "dict.items") _ _) _ _ _) | (with_reducible show wpAny _ _ (compareOp CmpOp.In (Value.ref _) (Value.ref _)) _ _ _) | (with_reducible show wpAny _ _ (setItem _ _ _) _ _ _) | (with_reducible show wpAny _ _ (getItem _ _) _ _ _) | (with_reducible show wpAny _ _ (getMethod (Value.ref _) _ _) _ _ _) | (with_reducible show wpAny _ _ (pyIter _) _ _ _) | (with_reducible show wpAny _ _ (exec (Stmt.For _ _ _ _ _) _) _ _ _))); first | (k_unfold; (try dsimp only)) | (k_end; wrow_close) | (dsimp only; walk1) | walk1))
      · rename ((List.any _ _ : Bool) = true) => hany
        obtain ⟨z, hz⟩ : ∃ z, (ps.find? fun y' => decide (y'.1 = y.1)) = some z := by
          cases hf : ps.find? fun y' => decide (y'.1 = y.1) with
          | some z => exact ⟨z, rfl⟩
          | none =>
            rw [← List.isSome_find?, hf] at hany
            cases hany
        rename Fr g L1 _ _ => F9
        rename News g L1 _ _ => N9
        refine tbl_get (by ktr_units) N9 T8 D8 hz ?_
        intro tk9
        (repeat' ((fail_if_success (first | (with_reducible show wpAny _ _ (call (Value.ref _) _ _) _ _ _) | (with_reducible show wpAny _ _ (call (Value.builtin "dict.items") _ _) _ _ _) | (with_reducible show wpAny _ _ (compareOp CmpOp.In (Value.ref _) (Value.ref _)) _ _ _) | (with_reducible show wpAny _ _ (setItem _ _ _) _ _ _) | (with_reducible show wpAny _ _ (getItem _ _) _ _ _) | (with_reducible show wpAny _ _ (getMethod (Value.ref _) _ _) _ _ _) | (with_reducible show wpAny _ _ (pyIter _) _ _ _) | (with_reducible show wpAny _ _ (exec (Stmt.For _ _ _ _ _) _) _ _ _))); first | (k_unfold; (try dsimp only)) | (k_end; wrow_close) | (dsimp only; walk1) | walk1))
        rename Fr g L1 _ _ => F10
        rename News g L1 _ _ => N10
        refine tbl_set (by ktr_units) F10 N10 T8 D8 (Nat.le_trans hlen (by rw [sizeLine_eq]; decide)) ?_
        intro h11 tk11 n11 F11 N11 T11 k11
        (repeat' ((fail_if_success (first | (with_reducible show wpAny _ _ (call (Value.ref _) _ _) _ _ _) | (with_reducible show wpAny _ _ (call (Value.builtin "dict.items") _ _) _ _ _) | (with_reducible show wpAny _ _ (compareOp CmpOp.In (Value.ref _) (Value.ref _)) _ _ _) | (with_reducible show wpAny _ _ (setItem _ _ _) _ _ _) | (with_reducible show wpAny _ _ (getItem _ _) _ _ _) | (with_reducible show wpAny _ _ (getMethod (Value.ref _) _ _) _ _ _) | (with_reducible show wpAny _ _ (pyIter _) _ _ _) | (with_reducible show wpAny _ _ (exec (Stmt.For _ _ _ _ _) _) _ _ _))); first | (k_unfold; (try dsimp only)) | (k_end; wrow_close) | (dsimp only; walk1) | walk1))
        exact fin h11 _ n11 _ N11 T11 k11 (put_add_old Tp.nd hz) F11
      · rename ((List.any _ _ : Bool) = false) => hany
        rename Fr g L1 _ _ => F9
        rename News g L1 _ _ => N9
        refine tbl_set (by ktr_units) F9 N9 T8 D8 (Nat.le_trans hlen (by rw [sizeLine_eq]; decide)) ?_
        intro h11 tk11 n11 F11 N11 T11 k11
        (repeat' ((fail_if_success (first | (with_reducible show wpAny _ _ (call (Value.ref _) _ _) _ _ _) | (with_reducible show wpAny _ _ (call (Value.builtin "dict.items") _ _) _ _ _) | (with_reducible show wpAny _ _ (compareOp CmpOp.In (Value.ref _) (Value.ref _)) _ _ _) | (with_reducible show wpAny _ _ (setItem _ _ _) _ _ _) | (with_reducible show wpAny _ _ (getItem _ _) _ _ _) | (with_reducible show wpAny _ _ (getMethod (Value.ref _) _ _) _ _ _) | (with_reducible show wpAny _ _ (pyIter _) _ _ _) | (with_reducible show wpAny _ _ (exec (Stmt.For _ _ _ _ _) _) _ _ _))); first | (k_unfold; (try dsimp only)) | (k_end; wrow_close) | (dsimp only; walk1) | walk1))
        exact fin h11 _ n11 _ N11 T11 k11 (put_add_new hany) F11
    case hQ =>
      clear F5 N5 F6 N6 hkeep Tp ep
      rintro h7 tk7 m7 n7 F7 N7 hx43q
      refine foldG fun P44q hP44q => ?_
      obtain ⟨⟨fv, cv, rfl⟩, hkeep, ps, Tp, ep⟩ := hx43q
      refine hP44q ?_
      clear hP44q P44q
      have hfull : bs.take eb'.size = bs := by
        rw [List.take_of_length_le]
        have := congrArg List.length heb
        simp only [List.length_map, Array.length_toList] at this
        (first | lia | omega)
      rw [hfull, eb] at ep
      (repeat' ((fail_if_success (first | (with_reducible show wpAny _ _ (call (Value.ref _) _ _) _ _ _) | (with_reducible show wpAny _ _ (call (Value.builtin "dict.items") _ _) _ _ _) | (with_reducible show wpAny _ _ (compareOp CmpOp.In (Value.ref _) (Value.ref _)) _ _ _) | (with_reducible show wpAny _ _ (setItem _ _ _) _ _ _) | (with_reducible show wpAny _ _ (getItem _ _) _ _ _) | (with_reducible show wpAny _ _ (getMethod (Value.ref _) _ _) _ _ _) | (with_reducible show wpAny _ _ (pyIter _) _ _ _) | (with_reducible show wpAny _ _ (exec (Stmt.For _ _ _ _ _) _) _ _ _))); first | (k_unfold; (try dsimp only)) | (k_end; wrow_close) | (dsimp only; walk1) | walk1))
      exact hret _ n7 _ _ (by assumption) (cb_drop (by assumption) fun p hp => hp) ⟨hkeep, _, rfl, ps, Tp, ep⟩
end Mine
end

/-! ## LJoin -/
section
theorem Mine.startLJoin : True := by
  w_top off
  trivial
open PySem PySem.W PyProof.Rows PySem.Calls PySem.Spec
set_option Elab.async false
namespace Mine
noncomputable abbrev Call := Int × Fn
/-- the rows' texts, a line end between two -/
noncomputable def joinC : List (List Nat) → List Nat
  | [] => []
  | a :: r => r.foldl (fun acc b => acc ++ 10 :: b) a
theorem joinC_snoc (A : List (List Nat)) (b : List Nat) : joinC (A ++ [b]) = if A = [] then b else joinC A ++ 10 :: b := by
  cases A with
  | nil => rfl
  | cons a r => simp [joinC, List.foldl_append]
noncomputable def rowC (c : Call) : List Nat := (rowS c.1 c.2).cps.toList
noncomputable def CallOk (c : Call) : Prop := c.1.natAbs < 10 ^ 20 ∧ Good c.2
noncomputable def tableOf (R : List Call) : List (Fn × Int) := R.reverse.foldl (fun t c => addTo t (c.2, c.1)) []
theorem last_none' {l B1 B2 : List Nat} {c : Nat} {col r : Int} (hl : l = B1 ++ B2) (hcol : col = B1.length) (hB : c ∉ B1) (h : Last l c col r) : r = -1 := by
  rcases h with ⟨h, _⟩ | ⟨k, _, h1, h2, _⟩
  · exact h
  · rw [hl, List.getElem?_append_left (by (first | lia | omega))] at h1
    exact absurd (List.mem_of_getElem? h1) hB
theorem row_no10 {c : Call} (h : CallOk c) : 10 ∉ rowC c := by
  obtain ⟨m, x⟩ := c
  obtain ⟨hm, hx⟩ := h
  dsimp only at hm hx
  show 10 ∉ (rowS m x).cps.toList
  by_cases hA : x.1 = Str.ofString "~" ∧ x.2.1 = 0
  · rw [rowB]
    simp only [List.mem_append, List.mem_cons, not_or]
    exact ⟨int_text_free' 10 ⟨by decide, by decide⟩ _, by decide, std_no hx hA hx.n10 (by decide) (by decide)⟩
  · rw [rowA hA]
    simp only [List.mem_append, List.mem_cons, List.not_mem_nil, or_false, not_or]
    exact ⟨int_text_free' 10 ⟨by decide, by decide⟩ _, by decide, hx.f10, by decide, int_text_free' 10 ⟨by decide, by decide⟩ _, by decide, hx.n10, by decide⟩
theorem cps_len (x : Str) : x.cps.toList.length = x.length := (len_cps x).symm
theorem std_len {x : Fn} (hx : FnOk x) : (stdS x).length ≤ 224 := by
  have h1 := hx.fl
  have h2 := hx.nl
  by_cases hA : x.1 = Str.ofString "~" ∧ x.2.1 = 0
  · cases hl : isLt x.2.2 with
    | true =>
      obtain ⟨B, hB, hs⟩ := std_lt hA hl
      have e1 := congrArg List.length hB
      have e2 := congrArg List.length hs
      simp only [cps_len, List.length_cons, List.length_append, List.length_nil] at e1 e2
      (first | lia | omega)
    | false => rw [std_nlt hA hl]; (first | lia | omega)
  · unfold stdS
    rw [if_neg hA]
    have h3 : (Str.ofString (toString x.2.1)).length ≤ 21 := tx_len hx.ll
    have e1 : (Str.ofString ":").length = 1 := rfl
    have e2 : (Str.ofString "(").length = 1 := rfl
    have e3 : (Str.ofString ")").length = 1 := rfl
    simp only [PySem.Str.length_append]
    (first | lia | omega)
theorem row_len {c : Call} (h : CallOk c) : (rowS c.1 c.2).length ≤ 246 := by
  have h1 := tx_len h.1
  have h2 := std_len h.2.ok
  have e : (Str.ofString " ").length = 1 := rfl
  unfold rowS
  simp only [PySem.Str.length_append]
  (first | lia | omega)
theorem row_pos {c : Call} : 1 ≤ (rowC c).length := by
  unfold rowC
  rw [rowB]
  simp only [List.length_append, List.length_cons]
  (first | lia | omega)
section
variable {w : World} {h₀ : Heap} {L : Addr} {news : Led} {x : Fn} {A : Around} {E : Value → Shared → Prop} {s : Shared} {m : Str → Option Value}
theorem tbl_display {kx vx : Expr} {pos : Pos} {env : Env} {fa : Addr} {n : Int} {t : Tok} {Q : Value → Shared → Prop} (hu : A.units < cLine) (F : Fr h₀ L s.heap m) (N : News h₀ L s.heap news) (hbig : h₀.NoLimit) (D : DatIn news (.ref fa) (fnD x))
    (hk : ∀ h' (Q' : Value → Shared → Prop), Fr h₀ L h' m → Q' (.ref fa) { s with heap := h' } → wpAny (model PySem.Challenge.rw_ny0043_01.row.prog w) A (eval kx env) Q' E { s with heap := h' })
    (hv : ∀ h' (Q' : Value → Shared → Prop), Fr h₀ L h' m → Q' (.int n t) { s with heap := h' } → wpAny (model PySem.Challenge.rw_ny0043_01.row.prog w) A (eval vx env) Q' E { s with heap := h' })
    (h : ∀ d h' tk news', Fr h₀ L h' m → News h₀ L h' news' → TblAt w news' d [(x, fa, n, t)] → (∀ p ∈ news, p ∈ news') → Q (.ref d) { s with heap := h', toks := tk }) :
    wpAny (model PySem.Challenge.rw_ny0043_01.row.prog w) A (eval (.Dict [some kx] [vx] pos) env) Q E s := by
  refine wpAny_Dict_any rfl rfl (by simp) (by simp) ?_
  have F1 := F.push { cls := .type "dict", data := .dict #[] }
  have N1 := News.push F N { cls := .type "dict", data := .dict #[] }
  refine evalPairs_cons (hk _ _ F1 (wpAny_bind (hv _ _ F1 (wpAny_bind (wpAny_standAt (wpAny_pure (evalPairs_nil ?_)))))))
  unfold storeAll
  simp only [List.forIn_cons, List.forIn_nil]
  have T1 : TblAt w ((s.heap.objs.size, { cls := .type "dict", data := .dict #[] }) :: news) s.heap.objs.size [] := by
    obtain ⟨o, ho, hd⟩ := Heap.dictOf_iff.mp (Heap.DictOf.new (knd := intKind PySem.Challenge.rw_ny0043_01.row.prog w) s.heap)
    rw [Heap.get?_push_size _ rfl] at ho
    exact tbl_empty (.head _) (F.notModules (modules_low hbig)) ((Option.some.inj ho) ▸ hd)
  refine wpAny_bind (wpAny_bind (tbl_dset hu F1 N1 T1 (D.mono fun p hp => .tail _ hp) (Nat.zero_le _) ?_))
  intro h' tk news' F' N' T' k'
  refine wpAny_pure (wpAny_pure ?_)
  exact h _ _ _ news' F' N' T' fun p hp => k' p (.tail _ hp) (Nat.ne_of_lt (Heap.lt_size (N p hp).1))
end
theorem TblAt.keepNT {w : World} {news news' : Led} {d : Addr} {ys : List Ro} (T : TblAt w news d ys) (k : KeepNT news news') : TblAt w news' d ys := by
  obtain ⟨o, es, ep, hm, hc, hd⟩ := T.obj
  exact ⟨T.lo, ⟨o, es, ep, k _ hm (nt_cls (by rw [hc.1]; exact fun z => nomatch z)), hc, hd⟩, fun y hy => datFn_sub (fun p hp hcl => k p hp (nt_cls (by rw [hcl]; exact fun z => nomatch z))) (T.keys y hy), T.nd⟩
theorem Tbl.keepNT {w : World} {news news' : Led} {d : Addr} {xs : List (Fn × Int)} (T : Tbl w news d xs) (k : KeepNT news news') : Tbl w news' d xs := let ⟨ys, T, e⟩ := T; ⟨ys, T.keepNT k, e⟩
theorem tableOf_len (R : List Call) : (tableOf R).length ≤ R.length := by
  have : ∀ (l : List Call) (acc : List (Fn × Int)), (l.foldl (fun t c => addTo t (c.2, c.1)) acc).length ≤ acc.length + l.length := by
    intro l
    induction l with
    | nil => intro acc; simp
    | cons c l ih =>
      intro acc
      rw [List.foldl_cons]
      have h1 := ih (addTo acc (c.2, c.1))
      have h2 := addTo_len acc (c.2, c.1)
      simp only [List.length_cons]
      (first | lia | omega)
  have h := this R.reverse []
  simpa [tableOf] using h
theorem tableOf_cons (r : Call) (C : List Call) : tableOf (r :: C) = addTo (tableOf C) (r.2, r.1) := by
  unfold tableOf
  rw [List.reverse_cons, List.foldl_append]; rfl
end Mine
end

/-! ## LTable -/
section
theorem Mine.startLTable : True := by
  w_top off
  trivial
open PySem PySem.W PyProof.Rows PySem.Calls PySem.Spec
set_option Elab.async false
namespace Mine
structure TS where
  nw : Led
  A : List Call
  d : Addr
  te : Tok
noncomputable def endOf (A : List Call) : Int := if A = [] then -1 else ((joinC (A.map rowC)).length : Int)
structure FactsTS (w : World) (news : Led) (text : Str) (R : List Call) (x : TS) : Prop where
  keep : KeepNT news x.nw
  tabs : Tabs x.nw
  ex : ∃ C, R = x.A ++ C ∧ Tbl w x.nw x.d (tableOf C)
  txt : x.A ≠ [] → ∃ tl, text.cps.toList = joinC (x.A.map rowC) ++ tl
theorem pair_of {news : Led} {v : Value} {n : Int} {x : Fn} (D : DatIn news v (.tuple [.int n, fnD x])) : ∃ T k t fa, v = .ref T ∧ (T, tupO [.int n t, .ref fa] k) ∈ news ∧ DatIn news (.ref fa) (fnD x) := by
  cases D with
  | tuple hm r =>
    cases r with
    | cons r1 r => cases r with
      | cons r2 r =>
        cases r; cases r1
        cases r2 with
        | tuple hm2 r2 => exact ⟨_, _, _, _, rfl, hm, .tuple hm2 r2⟩
theorem end_lt (A' : List Call) (r : Call) : endOf A' < endOf (A' ++ [r]) := by
  have e : endOf (A' ++ [r]) = ((joinC ((A' ++ [r]).map rowC)).length : Int) := by unfold endOf; rw [if_neg (by simp)]
  rw [e, List.map_append, List.map_cons, List.map_nil, joinC_snoc]
  by_cases h : A' = []
  · subst h
    have : endOf [] = -1 := rfl
    rw [this]
    (first | lia | omega)
  · have h' : A'.map rowC ≠ [] := by simpa using h
    have e2 : endOf A' = ((joinC (A'.map rowC)).length : Int) := by unfold endOf; rw [if_neg h]
    rw [if_neg h', e2]
    simp only [List.length_append, List.length_cons]
    (first | lia | omega)
theorem last_row {text : Str} {A' : List Call} {r : Call} {tl : List Nat} (hr : CallOk r) (htl : text.cps.toList = joinC ((A' ++ [r]).map rowC) ++ tl) :
    (∀ y, Last text.cps.toList 10 (endOf (A' ++ [r])) y → y = endOf A') ∧ Txt.slice text (some (endOf A' + 1)) (some (endOf (A' ++ [r]))) = rowS r.1 r.2 := by
  have e : endOf (A' ++ [r]) = ((joinC ((A' ++ [r]).map rowC)).length : Int) := by unfold endOf; rw [if_neg (by simp)]
  rw [e]
  rw [List.map_append, List.map_cons, List.map_nil, joinC_snoc] at htl ⊢
  by_cases h : A' = []
  · subst h
    simp only [List.map_nil, if_true] at htl ⊢
    refine ⟨fun y hy => last_none' htl rfl (row_no10 hr) hy, ?_⟩
    rw [slice_mid (A := []) (B := (rowS r.1 r.2).cps.toList) (C := tl) htl (by decide) (by simp [rowC])]
  · have h' : A'.map rowC ≠ [] := by simpa using h
    rw [if_neg h'] at htl ⊢
    have e2 : endOf A' = ((joinC (A'.map rowC)).length : Int) := by unfold endOf; rw [if_neg h]
    rw [e2]
    refine ⟨fun y hy => last_mid (B2 := tl) (B1 := rowC r) (by rw [htl]; simp only [List.append_assoc, List.cons_append]) (by simp only [List.length_append, List.length_cons]; (first | lia | omega)) (row_no10 hr) hy, ?_⟩
    rw [slice_mid (A := joinC (A'.map rowC) ++ [10]) (B := (rowS r.1 r.2).cps.toList) (C := tl) (by rw [htl]; simp [rowC]) (by simp) (by simp [rowC]; (first | lia | omega))]
set_option maxRecDepth 100000 in
set_option maxHeartbeats 8000000 in
theorem tableK (w : World) (text : Str) (t : Tok) (R : List Call) (hne : R ≠ []) (hR : ∀ r ∈ R, CallOk r) (hx : text.cps.toList = joinC (R.map rowC)) (hlen : text.length ≤ 10000) (hn : R.length ≤ 50) :
    Claim w 12 89 [.str text t] Tabs (fun news news' r => KeepNT news news' ∧ Tabs news' ∧ ∃ d, r = .ref d ∧ Tbl w news' d (tableOf R)) := by
  unfold Claim
  k_fill
  intro p loose mean mg mb dp un gd cn cs aa ccd cl outer A₀ base h₀ L m news s Q E B F X N T hk hd hu hpre hret
  refine wpAny_call ?_
  k_dflt cell_enter
  rename_i g L1 h1 FG F1 N1 B1 X1 T1
  refine wpAny_mono (E := fun _ _ => False) ?_ (fun _ _ h => h) (fun _ _ h => h.elim)
  replace F1 : Fr g L1 h1 (fun y => List.lookup y [(Str.ofString "text", Value.str text t)]) := F1
  (repeat' ((fail_if_success (first | (with_reducible show wpAny _ _ (call (Value.ref _) _ _) _ _ _) | (with_reducible show wpAny _ _ (dictSet _ _ _) _ _ _) | (with_reducible show wpAny _ _ (exec (Stmt.While _ _ _ _) _) _ _ _))); first | (k_unfold; (try dsimp only)) | (k_end; wrow_close) | walk1 | (dsimp only; walk1)))
  rename_i d0 h2 o0 hlt0 hlo0 hs0 fs0 hi0 fi0 h3 h4 F4 N4
  obtain ⟨te, F4⟩ : ∃ te, Fr g L1 h4 (fun y => if y = Str.ofString "end" then some (Value.int text.length te) else if y = Str.ofString "table" then some (.ref d0) else List.lookup y [(Str.ofString "text", .str text t)]) := ⟨_, F4⟩
  refine ksw_while (σ := TS) (fun c => c.nw) (fun c => [(Str.ofString "table", .ref c.d), (Str.ofString "end", .int (endOf c.A) c.te)]) (FactsTS w news text R)
    [Str.ofString "table", Str.ofString "end", Str.ofString "start", Str.ofString "count", Str.ofString "function"] (fun _ => True) (fun c => c.A.length) ⟨_, R, d0, te⟩ F4 N4 ?hf ?hk trivial ?turn (fun _ _ h => h.elim)
  case hf =>
    refine ⟨fun p hp _ => .tail _ hp, hpre.mono fun p hp => .tail _ hp, ⟨[], by simp, [], tbl_empty (.head _) hlo0 hs0, rfl⟩, fun _ => ⟨[], by rw [hx, List.append_nil]⟩⟩
  case hk =>
    intro p hp
    simp only [List.mem_cons, List.not_mem_nil, or_false] at hp
    have e : endOf R = (text.length : Int) := by unfold endOf; rw [if_neg hne, ← hx, cps_len]
    rcases hp with rfl | rfl
    · rfl
    · dsimp only; rw [e]; rfl
  case turn =>
    intro x u h7 tk7 hfx _ F7 N7
    clear F4 N4
    (repeat' ((fail_if_success (first | (with_reducible show wpAny _ _ (call (Value.ref _) _ _) _ _ _) | (with_reducible show wpAny _ _ (dictSet _ _ _) _ _ _) | (with_reducible show wpAny _ _ (exec (Stmt.While _ _ _ _) _) _ _ _))); first | (k_unfold; (try dsimp only)) | (k_end; wrow_close) | walk1 | (dsimp only; walk1)))
    · rename (0 ≤ endOf x.A) => hend
      obtain ⟨nw, A, d, te'⟩ := x
      obtain ⟨keep, tabs, ⟨C, hRC, TC⟩, txt⟩ := hfx
      dsimp only at keep tabs hRC TC txt hend F7 N7 ⊢
      obtain ⟨A', r, rfl⟩ : ∃ A' r, A = A' ++ [r] := by
        rcases List.eq_nil_or_concat A with rfl | ⟨A', r, rfl⟩
        · exact absurd hend (by decide)
        · exact ⟨A', r, List.concat_eq_append ..⟩
      obtain ⟨tl, htl⟩ := txt (by simp)
      have hr : CallOk r := hR r (by rw [hRC]; simp)
      obtain ⟨hst, hrow⟩ := last_row (r := r) hr htl
      refine lastK w _ text _ _ _ _ 10 (by decide +kernel) (by (first | lia | omega)) _ _ _ _ _ _ _ _ _ _ _ _ _ _ _ _ _ _ _ _ _ _ _ B1 F7 X1 N7 T1 rfl (by ktr_room) (by ktr_units) tabs ?_
      rintro v8 news8 h8 tk8 F8 N8 hx4q
      refine foldG fun P5q hP5q => ?_
      obtain ⟨k8, tb8, y, ty, hy, rfl⟩ := hx4q
      refine hP5q ?_
      clear hP5q P5q
      try refine ckpt (g := s.gens) (d := s.drawn) (o := s.os) fun tk6q => ?_
      obtain rfl := hst y hy
      (repeat' ((fail_if_success (first | (with_reducible show wpAny _ _ (call (Value.ref _) _ _) _ _ _) | (with_reducible show wpAny _ _ (dictSet _ _ _) _ _ _) | (with_reducible show wpAny _ _ (exec (Stmt.While _ _ _ _) _) _ _ _))); first | (k_unfold; (try dsimp only)) | (k_end; wrow_close) | walk1 | (dsimp only; walk1)))
      rename Fr g L1 _ _ => F9
      rename News g L1 _ _ => N9
      rw [hrow]
      refine readK w _ r.1 r.2 hr.1 hr.2 (Nat.le_trans (row_len hr) (by decide)) _ _ _ _ _ _ _ _ _ _ _ _ _ _ _ _ _ _ _ _ _ _ _ B1 F9 X1 N9 T1 rfl (by ktr_room) (by ktr_units) tb8 ?_
      rintro v10 news10 h10 tk10 F10 N10 hx7q
      refine foldG fun P8q hP8q => ?_
      obtain ⟨k10, tb10, D10⟩ := hx7q
      refine hP8q ?_
      clear hP8q P8q
      try refine ckpt (g := s.gens) (d := s.drawn) (o := s.os) fun tk9q => ?_
      have k_all : KeepNT nw news10 := k8.trans k10
      obtain ⟨Tu, n0, t1, fa, rfl, hTu, Dfa⟩ := pair_of D10
      clear hrow D10
      (repeat' ((fail_if_success (first | (with_reducible show wpAny _ _ (call (Value.ref _) _ _) _ _ _) | (with_reducible show wpAny _ _ (dictSet _ _ _) _ _ _) | (with_reducible show wpAny _ _ (exec (Stmt.While _ _ _ _) _) _ _ _))); first | (k_unfold; (try dsimp only)) | (k_end; wrow_close) | walk1 | (dsimp only; walk1)))
      rename Fr g L1 _ _ => F11
      rename News g L1 _ _ => N11
      refine tbl_display (by ktr_units) F11 N11 T1.nolimit Dfa (fun _ _ F' h => ld F' rfl h) (fun _ _ F' h => ld F' rfl h) ?_
      intro dd h12 tk12 news12 F12 N12 T12 k12
      (repeat' ((fail_if_success (first | (with_reducible show wpAny _ _ (call (Value.ref _) _ _) _ _ _) | (with_reducible show wpAny _ _ (dictSet _ _ _) _ _ _) | (with_reducible show wpAny _ _ (exec (Stmt.While _ _ _ _) _) _ _ _))); first | (k_unfold; (try dsimp only)) | (k_end; wrow_close) | walk1 | (dsimp only; walk1)))
      refine addK w d dd (tableOf C) [(r.2, r.1)] (by
        have := tableOf_len C
        have e := congrArg List.length hRC
        simp only [List.length_append, List.length_cons, List.length_nil] at e ⊢
        (first | lia | omega)) _ _ _ _ _ _ _ _ _ _ _ _ _ _ _ _ _ _ _ _ _ _ _ B1 F12 X1 N12 T1 rfl (by ktr_room) (by ktr_units) ⟨(TC.keepNT k_all).mono k12, _, T12, rfl⟩ ?_
      rintro v13 news13 h13 tk13 F13 N13 hx10q
      refine foldG fun P11q hP11q => ?_
      obtain ⟨k13, d', rfl, TD⟩ := hx10q
      refine hP11q ?_
      clear hP11q P11q
      try refine ckpt (g := s.gens) (d := s.drawn) (o := s.os) fun tk12q => ?_
      (repeat' ((fail_if_success (first | (with_reducible show wpAny _ _ (call (Value.ref _) _ _) _ _ _) | (with_reducible show wpAny _ _ (dictSet _ _ _) _ _ _) | (with_reducible show wpAny _ _ (exec (Stmt.While _ _ _ _) _) _ _ _))); first | (k_unfold; (try dsimp only)) | (k_end; wrow_close) | walk1 | (dsimp only; walk1)))
      rename Fr g L1 _ _ => F14
      rename News g L1 _ _ => N14
      have hnl : ¬ (endOf (A' ++ [r]) - 1 < endOf A') := by have := end_lt A' r; (first | lia | omega)
      simp only [if_neg hnl] at F14
      refine ksw_end (⟨news13, A', d', ty⟩ : TS) F14 N14 (fun p hp => hp) ⟨keep.trans (k_all.trans fun p hp _ => k13 p (k12 p hp)), (tb10.mono k12).mono k13, ⟨r :: C, by rw [hRC]; simp, by rw [tableOf_cons]; exact TD⟩, fun h => ⟨10 :: (rowC r ++ tl), ?_⟩⟩ ?_ ?_ trivial ?_
      · rw [htl, List.map_append, List.map_cons, List.map_nil, joinC_snoc, if_neg (by simpa using h)]
        simp only [List.append_assoc, List.cons_append]
      · intro p hp
        simp only [List.mem_cons, List.not_mem_nil, or_false] at hp
        rcases hp with rfl | rfl <;> rfl
      · intro z h2 h3
        simp only [List.contains_cons, List.contains_nil, Bool.or_false, Bool.or_eq_false_iff, beq_eq_false_iff_ne, ne_eq] at h3
        obtain ⟨z1, z2, z3, z4, z5⟩ := h3
        simp [kstB, z1, z2, z3, z4, z5]
      · simp
    · rename (¬ 0 ≤ endOf x.A) => hend
      have hA : x.A = [] := by
        by_cases h : x.A = []
        · exact h
        · exfalso; apply hend; unfold endOf; rw [if_neg h]; (first | lia | omega)
      obtain ⟨C, hRC, TC⟩ := hfx.ex
      rw [hA, List.nil_append] at hRC
      subst hRC
      exact hret _ x.nw _ _ (by assumption) (by assumption) ⟨hfx.keep, hfx.tabs, _, rfl, TC⟩
end Mine
end

/-! ## LSub -/
section
theorem Mine.startLSub : True := by
  w_top off
  trivial
open PySem PySem.W PyProof.Rows PySem.Calls PySem.Spec
set_option Elab.async false
namespace Mine
theorem any_false {M : Model} {A : Around} {α : Type} {t : Sem α} {Q : α → Shared → Prop} {E : Value → Shared → Prop} {s : Shared} (h : wpAny M A t Q (fun _ _ => False) s) : wpAny M A t Q E s := wpAny_mono h (fun _ _ h => h) (fun _ _ h => h.elim)
/-- a list's object -/
noncomputable abbrev lsO (vs : List Value) (k : Nat) : Obj := { cls := .type "list", data := .seq vs.toArray k }
noncomputable abbrev callD (c : Call) : Dat := .tuple [.int c.1, fnD c.2]
theorem datCall_sub {news news' : Led} {v : Value} {c : Call} (hk : ∀ p ∈ news, p.2.cls = .type "tuple" → p ∈ news') (D : DatIn news v (callD c)) : DatIn news' v (callD c) := by
  obtain ⟨T, k, t, fa, rfl, hm, Df⟩ := pair_of D
  exact .tuple (hk _ hm rfl) (.cons (.int _ _) (.cons (datFn_sub hk Df) .nil))
theorem calls_sub {news news' : Led} (hk : ∀ p ∈ news, p.2.cls = .type "tuple" → p ∈ news') : ∀ {vs : List Value} {cs : List Call}, DatAll news vs (cs.map callD) → DatAll news' vs (cs.map callD)
  | [], [], _ => .nil
  | _ :: _, _ :: _, .cons h r => .cons (datCall_sub hk h) (calls_sub hk r)
theorem datAll_snoc {news : Led} : ∀ {vs : List Value} {ds : List Dat} {v : Value} {d : Dat}, DatAll news vs ds → DatIn news v d → DatAll news (vs ++ [v]) (ds ++ [d])
  | _, _, _, _, .nil, h => .cons h .nil
  | _, _, _, _, .cons h1 r, h => .cons h1 (datAll_snoc r h)
theorem datAll_len {news : Led} : ∀ {vs : List Value} {ds : List Dat}, DatAll news vs ds → vs.length = ds.length
  | _, _, .nil => rfl
  | _, _, .cons _ r => congrArg (· + 1) (datAll_len r)
theorem datAll_app {news : Led} : ∀ {vs ws : List Value} {ds es : List Dat}, DatAll news vs ds → DatAll news ws es → DatAll news (vs ++ ws) (ds ++ es)
  | _, _, _, _, .nil, h => h
  | _, _, _, _, .cons h1 r, h => .cons h1 (datAll_app r h)
theorem datAll_rev {news : Led} : ∀ {vs : List Value} {ds : List Dat}, DatAll news vs ds → DatAll news vs.reverse ds.reverse
  | _, _, .nil => .nil
  | _, _, .cons h1 r => by
    rw [List.reverse_cons, List.reverse_cons]
    exact datAll_snoc (datAll_rev r) h1
theorem datAll_at {news : Led} : ∀ {vs : List Value} {ds : List Dat} {i : Nat} {v : Value}, DatAll news vs ds → vs[i]? = some v → ∃ d, ds[i]? = some d ∧ DatIn news v d
  | _, _, 0, _, .cons h1 _, e => by
    rw [List.getElem?_cons_zero] at e
    obtain rfl := Option.some.inj e
    exact ⟨_, rfl, h1⟩
  | _, _, i + 1, _, .cons _ r, e => by
    rw [List.getElem?_cons_succ] at e
    obtain ⟨d, h1, h2⟩ := datAll_at r e
    exact ⟨d, by rw [List.getElem?_cons_succ]; exact h1, h2⟩
theorem datAll_take {news : Led} : ∀ {vs : List Value} {ds : List Dat} (n : Nat), DatAll news vs ds → DatAll news (vs.take n) (ds.take n)
  | _, _, 0, _ => by simp only [List.take_zero]; exact .nil
  | _, _, _ + 1, .nil => .nil
  | _, _, n + 1, .cons h r => .cons h (datAll_take n r)
section
variable {prog : Program} {w : World} {A : Around} {E : Value → Shared → Prop} {s : Shared} {h₀ : Heap} {L : Addr} {m : Str → Option Value} {news : Led}
theorem item_listI {value slice : Expr} {l : Addr} {vs : List Value} {k : Nat} {i : Int} {u : Tok} {v : Value} {Q : Value → Shared → Prop}
    (N : News h₀ L s.heap news) (hm : (l, lsO vs k) ∈ news) (h0 : 0 ≤ i) (hi : i < 1000) (hx : vs[i.toNat]? = some v) (h : Q v s)
    (hs : subscripted slice false (.ref l) (.int i u) = operate [.ref l, .int i u] (getItem (.ref l) (.int i u)) := by with_unfolding_all rfl) :
    wpAny (model prog w) A (subscriptTail value slice (.ref l) (.int i u)) Q E s := by
  have hl : s.heap.IsList l vs.toArray := ⟨_, (N _ hm).1, rfl, _, rfl⟩
  exact tail_any hl.typeIs slot_list_getitem.lookup (wpAny_getItem_list hl h0 (by (first | lia | omega)) (by simpa using hx) h) hs
theorem len_lst {l : Addr} {vs : List Value} {k : Nat} {Q : Value → Shared → Prop} (N : News h₀ L s.heap news) (hm : (l, lsO vs k) ∈ news) (hz : vs.length < 1000) (h : Q (.int vs.length (s.toks + 1)) { s with toks := s.toks + 1 + 1 }) :
    wpAny (model prog w) A (call (.builtin "len") [.ref l]) Q E s := by
  refine call_len_list (items := vs.toArray) ⟨_, (N _ hm).1, rfl, _, rfl⟩ (by rw [List.size_toArray]; (first | lia | omega)) ?_
  simpa using h
theorem lst_mAppend {l : Addr} {vs : List Value} {k : Nat} {pl : Sem Bool} {Q : Value × List Value → Shared → Prop} (N : News h₀ L s.heap news) (hm : (l, lsO vs k) ∈ news) (h : Q (.builtin "list.append", [.ref l]) s) :
    wpAny (model prog w) A (getMethod (.ref l) "append" pl) Q E s := Calls.getMethod_list_append (N _ hm).1 rfl rfl h
theorem lst_append {l : Addr} {vs : List Value} {k : Nat} {x : Value} {Q : Value → Shared → Prop} (F : Fr h₀ L s.heap m) (N : News h₀ L s.heap news) (hm : (l, lsO vs k) ∈ news) (hz : vs.length ≤ 1000)
    (h : ∀ h' news', Fr h₀ L h' m → News h₀ L h' news' → (l, lsO (vs ++ [x]) (k + 1)) ∈ news' → (∀ p ∈ news, p.1 ≠ l → p ∈ news') → (∀ p ∈ news', p = (l, lsO (vs ++ [x]) (k + 1)) ∨ p ∈ news) → Q .none { s with heap := h' }) :
    wpAny (model prog w) A (call (.builtin "list.append") [.ref l, x]) Q E s := by
  have z := N _ hm
  refine append_at (hsz := by rw [List.size_toArray, sizeLine_eq]; (first | lia | omega)) z.1 fun h₅ hs₅ hD₅ => ?_
  have e : ({ cls := .type "list", data := .seq (vs.toArray.push x) (k + 1) } : Obj) = lsO (vs ++ [x]) (k + 1) := by rw [List.push_toArray]
  rw [e] at hD₅
  refine h h₅ (news.map fun p => if p.1 = l then (l, lsO (vs ++ [x]) (k + 1)) else p) (F.change hs₅ z.2.1 z.2.2) (N.replace hs₅ hD₅) (List.mem_map.mpr ⟨_, hm, by simp⟩) (fun p hp hpl => List.mem_map.mpr ⟨p, hp, by simp [hpl]⟩) fun p hp => ?_
  obtain ⟨q, hq, rfl⟩ := List.mem_map.mp hp
  by_cases hl : q.1 = l
  · exact .inl (by simp [hl])
  · exact .inr (by simp [hl]; exact hq)
end
section
variable {prog : Program} {w : World} {A : Around} {E : Value → Shared → Prop} {s : Shared} {env : Env} {h₀ : Heap} {body : List Stmt} {Q : Flow → Shared → Prop}
/-- one turn's end of a loop whose iterator is the one object of its own -/
inductive TurnEnd1 (h₀ : Heap) (L I : Addr) (oi : Obj) (J : (Str → Option Value) → Led → Prop) (s₁ : Shared) (f : Flow) (s₂ : Shared) : Prop
  | mk (hf : f = .next) (h' tk m' news') (e : s₂ = { s₁ with heap := h', toks := tk }) (F : Fr h₀ L h' m') (N : News h₀ L h' ((I, oi) :: news')) (off : ∀ p ∈ news', p.1 ≠ I) (j : J m' news') : TurnEnd1 h₀ L I oi J s₁ f s₂
theorem range_for {target : Expr} {r : Addr} {a b c : Int} {t u v : Tok} {n : Nat} {m : Str → Option Value} {news : Led}
    (hh : A.handled = none) (F : Fr h₀ env.locals s.heap m) (N : News h₀ env.locals s.heap news) (hr : IsRange s.heap r a b c t u v) (hsm : Builtin.Range.small a b c = true) (hn : Builtin.Range.rangeSize a b c = ((n : Nat) : Int))
    (J : Nat → (Str → Option Value) → Led → Prop) (h0 : J 0 m news)
    (step : ∀ i t m₁ news₁ h₁ tk₁ I oi, i < n → J i m₁ news₁ → (∀ p ∈ news₁, p.1 ≠ I) → oi.cls = .type "range_iterator" → Fr h₀ env.locals h₁ m₁ → News h₀ env.locals h₁ ((I, oi) :: news₁) →
      wpAny (model prog w) A (assign target env (.int (a + i * c) t)) (fun _ s₃ => wpAny (model prog w) A (execs body env)
        (TurnEnd1 h₀ env.locals I oi (J (i + 1)) { s with heap := h₁, toks := tk₁ }) E s₃) E { s with heap := h₁, toks := tk₁ })
    (hQ : ∀ h' tk m' news', Fr h₀ env.locals h' m' → News h₀ env.locals h' news' → J n m' news' → Q .next { s with heap := h', toks := tk }) :
    wpAny (model prog w) A (pyIter (.ref r)) (fun it s₂ => TurnsAt prog w A h₀ env target body Q E it s₂) E s := by
  refine wpAny_pyIter_range hr hsm ?_
  refine ⟨s.heap.objs.size, _, _, _, _, _, _, m, news, J, rfl, KTurns.ofWalks (target := target) (Walks.range hh s.heap.objs.size a c n) ?_, ?_, ?_, ?_, ?_, F.push _, fun p hp => ⟨Heap.get?_push_of_some _ (N p hp).1, (N p hp).2⟩, h0, ?_, ?_⟩
  · intro i v s' Q E st h
    exact letGo_fields (o := _) st rfl rfl (.inr (.inl rfl)) h
  · intro hI
    exact absurd F.ns.lt ((List.mem_singleton.mp hI) ▸ Nat.lt_irrefl _)
  · intro b hb
    rw [List.mem_singleton.mp hb]; exact next_is_new F
  · intro p hp hI
    exact absurd (Heap.lt_size (N p hp).1) ((List.mem_singleton.mp hI) ▸ Nat.lt_irrefl _)
  · show IsRangeIter _ _ _ _ _
    rw [hn]; simpa using Heap.get?_push_size _ rfl
  · rintro i v m₁ news₁ h₁ tk₁ own hi ⟨t, rfl⟩ hJ hoff hown hget hall he F₁ N₁
    have hI : h₀.get? s.heap.objs.size = none := next_is_new F
    obtain ⟨oi, hoi, hcl⟩ : ∃ oi : Obj, h₁.get? s.heap.objs.size = some oi ∧ oi.cls = .type "range_iterator" := ⟨_, he, rfl⟩
    have hIm := hall s.heap.objs.size (by simp) hI _ hoi
    refine wpAny_mono (step i t m₁ news₁ h₁ tk₁ s.heap.objs.size oi hi hJ (fun p hp h => hoff p hp (by simp [h])) hcl F₁ ?_) (fun _ s₃ h₃ => wpAny_mono h₃ (fun f s₄ h₄ => ?_) fun _ _ e => e) fun _ _ e => e
    · intro p hp
      rcases List.mem_cons.mp hp with rfl | hp
      · exact N₁ _ (List.mem_append_left _ hIm)
      · exact N₁ _ (List.mem_append_right _ hp)
    · obtain ⟨rfl, h', tk, m', news', rfl, F', N', ho, hJ'⟩ := h₄
      refine LoopStepV.next ⟨rfl, h', tk, m', news', rfl, F', ?_, fun p hp hI => ho p hp (by simpa using hI), hJ'⟩
      intro p hp
      rcases List.mem_append.mp hp with hp | hp
      · have hb : p.1 = s.heap.objs.size := by simpa using hown p hp
        have hg := hget p hp
        obtain ⟨pa, po⟩ := p
        dsimp only at hb hg
        subst hb
        obtain rfl := Option.some.inj (hoi.symm.trans hg)
        exact N' _ (.head _)
      · exact N' _ (.tail _ hp)
  · intro h' tk m' news' F' N' _ hJ
    exact hQ h' tk m' news' F' N' hJ
end
end Mine
end

/-! ## LCalls -/
section
theorem Mine.startLCalls : True := by
  w_top off
  trivial
open PySem PySem.W PyProof.Rows PySem.Calls PySem.Spec
set_option Elab.async false
namespace Mine
noncomputable def filesL : List Str := ["~", "a", ":", "(", ".", "", "7", "-", "<", ")"].map Str.ofString
noncomputable def namesL : List Str := ["", "f", ":", "<", ">", "~", "7", ")", ".", "-"].map Str.ofString
noncomputable def fnAt (ns : List Int) (i : Nat) : Fn := (textS (ns.getD (3 * i) 0) filesL, cutI (ns.getD (3 * i + 1) 0), textS (ns.getD (3 * i + 2) 0) namesL)
noncomputable def upAt (ns : List Int) (i : Nat) : Call := (cutI (ns.getD (3 * i) 0), fnAt ns i)
noncomputable def loAt (ns : List Int) (i : Nat) : Call := (cutI (ns.getD (3 * i + 2) 0), fnAt ns i)
noncomputable def aboveL (ns : List Int) (q : Nat) : List Call := (List.range q).map (upAt ns)
noncomputable def belowU (ns : List Int) (q : Nat) : List Call := ((List.range q).drop 1).map (loAt ns)
noncomputable def ctM (m : Str → Option Value) (fv kv : Option Value) : Str → Option Value := fun y => if y = Str.ofString "function" then fv else if y = Str.ofString "k" then kv else m y
theorem ctM_start {m : Str → Option Value} (h1 : m (Str.ofString "function") = none) (h2 : m (Str.ofString "k") = none) : m = ctM m none none := by
  funext y
  unfold ctM
  by_cases e1 : y = Str.ofString "function"
  · rw [if_pos e1, e1, h1]
  · by_cases e2 : y = Str.ofString "k"
    · rw [if_neg e1, if_pos e2, e2, h2]
    · rw [if_neg e1, if_neg e2]
theorem num_at {ns : List (Int × Tok)} {j : Nat} {x : Int} {p : Int × Tok} (h : ns[j]? = some p) (e : x.toNat = j) : (ns.map fun p => Value.int p.1 p.2)[x.toNat]? = some (.int p.1 p.2) := by
  rw [e, List.getElem?_map, h]; rfl
theorem filesL_one : ∀ x ∈ filesL, x.length ≤ 1 := by decide +kernel
theorem namesL_one : ∀ x ∈ namesL, x.length ≤ 1 := by decide +kernel
theorem rng_small {q : Nat} (h1 : 1 ≤ q) (h2 : q ≤ 5) : Builtin.Range.small 0 (3 * (q : Int) - 2) 3 = true := by
  rcases (by (first | lia | omega) : q = 1 ∨ q = 2 ∨ q = 3 ∨ q = 4 ∨ q = 5) with rfl | rfl | rfl | rfl | rfl <;> decide +kernel
theorem rng_size {q : Nat} (h1 : 1 ≤ q) (h2 : q ≤ 5) : Builtin.Range.rangeSize 0 (3 * (q : Int) - 2) 3 = (q : Int) := by
  rcases (by (first | lia | omega) : q = 1 ∨ q = 2 ∨ q = 3 ∨ q = 4 ∨ q = 5) with rfl | rfl | rfl | rfl | rfl <;> decide +kernel
theorem ctM_next {m : Str → Option Value} {fv kv : Option Value} {f k : Value} : (fun y => if y = Str.ofString "function" then some f else if y = Str.ofString "k" then some k else ctM m fv kv y) = ctM m (some f) (some k) := by
  funext y
  unfold ctM
  by_cases e1 : y = Str.ofString "function"
  · simp only [if_pos e1]
  · by_cases e2 : y = Str.ofString "k"
    · simp only [if_neg e1, if_pos e2]
    · simp only [if_neg e1, if_neg e2]
theorem getD_at {ns : List (Int × Tok)} {j : Nat} {p : Int × Tok} (h : ns[j]? = some p) : (ns.map (·.1)).getD j 0 = p.1 := by
  rw [List.getD_eq_getElem?_getD, List.getElem?_map, h]; rfl
theorem aboveL_succ (ns : List Int) (i : Nat) : aboveL ns (i + 1) = aboveL ns i ++ [upAt ns i] := by
  unfold aboveL
  rw [List.range_succ, List.map_append]; rfl
theorem belowU_succ (ns : List Int) {i : Nat} (h : 0 < i) : belowU ns (i + 1) = belowU ns i ++ [loAt ns i] := by
  unfold belowU
  rw [List.range_succ, List.drop_append_of_le_length (by rw [List.length_range]; (first | lia | omega)), List.map_append]; rfl
theorem datFn3 {news : Led} {a : Addr} {x y : Str} {l : Int} {t u v : Tok} {k : Nat} (h : (a, tupO [.str x t, .int l u, .str y v] k) ∈ news) : DatIn news (.ref a) (fnD (x, l, y)) :=
  .tuple h (.cons (.str _ _) (.cons (.int _ _) (.cons (.str _ _) .nil)))
noncomputable def callsM (lS lF lN lFi a : Addr) : Str → Option Value := fun y => if y = Str.ofString "second" then some (Value.ref lS) else if y = Str.ofString "first" then some (Value.ref lF) else if y = Str.ofString "names" then some (Value.ref lN) else if y = Str.ofString "files" then some (Value.ref lFi) else List.lookup y [(Str.ofString "numbers", Value.ref a)]
theorem ix0 {i q : Nat} (hi : i < q) (hq : q ≤ 5) : 0 ≤ (0 + (i : Int) * 3) ∧ (0 + (i : Int) * 3) < 1000 ∧ (0 + (i : Int) * 3).toNat = 3 * i := by (first | lia | omega)
theorem ix1 {i q : Nat} (hi : i < q) (hq : q ≤ 5) : 0 ≤ (0 + (i : Int) * 3 + 1) ∧ (0 + (i : Int) * 3 + 1) < 1000 ∧ (0 + (i : Int) * 3 + 1).toNat = 3 * i + 1 := by (first | lia | omega)
theorem ix2 {i q : Nat} (hi : i < q) (hq : q ≤ 5) : 0 ≤ (0 + (i : Int) * 3 + 2) ∧ (0 + (i : Int) * 3 + 2) < 1000 ∧ (0 + (i : Int) * 3 + 2).toNat = 3 * i + 2 := by (first | lia | omega)
/-- what holds ahead of the loop's turn i -/
inductive CallsJ (m₀ : Str → Option Value) (news : Led) (lF lS lN lFi : Addr) (nsL fsL : List (Str × Tok)) (ns : List Int) (i : Nat) (m₁ : Str → Option Value) (n₁ : Led) : Prop
  | mk (fv kv) (hm : m₁ = ctM m₀ fv kv) (hkeep : ∀ p ∈ news, p ∈ n₁) (hmN : (lN, lsO (strValues nsL) 0) ∈ n₁) (hmF : (lFi, lsO (strValues fsL) 0) ∈ n₁) (vF kF vS kS) (hvF : (lF, lsO vF kF) ∈ n₁) (hvS : (lS, lsO vS kS) ∈ n₁)
    (dF : DatAll n₁ vF ((aboveL ns i).map callD)) (dS : DatAll n₁ vS ((belowU ns i).map callD)) : CallsJ m₀ news lF lS lN lFi nsL fsL ns i m₁ n₁
set_option maxRecDepth 100000 in
set_option maxHeartbeats 8000000 in
theorem callsK (w : World) (a : Addr) (ns : List (Int × Tok)) (k q : Nat) (hq : ns.length = 3 * q) (hq1 : 1 ≤ q) (hq2 : q ≤ 5) :
    Claim w 4 68 [.ref a] (fun news => (a, lsO (ns.map fun p => Value.int p.1 p.2) k) ∈ news) (fun news news' r => (∀ p ∈ news, p ∈ news') ∧ DatIn news' r (.tuple [.list ((aboveL (ns.map (·.1)) q).map callD), .list ((belowU (ns.map (·.1)) q).reverse.map callD)])) := by
  unfold Claim
  k_fill
  intro p loose mean mg mb dp un gd cn cs aa ccd cl outer A₀ base h₀ L m news s Q E B F X N T hk hd hu hpre hret
  refine wpAny_call ?_
  k_dflt cell_enter
  rename_i g L1 h1 FG F1 N1 B1 X1 T1
  refine any_false ?_
  replace F1 : Fr g L1 h1 (fun y => List.lookup y [(Str.ofString "numbers", Value.ref a)]) := F1
  (repeat' ((fail_if_success (first | (with_reducible show wpAny _ _ (call (Value.ref _) _ _) _ _ _) | (with_reducible show wpAny _ _ (pyIter _) _ _ _) | (with_reducible show wpAny _ _ (call (Value.builtin "len") _ _) _ _ _) | (with_reducible show wpAny _ _ (getMethod (Value.ref _) _ _) _ _ _) | (with_reducible show wpAny _ _ (call (Value.builtin "list.append") _ _) _ _ _) | (with_reducible show wpAny _ _ (subscriptTail _ _ (Value.ref _) _) _ _ _) | (with_reducible show wpAny _ _ (exec (Stmt.For _ _ _ _ _) _) _ _ _))); first | (k_unfold; (try dsimp only)) | (k_end; wrow_close) | (dsimp only; walk1) | walk1))
  rename Fr g L1 _ _ => F2
  rename News g L1 _ _ => N2
  refine For_turns F2 ?_
  (repeat' ((fail_if_success (first | (with_reducible show wpAny _ _ (call (Value.ref _) _ _) _ _ _) | (with_reducible show wpAny _ _ (pyIter _) _ _ _) | (with_reducible show wpAny _ _ (call (Value.builtin "len") _ _) _ _ _) | (with_reducible show wpAny _ _ (getMethod (Value.ref _) _ _) _ _ _) | (with_reducible show wpAny _ _ (call (Value.builtin "list.append") _ _) _ _ _) | (with_reducible show wpAny _ _ (subscriptTail _ _ (Value.ref _) _) _ _ _) | (with_reducible show wpAny _ _ (exec (Stmt.For _ _ _ _ _) _) _ _ _))); first | (k_unfold; (try dsimp only)) | (k_end; wrow_close) | (dsimp only; walk1) | walk1))
  refine len_lst N2 (.tail _ (.tail _ (.tail _ (.tail _ hpre)))) (by rw [List.length_map]; (first | lia | omega)) ?_
  (repeat' ((fail_if_success (first | (with_reducible show wpAny _ _ (call (Value.ref _) _ _) _ _ _) | (with_reducible show wpAny _ _ (pyIter _) _ _ _) | (with_reducible show wpAny _ _ (call (Value.builtin "len") _ _) _ _ _) | (with_reducible show wpAny _ _ (getMethod (Value.ref _) _ _) _ _ _) | (with_reducible show wpAny _ _ (call (Value.builtin "list.append") _ _) _ _ _) | (with_reducible show wpAny _ _ (subscriptTail _ _ (Value.ref _) _) _ _ _) | (with_reducible show wpAny _ _ (exec (Stmt.For _ _ _ _ _) _) _ _ _))); first | (k_unfold; (try dsimp only)) | (k_end; wrow_close) | (dsimp only; walk1) | walk1))
  rename Fr g L1 _ _ => F3
  rename News g L1 _ _ => N3
  rename IsRange _ _ _ _ _ _ _ _ => hr
  revert F3 N3
  rename Fr g L1 _ _ => F2
  rename News g L1 _ _ => N2
  clear F2 N2
  intro F3 N3
  rename (_ < _ ∧ _ < _ ∧ _ < _ ∧ AllLt _ news) => hl4
  rename (_ < _ ∧ _ < _ ∧ AllLt _ news) => hl3
  rename (_ < _ ∧ AllLt _ news) => hl2
  rename (∀ p ∈ news, p.1 < _) => hl1
  obtain ⟨lS, lF, lN, lFi, fsL, nsL, hfs, hns, F4, N4, hn1, hn2, hn3⟩ : ∃ lS lF lN lFi, ∃ fsL nsL : List (Str × Tok), fsL.map (·.1) = filesL ∧ nsL.map (·.1) = namesL ∧
      Fr g L1 _ (callsM lS lF lN lFi a) ∧
      News g L1 _ ((lS, lsO [] 0) :: (lF, lsO [] 0) :: (lN, lsO (strValues nsL) 0) :: (lFi, lsO (strValues fsL) 0) :: news) ∧ (∀ p ∈ news, p.1 < lF ∧ p.1 < lS) ∧ (lN < lF ∧ lFi < lF) ∧ (lF < lS ∧ lN < lS ∧ lFi < lS) :=
    ⟨_, _, _, _, [(_, _), (_, _), (_, _), (_, _), (_, _), (_, _), (_, _), (_, _), (_, _), (_, _)], [(_, _), (_, _), (_, _), (_, _), (_, _), (_, _), (_, _), (_, _), (_, _), (_, _)], rfl, rfl, F3, N3, fun p hp => ⟨Nat.lt_trans (hl1 p hp) hl3.2.1, Nat.lt_trans (hl1 p hp) hl4.2.2.1⟩, ⟨hl3.1, hl3.2.1⟩, hl4.1, hl4.2.1, hl4.2.2.1⟩
  clear F3 N3 hl1 hl2 hl3 hl4
  have hfl : fsL.length = 10 := by have := congrArg List.length hfs; simpa [filesL] using this
  have hnl : nsL.length = 10 := by have := congrArg List.length hns; simpa [namesL] using this
  have hf1 : ∀ p ∈ fsL, p.1.length ≤ 1 := fun p hp => filesL_one p.1 (by rw [← hfs]; exact List.mem_map.mpr ⟨p, hp, rfl⟩)
  have hn1' : ∀ p ∈ nsL, p.1.length ≤ 1 := fun p hp => namesL_one p.1 (by rw [← hns]; exact List.mem_map.mpr ⟨p, hp, rfl⟩)
  have eb : (((ns.map fun p => Value.int p.1 p.2).length : Nat) : Int) - 2 = 3 * (q : Int) - 2 := by rw [List.length_map, hq]; (first | lia | omega)
  rw [eb] at hr
  refine range_for (n := q) rfl F4 N4 hr (rng_small hq1 hq2) (rng_size hq1 hq2) (CallsJ (callsM lS lF lN lFi a) news lF lS lN lFi nsL fsL (ns.map (·.1))) ?h0 ?step ?hQ
  case h0 => exact ⟨none, none, ctM_start rfl rfl, fun p hp => .tail _ (.tail _ (.tail _ (.tail _ hp))), .tail _ (.tail _ (.head _)), .tail _ (.tail _ (.tail _ (.head _))), [], 0, [], 0, .tail _ (.head _), .head _, .nil, .nil⟩
  case step =>
    rintro i t m₁ n₁ h₁ tk₁ I oi hi ⟨fv, kv, rfl, hkeep, hmN, hmF, vF, kF, vS, kS, hvF, hvS, dF, dS⟩ hoff hoi F5 N5
    clear F4 N4
    replace F5 : Fr g L1 h₁ _ := F5
    replace N5 : News g L1 h₁ ((I, oi) :: n₁) := N5
    (repeat' ((fail_if_success (first | (with_reducible show wpAny _ _ (call (Value.ref _) _ _) _ _ _) | (with_reducible show wpAny _ _ (pyIter _) _ _ _) | (with_reducible show wpAny _ _ (call (Value.builtin "len") _ _) _ _ _) | (with_reducible show wpAny _ _ (getMethod (Value.ref _) _ _) _ _ _) | (with_reducible show wpAny _ _ (call (Value.builtin "list.append") _ _) _ _ _) | (with_reducible show wpAny _ _ (subscriptTail _ _ (Value.ref _) _) _ _ _) | (with_reducible show wpAny _ _ (exec (Stmt.For _ _ _ _ _) _) _ _ _))); first | (k_unfold; (try dsimp only)) | (k_end; wrow_close) | (dsimp only; walk1) | walk1))
    rename Fr g L1 _ _ => F6
    rename News g L1 _ _ => N6
    have it : ∀ j, j < 3 * q → ∃ p, ns[j]? = some p := fun j hj => ⟨ns[j], List.getElem?_eq_getElem (by (first | lia | omega))⟩
    obtain ⟨p0, hp0⟩ := it (3 * i) (by (first | lia | omega))
    obtain ⟨p1, hp1⟩ := it (3 * i + 1) (by (first | lia | omega))
    obtain ⟨p2, hp2⟩ := it (3 * i + 2) (by (first | lia | omega))
    have ha6 : (a, lsO (ns.map fun p => Value.int p.1 p.2) k) ∈ (I, oi) :: n₁ := .tail _ (hkeep _ hpre)
    have hoffF : lF ≠ I := hoff _ hvF
    have hoffS : lS ≠ I := hoff _ hvS
    have tup1 : ∀ p ∈ n₁, p.2.cls = .type "tuple" → p.1 ≠ lF ∧ p.1 ≠ lS := fun p hp hc =>
      ⟨fun e => by
        have z := (N6 p (.tail _ hp)).1
        rw [e, (N6 _ (.tail _ hvF)).1] at z
        rw [← Option.some.inj z] at hc
        exact absurd hc (by simp), fun e => by
        have z := (N6 p (.tail _ hp)).1
        rw [e, (N6 _ (.tail _ hvS)).1] at z
        rw [← Option.some.inj z] at hc
        exact absurd hc (by simp)⟩
    refine item_listI N6 ha6 (ix0 hi hq2).1 (ix0 hi hq2).2.1 (num_at hp0 (ix0 hi hq2).2.2) ?_
    (repeat' ((fail_if_success (first | (with_reducible show wpAny _ _ (call (Value.ref _) _ _) _ _ _) | (with_reducible show wpAny _ _ (pyIter _) _ _ _) | (with_reducible show wpAny _ _ (call (Value.builtin "len") _ _) _ _ _) | (with_reducible show wpAny _ _ (getMethod (Value.ref _) _ _) _ _ _) | (with_reducible show wpAny _ _ (call (Value.builtin "list.append") _ _) _ _ _) | (with_reducible show wpAny _ _ (subscriptTail _ _ (Value.ref _) _) _ _ _) | (with_reducible show wpAny _ _ (exec (Stmt.For _ _ _ _ _) _) _ _ _))); first | (k_unfold; (try dsimp only)) | (k_end; wrow_close) | (dsimp only; walk1) | walk1))
    refine textK w p0.1 _ lFi fsL 0 hfl hf1 _ _ _ _ _ _ _ _ _ _ _ _ _ _ _ _ _ _ _ _ _ _ _ B1 F6 X1 N6 T1 rfl (by ktr_room) (by ktr_units) (.tail _ hmF) ?_
    rintro r _ h7 tk7 F7 N7 ⟨rfl, t7, rfl⟩
    (repeat' ((fail_if_success (first | (with_reducible show wpAny _ _ (call (Value.ref _) _ _) _ _ _) | (with_reducible show wpAny _ _ (pyIter _) _ _ _) | (with_reducible show wpAny _ _ (call (Value.builtin "len") _ _) _ _ _) | (with_reducible show wpAny _ _ (getMethod (Value.ref _) _ _) _ _ _) | (with_reducible show wpAny _ _ (call (Value.builtin "list.append") _ _) _ _ _) | (with_reducible show wpAny _ _ (subscriptTail _ _ (Value.ref _) _) _ _ _) | (with_reducible show wpAny _ _ (exec (Stmt.For _ _ _ _ _) _) _ _ _))); first | (k_unfold; (try dsimp only)) | (k_end; wrow_close) | (dsimp only; walk1) | walk1))
    refine item_listI N7 ha6 (ix1 hi hq2).1 (ix1 hi hq2).2.1 (num_at hp1 (ix1 hi hq2).2.2) ?_
    (repeat' ((fail_if_success (first | (with_reducible show wpAny _ _ (call (Value.ref _) _ _) _ _ _) | (with_reducible show wpAny _ _ (pyIter _) _ _ _) | (with_reducible show wpAny _ _ (call (Value.builtin "len") _ _) _ _ _) | (with_reducible show wpAny _ _ (getMethod (Value.ref _) _ _) _ _ _) | (with_reducible show wpAny _ _ (call (Value.builtin "list.append") _ _) _ _ _) | (with_reducible show wpAny _ _ (subscriptTail _ _ (Value.ref _) _) _ _ _) | (with_reducible show wpAny _ _ (exec (Stmt.For _ _ _ _ _) _) _ _ _))); first | (k_unfold; (try dsimp only)) | (k_end; wrow_close) | (dsimp only; walk1) | walk1))
    refine cutK w p1.1 _ _ _ _ _ _ _ _ _ _ _ _ _ _ _ _ _ _ _ _ _ _ _ _ B1 F7 X1 N7 T1 rfl (by ktr_room) (by ktr_units) trivial ?_
    rintro r _ h8 tk8 F8 N8 ⟨rfl, t8, rfl⟩
    (repeat' ((fail_if_success (first | (with_reducible show wpAny _ _ (call (Value.ref _) _ _) _ _ _) | (with_reducible show wpAny _ _ (pyIter _) _ _ _) | (with_reducible show wpAny _ _ (call (Value.builtin "len") _ _) _ _ _) | (with_reducible show wpAny _ _ (getMethod (Value.ref _) _ _) _ _ _) | (with_reducible show wpAny _ _ (call (Value.builtin "list.append") _ _) _ _ _) | (with_reducible show wpAny _ _ (subscriptTail _ _ (Value.ref _) _) _ _ _) | (with_reducible show wpAny _ _ (exec (Stmt.For _ _ _ _ _) _) _ _ _))); first | (k_unfold; (try dsimp only)) | (k_end; wrow_close) | (dsimp only; walk1) | walk1))
    refine item_listI N8 ha6 (ix2 hi hq2).1 (ix2 hi hq2).2.1 (num_at hp2 (ix2 hi hq2).2.2) ?_
    (repeat' ((fail_if_success (first | (with_reducible show wpAny _ _ (call (Value.ref _) _ _) _ _ _) | (with_reducible show wpAny _ _ (pyIter _) _ _ _) | (with_reducible show wpAny _ _ (call (Value.builtin "len") _ _) _ _ _) | (with_reducible show wpAny _ _ (getMethod (Value.ref _) _ _) _ _ _) | (with_reducible show wpAny _ _ (call (Value.builtin "list.append") _ _) _ _ _) | (with_reducible show wpAny _ _ (subscriptTail _ _ (Value.ref _) _) _ _ _) | (with_reducible show wpAny _ _ (exec (Stmt.For _ _ _ _ _) _) _ _ _))); first | (k_unfold; (try dsimp only)) | (k_end; wrow_close) | (dsimp only; walk1) | walk1))
    refine textK w p2.1 _ lN nsL 0 hnl hn1' _ _ _ _ _ _ _ _ _ _ _ _ _ _ _ _ _ _ _ _ _ _ _ B1 F8 X1 N8 T1 rfl (by ktr_room) (by ktr_units) (.tail _ hmN) ?_
    rintro r _ h9 tk9 F9 N9 ⟨rfl, t9, rfl⟩
    (repeat' ((fail_if_success (first | (with_reducible show wpAny _ _ (call (Value.ref _) _ _) _ _ _) | (with_reducible show wpAny _ _ (pyIter _) _ _ _) | (with_reducible show wpAny _ _ (call (Value.builtin "len") _ _) _ _ _) | (with_reducible show wpAny _ _ (getMethod (Value.ref _) _ _) _ _ _) | (with_reducible show wpAny _ _ (call (Value.builtin "list.append") _ _) _ _ _) | (with_reducible show wpAny _ _ (subscriptTail _ _ (Value.ref _) _) _ _ _) | (with_reducible show wpAny _ _ (exec (Stmt.For _ _ _ _ _) _) _ _ _))); first | (k_unfold; (try dsimp only)) | (k_end; wrow_close) | (dsimp only; walk1) | walk1))
    rename_i fa h10a hlt10 h10 F10 N10
    refine lst_mAppend N10 (.tail _ (.tail _ hvF)) ?_
    (repeat' ((fail_if_success (first | (with_reducible show wpAny _ _ (call (Value.ref _) _ _) _ _ _) | (with_reducible show wpAny _ _ (pyIter _) _ _ _) | (with_reducible show wpAny _ _ (call (Value.builtin "len") _ _) _ _ _) | (with_reducible show wpAny _ _ (getMethod (Value.ref _) _ _) _ _ _) | (with_reducible show wpAny _ _ (call (Value.builtin "list.append") _ _) _ _ _) | (with_reducible show wpAny _ _ (subscriptTail _ _ (Value.ref _) _) _ _ _) | (with_reducible show wpAny _ _ (exec (Stmt.For _ _ _ _ _) _) _ _ _))); first | (k_unfold; (try dsimp only)) | (k_end; wrow_close) | (dsimp only; walk1) | walk1))
    refine item_listI N10 (.tail _ ha6) (ix0 hi hq2).1 (ix0 hi hq2).2.1 (num_at hp0 (ix0 hi hq2).2.2) ?_
    (repeat' ((fail_if_success (first | (with_reducible show wpAny _ _ (call (Value.ref _) _ _) _ _ _) | (with_reducible show wpAny _ _ (pyIter _) _ _ _) | (with_reducible show wpAny _ _ (call (Value.builtin "len") _ _) _ _ _) | (with_reducible show wpAny _ _ (getMethod (Value.ref _) _ _) _ _ _) | (with_reducible show wpAny _ _ (call (Value.builtin "list.append") _ _) _ _ _) | (with_reducible show wpAny _ _ (subscriptTail _ _ (Value.ref _) _) _ _ _) | (with_reducible show wpAny _ _ (exec (Stmt.For _ _ _ _ _) _) _ _ _))); first | (k_unfold; (try dsimp only)) | (k_end; wrow_close) | (dsimp only; walk1) | walk1))
    refine cutK w p0.1 _ _ _ _ _ _ _ _ _ _ _ _ _ _ _ _ _ _ _ _ _ _ _ _ B1 F10 X1 N10 T1 rfl (by ktr_room) (by ktr_units) trivial ?_
    rintro r _ h11 tk11 F11 N11 ⟨rfl, t11, rfl⟩
    (repeat' ((fail_if_success (first | (with_reducible show wpAny _ _ (call (Value.ref _) _ _) _ _ _) | (with_reducible show wpAny _ _ (pyIter _) _ _ _) | (with_reducible show wpAny _ _ (call (Value.builtin "len") _ _) _ _ _) | (with_reducible show wpAny _ _ (getMethod (Value.ref _) _ _) _ _ _) | (with_reducible show wpAny _ _ (call (Value.builtin "list.append") _ _) _ _ _) | (with_reducible show wpAny _ _ (subscriptTail _ _ (Value.ref _) _) _ _ _) | (with_reducible show wpAny _ _ (exec (Stmt.For _ _ _ _ _) _) _ _ _))); first | (k_unfold; (try dsimp only)) | (k_end; wrow_close) | (dsimp only; walk1) | walk1))
    rename_i Da h12 F12 N12 hlt12
    have hlF : vF.length ≤ 5 := by rw [datAll_len dF, List.length_map]; unfold aboveL; rw [List.length_map, List.length_range]; (first | lia | omega)
    have hlS : vS.length ≤ 5 := by rw [datAll_len dS, List.length_map]; unfold belowU; rw [List.length_map, List.length_drop, List.length_range]; (first | lia | omega)
    refine lst_append F12 N12 (.tail _ (.tail _ (.tail _ hvF))) (by (first | lia | omega)) ?_
    intro h13 n13 F13 N13 hvF13 k13 _
    (repeat' ((fail_if_success (first | (with_reducible show wpAny _ _ (call (Value.ref _) _ _) _ _ _) | (with_reducible show wpAny _ _ (pyIter _) _ _ _) | (with_reducible show wpAny _ _ (call (Value.builtin "len") _ _) _ _ _) | (with_reducible show wpAny _ _ (getMethod (Value.ref _) _ _) _ _ _) | (with_reducible show wpAny _ _ (call (Value.builtin "list.append") _ _) _ _ _) | (with_reducible show wpAny _ _ (subscriptTail _ _ (Value.ref _) _) _ _ _) | (with_reducible show wpAny _ _ (exec (Stmt.For _ _ _ _ _) _) _ _ _))); first | (k_unfold; (try dsimp only)) | (k_end; wrow_close) | (dsimp only; walk1) | walk1))
    have hne : lS ≠ lF := Nat.ne_of_gt hn3.1
    have hvS13 : (lS, lsO vS kS) ∈ n13 := k13 _ (.tail _ (.tail _ (.tail _ hvS))) hne
    have ha13 : (a, lsO (ns.map fun p => Value.int p.1 p.2) k) ∈ n13 := k13 _ (.tail _ (.tail _ ha6)) (Nat.ne_of_lt (hn1 _ hpre).1)
    · refine lst_mAppend N13 hvS13 ?_
      (repeat' ((fail_if_success (first | (with_reducible show wpAny _ _ (call (Value.ref _) _ _) _ _ _) | (with_reducible show wpAny _ _ (pyIter _) _ _ _) | (with_reducible show wpAny _ _ (call (Value.builtin "len") _ _) _ _ _) | (with_reducible show wpAny _ _ (getMethod (Value.ref _) _ _) _ _ _) | (with_reducible show wpAny _ _ (call (Value.builtin "list.append") _ _) _ _ _) | (with_reducible show wpAny _ _ (subscriptTail _ _ (Value.ref _) _) _ _ _) | (with_reducible show wpAny _ _ (exec (Stmt.For _ _ _ _ _) _) _ _ _))); first | (k_unfold; (try dsimp only)) | (k_end; wrow_close) | (dsimp only; walk1) | walk1))
      refine item_listI N13 ha13 (ix2 hi hq2).1 (ix2 hi hq2).2.1 (num_at hp2 (ix2 hi hq2).2.2) ?_
      (repeat' ((fail_if_success (first | (with_reducible show wpAny _ _ (call (Value.ref _) _ _) _ _ _) | (with_reducible show wpAny _ _ (pyIter _) _ _ _) | (with_reducible show wpAny _ _ (call (Value.builtin "len") _ _) _ _ _) | (with_reducible show wpAny _ _ (getMethod (Value.ref _) _ _) _ _ _) | (with_reducible show wpAny _ _ (call (Value.builtin "list.append") _ _) _ _ _) | (with_reducible show wpAny _ _ (subscriptTail _ _ (Value.ref _) _) _ _ _) | (with_reducible show wpAny _ _ (exec (Stmt.For _ _ _ _ _) _) _ _ _))); first | (k_unfold; (try dsimp only)) | (k_end; wrow_close) | (dsimp only; walk1) | walk1))
      refine cutK w p2.1 _ _ _ _ _ _ _ _ _ _ _ _ _ _ _ _ _ _ _ _ _ _ _ _ B1 F13 X1 N13 T1 rfl (by ktr_room) (by ktr_units) trivial ?_
      rintro r n14 h14 tk14 F14 N14 ⟨e14, t14, rfl⟩
      rw [e14] at N14
      (repeat' ((fail_if_success (first | (with_reducible show wpAny _ _ (call (Value.ref _) _ _) _ _ _) | (with_reducible show wpAny _ _ (pyIter _) _ _ _) | (with_reducible show wpAny _ _ (call (Value.builtin "len") _ _) _ _ _) | (with_reducible show wpAny _ _ (getMethod (Value.ref _) _ _) _ _ _) | (with_reducible show wpAny _ _ (call (Value.builtin "list.append") _ _) _ _ _) | (with_reducible show wpAny _ _ (subscriptTail _ _ (Value.ref _) _) _ _ _) | (with_reducible show wpAny _ _ (exec (Stmt.For _ _ _ _ _) _) _ _ _))); first | (k_unfold; (try dsimp only)) | (k_end; wrow_close) | (dsimp only; walk1) | walk1))
      rename_i Db h15 F15 N15 hlt15
      refine lst_append F15 N15 (.tail _ hvS13) (by (first | lia | omega)) ?_
      intro h16 n16 F16 N16 hvS16 k16 _
      (repeat' ((fail_if_success (first | (with_reducible show wpAny _ _ (call (Value.ref _) _ _) _ _ _) | (with_reducible show wpAny _ _ (pyIter _) _ _ _) | (with_reducible show wpAny _ _ (call (Value.builtin "len") _ _) _ _ _) | (with_reducible show wpAny _ _ (getMethod (Value.ref _) _ _) _ _ _) | (with_reducible show wpAny _ _ (call (Value.builtin "list.append") _ _) _ _ _) | (with_reducible show wpAny _ _ (subscriptTail _ _ (Value.ref _) _) _ _ _) | (with_reducible show wpAny _ _ (exec (Stmt.For _ _ _ _ _) _) _ _ _))); first | (k_unfold; (try dsimp only)) | (k_end; wrow_close) | (dsimp only; walk1) | walk1))
      have go : ∀ p ∈ n₁, p.1 ≠ lF → p.1 ≠ lS → p ∈ offI I n16 := fun p hp e1 e2 => mem_offI.mpr ⟨k16 p (.tail _ (k13 p (.tail _ (.tail _ (.tail _ hp))) e1)) e2, hoff p hp⟩
      have hfa : (fa, tupO [.str (textS p0.1 filesL) t7, .int (cutI p1.1) t8, .str (textS p2.1 namesL) t9]) ∈ offI I n16 := by
        rw [← hfs, ← hns]
        exact mem_offI.mpr ⟨k16 _ (.tail _ (k13 _ (.tail _ (.head _)) (Nat.ne_of_gt (tb_ltOf hlt10.2 _ hvF)))) (Nat.ne_of_gt (tb_ltOf hlt10.2 _ hvS)), Nat.ne_of_gt hlt10.1⟩
      refine ⟨rfl, h16, _, _, offI I n16, rfl, F16, fun p hp => ?_, fun p hp => (mem_offI.mp hp).2, some _, some _, ctM_next, fun p hp => go p (hkeep p hp) (Nat.ne_of_lt (hn1 p hp).1) (Nat.ne_of_lt (hn1 p hp).2), go _ hmN (Nat.ne_of_lt hn2.1) (Nat.ne_of_lt hn3.2.1), go _ hmF (Nat.ne_of_lt hn2.2) (Nat.ne_of_lt hn3.2.2), vF ++ [.ref Da], kF + 1, vS ++ [.ref Db], kS + 1, mem_offI.mpr ⟨k16 _ (.tail _ hvF13) hne.symm, hoffF⟩, mem_offI.mpr ⟨hvS16, hoffS⟩, ?_, ?_⟩
      · rcases List.mem_cons.mp hp with rfl | hp
        · exact N16 _ (k16 _ (.tail _ (k13 _ (.tail _ (.tail _ (.head _))) (hoff _ hvF).symm)) (hoff _ hvS).symm)
        · exact N16 _ (mem_offI.mp hp).1
      · rw [aboveL_succ, List.map_append]
        refine datAll_snoc (calls_sub (fun p hp hc => go p hp (tup1 p hp hc).1 (tup1 p hp hc).2) dF) ?_
        unfold upAt fnAt
        rw [getD_at hp0, getD_at hp1, getD_at hp2]
        exact .tuple (mem_offI.mpr ⟨k16 _ (.tail _ (k13 _ (.head _) (Nat.ne_of_gt (tb_ltOf hlt12.2.2 _ hvF)))) (Nat.ne_of_gt (tb_ltOf hlt12.2.2 _ hvS)), Nat.ne_of_gt hlt12.2.1⟩) (.cons (.int _ _) (.cons (datFn3 hfa) .nil))
      · rw [belowU_succ _ (by (first | lia | omega)), List.map_append]
        refine datAll_snoc (calls_sub (fun p hp hc => go p hp (tup1 p hp hc).1 (tup1 p hp hc).2) dS) ?_
        unfold loAt fnAt
        rw [getD_at hp0, getD_at hp1, getD_at hp2]
        exact .tuple (mem_offI.mpr ⟨k16 _ (.head _) (Nat.ne_of_gt (hlt15 _ hvS13)), Nat.ne_of_gt (hlt15 _ (k13 _ (.tail _ (.tail _ (.head _))) (hoff _ hvF).symm))⟩) (.cons (.int _ _) (.cons (datFn3 hfa) .nil))
    · have hi0 : i = 0 := by (first | lia | omega)
      have go : ∀ p ∈ n₁, p.1 ≠ lF → p ∈ offI I n13 := fun p hp e1 => mem_offI.mpr ⟨k13 p (.tail _ (.tail _ (.tail _ hp))) e1, hoff p hp⟩
      have hfa : (fa, tupO [.str (textS p0.1 filesL) t7, .int (cutI p1.1) t8, .str (textS p2.1 namesL) t9]) ∈ offI I n13 := by
        rw [← hfs, ← hns]
        exact mem_offI.mpr ⟨k13 _ (.tail _ (.head _)) (Nat.ne_of_gt (tb_ltOf hlt10.2 _ hvF)), Nat.ne_of_gt hlt10.1⟩
      refine ⟨rfl, h13, _, _, offI I n13, rfl, F13, fun p hp => ?_, fun p hp => (mem_offI.mp hp).2, some _, some _, ctM_next, fun p hp => go p (hkeep p hp) (Nat.ne_of_lt (hn1 p hp).1), go _ hmN (Nat.ne_of_lt hn2.1), go _ hmF (Nat.ne_of_lt hn2.2), vF ++ [.ref Da], kF + 1, vS, kS, mem_offI.mpr ⟨hvF13, hoffF⟩, go _ hvS (Nat.ne_of_gt hn3.1), ?_, ?_⟩
      · rcases List.mem_cons.mp hp with rfl | hp
        · exact N13 _ (k13 _ (.tail _ (.tail _ (.head _))) hoffF.symm)
        · exact N13 _ (mem_offI.mp hp).1
      · rw [aboveL_succ, List.map_append]
        refine datAll_snoc (calls_sub (fun p hp hc => go p hp (tup1 p hp hc).1) dF) ?_
        unfold upAt fnAt
        rw [getD_at hp0, getD_at hp1, getD_at hp2]
        exact .tuple (mem_offI.mpr ⟨k13 _ (.head _) (Nat.ne_of_gt (tb_ltOf hlt12.2.2 _ hvF)), Nat.ne_of_gt hlt12.2.1⟩) (.cons (.int _ _) (.cons (datFn3 hfa) .nil))
      · subst hi0
        exact calls_sub (fun p hp hc => go p hp (tup1 p hp hc).1) dS
  case hQ =>
    rintro h5 tk5 m₁ n₁ F5 N5 ⟨fv, kv, rfl, hkeep, hmN, hmF, vF, kF, vS, kS, hvF, hvS, dF, dS⟩
    clear F4 N4
    replace F5 : Fr g L1 h5 _ := F5
    replace N5 : News g L1 h5 n₁ := N5
    have hlS : vS.length ≤ 5 := by rw [datAll_len dS, List.length_map]; unfold belowU; rw [List.length_map, List.length_drop, List.length_range]; (first | lia | omega)
    (repeat' ((fail_if_success (first | (with_reducible show wpAny _ _ (call (Value.ref _) _ _) _ _ _) | (with_reducible show wpAny _ _ (pyIter _) _ _ _) | (with_reducible show wpAny _ _ (call (Value.builtin "len") _ _) _ _ _) | (with_reducible show wpAny _ _ (getMethod (Value.ref _) _ _) _ _ _) | (with_reducible show wpAny _ _ (call (Value.builtin "list.append") _ _) _ _ _) | (with_reducible show wpAny _ _ (subscriptTail _ _ (Value.ref _) _) _ _ _) | (with_reducible show wpAny _ _ (exec (Stmt.For _ _ _ _ _) _) _ _ _))); first | (k_unfold; (try dsimp only)) | (k_end; wrow_close) | (dsimp only; walk1) | walk1))
    k_dflt (refine' krv_lit (F := F5) (N := N5) (hl := ⟨_, (N5 _ hvS).1, rfl, _, rfl⟩) (pk := IsPart.int _ _) (e := rfl) ?_ ?s ?t ?z; (case s => with_unfolding_all rfl); (case t => (intro _; with_unfolding_all rfl)); (case z => (rw [List.size_toArray, sizeLine_eq]; (first | lia | omega))))
    intro D6 h6 F6 N6 l6
    (repeat' ((fail_if_success (first | (with_reducible show wpAny _ _ (call (Value.ref _) _ _) _ _ _) | (with_reducible show wpAny _ _ (pyIter _) _ _ _) | (with_reducible show wpAny _ _ (call (Value.builtin "len") _ _) _ _ _) | (with_reducible show wpAny _ _ (getMethod (Value.ref _) _ _) _ _ _) | (with_reducible show wpAny _ _ (call (Value.builtin "list.append") _ _) _ _ _) | (with_reducible show wpAny _ _ (subscriptTail _ _ (Value.ref _) _) _ _ _) | (with_reducible show wpAny _ _ (exec (Stmt.For _ _ _ _ _) _) _ _ _))); first | (k_unfold; (try dsimp only)) | (k_end; wrow_close) | (dsimp only; walk1) | walk1))
    rename_i D' h' F' N' l1 kF' kN Tc' kX
    have sub : ∀ p ∈ n₁, p ∈ (D', { cls := Value.type "tuple", data := Data.seq #[Value.ref lF, Value.ref D6] }) :: (D6, W.listOf vS.toArray.toList.reverse.toArray 0) :: n₁ := fun p hp => .tail _ (.tail _ hp)
    refine hret _ _ _ _ kF' kN ⟨fun p hp => sub p (hkeep p hp), ?_⟩
    refine .tuple (vs := [.ref lF, .ref D6]) (.head _) (.cons (.list (sub _ hvF) (calls_sub (fun p hp _ => sub p hp) dF)) (.cons (.list (vs := vS.reverse) (.tail _ (.head _)) ?_) .nil))
    rw [List.map_reverse]
    exact datAll_rev (calls_sub (fun p hp _ => sub p hp) dS)
end Mine
end

/-! ## LItemsL -/
section
theorem Mine.startLItemsL : True := by
  w_top off
  trivial
open PySem PySem.W PyProof.Rows PySem.Calls PySem.Spec
set_option Elab.async false
namespace Mine
section
variable {prog : Program} {w : World} {A : Around} {E : Value → Shared → Prop} {s : Shared} {es : Array DictEntry} {ep : Nat}
/-- the next pair where the first one has gone out -/
theorem raw_out {it d a : Addr} {f : Bool} {oa : Obj} {i : Nat} {e : DictEntry} {ok ov : Value} {Q : Option Value → Shared → Prop} (hit : KdxIt s.heap it d i es.size ep ok ov a f) (ha : s.heap.get? a = some oa) (hai : a ≠ it)
    (hm : RawD s.heap d es ep) (hx : es[i]? = some e)
    (hQ : ∀ h', KdxIt h' it d (i + 1) es.size ep ok ov a true → h'.get? s.heap.objs.size = some { cls := .type "tuple", data := .seq #[e.key, e.val] } → h'.objs.size = s.heap.objs.size + 1 →
      (∀ b o, b ≠ it → s.heap.get? b = some o → h'.get? b = some o) → Q (some (.ref s.heap.objs.size)) { s with heap := h' }) :
    wpAny (model prog w) A (pyNext (.ref it)) Q E s := by
  obtain ⟨hp, g, dr, tk, os⟩ := s
  obtain ⟨od, hod, hcd, hdd⟩ := id hm
  have hT : Shared.TypeIs ⟨hp, g, dr, tk, os⟩ (.ref it) "dict_itemiterator" := ⟨_, hit, rfl⟩
  unfold pyNext
  refine wpAny_bind (wpAny_attempt (wpAny_callSpecial?_slot (name := Str.ofString "__next__") hT PySem.F.slot_dict_itemiterator_next
    (wpAny_call_entry PySem.F.slot_dict_itemiterator_next hT PySem.F.entry_dict_itemiterator_next ?_ (PySem.F.args_dict_itemiterator_next_1 _))))
  refine wpAny_bind (wpAny_pure ?_)
  refine wpAny_bind ?_
  refine wpAny_bind ?_
  first | refine wpAny_bind (wpAny_typeNameOfWhole_itemiter hT (wpAny_pure ?_)) | refine wpAny_bind (wpAny_typeNameOf_itemiter hT (wpAny_pure ?_))
  refine wpAny_bind (wpAny_fieldsOf hit rfl ?_)
  have hown : Builtin.Dict_items.ownsTuple "dict_itemiterator" = true := by decide
  simp only [hown, if_true]
  show wpAny _ _ (if (Value.ref d == Value.none) = true then _ else _) _ _ _
  rw [if_neg (show ¬ ((Value.ref d == Value.none) = true) from Bool.false_ne_true)]
  refine wpAny_bind (wpAny_pure ?_)
  refine wpAny_bind (wpAny_dictEntries hod hdd ?_)
  rw [if_neg (by simp)]
  refine wpAny_bind (wpAny_pure ?_)
  refine wpAny_bind (wpAny_dictEpoch hod hdd ?_)
  rw [if_neg (by simp)]
  refine wpAny_pure ?_
  simp only [show ¬ ((i : Int) < 0) from by (first | lia | omega), if_false, Int.toNat_natCast, hx]
  refine wpAny_bind ?_
  first | refine wpAny_bind (wpAny_typeNameOfWhole_itemiter hT (wpAny_pure ?_)) | refine wpAny_bind (wpAny_typeNameOf_itemiter hT (wpAny_pure ?_))
  refine wpAny_bind (wpAny_isOneOf_itemiter hT ?_)
  show wpAny _ _ (setField (.ref it) 3 (rawInt ((i : Int) + 1)) >>= _) _ _ ⟨hp, g, dr, tk, os⟩
  refine wpAny_bind (wpAny_setField_rec hit (by simp) fun h₁ he₁ hs₁ => ?_)
  replace hs₁ : Heap.SameBut it hp h₁ := hs₁
  replace he₁ : KdxIt h₁ it d (i + 1) es.size ep ok ov a f := by
    have q : ((i + 1 : Nat) : Int) = (i : Int) + 1 := by (first | lia | omega)
    unfold KdxIt; rw [q]; simpa [rawInt] using he₁
  have hT₁ : Shared.TypeIs ⟨h₁, g, dr, tk, os⟩ (.ref it) "dict_itemiterator" := ⟨_, he₁, rfl⟩
  refine wpAny_bind (wpAny_holding ?_)
  refine wpAny_bind (wpAny_isOneOf_itemiter hT₁ ?_)
  refine wpAny_bind (wpAny_isOneOf_itemiter hT₁ ?_)
  show wpAny _ _ (Builtin.Dict_items.pairFromOwner (.ref it) 6 e.key e.val) _ _ ⟨h₁, g, dr, tk, os⟩
  unfold Builtin.Dict_items.pairFromOwner
  refine wpAny_bind (wpAny_newTuple ?_)
  have he₂ : KdxIt (h₁.push { cls := .type "tuple", data := .seq #[e.key, e.val] }) it d (i + 1) es.size ep ok ov a f := Heap.get?_push_of_some _ he₁
  generalize hh₂ : h₁.push { cls := .type "tuple", data := .seq #[e.key, e.val] } = h₂ at he₂
  have hz₁ : h₁.objs.size = hp.objs.size := hs₁.1
  have hil : it < hp.objs.size := Heap.lt_size hit
  have ht₂ : h₂.get? hp.objs.size = some { cls := .type "tuple", data := .seq #[e.key, e.val] } := by rw [← hh₂, ← hz₁]; exact Heap.get?_push_size _ rfl
  have hz₂ : h₂.objs.size = hp.objs.size + 1 := by rw [← hh₂, Heap.size_push, hz₁]
  have hk₂ : ∀ b o, b ≠ it → hp.get? b = some o → h₂.get? b = some o := fun b o hb q => by rw [← hh₂]; exact Heap.get?_push_of_some _ (hs₁.extBut b o hb q)
  show wpAny _ _ (Builtin.Dict_items.ownedTupleIsFree (.ref it) >>= _) _ _ ⟨h₂, g, dr, tk, os⟩
  rw [hz₁]
  clear hh₂ he₁ hs₁ hT₁ hz₁ h₁
  refine wpAny_bind ?_
  unfold Builtin.Dict_items.ownedTupleIsFree
  refine wpAny_bind (wpAny_field he₂ rfl (x := rawInt a) rfl ?_)
  show wpAny _ _ (loadIfAlive ((a : Int).toNat) >>= _) _ _ _
  rw [Int.toNat_natCast]
  refine wpAny_bind (kdx_alive (hk₂ a oa hai ha) ?_)
  simp only [Option.isNone_some, Bool.false_eq_true, if_false]
  refine wpAny_bind (wpAny_field he₂ rfl (x := .bool f) rfl ?_)
  have fin : ∀ h₃ : Heap, KdxIt h₃ it d (i + 1) es.size ep ok ov a true → Heap.SameBut it h₂ h₃ → Q (some (.ref hp.objs.size)) ⟨h₃, g, dr, tk, os⟩ := fun h₃ he₃ hs₃ =>
    hQ h₃ he₃ (hs₃.extBut _ _ (Nat.ne_of_gt hil) ht₂) (by show h₃.objs.size = hp.objs.size + 1; rw [hs₃.1, hz₂]) fun b o hb q => hs₃.extBut b o hb (hk₂ b o hb q)
  cases f with
  | true =>
    rw [if_neg (show ¬ ((Value.bool true != Value.bool true) = true) from Bool.false_ne_true)]
    refine wpAny_pure ?_
    simp only [Bool.false_eq_true, if_false]
    exact wpAny_pure (wpAny_pure ⟨_, rfl, wpAny_pure (fin h₂ he₂ (Heap.SameBut.refl _ _))⟩)
  | false =>
    rw [if_pos (show (Value.bool false != Value.bool true) = true from rfl)]
    refine wpAny_bind (wpAny_setField_rec he₂ (by simp) fun h₃ he₃ hs₃ => ?_)
    replace hs₃ : Heap.SameBut it h₂ h₃ := hs₃
    replace he₃ : KdxIt h₃ it d (i + 1) es.size ep ok ov a true := he₃
    refine wpAny_pure ?_
    simp only [Bool.false_eq_true, if_false]
    exact wpAny_pure (wpAny_pure ⟨_, rfl, wpAny_pure (fin h₃ he₃ hs₃)⟩)
theorem raw_out_end {it d a : Addr} {f : Bool} {i : Nat} {ok ov : Value} {Q : Option Value → Shared → Prop} (hh : A.handled = none) (hit : KdxIt s.heap it d i es.size ep ok ov a f)
    (hm : RawD s.heap d es ep) (hx : es[i]? = none) (hQ : ∀ h', Heap.ExtBut it s.heap h' → Q none { s with heap := h' }) : wpAny (model prog w) A (pyNext (.ref it)) Q E s := by
  obtain ⟨od, hod, hcd, hdd⟩ := id hm
  have hT : s.TypeIs (.ref it) "dict_itemiterator" := ⟨_, hit, rfl⟩
  unfold pyNext
  refine wpAny_bind (wpAny_attempt (wpAny_callSpecial?_slot (name := Str.ofString "__next__") hT PySem.F.slot_dict_itemiterator_next
    (wpAny_call_entry PySem.F.slot_dict_itemiterator_next hT PySem.F.entry_dict_itemiterator_next ?_ (PySem.F.args_dict_itemiterator_next_1 _))))
  refine wpAny_bind (wpAny_pure ?_)
  refine wpAny_bind ?_
  refine wpAny_bind ?_
  first | refine wpAny_bind (wpAny_typeNameOfWhole_itemiter hT (wpAny_pure ?_)) | refine wpAny_bind (wpAny_typeNameOf_itemiter hT (wpAny_pure ?_))
  refine wpAny_bind (wpAny_fieldsOf hit rfl ?_)
  have hown : Builtin.Dict_items.ownsTuple "dict_itemiterator" = true := by decide
  simp only [hown, if_true]
  show wpAny _ _ (if (Value.ref d == Value.none) = true then _ else _) _ _ s
  rw [if_neg (show ¬ ((Value.ref d == Value.none) = true) from Bool.false_ne_true)]
  refine wpAny_bind (wpAny_pure ?_)
  refine wpAny_bind (wpAny_dictEntries hod hdd ?_)
  rw [if_neg (by simp)]
  refine wpAny_bind (wpAny_pure ?_)
  refine wpAny_bind (wpAny_dictEpoch hod hdd ?_)
  rw [if_neg (by simp)]
  refine wpAny_pure ?_
  simp only [show ¬ ((i : Int) < 0) from by (first | lia | omega), if_false, Int.toNat_natCast, hx]
  refine wpAny_bind ?_
  first | refine wpAny_bind (wpAny_typeNameOfWhole_itemiter hT (wpAny_pure ?_)) | refine wpAny_bind (wpAny_typeNameOf_itemiter hT (wpAny_pure ?_))
  show wpAny _ _ (setField (.ref it) 2 .none >>= _) _ _ s
  refine wpAny_bind (wpAny_setField hit rfl (by simp) ?_)
  show wpAny _ _ (newExc (.type "StopIteration") [] >>= _) _ _ _
  refine wpAny_bind ?_
  simp only [newExc, newTuple]
  refine wpAny_bind (wpAny_newObj_type ?_ (by size_fits))
  refine wpAny_bind (m := firstArgMember _ _) (wpAny_of_eq (a := Value.none) (by first | rfl | (simp only [firstArgMember]; rfl)) ?_)
  refine wpAny_newObj_type ?_ (by size_fits)
  simp only [raiseNew]
  refine wpAny_bind (wpAny_handled ?_)
  rw [show A.in1.handled = none from hh]
  refine wpAny_bind (wpAny_pure (wpAny_throw ?_))
  refine wpAny_bind (wpAny_isInstance (T := "StopIteration") (b := true) ⟨_, Heap.get?_push_size _ rfl, rfl⟩ isSubtype_stop ?_)
  exact wpAny_pure (hQ _ (((Heap.SameBut.update ..).extBut.push _).push _))
theorem raw_item {it d S : Addr} {i : Nat} {e : DictEntry} {Q : Option Value → Shared → Prop} (hst : KdxSt s.heap it d S i es.size ep) (hS : S < s.heap.objs.size) (hm : RawD s.heap d es ep) (hx : es[i]? = some e)
    (hQ : ∀ h', KdxSt h' it d S (i + 1) es.size ep → h'.get? s.heap.objs.size = some { cls := .type "tuple", data := .seq #[e.key, e.val] } → (∀ b o, b ≠ it → s.heap.get? b = some o → h'.get? b = some o) → Q (some (.ref s.heap.objs.size)) { s with heap := h' }) :
    wpAny (model prog w) A (pyNext (.ref it)) Q E s := by
  rcases hst with ⟨rfl, ok, ov, hit⟩ | ⟨ok, ov, a, f, oa, hit, ha, hai, haS⟩
  · exact raw_next hit hm hx fun h' hit' ht _ hkeep => hQ h' (.inr ⟨_, _, _, false, _, hit', ht, Nat.ne_of_gt (Heap.lt_size hit), Nat.ne_of_gt hS⟩) ht hkeep
  · exact raw_out hit ha hai hm hx fun h' hit' ht _ hkeep => hQ h' (.inr ⟨ok, ov, a, true, oa, hit', hkeep a oa hai ha, hai, haS⟩) ht hkeep
theorem raw_done {it d S : Addr} {i : Nat} {Q : Option Value → Shared → Prop} (hh : A.handled = none) (hst : KdxSt s.heap it d S i es.size ep) (hm : RawD s.heap d es ep) (hx : es[i]? = none)
    (hQ : ∀ h', Heap.ExtBut it s.heap h' → Q none { s with heap := h' }) : wpAny (model prog w) A (pyNext (.ref it)) Q E s := by
  rcases hst with ⟨rfl, ok, ov, hit⟩ | ⟨ok, ov, a, f, oa, hit, _, _, _⟩
  · exact raw_end hh hit hm hx hQ
  · exact raw_out_end hh hit hm hx hQ
end
/-- the pairs that stand in the list so far -/
noncomputable def PairsAt (h : Heap) (S I : Addr) (es : List DictEntry) (as : List Addr) : Prop :=
  as.length = es.length ∧ ∀ (j : Nat) (a : Addr), as[j]? = some a → a ≠ S ∧ I < a ∧ ∃ e, es[j]? = some e ∧ h.get? a = some { cls := .type "tuple", data := .seq #[e.key, e.val] }
theorem PairsAt.keep {h h' : Heap} {S I : Addr} {es : List DictEntry} {as : List Addr} (p : PairsAt h S I es as) (hk : ∀ b o, b ≠ S → b ≠ I → h.get? b = some o → h'.get? b = some o) : PairsAt h' S I es as :=
  ⟨p.1, fun j a hj => let ⟨h1, h2, e, h3, h4⟩ := p.2 j a hj; ⟨h1, h2, e, h3, hk a _ h1 (Nat.ne_of_gt h2) h4⟩⟩
theorem PairsAt.snoc {h : Heap} {S I : Addr} {es : List DictEntry} {as : List Addr} {e : DictEntry} {a : Addr} (p : PairsAt h S I es as) (h1 : a ≠ S) (h2 : I < a) (h3 : h.get? a = some { cls := .type "tuple", data := .seq #[e.key, e.val] }) : PairsAt h S I (es ++ [e]) (as ++ [a]) := by
  refine ⟨by rw [List.length_append, List.length_append, p.1]; rfl, fun j b hj => ?_⟩
  rcases Nat.lt_trichotomy j as.length with q | q | q
  · rw [List.getElem?_append_left q] at hj
    obtain ⟨h4, h5, e', h6, h7⟩ := p.2 j b hj
    exact ⟨h4, h5, e', by rw [List.getElem?_append_left (by rw [← p.1]; exact q)]; exact h6, h7⟩
  · subst q
    have : a = b := by simpa using hj
    subst this
    exact ⟨h1, h2, e, by rw [p.1]; simp, h3⟩
  · rw [List.getElem?_eq_none (by rw [List.length_append, List.length_singleton]; (first | lia | omega))] at hj
    cases hj
section
variable {prog : Program} {w : World} {A : Around} {s : Shared} {R : Result → Shared → Prop} {es : Array DictEntry} {ep : Nat}
theorem raw_fill {S I d : Addr} (hh : A.handled = none) (hSI : S ≠ I) (hSd : d ≠ S) (hId : d ≠ I) (hn : es.size ≤ sizeLine) (res : Value) {h₁ : Heap}
    (hR : ∀ h' tk c as, (∀ b o, b ≠ S → b ≠ I → h₁.get? b = some o → h'.get? b = some o) → h'.get? S = some { cls := .type "list", dict := none, data := .seq (as.map Value.ref).toArray c, slots := #[] } → PairsAt h' S I es.toList as → R (.ok (.ret res)) { s with heap := h', toks := tk }) :
    ∀ (k i : Nat) (h : Heap) (tk c : Nat) (as : List Addr), es.size - i = k → i ≤ es.size → KdxSt h I d S i es.size ep → RawD h d es ep → (∀ b o, b ≠ S → b ≠ I → h₁.get? b = some o → h.get? b = some o) →
      h.get? S = some { cls := .type "list", dict := none, data := .seq (as.map Value.ref).toArray c, slots := #[] } → PairsAt h S I (es.toList.take i) as → I < h.objs.size →
      codeAny (model prog w) A (.builtin "list.extend.loop" ⟨[.ref S, .ref I, res], []⟩) R { s with heap := h, toks := tk } := by
  intro k
  induction k with
  | zero =>
    intro i h tk c as hk hi hst hD hkeep hS hG hIs
    have hin : i = es.size := by (first | lia | omega)
    refine codeAny_builtin PySem.F.entry_extend_loop ?_
    rw [Around.under_plainId PySem.F.plain_extend_loop _]
    show wpAny _ A.in1 (pyNext (.ref I) >>= _) _ _ _
    refine wpAny_bind (raw_done (s := { s with heap := h, toks := tk }) (A := A.in1) hh hst hD (by simp [hin]) fun h' he => ?_)
    rw [hin, List.take_of_length_le (by simp)] at hG
    exact wpAny_pure (hR h' tk c as (fun b o h1 h2 q => he b o h2 (hkeep b o h1 h2 q)) (he S _ hSI hS) (hG.keep fun b o _ h2 q => he b o h2 q))
  | succ k ih =>
    intro i h tk c as hk hi hst hD hkeep hS hG hIs
    have hlt : i < es.size := by (first | lia | omega)
    obtain ⟨e, hx⟩ : ∃ e, es[i]? = some e := ⟨es[i], by simp [hlt]⟩
    have hsz : ((as.map Value.ref).toArray).size = i := by
      have := hG.1
      rw [List.size_toArray, List.length_map, this, List.length_take, Array.length_toList]; (first | lia | omega)
    refine codeAny_builtin PySem.F.entry_extend_loop ?_
    rw [Around.under_plainId PySem.F.plain_extend_loop _]
    show wpAny _ A.in1 (pyNext (.ref I) >>= _) _ _ _
    refine wpAny_bind (raw_item (s := { s with heap := h, toks := tk }) (S := S) hst (Heap.lt_size hS) hD hx fun h' hst' ht hkp => ?_)
    dsimp only at ht hkp ⊢
    have hS' := hkp S _ hSI hS
    have up : ∀ b o, b ≠ S → h'.get? b = some o → (h'.update S (Obj.mapSeq (·.push (Value.ref h.objs.size)))).get? b = some o := fun b o hb q => (Heap.get?_update_other _ _ (Ne.symm hb)).trans q
    have hSl : S < h.objs.size := Heap.lt_size hS
    have hS2 : (h'.update S (Obj.mapSeq (·.push (Value.ref h.objs.size)))).get? S = some { cls := .type "list", dict := none, data := .seq ((as ++ [h.objs.size]).map Value.ref).toArray (c + 1), slots := #[] } := by
      rw [Heap.get?_update_self _ hS' rfl, List.map_append]
      simp [Obj.mapSeq]
    have hG2 : PairsAt (h'.update S (Obj.mapSeq (·.push (Value.ref h.objs.size)))) S I (es.toList.take (i + 1)) (as ++ [h.objs.size]) := by
      rw [List.take_add_one, Array.getElem?_toList, hx]
      exact (hG.keep fun b o h1 h2 q => up b o h1 (hkp b o h2 q)).snoc (Nat.ne_of_gt hSl) hIs (up _ _ (Nat.ne_of_gt hSl) ht)
    show wpAny _ A.in1 (updateSeq S (·.push (Value.ref h.objs.size)) >>= _) _ _ _
    refine wpAny_bind ?_
    refine wpAny_updateSeq hS' rfl (wpAny_pure ⟨plainId_quiet PySem.F.plain_extend_loop _, ih (i + 1) _ tk _ (as ++ [h.objs.size]) (by (first | lia | omega)) hlt (hst'.keep up (Ne.symm hSI)) (hD.at fun o q => up d o hSd (hkp d o hId q))
      (fun b o h1 h2 q => up b o h1 (hkp b o h2 (hkeep b o h1 h2 q))) hS2 hG2 ?_⟩) (by rw [hsz]; (first | lia | omega)) (by show (((as.map Value.ref).toArray).push (Value.ref h.objs.size)).size ≤ sizeLine + 1; rw [Array.size_push, hsz]; (first | lia | omega))
    have q := up _ _ (Nat.ne_of_gt hSl) ht
    exact Nat.lt_trans hIs (Heap.lt_size q)
end
end Mine
end

/-! ## LItemsM -/
section
theorem Mine.startLItemsM : True := by
  w_top off
  trivial
open PySem PySem.W PyProof.Rows PySem.Calls PySem.Spec
set_option Elab.async false
namespace Mine
section
variable {prog : Program} {w : World} {A : Around} {E : Value → Shared → Prop} {s : Shared} {r d : Addr} {es : Array DictEntry} {ep : Nat}
theorem raw_extend {R : Result → Shared → Prop} (hh : A.handled = none) (hv : s.heap.IsItemsView r d) (hm : RawD s.heap d es ep) (S : Addr) (hSr : S ≠ r) (hSd : d ≠ S) (res : Value) (c₀ : Nat) (hS : s.heap.get? S = some { cls := .type "list", data := .seq #[] c₀ })
    (hR : ∀ h' tk c as, (∀ b o, b ≠ S → s.heap.get? b = some o → h'.get? b = some o) → h'.get? S = some { cls := .type "list", dict := none, data := .seq (as.map Value.ref).toArray c, slots := #[] } → PairsAt h' S s.heap.objs.size es.toList as →
      R (.ok (.ret res)) { s with heap := h', toks := tk }) (hn : es.size ≤ sizeLine) :
    wpAny (model prog w) A.in1 (Builtin.List.listExtendWith (.ref S) (.ref r) res)
      (fun fin s' => match fin with | .done f => R (.ok f) s' | .again c' => c'.quiet = true ∧ codeAny (model prog w) A c' R s') (fun e s' => R (.error e) s') s := by
  have hSI : S < s.heap.objs.size := Heap.lt_size hS
  have hdI : d < s.heap.objs.size := let ⟨_, ho, _⟩ := hm; Heap.lt_size ho
  have key : ∀ (h : Heap) (c₁ tk : Nat), (∀ b o, b ≠ S → (s.heap.push { cls := .type "dict_itemiterator", data := .fields #[.none, .bool false, .ref d, .int 0 0, .int es.size 0, .int ep 0, .none, .none] }).get? b = some o → h.get? b = some o) →
      h.get? S = some { cls := .type "list", data := .seq #[] c₁ } → codeAny (model prog w) A (.builtin "list.extend.loop" ⟨[.ref S, .ref s.heap.objs.size, res], []⟩) R { s with heap := h, toks := tk } := by
    intro h c₁ tk hk hS₁
    have hI := hk s.heap.objs.size _ (Nat.ne_of_gt hSI) (Heap.get?_push_size _ rfl)
    refine raw_fill (es := es) (ep := ep) (s := s) (h₁ := s.heap) hh (Nat.ne_of_lt hSI) hSd (Nat.ne_of_lt hdI) hn res (fun h' tk' c as hk' hS' hG => hR h' tk' c as (fun b o hb q => hk' b o hb (Nat.ne_of_lt (Heap.lt_size q)) q) hS' hG)
      es.size 0 h tk c₁ [] (Nat.sub_zero _) (Nat.zero_le _) (.inl ⟨rfl, .none, .none, hI⟩) (hm.at fun o q => hk d o hSd (Heap.get?_push_of_some _ q)) (fun b o hb _ q => hk b o hb (Heap.get?_push_of_some _ q)) hS₁
      ⟨by simp, fun j a hj => by simp at hj⟩ (Heap.lt_size hI)
  unfold Builtin.List.listExtendWith
  refine wpAny_bind (wpAny_typeOf (T := "dict_items") hv.typeIs ?_)
  have h1 : Builtin.List.listSameRef (.ref S) (.ref r) = false := by simp [Builtin.List.listSameRef, hSr]
  have h2 : (Value.type "dict_items" == Value.type "list") = false := by decide
  have h3 : (Value.type "dict_items" == Value.type "tuple") = false := by decide
  simp only [h1, h2, h3, Bool.or_false, Bool.false_eq_true, if_false]
  refine wpAny_bind (raw_iter hv hm ?_)
  have hS₁ := Heap.get?_push_of_some { cls := .type "dict_itemiterator", data := .fields #[.none, .bool false, .ref d, .int 0 0, .int es.size 0, .int ep 0, .none, .none] } hS
  refine wpAny_bind (wpAny_holding (kdx_hint (let ⟨o, ho, hc, _⟩ := hv; ⟨o, Heap.get?_push_of_some _ ho, hc⟩) ?_))
  refine wpAny_ite_split (fun _ => ?_) (fun _ => wpAny_pure ⟨plainId_quiet PySem.F.plain_extend_loop _, key _ c₀ _ (fun b o _ q => q) hS₁⟩)
  refine wpAny_bind (wpAny_rule ?_)
  refine wpAny_bind ?_
  show wpAny _ _ (updateSeq S (·.push .none) >>= fun _ => updateSeq S (·.pop)) _ _ _
  refine wpAny_bind (wpAny_updateSeq hS₁ rfl ?_)
  have hS₂ := Heap.get?_update_self (Obj.mapSeq (·.push Value.none)) hS₁ rfl
  refine wpAny_updateSeq (hz := by seq_fits) hS₂ rfl ?_
  have hS₃ := Heap.get?_update_self (Obj.mapSeq (·.pop)) hS₂ rfl
  refine wpAny_pure ⟨plainId_quiet PySem.F.plain_extend_loop _, key _ _ _ (fun b o hb q => ?_) hS₃⟩
  exact (Heap.get?_update_other _ _ (Ne.symm hb)).trans ((Heap.get?_update_other _ _ (Ne.symm hb)).trans q)
theorem raw_init {R : Result → Shared → Prop} (hh : A.handled = none) (hv : s.heap.IsItemsView r d) (hm : RawD s.heap d es ep) (S : Addr) (hSr : S ≠ r) (hSd : d ≠ S) (hS : s.heap.get? S = some { cls := .type "list", data := .seq #[] })
    (hR : ∀ h' tk c as, (∀ b o, b ≠ S → s.heap.get? b = some o → h'.get? b = some o) → h'.get? S = some { cls := .type "list", dict := none, data := .seq (as.map Value.ref).toArray c, slots := #[] } → PairsAt h' S s.heap.objs.size es.toList as →
      R (.ok (.ret .none)) { s with heap := h', toks := tk }) (hn : es.size ≤ sizeLine) :
    wpAny (model prog w) A.in1 (Builtin.«list.__init__» ⟨[.ref S, .ref r], []⟩)
      (fun fin s' => match fin with | .done f => R (.ok f) s' | .again c' => c'.quiet = true ∧ codeAny (model prog w) A c' R s') (fun e s' => R (.error e) s') s := by
  show wpAny _ _ (do let old ← Builtin.List.listItems (.ref S); Builtin.List.listUpdate (.ref S) (fun _ => #[]); letGo old.toList.reverse; Builtin.List.listExtendWith (.ref S) (.ref r) .none) _ _ s
  refine wpAny_bind ?_
  unfold Builtin.List.listItems
  refine wpAny_bind (wpAny_seqItems hS rfl (wpAny_pure ?_))
  show wpAny _ _ (updateSeq S (fun _ => #[]) >>= fun _ => letGo (#[] : Array Value).toList.reverse >>= fun _ => Builtin.List.listExtendWith (.ref S) (.ref r) .none) _ _ s
  refine wpAny_bind (wpAny_updateSeq hS rfl ?_)
  have hS₂ := Heap.get?_update_self (Obj.mapSeq (fun _ => (#[] : Array Value))) hS rfl
  have hSz : (s.heap.update S (Obj.mapSeq (fun _ => (#[] : Array Value)))).objs.size = s.heap.objs.size := (Heap.SameBut.update ..).1
  have oth : ∀ b o, b ≠ S → s.heap.get? b = some o → (s.heap.update S (Obj.mapSeq (fun _ => (#[] : Array Value)))).get? b = some o :=
    fun b o hb q => (Heap.get?_update_other _ _ (Ne.symm hb)).trans q
  refine wpAny_bind (wpAny_letGo ?_)
  refine raw_extend (es := es) (ep := ep) hh (let ⟨o, ho, x⟩ := hv; ⟨o, oth r o hSr.symm ho, x⟩) (hm.at fun o q => oth d o hSd q) S hSr hSd .none _ hS₂ (fun h' tk c as hk hS' hG => ?_) hn
  dsimp only at hG hk
  rw [hSz] at hG
  exact hR h' tk c as (fun b o hb q => hk b o hb (oth b o hb q)) hS' hG
theorem raw_call {Q : Value → Shared → Prop} (hh : A.handled = none) (hv : s.heap.IsItemsView r d) (hm : RawD s.heap d es ep) (hn : es.size ≤ sizeLine)
    (hQ : ∀ h' tk c as, (∀ b o, s.heap.get? b = some o → h'.get? b = some o) → h'.get? s.heap.objs.size = some { cls := .type "list", dict := none, data := .seq (as.map Value.ref).toArray c, slots := #[] } → PairsAt h' s.heap.objs.size s.heap.objs.size es.toList as →
      Q (.ref s.heap.objs.size) { s with heap := h', toks := tk }) :
    wpAny (model prog w) A (call (.type "list") [.ref r]) Q E s := by
  refine callType_codes (Q₁ := fun obj s₁ => obj = .ref s.heap.objs.size ∧ s₁ = { s with heap := s.heap.push { cls := .type "list", data := .seq #[] } }) PySem.F.called_list (PySem.F.typeCall_list_1 _) PySem.F.entry_list_init
    (code_list_new _ ⟨rfl, rfl⟩) fun obj s₁ h₁ => ?_
  obtain ⟨rfl, rfl⟩ := h₁
  have hS : (s.heap.push { cls := .type "list", data := .seq #[] }).get? s.heap.objs.size = some { cls := .type "list", data := .seq #[] } := Heap.get?_push_size _ rfl
  have hr : r < s.heap.objs.size := let ⟨_, ho, _⟩ := hv; Heap.lt_size ho
  have hd : d < s.heap.objs.size := let ⟨_, ho, _⟩ := hm; Heap.lt_size ho
  refine ⟨⟨_, hS, rfl⟩, PySem.F.args_list_init_2 _ _, raw_init (es := es) (ep := ep) (A := A.in1) hh (let ⟨o, ho, x⟩ := hv; ⟨o, Heap.get?_push_of_some _ ho, x⟩) (hm.at fun o q => Heap.get?_push_of_some _ q) _ (Nat.ne_of_gt hr) (Nat.ne_of_lt hd) hS (fun h' tk c as hk hS' hG => ?_) hn⟩
  refine ⟨rfl, hQ h' tk c as (fun b o q => hk b o (Nat.ne_of_lt (Heap.lt_size q)) (Heap.get?_push_of_some _ q)) hS' ⟨hG.1, fun j a hj => ?_⟩⟩
  obtain ⟨h1, h2, h3⟩ := hG.2 j a hj
  refine ⟨h1, ?_, h3⟩
  dsimp only at h2
  rw [Heap.size_push] at h2
  exact Nat.lt_of_succ_lt h2
end
noncomputable abbrev itemD (y : Fn × Int) : Dat := .tuple [fnD y.1, .int y.2]
theorem pairs_led {h : Heap} {S I : Addr} {w : World} {news : Led} : ∀ {ys : List Ro} {es : List DictEntry} {as : List Addr}, es = (ys.map roH).map (entryOfKey (FK w)) → PairsAt h S I es as → (∀ y ∈ ys, DatIn news (.ref y.2.1) (fnD y.1)) →
    ∃ ps : Led, (∀ p ∈ ps, h.get? p.1 = some p.2 ∧ I < p.1 ∧ p.1 ≠ S) ∧ DatAll (ps ++ news) (as.map Value.ref) ((ys.map roX).map itemD) := by
  intro ys
  induction ys with
  | nil =>
    rintro es as rfl P _
    have : as = [] := List.length_eq_zero_iff.mp P.1
    subst this
    exact ⟨[], (fun p hp => by simp at hp), .nil⟩
  | cons y ys ih =>
    rintro es as rfl P K
    obtain ⟨a, as, rfl⟩ : ∃ a as', as = a :: as' := by
      cases as with
      | nil => have := P.1; simp at this
      | cons a as => exact ⟨a, as, rfl⟩
    obtain ⟨h1, h2, e, h3, h4⟩ := P.2 0 a rfl
    have h5 : e = entryOfKey (FK w) (roH y) := by simpa using h3.symm
    subst h5
    obtain ⟨ps, hps, D⟩ := ih (as := as) rfl ⟨by have := P.1; simpa using this, fun j b hj => by
      obtain ⟨q1, q2, e, q3, q4⟩ := P.2 (j + 1) b (by simpa using hj)
      exact ⟨q1, q2, e, by simpa using q3, q4⟩⟩ fun z hz => K z (.tail _ hz)
    refine ⟨(a, tupO [.ref y.2.1, .int y.2.2.1 y.2.2.2]) :: ps, fun p hp => ?_, .cons ?_ (D.mono fun p hp => .tail _ hp)⟩
    · rcases List.mem_cons.mp hp with rfl | hp
      · exact ⟨h4, h2, h1⟩
      · exact hps p hp
    · exact .tuple (.head _) (.cons ((K y (.head _)).mono fun p hp => .tail _ (List.mem_append_right _ hp)) (.cons (.int _ _) .nil))
section
variable {w : World} {h₀ : Heap} {L d : Addr} {news : Led} {ys : List Ro} {A : Around} {E : Value → Shared → Prop} {s : Shared} {m : Str → Option Value}
theorem tbl_list {vw : Addr} {xs : List (Fn × Int)} {Q : Value → Shared → Prop} (hh : A.handled = none) (F : Fr h₀ L s.heap m) (N : News h₀ L s.heap news) (T : Tbl w news d xs) (hvw : (vw, ({ cls := .type "dict_items", data := .fields #[.ref d] } : Obj)) ∈ news) (hx : xs.length ≤ 1000)
    (h : ∀ D h' tk news', Fr h₀ L h' m → News h₀ L h' news' → (∀ p ∈ news, p ∈ news') → DatIn news' (.ref D) (.list (xs.map itemD)) → Q (.ref D) { s with heap := h', toks := tk }) :
    wpAny (model PySem.Challenge.rw_ny0043_01.row.prog w) A (call (.type "list") [.ref vw]) Q E s := by
  obtain ⟨ys, T, rfl⟩ := T
  obtain ⟨o, es, ep, hm, hc, hd, he⟩ := id T.obj
  have hz : es.size = ys.length := by rw [← Array.length_toList, he, List.length_map, List.length_map]
  have hvwI : s.heap.IsItemsView vw d := ⟨_, (N _ hvw).1, rfl, rfl⟩
  refine raw_call (es := es) (ep := ep) hh hvwI ⟨o, (N _ hm).1, hc, hd⟩ (by rw [hz, sizeLine_eq]; rw [List.length_map] at hx; omega) fun h' tk c as hk hS hP => ?_
  obtain ⟨ps, hps, D⟩ := pairs_led (news := news) he hP T.keys
  have fresh : ∀ b, s.heap.objs.size ≤ b → b ≠ L ∧ h₀.get? b = none := fun b hb => kdx_fresh F hb
  refine h s.heap.objs.size h' tk ((s.heap.objs.size, lsO (as.map Value.ref) c) :: (ps ++ news)) (F.keeps hk) (fun p hp => ?_) (fun p hp => .tail _ (List.mem_append_right _ hp)) (.list (.head _) (D.mono fun p hp => .tail _ hp))
  rcases List.mem_cons.mp hp with rfl | hp
  · exact ⟨hS, fresh _ (Nat.le_refl _)⟩
  · rcases List.mem_append.mp hp with hp | hp
    · obtain ⟨q1, q2, _⟩ := hps p hp
      exact ⟨q1, fresh _ (Nat.le_of_lt q2)⟩
    · exact ⟨hk _ _ (N p hp).1, (N p hp).2⟩
end
end Mine
end

/-! ## LCell -/
section
theorem Mine.startLCell : True := by
  w_top off
  trivial
open PySem PySem.W PyProof.Rows PySem.Calls PySem.Spec
set_option Elab.async false
namespace Mine
section
variable {prog : Program} {w : World} {A : Around} {E : Value → Shared → Prop} {s : Shared} {h₀ : Heap} {L : Addr} {m : Str → Option Value} {env : Env}
/-- a comprehension's turns where it keeps one name in a cell of its own -/
noncomputable def TurnsP (prog : Program) (w : World) (A : Around) (h₀ : Heap) (L : Addr) (m : Str → Option Value) (cenv : Addr → Env) (elt target : Expr) (ifs : List Expr) (s : Shared) (n : Nat) (J : Addr → Nat → List Value → Led → Prop) (P : Nat → Value → Prop) : Prop :=
  ∀ I C D, I ≠ C → I ≠ D → C ≠ D → ∀ i v ys news₁ h tk oI oC₁ m₁ (E' : Value → Shared → Prop), i < n → P i v → J C i ys news₁ → Fr h₀ L h m → NsObj oC₁ m₁ → News h₀ L h ((I, oI) :: (C, oC₁) :: (D, lst ys) :: news₁) → Off I C D news₁ →
      wpAny (model prog w) A (assign target (cenv C) v) (fun _ s₃ => wpAny (model prog w) A (testsOf ifs (cenv C)) (fun ok s₄ => if ok = true then
        wpAny (model prog w) A (eval elt (cenv C)) (fun y s₅ => CEnd h₀ L m { s with heap := h, toks := tk } I oI C D ys [] (J C (i + 1) (ys ++ [y])) s₅) E' s₄
        else CEnd h₀ L m { s with heap := h, toks := tk } I oI C D ys [] (J C (i + 1) ys) s₄) E' s₃) E' { s with heap := h, toks := tk }
end
end Mine
end

/-! ## LVals -/
section
theorem Mine.startLVals : True := by
  w_top off
  trivial
open PySem PySem.W PyProof.Rows PySem.Calls PySem.Spec
set_option Elab.async false
namespace Mine
section
variable {prog : Program} {w : World} {A : Around} {E : Value → Shared → Prop} {s : Shared}
theorem rawv_iter {v d : Addr} {es : Array DictEntry} {ep : Nat} {Q : Value → Shared → Prop} (hv : s.heap.IsValuesView v d) (hm : RawD s.heap d es ep)
    (hQ : Q (.ref s.heap.objs.size) { s with heap := s.heap.push { cls := .type "dict_valueiterator", data := .fields #[.ref d, .int 0 0, .int es.size 0, .int ep 0] } }) :
    wpAny (model prog w) A (pyIter (.ref v)) Q E s := by
  obtain ⟨ov, hov, hcv, hdv⟩ := id hv
  obtain ⟨o, ho, hc, hdat⟩ := id hm
  refine wpAny_pyIter_slot hv.typeIs PySem.F.slot_dict_values_iter (wpAny_call_entry PySem.F.slot_dict_values_iter hv.typeIs PySem.F.entry_dict_values_iter ?_ (PySem.F.args_dict_values_iter_1 _))
  unfold Builtin.«dict_values.__iter__»
  refine wpAny_bind (wpAny_pure ?_)
  refine wpAny_bind ?_
  unfold Builtin.Dict_items.dictOf
  refine wpAny_bind (wpAny_field hov hdv (x := .ref d) rfl (wpAny_pure ?_))
  refine wpAny_bind ?_
  unfold Builtin.Dict_items.newIterator
  refine wpAny_bind (wpAny_dictEntries ho hdat ?_)
  refine wpAny_bind (wpAny_dictEpoch ho hdat ?_)
  have hown : Builtin.Dict_items.ownsTuple "dict_valueiterator" = false := by decide
  simp only [hown, Bool.false_eq_true, if_false]
  refine wpAny_newObj_type (wpAny_pure ⟨_, rfl, "dict_valueiterator", _, ⟨_, Heap.get?_push_size _ rfl, rfl⟩, PySem.F.slot_dict_valueiterator_next.lookup, ?_⟩)
  simpa [rawInt] using hQ
theorem rawv_next {it d : Addr} {i ep : Nat} {es : Array DictEntry} {e : DictEntry} {Q : Option Value → Shared → Prop} (hit : s.heap.IsValIter it d i es.size ep)
    (hm : RawD s.heap d es ep) (hx : es[i]? = some e)
    (hQ : ∀ h', h'.IsValIter it d (i + 1) es.size ep → Heap.SameBut it s.heap h' → Q (some e.val) { s with heap := h' }) :
    wpAny (model prog w) A (pyNext (.ref it)) Q E s := by
  obtain ⟨o, ho, hc, hd⟩ := id hit
  obtain ⟨od, hod, hcd, hdd⟩ := id hm
  unfold pyNext
  refine wpAny_bind (wpAny_attempt (wpAny_callSpecial?_slot (name := Str.ofString "__next__") hit.typeIs PySem.F.slot_dict_valueiterator_next
    (wpAny_call_entry PySem.F.slot_dict_valueiterator_next hit.typeIs PySem.F.entry_dict_valueiterator_next ?_ (PySem.F.args_dict_valueiterator_next_1 _))))
  refine wpAny_bind (wpAny_pure ?_)
  refine wpAny_bind ?_
  refine wpAny_bind ?_
  first | refine wpAny_bind (wpAny_typeNameOfWhole_valiter hit.typeIs (wpAny_pure ?_)) | refine wpAny_bind (wpAny_typeNameOf_valiter hit.typeIs (wpAny_pure ?_))
  refine wpAny_bind (wpAny_fieldsOf ho hd ?_)
  have hown : Builtin.Dict_items.ownsTuple "dict_valueiterator" = false := by decide
  simp only [hown, Bool.false_eq_true, if_false]
  show wpAny _ _ (if (Value.ref d == Value.none) = true then _ else _) _ _ s
  rw [if_neg (show ¬ ((Value.ref d == Value.none) = true) from Bool.false_ne_true)]
  refine wpAny_bind (wpAny_pure ?_)
  refine wpAny_bind (wpAny_dictEntries hod hdd ?_)
  rw [if_neg (by simp)]
  refine wpAny_bind (wpAny_pure ?_)
  refine wpAny_bind (wpAny_dictEpoch hod hdd ?_)
  rw [if_neg (by simp)]
  refine wpAny_pure ?_
  simp only [show ¬ ((i : Int) < 0) from by omega, if_false, Int.toNat_natCast, hx]
  refine wpAny_bind ?_
  first | refine wpAny_bind (wpAny_typeNameOfWhole_valiter hit.typeIs (wpAny_pure ?_)) | refine wpAny_bind (wpAny_typeNameOf_valiter hit.typeIs (wpAny_pure ?_))
  refine wpAny_bind (wpAny_isOneOf_valiter hit.typeIs ?_)
  show wpAny _ _ (setField (.ref it) 1 (rawInt ((i : Int) + 1)) >>= _) _ _ s
  refine wpAny_bind (wpAny_setField ho hd (by simp) ?_)
  have hit' : (s.heap.update it (Obj.mapFields (·.setIfInBounds 1 (rawInt ((i : Int) + 1))))).IsValIter it d (i + 1) es.size ep :=
    ⟨_, Heap.get?_update_self _ ho (Obj.isFreed_of_fields (Obj.data_mapFields hd _)), (Obj.cls_mapFields ..).trans hc, by rw [Obj.data_mapFields hd]; simp [rawInt]⟩
  refine wpAny_bind (wpAny_holding ?_)
  refine wpAny_bind (wpAny_isOneOf_valiter (s := { s with heap := s.heap.update it (Obj.mapFields (·.setIfInBounds 1 (rawInt ((i : Int) + 1)))) }) hit'.typeIs ?_)
  refine wpAny_bind (wpAny_isOneOf_valiter (s := { s with heap := s.heap.update it (Obj.mapFields (·.setIfInBounds 1 (rawInt ((i : Int) + 1)))) }) hit'.typeIs ?_)
  show wpAny _ _ (pure e.val) _ _ _
  exact wpAny_pure (wpAny_pure ⟨_, rfl, wpAny_pure (hQ _ hit' (Heap.SameBut.update ..))⟩)
theorem rawv_end {it d : Addr} {i ep : Nat} {es : Array DictEntry} {Q : Option Value → Shared → Prop} (hh : A.handled = none) (hit : s.heap.IsValIter it d i es.size ep)
    (hm : RawD s.heap d es ep) (hx : es[i]? = none)
    (hQ : ∀ h', Heap.ExtBut it s.heap h' → Q none { s with heap := h' }) : wpAny (model prog w) A (pyNext (.ref it)) Q E s := by
  obtain ⟨o, ho, hc, hd⟩ := id hit
  obtain ⟨od, hod, hcd, hdd⟩ := id hm
  unfold pyNext
  refine wpAny_bind (wpAny_attempt (wpAny_callSpecial?_slot (name := Str.ofString "__next__") hit.typeIs PySem.F.slot_dict_valueiterator_next
    (wpAny_call_entry PySem.F.slot_dict_valueiterator_next hit.typeIs PySem.F.entry_dict_valueiterator_next ?_ (PySem.F.args_dict_valueiterator_next_1 _))))
  refine wpAny_bind (wpAny_pure ?_)
  refine wpAny_bind ?_
  refine wpAny_bind ?_
  first | refine wpAny_bind (wpAny_typeNameOfWhole_valiter hit.typeIs (wpAny_pure ?_)) | refine wpAny_bind (wpAny_typeNameOf_valiter hit.typeIs (wpAny_pure ?_))
  refine wpAny_bind (wpAny_fieldsOf ho hd ?_)
  have hown : Builtin.Dict_items.ownsTuple "dict_valueiterator" = false := by decide
  simp only [hown, Bool.false_eq_true, if_false]
  show wpAny _ _ (if (Value.ref d == Value.none) = true then _ else _) _ _ s
  rw [if_neg (show ¬ ((Value.ref d == Value.none) = true) from Bool.false_ne_true)]
  refine wpAny_bind (wpAny_pure ?_)
  refine wpAny_bind (wpAny_dictEntries hod hdd ?_)
  rw [if_neg (by simp)]
  refine wpAny_bind (wpAny_pure ?_)
  refine wpAny_bind (wpAny_dictEpoch hod hdd ?_)
  rw [if_neg (by simp)]
  refine wpAny_pure ?_
  simp only [show ¬ ((i : Int) < 0) from by omega, if_false, Int.toNat_natCast, hx]
  refine wpAny_bind ?_
  first | refine wpAny_bind (wpAny_typeNameOfWhole_valiter hit.typeIs (wpAny_pure ?_)) | refine wpAny_bind (wpAny_typeNameOf_valiter hit.typeIs (wpAny_pure ?_))
  show wpAny _ _ (setField (.ref it) 0 .none >>= _) _ _ s
  refine wpAny_bind (wpAny_setField ho hd (by simp) ?_)
  show wpAny _ _ (newExc (.type "StopIteration") [] >>= _) _ _ _
  refine wpAny_bind ?_
  simp only [newExc, newTuple]
  refine wpAny_bind (wpAny_newObj_type ?_ (by size_fits))
  refine wpAny_bind (m := firstArgMember _ _) (wpAny_of_eq (a := Value.none) (by first | rfl | (simp only [firstArgMember]; rfl)) ?_)
  refine wpAny_newObj_type ?_ (by size_fits)
  simp only [raiseNew]
  refine wpAny_bind (wpAny_handled ?_)
  rw [show A.in1.handled = none from hh]
  refine wpAny_bind (wpAny_pure (wpAny_throw ?_))
  refine wpAny_bind (wpAny_isInstance (T := "StopIteration") (b := true) ⟨_, Heap.get?_push_size _ rfl, rfl⟩ isSubtype_stop ?_)
  exact wpAny_pure (hQ _ (((Heap.SameBut.update ..).extBut.push _).push _))
theorem valIter_at {h h' : Heap} {it d : Addr} {i n ep : Nat} (x : h.IsValIter it d i n ep) (hk : ∀ o, h.get? it = some o → h'.get? it = some o) : h'.IsValIter it d i n ep := let ⟨o, ho, r⟩ := x; ⟨o, hk o ho, r⟩
theorem rawv_turns {target : Expr} (hh : A.handled = none) (I d : Addr) (hne : d ≠ I) (es : Array DictEntry) (ep : Nat) :
    KTurns prog w A target I [I, d] [I] es.size
      (fun i v _ => ∃ e, v = e.val ∧ es[i]? = some e)
      (fun i v h => (∃ e, v = e.val ∧ es[i]? = some e) ∧ h.IsValIter I d (i + 1) es.size ep ∧ RawD h d es ep)
      (fun i h => h.IsValIter I d i es.size ep ∧ RawD h d es ep) where
  sub := fun b hb => by simp at hb; simp [hb]
  frame := fun i h h' st hk => ⟨valIter_at st.1 fun o e => hk I (by simp) o e, st.2.at fun o e => hk d (by simp) o e⟩
  item := fun i s Q E hi st hQ => by
    obtain ⟨he, hm⟩ := st
    obtain ⟨e, hx⟩ : ∃ e, es[i]? = some e := ⟨es[i], by simp [hi]⟩
    refine rawv_next he hm hx fun h' ho hs => ?_
    exact hQ e.val h' s.toks ⟨⟨e, rfl, hx⟩, ho, hm.at fun o e => hs.extBut d o hne e⟩ fun b o hb e => hs.extBut b o (fun h => hb (by simp [h])) e
  go := fun i v s Q E hm hQ => letGo_valiter hm.2.1 (hQ s.heap hm.1 hm.2 fun _ _ _ e => e)
  done := fun s Q E st hQ => rawv_end hh st.1 st.2 (by simp) fun h' hx => hQ h' s.toks fun b o hb e => hx b o (fun h => hb (by simp [h])) e
end
section
variable {prog : Program} {w : World} {A : Around} {E : Value → Shared → Prop} {s : Shared} {env : Env} {h₀ : Heap} {body : List Stmt} {Q : Flow → Shared → Prop}
theorem rawv_for {target : Expr} {d vw : Addr} {od : Obj} {es : Array DictEntry} {ep : Nat} {m : Str → Option Value} {news : Led}
    (hh : A.handled = none) (F : Fr h₀ env.locals s.heap m) (N : News h₀ env.locals s.heap news) (hvw : s.heap.IsValuesView vw d) (hm : (d, od) ∈ news) (hc : od.ExactDict) (hd : od.data = .dict es ep)
    (J : Nat → (Str → Option Value) → Led → Prop) (h0 : J 0 m news)
    (step : ∀ i e m₁ news₁ h₁ tk₁ I oi, es[i]? = some e → J i m₁ news₁ → (∀ p ∈ news₁, p.1 ≠ I) → (d, od) ∈ news₁ →
      Fr h₀ env.locals h₁ m₁ → News h₀ env.locals h₁ ((I, oi) :: news₁) →
      wpAny (model prog w) A (assign target env e.val) (fun _ s₃ => wpAny (model prog w) A (execs body env)
        (TurnEnd h₀ env.locals I oi d od (J (i + 1)) { s with heap := h₁, toks := tk₁ }) E s₃) E { s with heap := h₁, toks := tk₁ })
    (hQ : ∀ h' tk m' news', Fr h₀ env.locals h' m' → News h₀ env.locals h' news' → J es.size m' news' → Q .next { s with heap := h', toks := tk }) :
    wpAny (model prog w) A (pyIter (.ref vw)) (fun it s₂ => TurnsAt prog w A h₀ env target body Q E it s₂) E s := by
  have hax := N _ hm
  have hraw : RawD s.heap d es ep := ⟨od, hax.1, hc, hd⟩
  have hne : d ≠ s.heap.objs.size := Nat.ne_of_lt (Heap.lt_size hax.1)
  refine rawv_iter hvw hraw ?_
  refine ⟨s.heap.objs.size, _, _, _, _, _, _, m, news, fun i m₁ n₁ => (d, od) ∈ n₁ ∧ J i m₁ n₁, rfl, rawv_turns hh s.heap.objs.size d hne es ep, ?_, ?_, ?_, ⟨⟨_, Heap.get?_push_size _ rfl, rfl, rfl⟩, hraw.at fun o e => Heap.get?_push_of_some _ e⟩, F.push _, fun p hp => ⟨Heap.get?_push_of_some _ (N p hp).1, (N p hp).2⟩, ⟨hm, h0⟩, ?_, ?_⟩
  · intro hI
    have hb' : env.locals = s.heap.objs.size ∨ env.locals = d := by simpa using hI
    rcases hb' with e | e
    · exact absurd F.ns.lt (e ▸ Nat.lt_irrefl _)
    · exact hax.2.1 e.symm
  · intro b hb
    have hb' : b = s.heap.objs.size := by simpa using hb
    rw [hb']; exact next_is_new F
  · intro p hp hI
    exact absurd (Heap.lt_size (N p hp).1) ((List.mem_singleton.mp hI) ▸ Nat.lt_irrefl _)
  · rintro i v m₁ news₁ h₁ tk₁ own hi ⟨e, rfl, hx⟩ ⟨hdm, hJ⟩ hoff hown hget hall ⟨he, hr⟩ F₁ N₁
    have hI : h₀.get? s.heap.objs.size = none := next_is_new F
    obtain ⟨oi, hoi, _⟩ := id he
    have hIm := hall s.heap.objs.size (by simp) hI _ hoi
    refine wpAny_mono (step i e m₁ news₁ h₁ tk₁ s.heap.objs.size oi hx hJ (fun p hp h => hoff p hp (by simp [h])) hdm F₁ ?_) (fun _ s₃ h₃ => wpAny_mono h₃ (fun f s₄ h₄ => ?_) fun _ _ e => e) fun _ _ e => e
    · intro p hp
      rcases List.mem_cons.mp hp with rfl | hp
      · exact N₁ _ (List.mem_append_left _ hIm)
      · exact N₁ _ (List.mem_append_right _ hp)
    · obtain ⟨rfl, h', tk, m', news', rfl, F', N', ho, hd', hJ'⟩ := h₄
      refine LoopStepV.next ⟨rfl, h', tk, m', news', rfl, F', ?_, fun p hp hI => ho p hp (by simpa using hI), hd', hJ'⟩
      intro p hp
      rcases List.mem_append.mp hp with hp | hp
      · have hb : p.1 = s.heap.objs.size ∨ p.1 = d := by simpa using hown p hp
        have hg := hget p hp
        obtain ⟨pa, po⟩ := p
        dsimp only at hb hg
        rcases hb with rfl | rfl
        · obtain rfl := Option.some.inj (hoi.symm.trans hg)
          exact N' _ (.head _)
        · obtain rfl : od = po := Option.some.inj ((N₁ _ (List.mem_append_right _ hdm)).1.symm.trans hg)
          exact N' _ (.tail _ hd')
      · exact N' _ (.tail _ hp)
  · intro h' tk m' news' F' N' _ hJ
    exact hQ h' tk m' news' F' N' hJ.2
end
end Mine
end

/-! ## LCount -/
section
theorem Mine.startLCount : True := by
  w_top off
  trivial
open PySem PySem.W PyProof.Rows PySem.Calls PySem.Spec
set_option Elab.async false
namespace Mine
noncomputable def sumX (xs : List (Fn × Int)) : Int := (xs.map (·.2)).sum
noncomputable def cntM (m : Str → Option Value) (n : Int) (t : Tok) (cv : Option Value) : Str → Option Value := fun y => if y = Str.ofString "nc" then some (.int n t) else if y = Str.ofString "calls" then cv else m y
theorem cntM_start {m : Str → Option Value} {t : Tok} (hc : m (Str.ofString "calls") = none) : (fun y => if y = Str.ofString "nc" then some (.int 0 t) else m y) = cntM m 0 t none := by
  funext y
  unfold cntM
  by_cases h1 : y = Str.ofString "nc"
  · rw [if_pos h1, if_pos h1]
  · by_cases h2 : y = Str.ofString "calls"
    · rw [if_neg h1, if_neg h1, if_pos h2, h2, hc]
    · rw [if_neg h1, if_neg h1, if_neg h2]
theorem cntM_next {m : Str → Option Value} {n k : Int} {t u : Tok} {c : Value} {cv : Option Value} : (fun y => if y = Str.ofString "nc" then some (.int k u) else if y = Str.ofString "calls" then some c else cntM m n t cv y) = cntM m k u (some c) := by
  funext y
  unfold cntM
  by_cases h1 : y = Str.ofString "nc"
  · rw [if_pos h1, if_pos h1]
  · by_cases h2 : y = Str.ofString "calls"
    · simp only [if_neg h1, if_pos h2]
    · simp only [if_neg h1, if_neg h2]
theorem sumX_take {as : List Ro} {i : Nat} {y : Ro} (hy : as[i]? = some y) : sumX ((as.take (i + 1)).map roX) = sumX ((as.take i).map roX) + y.2.2.1 := by
  unfold sumX
  rw [List.take_add_one, hy, List.map_append, List.map_append, List.sum_append]
  simp [roX]
set_option maxRecDepth 100000 in
set_option maxHeartbeats 8000000 in
theorem countK (w : World) (a : Addr) (xs : List (Fn × Int)) :
    Claim w 2 35 [.ref a] (fun news => Tbl w news a xs) (fun news news' r => news' = news ∧ ∃ t, r = .int (sumX xs) t) := by
  unfold Claim
  k_fill
  intro p loose mean mg mb dp un gd cn cs aa ccd cl outer A₀ base h₀ L m news s Q E B F X N T hk hd hu hpre hret
  obtain ⟨as, Ta, ea⟩ := hpre
  refine wpAny_call ?_
  k_dflt cell_enter
  rename_i g L1 h1 FG F1 N1 B1 X1 T1
  refine wpAny_mono (E := fun _ _ => False) ?_ (fun _ _ h => h) (fun _ _ h => h.elim)
  replace F1 : Fr g L1 h1 (fun y => List.lookup y [(Str.ofString "callers", Value.ref a)]) := F1
  (repeat' ((fail_if_success (first | (with_reducible show wpAny _ _ (call (Value.ref _) _ _) _ _ _) | (with_reducible show wpAny _ _ (call (Value.builtin "dict.values") _ _) _ _ _) | (with_reducible show wpAny _ _ (getMethod (Value.ref _) _ _) _ _ _) | (with_reducible show wpAny _ _ (pyIter _) _ _ _) | (with_reducible show wpAny _ _ (exec (Stmt.For _ _ _ _ _) _) _ _ _))); first | (k_unfold; (try dsimp only)) | (k_end; wrow_close) | walk1 | (dsimp only; walk1)))
  rename Fr g L1 _ _ => F3
  rename News g L1 _ _ => N3
  refine For_turns F3 ?_
  (repeat' ((fail_if_success (first | (with_reducible show wpAny _ _ (call (Value.ref _) _ _) _ _ _) | (with_reducible show wpAny _ _ (call (Value.builtin "dict.values") _ _) _ _ _) | (with_reducible show wpAny _ _ (getMethod (Value.ref _) _ _) _ _ _) | (with_reducible show wpAny _ _ (pyIter _) _ _ _) | (with_reducible show wpAny _ _ (exec (Stmt.For _ _ _ _ _) _) _ _ _))); first | (k_unfold; (try dsimp only)) | (k_end; wrow_close) | walk1 | (dsimp only; walk1)))
  refine tbl_mValues N3 Ta ?_
  (repeat' ((fail_if_success (first | (with_reducible show wpAny _ _ (call (Value.ref _) _ _) _ _ _) | (with_reducible show wpAny _ _ (call (Value.builtin "dict.values") _ _) _ _ _) | (with_reducible show wpAny _ _ (getMethod (Value.ref _) _ _) _ _ _) | (with_reducible show wpAny _ _ (pyIter _) _ _ _) | (with_reducible show wpAny _ _ (exec (Stmt.For _ _ _ _ _) _) _ _ _))); first | (k_unfold; (try dsimp only)) | (k_end; wrow_close) | walk1 | (dsimp only; walk1)))
  refine tbl_values F3 N3 Ta ?_
  intro vw h4 F4 N4 hvlt
  obtain ⟨oa, ea', epa, hma, hca, hda, hea⟩ := id Ta.obj
  refine rawv_for (s := _) rfl F4 (cb_drop N4 fun p hp => .tail _ hp) ⟨_, (N4 _ (.head _)).1, rfl, rfl⟩ hma hca hda
    (fun i m₁ n₁ => n₁ = news ∧ ∃ t cv, m₁ = cntM (fun y => List.lookup y [(Str.ofString "callers", Value.ref a)]) (sumX ((as.take i).map roX)) t cv) ?h0 ?step ?hQ
  case h0 =>
    exact ⟨rfl, _, none, cntM_start rfl⟩
  case step =>
    rintro i e m₁ n₁ h₁ tk₁ I oi hx ⟨rfl, t, cv, rfl⟩ hoff hdm F5 N5
    obtain ⟨y, hy, hk1, hk2⟩ := raw_at hea hx
    obtain ⟨ke, kk, kv⟩ := e
    dsimp only at hk1 hk2
    subst hk1 hk2
    clear F4 N4 F3 N3
    dsimp only
    (repeat' ((fail_if_success (first | (with_reducible show wpAny _ _ (call (Value.ref _) _ _) _ _ _) | (with_reducible show wpAny _ _ (call (Value.builtin "dict.values") _ _) _ _ _) | (with_reducible show wpAny _ _ (getMethod (Value.ref _) _ _) _ _ _) | (with_reducible show wpAny _ _ (pyIter _) _ _ _) | (with_reducible show wpAny _ _ (exec (Stmt.For _ _ _ _ _) _) _ _ _))); first | (k_unfold; (try dsimp only)) | (k_end; wrow_close) | walk1 | (dsimp only; walk1)))
    rename Fr g L1 _ _ => F6
    rename News g L1 _ _ => N6
    exact ⟨rfl, _, _, _, n₁, rfl, F6, N6, hoff, hdm, rfl, _, _, by rw [sumX_take hy]; exact cntM_next⟩
  case hQ =>
    clear F4 N4 F3 N3
    rintro h5 tk5 m5 n5 F5 N5 ⟨rfl, t, cv, rfl⟩
    (repeat' ((fail_if_success (first | (with_reducible show wpAny _ _ (call (Value.ref _) _ _) _ _ _) | (with_reducible show wpAny _ _ (call (Value.builtin "dict.values") _ _) _ _ _) | (with_reducible show wpAny _ _ (getMethod (Value.ref _) _ _) _ _ _) | (with_reducible show wpAny _ _ (pyIter _) _ _ _) | (with_reducible show wpAny _ _ (exec (Stmt.For _ _ _ _ _) _) _ _ _))); first | (k_unfold; (try dsimp only)) | (k_end; wrow_close) | walk1 | (dsimp only; walk1)))
    have hfull : as.take ea'.size = as := by
      rw [List.take_of_length_le]
      have := congrArg List.length hea
      simp only [List.length_map, Array.length_toList] at this
      (first | lia | omega)
    exact hret _ _ _ _ (by assumption) (by assumption) ⟨rfl, t, by rw [hfull, ea]⟩
end Mine
end

/-! ## LPlain -/
section
theorem Mine.startLPlain : True := by
  w_top off
  trivial
set_option Elab.async false
open PySem PySem.W PyProof.Rows PySem.Calls PySem.Spec
namespace Mine
/-- a key behind the keys, if it is new -/
noncomputable def addK1 (ks : List Fn) (k : Fn) : List Fn := if k ∈ ks then ks else ks ++ [k]
noncomputable def uniq (l : List Fn) : List Fn := l.foldl addK1 []
noncomputable def tot (l : List (Fn × Int)) (k : Fn) : Int := ((l.filter fun z => decide (z.1 = k)).map (·.2)).sum
noncomputable def totC (R : List Call) (k : Fn) : Int := ((R.filter fun c => decide (c.2 = k)).map (·.1)).sum
noncomputable def dueL (R : List Call) : List (Fn × Int) := (uniq (R.reverse.map (·.2))).map fun k => (k, totC R k)
theorem tot_cons (y : Fn × Int) (l : List (Fn × Int)) (k : Fn) : tot (y :: l) k = (if y.1 = k then y.2 else 0) + tot l k := by
  unfold tot
  by_cases h : y.1 = k <;> simp [h]
theorem tot_app (l r : List (Fn × Int)) (k : Fn) : tot (l ++ r) k = tot l k + tot r k := by
  unfold tot
  rw [List.filter_append, List.map_append, List.sum_append]
theorem tot_out {l : List (Fn × Int)} {k : Fn} (h : k ∉ l.map (·.1)) : tot l k = 0 := by
  induction l with
  | nil => rfl
  | cons y l ih =>
    simp only [List.map_cons, List.mem_cons, not_or] at h
    rw [tot_cons, if_neg (fun e => h.1 e.symm), ih h.2, Int.zero_add]
theorem canon {l : List (Fn × Int)} (h : (l.map (·.1)).Nodup) : l = (l.map (·.1)).map fun k => (k, tot l k) := by
  induction l with
  | nil => rfl
  | cons y l ih =>
    rw [List.map_cons, List.nodup_cons] at h
    rw [List.map_cons, List.map_cons, tot_cons, if_pos rfl, tot_out h.1, Int.add_zero]
    congr 1
    refine (ih h.2).trans (List.map_congr_left fun k hk => ?_)
    rw [tot_cons, if_neg (fun e => h.1 (by rw [e]; exact hk)), Int.zero_add]
theorem any_mem (acc : List (Fn × Int)) (k : Fn) : (acc.any fun z => decide (z.1 = k)) = true ↔ k ∈ acc.map (·.1) := by
  simp [List.any_eq_true, List.mem_map]
theorem addTo_keys (acc : List (Fn × Int)) (y : Fn × Int) : (addTo acc y).map (·.1) = addK1 (acc.map (·.1)) y.1 := by
  unfold addTo addK1
  by_cases h : y.1 ∈ acc.map (·.1)
  · rw [if_pos ((any_mem ..).mpr h), if_pos h, List.map_map]
    refine List.map_congr_left fun z _ => ?_
    by_cases e : z.1 = y.1 <;> simp [e]
  · rw [if_neg (fun x => h ((any_mem ..).mp x)), if_neg h, List.map_append]; rfl
theorem addK1_nodup {ks : List Fn} {k : Fn} (h : ks.Nodup) : (addK1 ks k).Nodup := by
  unfold addK1
  split
  · exact h
  · rename_i hk
    refine List.nodup_append.mpr ⟨h, List.pairwise_singleton _ _, fun a ha b hb e => ?_⟩
    rw [List.mem_singleton.mp hb] at e
    exact hk (e ▸ ha)
theorem addTo_nodup {acc : List (Fn × Int)} {y : Fn × Int} (h : (acc.map (·.1)).Nodup) : ((addTo acc y).map (·.1)).Nodup := by
  rw [addTo_keys]; exact addK1_nodup h
theorem tot_bump {acc : List (Fn × Int)} (y : Fn × Int) (k : Fn) (h : (acc.map (·.1)).Nodup) : tot (acc.map fun z => if z.1 = y.1 then (z.1, z.2 + y.2) else z) k = tot acc k + if y.1 = k ∧ y.1 ∈ acc.map (·.1) then y.2 else 0 := by
  induction acc with
  | nil => simp [tot]
  | cons z acc ih =>
    rw [List.map_cons, List.nodup_cons] at h
    rw [List.map_cons, tot_cons, tot_cons, ih h.2, List.map_cons]
    by_cases e : z.1 = y.1
    · have hn : ¬ y.1 ∈ acc.map (·.1) := e ▸ h.1
      have h3 : ¬ (y.1 = k ∧ y.1 ∈ acc.map (·.1)) := fun x => hn x.2
      rw [if_pos e, if_neg h3]
      by_cases e2 : y.1 = k
      · have h4 : y.1 = k ∧ y.1 ∈ z.1 :: acc.map (·.1) := ⟨e2, by rw [e]; exact .head _⟩
        have h5 : z.1 = k := e.trans e2
        rw [if_pos h4]
        simp only [h5, if_true]
        (first | lia | omega)
      · have h4 : ¬ (y.1 = k ∧ y.1 ∈ z.1 :: acc.map (·.1)) := fun x => e2 x.1
        have h5 : ¬ z.1 = k := fun x => e2 (e.symm.trans x)
        rw [if_neg h4]
        simp only [h5, if_false]
        (first | lia | omega)
    · rw [if_neg e]
      have : (y.1 = k ∧ y.1 ∈ z.1 :: acc.map (·.1)) ↔ (y.1 = k ∧ y.1 ∈ acc.map (·.1)) := by
        simp only [List.mem_cons]
        exact ⟨fun x => ⟨x.1, x.2.resolve_left fun q => e q.symm⟩, fun x => ⟨x.1, .inr x.2⟩⟩
      simp only [this]
      (first | lia | omega)
theorem addTo_tot {acc : List (Fn × Int)} (y : Fn × Int) (k : Fn) (h : (acc.map (·.1)).Nodup) : tot (addTo acc y) k = tot acc k + if y.1 = k then y.2 else 0 := by
  unfold addTo
  by_cases hm : y.1 ∈ acc.map (·.1)
  · rw [if_pos ((any_mem ..).mpr hm), tot_bump y k h]
    simp only [hm, and_true]
  · rw [if_neg (fun x => hm ((any_mem ..).mp x)), tot_app, tot_cons]
    simp [tot]
theorem merge_all (ys : List (Fn × Int)) : ∀ (xs : List (Fn × Int)), (xs.map (·.1)).Nodup → ((merge xs ys).map (·.1)).Nodup ∧ (merge xs ys).map (·.1) = (ys.map (·.1)).foldl addK1 (xs.map (·.1)) ∧ ∀ k, tot (merge xs ys) k = tot xs k + tot ys k := by
  induction ys with
  | nil => intro xs h; exact ⟨h, rfl, fun k => by simp [merge, tot]⟩
  | cons y ys ih =>
    intro xs h
    obtain ⟨h1, h2, h3⟩ := ih (addTo xs y) (addTo_nodup h)
    refine ⟨h1, ?_, fun k => ?_⟩
    · rw [List.map_cons, List.foldl_cons, ← addTo_keys]; exact h2
    · rw [tot_cons]
      have := h3 k
      rw [addTo_tot y k h] at this
      show tot (merge (addTo xs y) ys) k = _
      (first | lia | omega)
noncomputable def swapC (R : List Call) : List (Fn × Int) := R.map fun c => (c.2, c.1)
theorem tableOf_merge (R : List Call) : tableOf R = merge [] (swapC R.reverse) := by
  unfold tableOf merge swapC
  rw [List.foldl_map]
theorem swapC_keys (R : List Call) : (swapC R).map (·.1) = R.map (·.2) := by
  unfold swapC; rw [List.map_map]; rfl
theorem tot_swap (R : List Call) (k : Fn) : tot (swapC R) k = totC R k := by
  unfold tot swapC totC
  rw [List.filter_map, List.map_map]; rfl
theorem totC_app (A B : List Call) (k : Fn) : totC (A ++ B) k = totC A k + totC B k := by
  unfold totC
  rw [List.filter_append, List.map_append, List.sum_append]
theorem totC_rev (R : List Call) (k : Fn) : totC R.reverse k = totC R k := by
  unfold totC
  rw [List.filter_reverse, List.map_reverse, List.sum_reverse]
theorem tableOf_all (R : List Call) : ((tableOf R).map (·.1)).Nodup ∧ (tableOf R).map (·.1) = uniq (R.reverse.map (·.2)) ∧ ∀ k, tot (tableOf R) k = totC R k := by
  rw [tableOf_merge]
  obtain ⟨h1, h2, h3⟩ := merge_all (swapC R.reverse) [] List.nodup_nil
  refine ⟨h1, ?_, fun k => ?_⟩
  · rw [h2, swapC_keys]; rfl
  · rw [h3, tot_swap, totC_rev]; simp [tot]
theorem table_due (R : List Call) : tableOf R = dueL R := by
  obtain ⟨h1, h2, h3⟩ := tableOf_all R
  refine (canon h1).trans ?_
  unfold dueL
  rw [h2]
  exact List.map_congr_left fun k _ => by rw [h3]
theorem mem_foldl_add (l : List Fn) : ∀ (ks : List Fn) (k : Fn), k ∈ l.foldl addK1 ks ↔ k ∈ ks ∨ k ∈ l := by
  induction l with
  | nil => intro ks k; simp
  | cons a l ih =>
    intro ks k
    rw [List.foldl_cons, ih]
    unfold addK1
    split
    · rename_i h
      simp only [List.mem_cons]
      exact ⟨fun x => x.elim .inl (fun y => .inr (.inr y)), fun x => x.elim .inl (fun y => y.elim (fun e => .inl (e ▸ h)) .inr)⟩
    · simp only [List.mem_append, List.mem_cons, List.not_mem_nil, or_false, or_assoc]
theorem mem_uniq {l : List Fn} {k : Fn} : k ∈ uniq l ↔ k ∈ l := by
  unfold uniq
  rw [mem_foldl_add]; simp
theorem uniq_snoc (l : List Fn) (k : Fn) : uniq (l ++ [k]) = addK1 (uniq l) k := by
  unfold uniq
  rw [List.foldl_append]; rfl
theorem foldl_add_add (l : List Fn) : ∀ (ks ks' : List Fn), (l.foldl addK1 ks').foldl addK1 ks = l.foldl addK1 (ks'.foldl addK1 ks) := by
  induction l with
  | nil => intro ks ks'; rfl
  | cons x l ih =>
    intro ks ks'
    rw [List.foldl_cons, List.foldl_cons, ih]
    congr 1
    by_cases h : x ∈ ks'
    · have e1 : addK1 ks' x = ks' := if_pos h
      have e2 : addK1 (ks'.foldl addK1 ks) x = ks'.foldl addK1 ks := if_pos ((mem_foldl_add ks' ks x).mpr (.inr h))
      rw [e1, e2]
    · have e1 : addK1 ks' x = ks' ++ [x] := if_neg h
      rw [e1, List.foldl_append]; rfl
theorem merge_due (A B : List Call) : merge (tableOf B) (tableOf A) = dueL (A ++ B) := by
  obtain ⟨a1, a2, a3⟩ := tableOf_all A
  obtain ⟨b1, b2, b3⟩ := tableOf_all B
  obtain ⟨h1, h2, h3⟩ := merge_all (tableOf A) (tableOf B) b1
  refine (canon h1).trans ?_
  unfold dueL
  rw [h2, a2, b2]
  unfold uniq
  rw [foldl_add_add, List.foldl_nil] 
  rw [List.reverse_append, List.map_append, List.foldl_append]
  exact List.map_congr_left fun k _ => by rw [h3, a3, b3, totC_app, Int.add_comm]
theorem sumX_addTo {acc : List (Fn × Int)} (y : Fn × Int) (h : (acc.map (·.1)).Nodup) : sumX (addTo acc y) = sumX acc + y.2 := by
  unfold addTo
  by_cases hm : y.1 ∈ acc.map (·.1)
  · rw [if_pos ((any_mem ..).mpr hm)]
    induction acc with
    | nil => simp at hm
    | cons z acc ih =>
      rw [List.map_cons, List.nodup_cons] at h
      rw [List.map_cons] at hm ⊢
      unfold sumX at ih ⊢
      rw [List.map_cons, List.sum_cons, List.map_cons, List.sum_cons]
      by_cases e : z.1 = y.1
      · have hn : ∀ q ∈ acc, q.1 ≠ y.1 := fun q hq x => h.1 (List.mem_map.mpr ⟨q, hq, x.trans e.symm⟩)
        have e2 : acc.map (fun z => if z.1 = y.1 then (z.1, z.2 + y.2) else z) = acc := by
          have e3 : acc.map (fun z => if z.1 = y.1 then (z.1, z.2 + y.2) else z) = acc.map id := List.map_congr_left fun q hq => if_neg (hn q hq)
          rw [e3, List.map_id]
        rw [e2, if_pos e]
        dsimp only; (first | lia | omega)
      · rw [if_neg e, ih h.2 ((List.mem_cons.mp hm).resolve_left fun q => e q.symm)]
        (first | lia | omega)
  · rw [if_neg (fun x => hm ((any_mem ..).mp x))]
    simp [sumX]
theorem sumX_merge (ys : List (Fn × Int)) : ∀ xs : List (Fn × Int), (xs.map (·.1)).Nodup → sumX (merge xs ys) = sumX xs + sumX ys := by
  induction ys with
  | nil => intro xs _; simp [merge, sumX]
  | cons y ys ih =>
    intro xs h
    have := ih (addTo xs y) (addTo_nodup h)
    rw [sumX_addTo y h] at this
    show sumX (merge (addTo xs y) ys) = _
    have e : sumX (y :: ys) = y.2 + sumX ys := by simp [sumX]
    (first | lia | omega)
theorem sumX_table (R : List Call) : sumX (tableOf R) = (R.map (·.1)).sum := by
  rw [tableOf_merge, sumX_merge _ [] List.nodup_nil]
  have e : sumX ([] : List (Fn × Int)) = 0 := rfl
  rw [e, Int.zero_add]
  unfold sumX swapC
  rw [List.map_map, List.map_reverse, List.sum_reverse]
  rfl
end Mine
end

/-! ## LLaw0 -/
section
theorem Mine.startLLaw0 : True := by
  w_top off
  trivial
open PySem PySem.W PyProof.Rows PySem.Calls PySem.Spec
set_option Elab.async false
namespace Mine
noncomputable def lawD : Stmt := nth PySem.Challenge.pw_ny0043_01.main.body 14
noncomputable abbrev lawE (L fa : Addr) (cd : Value) : Env := envOfC (Str.ofString "law") (stS lawD) L fa cd
section
variable {M : Model} {A : Around} {E : Value → Shared → Prop} {s : Shared} {h₀ : Heap} {L a : Addr} {m : Str → Option Value} {cn : Str} {cs : Scope} {ccd : Value} {cl : List (Str × Addr)} {x : Str} {v : Value} {Q : Unit → Shared → Prop} {news : Led} {c : Addr} {o : Obj} {v₀ : Option Value}
/-- a cell of the frame's own is stored -/
theorem cell_set (F : Fr h₀ L s.heap m) (N : News h₀ L s.heap news) (hc : cl.lookup x = some c) (hm : (c, o) ∈ news) (hd : o.data = .cell v₀)
    (h : ∀ h' o' news', Fr h₀ L h' m → News h₀ L h' news' → (c, o') ∈ news' → o'.data = .cell (some v) → (∀ p ∈ news, p.1 ≠ c → p ∈ news') → Q () { s with heap := h' })
    (hk : cs.kind = .function := by rfl) (hx : (envX cn cs L a ccd cl).kindOf x = some .cell := by rfl) : wpAny M A (storeName (envX cn cs L a ccd cl) x v) Q E s := by
  have z := N _ hm
  refine wpAny_storeName_cell hk hx hc ⟨o, z.1, hd⟩ fun h' hv hs => ?_
  obtain ⟨o', ho', hd'⟩ := hv
  exact h h' o' (news.map fun p => if p.1 = c then (c, o') else p) (F.change hs z.2.1 z.2.2) (N.replace hs ho') (List.mem_map.mpr ⟨_, hm, by simp⟩) hd' fun p hp hpc => List.mem_map.mpr ⟨p, hp, by simp [hpc]⟩
end
end Mine
end

/-! ## LRows -/
section
theorem Mine.startLRows : True := by
  w_top off
  trivial
open PySem PySem.W PyProof.Rows PySem.Calls PySem.Spec
set_option Elab.async false
namespace Mine
noncomputable def lcS : Expr → Scope
  | .ListComp _ _ s _ => s
  | _ => default
noncomputable def arg0 : Expr → Expr
  | .Call _ (e :: _) _ _ => e
  | e => e
noncomputable def rowScope : Scope := lcS (arg0 (stV (nth (stB lawD) 2)))
noncomputable def rowOf (c : Call) : Str := rowS c.1 c.2
set_option maxRecDepth 100000 in
set_option maxHeartbeats 8000000 in
theorem rowsK (w : World) {p : Program} {loose : List Str} {mean : ExcName → Option Value} {mg mb : Str → Option Value} {g : Heap} {L fa : Addr} {cd : Value} {s : Shared} {m : Str → Option Value} {news : Led} {E : Value → Shared → Prop} {Q : Value → Shared → Prop}
    {iter : Expr} {la : Addr} {k : Nat} {vs : List Value} {cs : List Call} {q1 q2 q3 q4 q5 q6 q7 q8 q9 q10 q11 q12 q13 : Pos}
    (B : Below callerA g [] g) (F : Fr g L s.heap m) (X : (hd.heap_39 w.params).In g) (N : News g L s.heap news) (T : Top p loose mean mg mb g)
    (hi : ∀ Q' E' : Value → Shared → Prop, Q' (.ref la) s → wpAny (model PySem.Challenge.rw_ny0043_01.row.prog w) (callerA.deeper (lawE L fa cd)) (eval iter (lawE L fa cd)) Q' E' s)
    (hfs : ∀ x, foldedSetIterable iter (lawE L fa cd) x = pure x)
    (hla : (la, lsO vs k) ∈ news) (hD : DatAll news vs (cs.map callD)) (hok : ∀ c ∈ cs, CallOk c) (hlen : cs.length ≤ 100)
    (h : ∀ D h' tk l news', Fr g L h' m → News g L h' ((D, lst (strValues l)) :: news') → (∀ p ∈ news', p.1 ≠ D) → (∀ p ∈ news, p ∈ news') → l.map (·.1) = cs.map rowOf → Q (.ref D) { s with heap := h', toks := tk }) :
    wpAny (model PySem.Challenge.rw_ny0043_01.row.prog w) (callerA.deeper (lawE L fa cd)) (eval (.ListComp
      (.BinOp (.BinOp (.Call (.Name (Str.ofString "str") q1) [.Name (Str.ofString "many") q2] [] q3) .Add (.Constant (.str (Str.ofString " ")) 0 q4) q5) .Add (.Call (.Name (Str.ofString "func_std_string") q6) [.Name (Str.ofString "which") q7] [] q8) q9)
      [⟨.Tuple [.Name (Str.ofString "many") q10, .Name (Str.ofString "which") q11] 0 q12, iter, [], 0⟩] rowScope q13) (lawE L fa cd)) Q E s := by
  revert X
  k_fill
  intro X
  have hvl := datAll_len hD
  rw [List.length_map] at hvl
  refine any_false ?_
  refine comp_gen (cl := []) (by with_unfolding_all rfl) (by decide +kernel) rfl (by decide +kernel) ?_ hfs
  refine hi _ _ ?_
  refine src_list rfl F N hla (by rw [sizeLine_eq]; (first | lia | omega)) (fun i ys n₁ => (∀ p ∈ news, p ∈ n₁) ∧ ∃ l : List (Str × Tok), ys = strValues l ∧ l.map (·.1) = (cs.take i).map rowOf) (fun _ => ⟨fun p hp => hp, [], rfl, rfl⟩) ?turn ?fin
  case turn =>
    rintro I C D hIC hID hCD i v ys n₁ h1 tk oI oC₁ m₁ E' hi' hv ⟨hkp, l, rfl, hl⟩ hk F2 hoC N2 off
    obtain ⟨d, hd1, hd2⟩ := datAll_at hD hv
    rw [List.getElem?_map] at hd1
    obtain ⟨c, hc1, rfl⟩ := Option.map_eq_some_iff.mp hd1
    obtain ⟨Tu, kT, tT, fn, rfl, hTu, Dfn⟩ := pair_of hd2
    have hTI : IsTup h1 Tu #[.int c.1 tT, .ref fn] := ⟨_, (N2 _ (.tail _ (.tail _ (.tail _ (hkp _ hTu))))).1, rfl, _, rfl⟩
    refine cassign_pair rfl hTI rfl rfl rfl F2 hoC N2 off hIC hCD ?_
    clear F2 N2 hoC hTI
    intro h3 oC3 F3 hoC3 N3
    refine wpAny_tests_nil ?_
    rw [if_pos rfl]
    have hm1 : (C, oC3) ∈ (I, oI) :: (C, oC3) :: (D, lst (strValues l)) :: n₁ := .tail _ (.head _)
    have ok := hok c (List.mem_of_getElem? hc1)
    obtain ⟨m3, hm3, hmany, hwhich⟩ : ∃ m3, NsObj oC3 m3 ∧ m3 (Str.ofString "many") = some (.int c.1 tT) ∧ m3 (Str.ofString "which") = some (.ref fn) := ⟨_, hoC3, by rw [if_neg (by decide), if_pos rfl], by rw [if_pos rfl]⟩
    dsimp only [lawE, rowScope, lcS, arg0, stV, stB, stS, lawD, nth, PySem.Challenge.pw_ny0043_01]
    (repeat' ((fail_if_success (first | (with_reducible show wpAny _ _ (call (Value.ref _) _ _) _ _ _) | (with_reducible show wpAny _ _ (pyIter _) _ _ _) | (with_reducible show wpAny _ _ (binaryOp Operator.Add (Value.str _ _) (Value.str _ _)) _ _ _) | (with_reducible show wpAny _ _ (eval (Expr.ListComp _ _ _ _) _) _ _ _))); first | (k_unfold; (try dsimp only)) | (k_end; wrow_close) | walk1 | (dsimp only; walk1)))
    refine PySem.P.str_of_int (log2_lt ok.1) ?_
    (repeat' ((fail_if_success (first | (with_reducible show wpAny _ _ (call (Value.ref _) _ _) _ _ _) | (with_reducible show wpAny _ _ (pyIter _) _ _ _) | (with_reducible show wpAny _ _ (binaryOp Operator.Add (Value.str _ _) (Value.str _ _)) _ _ _) | (with_reducible show wpAny _ _ (eval (Expr.ListComp _ _ _ _) _) _ _ _))); first | (k_unfold; (try dsimp only)) | (k_end; wrow_close) | walk1 | (dsimp only; walk1)))
    have hl1 : (Str.ofString (toString c.1)).length ≤ 21 := tx_len ok.1
    have hl2 : (Str.ofString " ").length = 1 := rfl
    refine SB.add ?_ (by rw [sizeLine_eq]; (first | lia | omega))
    intro t4 k4
    (repeat' ((fail_if_success (first | (with_reducible show wpAny _ _ (call (Value.ref _) _ _) _ _ _) | (with_reducible show wpAny _ _ (pyIter _) _ _ _) | (with_reducible show wpAny _ _ (binaryOp Operator.Add (Value.str _ _) (Value.str _ _)) _ _ _) | (with_reducible show wpAny _ _ (eval (Expr.ListComp _ _ _ _) _) _ _ _))); first | (k_unfold; (try dsimp only)) | (k_end; wrow_close) | walk1 | (dsimp only; walk1)))
    refine stdK w ok.2.ok _ _ _ _ _ _ _ _ _ _ _ _ _ _ _ _ _ _ _ _ _ _ _ B F3 X N3 T rfl (by ktr_room) (by ktr_units) (Dfn.mono fun p hp => .tail _ (.tail _ (.tail _ (hkp p hp)))) ?_
    rintro r _ h5 tk5 F5 N5 ⟨rfl, t5, rfl⟩
    (repeat' ((fail_if_success (first | (with_reducible show wpAny _ _ (call (Value.ref _) _ _) _ _ _) | (with_reducible show wpAny _ _ (pyIter _) _ _ _) | (with_reducible show wpAny _ _ (binaryOp Operator.Add (Value.str _ _) (Value.str _ _)) _ _ _) | (with_reducible show wpAny _ _ (eval (Expr.ListComp _ _ _ _) _) _ _ _))); first | (k_unfold; (try dsimp only)) | (k_end; wrow_close) | walk1 | (dsimp only; walk1)))
    have hl3 := std_len ok.2.ok
    refine SB.add ?_ (by rw [PySem.Str.length_append, sizeLine_eq]; (first | lia | omega))
    intro t6 k6
    show CEnd _ _ _ _ _ _ _ _ _ _ _ _
    refine ⟨h5, _, oC3, m3, n₁, rfl, F5, hm3, N5, off, hk, hkp, l ++ [(rowOf c, t6)], by simp [strValues]; rfl, ?_⟩
    rw [List.map_append, hl, List.take_add_one, hc1, List.map_append]
    rfl
  case fin =>
    rintro D h2 tk ys n₁ F2 N2 off ⟨hkp, l, rfl, hl⟩
    rw [List.take_of_length_le (by (first | lia | omega))] at hl
    exact h D h2 tk l n₁ F2 N2 off hkp hl
end Mine
end

/-! ## LGood -/
section
theorem Mine.startLGood : True := by
  w_top off
  trivial
open PySem PySem.W PyProof.Rows PySem.Calls PySem.Spec
set_option Elab.async false
namespace Mine
theorem join_chars (l : List Str) : (Txt.join (Str.ofString "") l).cps.toList = (l.map fun x => x.cps.toList).flatten := by
  show (Builtin.Str.glued (Str.ofString "") l).cps.toList = _
  rw [StrLaws.glued_eq_join]
  induction l with
  | nil => rfl
  | cons x r ih =>
    cases r with
    | nil => simp [Str.join]
    | cons y r =>
      show (x ++ Str.ofString "" ++ Str.join (Str.ofString "") (y :: r)).cps.toList = _
      rw [cps_app, cps_app, ih]
      simp [show (Str.ofString "").cps.toList = [] from rfl]
theorem text_char {n : Int} {ps : List Str} {c : Nat} (h : c ∈ (textS n ps).cps.toList) : ∃ x ∈ ps, c ∈ x.cps.toList := by
  unfold textS at h
  rw [join_chars, List.mem_flatten] at h
  obtain ⟨l, hl, hc⟩ := h
  obtain ⟨x, hx, rfl⟩ := List.mem_map.mp hl
  unfold textL at hx
  obtain ⟨d, _, rfl⟩ := List.mem_map.mp hx
  rw [List.getD_eq_getElem?_getD] at hc
  cases e : ps[d - 48]? with
  | none => rw [e] at hc; simp [Str.empty] at hc
  | some y =>
    rw [e] at hc
    exact ⟨y, List.mem_of_getElem? e, hc⟩
theorem text_len {n : Int} {ps : List Str} (h : ∀ p ∈ ps, p.length ≤ 1) : (textS n ps).length ≤ 4 := by
  rw [len_cps]
  unfold textS
  rw [join_chars, List.length_flatten, List.map_map]
  have h1 : ∀ x ∈ (textL n ps).map (List.length ∘ fun x => x.cps.toList), x ≤ 1 := fun x hx => by
    obtain ⟨y, hy, rfl⟩ := List.mem_map.mp hx
    have := textL_one h y hy
    rw [len_cps] at this
    exact this
  have h2 := sum_le _ h1
  rw [List.length_map] at h2
  have h3 := textL_len n ps
  (first | lia | omega)
theorem files_no : ∀ x ∈ filesL, (∀ c ∈ x.cps.toList, c < 0x110000) ∧ 32 ∉ x.cps.toList ∧ 10 ∉ x.cps.toList := by decide +kernel
theorem names_no : ∀ x ∈ namesL, (∀ c ∈ x.cps.toList, c < 0x110000) ∧ 32 ∉ x.cps.toList ∧ 10 ∉ x.cps.toList ∧ 40 ∉ x.cps.toList ∧ 123 ∉ x.cps.toList ∧ 125 ∉ x.cps.toList := by decide +kernel
theorem strOk_of {x : Str} (h : ∀ c ∈ x.cps.toList, c < 0x110000) : PyData.strOk x = true := by
  unfold PyData.strOk
  rw [← Array.all_toList, List.all_eq_true]
  exact fun c hc => decide_eq_true (h c hc)
theorem fn_good (ns : List Int) (i : Nat) : Good (fnAt ns i) := by
  have hf : ∀ c ∈ (fnAt ns i).1.cps.toList, ∃ x ∈ filesL, c ∈ x.cps.toList := fun c hc => text_char hc
  have hn : ∀ c ∈ (fnAt ns i).2.2.cps.toList, ∃ x ∈ namesL, c ∈ x.cps.toList := fun c hc => text_char hc
  have no1 : ∀ c, (∀ x ∈ filesL, c ∉ x.cps.toList) → c ∉ (fnAt ns i).1.cps.toList := fun c h hc => let ⟨x, hx, h'⟩ := hf c hc; h x hx h'
  have no2 : ∀ c, (∀ x ∈ namesL, c ∉ x.cps.toList) → c ∉ (fnAt ns i).2.2.cps.toList := fun c h hc => let ⟨x, hx, h'⟩ := hn c hc; h x hx h'
  refine ⟨⟨strOk_of fun c hc => ?_, strOk_of fun c hc => ?_, ?_, ?_, cutI_lt _⟩, ?_, ?_, ?_, ?_, ?_, ?_, ?_⟩
  · obtain ⟨x, hx, h⟩ := hf c hc
    exact (files_no x hx).1 c h
  · obtain ⟨x, hx, h⟩ := hn c hc
    exact (names_no x hx).1 c h
  · exact Nat.le_trans (text_len filesL_one) (by decide)
  · exact Nat.le_trans (text_len namesL_one) (by decide)
  · exact no1 _ fun x hx => (files_no x hx).2.1
  · exact no1 _ fun x hx => (files_no x hx).2.2
  · exact no2 _ fun x hx => (names_no x hx).2.1
  · exact no2 _ fun x hx => (names_no x hx).2.2.1
  · exact no2 _ fun x hx => (names_no x hx).2.2.2.1
  · exact no2 _ fun x hx => (names_no x hx).2.2.2.2.1
  · exact no2 _ fun x hx => (names_no x hx).2.2.2.2.2
theorem above_ok (ns : List Int) (q : Nat) : ∀ c ∈ aboveL ns q, CallOk c := fun c hc => by
  obtain ⟨i, _, rfl⟩ := List.mem_map.mp hc
  exact ⟨cutI_lt _, fn_good ns i⟩
theorem below_ok (ns : List Int) (q : Nat) : ∀ c ∈ (belowU ns q).reverse, CallOk c := fun c hc => by
  obtain ⟨i, _, rfl⟩ := List.mem_map.mp (List.mem_reverse.mp hc)
  exact ⟨cutI_lt _, fn_good ns i⟩
theorem above_len (ns : List Int) (q : Nat) : (aboveL ns q).length = q := by unfold aboveL; rw [List.length_map, List.length_range]
theorem below_len (ns : List Int) (q : Nat) : (belowU ns q).reverse.length = q - 1 := by unfold belowU; rw [List.length_reverse, List.length_map, List.length_drop, List.length_range]
theorem rows_join (cs : List Call) : (Txt.join (Str.ofString "\n") (cs.map rowOf)).cps.toList = joinC (cs.map rowC) := by
  show (Builtin.Str.glued (Str.ofString "\n") (cs.map rowOf)).cps.toList = _
  cases cs with
  | nil => rfl
  | cons c cs =>
    unfold Builtin.Str.glued
    show ((cs.map rowOf).foldl (fun acc p => acc ++ (Str.ofString "\n").cps ++ p.cps) (rowOf c).cps).toList = (cs.map rowC).foldl (fun acc b => acc ++ 10 :: b) (rowC c)
    have : ∀ (a : Array Nat) (l : List Nat), a.toList = l → ((cs.map rowOf).foldl (fun acc p => acc ++ (Str.ofString "\n").cps ++ p.cps) a).toList = (cs.map rowC).foldl (fun acc b => acc ++ 10 :: b) l := by
      induction cs with
      | nil => intro a l h; exact h
      | cons d cs ih =>
        intro a l h
        rw [List.map_cons, List.foldl_cons, List.map_cons, List.foldl_cons]
        refine ih _ _ ?_
        rw [Array.toList_append, Array.toList_append, h, show (Str.ofString "\n").cps.toList = [10] from rfl, List.append_assoc]
        rfl
    exact this _ _ rfl
theorem joinC_app : ∀ (b a : List (List Nat)), a ≠ [] → b ≠ [] → joinC (a ++ b) = joinC a ++ 10 :: joinC b := by
  intro b
  induction b with
  | nil => intro a _ h; exact absurd rfl h
  | cons y b ih =>
    intro a ha _
    rw [show a ++ y :: b = (a ++ [y]) ++ b by simp]
    by_cases hb : b = []
    · subst hb
      rw [List.append_nil, joinC_snoc, if_neg ha]; rfl
    · rw [ih (a ++ [y]) (by simp) hb, joinC_snoc, if_neg ha, show y :: b = [y] ++ b from rfl, ih [y] (by simp) hb]
      simp [joinC]
theorem joinC_len (B : Nat) : ∀ l : List (List Nat), (∀ x ∈ l, x.length ≤ B) → (joinC l).length ≤ (B + 1) * l.length := by
  intro l
  cases l with
  | nil => intro _; simp [joinC]
  | cons a r =>
    intro h
    show (r.foldl (fun acc b => acc ++ 10 :: b) a).length ≤ _
    have : ∀ (r : List (List Nat)) (acc : List Nat), (∀ x ∈ r, x.length ≤ B) → (r.foldl (fun acc b => acc ++ 10 :: b) acc).length ≤ acc.length + (B + 1) * r.length := by
      intro r
      induction r with
      | nil => intro acc _; simp
      | cons b r ih =>
        intro acc h
        rw [List.foldl_cons]
        refine Nat.le_trans (ih _ fun x hx => h x (.tail _ hx)) ?_
        have h1 := h b (.head _)
        rw [List.length_append, List.length_cons, List.length_cons, Nat.mul_add]
        (first | lia | omega)
    have h1 := this r a fun x hx => h x (.tail _ hx)
    have h2 := h a (.head _)
    rw [List.length_cons, Nat.mul_add]
    (first | lia | omega)
end Mine
end

/-! ## LLst -/
section
theorem Mine.startLLst : True := by
  w_top off
  trivial
open PySem PySem.W PyProof.Rows PySem.Calls PySem.Spec
set_option Elab.async false
namespace Mine
theorem pick_first (items : Array Value) (b : Nat) : slicePick items none (some (b : Int)) none = (items.toList.take b).toArray := by
  by_cases h : b ≤ items.size
  · have e : sliceBounds none (some (b : Int)) none items.size = sliceBounds (some ((0 : Nat) : Int)) (some (b : Int)) none items.size := by
      simp only [sliceBounds, Option.getD_none]
      have h2 : ¬ ((b : Int) < 0) := by (first | lia | omega)
      simp only [h2, if_false, show (1 : Int) > 0 by decide, if_true]
      congr 1
    have := slicePick_run items 0 b h (Nat.zero_le _)
    unfold slicePick at this ⊢
    rw [e, this]; simp
  · have e : sliceBounds none (some (b : Int)) none items.size = sliceBounds (some ((0 : Nat) : Int)) (some ((items.size : Nat) : Int)) none items.size := by
      simp only [sliceBounds, Option.getD_none]
      have h2 : ¬ ((b : Int) < 0) := by (first | lia | omega)
      have h3 : ¬ (((items.size : Nat) : Int) < 0) := by (first | lia | omega)
      simp only [h2, h3, if_false, show (1 : Int) > 0 by decide, if_true]
      congr 1
      · congr 1
        (first | lia | omega)
    have := slicePick_run items 0 items.size (Nat.le_refl _) (Nat.zero_le _)
    unfold slicePick at this ⊢
    rw [e, this]
    rw [List.take_of_length_le (by simp), List.take_of_length_le (by simp; (first | lia | omega))]; simp
section
variable {prog : Program} {w : World} {A : Around} {E : Value → Shared → Prop} {s : Shared} {h₀ : Heap} {L : Addr} {m : Str → Option Value} {news : Led}
theorem News.isL {h : Heap} {l : Addr} {vs : List Value} {k : Nat} (N : News h₀ L h news) (hm : (l, lsO vs k) ∈ news) : h.IsList l vs.toArray := ⟨_, (N _ hm).1, rfl, _, rfl⟩
theorem lst_add {a b : Addr} {vs ws : List Value} {j k : Nat} {Q : Value → Shared → Prop} (F : Fr h₀ L s.heap m) (N : News h₀ L s.heap news) (ha : (a, lsO vs j) ∈ news) (hb : (b, lsO ws k) ∈ news) (hz : vs.length + ws.length ≤ 1000)
    (h : ∀ D h', Fr h₀ L h' m → News h₀ L h' ((D, lsO (vs ++ ws) 0) :: news) → (∀ p ∈ news, p.1 < D) → Q (.ref D) { s with heap := h' }) :
    wpAny (model prog w) A (binaryOp .Add (.ref a) (.ref b)) Q E s :=
  add_lists (hsz := by rw [sizeLine_eq]; (first | lia | omega)) F N (News.isL N ha) (News.isL N hb) fun h' F' N' => h _ h' F' N' fun p hp => Heap.lt_size (N p hp).1
theorem lst_upto {value slice : Expr} {a : Addr} {vs : List Value} {k b : Nat} {u : Tok} {Q : Value → Shared → Prop} (F : Fr h₀ L s.heap m) (N : News h₀ L s.heap news) (ha : (a, lsO vs k) ∈ news) (hz : vs.length ≤ 1000)
    (h : ∀ D h', Fr h₀ L h' m → News h₀ L h' ((D, lsO (vs.take b) 0) :: news) → (∀ p ∈ news, p.1 < D) → Q (.ref D) { s with heap := h' })
    (hs : subscripted slice false (.ref a) (.ref s.heap.objs.size) = operate [.ref s.heap.objs.size, .ref a] (getItem (.ref a) (.ref s.heap.objs.size)))
    (ht : ∀ r, letTemporaryGo value (.ref a) r = pure ()) :
    wpAny (model prog w) A (subscriptTail value slice (.ref a) (.ref s.heap.objs.size)) Q E { s with heap := s.heap.push { cls := .type "slice", data := .fields #[.none, .int b u, .none] } } := by
  refine slice_list F N (News.isL N ha) .none (.int _ _) (fun h' F' N' => ?_) hs ht (by rw [List.size_toArray, sizeLine_eq]; (first | lia | omega))
  rw [pick_first] at N'
  exact h _ h' F' N' fun p hp => Nat.lt_succ_of_lt (Heap.lt_size (N p hp).1)
theorem lst_rev {value slice : Expr} {a : Addr} {vs : List Value} {k : Nat} {u : Tok} {ops : List Value} {Q : Value → Shared → Prop} (F : Fr h₀ L s.heap m) (N : News h₀ L s.heap news) (ha : (a, lsO vs k) ∈ news) (hz : vs.length ≤ 1000)
    (h : ∀ D h', Fr h₀ L h' m → News h₀ L h' ((D, lsO vs.reverse 0) :: news) → (∀ p ∈ news, p.1 < D) → Q (.ref D) { s with heap := h' })
    (hs : subscripted slice false (.ref a) (.ref s.heap.objs.size) = operate ops (getItem (.ref a) (.ref s.heap.objs.size)))
    (ht : ∀ r, letTemporaryGo value (.ref a) r = pure ()) :
    wpAny (model prog w) A (subscriptTail value slice (.ref a) (.ref s.heap.objs.size)) Q E { s with heap := s.heap.push { cls := .type "slice", data := .fields #[.none, .none, .int (-1) u] } } :=
  krv_lit F N (News.isL N ha) (.int _ _) rfl h hs ht (by rw [List.size_toArray, sizeLine_eq]; (first | lia | omega))
theorem seq_same {h : Heap} {a : Addr} {c c' : Value} {vs ws : List Value} {j k : Nat} (N : News h₀ L h news) (h1 : (a, ({ cls := c, data := .seq vs.toArray j } : Obj)) ∈ news) (h2 : (a, ({ cls := c', data := .seq ws.toArray k } : Obj)) ∈ news) : c = c' ∧ vs = ws := by
  have e := Option.some.inj ((N _ h1).1.symm.trans (N _ h2).1)
  injection e with e1 e2 e3 e4
  injection e3 with e3 e5
  exact ⟨e1, by simpa using congrArg Array.toList e3⟩
mutual
theorem dat_fun {h : Heap} (N : News h₀ L h news) : ∀ {v : Value} {d e : Dat}, DatIn news v d → DatIn news v e → d = e
  | _, _, _, .none, h => by cases h; rfl
  | _, _, _, .bool _, h => by cases h; rfl
  | _, _, _, .int _ _, h => by cases h; rfl
  | _, _, _, .str _ _, h => by cases h; rfl
  | _, _, _, .bytes _ _, h => by cases h; rfl
  | _, _, _, .tuple h1 r1, h => by
    cases h with
    | tuple h2 r2 =>
      obtain ⟨_, e⟩ := seq_same N h1 h2
      subst e
      rw [dats_fun N r1 r2]
    | list h2 _ => exact absurd (seq_same N h1 h2).1 (by decide)
  | _, _, _, .list h1 r1, h => by
    cases h with
    | tuple h2 _ => exact absurd (seq_same N h1 h2).1 (by decide)
    | list h2 r2 =>
      obtain ⟨_, e⟩ := seq_same N h1 h2
      subst e
      rw [dats_fun N r1 r2]
theorem dats_fun {h : Heap} (N : News h₀ L h news) : ∀ {vs : List Value} {ds es : List Dat}, DatAll news vs ds → DatAll news vs es → ds = es
  | _, _, _, .nil, h => by cases h; rfl
  | _, _, _, .cons h1 r1, h => by
    cases h with
    | cons h2 r2 => rw [dat_fun N h1 h2, dats_fun N r1 r2]
end
theorem dats_mem : ∀ {vs : List Value} {ds : List Dat}, DatAll news vs ds → ∀ y ∈ vs, ∃ e ∈ ds, DatIn news y e
  | _, _, .nil, _, hy => nomatch hy
  | _, _, .cons h1 r, y, hy => by
    rcases List.mem_cons.mp hy with rfl | hy
    · exact ⟨_, .head _, h1⟩
    · obtain ⟨e, he, h⟩ := dats_mem r y hy
      exact ⟨e, .tail _ he, h⟩
theorem dats_mem' : ∀ {vs : List Value} {ds : List Dat}, DatAll news vs ds → ∀ e ∈ ds, ∃ y ∈ vs, DatIn news y e
  | _, _, .nil, _, hy => nomatch hy
  | _, _, .cons h1 r, e, he => by
    rcases List.mem_cons.mp he with rfl | he
    · exact ⟨_, .head _, h1⟩
    · obtain ⟨y, hy, h⟩ := dats_mem' r e he
      exact ⟨y, .tail _ hy, h⟩
open Classical in
/-- «not in» a list of data -/
theorem lst_notin {v : Value} {a : Addr} {vs : List Value} {ds : List Dat} {d : Dat} {k : Nat} {Q : Value → Shared → Prop} (N : News h₀ L s.heap news) (ha : (a, lsO vs k) ∈ news) (Dv : DatIn news v d) (Ds : DatAll news vs ds)
    (o1 : kqdOk 8 d = true) (o2 : ∀ e ∈ ds, kqdOk 8 e = true) (hu : A.units + 80 < cLine) (h : ∀ b : Bool, (b = true ↔ d ∉ ds) → Q (.bool b) s) : wpAny (model prog w) A (compareOp .NotIn v (.ref a)) Q E s := by
  obtain ⟨as, ra⟩ := kqd_in N 8 Dv o1
  have hu' : A.in1.units + 64 < cLine := by
    have : A.in1.units ≤ A.units + 1 := Nat.le_refl _
    (first | lia | omega)
  have one : ∀ y ∈ vs, SeqAt.EqAt A.in1 s y v (decide (DatIn news y d)) := fun y hy => by
    obtain ⟨e, he, hye⟩ := dats_mem Ds y hy
    have oe := o2 e he
    obtain ⟨bs, rb⟩ := kqd_in N 8 hye oe
    have s1 := kqd_shaped (n := 8) (by decide) oe
    have s2 := kqd_shaped (n := 8) (by decide) o1
    have q := SeqAt.eqAt_reads _ _ _ _ _ _ _ _ rb ra (SeqAt.canLay_of_shaped s1) (SeqAt.canLay_of_shaped s2) (SeqAt.room_of_shaped s1 hu')
    have e1 : PyData.eqv (kqdP e) (kqdP d) = decide (DatIn news y d) := by
      rw [Bool.eq_iff_iff, kqd_eqv 8 e d 8 oe o1, decide_eq_true_eq]
      exact ⟨fun z => z ▸ hye, fun z => dat_fun N hye z⟩
    rw [← e1]; exact q
  refine SeqAt.notIn_listAt (fun y => decide (DatIn news y d)) (News.isL N ha) (fun y hy => one y (by simpa using hy)) (h _ ?_)
  rw [← Array.any_toList, show vs.toArray.toList = vs from rfl, Bool.not_eq_true', ← Bool.not_eq_true]
  refine not_congr ?_
  rw [List.any_eq_true]
  constructor
  · rintro ⟨y, hy, hd⟩
    obtain ⟨e, he, hye⟩ := dats_mem Ds y hy
    exact dat_fun N hye (of_decide_eq_true hd) ▸ he
  · intro hd
    obtain ⟨y, hy, hyd⟩ := dats_mem' Ds d hd
    exact ⟨y, hy, decide_eq_true hyd⟩
end
end Mine
end

/-! ## LCellK -/
section
theorem Mine.startLCellK : True := by
  w_top off
  trivial
open PySem PySem.W PyProof.Rows PySem.Calls PySem.Spec
set_option Elab.async false
namespace Mine
theorem ints_pairs {vs : List Value} {ns : List Int} (h : IntsAre vs ns) : ∃ ps : List (Int × Tok), vs = ps.map (fun p => Value.int p.1 p.2) ∧ ps.map (·.1) = ns := by
  induction h with
  | nil => exact ⟨[], rfl, rfl⟩
  | cons n t _ ih =>
    obtain ⟨ps, h1, h2⟩ := ih
    exact ⟨(n, t) :: ps, by rw [h1]; rfl, by rw [← h2]; rfl⟩
theorem rep_one (v : Value) : ∀ n : Nat, List.foldl (fun x1 x2 => x1 ++ x2) #[] (List.replicate (if (#[v] : Array Value).isEmpty = true then 0 else n) #[v]) = (List.replicate n v).toArray := by
  have key : ∀ (n : Nat) (a : Array Value), List.foldl (fun x1 x2 => x1 ++ x2) a (List.replicate n #[v]) = a ++ (List.replicate n v).toArray := by
    intro n
    induction n with
    | zero => intro a; simp
    | succ n ih =>
      intro a
      rw [List.replicate_succ, List.foldl_cons, ih, List.replicate_succ]
      apply Array.toList_inj.mp
      simp
  intro n
  have e : (if (#[v] : Array Value).isEmpty = true then 0 else n) = n := if_neg (by simp)
  rw [e, key]
  simp
/-- what data is made of is kept -/
noncomputable abbrev KeepSeq (news news' : Led) : Prop := ∀ p ∈ news, (p.2.cls = .type "tuple" ∨ p.2.cls = .type "list") → (∃ xs n, p.2.data = .seq xs n) → p ∈ news'
mutual
theorem dat_keep {news news' : Led} (hs : KeepSeq news news') : ∀ {v : Value} {d : Dat}, DatIn news v d → DatIn news' v d
  | _, _, .none => .none
  | _, _, .bool b => .bool b
  | _, _, .int i t => .int i t
  | _, _, .str x t => .str x t
  | _, _, .bytes b t => .bytes b t
  | _, _, .tuple h r => .tuple (hs _ h (.inl rfl) ⟨_, _, rfl⟩) (dats_keep hs r)
  | _, _, .list h r => .list (hs _ h (.inr rfl) ⟨_, _, rfl⟩) (dats_keep hs r)
theorem dats_keep {news news' : Led} (hs : KeepSeq news news') : ∀ {vs : List Value} {ds : List Dat}, DatAll news vs ds → DatAll news' vs ds
  | _, _, .nil => .nil
  | _, _, .cons h r => .cons (dat_keep hs h) (dats_keep hs r)
end
theorem KeepNT.seq {news news' : Led} (k : KeepNT news news') : KeepSeq news news' := fun p hp hc _ => k p hp (nt_cls (by rcases hc with h | h <;> rw [h] <;> exact fun z => nomatch z))
/-- a cell that holds a list of calls -/
inductive CellL (news : Led) (c : Addr) (cs : List Call) : Prop
  | mk (o a vs k) (h1 : (c, o) ∈ news) (h2 : o.data = .cell (some (.ref a))) (h3 : (a, lsO vs k) ∈ news) (h4 : DatAll news vs (cs.map callD)) : CellL news c cs
theorem CellL.nt {news news' : Led} {c : Addr} {cs : List Call} (x : CellL news c cs) (k : KeepNT news news') : CellL news' c cs := by
  obtain ⟨o, a, vs, n, h1, h2, h3, h4⟩ := x
  exact ⟨o, a, vs, n, k _ h1 (nt_cell h2), h2, k _ h3 (nt_cls fun z => nomatch z), dats_keep k.seq h4⟩
theorem CellL.mono {news news' : Led} {c : Addr} {cs : List Call} (x : CellL news c cs) (k : ∀ p ∈ news, p ∈ news') : CellL news' c cs := x.nt fun p hp _ => k p hp
theorem cell_keeps {h₀ h : Heap} {L c : Addr} {o : Obj} {v : Option Value} {news news' : Led} (N : News h₀ L h news) (hc : (c, o) ∈ news) (hd : o.data = .cell v) (k : ∀ p ∈ news, p.1 ≠ c → p ∈ news') : ∀ p ∈ news, (∀ v, p.2.data ≠ .cell v) → p ∈ news' :=
  fun p hp hcl => k p hp fun e => by
    have z := (N _ hp).1
    rw [e, (N _ hc).1] at z
    exact hcl v (Option.some.inj z ▸ hd)
theorem CellL.cell {h₀ h : Heap} {L c c' : Addr} {o : Obj} {v : Option Value} {news news' : Led} {cs : List Call} (x : CellL news c' cs) (N : News h₀ L h news) (hc : (c, o) ∈ news) (hd : o.data = .cell v) (k : ∀ p ∈ news, p.1 ≠ c → p ∈ news') (hne : c' ≠ c) : CellL news' c' cs := by
  have k' := cell_keeps N hc hd k
  obtain ⟨o, a, vs, n, h1, h2, h3, h4⟩ := x
  exact ⟨o, a, vs, n, k _ h1 hne, h2, k' _ h3 (fun _ z => nomatch z), dats_keep (fun p hp _ hs => k' p hp fun v z => by obtain ⟨xs, n, e⟩ := hs; rw [e] at z; cases z) h4⟩
theorem cell_seq {h₀ h : Heap} {L c : Addr} {o : Obj} {v : Option Value} {news news' : Led} (N : News h₀ L h news) (hc : (c, o) ∈ news) (hd : o.data = .cell v) (k : ∀ p ∈ news, p.1 ≠ c → p ∈ news') : KeepSeq news news' :=
  fun p hp _ hs => cell_keeps N hc hd k p hp fun v z => by obtain ⟨xs, n, e⟩ := hs; rw [e] at z; cases z
theorem CellL.new {news : Led} {c : Addr} {o : Obj} {v : Value} {cs : List Call} (h1 : (c, o) ∈ news) (h2 : o.data = .cell (some v)) (D : DatIn news v (.list (cs.map callD))) : CellL news c cs := by
  generalize hd : Dat.list (cs.map callD) = d at D
  cases D with
  | list h r =>
    injection hd with hd
    subst hd
    exact ⟨o, _, _, _, h1, h2, h, r⟩
  | _ => cases hd
theorem tabs_new {news : Led} (h : (70, tabObj #[]) ∈ news) : Tabs news := ⟨#[], h, trivial, .inl rfl, .inl rfl⟩
end Mine
end

/-! ## LLaw1 -/
section
theorem Mine.startLLaw1 : True := by
  w_top off
  trivial
open PySem PySem.W PyProof.Rows PySem.Calls PySem.Spec
set_option Elab.async false
namespace Mine
noncomputable def m0 (sa : Addr) : Str → Option Value := fun y => List.lookup y [(Str.ofString "script", Value.ref sa)]
theorem ns_facts {d x n : Nat} (hd : d ≤ 6) (hx : x ≤ 2) (h3 : (d + x) % 3 = 0) (hn : n = d + x + 9) : n = 3 * (n / 3) ∧ 1 ≤ n / 3 ∧ n / 3 ≤ 5 ∧ 3 ≤ n / 3 := by (first | lia | omega)
set_option maxRecDepth 100000 in
set_option maxHeartbeats 8000000 in
theorem lawA (w : World) {p : Program} {loose : List Str} {mean : ExcName → Option Value} {mg mb : Str → Option Value} {g : Heap} {L fa sa : Addr} {cd : Value} {s : Shared} {E : Value → Shared → Prop} {Q : Flow → Shared → Prop}
    {c1 c2 c3 : Obj} {vs : List Value} {ns : List Int}
    (B : Below callerA g [] g) (F : Fr g L s.heap (m0 sa)) (X : (hd.heap_39 w.params).In g) (N : News g L s.heap [(L + 3, c3), (L + 2, c2), (L + 1, c1), (70, tabObj #[])]) (T : Top p loose mean mg mb g)
    (h1 : c1.data = .cell none) (h2 : c2.data = .cell none) (h3 : c3.data = .cell none) (hL : g.IsList sa vs.toArray) (hI : IntsAre vs ns) (hlen : ns.length ≤ 63)
    (hnext : ∀ (up lo : List Call) D h' tk news', Fr g L h' (fun y => if y = Str.ofString "drawn" then some (Value.ref D) else m0 sa y) → News g L h' news' → CellL news' (L + 1) up → CellL news' (L + 2) lo → (L + 3, c3) ∈ news' → Tabs news' →
      (∀ c ∈ up, CallOk c) → (∀ c ∈ lo, CallOk c) → up ≠ [] → lo ≠ [] → up.length ≤ 5 ∧ lo.length ≤ 5 →
      wpAny (model PySem.Challenge.rw_ny0043_01.row.prog w) (callerA.deeper (lawE L fa cd)) (execs ((stB lawD).drop 2) (lawE L fa cd)) Q (fun _ _ => False) { s with heap := h', toks := tk }) :
    wpAny (model PySem.Challenge.rw_ny0043_01.row.prog w) (callerA.deeper (lawE L fa cd)) (execs (stB lawD) (lawE L fa cd)) Q E s := by
  revert X
  k_fill
  intro X
  refine any_false ?_
  dsimp only [lawE, stB, stS, lawD, nth, PySem.Challenge.pw_ny0043_01]
  unfold m0 at F hnext
  dsimp only [lawE, stB, stS, lawD, nth, PySem.Challenge.pw_ny0043_01, List.drop] at hnext
  (repeat' ((fail_if_success (first | (with_reducible show wpAny _ _ (call (Value.ref _) _ _) _ _ _) | (with_reducible show wpAny _ _ (pyIter _) _ _ _) | (with_reducible show wpAny _ _ (binaryOp Operator.Add (Value.ref _) (Value.ref _)) _ _ _) | (with_reducible show wpAny _ _ (binaryOp Operator.Mult (Value.ref _) _) _ _ _) | (with_reducible show wpAny _ _ (call (Value.builtin "len") _ _) _ _ _) | (with_reducible show wpAny _ _ (subscriptTail _ _ (Value.ref _) _) _ _ _) | (with_reducible show wpAny _ _ (storeName _ (Str.ofString "above") _) _ _ _) | (with_reducible show wpAny _ _ (storeName _ (Str.ofString "below") _) _ _ _) | (with_reducible show wpAny _ _ (storeName _ (Str.ofString "met") _) _ _ _) | (with_reducible show wpAny _ _ (eval (Expr.ListComp _ _ _ _) _) _ _ _))); first | (k_unfold; (try dsimp only)) | (k_end; wrow_close) | (dsimp only; walk1) | walk1))
  obtain ⟨ps, rfl, hps⟩ := ints_pairs hI
  have hpl : ps.length ≤ 63 := by have := congrArg List.length hps; rw [List.length_map] at this; (first | lia | omega)
  refine slice_list (hi := some ((6 : Nat) : Int)) F N (F.lst hL) .none (.int _ _) ?_ (by with_unfolding_all rfl) (by intro _; with_unfolding_all rfl) (by rw [List.size_toArray, List.length_map, sizeLine_eq]; (first | lia | omega))
  intro h5 F5 N5
  try refine ckpt (g := s.gens) (d := s.drawn) (o := s.os) fun tk69q => ?_
  rw [pick_first] at N5
  obtain ⟨dr, hdr⟩ : ∃ dr, dr = ps.take 6 := ⟨_, rfl⟩
  have edr : (List.take 6 (List.map (fun p : Int × Tok => Value.int p.1 p.2) ps).toArray.toList) = dr.map fun p => Value.int p.1 p.2 := by rw [hdr, List.map_take]
  rw [edr] at N5
  have hdl : dr.length ≤ 6 := by rw [hdr, List.length_take]; (first | lia | omega)
  obtain ⟨D0, N5, hD0⟩ : ∃ D0, News g L h5 ((D0, lsO (dr.map fun p => Value.int p.1 p.2) 0) :: [(L + 3, c3), (L + 2, c2), (L + 1, c1), (70, tabObj #[])]) ∧ D0 = s.heap.objs.size + 1 := ⟨_, N5, rfl⟩
  clear edr
  dsimp only
  rw [← hD0]
  clear hD0 F N
  (repeat' ((fail_if_success (first | (with_reducible show wpAny _ _ (call (Value.ref _) _ _) _ _ _) | (with_reducible show wpAny _ _ (pyIter _) _ _ _) | (with_reducible show wpAny _ _ (binaryOp Operator.Add (Value.ref _) (Value.ref _)) _ _ _) | (with_reducible show wpAny _ _ (binaryOp Operator.Mult (Value.ref _) _) _ _ _) | (with_reducible show wpAny _ _ (call (Value.builtin "len") _ _) _ _ _) | (with_reducible show wpAny _ _ (subscriptTail _ _ (Value.ref _) _) _ _ _) | (with_reducible show wpAny _ _ (storeName _ (Str.ofString "above") _) _ _ _) | (with_reducible show wpAny _ _ (storeName _ (Str.ofString "below") _) _ _ _) | (with_reducible show wpAny _ _ (storeName _ (Str.ofString "met") _) _ _ _) | (with_reducible show wpAny _ _ (eval (Expr.ListComp _ _ _ _) _) _ _ _))); first | (k_unfold; (try dsimp only)) | (k_end; wrow_close) | (dsimp only; walk1) | walk1))
  rename Fr g L _ _ => F6
  rename News g L _ _ => N6
  refine len_lst N6 (.tail _ (.head _)) (by rw [List.length_map]; (first | lia | omega)) ?_
  (repeat' ((fail_if_success (first | (with_reducible show wpAny _ _ (call (Value.ref _) _ _) _ _ _) | (with_reducible show wpAny _ _ (pyIter _) _ _ _) | (with_reducible show wpAny _ _ (binaryOp Operator.Add (Value.ref _) (Value.ref _)) _ _ _) | (with_reducible show wpAny _ _ (binaryOp Operator.Mult (Value.ref _) _) _ _ _) | (with_reducible show wpAny _ _ (call (Value.builtin "len") _ _) _ _ _) | (with_reducible show wpAny _ _ (subscriptTail _ _ (Value.ref _) _) _ _ _) | (with_reducible show wpAny _ _ (storeName _ (Str.ofString "above") _) _ _ _) | (with_reducible show wpAny _ _ (storeName _ (Str.ofString "below") _) _ _ _) | (with_reducible show wpAny _ _ (storeName _ (Str.ofString "met") _) _ _ _) | (with_reducible show wpAny _ _ (eval (Expr.ListComp _ _ _ _) _) _ _ _))); first | (k_unfold; (try dsimp only)) | (k_end; wrow_close) | (dsimp only; walk1) | walk1))
  dsimp only
  have ex : ∃ x : Nat, x ≤ 2 ∧ (-((dr.map fun p => Value.int p.1 p.2).length : Int)).fmod 3 = (x : Int) ∧ (dr.length + x) % 3 = 0 := by
    rw [List.length_map, Int.fmod_eq_emod_of_nonneg _ (by decide)]
    refine ⟨((-(dr.length : Int)) % 3).toNat, ?_, ?_, ?_⟩ <;> (first | lia | omega)
  obtain ⟨x, hx2, hx, hx3⟩ := ex
  rw [hx]
  refine mul_list F6 N6 (N6 _ (.head _)).1 (by (first | lia | omega)) (by (first | lia | omega)) (by simp; (first | lia | omega)) ?_
  intro h7 F7 N7
  try refine ckpt (g := s.gens) (d := s.drawn) (o := s.os) fun tk70q => ?_
  rw [Int.toNat_natCast, rep_one] at N7
  obtain ⟨tz, N7⟩ : ∃ tz, News g L h7 ((_, lsO ((List.replicate x ((0 : Int), (tz : Tok))).map fun p => Value.int p.1 p.2) 0) :: _) := ⟨_, by rw [List.map_replicate]; exact N7⟩
  clear hx
  generalize hR : (_ : Heap).objs.size = R7 at N7 ⊢
  clear hR
  (repeat' ((fail_if_success (first | (with_reducible show wpAny _ _ (call (Value.ref _) _ _) _ _ _) | (with_reducible show wpAny _ _ (pyIter _) _ _ _) | (with_reducible show wpAny _ _ (binaryOp Operator.Add (Value.ref _) (Value.ref _)) _ _ _) | (with_reducible show wpAny _ _ (binaryOp Operator.Mult (Value.ref _) _) _ _ _) | (with_reducible show wpAny _ _ (call (Value.builtin "len") _ _) _ _ _) | (with_reducible show wpAny _ _ (subscriptTail _ _ (Value.ref _) _) _ _ _) | (with_reducible show wpAny _ _ (storeName _ (Str.ofString "above") _) _ _ _) | (with_reducible show wpAny _ _ (storeName _ (Str.ofString "below") _) _ _ _) | (with_reducible show wpAny _ _ (storeName _ (Str.ofString "met") _) _ _ _) | (with_reducible show wpAny _ _ (eval (Expr.ListComp _ _ _ _) _) _ _ _))); first | (k_unfold; (try dsimp only)) | (k_end; wrow_close) | (dsimp only; walk1) | walk1))
  refine lst_add F7 N7 (.tail _ (.tail _ (.head _))) (.head _) (by rw [List.length_map, List.length_map, List.length_replicate]; (first | lia | omega)) ?_
  rw [← List.map_append]
  intro D8 h8 F8 N8 l8
  try refine ckpt (g := s.gens) (d := s.drawn) (o := s.os) fun tk71q => ?_
  clear F7 F6
  (repeat' ((fail_if_success (first | (with_reducible show wpAny _ _ (call (Value.ref _) _ _) _ _ _) | (with_reducible show wpAny _ _ (pyIter _) _ _ _) | (with_reducible show wpAny _ _ (binaryOp Operator.Add (Value.ref _) (Value.ref _)) _ _ _) | (with_reducible show wpAny _ _ (binaryOp Operator.Mult (Value.ref _) _) _ _ _) | (with_reducible show wpAny _ _ (call (Value.builtin "len") _ _) _ _ _) | (with_reducible show wpAny _ _ (subscriptTail _ _ (Value.ref _) _) _ _ _) | (with_reducible show wpAny _ _ (storeName _ (Str.ofString "above") _) _ _ _) | (with_reducible show wpAny _ _ (storeName _ (Str.ofString "below") _) _ _ _) | (with_reducible show wpAny _ _ (storeName _ (Str.ofString "met") _) _ _ _) | (with_reducible show wpAny _ _ (eval (Expr.ListComp _ _ _ _) _) _ _ _))); first | (k_unfold; (try dsimp only)) | (k_end; wrow_close) | (dsimp only; walk1) | walk1))
  rename Fr g L _ _ => F9
  rename News g L _ _ => N9
  obtain ⟨tl, htl, DT, N9, hDT⟩ : ∃ tl : List (Int × Tok), tl.map (·.1) = [132, -12, 21, 10000, 0, 314, 50, 0, 16] ∧ ∃ DT, News g L _ ((DT, lsO (tl.map fun p => Value.int p.1 p.2) 0) :: _) ∧ DT = _ := ⟨[(_, _), (_, _), (_, _), (_, _), (_, _), (_, _), (_, _), (_, _), (_, _)], rfl, _, N9, rfl⟩
  rw [← hDT]
  have htn : tl.length = 9 := by have := congrArg List.length htl; rw [List.length_map] at this; exact this
  refine lst_add F9 N9 (.tail _ (.head _)) (.head _) (by rw [List.length_map, List.length_map, List.length_append, List.length_replicate]; (first | lia | omega)) ?_
  rw [← List.map_append]
  intro DA h10 F10 N10 l10
  try refine ckpt (g := s.gens) (d := s.drawn) (o := s.os) fun tk72q => ?_
  obtain ⟨NS, hNS⟩ : ∃ NS, NS = dr ++ List.replicate x ((0 : Int), (tz : Tok)) ++ tl := ⟨_, rfl⟩
  rw [← hNS] at N10
  have hNl : NS.length = dr.length + x + 9 := by rw [hNS, List.length_append, List.length_append, List.length_replicate, htn]
  have hnf := ns_facts hdl hx2 hx3 hNl
  (repeat' ((fail_if_success (first | (with_reducible show wpAny _ _ (call (Value.ref _) _ _) _ _ _) | (with_reducible show wpAny _ _ (pyIter _) _ _ _) | (with_reducible show wpAny _ _ (binaryOp Operator.Add (Value.ref _) (Value.ref _)) _ _ _) | (with_reducible show wpAny _ _ (binaryOp Operator.Mult (Value.ref _) _) _ _ _) | (with_reducible show wpAny _ _ (call (Value.builtin "len") _ _) _ _ _) | (with_reducible show wpAny _ _ (subscriptTail _ _ (Value.ref _) _) _ _ _) | (with_reducible show wpAny _ _ (storeName _ (Str.ofString "above") _) _ _ _) | (with_reducible show wpAny _ _ (storeName _ (Str.ofString "below") _) _ _ _) | (with_reducible show wpAny _ _ (storeName _ (Str.ofString "met") _) _ _ _) | (with_reducible show wpAny _ _ (eval (Expr.ListComp _ _ _ _) _) _ _ _))); first | (k_unfold; (try dsimp only)) | (k_end; wrow_close) | (dsimp only; walk1) | walk1))
  refine callsK w DA NS 0 (NS.length / 3) hnf.1 hnf.2.1 hnf.2.2.1 _ _ _ _ _ _ _ _ _ _ _ _ _ _ _ _ _ _ _ _ _ _ _ B F10 X N10 T rfl (by ktr_room) (by ktr_units) (.head _) ?_
  rintro r n11 h11 tk11 F11 N11 ⟨k11, D11⟩
  try refine ckpt (g := s.gens) (d := s.drawn) (o := s.os) fun tk73q => ?_
  generalize hUp : aboveL (NS.map (·.1)) (NS.length / 3) = up at D11
  generalize hLo : (belowU (NS.map (·.1)) (NS.length / 3)).reverse = lo at D11
  obtain ⟨TP, vA, vB, rfl, hTP, DU, DL⟩ : ∃ TP vA vB, r = .ref TP ∧ (∃ k, (TP, tupO [vA, vB] k) ∈ n11) ∧ DatIn n11 vA (.list (up.map callD)) ∧ DatIn n11 vB (.list (lo.map callD)) := by
    cases D11 with
    | tuple hm r => cases r with
      | cons d1 r => cases r with
        | cons d2 r => cases r with
          | nil => exact ⟨_, _, _, rfl, ⟨_, hm⟩, d1, d2⟩
  obtain ⟨kT, hTP⟩ := hTP
  (repeat' ((fail_if_success (first | (with_reducible show wpAny _ _ (call (Value.ref _) _ _) _ _ _) | (with_reducible show wpAny _ _ (pyIter _) _ _ _) | (with_reducible show wpAny _ _ (binaryOp Operator.Add (Value.ref _) (Value.ref _)) _ _ _) | (with_reducible show wpAny _ _ (binaryOp Operator.Mult (Value.ref _) _) _ _ _) | (with_reducible show wpAny _ _ (call (Value.builtin "len") _ _) _ _ _) | (with_reducible show wpAny _ _ (subscriptTail _ _ (Value.ref _) _) _ _ _) | (with_reducible show wpAny _ _ (storeName _ (Str.ofString "above") _) _ _ _) | (with_reducible show wpAny _ _ (storeName _ (Str.ofString "below") _) _ _ _) | (with_reducible show wpAny _ _ (storeName _ (Str.ofString "met") _) _ _ _) | (with_reducible show wpAny _ _ (eval (Expr.ListComp _ _ _ _) _) _ _ _))); first | (k_unfold; (try dsimp only)) | (k_end; wrow_close) | (dsimp only; walk1) | walk1))
  rename Fr g L _ _ => F12
  rename News g L _ _ => N12
  have hc1 : (L + 1, c1) ∈ n11 := k11 _ (by simp)
  have hc2 : (L + 2, c2) ∈ n11 := k11 _ (by simp)
  have hc3 : (L + 3, c3) ∈ n11 := k11 _ (by simp)
  have ht70 : (70, tabObj #[]) ∈ n11 := k11 _ (by simp)
  refine cell_set (cl := cellsFrom (L + 1) (stS lawD).names []) (c := L + 1) F12 N12 rfl hc1 h1 ?_
  intro h13 o1 n13 F13 N13 ho1 hod1 k13
  try refine ckpt (g := s.gens) (d := s.drawn) (o := s.os) fun tk74q => ?_
  (repeat' ((fail_if_success (first | (with_reducible show wpAny _ _ (call (Value.ref _) _ _) _ _ _) | (with_reducible show wpAny _ _ (pyIter _) _ _ _) | (with_reducible show wpAny _ _ (binaryOp Operator.Add (Value.ref _) (Value.ref _)) _ _ _) | (with_reducible show wpAny _ _ (binaryOp Operator.Mult (Value.ref _) _) _ _ _) | (with_reducible show wpAny _ _ (call (Value.builtin "len") _ _) _ _ _) | (with_reducible show wpAny _ _ (subscriptTail _ _ (Value.ref _) _) _ _ _) | (with_reducible show wpAny _ _ (storeName _ (Str.ofString "above") _) _ _ _) | (with_reducible show wpAny _ _ (storeName _ (Str.ofString "below") _) _ _ _) | (with_reducible show wpAny _ _ (storeName _ (Str.ofString "met") _) _ _ _) | (with_reducible show wpAny _ _ (eval (Expr.ListComp _ _ _ _) _) _ _ _))); first | (k_unfold; (try dsimp only)) | (k_end; wrow_close) | (dsimp only; walk1) | walk1))
  have D13 : DatIn n13 vB (.list (lo.map callD)) := dat_keep (cell_seq N12 hc1 h1 k13) DL
  have C13 : CellL n13 (L + 1) up := .new ho1 hod1 (dat_keep (cell_seq N12 hc1 h1 k13) DU)
  refine cell_set (cl := cellsFrom (L + 1) (stS lawD).names []) (c := L + 2) F13 N13 rfl (k13 _ hc2 (by simp)) h2 ?_
  intro h14 o2 n14 F14 N14 ho2 hod2 k14
  try refine ckpt (g := s.gens) (d := s.drawn) (o := s.os) fun tk75q => ?_
  have hc213 := k13 _ hc2 (by simp)
  have C14 : CellL n14 (L + 1) up := C13.cell N13 hc213 h2 k14 (by simp)
  have C14' : CellL n14 (L + 2) lo := .new ho2 hod2 (dat_keep (cell_seq N13 hc213 h2 k14) D13)
  have hL3 : (L + 3, c3) ∈ n14 := k14 _ (k13 _ hc3 (by simp)) (by simp)
  have ht : (70, tabObj #[]) ∈ n14 := cell_keeps N13 hc213 h2 k14 _ (cell_keeps N12 hc1 h1 k13 _ ht70 (fun _ z => nomatch z)) (fun _ z => nomatch z)
  refine assignInOrder_nil ?_
  have lu : up.length = NS.length / 3 := by rw [← hUp, above_len]
  have ll : lo.length = NS.length / 3 - 1 := by rw [← hLo, below_len]
  generalize NS.length / 3 = q at lu ll hnf
  clear hNl hx3 hx2 hdl hpl
  refine hnext up lo _ _ _ _ F14 N14 C14 C14' hL3 (tabs_new ht) (hUp ▸ above_ok _ _) (hLo ▸ below_ok _ _) ?_ ?_ ⟨lu ▸ hnf.2.2.1, ll ▸ Nat.le_trans (Nat.sub_le _ _) hnf.2.2.1⟩
  · intro e
    rw [e, List.length_nil] at lu
    exact absurd (lu ▸ hnf.2.1) (by decide)
  · intro e
    rw [e, List.length_nil] at ll
    (first | lia | omega)
end Mine
end

/-! ## LLaw2 -/
section
theorem Mine.startLLaw2 : True := by
  w_top off
  trivial
open PySem PySem.W PyProof.Rows PySem.Calls PySem.Spec
set_option Elab.async false
namespace Mine
theorem sum_leB (B : Nat) : ∀ (l : List Nat), (∀ x ∈ l, x ≤ B) → l.sum ≤ B * l.length
  | [], _ => Nat.le_refl _
  | a :: l, h => by
    have h1 := h a (.head _)
    have h2 := sum_leB B l fun x hx => h x (.tail _ hx)
    simp only [List.sum_cons, List.length_cons, Nat.mul_add]
    (first | lia | omega)
theorem rows_ok {cs : List Call} (ok : ∀ c ∈ cs, CallOk c) (hn : cs.length ≤ 5) : JoinOk (Str.ofString "\n") (cs.map rowOf) = true := by
  have h2 := sum_leB 246 ((cs.map rowOf).map (·.length)) fun x hx => by
    obtain ⟨y, hy, rfl⟩ := List.mem_map.mp hx
    obtain ⟨c, hc, rfl⟩ := List.mem_map.mp hy
    exact row_len (ok c hc)
  rw [List.length_map, List.length_map] at h2
  exact joinOk_of_weight (by rw [List.length_map]; (first | lia | omega)) (by decide)
theorem rows_len {cs : List Call} (ok : ∀ c ∈ cs, CallOk c) (hn : cs.length ≤ 5) {U : Str} (h : U.cps.toList = joinC (cs.map rowC)) : U.length ≤ 1235 := by
  rw [len_cps, h]
  have := joinC_len 246 (cs.map rowC) fun x hx => by
    obtain ⟨c, hc, rfl⟩ := List.mem_map.mp hx
    have := row_len (ok c hc)
    rw [len_cps] at this
    exact this
  rw [List.length_map] at this
  (first | lia | omega)
noncomputable abbrev m2 (m : Str → Option Value) (D : Addr) (U W : Str) (tU tW : Tok) (d : Addr) : Str → Option Value := fun y => if y = Str.ofString "both" then some (Value.ref d) else if y = Str.ofString "lower" then some (Value.str W tW) else if y = Str.ofString "upper" then some (Value.str U tU) else if y = Str.ofString "drawn" then some (Value.ref D) else m y
set_option maxRecDepth 100000 in
set_option maxHeartbeats 8000000 in
theorem lawB (w : World) {p : Program} {loose : List Str} {mean : ExcName → Option Value} {mg mb : Str → Option Value} {g : Heap} {L fa sa : Addr} {cd : Value} {s : Shared} {E : Value → Shared → Prop} {Q : Flow → Shared → Prop}
    {c3 : Obj} {news : Led} {up lo : List Call} {D : Addr}
    (B : Below callerA g [] g) (F : Fr g L s.heap (fun y => if y = Str.ofString "drawn" then some (Value.ref D) else m0 sa y)) (X : (hd.heap_39 w.params).In g) (N : News g L s.heap news) (T : Top p loose mean mg mb g)
    (CA : CellL news (L + 1) up) (CB : CellL news (L + 2) lo) (hc3 : (L + 3, c3) ∈ news) (hc3' : c3.data = .cell none) (hT : Tabs news) (oku : ∀ c ∈ up, CallOk c) (okl : ∀ c ∈ lo, CallOk c) (hu : up ≠ []) (hl : lo ≠ []) (hn : up.length ≤ 5 ∧ lo.length ≤ 5)
    (hnext : ∀ d h' tk news' U W tU tW, Fr g L h' (m2 (m0 sa) D U W tU tW d) → News g L h' news' → CellL news' (L + 1) up → CellL news' (L + 2) lo → (L + 3, c3) ∈ news' → Tabs news' → Tbl w news' d (tableOf (up ++ lo)) →
      U.cps.toList = joinC (up.map rowC) → U.length ≤ 1235 → W.cps.toList = joinC (lo.map rowC) → W.length ≤ 1235 →
      wpAny (model PySem.Challenge.rw_ny0043_01.row.prog w) (callerA.deeper (lawE L fa cd)) (execs ((stB lawD).drop 5) (lawE L fa cd)) Q (fun _ _ => False) { s with heap := h', toks := tk }) :
    wpAny (model PySem.Challenge.rw_ny0043_01.row.prog w) (callerA.deeper (lawE L fa cd)) (execs ((stB lawD).drop 2) (lawE L fa cd)) Q E s := by
  revert X
  k_fill
  intro X
  refine any_false ?_
  dsimp only [lawE, stB, stS, lawD, nth, PySem.Challenge.pw_ny0043_01, List.drop]
  unfold m0 at F hnext
  dsimp only [lawE, stB, stS, lawD, nth, PySem.Challenge.pw_ny0043_01, List.drop, m2] at hnext
  (repeat' ((fail_if_success (first | (with_reducible show wpAny _ _ (call (Value.ref _) _ _) _ _ _) | (with_reducible show wpAny _ _ (pyIter _) _ _ _) | (with_reducible show wpAny _ _ (call (Value.builtin "str.join") _ _) _ _ _) | (with_reducible show wpAny _ _ (binaryOp Operator.Add (Value.str _ _) (Value.str _ _)) _ _ _) | (with_reducible show wpAny _ _ (execs (Stmt.Assign [Expr.Name (Str.ofString "met") _] _ _ :: _) _) _ _ _) | (with_reducible show wpAny _ _ (eval (Expr.ListComp _ _ _ _) _) _ _ _))); first | (k_unfold; (try dsimp only)) | (k_end; wrow_close) | (dsimp only; walk1) | walk1))
  obtain ⟨oA, aA, vA, kA, hcA, hdA, hlA, dA⟩ := id CA
  obtain ⟨oB, aB, vB, kB, hcB, hdB, hlB, dB⟩ := id CB
  refine rowsK w B F X N T (fun Q' E' hq => nameX_C (cl := cellsFrom (L + 1) (stS lawD).names []) N rfl hcA hdA hq) ?_ hlA dA oku (by (first | lia | omega)) ?_
  · intro _; rfl
  intro D1 h1 tk1 l1 n1 F1 N1 off1 k1 e1
  (repeat' ((fail_if_success (first | (with_reducible show wpAny _ _ (call (Value.ref _) _ _) _ _ _) | (with_reducible show wpAny _ _ (pyIter _) _ _ _) | (with_reducible show wpAny _ _ (call (Value.builtin "str.join") _ _) _ _ _) | (with_reducible show wpAny _ _ (binaryOp Operator.Add (Value.str _ _) (Value.str _ _)) _ _ _) | (with_reducible show wpAny _ _ (execs (Stmt.Assign [Expr.Name (Str.ofString "met") _] _ _ :: _) _) _ _ _) | (with_reducible show wpAny _ _ (eval (Expr.ListComp _ _ _ _) _) _ _ _))); first | (k_unfold; (try dsimp only)) | (k_end; wrow_close) | (dsimp only; walk1) | walk1))
  refine SC.join (l := l1) (texts := up.map rowOf) ⟨_, (N1 _ (.head _)).1, rfl, _, rfl⟩ e1 (rows_ok oku hn.1) ?_
  intro t2 k2
  have hU := rows_join up
  generalize Txt.join (Str.ofString "\n") (up.map rowOf) = U at hU ⊢
  have hUl := rows_len oku hn.1 hU
  (repeat' ((fail_if_success (first | (with_reducible show wpAny _ _ (call (Value.ref _) _ _) _ _ _) | (with_reducible show wpAny _ _ (pyIter _) _ _ _) | (with_reducible show wpAny _ _ (call (Value.builtin "str.join") _ _) _ _ _) | (with_reducible show wpAny _ _ (binaryOp Operator.Add (Value.str _ _) (Value.str _ _)) _ _ _) | (with_reducible show wpAny _ _ (execs (Stmt.Assign [Expr.Name (Str.ofString "met") _] _ _ :: _) _) _ _ _) | (with_reducible show wpAny _ _ (eval (Expr.ListComp _ _ _ _) _) _ _ _))); first | (k_unfold; (try dsimp only)) | (k_end; wrow_close) | (dsimp only; walk1) | walk1))
  rename Fr g L _ _ => F2
  rename News g L _ _ => N2
  have s2 : ∀ p ∈ news, p ∈ (D1, lst (strValues l1)) :: n1 := fun p hp => .tail _ (k1 p hp)
  refine rowsK w B F2 X N2 T (fun Q' E' hq => nameX_C (cl := cellsFrom (L + 1) (stS lawD).names []) N2 rfl (s2 _ hcB) hdB hq) ?_ (s2 _ hlB) (dB.mono s2) okl (by (first | lia | omega)) ?_
  · intro _; rfl
  intro D3 h3 tk3 l3 n3 F3 N3 off3 k3 e3
  (repeat' ((fail_if_success (first | (with_reducible show wpAny _ _ (call (Value.ref _) _ _) _ _ _) | (with_reducible show wpAny _ _ (pyIter _) _ _ _) | (with_reducible show wpAny _ _ (call (Value.builtin "str.join") _ _) _ _ _) | (with_reducible show wpAny _ _ (binaryOp Operator.Add (Value.str _ _) (Value.str _ _)) _ _ _) | (with_reducible show wpAny _ _ (execs (Stmt.Assign [Expr.Name (Str.ofString "met") _] _ _ :: _) _) _ _ _) | (with_reducible show wpAny _ _ (eval (Expr.ListComp _ _ _ _) _) _ _ _))); first | (k_unfold; (try dsimp only)) | (k_end; wrow_close) | (dsimp only; walk1) | walk1))
  refine SC.join (l := l3) (texts := lo.map rowOf) ⟨_, (N3 _ (.head _)).1, rfl, _, rfl⟩ e3 (rows_ok okl hn.2) ?_
  intro t4 k4
  have hW := rows_join lo
  generalize Txt.join (Str.ofString "\n") (lo.map rowOf) = W at hW ⊢
  have hWl := rows_len okl hn.2 hW
  (repeat' ((fail_if_success (first | (with_reducible show wpAny _ _ (call (Value.ref _) _ _) _ _ _) | (with_reducible show wpAny _ _ (pyIter _) _ _ _) | (with_reducible show wpAny _ _ (call (Value.builtin "str.join") _ _) _ _ _) | (with_reducible show wpAny _ _ (binaryOp Operator.Add (Value.str _ _) (Value.str _ _)) _ _ _) | (with_reducible show wpAny _ _ (execs (Stmt.Assign [Expr.Name (Str.ofString "met") _] _ _ :: _) _) _ _ _) | (with_reducible show wpAny _ _ (eval (Expr.ListComp _ _ _ _) _) _ _ _))); first | (k_unfold; (try dsimp only)) | (k_end; wrow_close) | (dsimp only; walk1) | walk1))
  rename Fr g L _ _ => F4
  rename News g L _ _ => N4
  have hnl : (Str.ofString "\n").length = 1 := rfl
  refine SB.add ?_ (by rw [sizeLine_eq]; (first | lia | omega))
  intro t5 k5
  (repeat' ((fail_if_success (first | (with_reducible show wpAny _ _ (call (Value.ref _) _ _) _ _ _) | (with_reducible show wpAny _ _ (pyIter _) _ _ _) | (with_reducible show wpAny _ _ (call (Value.builtin "str.join") _ _) _ _ _) | (with_reducible show wpAny _ _ (binaryOp Operator.Add (Value.str _ _) (Value.str _ _)) _ _ _) | (with_reducible show wpAny _ _ (execs (Stmt.Assign [Expr.Name (Str.ofString "met") _] _ _ :: _) _) _ _ _) | (with_reducible show wpAny _ _ (eval (Expr.ListComp _ _ _ _) _) _ _ _))); first | (k_unfold; (try dsimp only)) | (k_end; wrow_close) | (dsimp only; walk1) | walk1))
  refine SB.add ?_ (by rw [PySem.Str.length_append, sizeLine_eq]; (first | lia | omega))
  intro t6 k6
  (repeat' ((fail_if_success (first | (with_reducible show wpAny _ _ (call (Value.ref _) _ _) _ _ _) | (with_reducible show wpAny _ _ (pyIter _) _ _ _) | (with_reducible show wpAny _ _ (call (Value.builtin "str.join") _ _) _ _ _) | (with_reducible show wpAny _ _ (binaryOp Operator.Add (Value.str _ _) (Value.str _ _)) _ _ _) | (with_reducible show wpAny _ _ (execs (Stmt.Assign [Expr.Name (Str.ofString "met") _] _ _ :: _) _) _ _ _) | (with_reducible show wpAny _ _ (eval (Expr.ListComp _ _ _ _) _) _ _ _))); first | (k_unfold; (try dsimp only)) | (k_end; wrow_close) | (dsimp only; walk1) | walk1))
  have k4' : ∀ p ∈ news, p ∈ (D3, lst (strValues l3)) :: n3 := fun p hp => .tail _ (k3 _ (s2 p hp))
  have hR : up ++ lo ≠ [] := fun e => hl (List.append_eq_nil_iff.mp e).2
  refine tableK w _ _ (up ++ lo) hR (fun c hc => (List.mem_append.mp hc).elim (oku c) (okl c)) ?_ (by rw [PySem.Str.length_append, PySem.Str.length_append]; (first | lia | omega)) (by rw [List.length_append]; (first | lia | omega)) _ _ _ _ _ _ _ _ _ _ _ _ _ _ _ _ _ _ _ _ _ _ _ B F4 X N4 T rfl (by ktr_room) (by ktr_units) (hT.mono k4') ?_
  · rw [cps_app, cps_app, hU, hW, show (Str.ofString "\n").cps.toList = [10] from rfl, List.map_append, joinC_app _ _ (by simpa using hu) (by simpa using hl), List.append_assoc]
    rfl
  rintro r n7 h7 tk7 F7 N7 ⟨k7, T7, d, rfl, TB⟩
  (repeat' ((fail_if_success (first | (with_reducible show wpAny _ _ (call (Value.ref _) _ _) _ _ _) | (with_reducible show wpAny _ _ (pyIter _) _ _ _) | (with_reducible show wpAny _ _ (call (Value.builtin "str.join") _ _) _ _ _) | (with_reducible show wpAny _ _ (binaryOp Operator.Add (Value.str _ _) (Value.str _ _)) _ _ _) | (with_reducible show wpAny _ _ (execs (Stmt.Assign [Expr.Name (Str.ofString "met") _] _ _ :: _) _) _ _ _) | (with_reducible show wpAny _ _ (eval (Expr.ListComp _ _ _ _) _) _ _ _))); first | (k_unfold; (try dsimp only)) | (k_end; wrow_close) | (dsimp only; walk1) | walk1))
  rename Fr g L _ _ => F8
  rename News g L _ _ => N8
  have k8 : KeepNT news n7 := fun p hp hc => k7 p (k4' p hp) hc
  exact hnext _ _ _ _ _ _ _ _ F8 N8 (CA.nt k8) (CB.nt k8) (k8 _ hc3 (nt_cell hc3')) T7 TB hU hUl hW hWl
end Mine
end

/-! ## LLaw3 -/
section
theorem Mine.startLLaw3 : True := by
  w_top off
  trivial
open PySem PySem.W PyProof.Rows PySem.Calls PySem.Spec
set_option Elab.async false
namespace Mine
set_option maxRecDepth 100000 in
set_option maxHeartbeats 8000000 in
theorem lawC (w : World) {p : Program} {loose : List Str} {mean : ExcName → Option Value} {mg mb : Str → Option Value} {g : Heap} {L fa : Addr} {cd : Value} {s : Shared} {E : Value → Shared → Prop} {Q : Flow → Shared → Prop}
    {c3 : Obj} {news : Led} {up lo : List Call} {m : Str → Option Value}
    (B : Below callerA g [] g) (F : Fr g L s.heap m) (X : (hd.heap_39 w.params).In g) (N : News g L s.heap news) (T : Top p loose mean mg mb g)
    (CA : CellL news (L + 1) up) (CB : CellL news (L + 2) lo) (hc3 : (L + 3, c3) ∈ news) (hc3' : c3.data = .cell none) (hT : Tabs news) (hn : up.length ≤ 5 ∧ lo.length ≤ 5)
    (hnext : ∀ h' tk news' o3 aM vM kM, Fr g L h' m → News g L h' news' → CellL news' (L + 1) up → CellL news' (L + 2) lo → (L + 3, o3) ∈ news' → o3.data = .cell (some (.ref aM)) → (aM, lsO vM kM) ∈ news' → DatAll news' vM (((up ++ lo).reverse.map (·.2)).map fnD) →
      (∀ p ∈ news, (∀ v, p.2.data ≠ .cell v) → p ∈ news') →
      wpAny (model PySem.Challenge.rw_ny0043_01.row.prog w) (callerA.deeper (lawE L fa cd)) (execs ((stB lawD).drop 6) (lawE L fa cd)) Q (fun _ _ => False) { s with heap := h', toks := tk }) :
    wpAny (model PySem.Challenge.rw_ny0043_01.row.prog w) (callerA.deeper (lawE L fa cd)) (execs ((stB lawD).drop 5) (lawE L fa cd)) Q E s := by
  revert X
  k_fill
  intro X
  refine any_false ?_
  dsimp only [lawE, stB, stS, lawD, nth, PySem.Challenge.pw_ny0043_01, List.drop]
  dsimp only [lawE, stB, stS, lawD, nth, PySem.Challenge.pw_ny0043_01, List.drop] at hnext
  refine wpAny_execs_cons ?_
  refine wpAny_Assign_Name ?_ (by with_unfolding_all rfl)
  obtain ⟨oA, aA, vA, kA, hcA, hdA, hlA, dA⟩ := id CA
  obtain ⟨oB, aB, vB, kB, hcB, hdB, hlB, dB⟩ := id CB
  refine comp_gen (cl := []) (by with_unfolding_all rfl) (by decide +kernel) rfl (by decide +kernel) ?_ (by intro _; rfl)
  (repeat' ((fail_if_success (first | (with_reducible show wpAny _ _ (call (Value.ref _) _ _) _ _ _) | (with_reducible show wpAny _ _ (pyIter _) _ _ _) | (with_reducible show wpAny _ _ (binaryOp Operator.Add (Value.ref _) (Value.ref _)) _ _ _) | (with_reducible show wpAny _ _ (subscriptTail _ _ (Value.ref _) _) _ _ _) | (with_reducible show wpAny _ _ (storeName _ (Str.ofString "met") _) _ _ _) | (with_reducible show wpAny _ _ (execs (Stmt.Assign [Expr.Name (Str.ofString "due") _] _ _ :: _) _) _ _ _) | (with_reducible show wpAny _ _ (eval (Expr.ListComp _ _ _ _) _) _ _ _))); first | (k_unfold; (try dsimp only)) | (k_end; wrow_close) | (dsimp only; walk1) | walk1))
  have lA : vA.length ≤ 5 := by have := datAll_len dA; rw [List.length_map] at this; (first | lia | omega)
  have lB : vB.length ≤ 5 := by have := datAll_len dB; rw [List.length_map] at this; (first | lia | omega)
  refine lst_add F N hlA hlB (by (first | lia | omega)) ?_
  intro D1 h1 F1 N1 l1
  try refine ckpt (g := s.gens) (d := s.drawn) (o := s.os) fun tk25q => ?_
  (repeat' ((fail_if_success (first | (with_reducible show wpAny _ _ (call (Value.ref _) _ _) _ _ _) | (with_reducible show wpAny _ _ (pyIter _) _ _ _) | (with_reducible show wpAny _ _ (binaryOp Operator.Add (Value.ref _) (Value.ref _)) _ _ _) | (with_reducible show wpAny _ _ (subscriptTail _ _ (Value.ref _) _) _ _ _) | (with_reducible show wpAny _ _ (storeName _ (Str.ofString "met") _) _ _ _) | (with_reducible show wpAny _ _ (execs (Stmt.Assign [Expr.Name (Str.ofString "due") _] _ _ :: _) _) _ _ _) | (with_reducible show wpAny _ _ (eval (Expr.ListComp _ _ _ _) _) _ _ _))); first | (k_unfold; (try dsimp only)) | (k_end; wrow_close) | (dsimp only; walk1) | walk1))
  refine kba_turn (value' := PySem.Expr.Name (PySem.Str.ofString "_") ⟨0, 0, 0, 0⟩) (fun _ => rfl) ?_
  k_dflt (refine' lst_rev (F := F1) (N := N1) (ha := .head _) (hz := ?z) ?_ ?s ?t; (case s => with_unfolding_all rfl); (case t => (intro _; with_unfolding_all rfl)); (case z => (rw [List.length_append]; (first | lia | omega))))
  intro D2 h2 F2 N2 l2
  try refine ckpt (g := s.gens) (d := s.drawn) (o := s.os) fun tk26q => ?_
  have DR : DatAll ((D2, lsO (vA ++ vB).reverse 0) :: (D1, lsO (vA ++ vB) 0) :: news) (vA ++ vB).reverse (((up ++ lo).reverse).map callD) := by
    rw [List.map_reverse, List.map_append]
    exact datAll_rev ((datAll_app dA dB).mono fun p hp => .tail _ (.tail _ hp))
  generalize hR : (up ++ lo).reverse = R at DR ⊢
  have hRl : R.length ≤ 10 := by rw [← hR, List.length_reverse, List.length_append]; (first | lia | omega)
  refine src_list rfl F2 N2 (.head _) (by rw [List.length_reverse, List.length_append, sizeLine_eq]; (first | lia | omega)) (fun i ys n₁ => (∀ p ∈ ((D2, lsO (vA ++ vB).reverse 0) :: (D1, lsO (vA ++ vB) 0) :: news), p ∈ n₁) ∧ DatAll n₁ ys ((R.take i).map fun c => fnD c.2)) (fun _ => ⟨fun p hp => hp, by rw [List.take_zero]; exact .nil⟩) ?turn ?fin
  case turn =>
    rintro I C D hIC hID hCD i v ys n₁ h3 tk oI oC₁ m₁ E' hi' hv ⟨hkp, Dy⟩ hk F3 hoC N3 off
    obtain ⟨d, hd1, hd2⟩ := datAll_at DR hv
    rw [List.getElem?_map] at hd1
    obtain ⟨c, hc1, rfl⟩ := Option.map_eq_some_iff.mp hd1
    obtain ⟨Tu, kT, tT, fn, rfl, hTu, Dfn⟩ := pair_of hd2
    have hTI : IsTup h3 Tu #[.int c.1 tT, .ref fn] := ⟨_, (N3 _ (.tail _ (.tail _ (.tail _ (hkp _ hTu))))).1, rfl, _, rfl⟩
    refine cassign_pair rfl hTI rfl rfl rfl F3 hoC N3 off hIC hCD ?_
    clear F3 N3 hoC hTI
    intro h4 oC4 F4 hoC4 N4
    refine wpAny_tests_nil ?_
    rw [if_pos rfl]
    have hm1 : (C, oC4) ∈ (I, oI) :: (C, oC4) :: (D, lst ys) :: n₁ := .tail _ (.head _)
    refine LCgL.ld_own N4 hm1 hoC4 (if_pos rfl) ?_
    show CEnd _ _ _ _ _ _ _ _ _ _ _ _
    refine ⟨h4, _, oC4, _, n₁, rfl, F4, hoC4, N4, off, hk, hkp, ?_⟩
    rw [List.take_add_one, hc1, List.map_append]
    exact datAll_snoc Dy (Dfn.mono fun p hp => hkp p hp)
  case fin =>
    rintro D h5 tk ys n₁ F5 N5 off ⟨hkp, Dy⟩
    rw [List.take_of_length_le (by have := datAll_len DR; rw [List.length_map] at this; (first | lia | omega))] at Dy
    have k5 : ∀ p ∈ news, p ∈ (D, lst ys) :: n₁ := fun p hp => .tail _ (hkp _ (.tail _ (.tail _ hp)))
    have hc35 := k5 _ hc3
    refine cell_set (cl := cellsFrom (L + 1) (stS lawD).names []) (c := L + 3) F5 N5 rfl hc35 hc3' ?_
    intro h6 o3 n6 F6 N6 ho3 hod3 k6
    try refine ckpt (g := s.gens) (d := s.drawn) (o := s.os) fun tk27q => ?_
    have ks := cell_seq N5 hc35 hc3' k6
    have kn := cell_keeps N5 hc35 hc3' k6
    refine hnext _ _ _ _ _ _ _ F6 N6 ((CA.mono k5).cell N5 hc35 hc3' k6 (by simp)) ((CB.mono k5).cell N5 hc35 hc3' k6 (by simp)) ho3 hod3 (kn _ (.head _) fun _ z => nomatch z) (dats_keep ks (by rw [hR, List.map_map]; exact Dy.mono fun p hp => .tail _ hp)) fun p hp hpc => kn p (k5 p hp) hpc
end Mine
end

/-! ## LCell2 -/
section
theorem Mine.startLCell2 : True := by
  w_top off
  trivial
open PySem PySem.W PyProof.Rows PySem.Calls PySem.Spec
set_option Elab.async false
namespace Mine
section
variable {prog : Program} {w : World} {A : Around} {E : Value → Shared → Prop} {s : Shared} {h₀ : Heap} {L : Addr} {m : Str → Option Value} {env : Env}
theorem comp_range2 {elt target iter : Expr} {ifs : List Expr} {scope : Scope} {cl : List (Str × Addr)} {cx : Str} {pos : Pos} {oI : Obj} {news : Led} {n : Nat} {P : Nat → Value → Prop} {St : Nat → Heap → Prop} {RR : Value → Addr → Result → Shared → Prop} {J : Addr → Nat → List Value → Led → Prop}
    (hkind : scope.kind = .function) (hcs : ∀ n, cellsFrom n scope.names cl = (cx, n) :: cl) (hpc : ∀ h : Heap, pushCells h scope.names = h.push (cellO none))
    (W : Walks prog w A s.heap.objs.size [s.heap.objs.size] [s.heap.objs.size] n P St)
    (hgo : ∀ i v (s' : Shared) (Q : Unit → Shared → Prop) (E : Value → Shared → Prop), St i s'.heap → Q () s' → wpAny (model prog w) A (letOwnedTupleGo target (.ref s.heap.objs.size) v) Q E s')
    (hIo : ∀ i h, St i h → ∃ o, h.get? s.heap.objs.size = some o) (hst : St 0 (s.heap.push oI)) (hsz : n ≤ sizeLine) (F : Fr h₀ L s.heap m) (N : News h₀ L s.heap news) (h0 : ∀ C, s.heap.objs.size < C → J C 0 [] ((C + 1, cellO none) :: news))
    (turn : TurnsP prog w A h₀ L m (fun C => compEnvC scope ((cx, C + 1) :: cl) C env) elt target ifs s n J P)
    (hRR : ∀ D C h tk oC m' ys news', Fr h₀ L h m → NsObj oC m' → News h₀ L h ((C, oC) :: (D, lst ys) :: news') → Off s.heap.objs.size C D news' → C ≠ D → J C n ys news' → RR (.ref D) C (.ok .next) { s with heap := h, toks := tk }) :
    wpAny (model prog w) A (newList []) (fun acc s₃ => wpAny (model prog w) A (newFunctionEnv scope env.globals cl [] env.qual none .none (some env)) (fun cenv s₄ =>
      codeAny (model prog w) A (.compStart (.ListComp elt [⟨target, iter, ifs, 0⟩] scope pos) 0 (.ref s.heap.objs.size) acc { cenv with scope := relabel scope env }) (RR acc cenv.locals) s₄) E s₃) E { s with heap := s.heap.push oI } := by
  refine wpAny_newObj_type ?_
  simp only [newFunctionEnv, Option.isSome_some, if_true]
  refine wpAny_bind (wpAny_alloc ?_)
  refine wpAny_bind (wpAny_layCells _ (fun name kind cells => by cases hkc : kind == NameKind.cell <;> simp) _ _ _ _ ?_)
  rw [hcs, hpc]
  rw [List.forIn_nil]
  refine wpAny_bind (wpAny_pure (wpAny_pure ?_))
  dsimp only
  generalize hH1 : s.heap.push oI = H1 at hst ⊢
  have z1 : H1.objs.size = s.heap.objs.size + 1 := by rw [← hH1, Heap.size_push]
  have k1 : ∀ b o, s.heap.get? b = some o → H1.get? b = some o := fun b o q => by rw [← hH1]; exact Heap.get?_push_of_some _ q
  generalize hH2 : H1.push { cls := .type "list", dict := none, data := .seq ([] : List Value).toArray } = H2
  have z2 : H2.objs.size = H1.objs.size + 1 := by rw [← hH2, Heap.size_push]
  have k2 : ∀ b o, H1.get? b = some o → H2.get? b = some o := fun b o q => by rw [← hH2]; exact Heap.get?_push_of_some _ q
  have gD : H2.get? H1.objs.size = some (lst []) := by rw [← hH2]; exact Heap.get?_push_size _ rfl
  have nsC := Heap.Ns.new H2 (.type "dict")
  generalize hH3 : H2.push { cls := .type "dict", dict := none, data := .dict #[] } = H3 at nsC ⊢
  have z3 : H3.objs.size = H2.objs.size + 1 := by rw [← hH3, Heap.size_push]
  have k3 : ∀ b o, H2.get? b = some o → H3.get? b = some o := fun b o q => by rw [← hH3]; exact Heap.get?_push_of_some _ q
  generalize hH4 : H3.push (cellO none) = H4
  have k4 : ∀ b o, H3.get? b = some o → H4.get? b = some o := fun b o q => by rw [← hH4]; exact Heap.get?_push_of_some _ q
  have gc : H4.get? (H2.objs.size + 1) = some (cellO none) := by rw [← hH4, ← z3]; exact Heap.get?_push_size _ rfl
  have nsC4 : H4.Ns H2.objs.size (fun _ => none) := by rw [← hH4]; exact nsC.push _
  clear hH1 hH2 hH3 hH4 nsC
  have old : ∀ b o, s.heap.get? b = some o → H4.get? b = some o := fun b o q => k4 b o (k3 b o (k2 b o (k1 b o q)))
  obtain ⟨oC, heC, hoC⟩ := LCg.ns_obj nsC4
  have fresh : ∀ b, s.heap.objs.size ≤ b → b ≠ L ∧ h₀.get? b = none := fun b hb => kdx_fresh F hb
  have hst4 : St 0 H4 := W.frame _ _ _ hst fun b _ o q => k4 b o (k3 b o (k2 b o q))
  rw [z3]
  have l1 : s.heap.objs.size < H1.objs.size := by (first | lia | omega)
  have l2 : H1.objs.size < H2.objs.size := by (first | lia | omega)
  have l3 : s.heap.objs.size < H2.objs.size := by (first | lia | omega)
  have lc : H2.objs.size < H2.objs.size + 1 := by (first | lia | omega)
  have loop : ∀ s₃ : Shared, s₃ = { s with heap := H4 } →
      codeAny (model prog w) A (.compLoop (.ListComp elt [⟨target, iter, ifs, 0⟩] scope pos) 0 (.ref s.heap.objs.size) (.ref H1.objs.size) (compEnvC scope ((cx, H2.objs.size + 1) :: cl) H2.objs.size env))
        (RR (.ref H1.objs.size) H2.objs.size) s₃ := by
    rintro s₃ rfl
    refine comp_loop (C := H2.objs.size) (keep := []) (KTurns.ofWalks W hgo) hsz (Nat.ne_of_lt F.ns.lt) (next_is_new F) hst4 hIo (F.keeps old) hoC (news := (H2.objs.size + 1, cellO none) :: news) (fun p hp => ?_) (fun p hp => ?_) ⟨Nat.ne_of_lt l3, Nat.ne_of_lt l1, Nat.ne_of_gt l2⟩ (J H2.objs.size) (fun _ h => nomatch h) (h0 _ (by (first | lia | omega)))
      (fun i v ys news₁ h tk oI oC₁ m₁ E' hi hP hJ _ F1 hoC1 N1 off1 => turn s.heap.objs.size H2.objs.size H1.objs.size (Nat.ne_of_lt l3) (Nat.ne_of_lt l1) (Nat.ne_of_gt l2) i v ys news₁ h tk oI oC₁ m₁ E' hi hP hJ F1 hoC1 N1 off1) ?_
    · rcases List.mem_cons.mp hp with rfl | hp
      · exact ⟨heC, fresh _ (by (first | lia | omega))⟩
      · rcases List.mem_cons.mp hp with rfl | hp
        · exact ⟨k4 _ _ (k3 _ _ gD), fresh _ (by (first | lia | omega))⟩
        · rcases List.mem_cons.mp hp with rfl | hp
          · exact ⟨gc, fresh _ (by show s.heap.objs.size ≤ H2.objs.size + 1; (first | lia | omega))⟩
          · exact ⟨old _ _ (N p hp).1, (N p hp).2⟩
    · rcases List.mem_cons.mp hp with rfl | hp
      · exact ⟨Nat.ne_of_gt (Nat.lt_trans l3 lc), Nat.ne_of_gt lc, Nat.ne_of_gt (Nat.lt_trans l2 lc)⟩
      · have q := Heap.lt_size (N p hp).1
        exact ⟨Nat.ne_of_lt q, Nat.ne_of_lt (Nat.lt_trans q l3), Nat.ne_of_lt (Nat.lt_trans q l1)⟩
    · intro h' tk ys oC' m' news' F' hC' N' off' J'
      exact hRR H1.objs.size H2.objs.size h' tk oC' m' ys news' F' hC' N' off' (Nat.ne_of_gt l2) J'
  exact codeAny_compStart_list (loop _ rfl) (W.self 0 _ _ _ hst4 (loop _ rfl))
/-- what stands behind the source of a comprehension with a cell that a name is given -/
inductive CellJob (prog : Program) (w : World) (A : Around) (L : Addr) (cenv : Addr → Env) (elt target : Expr) (ifs : List Expr) (y : Str) (Q : Flow → Shared → Prop) (xv : Value) (s : Shared) : Prop
  | mk (h₀ m news r a b c t u v) (n : Nat) (J) (e : xv = .ref r) (F : Fr h₀ L s.heap m) (N : News h₀ L s.heap news) (hr : IsRange s.heap r a b c t u v) (hsm : Builtin.Range.small a b c = true) (hn : Builtin.Range.rangeSize a b c = ((n : Nat) : Int)) (hz : n ≤ sizeLine)
      (h0 : ∀ C, s.heap.objs.size < C → J C 0 [] ((C + 1, cellO none) :: news)) (turn : TurnsP prog w A h₀ L m cenv elt target ifs s n J (fun i v => ∃ t, v = .int (a + i * c) t))
      (fin : ∀ D C h tk ys news', Fr h₀ L h (fun z => if z = y then some (.ref D) else m z) → News h₀ L h ((D, lst ys) :: news') → (∀ p ∈ news', p.1 ≠ D) → J C n ys news' → Q .next { s with heap := h, toks := tk }) : CellJob prog w A L cenv elt target ifs y Q xv s
/-- a name is given a list comprehension over a range that keeps one name in a cell of its own -/
theorem assign_cell {elt target iter : Expr} {ifs : List Expr} {scope : Scope} {cl : List (Str × Addr)} {cx y : Str} {py pos spos : Pos} {Q : Flow → Shared → Prop} (hLe : env.locals = L)
    (hsw : swapsWith (.ListComp elt [⟨target, iter, ifs, 0⟩] scope pos) (some (.Name y py)) spos.line env = pure true)
    (hclos : closureFor scope env = pure cl) (hkind : scope.kind = .function) (hcs : ∀ n, cellsFrom n scope.names cl = (cx, n) :: cl) (hpc : ∀ h : Heap, pushCells h scope.names = h.push (cellO none))
    (hnames : ∀ y ∈ scope.names, y.2 = .local → scope.names.lookup y.1 = some .local)
    (hy : env.kindOf y = some .local) (hp : (env.scope.kind == .class || (env.scope.kind == .module && env.locals != env.globals)) = false)
    (hh : A.handled = none)
    (h : wpAny (model prog w) A (eval iter env) (CellJob prog w A L (fun C => compEnvC scope ((cx, C + 1) :: cl) C env) elt target ifs y Q) E s)
    (hs : ∀ x, foldedSetIterable iter env x = pure x := by intro _; rfl) :
    wpAny (model prog w) A (exec (.Assign [.Name y py] (.ListComp elt [⟨target, iter, ifs, 0⟩] scope pos) spos) env) Q E s := by
  subst hLe
  rw [exec_Assign_Name_used _ _ _ _ hsw]
  refine wpAny_bind (wpAny_standAt (wpAny_bind ?_))
  show wpAny _ A (do let _ ← comprehension (.ListComp elt [⟨target, iter, ifs, 0⟩] scope pos) scope env _ (newList []) false (eval iter env) (some (assign (.Name y py) env))) _ _ s
  refine wpAny_bind (wpAny_mono (wpAny_comprehension_free (use := some (assign (.Name y py) env)) (Q := fun _ s' => Q .next s') rfl hs hclos hkind hnames
    (wpAny_mono h (fun xv s₁ h₁ => ?_) fun _ _ e => e)) (fun _ s' hq => wpAny_pure (wpAny_pure hq)) fun _ _ e => e)
  obtain ⟨h₀, m, news, r, a, b, c, t, u, v, n, J, rfl, F, N, hr, hsm, hn, hsz, h0, turn, fin⟩ := h₁
  refine wpAny_pyIter_range hr hsm ?_
  refine comp_range2 (RR := fun acc C => compPost (model prog w) A E (some (assign (.Name y py) env)) (fun _ s' => Q .next s') acc C) hkind hcs hpc (Walks.range hh s₁.heap.objs.size a c n) ?_ ?_ ?_ hsz F N h0 turn ?_
  · intro i v s' Q E st h
    exact letGo_fields (o := _) st rfl rfl (.inr (.inl rfl)) h
  · intro i h st
    exact ⟨_, st⟩
  · show IsRangeIter _ _ _ _ _
    rw [hn]; simpa using Heap.get?_push_size _ rfl
  · intro D C h' tk oC m' ys news' F' hC' N' off' hCD J'
    show wpAny _ A (assign (.Name y py) env (.ref D)) _ _ _
    have zC := N' (C, oC) (.head _)
    refine wpAny_assign_Name (wpAny_storeName_local hy F'.ns (fun h₂ hn₂ hs₂ => ?_) hp)
    have hL₀ : h₀.get? env.locals = none := Heap.get?_none_of_le F'.above
    have F₂ : Fr h₀ env.locals h₂ (fun z => if z = y then some (.ref D) else m z) := ⟨hn₂, fun b o e => hs₂.extBut b o (fun q => by rw [q, hL₀] at e; cases e) (F'.keep b o e), F'.above⟩
    refine ⟨m', (hC'.ns zC.1).sameBut hs₂ zC.2.1, fun h'' hs'' => fin D C h'' _ ys news' (F₂.change hs'' zC.2.1 zC.2.2) (fun p hp => ?_) (fun p hp => (off' p hp).2.2) J'⟩
    have z : h₂.get? p.1 = some p.2 := hs₂.extBut _ _ (N' p (.tail _ hp)).2.1 (N' p (.tail _ hp)).1
    refine ⟨hs''.extBut _ _ ?_ z, (N' p (.tail _ hp)).2⟩
    rcases List.mem_cons.mp hp with rfl | hp
    · exact Ne.symm hCD
    · exact (off' p hp).2.1
end
end Mine
end

/-! ## LLaw4 -/
section
theorem Mine.startLLaw4 : True := by
  w_top off
  trivial
open PySem PySem.W PyProof.Rows PySem.Calls PySem.Spec
set_option Elab.async false
namespace Mine
section
variable {M : Model} {A : Around} {E : Value → Shared → Prop} {s : Shared} {h₀ : Heap} {L : Addr} {m : Str → Option Value} {env : Env} {news : Led}
/-- a cell of a comprehension's own is stored -/
theorem ccell_set {scope : Scope} {cl : List (Str × Addr)} {C c : Addr} {x : Str} {o : Obj} {v₀ : Option Value} {v : Value} {Q : Unit → Shared → Prop} (F : Fr h₀ L s.heap m) (N : News h₀ L s.heap news) (hc : cl.lookup x = some c) (hm : (c, o) ∈ news) (hd : o.data = .cell v₀)
    (h : ∀ h' o', Fr h₀ L h' m → News h₀ L h' (news.map fun p => if p.1 = c then (c, o') else p) → o'.data = .cell (some v) → Q () { s with heap := h' })
    (hk : (compEnvC scope cl C env).scope.kind = .function) (hx : (compEnvC scope cl C env).kindOf x = some .cell) : wpAny M A (storeName (compEnvC scope cl C env) x v) Q E s := by
  have z := N _ hm
  refine wpAny_storeName_cell hk hx hc ⟨o, z.1, hd⟩ fun h' hv hs => ?_
  obtain ⟨o', ho', hd'⟩ := hv
  exact h h' o' (F.change hs z.2.1 z.2.2) (N.replace hs ho') hd'
end
theorem fn_kqd {x : Fn} (h : FnOk x) (n : Nat) : kqdOk (n + 1) (fnD x) = true := by
  have h1 := h.fo
  have h2 := h.no
  cases n <;> simp [kqdOk, h1, h2]
theorem item_kqd {y : Fn × Int} (h : FnOk y.1) (n : Nat) : kqdOk (n + 2) (itemD y) = true := by
  have h1 := fn_kqd h n
  show (kqdOk (n + 1) (fnD y.1) && (kqdOk (n + 1) (.int y.2) && true)) = true
  rw [h1]; rfl
theorem list_kqd {ys : List (Fn × Int)} (h : ∀ y ∈ ys, FnOk y.1) (n : Nat) : kqdOk (n + 3) (.list (ys.map itemD)) = true := by
  rw [kqdOk, List.all_eq_true]
  intro d hd
  obtain ⟨y, hy, rfl⟩ := List.mem_map.mp hd
  exact item_kqd (h y hy) n
theorem fnD_inj {x y : Fn} : fnD x = fnD y ↔ x = y := by
  obtain ⟨a, b, c⟩ := x
  obtain ⟨d, e, f⟩ := y
  simp
theorem filter_one {c : Call} {x : Fn} (h : c.2 = x) : List.filter (fun c : Call => decide (c.2 = x)) [c] = [c] := by simp [h]
theorem filter_none {c : Call} {x : Fn} (h : c.2 ≠ x) : List.filter (fun c : Call => decide (c.2 = x)) [c] = [] := by simp [h]
noncomputable def DueJ (news : Led) (R : List Call) (met : List Fn) (C : Addr) (i : Nat) (ys : List Value) (n₁ : Led) : Prop :=
  (∀ p ∈ news, p ∈ n₁ ∧ p.1 ≠ C + 1) ∧ (∃ o v, (C + 1, o) ∈ n₁ ∧ o.data = .cell v) ∧ DatAll n₁ ys ((uniq (met.take i)).map fun k => itemD (k, totC R k))
set_option maxRecDepth 100000 in
set_option maxHeartbeats 8000000 in
theorem lawDue (w : World) {p : Program} {loose : List Str} {mean : ExcName → Option Value} {mg mb : Str → Option Value} {g : Heap} {L fa : Addr} {cd : Value} {s : Shared} {E : Value → Shared → Prop} {Q : Flow → Shared → Prop}
    {o3 : Obj} {aM : Addr} {vM : List Value} {kM : Nat} {news : Led} {up lo : List Call} {m : Str → Option Value}
    (B : Below callerA g [] g) (F : Fr g L s.heap m) (X : (hd.heap_39 w.params).In g) (N : News g L s.heap news) (T : Top p loose mean mg mb g)
    (CA : CellL news (L + 1) up) (CB : CellL news (L + 2) lo) (ho3 : (L + 3, o3) ∈ news) (hd3 : o3.data = .cell (some (.ref aM))) (hM : (aM, lsO vM kM) ∈ news) (DM : DatAll news vM (((up ++ lo).reverse.map (·.2)).map fnD))
    (oku : ∀ c ∈ up, CallOk c) (okl : ∀ c ∈ lo, CallOk c) (hn : up.length ≤ 5 ∧ lo.length ≤ 5)
    (hnext : ∀ h' tk news' D, Fr g L h' (fun z => if z = Str.ofString "due" then some (Value.ref D) else m z) → News g L h' news' → (∀ p ∈ news, p ∈ news') → DatIn news' (.ref D) (.list ((dueL (up ++ lo)).map itemD)) →
      wpAny (model PySem.Challenge.rw_ny0043_01.row.prog w) (callerA.deeper (lawE L fa cd)) (execs ((stB lawD).drop 7) (lawE L fa cd)) Q (fun _ _ => False) { s with heap := h', toks := tk }) :
    wpAny (model PySem.Challenge.rw_ny0043_01.row.prog w) (callerA.deeper (lawE L fa cd)) (execs ((stB lawD).drop 6) (lawE L fa cd)) Q E s := by
  revert X
  k_fill
  intro X
  refine any_false ?_
  dsimp only [lawE, stB, stS, lawD, nth, PySem.Challenge.pw_ny0043_01, List.drop]
  dsimp only [lawE, stB, stS, lawD, nth, PySem.Challenge.pw_ny0043_01, List.drop] at hnext
  refine wpAny_execs_cons ?_
  obtain ⟨oA, aA, vA, kA, hcA, hdA, hlA, dA⟩ := id CA
  obtain ⟨oB, aB, vB, kB, hcB, hdB, hlB, dB⟩ := id CB
  generalize hR : (up ++ lo).reverse = R at DM
  have hRl : R.length ≤ 10 := by rw [← hR, List.length_reverse, List.length_append]; (first | lia | omega)
  have hMl : vM.length = R.length := by have := datAll_len DM; rw [List.length_map, List.length_map] at this; exact this
  refine assign_cell (cx := Str.ofString "p") (cl := [(Str.ofString "met", L + 3), (Str.ofString "below", L + 2), (Str.ofString "above", L + 1)]) rfl (by with_unfolding_all rfl) (by with_unfolding_all rfl) rfl (fun _ => rfl) (fun _ => rfl) (by decide +kernel) rfl rfl rfl ?_ (by intro _; rfl)
  (repeat' ((fail_if_success (first | (with_reducible show wpAny _ _ (call (Value.ref _) _ _) _ _ _) | (with_reducible show wpAny _ _ (pyIter _) _ _ _) | (with_reducible show wpAny _ _ (call (Value.builtin "len") _ _) _ _ _) | (with_reducible show wpAny _ _ (call (Value.builtin "sum") _ _) _ _ _) | (with_reducible show wpAny _ _ (binaryOp Operator.Add (Value.ref _) (Value.ref _)) _ _ _) | (with_reducible show wpAny _ _ (compareOp CmpOp.NotIn _ (Value.ref _)) _ _ _) | (with_reducible show wpAny _ _ (compareOp CmpOp.Eq (Value.ref _) (Value.ref _)) _ _ _) | (with_reducible show wpAny _ _ (subscriptTail _ _ (Value.ref _) _) _ _ _) | (with_reducible show wpAny _ _ (execs (Stmt.If _ _ _ _ :: _) _) _ _ _) | (with_reducible show wpAny _ _ (eval (Expr.ListComp _ _ _ _) _) _ _ _))); first | (k_unfold; (try dsimp only)) | (k_end; wrow_close) | (dsimp only; walk1) | walk1))
  refine len_lst N hM (by (first | lia | omega)) ?_
  (repeat' ((fail_if_success (first | (with_reducible show wpAny _ _ (call (Value.ref _) _ _) _ _ _) | (with_reducible show wpAny _ _ (pyIter _) _ _ _) | (with_reducible show wpAny _ _ (call (Value.builtin "len") _ _) _ _ _) | (with_reducible show wpAny _ _ (call (Value.builtin "sum") _ _) _ _ _) | (with_reducible show wpAny _ _ (binaryOp Operator.Add (Value.ref _) (Value.ref _)) _ _ _) | (with_reducible show wpAny _ _ (compareOp CmpOp.NotIn _ (Value.ref _)) _ _ _) | (with_reducible show wpAny _ _ (compareOp CmpOp.Eq (Value.ref _) (Value.ref _)) _ _ _) | (with_reducible show wpAny _ _ (subscriptTail _ _ (Value.ref _) _) _ _ _) | (with_reducible show wpAny _ _ (execs (Stmt.If _ _ _ _ :: _) _) _ _ _) | (with_reducible show wpAny _ _ (eval (Expr.ListComp _ _ _ _) _) _ _ _))); first | (k_unfold; (try dsimp only)) | (k_end; wrow_close) | (dsimp only; walk1) | walk1))
  rename Fr g L _ _ => F1
  rename News g L _ _ => N1
  rename IsRange _ _ _ _ _ _ _ _ => hr
  generalize hmet : R.map (·.2) = met at DM
  have hml : met.length = R.length := by rw [← hmet, List.length_map]
  refine ⟨g, m, news, _, 0, _, 1, _, _, _, R.length, DueJ news R met, rfl, F1, N1, hr, ?_, ?_, by rw [sizeLine_eq]; (first | lia | omega), fun C hC => ?_, ?turn, ?fin⟩
  · rw [hMl]
    have : ∀ n : Nat, n ≤ 10 → Builtin.Range.small 0 (n : Int) 1 = true := by decide +kernel
    exact this _ hRl
  · rw [hMl]
    have : ∀ n : Nat, n ≤ 10 → Builtin.Range.rangeSize 0 (n : Int) 1 = (n : Int) := by decide +kernel
    exact this _ hRl
  · refine ⟨fun p hp => ⟨.tail _ hp, fun e => ?_⟩, ⟨_, none, .head _, rfl⟩, by rw [List.take_zero]; exact .nil⟩
    have h1 := Heap.lt_size (N1 p hp).1
    rw [e] at h1
    exact absurd h1 (Nat.not_lt.mpr (Nat.le_of_lt (Nat.lt_trans hC (Nat.lt_succ_self C))))
  case turn =>
    rintro I C D hIC hID hCD i v ys n₁ h2 tk2 oI oC₁ m₁ E' hi' ⟨tv, rfl⟩ ⟨hkp, ⟨oc, vc, hoc, hdc⟩, Dy⟩ F2 hoC N2 off
    obtain ⟨oc1, oc2, oc3⟩ := off _ hoc
    refine wpAny_assign_Name ?_
    refine ccell_set F2 N2 (c := C + 1) rfl (.tail _ (.tail _ (.tail _ hoc))) hdc ?_ rfl rfl
    intro h3 oP F3 N3 hdP
    simp only [List.map_cons, if_neg (Ne.symm oc1), if_neg (Ne.symm oc2), if_neg (Ne.symm oc3)] at N3
    generalize hn3 : (n₁.map fun p => if p.1 = C + 1 then (C + 1, oP) else p) = n3 at N3
    have hP3 : (C + 1, oP) ∈ n3 := by rw [← hn3]; exact List.mem_map.mpr ⟨_, hoc, by simp⟩
    have kp3 : ∀ p ∈ n₁, p.1 ≠ C + 1 → p ∈ n3 := fun p hp hne => by rw [← hn3]; exact List.mem_map.mpr ⟨p, hp, by simp [hne]⟩
    have off3 : Off I C D n3 := fun p hp => by
      rw [← hn3] at hp
      obtain ⟨q, hq, rfl⟩ := List.mem_map.mp hp
      by_cases e : q.1 = C + 1
      · rw [if_pos e]; exact ⟨oc1, oc2, oc3⟩
      · rw [if_neg e]; exact off q hq
    have Dy3 : DatAll n3 ys ((uniq (met.take i)).map fun k => itemD (k, totC R k)) := dats_keep (fun p hp _ hs => kp3 p hp fun e => by
      obtain ⟨xs, n, e2⟩ := hs
      have z := (N2 _ (.tail _ (.tail _ (.tail _ hp)))).1
      rw [e, (N2 _ (.tail _ (.tail _ (.tail _ hoc)))).1] at z
      rw [← Option.some.inj z, hdc] at e2
      cases e2) Dy
    have kn3 : ∀ p ∈ news, p ∈ n3 := fun p hp => kp3 p (hkp p hp).1 (hkp p hp).2
    have ho33 : (L + 3, o3) ∈ (I, oI) :: (C, oC₁) :: (D, lst ys) :: n3 := .tail _ (.tail _ (.tail _ (kn3 _ ho3)))
    have hP3' : (C + 1, oP) ∈ (I, oI) :: (C, oC₁) :: (D, lst ys) :: n3 := .tail _ (.tail _ (.tail _ hP3))
    clear N2 F2
    refine wpAny_tests_one ?_
    (repeat' ((fail_if_success (first | (with_reducible show wpAny _ _ (call (Value.ref _) _ _) _ _ _) | (with_reducible show wpAny _ _ (pyIter _) _ _ _) | (with_reducible show wpAny _ _ (call (Value.builtin "len") _ _) _ _ _) | (with_reducible show wpAny _ _ (call (Value.builtin "sum") _ _) _ _ _) | (with_reducible show wpAny _ _ (binaryOp Operator.Add (Value.ref _) (Value.ref _)) _ _ _) | (with_reducible show wpAny _ _ (compareOp CmpOp.NotIn _ (Value.ref _)) _ _ _) | (with_reducible show wpAny _ _ (compareOp CmpOp.Eq (Value.ref _) (Value.ref _)) _ _ _) | (with_reducible show wpAny _ _ (subscriptTail _ _ (Value.ref _) _) _ _ _) | (with_reducible show wpAny _ _ (execs (Stmt.If _ _ _ _ :: _) _) _ _ _) | (with_reducible show wpAny _ _ (eval (Expr.ListComp _ _ _ _) _) _ _ _))); first | (k_unfold; (try dsimp only)) | (k_end; wrow_close) | (dsimp only; walk1) | walk1))
    replace F3 : Fr g L h3 m := F3
    replace N3 : News g L h3 ((I, oI) :: (C, oC₁) :: (D, lst ys) :: n3) := N3
    have hiv : i < vM.length := by (first | lia | omega)
    obtain ⟨x, hx1, hx2⟩ : ∃ x, met[i]? = some x ∧ DatIn news vM[i] (fnD x) := by
      obtain ⟨d, h1, h2⟩ := datAll_at DM (List.getElem?_eq_getElem hiv)
      rw [List.getElem?_map] at h1
      obtain ⟨x, hx, rfl⟩ := Option.map_eq_some_iff.mp h1
      exact ⟨x, hx, h2⟩
    have hvi : vM[((0 : Int) + (i : Int) * 1).toNat]? = some vM[i] := by
      rw [show ((0 : Int) + (i : Int) * 1).toNat = i by (first | lia | omega)]; exact List.getElem?_eq_getElem hiv
    generalize vM[i] = vi at hx2 hvi
    obtain ⟨fi, rfl⟩ : ∃ fi, vi = .ref fi := by
      generalize hdd : fnD x = dd at hx2
      cases hx2 with
      | tuple h r => exact ⟨_, rfl⟩
      | _ => cases hdd
    have hM3 : (aM, lsO vM kM) ∈ (I, oI) :: (C, oC₁) :: (D, lst ys) :: n3 := .tail _ (.tail _ (.tail _ (kn3 _ hM)))
    refine item_listI N3 hM3 (by (first | lia | omega)) (by (first | lia | omega)) hvi ?_
    (repeat' ((fail_if_success (first | (with_reducible show wpAny _ _ (call (Value.ref _) _ _) _ _ _) | (with_reducible show wpAny _ _ (pyIter _) _ _ _) | (with_reducible show wpAny _ _ (call (Value.builtin "len") _ _) _ _ _) | (with_reducible show wpAny _ _ (call (Value.builtin "sum") _ _) _ _ _) | (with_reducible show wpAny _ _ (binaryOp Operator.Add (Value.ref _) (Value.ref _)) _ _ _) | (with_reducible show wpAny _ _ (compareOp CmpOp.NotIn _ (Value.ref _)) _ _ _) | (with_reducible show wpAny _ _ (compareOp CmpOp.Eq (Value.ref _) (Value.ref _)) _ _ _) | (with_reducible show wpAny _ _ (subscriptTail _ _ (Value.ref _) _) _ _ _) | (with_reducible show wpAny _ _ (execs (Stmt.If _ _ _ _ :: _) _) _ _ _) | (with_reducible show wpAny _ _ (eval (Expr.ListComp _ _ _ _) _) _ _ _))); first | (k_unfold; (try dsimp only)) | (k_end; wrow_close) | (dsimp only; walk1) | walk1))
    rw [show (0 : Int) + (i : Int) * 1 = ((i : Nat) : Int) by (first | lia | omega)]
    k_dflt (refine' lst_upto (F := F3) (N := N3) (ha := hM3) (hz := ?z) ?_ ?s ?t; (case s => with_unfolding_all rfl); (case t => (intro _; with_unfolding_all rfl)); (case z => (first | lia | omega)))
    intro D4 h4 F4 N4 l4
    (repeat' ((fail_if_success (first | (with_reducible show wpAny _ _ (call (Value.ref _) _ _) _ _ _) | (with_reducible show wpAny _ _ (pyIter _) _ _ _) | (with_reducible show wpAny _ _ (call (Value.builtin "len") _ _) _ _ _) | (with_reducible show wpAny _ _ (call (Value.builtin "sum") _ _) _ _ _) | (with_reducible show wpAny _ _ (binaryOp Operator.Add (Value.ref _) (Value.ref _)) _ _ _) | (with_reducible show wpAny _ _ (compareOp CmpOp.NotIn _ (Value.ref _)) _ _ _) | (with_reducible show wpAny _ _ (compareOp CmpOp.Eq (Value.ref _) (Value.ref _)) _ _ _) | (with_reducible show wpAny _ _ (subscriptTail _ _ (Value.ref _) _) _ _ _) | (with_reducible show wpAny _ _ (execs (Stmt.If _ _ _ _ :: _) _) _ _ _) | (with_reducible show wpAny _ _ (eval (Expr.ListComp _ _ _ _) _) _ _ _))); first | (k_unfold; (try dsimp only)) | (k_end; wrow_close) | (dsimp only; walk1) | walk1))
    have okm : ∀ y ∈ met, FnOk y := fun y hy => by
      rw [← hmet] at hy
      obtain ⟨c, hc, rfl⟩ := List.mem_map.mp hy
      rw [← hR] at hc
      exact ((List.mem_append.mp (List.mem_reverse.mp hc)).elim (oku c) (okl c)).2.ok
    have k4 : ∀ p ∈ news, p ∈ (D4, lsO (vM.take i) 0) :: (I, oI) :: (C, oC₁) :: (D, lst ys) :: n3 := fun p hp => .tail _ (.tail _ (.tail _ (.tail _ (kn3 p hp))))
    have okx : FnOk x := okm x (List.mem_of_getElem? hx1)
    have DT : DatAll ((D4, lsO (vM.take i) 0) :: (I, oI) :: (C, oC₁) :: (D, lst ys) :: n3) (vM.take i) ((met.take i).map fnD) := by
      rw [List.map_take]
      exact datAll_take i (DM.mono k4)
    refine lst_notin N4 (.head _) (hx2.mono k4) DT (fn_kqd okx 7) (fun e he => ?_) (by ktr_units) ?_
    · obtain ⟨y, hy, rfl⟩ := List.mem_map.mp he
      exact fn_kqd (okm y (List.mem_of_mem_take hy)) 7
    intro b hb
    have hb' : b = true ↔ x ∉ met.take i := by
      rw [hb]
      refine not_congr ⟨fun h => ?_, fun h => List.mem_map.mpr ⟨x, h, rfl⟩⟩
      obtain ⟨y, hy, e⟩ := List.mem_map.mp h
      rwa [fnD_inj.mp e] at hy
    clear hb DT
    (repeat' ((fail_if_success (first | (with_reducible show wpAny _ _ (call (Value.ref _) _ _) _ _ _) | (with_reducible show wpAny _ _ (pyIter _) _ _ _) | (with_reducible show wpAny _ _ (call (Value.builtin "len") _ _) _ _ _) | (with_reducible show wpAny _ _ (call (Value.builtin "sum") _ _) _ _ _) | (with_reducible show wpAny _ _ (binaryOp Operator.Add (Value.ref _) (Value.ref _)) _ _ _) | (with_reducible show wpAny _ _ (compareOp CmpOp.NotIn _ (Value.ref _)) _ _ _) | (with_reducible show wpAny _ _ (compareOp CmpOp.Eq (Value.ref _) (Value.ref _)) _ _ _) | (with_reducible show wpAny _ _ (subscriptTail _ _ (Value.ref _) _) _ _ _) | (with_reducible show wpAny _ _ (execs (Stmt.If _ _ _ _ :: _) _) _ _ _) | (with_reducible show wpAny _ _ (eval (Expr.ListComp _ _ _ _) _) _ _ _))); first | (k_unfold; (try dsimp only)) | (k_end; wrow_close) | (dsimp only; walk1) | walk1))
    · have hM4 := k4 _ hM
      refine item_listI N4 hM4 (by (first | lia | omega)) (by (first | lia | omega)) hvi ?_
      have hcA4 := k4 _ hcA
      have hcB4 := k4 _ hcB
      have ho34 := k4 _ ho3
      have hP4 : (C + 1, oP) ∈ (D4, lsO (vM.take i) 0) :: (I, oI) :: (C, oC₁) :: (D, lst ys) :: n3 := .tail _ hP3'
      clear N3 F3 ho33 hP3'
      (repeat' ((fail_if_success (first | (with_reducible show wpAny _ _ (call (Value.ref _) _ _) _ _ _) | (with_reducible show wpAny _ _ (pyIter _) _ _ _) | (with_reducible show wpAny _ _ (call (Value.builtin "len") _ _) _ _ _) | (with_reducible show wpAny _ _ (call (Value.builtin "sum") _ _) _ _ _) | (with_reducible show wpAny _ _ (binaryOp Operator.Add (Value.ref _) (Value.ref _)) _ _ _) | (with_reducible show wpAny _ _ (compareOp CmpOp.NotIn _ (Value.ref _)) _ _ _) | (with_reducible show wpAny _ _ (compareOp CmpOp.Eq (Value.ref _) (Value.ref _)) _ _ _) | (with_reducible show wpAny _ _ (subscriptTail _ _ (Value.ref _) _) _ _ _) | (with_reducible show wpAny _ _ (execs (Stmt.If _ _ _ _ :: _) _) _ _ _) | (with_reducible show wpAny _ _ (eval (Expr.ListComp _ _ _ _) _) _ _ _))); first | (k_unfold; (try dsimp only)) | (k_end; wrow_close) | (dsimp only; walk1) | walk1))
      refine comp_gen (cl := [(Str.ofString "p", C + 1), (Str.ofString "met", L + 3)]) (by with_unfolding_all rfl) (by decide +kernel) rfl (by decide +kernel) ?_ (by intro _; rfl)
      (repeat' ((fail_if_success (first | (with_reducible show wpAny _ _ (call (Value.ref _) _ _) _ _ _) | (with_reducible show wpAny _ _ (pyIter _) _ _ _) | (with_reducible show wpAny _ _ (call (Value.builtin "len") _ _) _ _ _) | (with_reducible show wpAny _ _ (call (Value.builtin "sum") _ _) _ _ _) | (with_reducible show wpAny _ _ (binaryOp Operator.Add (Value.ref _) (Value.ref _)) _ _ _) | (with_reducible show wpAny _ _ (compareOp CmpOp.NotIn _ (Value.ref _)) _ _ _) | (with_reducible show wpAny _ _ (compareOp CmpOp.Eq (Value.ref _) (Value.ref _)) _ _ _) | (with_reducible show wpAny _ _ (subscriptTail _ _ (Value.ref _) _) _ _ _) | (with_reducible show wpAny _ _ (execs (Stmt.If _ _ _ _ :: _) _) _ _ _) | (with_reducible show wpAny _ _ (eval (Expr.ListComp _ _ _ _) _) _ _ _))); first | (k_unfold; (try dsimp only)) | (k_end; wrow_close) | (dsimp only; walk1) | walk1))
      have lA : vA.length ≤ 5 := by have := datAll_len dA; rw [List.length_map] at this; (first | lia | omega)
      have lB : vB.length ≤ 5 := by have := datAll_len dB; rw [List.length_map] at this; (first | lia | omega)
      refine lst_add F4 N4 (k4 _ hlA) (k4 _ hlB) (by (first | lia | omega)) ?_
      intro D5 h5 F5 N5 l5
      (repeat' ((fail_if_success (first | (with_reducible show wpAny _ _ (call (Value.ref _) _ _) _ _ _) | (with_reducible show wpAny _ _ (pyIter _) _ _ _) | (with_reducible show wpAny _ _ (call (Value.builtin "len") _ _) _ _ _) | (with_reducible show wpAny _ _ (call (Value.builtin "sum") _ _) _ _ _) | (with_reducible show wpAny _ _ (binaryOp Operator.Add (Value.ref _) (Value.ref _)) _ _ _) | (with_reducible show wpAny _ _ (compareOp CmpOp.NotIn _ (Value.ref _)) _ _ _) | (with_reducible show wpAny _ _ (compareOp CmpOp.Eq (Value.ref _) (Value.ref _)) _ _ _) | (with_reducible show wpAny _ _ (subscriptTail _ _ (Value.ref _) _) _ _ _) | (with_reducible show wpAny _ _ (execs (Stmt.If _ _ _ _ :: _) _) _ _ _) | (with_reducible show wpAny _ _ (eval (Expr.ListComp _ _ _ _) _) _ _ _))); first | (k_unfold; (try dsimp only)) | (k_end; wrow_close) | (dsimp only; walk1) | walk1))
      obtain ⟨led4, hled4⟩ : ∃ led4, led4 = (D4, lsO (vM.take i) 0) :: (I, oI) :: (C, oC₁) :: (D, lst ys) :: n3 := ⟨_, rfl⟩
      rw [← hled4] at N4 N5 l5 k4 hM4 hcA4 hcB4 ho34 hP4
      have DU : DatAll ((D5, lsO (vA ++ vB) 0) :: led4) (vA ++ vB) ((up ++ lo).map callD) := by
        rw [List.map_append]
        exact (datAll_app dA dB).mono fun p hp => .tail _ (k4 p hp)
      generalize hS : up ++ lo = S at DU hR
      have hSl : S.length ≤ 10 := by rw [← hS, List.length_append]; (first | lia | omega)
      have hUl : (vA ++ vB).length = S.length := by have := datAll_len DU; rw [List.length_map] at this; exact this
      refine src_list rfl F5 N5 (.head _) (by rw [List.length_append, sizeLine_eq]; (first | lia | omega)) (fun j zs n₂ => (∀ p ∈ (D5, lsO (vA ++ vB) 0) :: led4, p ∈ n₂) ∧ IntsAre zs (((S.take j).filter fun c => decide (c.2 = x)).map (·.1))) (fun _ => ⟨fun p hp => hp, by rw [List.take_zero]; exact .nil⟩) ?turn2 ?fin2
      case turn2 =>
        rintro I2 C2 E2 hIC2 hID2 hCD2 j v zs n₂ h6 tk6 oI2 oC2 m₂ E'' hj hv ⟨hk6, Iz⟩ hkq F6 hoC6 N6 off6
        obtain ⟨d, hd1, hd2⟩ := datAll_at DU hv
        rw [List.getElem?_map] at hd1
        obtain ⟨c, hc1, rfl⟩ := Option.map_eq_some_iff.mp hd1
        obtain ⟨Tu, kT, tT, fn, rfl, hTu, Dfn⟩ := pair_of hd2
        have hTI : IsTup h6 Tu #[.int c.1 tT, .ref fn] := ⟨_, (N6 _ (.tail _ (.tail _ (.tail _ (hk6 _ hTu))))).1, rfl, _, rfl⟩
        refine cassign_pair rfl hTI rfl rfl rfl F6 hoC6 N6 off6 hIC2 hCD2 ?_
        clear F6 N6 hoC6 hTI
        intro h7 oC7 F7 hoC7 N7
        have hm7 : (C2, oC7) ∈ (I2, oI2) :: (C2, oC7) :: (E2, lst zs) :: n₂ := .tail _ (.head _)
        obtain ⟨m7, hm7', hmany, hwhich⟩ : ∃ m7, NsObj oC7 m7 ∧ m7 (Str.ofString "many") = some (.int c.1 tT) ∧ m7 (Str.ofString "which") = some (.ref fn) := ⟨_, hoC7, by rw [if_neg (by decide), if_pos rfl], by rw [if_pos rfl]⟩
        have k7 : ∀ p ∈ led4, p ∈ (I2, oI2) :: (C2, oC7) :: (E2, lst zs) :: n₂ := fun p hp => .tail _ (.tail _ (.tail _ (hk6 p (.tail _ hp))))
        have hM7 := k7 _ hM4
        have ho37 := k7 _ ho34
        have hP7 := k7 _ hP4
        refine wpAny_tests_one ?_
        (repeat' ((fail_if_success (first | (with_reducible show wpAny _ _ (call (Value.ref _) _ _) _ _ _) | (with_reducible show wpAny _ _ (pyIter _) _ _ _) | (with_reducible show wpAny _ _ (call (Value.builtin "len") _ _) _ _ _) | (with_reducible show wpAny _ _ (call (Value.builtin "sum") _ _) _ _ _) | (with_reducible show wpAny _ _ (binaryOp Operator.Add (Value.ref _) (Value.ref _)) _ _ _) | (with_reducible show wpAny _ _ (compareOp CmpOp.NotIn _ (Value.ref _)) _ _ _) | (with_reducible show wpAny _ _ (compareOp CmpOp.Eq (Value.ref _) (Value.ref _)) _ _ _) | (with_reducible show wpAny _ _ (subscriptTail _ _ (Value.ref _) _) _ _ _) | (with_reducible show wpAny _ _ (execs (Stmt.If _ _ _ _ :: _) _) _ _ _) | (with_reducible show wpAny _ _ (eval (Expr.ListComp _ _ _ _) _) _ _ _))); first | (k_unfold; (try dsimp only)) | (k_end; wrow_close) | (dsimp only; walk1) | walk1))
        refine item_listI N7 hM7 (by (first | lia | omega)) (by (first | lia | omega)) hvi ?_
        (repeat' ((fail_if_success (first | (with_reducible show wpAny _ _ (call (Value.ref _) _ _) _ _ _) | (with_reducible show wpAny _ _ (pyIter _) _ _ _) | (with_reducible show wpAny _ _ (call (Value.builtin "len") _ _) _ _ _) | (with_reducible show wpAny _ _ (call (Value.builtin "sum") _ _) _ _ _) | (with_reducible show wpAny _ _ (binaryOp Operator.Add (Value.ref _) (Value.ref _)) _ _ _) | (with_reducible show wpAny _ _ (compareOp CmpOp.NotIn _ (Value.ref _)) _ _ _) | (with_reducible show wpAny _ _ (compareOp CmpOp.Eq (Value.ref _) (Value.ref _)) _ _ _) | (with_reducible show wpAny _ _ (subscriptTail _ _ (Value.ref _) _) _ _ _) | (with_reducible show wpAny _ _ (execs (Stmt.If _ _ _ _ :: _) _) _ _ _) | (with_reducible show wpAny _ _ (eval (Expr.ListComp _ _ _ _) _) _ _ _))); first | (k_unfold; (try dsimp only)) | (k_end; wrow_close) | (dsimp only; walk1) | walk1))
        have okc : FnOk c.2 := by
          have hm : c ∈ up ++ lo := by rw [hS]; exact List.mem_of_getElem? hc1
          exact ((List.mem_append.mp hm).elim (oku c) (okl c)).2.ok
        refine dat_eq N7 (Dfn.mono fun p hp => .tail _ (.tail _ (.tail _ (hk6 p hp)))) ((hx2.mono k4).mono k7) (fn_kqd okc 7) (fn_kqd okx 7) (by ktr_units) ?_
        intro b2 hb2
        have hb2' : b2 = true ↔ c.2 = x := hb2.trans fnD_inj
        clear hb2
        (repeat' ((fail_if_success (first | (with_reducible show wpAny _ _ (call (Value.ref _) _ _) _ _ _) | (with_reducible show wpAny _ _ (pyIter _) _ _ _) | (with_reducible show wpAny _ _ (call (Value.builtin "len") _ _) _ _ _) | (with_reducible show wpAny _ _ (call (Value.builtin "sum") _ _) _ _ _) | (with_reducible show wpAny _ _ (binaryOp Operator.Add (Value.ref _) (Value.ref _)) _ _ _) | (with_reducible show wpAny _ _ (compareOp CmpOp.NotIn _ (Value.ref _)) _ _ _) | (with_reducible show wpAny _ _ (compareOp CmpOp.Eq (Value.ref _) (Value.ref _)) _ _ _) | (with_reducible show wpAny _ _ (subscriptTail _ _ (Value.ref _) _) _ _ _) | (with_reducible show wpAny _ _ (execs (Stmt.If _ _ _ _ :: _) _) _ _ _) | (with_reducible show wpAny _ _ (eval (Expr.ListComp _ _ _ _) _) _ _ _))); first | (k_unfold; (try dsimp only)) | (k_end; wrow_close) | (dsimp only; walk1) | walk1))
        · refine ⟨h7, _, oC7, _, n₂, rfl, F7, hm7', N7, off6, hkq, hk6, ?_⟩
          rw [List.take_add_one, hc1, Option.toList_some, List.filter_append, List.map_append]
          refine Iz.append ?_
          rw [filter_one (hb2'.mp (by assumption))]
          exact .cons _ _ .nil
        · refine ⟨h7, _, oC7, _, n₂, rfl, F7, hm7', N7, off6, hkq, hk6, ?_⟩
          rw [List.take_add_one, hc1, Option.toList_some, List.filter_append, filter_none (fun h => by
            rename (b2 = false) => hf
            rw [hb2'.mpr h] at hf; cases hf), List.append_nil]
          exact Iz
      case fin2 =>
        rintro D8 h8 tk8 zs n₂ F8 N8 off8 ⟨hk8, Iz⟩
        rw [List.take_of_length_le (by (first | lia | omega))] at Iz
        (repeat' ((fail_if_success (first | (with_reducible show wpAny _ _ (call (Value.ref _) _ _) _ _ _) | (with_reducible show wpAny _ _ (pyIter _) _ _ _) | (with_reducible show wpAny _ _ (call (Value.builtin "len") _ _) _ _ _) | (with_reducible show wpAny _ _ (call (Value.builtin "sum") _ _) _ _ _) | (with_reducible show wpAny _ _ (binaryOp Operator.Add (Value.ref _) (Value.ref _)) _ _ _) | (with_reducible show wpAny _ _ (compareOp CmpOp.NotIn _ (Value.ref _)) _ _ _) | (with_reducible show wpAny _ _ (compareOp CmpOp.Eq (Value.ref _) (Value.ref _)) _ _ _) | (with_reducible show wpAny _ _ (subscriptTail _ _ (Value.ref _) _) _ _ _) | (with_reducible show wpAny _ _ (execs (Stmt.If _ _ _ _ :: _) _) _ _ _) | (with_reducible show wpAny _ _ (eval (Expr.ListComp _ _ _ _) _) _ _ _))); first | (k_unfold; (try dsimp only)) | (k_end; wrow_close) | (dsimp only; walk1) | walk1))
        refine sumK rfl F8 N8 ⟨_, (N8 _ (.head _)).1, rfl, _, rfl⟩ Iz ?_
        clear F8
        intro h9 tk9 t9 F9 N9
        clear N8
        (repeat' ((fail_if_success (first | (with_reducible show wpAny _ _ (call (Value.ref _) _ _) _ _ _) | (with_reducible show wpAny _ _ (pyIter _) _ _ _) | (with_reducible show wpAny _ _ (call (Value.builtin "len") _ _) _ _ _) | (with_reducible show wpAny _ _ (call (Value.builtin "sum") _ _) _ _ _) | (with_reducible show wpAny _ _ (binaryOp Operator.Add (Value.ref _) (Value.ref _)) _ _ _) | (with_reducible show wpAny _ _ (compareOp CmpOp.NotIn _ (Value.ref _)) _ _ _) | (with_reducible show wpAny _ _ (compareOp CmpOp.Eq (Value.ref _) (Value.ref _)) _ _ _) | (with_reducible show wpAny _ _ (subscriptTail _ _ (Value.ref _) _) _ _ _) | (with_reducible show wpAny _ _ (execs (Stmt.If _ _ _ _ :: _) _) _ _ _) | (with_reducible show wpAny _ _ (eval (Expr.ListComp _ _ _ _) _) _ _ _))); first | (k_unfold; (try dsimp only)) | (k_end; wrow_close) | (dsimp only; walk1) | walk1))
        rename Fr g L _ _ => F10
        rename News g L _ _ => N10
        rename (_ < _ ∧ AllLt _ n₂) => l10
        rename_i DT h10
        replace N10 : News g L h10 ((DT, tupO [.ref fi, .int (totC S x) t9]) :: (D8, lst zs) :: n₂) := N10
        have hxt : x ∉ met.take i := hb'.mp (by assumption)
        have in2 : ∀ p ∈ led4, p ∈ n₂ := fun p hp => hk8 p (.tail _ hp)
        have h4I : (I, oI) ∈ n₂ := in2 _ (by rw [hled4]; exact .tail _ (.head _))
        have h4C : (C, oC₁) ∈ n₂ := in2 _ (by rw [hled4]; exact .tail _ (.tail _ (.head _)))
        have h4D : (D, lst ys) ∈ n₂ := in2 _ (by rw [hled4]; exact .tail _ (.tail _ (.tail _ (.head _))))
        have h43 : ∀ p ∈ n3, p ∈ n₂ := fun p hp => in2 p (by rw [hled4]; exact .tail _ (.tail _ (.tail _ (.tail _ hp))))
        have lt2 : ∀ p ∈ n₂, p.1 ≠ DT := fun p hp => Nat.ne_of_lt (tb_ltOf l10.2 p hp)
        have in3 : ∀ p ∈ n3, p ∈ offI I (offI C (offI D n₂)) := fun p hp => mem_offI.mpr ⟨mem_offI.mpr ⟨mem_offI.mpr ⟨h43 p hp, (off3 p hp).2.2⟩, (off3 p hp).2.1⟩, (off3 p hp).1⟩
        refine ⟨_, _, oC₁, _, (DT, tupO [.ref fi, .int (totC S x) t9]) :: offI I (offI C (offI D n₂)), rfl, F10, hoC, fun p hp => ?_, fun p hp => ?_, fun p hp => (nomatch hp), fun p hp => ⟨.tail _ ?_, (hkp p hp).2⟩, ⟨oP, _, .tail _ ?_, hdP⟩, ?_⟩
        · rcases List.mem_cons.mp hp with rfl | hp
          · exact N10 _ (.tail _ (.tail _ h4I))
          · rcases List.mem_cons.mp hp with rfl | hp
            · exact N10 _ (.tail _ (.tail _ h4C))
            · rcases List.mem_cons.mp hp with rfl | hp
              · exact N10 _ (.tail _ (.tail _ h4D))
              · rcases List.mem_cons.mp hp with rfl | hp
                · exact N10 _ (.head _)
                · exact N10 _ (.tail _ (.tail _ (mem_offI.mp (mem_offI.mp (mem_offI.mp hp).1).1).1))
        · rcases List.mem_cons.mp hp with rfl | hp
          · exact ⟨(lt2 _ h4I).symm, (lt2 _ h4C).symm, (lt2 _ h4D).symm⟩
          · exact ⟨(mem_offI.mp hp).2, (mem_offI.mp (mem_offI.mp hp).1).2, (mem_offI.mp (mem_offI.mp (mem_offI.mp hp).1).1).2⟩
        · exact in3 _ (kn3 p hp)
        · exact in3 _ hP3
        · rw [List.take_add_one, hx1, Option.toList_some, uniq_snoc, addK1, if_neg (fun z => hxt (mem_uniq.mp z)), List.map_append]
          refine datAll_snoc (Dy3.mono fun p hp => .tail _ (in3 p hp)) ?_
          refine .tuple (.head _) (.cons (hx2.mono fun p hp => .tail _ (in3 p (kn3 p hp))) (.cons ?_ .nil))
          rw [← hR, totC_rev]
          exact .int _ _
    · rename (b = false) => hbf
      have hxt : x ∈ met.take i := Decidable.not_not.mp fun h => by rw [hb'.mpr h] at hbf; cases hbf
      have lt4 : ∀ p ∈ (I, oI) :: (C, oC₁) :: (D, lst ys) :: n3, p.1 ≠ D4 := fun p hp => Nat.ne_of_lt (l4 p hp)
      refine ⟨h4, _, oC₁, _, (D4, lsO (vM.take i) 0) :: n3, rfl, F4, hoC, fun p hp => ?_, fun p hp => ?_, fun p hp => (nomatch hp), fun p hp => ⟨.tail _ (kn3 p hp), (hkp p hp).2⟩, ⟨oP, _, .tail _ hP3, hdP⟩, ?_⟩
      · rcases List.mem_cons.mp hp with rfl | hp
        · exact N4 _ (.tail _ (.head _))
        · rcases List.mem_cons.mp hp with rfl | hp
          · exact N4 _ (.tail _ (.tail _ (.head _)))
          · rcases List.mem_cons.mp hp with rfl | hp
            · exact N4 _ (.tail _ (.tail _ (.tail _ (.head _))))
            · rcases List.mem_cons.mp hp with rfl | hp
              · exact N4 _ (.head _)
              · exact N4 _ (.tail _ (.tail _ (.tail _ (.tail _ hp))))
      · rcases List.mem_cons.mp hp with rfl | hp
        · exact ⟨(lt4 _ (.head _)).symm, (lt4 _ (.tail _ (.head _))).symm, (lt4 _ (.tail _ (.tail _ (.head _)))).symm⟩
        · exact off3 p hp
      · rw [List.take_add_one, hx1, Option.toList_some, uniq_snoc, addK1, if_pos (mem_uniq.mpr hxt)]
        exact Dy3.mono fun p hp => .tail _ hp
  case fin =>
    rintro D C h2 tk2 ys n2 F2 N2 off2 ⟨hkp, _, Dy⟩
    rw [List.take_of_length_le (by (first | lia | omega))] at Dy
    refine hnext h2 tk2 _ D F2 N2 (fun p hp => .tail _ (hkp p hp).1) (.list (.head _) ?_)
    have e : (dueL (up ++ lo)).map itemD = (uniq met).map fun k => itemD (k, totC R k) := by
      unfold dueL
      rw [List.map_map, hR, hmet, ← hR]
      exact List.map_congr_left fun k _ => by rw [totC_rev]; rfl
    rw [e]
    exact Dy.mono fun p hp => .tail _ hp
end Mine
end

/-! ## LLaw5 -/
section
theorem Mine.startLLaw5 : True := by
  w_top off
  trivial
open PySem PySem.W PyProof.Rows PySem.Calls PySem.Spec
set_option Elab.async false
namespace Mine
/-- all but cells is kept -/
noncomputable abbrev KeepNC (news news' : Led) : Prop := ∀ p ∈ news, (∀ v, p.2.data ≠ .cell v) → p ∈ news'
theorem Ent.nc {news news' : Led} {ps : Array Value} {pos : Pos} {q : Str} (e : Ent news ps pos q) (k : KeepNC news news') : Ent news' ps pos q := by
  rcases e with e | ⟨c', oc, e1, e2, e3, vs, t, e4, e5⟩
  · exact .inl e
  · exact .inr ⟨c', oc, e1, k _ e2 (fun v z => by rw [e4] at z; cases z), e3, vs, t, e4, e5⟩
theorem In2.nc {news news' : Led} {P2 : Addr} (x : In2 news P2) (k : KeepNC news news') : In2 news' P2 := by
  obtain ⟨ps, h1, h2, h3, h4⟩ := x.ex
  exact ⟨ps, k _ h1 (fun _ z => nomatch z), h2, h3.nc k, h4.nc k⟩
theorem Tabs.nc {news news' : Led} (x : Tabs news) (k : KeepNC news news') : Tabs news' := by
  obtain ⟨ps, h1, h2, h3, h4⟩ := x
  refine ⟨ps, k _ h1 (fun _ z => nomatch z), h2, h3.nc k, ?_⟩
  rcases h4 with h4 | ⟨c1, oc, P2, h5, h6, h7, h8, h9, h10⟩
  · exact .inl h4
  · obtain ⟨vs, t, e4, e5⟩ := id h8
    exact .inr ⟨c1, oc, P2, h5, k _ h6 (fun v z => by rw [e4] at z; cases z), h7, h8, h9, h10.nc k⟩
theorem Tbl.nc {w : World} {news news' : Led} {d : Addr} {xs : List (Fn × Int)} (T : Tbl w news d xs) (k : KeepNC news news') : Tbl w news' d xs := by
  obtain ⟨ys, T, e⟩ := T
  obtain ⟨o, es, ep, hm, hc, hd, he⟩ := T.obj
  exact ⟨ys, ⟨T.lo, ⟨o, es, ep, k _ hm (fun v z => by rw [hd] at z; cases z), hc, hd, he⟩, fun y hy => dat_keep (fun p hp _ hs => k p hp fun v z => by obtain ⟨xs, n, e⟩ := hs; rw [e] at z; cases z) (T.keys y hy), T.nd⟩, e⟩
theorem due_ok {S : List Call} (ok : ∀ c ∈ S, CallOk c) : ∀ y ∈ dueL S, FnOk y.1 := fun y hy => by
  unfold dueL at hy
  obtain ⟨k, hk, rfl⟩ := List.mem_map.mp hy
  obtain ⟨c, hc, rfl⟩ := List.mem_map.mp (mem_uniq.mp hk)
  exact (ok c (List.mem_reverse.mp hc)).2.ok
theorem table_ok {S : List Call} (ok : ∀ c ∈ S, CallOk c) : kqdOk 8 (.list ((tableOf S).map itemD)) = true := list_kqd (fun y hy => due_ok ok y (table_due S ▸ hy)) 5
theorem two_ok {S R : List Call} (ok : ∀ c ∈ S, CallOk c) (ok' : ∀ c ∈ R, CallOk c) : kqdOk 8 (.list [.list ((tableOf S).map itemD), .list ((tableOf R).map itemD)]) = true := by
  have h1 : kqdOk 7 (.list ((tableOf S).map itemD)) = true := list_kqd (fun y hy => due_ok ok y (table_due S ▸ hy)) 4
  have h2 : kqdOk 7 (.list ((tableOf R).map itemD)) = true := list_kqd (fun y hy => due_ok ok' y (table_due R ▸ hy)) 4
  show (kqdOk 7 _ && (kqdOk 7 _ && true)) = true
  rw [h1, h2]; rfl
noncomputable abbrev m5 (m : Str → Option Value) (D : Addr) (U W : Str) (tU tW : Tok) (d Du : Addr) : Str → Option Value := fun y => if y = Str.ofString "due" then some (Value.ref Du) else m2 m D U W tU tW d y
set_option maxRecDepth 100000 in
set_option maxHeartbeats 8000000 in
theorem lawEnd (w : World) {p : Program} {loose : List Str} {mean : ExcName → Option Value} {mg mb : Str → Option Value} {g : Heap} {L fa sa : Addr} {cd : Value} {s : Shared} {E : Value → Shared → Prop} {Q : Flow → Shared → Prop}
    {news : Led} {up lo : List Call} {U W : Str} {tU tW : Tok} {D d Du : Addr}
    (B : Below callerA g [] g) (F : Fr g L s.heap (m5 (m0 sa) D U W tU tW d Du)) (X : (hd.heap_39 w.params).In g) (N : News g L s.heap news) (T : Top p loose mean mg mb g)
    (CA : CellL news (L + 1) up) (CB : CellL news (L + 2) lo) (hT : Tabs news) (TB : Tbl w news d (tableOf (up ++ lo))) (DD : DatIn news (.ref Du) (.list ((dueL (up ++ lo)).map itemD)))
    (oku : ∀ c ∈ up, CallOk c) (okl : ∀ c ∈ lo, CallOk c) (hu : up ≠ []) (hl : lo ≠ []) (hn : up.length ≤ 5 ∧ lo.length ≤ 5)
    (hU : U.cps.toList = joinC (up.map rowC)) (hUl : U.length ≤ 1235) (hW : W.cps.toList = joinC (lo.map rowC)) (hWl : W.length ≤ 1235)
    (hnext : ∀ h' tk news' m', Fr g L h' m' → News g L h' news' → m' (Str.ofString "both") = some (Value.ref d) → CellL news' (L + 1) up → CellL news' (L + 2) lo → Tabs news' → Tbl w news' d (tableOf (up ++ lo)) →
      wpAny (model PySem.Challenge.rw_ny0043_01.row.prog w) (callerA.deeper (lawE L fa cd)) (execs ((stB lawD).drop 12) (lawE L fa cd)) Q (fun _ _ => False) { s with heap := h', toks := tk }) :
    wpAny (model PySem.Challenge.rw_ny0043_01.row.prog w) (callerA.deeper (lawE L fa cd)) (execs ((stB lawD).drop 7) (lawE L fa cd)) Q E s := by
  revert X
  k_fill
  intro X
  refine any_false ?_
  dsimp only [lawE, stB, stS, lawD, nth, PySem.Challenge.pw_ny0043_01, List.drop]
  dsimp only [lawE, stB, stS, lawD, nth, PySem.Challenge.pw_ny0043_01, List.drop] at hnext
  unfold m0 at F
  try dsimp only [m5, m2] at F
  obtain ⟨es, Te, ee⟩ := id TB
  (repeat' ((fail_if_success (first | (with_reducible show wpAny _ _ (call (Value.ref _) _ _) _ _ _) | (with_reducible show wpAny _ _ (pyIter _) _ _ _) | (with_reducible show wpAny _ _ (call (Value.builtin "dict.items") _ _) _ _ _) | (with_reducible show wpAny _ _ (call (Value.builtin "sum") _ _) _ _ _) | (with_reducible show wpAny _ _ (call (Value.type "list") _ _) _ _ _) | (with_reducible show wpAny _ _ (getMethod (Value.ref _) _ _) _ _ _) | (with_reducible show wpAny _ _ (binaryOp Operator.Add (Value.ref _) (Value.ref _)) _ _ _) | (with_reducible show wpAny _ _ (compareOp CmpOp.NotEq (Value.ref _) (Value.ref _)) _ _ _) | (with_reducible show wpAny _ _ (execs (Stmt.Return _ _ :: _) _) _ _ _) | (with_reducible show wpAny _ _ (eval (Expr.ListComp _ _ _ _) _) _ _ _))); first | (k_unfold; (try dsimp only)) | (k_end; wrow_close) | (dsimp only; walk1) | walk1))
  refine tbl_mItems N Te ?_
  (repeat' ((fail_if_success (first | (with_reducible show wpAny _ _ (call (Value.ref _) _ _) _ _ _) | (with_reducible show wpAny _ _ (pyIter _) _ _ _) | (with_reducible show wpAny _ _ (call (Value.builtin "dict.items") _ _) _ _ _) | (with_reducible show wpAny _ _ (call (Value.builtin "sum") _ _) _ _ _) | (with_reducible show wpAny _ _ (call (Value.type "list") _ _) _ _ _) | (with_reducible show wpAny _ _ (getMethod (Value.ref _) _ _) _ _ _) | (with_reducible show wpAny _ _ (binaryOp Operator.Add (Value.ref _) (Value.ref _)) _ _ _) | (with_reducible show wpAny _ _ (compareOp CmpOp.NotEq (Value.ref _) (Value.ref _)) _ _ _) | (with_reducible show wpAny _ _ (execs (Stmt.Return _ _ :: _) _) _ _ _) | (with_reducible show wpAny _ _ (eval (Expr.ListComp _ _ _ _) _) _ _ _))); first | (k_unfold; (try dsimp only)) | (k_end; wrow_close) | (dsimp only; walk1) | walk1))
  refine tbl_items F N Te ?_
  intro v1 h1 F1 N1 lt1
  (repeat' ((fail_if_success (first | (with_reducible show wpAny _ _ (call (Value.ref _) _ _) _ _ _) | (with_reducible show wpAny _ _ (pyIter _) _ _ _) | (with_reducible show wpAny _ _ (call (Value.builtin "dict.items") _ _) _ _ _) | (with_reducible show wpAny _ _ (call (Value.builtin "sum") _ _) _ _ _) | (with_reducible show wpAny _ _ (call (Value.type "list") _ _) _ _ _) | (with_reducible show wpAny _ _ (getMethod (Value.ref _) _ _) _ _ _) | (with_reducible show wpAny _ _ (binaryOp Operator.Add (Value.ref _) (Value.ref _)) _ _ _) | (with_reducible show wpAny _ _ (compareOp CmpOp.NotEq (Value.ref _) (Value.ref _)) _ _ _) | (with_reducible show wpAny _ _ (execs (Stmt.Return _ _ :: _) _) _ _ _) | (with_reducible show wpAny _ _ (eval (Expr.ListComp _ _ _ _) _) _ _ _))); first | (k_unfold; (try dsimp only)) | (k_end; wrow_close) | (dsimp only; walk1) | walk1))
  have okS : ∀ c ∈ up ++ lo, CallOk c := fun c hc => (List.mem_append.mp hc).elim (oku c) (okl c)
  have lenS : (tableOf (up ++ lo)).length ≤ 10 := by have := tableOf_len (up ++ lo); rw [List.length_append] at this; (first | lia | omega)
  refine tbl_list rfl F1 N1 (TB.mono fun p hp => .tail _ hp) (.head _) (by (first | lia | omega)) ?_
  intro D2 h2 tk2 n2 F2 N2 k2 DL
  have k2' : ∀ p ∈ news, p ∈ n2 := fun p hp => k2 p (.tail _ hp)
  (repeat' ((fail_if_success (first | (with_reducible show wpAny _ _ (call (Value.ref _) _ _) _ _ _) | (with_reducible show wpAny _ _ (pyIter _) _ _ _) | (with_reducible show wpAny _ _ (call (Value.builtin "dict.items") _ _) _ _ _) | (with_reducible show wpAny _ _ (call (Value.builtin "sum") _ _) _ _ _) | (with_reducible show wpAny _ _ (call (Value.type "list") _ _) _ _ _) | (with_reducible show wpAny _ _ (getMethod (Value.ref _) _ _) _ _ _) | (with_reducible show wpAny _ _ (binaryOp Operator.Add (Value.ref _) (Value.ref _)) _ _ _) | (with_reducible show wpAny _ _ (compareOp CmpOp.NotEq (Value.ref _) (Value.ref _)) _ _ _) | (with_reducible show wpAny _ _ (execs (Stmt.Return _ _ :: _) _) _ _ _) | (with_reducible show wpAny _ _ (eval (Expr.ListComp _ _ _ _) _) _ _ _))); first | (k_unfold; (try dsimp only)) | (k_end; wrow_close) | (dsimp only; walk1) | walk1))
  refine dat_ne N2 DL (DD.mono k2') (table_ok okS) (by rw [← table_due]; exact table_ok okS) (by ktr_units) ?_
  intro b hb
  obtain rfl : b = false := by
    cases b with
    | false => rfl
    | true => exact absurd (by rw [table_due]) (hb.mp rfl)
  clear hb
  (repeat' ((fail_if_success (first | (with_reducible show wpAny _ _ (call (Value.ref _) _ _) _ _ _) | (with_reducible show wpAny _ _ (pyIter _) _ _ _) | (with_reducible show wpAny _ _ (call (Value.builtin "dict.items") _ _) _ _ _) | (with_reducible show wpAny _ _ (call (Value.builtin "sum") _ _) _ _ _) | (with_reducible show wpAny _ _ (call (Value.type "list") _ _) _ _ _) | (with_reducible show wpAny _ _ (getMethod (Value.ref _) _ _) _ _ _) | (with_reducible show wpAny _ _ (binaryOp Operator.Add (Value.ref _) (Value.ref _)) _ _ _) | (with_reducible show wpAny _ _ (compareOp CmpOp.NotEq (Value.ref _) (Value.ref _)) _ _ _) | (with_reducible show wpAny _ _ (execs (Stmt.Return _ _ :: _) _) _ _ _) | (with_reducible show wpAny _ _ (eval (Expr.ListComp _ _ _ _) _) _ _ _))); first | (k_unfold; (try dsimp only)) | (k_end; wrow_close) | (dsimp only; walk1) | walk1))
  refine tableK w _ _ lo hl okl hW (by (first | lia | omega)) (by (first | lia | omega)) _ _ _ _ _ _ _ _ _ _ _ _ _ _ _ _ _ _ _ _ _ _ _ B F2 X N2 T rfl (by ktr_room) (by ktr_units) (hT.mono k2') ?_
  rintro r n3 h3 tk3 F3 N3 ⟨k3, T3, dl, rfl, TL⟩
  have k3' : KeepNT news n3 := fun p hp hc => k3 p (k2' p hp) hc
  clear F F1 F2 N1 N2 N DL
  (repeat' ((fail_if_success (first | (with_reducible show wpAny _ _ (call (Value.ref _) _ _) _ _ _) | (with_reducible show wpAny _ _ (pyIter _) _ _ _) | (with_reducible show wpAny _ _ (call (Value.builtin "dict.items") _ _) _ _ _) | (with_reducible show wpAny _ _ (call (Value.builtin "sum") _ _) _ _ _) | (with_reducible show wpAny _ _ (call (Value.type "list") _ _) _ _ _) | (with_reducible show wpAny _ _ (getMethod (Value.ref _) _ _) _ _ _) | (with_reducible show wpAny _ _ (binaryOp Operator.Add (Value.ref _) (Value.ref _)) _ _ _) | (with_reducible show wpAny _ _ (compareOp CmpOp.NotEq (Value.ref _) (Value.ref _)) _ _ _) | (with_reducible show wpAny _ _ (execs (Stmt.Return _ _ :: _) _) _ _ _) | (with_reducible show wpAny _ _ (eval (Expr.ListComp _ _ _ _) _) _ _ _))); first | (k_unfold; (try dsimp only)) | (k_end; wrow_close) | (dsimp only; walk1) | walk1))
  rename Fr g L _ _ => F4
  rename News g L _ _ => N4
  refine tableK w _ _ up hu oku hU (by (first | lia | omega)) (by (first | lia | omega)) _ _ _ _ _ _ _ _ _ _ _ _ _ _ _ _ _ _ _ _ _ _ _ B F4 X N4 T rfl (by ktr_room) (by ktr_units) T3 ?_
  rintro r n5 h5 tk5 F5 N5 ⟨k5, T5, dh, rfl, TH⟩
  have TL5 := TL.keepNT k5
  have k5' : KeepNT news n5 := k3'.trans k5
  have TB5 := TB.keepNT k5'
  have DD5 := dat_keep k5'.seq DD
  have CA5 := CA.nt k5'
  have CB5 := CB.nt k5'
  clear F4 N4 T3 TL k2 k2' k3 k3' k5 k5' CA CB DD TB hT Te ee
  (repeat' ((fail_if_success (first | (with_reducible show wpAny _ _ (call (Value.ref _) _ _) _ _ _) | (with_reducible show wpAny _ _ (pyIter _) _ _ _) | (with_reducible show wpAny _ _ (call (Value.builtin "dict.items") _ _) _ _ _) | (with_reducible show wpAny _ _ (call (Value.builtin "sum") _ _) _ _ _) | (with_reducible show wpAny _ _ (call (Value.type "list") _ _) _ _ _) | (with_reducible show wpAny _ _ (getMethod (Value.ref _) _ _) _ _ _) | (with_reducible show wpAny _ _ (binaryOp Operator.Add (Value.ref _) (Value.ref _)) _ _ _) | (with_reducible show wpAny _ _ (compareOp CmpOp.NotEq (Value.ref _) (Value.ref _)) _ _ _) | (with_reducible show wpAny _ _ (execs (Stmt.Return _ _ :: _) _) _ _ _) | (with_reducible show wpAny _ _ (eval (Expr.ListComp _ _ _ _) _) _ _ _))); first | (k_unfold; (try dsimp only)) | (k_end; wrow_close) | (dsimp only; walk1) | walk1))
  rename Fr g L _ _ => F6
  rename News g L _ _ => N6
  obtain ⟨el, TeL, eeL⟩ := id TL5
  obtain ⟨eh, TeH, eeH⟩ := id TH
  refine tbl_mItems N6 TeL ?_
  (repeat' ((fail_if_success (first | (with_reducible show wpAny _ _ (call (Value.ref _) _ _) _ _ _) | (with_reducible show wpAny _ _ (pyIter _) _ _ _) | (with_reducible show wpAny _ _ (call (Value.builtin "dict.items") _ _) _ _ _) | (with_reducible show wpAny _ _ (call (Value.builtin "sum") _ _) _ _ _) | (with_reducible show wpAny _ _ (call (Value.type "list") _ _) _ _ _) | (with_reducible show wpAny _ _ (getMethod (Value.ref _) _ _) _ _ _) | (with_reducible show wpAny _ _ (binaryOp Operator.Add (Value.ref _) (Value.ref _)) _ _ _) | (with_reducible show wpAny _ _ (compareOp CmpOp.NotEq (Value.ref _) (Value.ref _)) _ _ _) | (with_reducible show wpAny _ _ (execs (Stmt.Return _ _ :: _) _) _ _ _) | (with_reducible show wpAny _ _ (eval (Expr.ListComp _ _ _ _) _) _ _ _))); first | (k_unfold; (try dsimp only)) | (k_end; wrow_close) | (dsimp only; walk1) | walk1))
  refine tbl_items F6 N6 TeL ?_
  intro v7 h7 F7 N7 lt7
  (repeat' ((fail_if_success (first | (with_reducible show wpAny _ _ (call (Value.ref _) _ _) _ _ _) | (with_reducible show wpAny _ _ (pyIter _) _ _ _) | (with_reducible show wpAny _ _ (call (Value.builtin "dict.items") _ _) _ _ _) | (with_reducible show wpAny _ _ (call (Value.builtin "sum") _ _) _ _ _) | (with_reducible show wpAny _ _ (call (Value.type "list") _ _) _ _ _) | (with_reducible show wpAny _ _ (getMethod (Value.ref _) _ _) _ _ _) | (with_reducible show wpAny _ _ (binaryOp Operator.Add (Value.ref _) (Value.ref _)) _ _ _) | (with_reducible show wpAny _ _ (compareOp CmpOp.NotEq (Value.ref _) (Value.ref _)) _ _ _) | (with_reducible show wpAny _ _ (execs (Stmt.Return _ _ :: _) _) _ _ _) | (with_reducible show wpAny _ _ (eval (Expr.ListComp _ _ _ _) _) _ _ _))); first | (k_unfold; (try dsimp only)) | (k_end; wrow_close) | (dsimp only; walk1) | walk1))
  have lenL : (tableOf lo).length ≤ 5 := Nat.le_trans (tableOf_len lo) hn.2
  have lenH : (tableOf up).length ≤ 5 := Nat.le_trans (tableOf_len up) hn.1
  refine tbl_list rfl F7 N7 (TL5.mono fun p hp => .tail _ hp) (.head _) (by (first | lia | omega)) ?_
  intro L8 h8 tk8 n8 F8 N8 k8 DL8
  have k8' : ∀ p ∈ n5, p ∈ n8 := fun p hp => k8 p (.tail _ hp)
  clear F7 N7 F6 N6 k8
  (repeat' ((fail_if_success (first | (with_reducible show wpAny _ _ (call (Value.ref _) _ _) _ _ _) | (with_reducible show wpAny _ _ (pyIter _) _ _ _) | (with_reducible show wpAny _ _ (call (Value.builtin "dict.items") _ _) _ _ _) | (with_reducible show wpAny _ _ (call (Value.builtin "sum") _ _) _ _ _) | (with_reducible show wpAny _ _ (call (Value.type "list") _ _) _ _ _) | (with_reducible show wpAny _ _ (getMethod (Value.ref _) _ _) _ _ _) | (with_reducible show wpAny _ _ (binaryOp Operator.Add (Value.ref _) (Value.ref _)) _ _ _) | (with_reducible show wpAny _ _ (compareOp CmpOp.NotEq (Value.ref _) (Value.ref _)) _ _ _) | (with_reducible show wpAny _ _ (execs (Stmt.Return _ _ :: _) _) _ _ _) | (with_reducible show wpAny _ _ (eval (Expr.ListComp _ _ _ _) _) _ _ _))); first | (k_unfold; (try dsimp only)) | (k_end; wrow_close) | (dsimp only; walk1) | walk1))
  refine tbl_mItems N8 (TeH.mono k8') ?_
  (repeat' ((fail_if_success (first | (with_reducible show wpAny _ _ (call (Value.ref _) _ _) _ _ _) | (with_reducible show wpAny _ _ (pyIter _) _ _ _) | (with_reducible show wpAny _ _ (call (Value.builtin "dict.items") _ _) _ _ _) | (with_reducible show wpAny _ _ (call (Value.builtin "sum") _ _) _ _ _) | (with_reducible show wpAny _ _ (call (Value.type "list") _ _) _ _ _) | (with_reducible show wpAny _ _ (getMethod (Value.ref _) _ _) _ _ _) | (with_reducible show wpAny _ _ (binaryOp Operator.Add (Value.ref _) (Value.ref _)) _ _ _) | (with_reducible show wpAny _ _ (compareOp CmpOp.NotEq (Value.ref _) (Value.ref _)) _ _ _) | (with_reducible show wpAny _ _ (execs (Stmt.Return _ _ :: _) _) _ _ _) | (with_reducible show wpAny _ _ (eval (Expr.ListComp _ _ _ _) _) _ _ _))); first | (k_unfold; (try dsimp only)) | (k_end; wrow_close) | (dsimp only; walk1) | walk1))
  refine tbl_items F8 N8 (TeH.mono k8') ?_
  intro v9 h9 F9 N9 lt9
  (repeat' ((fail_if_success (first | (with_reducible show wpAny _ _ (call (Value.ref _) _ _) _ _ _) | (with_reducible show wpAny _ _ (pyIter _) _ _ _) | (with_reducible show wpAny _ _ (call (Value.builtin "dict.items") _ _) _ _ _) | (with_reducible show wpAny _ _ (call (Value.builtin "sum") _ _) _ _ _) | (with_reducible show wpAny _ _ (call (Value.type "list") _ _) _ _ _) | (with_reducible show wpAny _ _ (getMethod (Value.ref _) _ _) _ _ _) | (with_reducible show wpAny _ _ (binaryOp Operator.Add (Value.ref _) (Value.ref _)) _ _ _) | (with_reducible show wpAny _ _ (compareOp CmpOp.NotEq (Value.ref _) (Value.ref _)) _ _ _) | (with_reducible show wpAny _ _ (execs (Stmt.Return _ _ :: _) _) _ _ _) | (with_reducible show wpAny _ _ (eval (Expr.ListComp _ _ _ _) _) _ _ _))); first | (k_unfold; (try dsimp only)) | (k_end; wrow_close) | (dsimp only; walk1) | walk1))
  refine tbl_list rfl F9 N9 (TH.mono fun p hp => .tail _ (k8' p hp)) (.head _) (by (first | lia | omega)) ?_
  intro L10 h10 tk10 n10 F10 N10 k10 DH10
  have k10' : ∀ p ∈ n8, p ∈ n10 := fun p hp => k10 p (.tail _ hp)
  have DL10 := DL8.mono k10'
  clear F9 N9 F8 N8 k10
  (repeat' ((fail_if_success (first | (with_reducible show wpAny _ _ (call (Value.ref _) _ _) _ _ _) | (with_reducible show wpAny _ _ (pyIter _) _ _ _) | (with_reducible show wpAny _ _ (call (Value.builtin "dict.items") _ _) _ _ _) | (with_reducible show wpAny _ _ (call (Value.builtin "sum") _ _) _ _ _) | (with_reducible show wpAny _ _ (call (Value.type "list") _ _) _ _ _) | (with_reducible show wpAny _ _ (getMethod (Value.ref _) _ _) _ _ _) | (with_reducible show wpAny _ _ (binaryOp Operator.Add (Value.ref _) (Value.ref _)) _ _ _) | (with_reducible show wpAny _ _ (compareOp CmpOp.NotEq (Value.ref _) (Value.ref _)) _ _ _) | (with_reducible show wpAny _ _ (execs (Stmt.Return _ _ :: _) _) _ _ _) | (with_reducible show wpAny _ _ (eval (Expr.ListComp _ _ _ _) _) _ _ _))); first | (k_unfold; (try dsimp only)) | (k_end; wrow_close) | (dsimp only; walk1) | walk1))
  rename Fr g L _ _ => F11
  rename News g L _ _ => N11
  rename_i K11 h10b l11 h11
  have k11 : ∀ p ∈ n5, p ∈ (K11, PySem.W.listOf #[Value.ref L8, Value.ref L10] 0) :: n10 := fun p hp => .tail _ (k10' p (k8' p hp))
  have DK11 : DatIn ((K11, PySem.W.listOf #[Value.ref L8, Value.ref L10] 0) :: n10) (.ref K11) (.list [.list ((tableOf lo).map itemD), .list ((tableOf up).map itemD)]) :=
    .list (vs := [.ref L8, .ref L10]) (.head _) (.cons (DL10.mono fun p hp => .tail _ hp) (.cons (DH10.mono fun p hp => .tail _ hp) .nil))
  generalize hn11 : (K11, PySem.W.listOf #[Value.ref L8, Value.ref L10] 0) :: n10 = n11 at N11 k11 DK11
  clear hn11 DL10 DH10 DL8 k8' k10' lt9 lt7 lt1 l11
  have TL11 := TL5.mono k11
  have TH11 := TH.mono k11
  refine addK w dl dh (tableOf lo) (tableOf up) (by (first | lia | omega)) _ _ _ _ _ _ _ _ _ _ _ _ _ _ _ _ _ _ _ _ _ _ _ B F11 X N11 T rfl (by ktr_room) (by ktr_units) ⟨TL11, TH11⟩ ?_
  rintro r n12 h12 tk12 F12 N12 ⟨k12, dm, rfl, TM⟩
  rw [merge_due] at TM
  obtain ⟨em, TeM, eeM⟩ := id TM
  clear F11 N11
  (repeat' ((fail_if_success (first | (with_reducible show wpAny _ _ (call (Value.ref _) _ _) _ _ _) | (with_reducible show wpAny _ _ (pyIter _) _ _ _) | (with_reducible show wpAny _ _ (call (Value.builtin "dict.items") _ _) _ _ _) | (with_reducible show wpAny _ _ (call (Value.builtin "sum") _ _) _ _ _) | (with_reducible show wpAny _ _ (call (Value.type "list") _ _) _ _ _) | (with_reducible show wpAny _ _ (getMethod (Value.ref _) _ _) _ _ _) | (with_reducible show wpAny _ _ (binaryOp Operator.Add (Value.ref _) (Value.ref _)) _ _ _) | (with_reducible show wpAny _ _ (compareOp CmpOp.NotEq (Value.ref _) (Value.ref _)) _ _ _) | (with_reducible show wpAny _ _ (execs (Stmt.Return _ _ :: _) _) _ _ _) | (with_reducible show wpAny _ _ (eval (Expr.ListComp _ _ _ _) _) _ _ _))); first | (k_unfold; (try dsimp only)) | (k_end; wrow_close) | (dsimp only; walk1) | walk1))
  refine tbl_mItems N12 TeM ?_
  (repeat' ((fail_if_success (first | (with_reducible show wpAny _ _ (call (Value.ref _) _ _) _ _ _) | (with_reducible show wpAny _ _ (pyIter _) _ _ _) | (with_reducible show wpAny _ _ (call (Value.builtin "dict.items") _ _) _ _ _) | (with_reducible show wpAny _ _ (call (Value.builtin "sum") _ _) _ _ _) | (with_reducible show wpAny _ _ (call (Value.type "list") _ _) _ _ _) | (with_reducible show wpAny _ _ (getMethod (Value.ref _) _ _) _ _ _) | (with_reducible show wpAny _ _ (binaryOp Operator.Add (Value.ref _) (Value.ref _)) _ _ _) | (with_reducible show wpAny _ _ (compareOp CmpOp.NotEq (Value.ref _) (Value.ref _)) _ _ _) | (with_reducible show wpAny _ _ (execs (Stmt.Return _ _ :: _) _) _ _ _) | (with_reducible show wpAny _ _ (eval (Expr.ListComp _ _ _ _) _) _ _ _))); first | (k_unfold; (try dsimp only)) | (k_end; wrow_close) | (dsimp only; walk1) | walk1))
  refine tbl_items F12 N12 TeM ?_
  intro v13 h13 F13 N13 lt13
  (repeat' ((fail_if_success (first | (with_reducible show wpAny _ _ (call (Value.ref _) _ _) _ _ _) | (with_reducible show wpAny _ _ (pyIter _) _ _ _) | (with_reducible show wpAny _ _ (call (Value.builtin "dict.items") _ _) _ _ _) | (with_reducible show wpAny _ _ (call (Value.builtin "sum") _ _) _ _ _) | (with_reducible show wpAny _ _ (call (Value.type "list") _ _) _ _ _) | (with_reducible show wpAny _ _ (getMethod (Value.ref _) _ _) _ _ _) | (with_reducible show wpAny _ _ (binaryOp Operator.Add (Value.ref _) (Value.ref _)) _ _ _) | (with_reducible show wpAny _ _ (compareOp CmpOp.NotEq (Value.ref _) (Value.ref _)) _ _ _) | (with_reducible show wpAny _ _ (execs (Stmt.Return _ _ :: _) _) _ _ _) | (with_reducible show wpAny _ _ (eval (Expr.ListComp _ _ _ _) _) _ _ _))); first | (k_unfold; (try dsimp only)) | (k_end; wrow_close) | (dsimp only; walk1) | walk1))
  refine tbl_list rfl F13 N13 (TM.mono fun p hp => .tail _ hp) (.head _) (by rw [← table_due]; (first | lia | omega)) ?_
  intro L14 h14 tk14 n14 F14 N14 k14 DM14
  have k14' : ∀ p ∈ n12, p ∈ n14 := fun p hp => k14 p (.tail _ hp)
  clear F13 N13 F12 N12 k14
  (repeat' ((fail_if_success (first | (with_reducible show wpAny _ _ (call (Value.ref _) _ _) _ _ _) | (with_reducible show wpAny _ _ (pyIter _) _ _ _) | (with_reducible show wpAny _ _ (call (Value.builtin "dict.items") _ _) _ _ _) | (with_reducible show wpAny _ _ (call (Value.builtin "sum") _ _) _ _ _) | (with_reducible show wpAny _ _ (call (Value.type "list") _ _) _ _ _) | (with_reducible show wpAny _ _ (getMethod (Value.ref _) _ _) _ _ _) | (with_reducible show wpAny _ _ (binaryOp Operator.Add (Value.ref _) (Value.ref _)) _ _ _) | (with_reducible show wpAny _ _ (compareOp CmpOp.NotEq (Value.ref _) (Value.ref _)) _ _ _) | (with_reducible show wpAny _ _ (execs (Stmt.Return _ _ :: _) _) _ _ _) | (with_reducible show wpAny _ _ (eval (Expr.ListComp _ _ _ _) _) _ _ _))); first | (k_unfold; (try dsimp only)) | (k_end; wrow_close) | (dsimp only; walk1) | walk1))
  refine dat_ne N14 DM14 (DD5.mono fun p hp => k14' p (k12 p (k11 p hp))) (by rw [← table_due]; exact table_ok okS) (by rw [← table_due]; exact table_ok okS) (by ktr_units) ?_
  intro b hb
  obtain rfl : b = false := by
    cases b with
    | false => rfl
    | true => exact absurd rfl (hb.mp rfl)
  clear hb
  (repeat' ((fail_if_success (first | (with_reducible show wpAny _ _ (call (Value.ref _) _ _) _ _ _) | (with_reducible show wpAny _ _ (pyIter _) _ _ _) | (with_reducible show wpAny _ _ (call (Value.builtin "dict.items") _ _) _ _ _) | (with_reducible show wpAny _ _ (call (Value.builtin "sum") _ _) _ _ _) | (with_reducible show wpAny _ _ (call (Value.type "list") _ _) _ _ _) | (with_reducible show wpAny _ _ (getMethod (Value.ref _) _ _) _ _ _) | (with_reducible show wpAny _ _ (binaryOp Operator.Add (Value.ref _) (Value.ref _)) _ _ _) | (with_reducible show wpAny _ _ (compareOp CmpOp.NotEq (Value.ref _) (Value.ref _)) _ _ _) | (with_reducible show wpAny _ _ (execs (Stmt.Return _ _ :: _) _) _ _ _) | (with_reducible show wpAny _ _ (eval (Expr.ListComp _ _ _ _) _) _ _ _))); first | (k_unfold; (try dsimp only)) | (k_end; wrow_close) | (dsimp only; walk1) | walk1))
  have k514 : ∀ p ∈ n5, p ∈ n14 := fun p hp => k14' p (k12 p (k11 p hp))
  have TL14 := TL5.mono k514
  have TH14 := TH.mono k514
  have DK14 := DK11.mono fun p hp => k14' p (k12 p hp)
  clear TL11 TH11 DK11 TM TeM eeM lt13 DM14 k14' k12 k11
  refine tbl_mItems N14 (TeL.mono k514) ?_
  (repeat' ((fail_if_success (first | (with_reducible show wpAny _ _ (call (Value.ref _) _ _) _ _ _) | (with_reducible show wpAny _ _ (pyIter _) _ _ _) | (with_reducible show wpAny _ _ (call (Value.builtin "dict.items") _ _) _ _ _) | (with_reducible show wpAny _ _ (call (Value.builtin "sum") _ _) _ _ _) | (with_reducible show wpAny _ _ (call (Value.type "list") _ _) _ _ _) | (with_reducible show wpAny _ _ (getMethod (Value.ref _) _ _) _ _ _) | (with_reducible show wpAny _ _ (binaryOp Operator.Add (Value.ref _) (Value.ref _)) _ _ _) | (with_reducible show wpAny _ _ (compareOp CmpOp.NotEq (Value.ref _) (Value.ref _)) _ _ _) | (with_reducible show wpAny _ _ (execs (Stmt.Return _ _ :: _) _) _ _ _) | (with_reducible show wpAny _ _ (eval (Expr.ListComp _ _ _ _) _) _ _ _))); first | (k_unfold; (try dsimp only)) | (k_end; wrow_close) | (dsimp only; walk1) | walk1))
  refine tbl_items F14 N14 (TeL.mono k514) ?_
  intro v15 h15 F15 N15 lt15
  (repeat' ((fail_if_success (first | (with_reducible show wpAny _ _ (call (Value.ref _) _ _) _ _ _) | (with_reducible show wpAny _ _ (pyIter _) _ _ _) | (with_reducible show wpAny _ _ (call (Value.builtin "dict.items") _ _) _ _ _) | (with_reducible show wpAny _ _ (call (Value.builtin "sum") _ _) _ _ _) | (with_reducible show wpAny _ _ (call (Value.type "list") _ _) _ _ _) | (with_reducible show wpAny _ _ (getMethod (Value.ref _) _ _) _ _ _) | (with_reducible show wpAny _ _ (binaryOp Operator.Add (Value.ref _) (Value.ref _)) _ _ _) | (with_reducible show wpAny _ _ (compareOp CmpOp.NotEq (Value.ref _) (Value.ref _)) _ _ _) | (with_reducible show wpAny _ _ (execs (Stmt.Return _ _ :: _) _) _ _ _) | (with_reducible show wpAny _ _ (eval (Expr.ListComp _ _ _ _) _) _ _ _))); first | (k_unfold; (try dsimp only)) | (k_end; wrow_close) | (dsimp only; walk1) | walk1))
  refine tbl_list rfl F15 N15 (TL14.mono fun p hp => .tail _ hp) (.head _) (by (first | lia | omega)) ?_
  intro L16 h16 tk16 n16 F16 N16 k16 DL16
  have k16' : ∀ p ∈ n14, p ∈ n16 := fun p hp => k16 p (.tail _ hp)
  clear F15 N15 F14 N14 k16
  (repeat' ((fail_if_success (first | (with_reducible show wpAny _ _ (call (Value.ref _) _ _) _ _ _) | (with_reducible show wpAny _ _ (pyIter _) _ _ _) | (with_reducible show wpAny _ _ (call (Value.builtin "dict.items") _ _) _ _ _) | (with_reducible show wpAny _ _ (call (Value.builtin "sum") _ _) _ _ _) | (with_reducible show wpAny _ _ (call (Value.type "list") _ _) _ _ _) | (with_reducible show wpAny _ _ (getMethod (Value.ref _) _ _) _ _ _) | (with_reducible show wpAny _ _ (binaryOp Operator.Add (Value.ref _) (Value.ref _)) _ _ _) | (with_reducible show wpAny _ _ (compareOp CmpOp.NotEq (Value.ref _) (Value.ref _)) _ _ _) | (with_reducible show wpAny _ _ (execs (Stmt.Return _ _ :: _) _) _ _ _) | (with_reducible show wpAny _ _ (eval (Expr.ListComp _ _ _ _) _) _ _ _))); first | (k_unfold; (try dsimp only)) | (k_end; wrow_close) | (dsimp only; walk1) | walk1))
  refine tbl_mItems N16 (TeH.mono fun p hp => k16' p (k514 p hp)) ?_
  (repeat' ((fail_if_success (first | (with_reducible show wpAny _ _ (call (Value.ref _) _ _) _ _ _) | (with_reducible show wpAny _ _ (pyIter _) _ _ _) | (with_reducible show wpAny _ _ (call (Value.builtin "dict.items") _ _) _ _ _) | (with_reducible show wpAny _ _ (call (Value.builtin "sum") _ _) _ _ _) | (with_reducible show wpAny _ _ (call (Value.type "list") _ _) _ _ _) | (with_reducible show wpAny _ _ (getMethod (Value.ref _) _ _) _ _ _) | (with_reducible show wpAny _ _ (binaryOp Operator.Add (Value.ref _) (Value.ref _)) _ _ _) | (with_reducible show wpAny _ _ (compareOp CmpOp.NotEq (Value.ref _) (Value.ref _)) _ _ _) | (with_reducible show wpAny _ _ (execs (Stmt.Return _ _ :: _) _) _ _ _) | (with_reducible show wpAny _ _ (eval (Expr.ListComp _ _ _ _) _) _ _ _))); first | (k_unfold; (try dsimp only)) | (k_end; wrow_close) | (dsimp only; walk1) | walk1))
  refine tbl_items F16 N16 (TeH.mono fun p hp => k16' p (k514 p hp)) ?_
  intro v17 h17 F17 N17 lt17
  (repeat' ((fail_if_success (first | (with_reducible show wpAny _ _ (call (Value.ref _) _ _) _ _ _) | (with_reducible show wpAny _ _ (pyIter _) _ _ _) | (with_reducible show wpAny _ _ (call (Value.builtin "dict.items") _ _) _ _ _) | (with_reducible show wpAny _ _ (call (Value.builtin "sum") _ _) _ _ _) | (with_reducible show wpAny _ _ (call (Value.type "list") _ _) _ _ _) | (with_reducible show wpAny _ _ (getMethod (Value.ref _) _ _) _ _ _) | (with_reducible show wpAny _ _ (binaryOp Operator.Add (Value.ref _) (Value.ref _)) _ _ _) | (with_reducible show wpAny _ _ (compareOp CmpOp.NotEq (Value.ref _) (Value.ref _)) _ _ _) | (with_reducible show wpAny _ _ (execs (Stmt.Return _ _ :: _) _) _ _ _) | (with_reducible show wpAny _ _ (eval (Expr.ListComp _ _ _ _) _) _ _ _))); first | (k_unfold; (try dsimp only)) | (k_end; wrow_close) | (dsimp only; walk1) | walk1))
  refine tbl_list rfl F17 N17 (TH14.mono fun p hp => .tail _ (k16' p hp)) (.head _) (by (first | lia | omega)) ?_
  intro L18 h18 tk18 n18 F18 N18 k18 DH18
  have k18' : ∀ p ∈ n16, p ∈ n18 := fun p hp => k18 p (.tail _ hp)
  have DL18 := DL16.mono k18'
  have DK18 := DK14.mono fun p hp => k18' p (k16' p hp)
  have k518 : ∀ p ∈ n5, p ∈ n18 := fun p hp => k18' p (k16' p (k514 p hp))
  clear F17 N17 F16 N16 k18 DL16 DK14 TL14 TH14 k16' k18' k514 lt15 lt17
  (repeat' ((fail_if_success (first | (with_reducible show wpAny _ _ (call (Value.ref _) _ _) _ _ _) | (with_reducible show wpAny _ _ (pyIter _) _ _ _) | (with_reducible show wpAny _ _ (call (Value.builtin "dict.items") _ _) _ _ _) | (with_reducible show wpAny _ _ (call (Value.builtin "sum") _ _) _ _ _) | (with_reducible show wpAny _ _ (call (Value.type "list") _ _) _ _ _) | (with_reducible show wpAny _ _ (getMethod (Value.ref _) _ _) _ _ _) | (with_reducible show wpAny _ _ (binaryOp Operator.Add (Value.ref _) (Value.ref _)) _ _ _) | (with_reducible show wpAny _ _ (compareOp CmpOp.NotEq (Value.ref _) (Value.ref _)) _ _ _) | (with_reducible show wpAny _ _ (execs (Stmt.Return _ _ :: _) _) _ _ _) | (with_reducible show wpAny _ _ (eval (Expr.ListComp _ _ _ _) _) _ _ _))); first | (k_unfold; (try dsimp only)) | (k_end; wrow_close) | (dsimp only; walk1) | walk1))
  rename Fr g L _ _ => F19
  rename News g L _ _ => N19
  refine dat_ne N19 (.list (vs := [.ref L16, .ref L18]) (.head _) (.cons (DL18.mono fun p hp => .tail _ hp) (.cons (DH18.mono fun p hp => .tail _ hp) .nil))) (DK18.mono fun p hp => .tail _ hp) (two_ok okl oku) (two_ok okl oku) (by ktr_units) ?_
  intro b hb
  obtain rfl : b = false := by
    cases b with
    | false => rfl
    | true => exact absurd rfl (hb.mp rfl)
  clear hb
  replace N19 := N19
  obtain ⟨n19, N19, k19⟩ : ∃ n19, News g L _ n19 ∧ ∀ p ∈ n5, p ∈ n19 := ⟨_, N19, fun p hp => .tail _ (k518 p hp)⟩
  clear DH18 DL18 DK18
  (repeat' ((fail_if_success (first | (with_reducible show wpAny _ _ (call (Value.ref _) _ _) _ _ _) | (with_reducible show wpAny _ _ (pyIter _) _ _ _) | (with_reducible show wpAny _ _ (call (Value.builtin "dict.items") _ _) _ _ _) | (with_reducible show wpAny _ _ (call (Value.builtin "sum") _ _) _ _ _) | (with_reducible show wpAny _ _ (call (Value.type "list") _ _) _ _ _) | (with_reducible show wpAny _ _ (getMethod (Value.ref _) _ _) _ _ _) | (with_reducible show wpAny _ _ (binaryOp Operator.Add (Value.ref _) (Value.ref _)) _ _ _) | (with_reducible show wpAny _ _ (compareOp CmpOp.NotEq (Value.ref _) (Value.ref _)) _ _ _) | (with_reducible show wpAny _ _ (execs (Stmt.Return _ _ :: _) _) _ _ _) | (with_reducible show wpAny _ _ (eval (Expr.ListComp _ _ _ _) _) _ _ _))); first | (k_unfold; (try dsimp only)) | (k_end; wrow_close) | (dsimp only; walk1) | walk1))
  dsimp only
  exact hnext _ _ _ _ F19 N19 rfl (CA5.mono k19) (CB5.mono k19) (T5.mono k19) (TB5.mono k19)
end Mine
end

/-! ## LLaw6 -/
section
theorem Mine.startLLaw6 : True := by
  w_top off
  trivial
open PySem PySem.W PyProof.Rows PySem.Calls PySem.Spec
set_option Elab.async false
namespace Mine
set_option maxRecDepth 100000 in
set_option maxHeartbeats 8000000 in
theorem lawRet (w : World) {p : Program} {loose : List Str} {mean : ExcName → Option Value} {mg mb : Str → Option Value} {g : Heap} {L fa : Addr} {cd : Value} {s : Shared} {E : Value → Shared → Prop} {Q : Flow → Shared → Prop}
    {news : Led} {up lo : List Call} {d : Addr} {m : Str → Option Value}
    (B : Below callerA g [] g) (F : Fr g L s.heap m) (X : (hd.heap_39 w.params).In g) (N : News g L s.heap news) (T : Top p loose mean mg mb g) (hb : m (Str.ofString "both") = some (Value.ref d))
    (CA : CellL news (L + 1) up) (CB : CellL news (L + 2) lo) (hT : Tabs news) (TB : Tbl w news d (tableOf (up ++ lo))) (hn : up.length ≤ 5 ∧ lo.length ≤ 5)
    (hret : ∀ h' tk news' m', Fr g L h' m' → News g L h' news' → Tabs news' → Q (.ret (.bool true)) { s with heap := h', toks := tk }) :
    wpAny (model PySem.Challenge.rw_ny0043_01.row.prog w) (callerA.deeper (lawE L fa cd)) (execs ((stB lawD).drop 12) (lawE L fa cd)) Q E s := by
  revert X
  k_fill
  intro X
  refine any_false ?_
  dsimp only [lawE, stB, stS, lawD, nth, PySem.Challenge.pw_ny0043_01, List.drop]
  obtain ⟨oA, aA, vA, kA, hcA, hdA, hlA, dA⟩ := id CA
  obtain ⟨oB, aB, vB, kB, hcB, hdB, hlB, dB⟩ := id CB
  (repeat' ((fail_if_success (first | (with_reducible show wpAny _ _ (call (Value.ref _) _ _) _ _ _) | (with_reducible show wpAny _ _ (pyIter _) _ _ _) | (with_reducible show wpAny _ _ (call (Value.builtin "sum") _ _) _ _ _) | (with_reducible show wpAny _ _ (eval (Expr.Name (Str.ofString "both") _) _) _ _ _) | (with_reducible show wpAny _ _ (binaryOp Operator.Add (Value.ref _) (Value.ref _)) _ _ _) | (with_reducible show wpAny _ _ (eval (Expr.ListComp _ _ _ _) _) _ _ _))); first | (k_unfold; (try dsimp only)) | (k_end; wrow_close) | (dsimp only; walk1) | walk1))
  refine nameX_L (cl := cellsFrom (L + 1) (stS lawD).names []) F hb ?_
  (repeat' ((fail_if_success (first | (with_reducible show wpAny _ _ (call (Value.ref _) _ _) _ _ _) | (with_reducible show wpAny _ _ (pyIter _) _ _ _) | (with_reducible show wpAny _ _ (call (Value.builtin "sum") _ _) _ _ _) | (with_reducible show wpAny _ _ (eval (Expr.Name (Str.ofString "both") _) _) _ _ _) | (with_reducible show wpAny _ _ (binaryOp Operator.Add (Value.ref _) (Value.ref _)) _ _ _) | (with_reducible show wpAny _ _ (eval (Expr.ListComp _ _ _ _) _) _ _ _))); first | (k_unfold; (try dsimp only)) | (k_end; wrow_close) | (dsimp only; walk1) | walk1))
  refine countK w d _ _ _ _ _ _ _ _ _ _ _ _ _ _ _ _ _ _ _ _ _ _ _ _ B F X N T rfl (by ktr_room) (by ktr_units) TB ?_
  rintro r nw h1 tk1 F1 N1 hx105q
  refine foldG fun P106q hP106q => ?_
  obtain ⟨rfl, t1, rfl⟩ := hx105q
  refine hP106q ?_
  clear hP106q P106q
  try refine ckpt (g := s.gens) (d := s.drawn) (o := s.os) fun tk107q => ?_
  (repeat' ((fail_if_success (first | (with_reducible show wpAny _ _ (call (Value.ref _) _ _) _ _ _) | (with_reducible show wpAny _ _ (pyIter _) _ _ _) | (with_reducible show wpAny _ _ (call (Value.builtin "sum") _ _) _ _ _) | (with_reducible show wpAny _ _ (eval (Expr.Name (Str.ofString "both") _) _) _ _ _) | (with_reducible show wpAny _ _ (binaryOp Operator.Add (Value.ref _) (Value.ref _)) _ _ _) | (with_reducible show wpAny _ _ (eval (Expr.ListComp _ _ _ _) _) _ _ _))); first | (k_unfold; (try dsimp only)) | (k_end; wrow_close) | (dsimp only; walk1) | walk1))
  refine comp_gen (cl := []) (by with_unfolding_all rfl) (by decide +kernel) rfl (by decide +kernel) ?_ (by intro _; rfl)
  (repeat' ((fail_if_success (first | (with_reducible show wpAny _ _ (call (Value.ref _) _ _) _ _ _) | (with_reducible show wpAny _ _ (pyIter _) _ _ _) | (with_reducible show wpAny _ _ (call (Value.builtin "sum") _ _) _ _ _) | (with_reducible show wpAny _ _ (eval (Expr.Name (Str.ofString "both") _) _) _ _ _) | (with_reducible show wpAny _ _ (binaryOp Operator.Add (Value.ref _) (Value.ref _)) _ _ _) | (with_reducible show wpAny _ _ (eval (Expr.ListComp _ _ _ _) _) _ _ _))); first | (k_unfold; (try dsimp only)) | (k_end; wrow_close) | (dsimp only; walk1) | walk1))
  have lA : vA.length ≤ 5 := by have := datAll_len dA; rw [List.length_map] at this; (first | lia | omega)
  have lB : vB.length ≤ 5 := by have := datAll_len dB; rw [List.length_map] at this; (first | lia | omega)
  refine lst_add F1 N1 hlA hlB (by (first | lia | omega)) ?_
  intro D5 h5 F5 N5 l5
  try refine ckpt (g := s.gens) (d := s.drawn) (o := s.os) fun tk108q => ?_
  (repeat' ((fail_if_success (first | (with_reducible show wpAny _ _ (call (Value.ref _) _ _) _ _ _) | (with_reducible show wpAny _ _ (pyIter _) _ _ _) | (with_reducible show wpAny _ _ (call (Value.builtin "sum") _ _) _ _ _) | (with_reducible show wpAny _ _ (eval (Expr.Name (Str.ofString "both") _) _) _ _ _) | (with_reducible show wpAny _ _ (binaryOp Operator.Add (Value.ref _) (Value.ref _)) _ _ _) | (with_reducible show wpAny _ _ (eval (Expr.ListComp _ _ _ _) _) _ _ _))); first | (k_unfold; (try dsimp only)) | (k_end; wrow_close) | (dsimp only; walk1) | walk1))
  have DU : DatAll ((D5, lsO (vA ++ vB) 0) :: nw) (vA ++ vB) ((up ++ lo).map callD) := by
    rw [List.map_append]
    exact (datAll_app dA dB).mono fun p hp => .tail _ hp
  rw [sumX_table]
  generalize hS : up ++ lo = S at DU
  have hSl : S.length ≤ 10 := by rw [← hS, List.length_append]; (first | lia | omega)
  have hUl : (vA ++ vB).length = S.length := by have := datAll_len DU; rw [List.length_map] at this; exact this
  refine src_list rfl F5 N5 (.head _) (by rw [List.length_append, sizeLine_eq]; (first | lia | omega)) (fun j zs n₂ => (∀ p ∈ (D5, lsO (vA ++ vB) 0) :: nw, p ∈ n₂) ∧ IntsAre zs ((S.take j).map (·.1))) (fun _ => ⟨fun p hp => hp, by rw [List.take_zero]; exact .nil⟩) ?turn2 ?fin2
  case turn2 =>
    rintro I2 C2 E2 hIC2 hID2 hCD2 j v zs n₂ h6 tk6 oI2 oC2 m₂ E'' hj hv ⟨hk6, Iz⟩ hkq F6 hoC6 N6 off6
    obtain ⟨d, hd1, hd2⟩ := datAll_at DU hv
    rw [List.getElem?_map] at hd1
    obtain ⟨c, hc1, rfl⟩ := Option.map_eq_some_iff.mp hd1
    obtain ⟨Tu, kT, tT, fn, rfl, hTu, Dfn⟩ := pair_of hd2
    have hTI : IsTup h6 Tu #[.int c.1 tT, .ref fn] := ⟨_, (N6 _ (.tail _ (.tail _ (.tail _ (hk6 _ hTu))))).1, rfl, _, rfl⟩
    refine cassign_pair rfl hTI rfl rfl rfl F6 hoC6 N6 off6 hIC2 hCD2 ?_
    clear F6 N6 hoC6 hTI
    intro h7 oC7 F7 hoC7 N7
    refine wpAny_tests_nil ?_
    rw [if_pos rfl]
    have hm7 : (C2, oC7) ∈ (I2, oI2) :: (C2, oC7) :: (E2, lst zs) :: n₂ := .tail _ (.head _)
    refine LCgL.ld_own (v := .int c.1 tT) N7 hm7 hoC7 (by rw [if_neg (by decide), if_pos rfl]) ?_
    show CEnd _ _ _ _ _ _ _ _ _ _ _ _
    refine ⟨h7, _, oC7, _, n₂, rfl, F7, hoC7, N7, off6, hkq, hk6, ?_⟩
    rw [List.take_add_one, hc1, Option.toList_some, List.map_append]
    exact Iz.append (.cons _ _ .nil)
  case fin2 =>
    rintro D8 h8 tk8 zs n₂ F8 N8 off8 ⟨hk8, Iz⟩
    rw [List.take_of_length_le (by (first | lia | omega))] at Iz
    (repeat' ((fail_if_success (first | (with_reducible show wpAny _ _ (call (Value.ref _) _ _) _ _ _) | (with_reducible show wpAny _ _ (pyIter _) _ _ _) | (with_reducible show wpAny _ _ (call (Value.builtin "sum") _ _) _ _ _) | (with_reducible show wpAny _ _ (eval (Expr.Name (Str.ofString "both") _) _) _ _ _) | (with_reducible show wpAny _ _ (binaryOp Operator.Add (Value.ref _) (Value.ref _)) _ _ _) | (with_reducible show wpAny _ _ (eval (Expr.ListComp _ _ _ _) _) _ _ _))); first | (k_unfold; (try dsimp only)) | (k_end; wrow_close) | (dsimp only; walk1) | walk1))
    refine sumK rfl F8 N8 ⟨_, (N8 _ (.head _)).1, rfl, _, rfl⟩ Iz ?_
    clear F8
    intro h9 tk9 t9 F9 N9
    try refine ckpt (g := s.gens) (d := s.drawn) (o := s.os) fun tk109q => ?_
    clear N8
    (repeat' ((fail_if_success (first | (with_reducible show wpAny _ _ (call (Value.ref _) _ _) _ _ _) | (with_reducible show wpAny _ _ (pyIter _) _ _ _) | (with_reducible show wpAny _ _ (call (Value.builtin "sum") _ _) _ _ _) | (with_reducible show wpAny _ _ (eval (Expr.Name (Str.ofString "both") _) _) _ _ _) | (with_reducible show wpAny _ _ (binaryOp Operator.Add (Value.ref _) (Value.ref _)) _ _ _) | (with_reducible show wpAny _ _ (eval (Expr.ListComp _ _ _ _) _) _ _ _))); first | (k_unfold; (try dsimp only)) | (k_end; wrow_close) | (dsimp only; walk1) | walk1))
    rw [beq_self_eq_true]
    exact hret _ _ _ _ F9 N9 (hT.mono fun p hp => .tail _ (hk8 _ (.tail _ hp)))
end Mine
end

/-! ## LLaw7 -/
section
theorem Mine.startLLaw7 : True := by
  w_top off
  trivial
open PySem PySem.W PyProof.Rows PySem.Calls PySem.Spec
set_option Elab.async false
namespace Mine
set_option maxRecDepth 100000 in
set_option maxHeartbeats 8000000 in
theorem lawK (w : World) {p : Program} {loose : List Str} {mean : ExcName → Option Value} {mg mb : Str → Option Value} {g : Heap} {L fa sa : Addr} {cd : Value} {s : Shared} {E : Value → Shared → Prop} {Q : Flow → Shared → Prop}
    {c1 c2 c3 : Obj} {vs : List Value} {ns : List Int}
    (B : Below callerA g [] g) (F : Fr g L s.heap (m0 sa)) (X : (hd.heap_39 w.params).In g) (N : News g L s.heap [(L + 3, c3), (L + 2, c2), (L + 1, c1), (70, tabObj #[])]) (T : Top p loose mean mg mb g)
    (h1 : c1.data = .cell none) (h2 : c2.data = .cell none) (h3 : c3.data = .cell none) (hL : g.IsList sa vs.toArray) (hI : IntsAre vs ns) (hlen : ns.length ≤ 63)
    (hret : ∀ h' tk news' m', Fr g L h' m' → News g L h' news' → Tabs news' → Q (.ret (.bool true)) { s with heap := h', toks := tk }) :
    wpAny (model PySem.Challenge.rw_ny0043_01.row.prog w) (callerA.deeper (lawE L fa cd)) (execs (stB lawD) (lawE L fa cd)) Q E s := by
  refine lawA w B F X N T h1 h2 h3 hL hI hlen ?_
  intro up lo D hA tA nA FA NA CA CA' hA3 TA oku okl hu hl hn
  refine lawB w B FA X NA T CA CA' hA3 h3 TA oku okl hu hl hn ?_
  intro d hB tB nB U W tU tW FB NB CB CB' hB3 TB DB eU lU eW lW
  refine lawC w B FB X NB T CB CB' hB3 h3 TB hn ?_
  intro hC tC nC o3 aM vM kM FC NC CC CC' ho3 hd3 hM DM kC
  have TC := TB.nc kC
  have DC := DB.nc kC
  refine lawDue w B FC X NC T CC CC' ho3 hd3 hM DM oku okl hn ?_
  intro hD tD nD Du FD ND kD DD
  refine lawEnd w B FD X ND T (CC.mono kD) (CC'.mono kD) (TC.mono kD) (DC.mono kD) DD oku okl hu hl hn eU lU eW lW ?_
  intro hE tE nE mE FE NE hb CE CE' TE DE
  refine lawRet w B FE X NE T hb CE CE' TE DE hn ?_
  intro hF tF nF mF FF NF TF
  exact hret _ _ _ _ FF NF TF
end Mine
end

end

/-! ## LLaw8 -/
section
theorem Mine.startLLaw8 : True := by
  w_top off
  trivial
open PySem PySem.W PyProof.Rows PySem.Calls PySem.Spec
set_option Elab.async false
namespace Mine
theorem fr_start {h₀ h : Heap} {L sa : Addr} (F : Fr h₀ L h (fun y => if y = Str.ofString "script" then some (Value.ref sa) else none)) : Fr h₀ L h (m0 sa) := by
  have e : m0 sa = fun y => if y = Str.ofString "script" then some (Value.ref sa) else none := by
    funext y
    unfold m0
    by_cases h : y = Str.ofString "script"
    · subst h
      rw [if_pos rfl]; rfl
    · rw [if_neg h]
      have hb : (y == Str.ofString "script") = false := beq_eq_false_iff_ne.mpr h
      simp only [List.lookup, hb]
  rw [e]; exact F
set_option maxRecDepth 100000 in
set_option maxHeartbeats 8000000 in
theorem tryLaw : PySem.Challenge.rw_ny0043_01.Holds := hd (by
  k_go0
  rename Fr _ _ _ _ => F0
  rename News _ _ _ _ => N0
  rename IntsAre _ _ => hI
  rename ((hd.heap_39 _).In (ghostOf _ _)) => X0'
  rename (Below callerA _ _ _) => B0
  rename (Top topProg _ _ _ _ _) => T0
  rename ((ghostOf _ _).IsList _ _) => hL
  refine any_false ?_
  refine lawK _ (sa := _) B0 (F := ?F) X0' N0 T0 ?c1 ?c2 ?c3 hL hI ?n ?r
  case F => exact fr_start F0
  case n => omega
  case c1 => with_unfolding_all assumption
  case c2 => with_unfolding_all assumption
  case c3 => with_unfolding_all assumption
  case r =>
    clear F0 N0
    rintro h' tk news' m' F1 N1 ⟨ps, hps, _⟩
    refine ⟨?_, GrownAt.of N1 hps, True.intro⟩
    dsimp only
    k_end
    wrow_close)
end Mine
end

theorem PySem.Challenge.cw_ny0043_01_holds : PySem.Challenge.rw_ny0043_01.Holds := by
  exact Mine.tryLaw
