import PyProof.Rows.All
import Wide.All
import OpenK.AllK
import Wide.FinOn
import PySem.Challenge.RW_op0038_01
set_option Elab.async false
set_option rowWalk.seconds 0
/-! R1 -/
section
open PySem PySem.W PyProof.Rows PySem.Calls
set_option Elab.async false
set_option maxRecDepth 100000
set_option maxHeartbeats 4000000
namespace Mine
/-- what a < b says -/
noncomputable def LtGives (x y : Value) (b : Bool) : Prop :=
  ∀ (prog : Program) (w : World) (A : Around) (E : Value → Shared → Prop) (s : Shared) (Q : Value → Shared → Prop), Q (.bool b) s → wpAny (model prog w) A (richCompare .Lt x y) Q E s
theorem ltGives_int (a b : Int) (t u : Tok) : LtGives (.int a t) (.int b u) (decide (a < b)) := fun prog w A E s Q h => by
  exact PySem.wpAny_lt_int h
theorem ltGives_str (a b : Str) (t u : Tok) : LtGives (.str a t) (.str b u) (decide (a.cps.toList < b.cps.toList)) := fun prog w A E s Q h => lt_str h
/-- a tuple of three, as an object -/
noncomputable abbrev tup3 (x y z : Value) (n : Nat) : Obj := { cls := .type "tuple", data := .seq #[x, y, z] n }
theorem tup_isInstance {M : Model} {A : Around} {E : Value → Shared → Prop} {s : Shared} {a : Addr} {x y z : Value} {n : Nat} {Q : Bool → Shared → Prop} (ha : s.heap.get? a = some (tup3 x y z n)) (h : Q true s) :
    wpAny M A (isInstance (.ref a) (.type "tuple")) Q E s := wpAny_isInstance (T := "tuple") ⟨_, ha, rfl⟩ isSubtype_tuple_tuple h
theorem tup3_lt_tree {prog : Program} {w : World} {A : Around} {E : Value → Shared → Prop} {s : Shared} {a b : Addr} {x1 x2 x3 y1 y2 y3 : Value} {n m : Nat} {e1 e2 e3 r1 r2 r3 : Bool} {P : Fin → Shared → Prop}
    (ha : s.heap.get? a = some (tup3 x1 x2 x3 n)) (hb : s.heap.get? b = some (tup3 y1 y2 y3 m))
    (q1 : MeetsSeq.EqGives x1 y1 e1) (q2 : MeetsSeq.EqGives x2 y2 e2) (q3 : MeetsSeq.EqGives x3 y3 e3)
    (l1 : LtGives x1 y1 r1) (l2 : LtGives x2 y2 r2) (l3 : LtGives x3 y3 r3)
    (h : P (.done (.ret (.bool (if e1 then (if e2 then (if e3 then false else r3) else r2) else r1)))) s) :
    wpAny (model prog w) A (Builtin.«tuple.__lt__» ⟨[.ref a, .ref b], []⟩) P E s := by
  show wpAny _ _ (isInstance (.ref b) (.type "tuple") >>= _) _ _ s
  refine wpAny_bind (tup_isInstance hb ?_)
  simp only [Bool.not_true, Bool.false_eq_true, if_false]
  refine wpAny_bind (wpAny_tupleItemsOf ha rfl ?_)
  refine wpAny_bind (wpAny_tupleItemsOf hb rfl ?_)
  refine wpAny_bind ?_
  simp only [List.zip_cons_cons, List.zip_nil_right, List.forIn_cons, List.forIn_nil]
  refine wpAny_bind (wpAny_bind (q1 _ _ _ _ _ _ ?_))
  cases e1 with
  | false =>
    simp only [Bool.not_false, if_true]
    refine wpAny_bind (wpAny_rule (wpAny_bind (l1 _ _ _ _ _ _ (wpAny_bind ?_))))
    exact wpAny_pure (wpAny_pure (wpAny_pure (wpAny_pure h)))
  | true =>
  simp only [Bool.not_true, Bool.false_eq_true, if_false]
  refine wpAny_pure (wpAny_bind (wpAny_bind (q2 _ _ _ _ _ _ ?_)))
  cases e2 with
  | false =>
    simp only [Bool.not_false, if_true]
    refine wpAny_bind (wpAny_rule (wpAny_bind (l2 _ _ _ _ _ _ (wpAny_bind ?_))))
    exact wpAny_pure (wpAny_pure (wpAny_pure (wpAny_pure h)))
  | true =>
  simp only [Bool.not_true, Bool.false_eq_true, if_false]
  refine wpAny_pure (wpAny_bind (wpAny_bind (q3 _ _ _ _ _ _ ?_)))
  cases e3 with
  | false =>
    simp only [Bool.not_false, if_true]
    refine wpAny_bind (wpAny_rule (wpAny_bind (l3 _ _ _ _ _ _ (wpAny_bind ?_))))
    exact wpAny_pure (wpAny_pure (wpAny_pure (wpAny_pure h)))
  | true =>
  simp only [Bool.not_true, Bool.false_eq_true, if_false]
  refine wpAny_pure (wpAny_pure ?_)
  exact wpAny_pure h
theorem tup3_lt {prog : Program} {w : World} {A : Around} {E : Value → Shared → Prop} {s : Shared} {a b : Addr} {x1 x2 x3 y1 y2 y3 : Value} {n m : Nat} {e1 e2 e3 r1 r2 r3 : Bool} {Q : Value → Shared → Prop}
    (ha : s.heap.get? a = some (tup3 x1 x2 x3 n)) (hb : s.heap.get? b = some (tup3 y1 y2 y3 m))
    (q1 : MeetsSeq.EqGives x1 y1 e1) (q2 : MeetsSeq.EqGives x2 y2 e2) (q3 : MeetsSeq.EqGives x3 y3 e3)
    (l1 : LtGives x1 y1 r1) (l2 : LtGives x2 y2 r2) (l3 : LtGives x3 y3 r3) (hu : A.units < cLine)
    (h : Q (.bool (if e1 then (if e2 then (if e3 then false else r3) else r2) else r1)) s) :
    wpAny (model prog w) A (compareOp .Lt (.ref a) (.ref b)) Q E s := by
  refine cmp_ofLt ?_
  have hT : s.TypeIs (.ref a) "tuple" := ⟨_, ha, rfl⟩
  have hT' : s.TypeIs (.ref b) "tuple" := ⟨_, hb, rfl⟩
  exact wpAny_richCompare_same_room (op := .Lt) hT hT' F.slot_tuple_lt
      (wpAny_call_entry F.slot_tuple_lt hT F.entry_tuple_lt (tup3_lt_tree ha hb q1 q2 q3 l1 l2 l3 ⟨_, rfl, (fun e => nomatch e), h⟩) (F.args_tuple_lt_2 _ _)) hu
end Mine
end
section
open PySem PySem.W PyProof.Rows PySem.Calls
namespace Mine
theorem reset1 {M : Model} {A : Around} {E : Value → Shared → Prop} {s : Shared} {env : Env} {Q : Flow → Shared → Prop} (h : Q .next s) : wpAny M A (execs [] env) Q E s := by
  w_top off
  walk1
  w_top off
  exact h
end Mine
end
/-! R2 -/
section
open PySem PySem.W PyProof.Rows PySem.Calls
set_option Elab.async false
set_option maxRecDepth 100000
set_option maxHeartbeats 4000000
set_option linter.unusedVariables false
namespace Mine
section
variable {prog : Program} {w : World} {A : Around} {E : Value → Shared → Prop} {s : Shared}
noncomputable abbrev rit (x n c : Int) : Obj := { cls := .type "range_iterator", data := .fields #[rawInt x, rawInt n, rawInt c] }
theorem call_range2_reversed {r : Addr} {t u v : Tok} {Q : Value → Shared → Prop} (hr : IsRange s.heap r 0 2 1 t u v)
    (h : Q (.ref s.heap.objs.size) { s with heap := s.heap.push (rit 1 2 (-1)) }) : wpAny (model prog w) A (call (.builtin "range.__reversed__") [.ref r]) Q E s := by
  have hT : s.TypeIs (.ref r) "range" := ⟨_, hr, rfl⟩
  refine wpAny_call_entry F.slot_range_reversed hT F.entry_range_reversed ?_ (F.args_range_reversed_1 _)
  unfold Builtin.«range.__reversed__»
  refine wpAny_bind (wpAny_of_eq (a := Value.ref r) rfl ?_)
  unfold Builtin.Range.rangeFields
  refine wpAny_bind (wpAny_bind (wpAny_field hr rfl (x := .int 0 t) rfl ?_))
  refine wpAny_bind (wpAny_of_eq (a := some (0 : Int)) rfl ?_)
  refine wpAny_bind (wpAny_field hr rfl (x := .int 2 u) rfl ?_)
  refine wpAny_bind (wpAny_of_eq (a := some (2 : Int)) rfl ?_)
  refine wpAny_bind (wpAny_field hr rfl (x := .int 1 v) rfl ?_)
  refine wpAny_bind (wpAny_of_eq (a := some (1 : Int)) rfl ?_)
  refine wpAny_pure ?_
  try dsimp only
  have e : (Builtin.Range.rangeFitsLong 0 && Builtin.Range.rangeFitsLong 2 && Builtin.Range.rangeFitsLong 1 && Builtin.Range.rangeFitsLong (-1) && Builtin.Range.rangeFitsLong (0 - 1) && Builtin.Range.rangeFitsLong (Builtin.Range.rangeSize 0 2 1)) = true := by decide
  have e2 : Builtin.Range.rangeSize 0 2 1 = 2 := by decide
  rw [e, if_neg (by decide), if_pos rfl, e2]
  exact wpAny_bind (wpAny_newObj_type (wpAny_pure ⟨_, rfl, h⟩))
theorem code_range2_new {r : Addr} {t u v : Tok} {Q₁ : Value → Shared → Prop} (hr : IsRange s.heap r 0 2 1 t u v)
    (h : Q₁ (.ref s.heap.objs.size) { s with heap := s.heap.push (rit 1 2 (-1)) }) :
    codeAny (model prog w) A (.call (.builtin "reversed.__new__") ⟨[.type "reversed", .ref r], []⟩) (wants Q₁ E) s := by
  have hT : s.TypeIs (.ref r) "range" := ⟨_, hr, rfl⟩
  refine codeAny_of_tree ?_
  show wpAny _ A.in1 (do checkBuiltinCall "reversed.__new__" ⟨[.type "reversed", .ref r], []⟩; again (.builtin "reversed.__new__" ⟨[.type "reversed", .ref r], []⟩)) _ _ s
  refine wpAny_bind (wpAny_of_eq (F.newCall_reversed_1 _) (wpAny_pure ⟨plainId_quiet F.plain_reversed_new _, codeAny_builtin F.entry_reversed_new ?_⟩))
  rw [Around.under_plainId F.plain_reversed_new _]
  unfold Builtin.«reversed.__new__»
  refine wpAny_bind (wpAny_of_eq (newClass_reversed _) ?_)
  try dsimp only
  refine wpAny_bind (wpAny_of_eq (a := ()) (by first | rfl | kernel_rfl) ?_)
  refine wpAny_bind (wpAny_of_eq (a := ()) (by first | rfl | kernel_rfl) ?_)
  try dsimp only
  refine wpAny_bind (wpAny_specialOf hT F.slot_range_reversed.lookup ?_)
  try dsimp only
  refine wpAny_bind (wpAny_of_eq (F.slot_range_reversed.bind _) ?_)
  try dsimp only
  first
  | rw [if_neg (show ¬ ((Value.builtin "range.__reversed__" == Value.none) = true) from Bool.false_ne_true)]
  | (show wpAny _ _ (if (Value.builtin "range.__reversed__" == Value.none) = true then _ else _) _ _ _; rw [if_neg (show ¬ ((Value.builtin "range.__reversed__" == Value.none) = true) from Bool.false_ne_true)])
  refine wpAny_bind (wpAny_rule ?_)
  refine wpAny_bind (m := runValue (.call (.builtin "range.__reversed__") ⟨[.ref r], []⟩)) (show wpAny _ _ (call (.builtin "range.__reversed__") [.ref r]) _ _ _ from call_range2_reversed hr ?_)
  first
  | exact wpAny_pure h
  | exact wpAny_bind (wpAny_pure (wpAny_pure h))
theorem sub_rit_reversed : isSubtype (.type "range_iterator") (.type "reversed") = pure false := by rw [isSubtype_type]; kernel_rfl
theorem call_reversed_range2 {r : Addr} {t u v : Tok} {Q : Value → Shared → Prop} (hr : IsRange s.heap r 0 2 1 t u v)
    (h : Q (.ref s.heap.objs.size) { s with heap := s.heap.push (rit 1 2 (-1)) }) : wpAny (model prog w) A (call (.type "reversed") [.ref r]) Q E s := by
  refine callType_other (U := "range_iterator") (Q₁ := fun obj s₁ => obj = .ref s.heap.objs.size ∧ s₁ = { s with heap := s.heap.push (rit 1 2 (-1)) }) (by decide +kernel) F.create_reversed ⟨_, _, F.mro_reversed⟩ F.made_reversed sub_rit_reversed (F.typeCall_reversed_1 _) (code_range2_new hr ⟨rfl, rfl⟩) ?_
  rintro obj s₁ ⟨rfl, rfl⟩
  exact ⟨⟨_, Heap.get?_push_size _ rfl, rfl⟩, h⟩

/-- what a loop's turn must leave behind: the iterator as it was, the word at the next number -/
noncomputable def TurnEnd (h₀ : Heap) (L : Addr) (J : (Str → Option Value) → List (Addr × Obj) → Prop) (I : Addr) (o : Obj) (s s₂ : Shared) : Prop :=
  ∃ h' tk m' nx, s₂ = { s with heap := h', toks := tk } ∧ Fr h₀ L h' m' ∧ News h₀ L h' ((I, o) :: nx) ∧ (∀ p ∈ nx, p.2.cls ≠ o.cls ∨ p.1 ≠ I) ∧ J m' nx
noncomputable def TurnPost (h₀ : Heap) (L : Addr) (J : (Str → Option Value) → List (Addr × Obj) → Prop) (I : Addr) (o : Obj) (s : Shared) (Q : Flow → Shared → Prop) (f : Flow) (s₂ : Shared) : Prop :=
  match f with
  | .ret v => Q (.ret v) s₂
  | .brk => Q .next s₂
  | _ => TurnEnd h₀ L J I o s s₂
variable {env : Env} {h₀ : Heap} {x : Str} {body : List Stmt} {Q : Flow → Shared → Prop}
/-- a loop over a walk whose only object is its iterator -/
theorem loop_one {I : Addr} {n : Nat} {P : Nat → Value → Prop} {St : Nat → Heap → Prop} {m₀ : Str → Option Value} {news : List (Addr × Obj)} (J : Nat → (Str → Option Value) → List (Addr × Obj) → Prop)
    (W : Walks prog w A I [I] [I] n P St) (hSt : ∀ i h, St i h → ∃ o, h.get? I = some o ∧ o.cls = .type "range_iterator")
    (hL : env.locals ≠ I) (hI : h₀.get? I = none) (hst : St 0 s.heap) (F : Fr h₀ env.locals s.heap m₀) (N : News h₀ env.locals s.heap news) (hoff0 : ∀ p ∈ news, p.1 ≠ I) (hj : J 0 m₀ news)
    (turn : ∀ i v o m₁ nx h tk, i < n → P i v → o.cls = .type "range_iterator" → (∀ p ∈ nx, p.1 ≠ I) → J i m₁ nx → Fr h₀ env.locals h (fun y => if y = x then some v else m₁ y) → News h₀ env.locals h ((I, o) :: nx) →
      wpAny (model prog w) A (execs body env) (TurnPost h₀ env.locals (J (i + 1)) I o s Q) E { s with heap := h, toks := tk })
    (done : ∀ m₁ nx h tk, J n m₁ nx → Fr h₀ env.locals h m₁ → News h₀ env.locals h nx → Q .next { s with heap := h, toks := tk }) :
    LoopAtV prog w A h₀ env x body Q E (.ref I) s := by
  refine ⟨I, [I], [I], n, P, St, m₀, news, fun i m nx => (∀ p ∈ nx, p.1 ≠ I) ∧ J i m nx, rfl, W, by simpa using hL, by simpa using hI, fun p hp => by simpa using hoff0 p hp, hst, F, N, ⟨hoff0, hj⟩, ?_, ?_⟩
  · rintro i v m₁ nx s₁ own ⟨hh', tk', rfl⟩ hin hP ⟨hoff, hJ'⟩ _ hown hget hmem hst' F₁ N₁
    obtain ⟨o, ho, hc⟩ := hSt _ _ hst'
    have hIo : (I, o) ∈ own := hmem I (by simp) hI o ho
    have N₂ : News h₀ env.locals hh' ((I, o) :: nx) := fun p hp => by
      rcases List.mem_cons.mp hp with rfl | hp
      · exact N₁ _ (List.mem_append.mpr (.inl hIo))
      · exact N₁ p (List.mem_append.mpr (.inr hp))
    refine wpAny_mono (turn i v o m₁ nx hh' tk' hin hP hc hoff hJ' F₁ N₂) (fun f s₂ p => ?_) fun _ _ e => e
    have fin : TurnEnd h₀ env.locals (J (i + 1)) I o s s₂ → LoopStepU h₀ env.locals [I] own (fun m nx => (∀ p ∈ nx, p.1 ≠ I) ∧ J (i + 1) m nx) { s with heap := hh', toks := tk' } .next s₂ := by
      rintro ⟨h', tk, m', nx', e, F', N', hcl, hj'⟩
      have hI' : h'.get? I = some o := (N' (I, o) List.mem_cons_self).1
      have N'' : News h₀ env.locals h' nx' := fun q hq => N' q (List.mem_cons_of_mem _ hq)
      have off' : ∀ p ∈ nx', p.1 ≠ I := fun q hq => (hcl q hq).elim (fun h1 h2 => h1 (by
        have h3 := (N'' q hq).1
        rw [h2, hI'] at h3
        rw [Option.some.inj h3])) id
      refine ⟨rfl, h', tk, m', nx', by rw [e], F', fun q hq => ?_, fun q hq => by simpa using off' q hq, off', hj'⟩
      rcases List.mem_append.mp hq with hq | hq
      · have h1 : q.1 = I := List.mem_singleton.mp (hown q hq)
        have h2 := hget q hq
        rw [h1] at h2
        have h3 : hh'.get? I = some q.2 := h2
        rw [ho] at h3
        have h4 : q = (I, o) := Prod.ext h1 (Option.some.inj h3).symm
        rw [h4]
        exact N' _ List.mem_cons_self
      · exact N'' q hq
    cases f with
    | ret v => exact .ret p
    | brk => exact .brk p
    | next => exact .next (fin p)
    | cont => exact .cont (fin p)
  · rintro h' tk m' nx F' N' _ ⟨_, hj'⟩
    exact done m' nx h' tk hj' F' N'
/-- a for over a written range -/
theorem loop_range {r : Addr} {a b : Int} {t u v : Tok} {n : Nat} {m₀ : Str → Option Value} {news : List (Addr × Obj)} (J : Nat → (Str → Option Value) → List (Addr × Obj) → Prop)
    (hh : A.handled = none) (hr : IsRange s.heap r a b 1 t u v) (hsmall : Builtin.Range.small a b 1 = true) (hn : Builtin.Range.rangeSize a b 1 = (n : Int))
    (F : Fr h₀ env.locals s.heap m₀) (N : News h₀ env.locals s.heap news) (hj : J 0 m₀ news)
    (turn : ∀ i I o t m₁ nx h tk, i < n → o.cls = .type "range_iterator" → (∀ p ∈ nx, p.1 ≠ I) → J i m₁ nx → Fr h₀ env.locals h (fun y => if y = x then some (.int (a + (i : Int)) t) else m₁ y) → News h₀ env.locals h ((I, o) :: nx) →
      wpAny (model prog w) A (execs body env) (TurnPost h₀ env.locals (J (i + 1)) I o s Q) E { s with heap := h, toks := tk })
    (done : ∀ m₁ nx h tk, J n m₁ nx → Fr h₀ env.locals h m₁ → News h₀ env.locals h nx → Q .next { s with heap := h, toks := tk }) :
    wpAny (model prog w) A (pyIter (.ref r)) (fun it s₂ => LoopAtV prog w A h₀ env x body Q E it s₂) E s := by
  refine wpAny_pyIter_range hr hsmall ?_
  have W := LCg.range_walks (prog := prog) (w := w) (A := A) (I := s.heap.objs.size) hh a n
  refine loop_one J W (fun i h st => ⟨_, st, rfl⟩) (Nat.ne_of_lt F.ns.lt) (next_is_new F) (by show IsRangeIter _ _ _ _ _; rw [hn]; simpa using Heap.get?_push_size _ rfl) (F.push _) (fun p hp => ⟨Heap.get?_push_of_some _ (N p hp).1, (N p hp).2⟩) (fun p hp => Nat.ne_of_lt (Heap.lt_size (N p hp).1)) hj ?_ done
  rintro i v o m₁ nx h tk hi ⟨t, rfl⟩ hc hoff hj' F' N'
  exact turn i _ o t m₁ nx h tk hi hc hoff hj' F' N'
/-- for i in reversed(range(2)) -/
theorem loop_rev2 {r : Addr} {t u v : Tok} {m₀ : Str → Option Value} {news : List (Addr × Obj)} (J : Nat → (Str → Option Value) → List (Addr × Obj) → Prop)
    (hh : A.handled = none) (hr : IsRange s.heap r 0 2 1 t u v)
    (F : Fr h₀ env.locals s.heap m₀) (N : News h₀ env.locals s.heap news) (hj : J 0 m₀ news)
    (turn : ∀ (i : Nat) I o t m₁ nx h tk, i < 2 → o.cls = .type "range_iterator" → (∀ p ∈ nx, p.1 ≠ I) → J i m₁ nx → Fr h₀ env.locals h (fun y => if y = x then some (.int (1 + (i : Int) * -1) t) else m₁ y) → News h₀ env.locals h ((I, o) :: nx) →
      wpAny (model prog w) A (execs body env) (TurnPost h₀ env.locals (J (i + 1)) I o s Q) E { s with heap := h, toks := tk })
    (done : ∀ m₁ nx h tk, J 2 m₁ nx → Fr h₀ env.locals h m₁ → News h₀ env.locals h nx → Q .next { s with heap := h, toks := tk }) :
    wpAny (model prog w) A (call (.type "reversed") [.ref r]) (fun xv s₁ => wpAny (model prog w) A (pyIter xv) (fun it s₂ => LoopAtV prog w A h₀ env x body Q E it s₂) E s₁) E s := by
  refine call_reversed_range2 hr (wpAny_pyIter_rangeiter (x := 1) (left := 2) (step := -1) (Heap.get?_push_size _ rfl) ?_)
  have W := (Walks.range (prog := prog) (w := w) (A := A) hh s.heap.objs.size 1 (-1) 2)
  refine loop_one J W (fun i h st => ⟨_, st, rfl⟩) (Nat.ne_of_lt F.ns.lt) (next_is_new F) (by show IsRangeIter _ _ _ _ _; simpa using Heap.get?_push_size _ rfl) (F.push _) (fun p hp => ⟨Heap.get?_push_of_some _ (N p hp).1, (N p hp).2⟩) (fun p hp => Nat.ne_of_lt (Heap.lt_size (N p hp).1)) hj ?_ done
  rintro i v o m₁ nx h tk hi ⟨t, rfl⟩ hc hoff hj' F' N'
  exact turn i _ o t m₁ nx h tk hi hc hoff hj' F' N'
end
end Mine
namespace Mine
/-- the frame's names that are known -/
noncomputable def Has (m : Str → Option Value) (ps : List (Str × Value)) : Prop := ∃ u, m = kstB u ps
theorem has_of {m : Str → Option Value} {ps : List (Str × Value)} (h : ∀ p ∈ ps, m p.1 = some p.2) : Has m ps := ⟨m, funext fun z => (kstB_eq h fun _ => rfl).symm⟩
end Mine
namespace Mine
theorem news_swap {h₀ h : Heap} {L : Addr} {p q : Addr × Obj} {r : List (Addr × Obj)} (N : News h₀ L h (p :: q :: r)) : News h₀ L h (q :: p :: r) := fun x hx => N x (by
  rcases List.mem_cons.mp hx with rfl | hx
  · exact List.mem_cons_of_mem _ List.mem_cons_self
  · rcases List.mem_cons.mp hx with rfl | hx
    · exact List.mem_cons_self
    · exact List.mem_cons_of_mem _ (List.mem_cons_of_mem _ hx))
end Mine
namespace Mine
theorem turn_next {h₀ : Heap} {L : Addr} {J : (Str → Option Value) → List (Addr × Obj) → Prop} {I : Addr} {o : Obj} {s : Shared} {Q : Flow → Shared → Prop} {h' : Heap} {tk : Nat} {m' : Str → Option Value} (nx : List (Addr × Obj))
    (F : Fr h₀ L h' m') (N : News h₀ L h' ((I, o) :: nx)) (hcl : ∀ p ∈ nx, p.2.cls ≠ o.cls ∨ p.1 ≠ I) (hj : J m' nx) : TurnPost h₀ L J I o s Q .next { s with heap := h', toks := tk } := ⟨h', tk, m', nx, rfl, F, N, hcl, hj⟩
theorem turn_cont {h₀ : Heap} {L : Addr} {J : (Str → Option Value) → List (Addr × Obj) → Prop} {I : Addr} {o : Obj} {s : Shared} {Q : Flow → Shared → Prop} {h' : Heap} {tk : Nat} {m' : Str → Option Value} (nx : List (Addr × Obj))
    (F : Fr h₀ L h' m') (N : News h₀ L h' ((I, o) :: nx)) (hcl : ∀ p ∈ nx, p.2.cls ≠ o.cls ∨ p.1 ≠ I) (hj : J m' nx) : TurnPost h₀ L J I o s Q .cont { s with heap := h', toks := tk } := ⟨h', tk, m', nx, rfl, F, N, hcl, hj⟩
end Mine
namespace Mine
theorem fr_has {h₀ h : Heap} {L : Addr} {m : Str → Option Value} {ps : List (Str × Value)} (F : Fr h₀ L h m) (hm : ∀ p ∈ ps, m p.1 = some p.2) : ∃ u, Fr h₀ L h (kstB u ps) := ⟨m, by
  have e : m = kstB m ps := funext fun z => (kstB_eq hm fun _ => rfl).symm
  rw [← e]; exact F⟩
theorem all_nil {ps : Str × Value → Prop} : ∀ p ∈ ([] : List (Str × Value)), ps p := fun _ h => nomatch h
theorem all_cons {m : Str → Option Value} {p : Str × Value} {r : List (Str × Value)} (h : m p.1 = some p.2) (hr : ∀ q ∈ r, m q.1 = some q.2) : ∀ q ∈ p :: r, m q.1 = some q.2 := fun q hq => by
  rcases List.mem_cons.mp hq with rfl | hq
  · exact h
  · exact hr q hq
end Mine
end
section
open PySem PySem.W PyProof.Rows PySem.Calls
namespace Mine
theorem reset2 {M : Model} {A : Around} {E : Value → Shared → Prop} {s : Shared} {env : Env} {Q : Flow → Shared → Prop} (h : Q .next s) : wpAny M A (execs [] env) Q E s := by
  w_top off
  walk1
  w_top off
  exact h
end Mine
end
/-! R3 -/
section
open PySem PySem.W PyProof.Rows PySem.Calls
set_option Elab.async false
set_option maxRecDepth 100000
set_option maxHeartbeats 4000000
set_option linter.unusedVariables false
namespace Mine
section
variable {h₀ : Heap} {L I C D : Addr} {m : Str → Option Value} {s₁ : Shared} {oI oC oD : Obj} {S : List (Addr × Obj) → Prop} {rest : Value → List (Addr × Obj) → Prop} {y : Value} {h' : Heap} {tk : Nat} {news : List (Addr × Obj)}
theorem compEnd0 (F : Fr h₀ L h' m) (N : News h₀ L h' ((I, oI) :: (C, oC) :: (D, oD) :: news)) (off : LCg.Off3 I C D news) (hS : S news) (r : rest y news) :
    LCg.CompEnd h₀ L m s₁ I oI C oC D oD S rest y { s₁ with heap := h', toks := tk } := ⟨h', tk, news, rfl, F, N, off, hS, r⟩
theorem compEnd1 {p : Addr × Obj} (F : Fr h₀ L h' m) (N : News h₀ L h' (p :: (I, oI) :: (C, oC) :: (D, oD) :: news)) (ne : p.1 ≠ I ∧ p.1 ≠ C ∧ p.1 ≠ D) (off : LCg.Off3 I C D news) (hS : S (p :: news)) (r : rest y (p :: news)) :
    LCg.CompEnd h₀ L m s₁ I oI C oC D oD S rest y { s₁ with heap := h', toks := tk } := by
  refine ⟨h', tk, p :: news, rfl, F, fun q hq => N q ?_, ⟨ne, off⟩, hS, r⟩
  simp only [List.mem_cons] at hq ⊢
  rcases hq with h | h | h | h | h
  · exact .inr (.inl h)
  · exact .inr (.inr (.inl h))
  · exact .inr (.inr (.inr (.inl h)))
  · exact .inl h
  · exact .inr (.inr (.inr (.inr h)))
end

section
variable {prog : Program} {w : World} {A : Around} {E : Value → Shared → Prop} {s : Shared} {h₀ : Heap} {L : Addr} {news : List (Addr × Obj)} {value slice : Expr} {l : Addr} {its : Array Value} {n : Nat} {k : Int} {u : Tok} {v : Value} {Q : Value → Shared → Prop}
theorem sub_list (N : News h₀ L s.heap news) (hm : (l, listOf its n) ∈ news) (h0 : 0 ≤ k) (hhi : k < 2 ^ 63) (hx : its[k.toNat]? = some v) (h : Q v s)
    (hs : subscripted slice false (.ref l) (.int k u) = operate [.ref l, .int k u] (getItem (.ref l) (.int k u))) : wpAny (model prog w) A (subscriptTail value slice (.ref l) (.int k u)) Q E s :=
  have hl : s.heap.IsList l its := ⟨_, N.get hm, rfl, n, rfl⟩
  tail_any hl.typeIs slot_list_getitem.lookup (wpAny_getItem_list hl h0 hhi hx h) hs
theorem sub_tup3 {x y z : Value} (N : News h₀ L s.heap news) (hm : (l, tup3 x y z n) ∈ news) (h0 : 0 ≤ k) (h3 : k < 3) (hx : [x, y, z][k.toNat]? = some v) (h : Q v s)
    (hs : subscripted slice false (.ref l) (.int k u) = operate [.ref l, .int k u] (getItem (.ref l) (.int k u))) : wpAny (model prog w) A (subscriptTail value slice (.ref l) (.int k u)) Q E s := by
  have ht : IsTup s.heap l [x, y, z].toArray := ⟨_, N.get hm, rfl, n, rfl⟩
  have hj : seqIndex? k [x, y, z].length = some k.toNat := by
    have : k = 0 ∨ k = 1 ∨ k = 2 := by omega
    rcases this with rfl | rfl | rfl <;> rfl
  exact item_tupleT ht (by omega) (by omega) hj hx h hs
end
end Mine
end
section
open PySem PySem.W PyProof.Rows PySem.Calls
namespace Mine
theorem reset3 {M : Model} {A : Around} {E : Value → Shared → Prop} {s : Shared} {env : Env} {Q : Flow → Shared → Prop} (h : Q .next s) : wpAny M A (execs [] env) Q E s := by
  w_top off
  walk1
  w_top off
  exact h
end Mine
end
/-! R6 -/
section
open PySem PySem.W PyProof.Rows PySem.Calls
set_option Elab.async false
set_option maxRecDepth 100000
set_option maxHeartbeats 4000000
set_option linter.unusedVariables false
namespace Mine
section
variable {prog : Program} {w : World} {A : Around} {E : Value → Shared → Prop} {s : Shared} {env : Env} {h₀ : Heap} {x : Str} {px : Pos} {body : List Stmt} {Q : Flow → Shared → Prop}
/-- a loop whose name need not be a plain local: the turn begins with the name's own store -/
theorem turns_one {I : Addr} {fp : List Addr} {n : Nat} {cl : String} {P : Nat → Value → Prop} {St : Nat → Heap → Prop} {keep : List (Addr × Obj)} {m₀ : Str → Option Value} {news : List (Addr × Obj)} (J : Nat → (Str → Option Value) → List (Addr × Obj) → Prop)
    (W : Walks prog w A I fp [I] n P St) (hSt : ∀ i h, St i h → ∃ o, h.get? I = some o ∧ o.cls = .type cl) (hfp : ∀ b ∈ fp, b = I ∨ ∃ o, (b, o) ∈ keep)
    (hL : env.locals ∉ fp) (hI : h₀.get? I = none) (hst : St 0 s.heap) (F : Fr h₀ env.locals s.heap m₀) (N : News h₀ env.locals s.heap news) (hk0 : ∀ p ∈ keep, p ∈ news) (hoff0 : ∀ p ∈ news, p.1 ≠ I) (hj : J 0 m₀ news)
    (turn : ∀ i v o m₁ nx h tk, i < n → P i v → o.cls = .type cl → (∀ p ∈ nx, p.1 ≠ I) → (∀ p ∈ keep, p ∈ nx) → J i m₁ nx → Fr h₀ env.locals h m₁ → News h₀ env.locals h ((I, o) :: nx) →
      wpAny (model prog w) A (assign (.Name x px) env v) (fun _ s₃ => wpAny (model prog w) A (execs body env) (TurnPost h₀ env.locals (fun m' nx' => (∀ p ∈ keep, p ∈ nx') ∧ J (i + 1) m' nx') I o s Q) E s₃) E { s with heap := h, toks := tk })
    (done : ∀ m₁ nx h tk, (∀ p ∈ keep, p ∈ nx) → J n m₁ nx → Fr h₀ env.locals h m₁ → News h₀ env.locals h nx → Q .next { s with heap := h, toks := tk }) :
    TurnsAt prog w A h₀ env (.Name x px) body Q E (.ref I) s := by
  refine ⟨I, fp, [I], n, _, _, St, m₀, news, fun i m nx => (∀ p ∈ keep, p ∈ nx) ∧ (∀ p ∈ nx, p.1 ≠ I) ∧ J i m nx, rfl, KTurns.ofWalks W fun i v s' Q' E' _ hq => wpAny_pure hq, hL, by simpa using hI, fun p hp => by simpa using hoff0 p hp, hst, F, N, ⟨hk0, hoff0, hj⟩, ?_, ?_⟩
  · rintro i v m₁ nx hh' tk' own hin hP ⟨hkp, hoff, hJ'⟩ _ hown hget hall hst' F₁ N₁
    obtain ⟨o, ho, hc⟩ := hSt _ _ hst'
    have hIo : (I, o) ∈ own := hall I (W.sub I (by simp)) hI o ho
    have N₂ : News h₀ env.locals hh' ((I, o) :: nx) := fun p hp => by
      rcases List.mem_cons.mp hp with rfl | hp
      · exact N₁ _ (List.mem_append.mpr (.inl hIo))
      · exact N₁ p (List.mem_append.mpr (.inr hp))
    refine wpAny_mono (turn i v o m₁ nx hh' tk' hin hP hc hoff hkp hJ' F₁ N₂) (fun _ s₃ h₃ => wpAny_mono h₃ (fun f s₂ p => ?_) fun _ _ e => e) fun _ _ e => e
    have fin : TurnEnd h₀ env.locals (fun m' nx' => (∀ p ∈ keep, p ∈ nx') ∧ J (i + 1) m' nx') I o s s₂ → LoopStepU h₀ env.locals [I] own (fun m nx => (∀ p ∈ keep, p ∈ nx) ∧ (∀ p ∈ nx, p.1 ≠ I) ∧ J (i + 1) m nx) { s with heap := hh', toks := tk' } .next s₂ := by
      rintro ⟨h', tk, m', nx', e, F', N', hcl, hkp', hj'⟩
      have hI' : h'.get? I = some o := (N' (I, o) List.mem_cons_self).1
      have N'' : News h₀ env.locals h' nx' := fun q hq => N' q (List.mem_cons_of_mem _ hq)
      have off' : ∀ p ∈ nx', p.1 ≠ I := fun q hq => (hcl q hq).elim (fun h1 h2 => h1 (by
        have h3 := (N'' q hq).1
        rw [h2, hI'] at h3
        rw [Option.some.inj h3])) id
      refine ⟨rfl, h', tk, m', nx', by rw [e], F', fun q hq => ?_, fun q hq => by simpa using off' q hq, hkp', off', hj'⟩
      rcases List.mem_append.mp hq with hq | hq
      · have h2 : hh'.get? q.1 = some q.2 := hget q hq
        rcases hfp q.1 (hown q hq) with h1 | ⟨o1, h1⟩
        · rw [h1] at h2
          rw [ho] at h2
          have h4 : q = (I, o) := Prod.ext h1 (Option.some.inj h2).symm
          rw [h4]
          exact N' _ List.mem_cons_self
        · have h3 := (N₂ _ (List.mem_cons_of_mem _ (hkp _ h1))).1
          dsimp only at h3
          rw [h2] at h3
          have h4 : q = (q.1, o1) := Prod.ext rfl (Option.some.inj h3)
          rw [h4]
          exact N'' _ (hkp' _ h1)
      · exact N'' q hq
    cases f with
    | ret v => exact p
    | brk => exact p
    | next => exact fin p
    | cont => exact fin p
  · rintro h' tk m' nx F' N' _ ⟨hkp, _, hj'⟩
    exact done m' nx h' tk hkp hj' F' N'
theorem turns_range {r : Addr} {a b : Int} {t u v : Tok} {n : Nat} {m₀ : Str → Option Value} {news : List (Addr × Obj)} (J : Nat → (Str → Option Value) → List (Addr × Obj) → Prop)
    (hh : A.handled = none) (hr : IsRange s.heap r a b 1 t u v) (hsmall : Builtin.Range.small a b 1 = true) (hn : Builtin.Range.rangeSize a b 1 = (n : Int))
    (F : Fr h₀ env.locals s.heap m₀) (N : News h₀ env.locals s.heap news) (hj : J 0 m₀ news)
    (turn : ∀ i I o t m₁ nx h tk, i < n → o.cls = .type "range_iterator" → (∀ p ∈ nx, p.1 ≠ I) → J i m₁ nx → Fr h₀ env.locals h m₁ → News h₀ env.locals h ((I, o) :: nx) →
      wpAny (model prog w) A (assign (.Name x px) env (.int (a + (i : Int)) t)) (fun _ s₃ => wpAny (model prog w) A (execs body env) (TurnPost h₀ env.locals (J (i + 1)) I o s Q) E s₃) E { s with heap := h, toks := tk })
    (done : ∀ m₁ nx h tk, J n m₁ nx → Fr h₀ env.locals h m₁ → News h₀ env.locals h nx → Q .next { s with heap := h, toks := tk }) :
    wpAny (model prog w) A (pyIter (.ref r)) (fun it s₂ => TurnsAt prog w A h₀ env (.Name x px) body Q E it s₂) E s := by
  refine wpAny_pyIter_range hr hsmall ?_
  have W := LCg.range_walks (prog := prog) (w := w) (A := A) (I := s.heap.objs.size) hh a n
  refine turns_one (cl := "range_iterator") (keep := []) (news := news) J W (fun i h st => ⟨_, st, rfl⟩) (fun b hb => .inl (List.mem_singleton.mp hb)) (fun hm => absurd F.ns.lt ((List.mem_singleton.mp hm) ▸ Nat.lt_irrefl _)) (next_is_new F) (by show IsRangeIter _ _ _ _ _; rw [hn]; simpa using Heap.get?_push_size _ rfl) (F.push _) (fun p hp => ⟨Heap.get?_push_of_some _ (N p hp).1, (N p hp).2⟩) (fun _ h => nomatch h) (fun p hp => Nat.ne_of_lt (Heap.lt_size (N p hp).1)) hj ?_ (fun m₁ nx h tk _ hj F N => done m₁ nx h tk hj F N)
  rintro i v o m₁ nx h tk hi ⟨t, rfl⟩ hc hoff _ hj' F' N'
  refine wpAny_mono (turn i _ o t m₁ nx h tk hi hc hoff hj' F' N') (fun _ s₃ h₃ => wpAny_mono h₃ (fun f s₂ p => ?_) fun _ _ e => e) fun _ _ e => e
  have fin : TurnEnd h₀ env.locals (J (i + 1)) s.heap.objs.size o s s₂ → TurnEnd h₀ env.locals (fun m' nx' => (∀ p ∈ ([] : List (Addr × Obj)), p ∈ nx') ∧ J (i + 1) m' nx') s.heap.objs.size o s s₂ := by
    rintro ⟨h', tk, m', nx', e, F', N', hcl, hj'⟩
    exact ⟨h', tk, m', nx', e, F', N', hcl, (fun _ h => nomatch h), hj'⟩
  cases f with
  | ret v => exact p
  | brk => exact p
  | next => exact fin p
  | cont => exact fin p
theorem turns_list {ax : Addr} {its : Array Value} {nn : Nat} {m₀ : Str → Option Value} {news : List (Addr × Obj)} (J : Nat → (Str → Option Value) → List (Addr × Obj) → Prop)
    (hh : A.handled = none) (hm : (ax, listOf its nn) ∈ news)
    (F : Fr h₀ env.locals s.heap m₀) (N : News h₀ env.locals s.heap news) (hj : J 0 m₀ news)
    (turn : ∀ i v I o m₁ nx h tk, its[i]? = some v → o.cls = .type "list_iterator" → (∀ p ∈ nx, p.1 ≠ I) → (ax, listOf its nn) ∈ nx → J i m₁ nx → Fr h₀ env.locals h m₁ → News h₀ env.locals h ((I, o) :: nx) →
      wpAny (model prog w) A (assign (.Name x px) env v) (fun _ s₃ => wpAny (model prog w) A (execs body env) (TurnPost h₀ env.locals (fun m' nx' => (ax, listOf its nn) ∈ nx' ∧ J (i + 1) m' nx') I o s Q) E s₃) E { s with heap := h, toks := tk })
    (done : ∀ m₁ nx h tk, (ax, listOf its nn) ∈ nx → J its.size m₁ nx → Fr h₀ env.locals h m₁ → News h₀ env.locals h nx → Q .next { s with heap := h, toks := tk }) :
    wpAny (model prog w) A (pyIter (.ref ax)) (fun it s₂ => TurnsAt prog w A h₀ env (.Name x px) body Q E it s₂) E s := by
  have hol : s.heap.get? ax = some (listOf its nn) := (N _ hm).1
  have hls : s.heap.IsList ax its := ⟨_, hol, rfl, nn, rfl⟩
  have hne : ax ≠ s.heap.objs.size := Nat.ne_of_lt (Heap.lt_size hol)
  refine wpAny_pyIter_list hls ?_
  refine turns_one (cl := "list_iterator") (keep := [(ax, listOf its nn)]) (news := news) J (Walks.list (prog := prog) (w := w) (A := A) hh s.heap.objs.size ax hne its) (fun i h st => by obtain ⟨o, e, c, _⟩ := st.1; exact ⟨o, e, c⟩) (fun b hb => ?_) ?_ (next_is_new F) ⟨⟨_, Heap.get?_push_size _ rfl, rfl, rfl⟩, hls.at fun o e => Heap.get?_push_of_some _ e⟩ (F.push _) (fun p hp => ⟨Heap.get?_push_of_some _ (N p hp).1, (N p hp).2⟩) (fun p hp => List.mem_singleton.mp hp ▸ hm) (fun p hp => Nat.ne_of_lt (Heap.lt_size (N p hp).1)) hj ?_ (fun m₁ nx h tk hk hj F N => done m₁ nx h tk (hk _ (.head _)) hj F N)
  · rcases List.mem_cons.mp hb with h | h
    · exact .inl h
    · exact .inr ⟨_, by rw [List.mem_singleton.mp h]; exact .head _⟩
  · intro hm'
    rcases List.mem_cons.mp hm' with e | h
    · exact absurd F.ns.lt (e ▸ Nat.lt_irrefl _)
    · exact (N _ hm).2.1 (List.mem_singleton.mp h).symm
  · intro i v o m₁ nx h tk hi hP hc hoff hk hj' F' N'
    refine wpAny_mono (turn i v _ o m₁ nx h tk hP hc hoff (hk _ (.head _)) hj' F' N') (fun _ s₃ h₃ => wpAny_mono h₃ (fun f s₂ p => ?_) fun _ _ e => e) fun _ _ e => e
    have fin : TurnEnd h₀ env.locals (fun m' nx' => (ax, listOf its nn) ∈ nx' ∧ J (i + 1) m' nx') s.heap.objs.size o s s₂ → TurnEnd h₀ env.locals (fun m' nx' => (∀ p ∈ [(ax, listOf its nn)], p ∈ nx') ∧ J (i + 1) m' nx') s.heap.objs.size o s s₂ := by
      rintro ⟨h', tk, m', nx', e, F', N', hcl, hk', hj'⟩
      exact ⟨h', tk, m', nx', e, F', N', hcl, (fun p hp => List.mem_singleton.mp hp ▸ hk'), hj'⟩
    cases f with
    | ret v => exact p
    | brk => exact p
    | next => exact fin p
    | cont => exact fin p
end
end Mine
end
section
open PySem PySem.W PyProof.Rows PySem.Calls
namespace Mine
theorem reset4 {M : Model} {A : Around} {E : Value → Shared → Prop} {s : Shared} {env : Env} {Q : Flow → Shared → Prop} (h : Q .next s) : wpAny M A (execs [] env) Q E s := by
  w_top off
  walk1
  w_top off
  exact h
end Mine
end
/-! R7 -/
section
open PySem PySem.W PyProof.Rows PySem.Calls
set_option Elab.async false
set_option maxRecDepth 100000
set_option maxHeartbeats 4000000
set_option linter.unusedVariables false
namespace Mine
section
variable {prog : Program} {w : World} {A : Around} {E : Value → Shared → Prop} {s : Shared} {h₀ : Heap} {L : Addr} {m : Str → Option Value} {env : Env} {ct elt : Expr} {x x₂ : Str} {scope : Scope} {cl : List (Str × Addr)} {S : List (Addr × Obj) → Prop} {P : Nat → Value → Prop} {Fin : List Value → List (Addr × Obj) → Prop} {n : Nat}
theorem compEnd_mono {s₁ s₂ : Shared} {I C D : Addr} {oI oC oD : Obj} {r₁ r₂ : Value → List (Addr × Obj) → Prop} {y : Value} (h : LCg.CompEnd h₀ L m s₁ I oI C oC D oD S r₁ y s₂) (k : ∀ nx, r₁ y nx → r₂ y nx) : LCg.CompEnd h₀ L m s₁ I oI C oC D oD S r₂ y s₂ := by
  obtain ⟨h', tk, news', e, F, N, off, hS, r⟩ := h
  exact ⟨h', tk, news', e, F, N, off, hS, k _ r⟩
/-- a comprehension by what holds of it -/
theorem rest_inv (J : Nat → List Value → List (Addr × Obj) → Prop)
    (turn : ∀ i ys news v I oI C oC D m₂ h tk (E' : Value → Shared → Prop), i < n → P i v → J i ys news → LCg.NsObj oC m₂ → m₂ x = some v → Fr h₀ L h m → News h₀ L h ((I, oI) :: (C, oC) :: (D, LCg.lst ys) :: news) → LCg.Off3 I C D news → ((@Ne Nat I C) ∧ (@Ne Nat I D) ∧ (@Ne Nat C D)) →
      wpAny (model prog w) A (eval elt (compEnvC scope cl C env)) (LCg.CompEnd h₀ L m { s with heap := h, toks := tk } I oI C oC D (LCg.lst ys) S (fun y news' => J (i + 1) (ys ++ [y]) news')) E' { s with heap := h, toks := tk })
    (fin : ∀ ys news, J n ys news → Fin ys news) : ∀ k i ys news, i + k = n → J i ys news → LCg.CompRest prog w A h₀ L m env elt x scope cl s S P Fin k i ys news
  | 0, i, ys, news, hi, hJ => fin _ _ (by rw [← hi]; exact hJ)
  | k + 1, i, ys, news, hi, hJ => LCg.CompRest.succ fun v I oI C oC D m₂ h tk E' hP hoC hm F N off ne =>
    wpAny_mono (turn i ys news v I oI C oC D m₂ h tk E' (by omega) hP hJ hoC hm F N off ne) (fun y s₂ he => compEnd_mono he fun nx hj => rest_inv J turn fin k (i + 1) _ nx (by omega) hj) fun _ _ e => e
theorem restT_inv (J : Nat → List Value → List (Addr × Obj) → Prop)
    (turn : ∀ i ys news v I oI C oC D m₂ h tk (E' : Value → Shared → Prop), i < n → P i v → J i ys news → LCg.NsObj oC m₂ → m₂ x = some v → Fr h₀ L h m → News h₀ L h ((I, oI) :: (C, oC) :: (D, LCg.lst ys) :: news) → LCg.Off3 I C D news → ((@Ne Nat I C) ∧ (@Ne Nat I D) ∧ (@Ne Nat C D)) →
      wpAny (model prog w) A (isTrue ct (compEnvC scope cl C env) (eval ct (compEnvC scope cl C env))) (fun ok s' => if ok = true then
        wpAny (model prog w) A (eval elt (compEnvC scope cl C env)) (LCg.CompEnd h₀ L m { s with heap := h, toks := tk } I oI C oC D (LCg.lst ys) S (fun y news' => J (i + 1) (ys ++ [y]) news')) E' s'
        else LCg.CompEnd h₀ L m { s with heap := h, toks := tk } I oI C oC D (LCg.lst ys) S (fun _ news' => J (i + 1) ys news') Value.none s') E' { s with heap := h, toks := tk })
    (fin : ∀ ys news, J n ys news → Fin ys news) : ∀ k i ys news, i + k = n → J i ys news → LCt.CompRestT prog w A h₀ L m env ct elt x scope cl s S P Fin k i ys news
  | 0, i, ys, news, hi, hJ => fin _ _ (by rw [← hi]; exact hJ)
  | k + 1, i, ys, news, hi, hJ => LCt.CompRestT.succ fun v I oI C oC D m₂ h tk E' hP hoC hm F N off ne =>
    wpAny_mono (turn i ys news v I oI C oC D m₂ h tk E' (by omega) hP hJ hoC hm F N off ne) (fun ok s₂ he => by
      cases ok with
      | true => exact wpAny_mono he (fun y s₃ he' => compEnd_mono he' fun nx hj => restT_inv J turn fin k (i + 1) _ nx (by omega) hj) fun _ _ e => e
      | false =>
        rw [if_neg Bool.false_ne_true] at he ⊢
        exact compEnd_mono he fun nx hj => restT_inv J turn fin k (i + 1) _ nx (by omega) hj) fun _ _ e => e
theorem restP_inv (J : Nat → List Value → List (Addr × Obj) → Prop)
    (turn : ∀ i ys news v, i < n → P i v → J i ys news → ∃ (t : Addr) (ot : Obj) (v₁ v₂ : Value) (nt : Nat), v = .ref t ∧ (t, ot) ∈ news ∧ ot.cls = .type "tuple" ∧ ot.data = .seq #[v₁, v₂] nt ∧
      ∀ I oI C oC D m₂ h tk (E' : Value → Shared → Prop), LCg.NsObj oC m₂ → m₂ x = some v₁ → m₂ x₂ = some v₂ → Fr h₀ L h m → News h₀ L h ((I, oI) :: (C, oC) :: (D, LCg.lst ys) :: news) → LCg.Off3 I C D news → ((@Ne Nat I C) ∧ (@Ne Nat I D) ∧ (@Ne Nat C D)) →
      wpAny (model prog w) A (eval elt (compEnvC scope cl C env)) (LCg.CompEnd h₀ L m { s with heap := h, toks := tk } I oI C oC D (LCg.lst ys) S (fun y news' => J (i + 1) (ys ++ [y]) news')) E' { s with heap := h, toks := tk })
    (fin : ∀ ys news, J n ys news → Fin ys news) : ∀ k i ys news, i + k = n → J i ys news → LCp.CompRestP prog w A h₀ L m env elt x x₂ scope cl s S P Fin k i ys news
  | 0, i, ys, news, hi, hJ => fin _ _ (by rw [← hi]; exact hJ)
  | k + 1, i, ys, news, hi, hJ => LCp.CompRestP.succ fun v hP => by
    obtain ⟨t, ot, v₁, v₂, nt, e, hm, hc, hd, hgo⟩ := turn i ys news v (by omega) hP hJ
    exact ⟨t, ot, v₁, v₂, nt, e, hm, hc, hd, fun I oI C oC D m₂ h tk E' hoC h1 h2 F N off ne =>
      wpAny_mono (hgo I oI C oC D m₂ h tk E' hoC h1 h2 F N off ne) (fun y s₂ he => compEnd_mono he fun nx hj => restP_inv J turn fin k (i + 1) _ nx (by omega) hj) fun _ _ e => e⟩
end
end Mine
end
section
open PySem PySem.W PyProof.Rows PySem.Calls
namespace Mine
theorem reset5 {M : Model} {A : Around} {E : Value → Shared → Prop} {s : Shared} {env : Env} {Q : Flow → Shared → Prop} (h : Q .next s) : wpAny M A (execs [] env) Q E s := by
  w_top off
  walk1
  w_top off
  exact h
end Mine
end
/-! R8 -/
section
open PySem PySem.W PyProof.Rows PySem.Calls
set_option Elab.async false
set_option maxRecDepth 100000
set_option maxHeartbeats 4000000
set_option linter.unusedVariables false
namespace Mine
theorem off1_of {D : Addr} : ∀ {l : List (Addr × Obj)}, (∀ p ∈ l, p.1 ≠ D) → LCg.Off1 D l
  | [], _ => trivial
  | _ :: _, h => ⟨h _ List.mem_cons_self, off1_of fun p hp => h p (List.mem_cons_of_mem _ hp)⟩
/-- a comprehension's turn whose name is a cell: its end -/
noncomputable def CellEnd (h₀ : Heap) (L : Addr) (m : Str → Option Value) (s₁ : Shared) (I : Addr) (oI : Obj) (C : Addr) (oC : Obj) (X : Addr) (oX : Obj) (D : Addr) (oD : Obj) (keep : List (Addr × Obj)) (Jn : Value → List (Addr × Obj) → Prop) (y : Value) (s₂ : Shared) : Prop :=
  ∃ h' tk nx, s₂ = { s₁ with heap := h', toks := tk } ∧ Fr h₀ L h' m ∧ News h₀ L h' ((I, oI) :: (C, oC) :: (X, oX) :: (D, oD) :: nx) ∧ (∀ p ∈ nx, p.1 ≠ I ∧ p.1 ≠ C ∧ p.1 ≠ X ∧ p.1 ≠ D) ∧ (∀ p ∈ keep, p ∈ nx) ∧ Jn y nx
section
variable {prog : Program} {w : World} {A : Around} {E : Value → Shared → Prop} {s : Shared} {h₀ : Heap} {L : Addr} {m : Str → Option Value} {env : Env}
theorem ne_lt {a b : Nat} (h : a < b) : a ≠ b := Nat.ne_of_lt h
noncomputable def CellTurn (prog : Program) (w : World) (A : Around) (h₀ : Heap) (L : Addr) (m : Str → Option Value) (env : Env) (elt : Expr) (x : Str) (scope : Scope) (cl : List (Str × Addr)) (s : Shared) (n : Nat) (P : Nat → Value → Prop) (keep : List (Addr × Obj)) (J : Nat → List Value → List (Addr × Obj) → Prop) : Prop :=
  ∀ i ys nx v I oI C oC X oX D h tk (E' : Value → Shared → Prop), i < n → P i v → J i ys nx → (∀ p ∈ keep, p ∈ nx) → oX.data = .cell (some v) → Fr h₀ L h m → News h₀ L h ((I, oI) :: (C, oC) :: (X, oX) :: (D, LCg.lst ys) :: nx) → (∀ p ∈ nx, p.1 ≠ I ∧ p.1 ≠ C ∧ p.1 ≠ X ∧ p.1 ≠ D) →
    (I ≠ C ∧ I ≠ X ∧ I ≠ D ∧ C ≠ X ∧ C ≠ D ∧ X ≠ D) →
    wpAny (model prog w) A (eval elt (compEnvC scope ((x, X) :: cl) C env)) (CellEnd h₀ L m { s with heap := h, toks := tk } I oI C oC X oX D (LCg.lst ys) keep (fun y nx' => J (i + 1) (ys ++ [y]) nx')) E' { s with heap := h, toks := tk }
theorem block_cell {elt iter : Expr} {x : Str} {px : Pos} {scope : Scope} {cl : List (Str × Addr)} {pos : Pos} {s₂ : Shared} {I : Addr} {fp : List Addr} {n : Nat} {P : Nat → Value → Prop} {St : Nat → Heap → Prop} {keep news : List (Addr × Obj)} {J : Nat → List Value → List (Addr × Obj) → Prop}
    {RR : Value → Addr → Result → Shared → Prop}
    (W : Walks prog w A I fp [I] n P St) (hsz : n ≤ sizeLine) (hIo : ∀ i h, St i h → ∃ o, h.get? I = some o) (hfp : ∀ b ∈ fp, b = I ∨ ∃ o, (b, o) ∈ keep) (hI : I < s₂.heap.objs.size)
    (hcf : ∀ k acc, cellsFrom k scope.names acc = (x, k) :: acc) (hpc : ∀ h : Heap, pushCells h scope.names = h.push { cls := .type "cell", data := .cell none }) (hkind : scope.kind = .function) (hx : (relabel scope env).names.lookup x = some .cell)
    (hst : St 0 s₂.heap) (F : Fr h₀ L s₂.heap m) (N : News h₀ L s₂.heap news) (hIL : L ≠ I) (hI₀ : h₀.get? I = none) (off : ∀ p ∈ news, p.1 ≠ I) (hk : ∀ p ∈ keep, p ∈ news) (hj : J 0 [] news)
    (turn : CellTurn prog w A h₀ L m env elt x scope cl s₂ n P keep J)
    (hRR : ∀ D C h tk m' ys nx, Fr h₀ L h m → News h₀ L h ((D, LCg.lst ys) :: nx) → (∀ p ∈ nx, p.1 ≠ D) → h.Ns C m' → h₀.get? C = none → C ≠ L → C ≠ D → (∀ p ∈ nx, p.1 ≠ C) → (∀ p ∈ keep, p ∈ nx) → J n ys nx → RR (.ref D) C (.ok .next) { s₂ with heap := h, toks := tk }) :
    wpAny (model prog w) A (newList []) (fun acc s₃ => wpAny (model prog w) A (newFunctionEnv scope env.globals cl [] env.qual none .none (some env)) (fun cenv s₄ =>
      codeAny (model prog w) A (.compStart (.ListComp elt [⟨.Name x px, iter, [], 0⟩] scope pos) 0 (.ref I) acc { cenv with scope := relabel scope env }) (RR acc cenv.locals) s₄) E s₃) E s₂ := by
  refine wpAny_newObj_type ?_
  simp only [newFunctionEnv, Option.isSome_some, if_true]
  refine wpAny_bind (wpAny_alloc ?_)
  refine wpAny_bind (wpAny_layCells _ (fun name kind cells => by cases kind == NameKind.cell <;> simp) _ _ _ _ ?_)
  refine wpAny_bind ?_
  rw [List.forIn_nil]
  refine wpAny_pure (wpAny_pure ?_)
  rw [hcf, hpc]
  dsimp only
  generalize hH1 : s₂.heap.push { cls := .type "list", dict := none, data := .seq ([] : List Value).toArray } = H1
  generalize hH2 : H1.push { cls := .type "dict", data := .dict #[] } = H2
  generalize hH3 : H2.push { cls := .type "cell", data := .cell none } = H3
  have hC : H1.objs.size = s₂.heap.objs.size + 1 := by rw [← hH1, Heap.size_push]
  have hX : H2.objs.size = s₂.heap.objs.size + 2 := by rw [← hH2, Heap.size_push, hC]
  have old : ∀ b o, s₂.heap.get? b = some o → H3.get? b = some o := fun b o e => hH3 ▸ Heap.get?_push_of_some _ (hH2 ▸ Heap.get?_push_of_some _ (hH1 ▸ Heap.get?_push_of_some _ e))
  have gD : H3.get? s₂.heap.objs.size = some (LCg.lst []) := hH3 ▸ Heap.get?_push_of_some _ (hH2 ▸ Heap.get?_push_of_some _ (hH1 ▸ Heap.get?_push_size _ rfl))
  have gC : H3.get? H1.objs.size = some { cls := .type "dict", data := .dict #[] } := hH3 ▸ Heap.get?_push_of_some _ (hH2 ▸ Heap.get?_push_size _ rfl)
  have gX : H3.get? H2.objs.size = some { cls := .type "cell", data := .cell none } := hH3 ▸ Heap.get?_push_size _ rfl
  have nsC : H3.Ns H1.objs.size (fun _ => none) := by
    have h1 := Heap.Ns.new H1 (.type "dict")
    rw [hH2] at h1
    exact h1.at' fun o e => hH3 ▸ Heap.get?_push_of_some _ e
  have hnoneC : ∀ h : Heap, h.get? H1.objs.size = some { cls := .type "dict", data := .dict #[] } → h.Ns H1.objs.size (fun _ => none) := fun h e =>
    nsC.at' fun o e' => by rw [gC] at e'; rw [← Option.some.inj e']; exact e
  have fresh₀ : ∀ a, s₂.heap.objs.size ≤ a → h₀.get? a = none := fun a ha => by
    cases e : h₀.get? a with
    | none => rfl
    | some o' => exact absurd (Heap.lt_size (F.keep a o' e)) (Nat.not_lt.mpr ha)
  have hLlt : L < s₂.heap.objs.size := F.ns.lt
  obtain ⟨D, hDD⟩ : ∃ D : Addr, D = s₂.heap.objs.size := ⟨_, rfl⟩
  obtain ⟨C, hCC⟩ : ∃ C : Addr, C = H1.objs.size := ⟨_, rfl⟩
  obtain ⟨X, hXX⟩ : ∃ X : Addr, X = H2.objs.size := ⟨_, rfl⟩
  rw [← hDD, ← hCC] at hC
  rw [← hDD, ← hXX] at hX
  rw [← hDD] at gD hLlt hI
  rw [← hCC] at gC nsC hnoneC
  rw [← hXX] at gX
  rw [← hDD] at fresh₀
  rw [← hDD, ← hCC, ← hXX]
  have hLlt' : @LT.lt Nat instLTNat L D := hLlt
  have hI' : @LT.lt Nat instLTNat I D := hI
  have hD0 := fresh₀ D (by omega)
  have hC0 := fresh₀ C (by omega)
  have hX0 := fresh₀ X (by omega)
  have hDL : D ≠ L := (show @Ne Nat D L by omega)
  have hCL : C ≠ L := (show @Ne Nat C L by omega)
  have hXL : X ≠ L := (show @Ne Nat X L by omega)
  have hIC : I ≠ C := (show @Ne Nat I C by omega)
  have hIX : I ≠ X := (show @Ne Nat I X by omega)
  have hID : I ≠ D := (show @Ne Nat I D by omega)
  have hCX : C ≠ X := (show @Ne Nat C X by omega)
  have hCD : C ≠ D := (show @Ne Nat C D by omega)
  have hXD : X ≠ D := (show @Ne Nat X D by omega)
  have hold : ∀ p ∈ news, @LT.lt Nat instLTNat p.1 D := fun p hp => by rw [hDD]; exact Heap.lt_size (N p hp).1
  have hkind' : (relabel scope env).kind = .function := hkind
  have loop : codeAny (model prog w) A (.compLoop (.ListComp elt [⟨.Name x px, iter, [], 0⟩] scope pos) 0 (.ref I) (.ref D) (compEnvC scope ((x, X) :: cl) C env)) (RR (.ref D) C) { s₂ with heap := H3 } := by
    refine codeAny_compLoop_tests
      (fun k s' => ∃ h' tk i ys oX v₀ nx, s' = { s₂ with heap := h', toks := tk } ∧ i ≤ n ∧ k = n + 1 - i ∧ ys.length = i ∧ St i h' ∧ Fr h₀ L h' m ∧ oX.data = .cell v₀ ∧
        News h₀ L h' ((C, { cls := .type "dict", data := .dict #[] }) :: (X, oX) :: (D, LCg.lst ys) :: nx) ∧ (∀ p ∈ nx, p.1 ≠ I ∧ p.1 ≠ C ∧ p.1 ≠ X ∧ p.1 ≠ D) ∧ (∀ p ∈ keep, p ∈ nx) ∧ J i ys nx) ?_ (n + 1)
      ⟨H3, _, 0, [], { cls := .type "cell", data := .cell none }, none, news, rfl, Nat.zero_le _, rfl, rfl, W.frame _ _ _ hst fun b _ o e => old b o e, F.keeps old, rfl, ?_, ?_, hk, hj⟩
    · rintro k s' ⟨h', tk, i, ys, oX, v₀, nx, rfl, hi, rfl, hyl, hst', F', hoX, N', off', hk', hj'⟩
      by_cases hlt : i < n
      · refine W.item i _ _ _ hlt hst' fun v h₂ tk₂ hPv hst₂ hk₂ => ?_
        have N₂ : News h₀ L h₂ ((C, { cls := .type "dict", data := .dict #[] }) :: (X, oX) :: (D, LCg.lst ys) :: nx) := LCg.news_but N' hk₂ fun p hp => by
          simp only [List.mem_cons] at hp
          rcases hp with rfl | rfl | rfl | hp
          · exact hIC.symm
          · exact hIX.symm
          · exact hID.symm
          · exact (off' p hp).1
        have F₂ := LCg.fr_but F' hk₂ hIL hI₀
        refine wpAny_assign_Name (wpAny_storeName_cell (c := X) (v₀ := v₀) hkind' hx (by simp [compEnvC]) ⟨oX, (N₂ _ (.tail _ (.head _))).1, hoX⟩ fun h₃ hv₃ hs₃ => ?_)
        obtain ⟨oX', gX', dX'⟩ := hv₃
        refine wpAny_tests_nil ?_
        simp only [if_true]
        have keep3 : ∀ b o, b ≠ X → h₂.get? b = some o → h₃.get? b = some o := fun b o hb e => hs₃.extBut b o hb e
        have hst₃ : St (i + 1) h₃ := W.frame _ _ _ hst₂ fun b hb o e => keep3 b o (by
          rcases hfp b hb with rfl | ⟨o1, h1⟩
          · exact hIX
          · exact (off' _ (hk' _ h1)).2.2.1) e
        obtain ⟨oI, heI⟩ := hIo _ _ hst₃
        have F₃ : Fr h₀ L h₃ m := F₂.change hs₃ hXL hX0
        have N₃ : News h₀ L h₃ ((I, oI) :: (C, { cls := .type "dict", data := .dict #[] }) :: (X, oX') :: (D, LCg.lst ys) :: nx) := fun p hp => by
          simp only [List.mem_cons] at hp
          rcases hp with rfl | rfl | rfl | rfl | hp
          · exact ⟨heI, Ne.symm hIL, hI₀⟩
          · exact ⟨keep3 _ _ hCX (N₂ _ (.head _)).1, hCL, hC0⟩
          · exact ⟨gX', hXL, hX0⟩
          · exact ⟨keep3 _ _ hXD.symm (N₂ _ (.tail _ (.tail _ (.head _)))).1, hDL, hD0⟩
          · have z := N₂ p (.tail _ (.tail _ (.tail _ hp)))
            exact ⟨keep3 _ _ (off' p hp).2.2.1 z.1, z.2⟩
        refine wpAny_mono (turn i ys nx v I oI C _ X oX' D h₃ _ _ hlt hPv hj' hk' dX' F₃ N₃ off' ⟨hIC, hIX, hID, hCX, hCD, hXD⟩) (fun y s₄ h₄ => ?_) fun _ _ e => e
        obtain ⟨h₄, tk₄, nx₄, rfl, F₄, N₄, off₄, hk₄, hj₄⟩ := h₄
        have hst₄ : St (i + 1) h₄ := W.frame _ _ _ hst₃ fun b hb o e => by
          rcases hfp b hb with rfl | ⟨o1, h1⟩
          · have z := (N₄ (b, oI) (.head _)).1
            rw [heI] at e
            rw [← Option.some.inj e]; exact z
          · have z := (N₄ (b, o1) (.tail _ (.tail _ (.tail _ (.tail _ (hk₄ _ h1)))))).1
            have z2 := (N₃ (b, o1) (.tail _ (.tail _ (.tail _ (.tail _ (hk' _ h1)))))).1
            dsimp only at z z2
            rw [z2] at e
            rw [← Option.some.inj e]; exact z
        refine append_at (hsz := by show ys.toArray.size ≤ sizeLine; rw [List.size_toArray, hyl]; exact Nat.le_trans hi hsz) (N₄ _ (.tail _ (.tail _ (.tail _ (.head _))))).1 fun h₅ hs₅ hD₅ => ?_
        refine ⟨n + 1 - (i + 1), by omega, h₅, tk₄, i + 1, ys ++ [y], oX', some v, nx₄, rfl, hlt, rfl, by rw [List.length_append, List.length_singleton, hyl], W.frame _ _ _ hst₄ fun b hb o e => hs₅.extBut b o (fun q => ?_) e, F₄.change hs₅ hDL hD0, dX', fun p hp => ?_, off₄, hk₄, hj₄⟩
        · rcases hfp b hb with rfl | ⟨o1, h1⟩
          · exact hID q
          · exact (off₄ _ (hk₄ _ h1)).2.2.2 q
        · simp only [List.mem_cons] at hp
          rcases hp with rfl | rfl | rfl | hp
          · exact ⟨hs₅.extBut _ _ hCD (N₄ _ (.tail _ (.head _))).1, hCL, hC0⟩
          · exact ⟨hs₅.extBut _ _ hXD (N₄ _ (.tail _ (.tail _ (.head _)))).1, hXL, hX0⟩
          · exact ⟨hD₅.trans (congrArg some (LCg.lst_snoc ys y)), hDL, hD0⟩
          · have z := N₄ p (.tail _ (.tail _ (.tail _ (.tail _ hp))))
            exact ⟨hs₅.extBut _ _ (off₄ p hp).2.2.2 z.1, z.2⟩
      · obtain rfl : i = n := Nat.le_antisymm hi (Nat.not_lt.mp hlt)
        refine W.done _ _ _ hst' fun h₂ tk₂ hk₂ => ?_
        have N₂ : News h₀ L h₂ ((C, { cls := .type "dict", data := .dict #[] }) :: (X, oX) :: (D, LCg.lst ys) :: nx) := LCg.news_but N' hk₂ fun p hp => by
          simp only [List.mem_cons] at hp
          rcases hp with rfl | rfl | rfl | hp
          · exact hIC.symm
          · exact hIX.symm
          · exact hID.symm
          · exact (off' p hp).1
        exact hRR D C h₂ tk₂ _ ys nx (LCg.fr_but F' hk₂ hIL hI₀) (fun p hp => N₂ p (.tail _ (.tail _ hp))) (fun p hp => (off' p hp).2.2.2) (hnoneC h₂ (N₂ _ (.head _)).1) hC0 hCL hCD (fun p hp => (off' p hp).2.1) hk' hj'
    · intro p hp
      simp only [List.mem_cons] at hp
      rcases hp with rfl | rfl | rfl | hp
      · exact ⟨gC, hCL, hC0⟩
      · exact ⟨gX, hXL, hX0⟩
      · exact ⟨gD, hDL, hD0⟩
      · exact ⟨old _ _ (N p hp).1, (N p hp).2⟩
    · intro p hp
      have := hold p hp
      exact ⟨off p hp, (show @Ne Nat p.1 C by omega), (show @Ne Nat p.1 X by omega), (show @Ne Nat p.1 D by omega)⟩
  exact codeAny_compStart_list loop (W.self 0 _ _ _ (W.frame _ _ _ hst fun b _ o e => old b o e) loop)
end
end Mine
end
section
open PySem PySem.W PyProof.Rows PySem.Calls
namespace Mine
theorem reset6 {M : Model} {A : Around} {E : Value → Shared → Prop} {s : Shared} {env : Env} {Q : Flow → Shared → Prop} (h : Q .next s) : wpAny M A (execs [] env) Q E s := by
  w_top off
  walk1
  w_top off
  exact h
end Mine
end
/-! R9 -/
section
open PySem PySem.W PyProof.Rows PySem.Calls
set_option Elab.async false
set_option maxRecDepth 100000
set_option maxHeartbeats 4000000
set_option linter.unusedVariables false
namespace Mine
section
variable {prog : Program} {w : World} {A : Around} {E : Value → Shared → Prop} {s : Shared} {h₀ : Heap} {L : Addr} {m : Str → Option Value} {env : Env}
noncomputable def CellAt (prog : Program) (w : World) (A : Around) (h₀ : Heap) (L : Addr) (m : Str → Option Value) (env : Env) (elt : Expr) (x : Str) (scope : Scope) (cl : List (Str × Addr)) (Fin : Shared → List Value → List (Addr × Obj) → Prop) (it : Value) (s₂ : Shared) : Prop :=
  ∃ (I : Addr) (fp : List Addr) (n : Nat) (P : Nat → Value → Prop) (St : Nat → Heap → Prop) (keep news : List (Addr × Obj)) (J : Nat → List Value → List (Addr × Obj) → Prop),
    it = .ref I ∧ Walks prog w A I fp [I] n P St ∧ n ≤ sizeLine ∧ (∀ i h, St i h → ∃ o, h.get? I = some o) ∧ (∀ b ∈ fp, b = I ∨ ∃ o, (b, o) ∈ keep) ∧ I < s₂.heap.objs.size ∧ St 0 s₂.heap ∧ Fr h₀ L s₂.heap m ∧ News h₀ L s₂.heap news ∧ L ≠ I ∧ h₀.get? I = none ∧
    (∀ p ∈ news, p.1 ≠ I) ∧ (∀ p ∈ keep, p ∈ news) ∧ J 0 [] news ∧ CellTurn prog w A h₀ L m env elt x scope cl s₂ n P keep J ∧ ∀ ys nx, (∀ p ∈ keep, p ∈ nx) → J n ys nx → Fin s₂ ys nx
theorem ListComp_cell {elt iter : Expr} {x : Str} {px : Pos} {scope : Scope} {cl : List (Str × Addr)} {pos : Pos} {Q : Value → Shared → Prop} (F₀ : Fr h₀ L s.heap m)
    (hclos : closureFor scope env = pure cl) (hcf : ∀ k acc, cellsFrom k scope.names acc = (x, k) :: acc) (hpc : ∀ h : Heap, pushCells h scope.names = h.push { cls := .type "cell", data := .cell none }) (hkind : scope.kind = .function)
    (hnames : ∀ y ∈ scope.names, y.2 = .local → scope.names.lookup y.1 = some .local) (hx : (relabel scope env).names.lookup x = some .cell)
    (h : wpAny (model prog w) A (eval iter env) (fun xv s₁ => wpAny (model prog w) A (pyIter xv) (CellAt prog w A h₀ L m env elt x scope cl (fun s₂ => LCg.FinE h₀ L m s₂ Q)) E s₁) E s)
    (hs : ∀ x, foldedSetIterable iter env x = pure x := by intro _; rfl) :
    wpAny (model prog w) A (eval (.ListComp elt [⟨.Name x px, iter, [], 0⟩] scope pos) env) Q E s := by
  rw [eval_ListComp]
  refine wpAny_comprehension_free (use := none) rfl hs hclos hkind hnames (wpAny_mono h (fun xv s₁ h₁ => wpAny_mono h₁ (fun it s₂ h₂ => ?_) fun _ _ e => e) fun _ _ e => e)
  obtain ⟨I, fp, n, P, St, keep, news, J, rfl, W, hsz, hIo, hfp, hI, hst, F, N, hLI, hI₀, off, hk, hj, turn, fin⟩ := h₂
  refine block_cell W hsz hIo hfp hI hcf hpc hkind hx hst F N hLI hI₀ off hk hj turn ?_
  intro D C h' tk m' ys nx F' N' o1 hn hC₀ hCL hCD offC hk' hj'
  refine ⟨m', hn, fun h'' hs'' => fin ys nx hk' hj' D h'' tk (F'.change hs'' hCL hC₀) (fun p hp => ?_) (off1_of o1)⟩
  refine ⟨hs''.extBut _ _ ?_ (N' p hp).1, (N' p hp).2⟩
  rcases List.mem_cons.mp hp with rfl | hp
  · exact Ne.symm hCD
  · exact offC p hp
theorem Assign_ListComp_cell {elt iter : Expr} {x y : Str} {px py : Pos} {scope : Scope} {cl : List (Str × Addr)} {pos spos : Pos} {Q : Flow → Shared → Prop} (F₀ : Fr h₀ L s.heap m) (hLe : env.locals = L)
    (hsw : swapsWith (.ListComp elt [⟨.Name x px, iter, [], 0⟩] scope pos) (some (.Name y py)) spos.line env = pure true)
    (hclos : closureFor scope env = pure cl) (hcf : ∀ k acc, cellsFrom k scope.names acc = (x, k) :: acc) (hpc : ∀ h : Heap, pushCells h scope.names = h.push { cls := .type "cell", data := .cell none }) (hkind : scope.kind = .function)
    (hnames : ∀ y ∈ scope.names, y.2 = .local → scope.names.lookup y.1 = some .local) (hx : (relabel scope env).names.lookup x = some .cell)
    (hy : env.kindOf y = some .local) (hp : (env.scope.kind == .class || (env.scope.kind == .module && env.locals != env.globals)) = false)
    (h : wpAny (model prog w) A (eval iter env) (fun xv s₁ => wpAny (model prog w) A (pyIter xv) (CellAt prog w A h₀ L m env elt x scope cl (fun s₂ => LCg.FinA h₀ L m s₂ y Q)) E s₁) E s)
    (hs : ∀ x, foldedSetIterable iter env x = pure x := by intro _; rfl) :
    wpAny (model prog w) A (exec (.Assign [.Name y py] (.ListComp elt [⟨.Name x px, iter, [], 0⟩] scope pos) spos) env) Q E s := by
  subst hLe
  rw [exec_Assign_Name_used _ _ _ _ hsw]
  refine wpAny_bind (wpAny_standAt (wpAny_bind ?_))
  show wpAny _ A (do let _ ← comprehension (.ListComp elt [⟨.Name x px, iter, [], 0⟩] scope pos) scope env _ (newList []) false (eval iter env) (some (assign (.Name y py) env))) _ _ s
  refine wpAny_bind (wpAny_mono (wpAny_comprehension_free (use := some (assign (.Name y py) env)) (Q := fun _ s' => Q .next s') rfl hs hclos hkind hnames
    (wpAny_mono h (fun xv s₁ h₁ => wpAny_mono h₁ (fun it s₂ h₂ => ?_) fun _ _ e => e) fun _ _ e => e)) (fun _ s' hq => wpAny_pure (wpAny_pure hq)) fun _ _ e => e)
  obtain ⟨I, fp, n, P, St, keep, news, J, rfl, W, hsz, hIo, hfp, hI, hst, F, N, hLI, hI₀, off, hk, hj, turn, fin⟩ := h₂
  refine block_cell W hsz hIo hfp hI hcf hpc hkind hx hst F N hLI hI₀ off hk hj turn ?_
  intro D C h' tk m' ys nx F' N' o1 hn hC₀ hCL hCD offC hk' hj'
  show wpAny _ A (assign (.Name y py) env (.ref D)) _ _ _
  refine wpAny_assign_Name (wpAny_storeName_local hy F'.ns (fun h₂ hn₂ hs₂ => ?_) hp)
  have hL₀ : h₀.get? env.locals = none := Heap.get?_none_of_le F'.above
  have F₂ : Fr h₀ env.locals h₂ (fun z => if z = y then some (.ref D) else m z) := ⟨hn₂, fun b o e => hs₂.extBut b o (fun q => by rw [q, hL₀] at e; cases e) (F'.keep b o e), F'.above⟩
  refine ⟨m', hn.sameBut hs₂ hCL, fun h'' hs'' => fin ys nx hk' hj' D h'' _ (F₂.change hs'' hCL hC₀) (fun p hp => ?_) (off1_of o1)⟩
  have z : h₂.get? p.1 = some p.2 := hs₂.extBut _ _ (N' p hp).2.1 (N' p hp).1
  refine ⟨hs''.extBut _ _ ?_ z, (N' p hp).2⟩
  rcases List.mem_cons.mp hp with rfl | hp
  · exact Ne.symm hCD
  · exact offC p hp
theorem cell_range {elt : Expr} {x : Str} {scope : Scope} {cl : List (Str × Addr)} {Fin : Shared → List Value → List (Addr × Obj) → Prop} {r : Addr} {a b : Int} {t u v : Tok} {n : Nat} {news : List (Addr × Obj)} (J : Nat → List Value → List (Addr × Obj) → Prop)
    (hh : A.handled = none) (hr : IsRange s.heap r a b 1 t u v) (hsmall : Builtin.Range.small a b 1 = true) (hn : Builtin.Range.rangeSize a b 1 = (n : Int)) (hsz : n ≤ sizeLine)
    (F : Fr h₀ L s.heap m) (N : News h₀ L s.heap news) (hj : J 0 [] news)
    (turn : ∀ g, CellTurn prog w A h₀ L m env elt x scope cl { s with heap := g } n (fun i v => ∃ t, v = .int (a + (i : Int)) t) [] J)
    (fin : ∀ g ys nx, J n ys nx → Fin { s with heap := g } ys nx) :
    wpAny (model prog w) A (pyIter (.ref r)) (CellAt prog w A h₀ L m env elt x scope cl Fin) E s := by
  refine wpAny_pyIter_range hr hsmall ?_
  refine ⟨s.heap.objs.size, _, n, _, _, [], news, J, rfl, LCg.range_walks (prog := prog) (w := w) (A := A) (I := s.heap.objs.size) hh a n, hsz, fun i h st => ⟨_, st⟩, fun b hb => .inl (List.mem_singleton.mp hb), ?_, (by show IsRangeIter _ _ _ _ _; rw [hn]; simpa using Heap.get?_push_size _ rfl), F.push _, (fun p hp => ⟨Heap.get?_push_of_some _ (N p hp).1, (N p hp).2⟩), Nat.ne_of_lt F.ns.lt, next_is_new F, (fun p hp => Nat.ne_of_lt (Heap.lt_size (N p hp).1)), (fun _ h => nomatch h), hj, turn _, fun ys nx _ hj' => fin _ ys nx hj'⟩
  show s.heap.objs.size < (s.heap.push _).objs.size
  rw [Heap.size_push]; exact Nat.lt_succ_self _
theorem cell_list {elt : Expr} {x : Str} {scope : Scope} {cl : List (Str × Addr)} {Fin : Shared → List Value → List (Addr × Obj) → Prop} {ax : Addr} {its : Array Value} {nn : Nat} {news : List (Addr × Obj)} (J : Nat → List Value → List (Addr × Obj) → Prop)
    (hh : A.handled = none) (hm : (ax, listOf its nn) ∈ news) (hsz : its.size ≤ sizeLine)
    (F : Fr h₀ L s.heap m) (N : News h₀ L s.heap news) (hj : J 0 [] news)
    (turn : ∀ g, CellTurn prog w A h₀ L m env elt x scope cl { s with heap := g } its.size (fun i v => its[i]? = some v) [(ax, listOf its nn)] J)
    (fin : ∀ g ys nx, (ax, listOf its nn) ∈ nx → J its.size ys nx → Fin { s with heap := g } ys nx) :
    wpAny (model prog w) A (pyIter (.ref ax)) (CellAt prog w A h₀ L m env elt x scope cl Fin) E s := by
  have hol : s.heap.get? ax = some (listOf its nn) := (N _ hm).1
  have hls : s.heap.IsList ax its := ⟨_, hol, rfl, nn, rfl⟩
  have hne : ax ≠ s.heap.objs.size := Nat.ne_of_lt (Heap.lt_size hol)
  refine wpAny_pyIter_list hls ?_
  refine ⟨s.heap.objs.size, _, its.size, _, _, [(ax, listOf its nn)], news, J, rfl, Walks.list (prog := prog) (w := w) (A := A) hh s.heap.objs.size ax hne its, hsz, (fun i h st => by obtain ⟨o, e, _⟩ := st.1; exact ⟨o, e⟩), (fun b hb => ?_), ?_, ⟨⟨_, Heap.get?_push_size _ rfl, rfl, rfl⟩, hls.at fun o e => Heap.get?_push_of_some _ e⟩, F.push _, (fun p hp => ⟨Heap.get?_push_of_some _ (N p hp).1, (N p hp).2⟩), Nat.ne_of_lt F.ns.lt, next_is_new F, (fun p hp => Nat.ne_of_lt (Heap.lt_size (N p hp).1)), (fun p hp => List.mem_singleton.mp hp ▸ hm), hj, turn _, fun ys nx hk hj' => fin _ ys nx (hk _ (.head _)) hj'⟩
  · rcases List.mem_cons.mp hb with h | h
    · exact .inl h
    · exact .inr ⟨_, by rw [List.mem_singleton.mp h]; exact .head _⟩
  · show s.heap.objs.size < (s.heap.push _).objs.size
    rw [Heap.size_push]; exact Nat.lt_succ_self _
end
end Mine
end
/-! Top0 -/
section
open PySem PySem.W PyProof.Rows
set_option Elab.async false
set_option maxRecDepth 100000
set_option maxHeartbeats 8000000
namespace Mine
open_top hd for PySem.Challenge.rw_op0038_01
end Mine
end
section
open PySem PySem.W PyProof.Rows PySem.Calls
namespace Mine
theorem reset7 {M : Model} {A : Around} {E : Value → Shared → Prop} {s : Shared} {env : Env} {Q : Flow → Shared → Prop} (h : Q .next s) : wpAny M A (execs [] env) Q E s := by
  w_top off
  walk1
  w_top off
  exact h
end Mine
end
/-! Base1 -/
section
open PySem PySem.W PyProof.Rows PySem.Calls
set_option Elab.async false
set_option maxRecDepth 100000
set_option maxHeartbeats 8000000
set_option linter.unusedVariables false
namespace Mine
noncomputable abbrev Prg := Challenge.rw_op0038_01.row.prog
theorem fill : Challenge.rw_op0038_01 = Challenge.rw_op0038_01 ∧ hd.heap_39 = hd.heap_39 := by
  k_fill
  exact ⟨rfl, rfl⟩
/-- the names that the top's record does not speak of, in the law's own frame -/
noncomputable abbrev looseT : List Str := looseW hd.view_39 [Str.ofString "fmean"] ++ (recsOf hd.view_39).map (fun x => x.name) ++ (litsOf hd.view_39).map (fun x => x.1) ++ (clssOf hd.view_39 (looseW hd.view_39 [Str.ofString "fmean"])).map (fun x => x.name)
/-- a thing in the heap: where it lies, what it is -/
structure Item where
  a : Addr
  o : Obj
/-- x < y comes out as lt says -/
noncomputable def Cmp (w : World) (lt : Item → Item → Bool) (x y : Item) : Prop := ∀ (A : Around) (E : Value → Shared → Prop) (s : Shared) (Q : Value → Shared → Prop), A.units < cLine → s.heap.get? x.a = some x.o → s.heap.get? y.a = some y.o →
  Q (.bool (lt x y)) s → wpAny (model Prg w) A (compareOp .Lt (.ref x.a) (.ref y.a)) Q E s
theorem cmp_use {w : World} {lt : Item → Item → Bool} {x y : Item} {A : Around} {E : Value → Shared → Prop} {s : Shared} {Q : Value → Shared → Prop} {h₀ : Heap} {L : Addr} {news : List (Addr × Obj)} (c : Cmp w lt x y) (N : News h₀ L s.heap news)
   (hx : (x.a, x.o) ∈ news) (hy : (y.a, y.o) ∈ news) (hu : A.units < cLine) (h : Q (.bool (lt x y)) s) : wpAny (model Prg w) A (compareOp .Lt (.ref x.a) (.ref y.a)) Q E s := c A E s Q hu (N.get hx) (N.get hy) h
noncomputable def vals (xs : List Item) : Array Value := (xs.map fun x => Value.ref x.a).toArray
/-- a call that changes one list of the caller's, and hands back R -/
noncomputable abbrev Ctr (k : Nat) (w : World) (f : Addr) (args : List Value) (l : Addr) (pre post : Obj) (tl : List (Addr × Obj)) (R : Value) : Prop :=
  ∀ (mean : ExcName → Option Value) (mg mb : Str → Option Value) (dp un : Nat) (gd : Option (List Code)) (cn : Str) (cs : Scope) (a : Addr) (ccd : Value) (cl : List (Str × Addr)) (outer : List Env) (A₀ : Around) (base h₀ : Heap) (L : Addr) (m : Str → Option Value) (s : Shared) (Q E : Value → Shared → Prop),
    Below A₀ base outer h₀ → Fr h₀ L s.heap m → (hd.heap_39 w.params).In h₀ → News h₀ L s.heap ((l, pre) :: tl) → Top topProg looseT mean mg mb h₀ → cs.kind = .function → dp + k < recursionLimit → un + 10 * k < cLine →
    (∀ h' tk', Fr h₀ L h' m → News h₀ L h' ((l, post) :: tl) → Q R { s with heap := h', toks := tk' }) →
    wpAny (model Prg w) (ktrTop dp un gd cn cs L a ccd cl outer) (call (.ref f) args) Q E s
/-- sifting up from the top, from one to four things -/
noncomputable def suL (lt : Item → Item → Bool) : List Item → List Item
  | [a] => [a]
  | [a, b] => if lt a b then [a, b] else [b, a]
  | [a, b, c] => if lt b c then (if lt a b then [a, b, c] else [b, a, c]) else (if lt a c then [a, b, c] else [c, b, a])
  | [a, b, c, d] => if lt b c then (if lt a d then (if lt a b then [a, b, c, d] else [b, a, c, d]) else [b, d, c, a]) else (if lt a c then [a, b, c, d] else [c, b, a, d])
  | xs => xs
/-- sifting up from place 1 in four -/
noncomputable def su1L (lt : Item → Item → Bool) : List Item → List Item
  | [a, b, c, d] => if lt b d then [a, b, c, d] else [a, d, c, b]
  | xs => xs
end Mine
end
section
open PySem PySem.W PyProof.Rows PySem.Calls
set_option maxRecDepth 100000
set_option maxHeartbeats 8000000
set_option linter.unusedVariables false
namespace Mine
/-! gH -/
section
local macro_rules | `(tactic| k_all) => `(tactic| assumption)
local macro_rules | `(tactic| k_mem) => `(tactic| assumption)
theorem reset8 {M : Model} {A : Around} {E : Value → Shared → Prop} {s : Shared} {env : Env} {Q : Flow → Shared → Prop} (h : Q .next s) : wpAny M A (execs [] env) Q E s := by
  w_top off
  walk1
  w_top off
  exact h
/-! H1 -/
section
open PySem PySem.W PyProof.Rows PySem.Calls
set_option Elab.async false
set_option maxRecDepth 100000
set_option maxHeartbeats 8000000
set_option linter.unusedVariables false
theorem fill2 : Challenge.rw_op0038_01 = Challenge.rw_op0038_01 ∧ hd.heap_39 = hd.heap_39 := by
  k_fill
  exact ⟨rfl, rfl⟩
local macro_rules | `(tactic| walk_at "compareOp Lt ref") => `(tactic| (k_here; (refine' cmp_use ?c ?n ?hx ?hy ?hu ?_; (case c => assumption); (case n => k_asm); (case hx => k_mem); (case hy => k_mem); (case hu => ktr_units))))
local macro_rules | `(tactic| walk_at "call ref") => `(tactic| (k_here; (with_reducible show wpAny _ _ (call (Value.ref 70) _) _ _ _); k_dflt (refine wpAny_call ?_; (refine' code_def ?k1 ?k2 ?k3 ?k4 ?k5 ?kA ?kF ?kK ?k6 ?k7 ?k8 ?k9 ?kB ?_ ?c2 ?c3 ?c4 ?c5; (case kA => exact rfl); (case kF => exact rfl); (case kK => first | exact rfl | assumption); (case k1 => k_asm); (case k2 => k_asm); (case k3 => k_asm); (case k4 => k_asm); (case k5 => k_asm); (case k6 => k_is); (case k7 => k_is); (case k8 => ktr_room); (case k9 => exact BindsTo.of_eq rfl); (case c5 => decide); (case kB => exact locs rfl); (case c2 => exact rfl); (case c3 => exact rfl); (case c4 => exact rfl); k_whole; intro g' L' h' FG' F' N' B' X' T'; (try dsimp only); (try k_lift B'); (try k_fold)))))
noncomputable def nthV : List Value → Nat → Option Value
  | [], _ => none
  | v :: _, 0 => some v
  | _ :: vs, n + 1 => nthV vs n
theorem nthV_eq : ∀ (vs : List Value) (n : Nat), nthV vs n = vs[n]?
  | [], _ => by simp [nthV]
  | v :: vs, 0 => by simp [nthV]
  | v :: vs, n + 1 => by simp [nthV, nthV_eq vs n]
theorem sub_lit {prog : Program} {w : World} {A : Around} {E : Value → Shared → Prop} {s : Shared} {h₀ : Heap} {L : Addr} {news : List (Addr × Obj)} {value slice : Expr} {l : Addr} {its : Array Value} {n : Nat} {k : Int} {u : Tok} {v : Value} {Q : Value → Shared → Prop}
    (N : News h₀ L s.heap news) (hm : (l, listOf its n) ∈ news) (h0 : 0 ≤ k) (hhi : k < 2 ^ 63) (hx : nthV its.toList k.toNat = some v) (h : Q v s)
    (hs : subscripted slice false (.ref l) (.int k u) = operate [.ref l, .int k u] (getItem (.ref l) (.int k u))) : wpAny (model prog w) A (subscriptTail value slice (.ref l) (.int k u)) Q E s :=
  sub_list N hm h0 hhi (by rw [nthV_eq] at hx; simpa using hx) h hs
local macro_rules | `(tactic| walk_at "subscriptTail Name Name ref int") => `(tactic| (k_here; k_dflt (refine' sub_lit ?n ?m ?a ?b ?c ?_ ?hs; (case n => k_asm); (case m => first | exact .head _ | exact .tail _ (.head _)); (case a => first | omega | decide); (case b => first | omega | decide); (case c => exact rfl); (case hs => with_unfolding_all rfl))))
section
variable {w : World} {l : Addr} {a b c d : Item} {e : Nat} {t : Tok} {tl : List (Addr × Obj)} {lt : Item → Item → Bool}
theorem su1 (ma : (a.a, a.o) ∈ tl)  (hoff : ∀ q ∈ tl, q.1 ≠ l) : Ctr 4 w 77 [.ref l, .int 0 t] l (listOf #[.ref a.a] e) (listOf #[.ref a.a] e) tl .none := by
  intro mean mg mb9 dp un gd cn cs a9 ccd cl outer A₀ base h₀ L m s Q E B F X N T hk hdp hun hret
  refine wpAny_call ?_
  k_dflt (refine' code_def ?k1 ?k2 ?k3 ?k4 ?k5 ?kA ?kF ?kK ?k6 ?k7 ?k8 ?k9 ?kB ?_ ?c2 ?c3 ?c4 ?c5; (case kA => exact rfl); (case kF => exact rfl); (case kK => first | exact rfl | assumption); (case k1 => k_asm); (case k2 => k_asm); (case k3 => k_asm); (case k4 => k_asm); (case k5 => k_asm); (case k6 => k_is); (case k7 => k_is); (case k8 => ktr_room); (case k9 => exact BindsTo.of_eq rfl); (case c5 => decide); (case kB => exact locs rfl); (case c2 => exact rfl); (case c3 => exact rfl); (case c4 => exact rfl); k_whole; intro g' L' h' FG' F' N' B' X' T'; (try dsimp only); (try k_lift B'); (try k_fold))
  repeat' (first | (k_unfold; (try dsimp only)) | (k_end; kc_close) | (walk1; (try dsimp only)) | (dsimp only; walk1) | (leave1; (try dsimp only)))
  all_goals exact hret _ _ (by k_asm) (by simpa [suL, su1L, *] using (by k_asm))
theorem su2 (ma : (a.a, a.o) ∈ tl) (mb : (b.a, b.o) ∈ tl) (cab : Cmp w lt a b) (hoff : ∀ q ∈ tl, q.1 ≠ l) : Ctr 4 w 77 [.ref l, .int 0 t] l (listOf #[.ref a.a, .ref b.a] e) (listOf (vals (suL lt [a, b])) e) tl .none := by
  intro mean mg mb9 dp un gd cn cs a9 ccd cl outer A₀ base h₀ L m s Q E B F X N T hk hdp hun hret
  refine wpAny_call ?_
  k_dflt (refine' code_def ?k1 ?k2 ?k3 ?k4 ?k5 ?kA ?kF ?kK ?k6 ?k7 ?k8 ?k9 ?kB ?_ ?c2 ?c3 ?c4 ?c5; (case kA => exact rfl); (case kF => exact rfl); (case kK => first | exact rfl | assumption); (case k1 => k_asm); (case k2 => k_asm); (case k3 => k_asm); (case k4 => k_asm); (case k5 => k_asm); (case k6 => k_is); (case k7 => k_is); (case k8 => ktr_room); (case k9 => exact BindsTo.of_eq rfl); (case c5 => decide); (case kB => exact locs rfl); (case c2 => exact rfl); (case c3 => exact rfl); (case c4 => exact rfl); k_whole; intro g' L' h' FG' F' N' B' X' T'; (try dsimp only); (try k_lift B'); (try k_fold))
  repeat' (first | (k_unfold; (try dsimp only)) | (k_end; kc_close) | (walk1; (try dsimp only)) | (dsimp only; walk1) | (leave1; (try dsimp only)))
  all_goals exact hret _ _ (by k_asm) (by simpa [suL, su1L, *] using (by k_asm))
theorem su3 (ma : (a.a, a.o) ∈ tl) (mb : (b.a, b.o) ∈ tl) (mc : (c.a, c.o) ∈ tl) (cbc : Cmp w lt b c) (cab : Cmp w lt a b) (cac : Cmp w lt a c) (hoff : ∀ q ∈ tl, q.1 ≠ l) : Ctr 4 w 77 [.ref l, .int 0 t] l (listOf #[.ref a.a, .ref b.a, .ref c.a] e) (listOf (vals (suL lt [a, b, c])) e) tl .none := by
  intro mean mg mb9 dp un gd cn cs a9 ccd cl outer A₀ base h₀ L m s Q E B F X N T hk hdp hun hret
  refine wpAny_call ?_
  k_dflt (refine' code_def ?k1 ?k2 ?k3 ?k4 ?k5 ?kA ?kF ?kK ?k6 ?k7 ?k8 ?k9 ?kB ?_ ?c2 ?c3 ?c4 ?c5; (case kA => exact rfl); (case kF => exact rfl); (case kK => first | exact rfl | assumption); (case k1 => k_asm); (case k2 => k_asm); (case k3 => k_asm); (case k4 => k_asm); (case k5 => k_asm); (case k6 => k_is); (case k7 => k_is); (case k8 => ktr_room); (case k9 => exact BindsTo.of_eq rfl); (case c5 => decide); (case kB => exact locs rfl); (case c2 => exact rfl); (case c3 => exact rfl); (case c4 => exact rfl); k_whole; intro g' L' h' FG' F' N' B' X' T'; (try dsimp only); (try k_lift B'); (try k_fold))
  repeat' (first | (k_unfold; (try dsimp only)) | (k_end; kc_close) | (walk1; (try dsimp only)) | (dsimp only; walk1) | (leave1; (try dsimp only)))
  all_goals exact hret _ _ (by k_asm) (by simpa [suL, su1L, *] using (by k_asm))
theorem su4 (ma : (a.a, a.o) ∈ tl) (mb : (b.a, b.o) ∈ tl) (mc : (c.a, c.o) ∈ tl) (md : (d.a, d.o) ∈ tl) (cbc : Cmp w lt b c) (cad : Cmp w lt a d) (cab : Cmp w lt a b) (cac : Cmp w lt a c) (hoff : ∀ q ∈ tl, q.1 ≠ l) : Ctr 4 w 77 [.ref l, .int 0 t] l (listOf #[.ref a.a, .ref b.a, .ref c.a, .ref d.a] e) (listOf (vals (suL lt [a, b, c, d])) e) tl .none := by
  intro mean mg mb9 dp un gd cn cs a9 ccd cl outer A₀ base h₀ L m s Q E B F X N T hk hdp hun hret
  refine wpAny_call ?_
  k_dflt (refine' code_def ?k1 ?k2 ?k3 ?k4 ?k5 ?kA ?kF ?kK ?k6 ?k7 ?k8 ?k9 ?kB ?_ ?c2 ?c3 ?c4 ?c5; (case kA => exact rfl); (case kF => exact rfl); (case kK => first | exact rfl | assumption); (case k1 => k_asm); (case k2 => k_asm); (case k3 => k_asm); (case k4 => k_asm); (case k5 => k_asm); (case k6 => k_is); (case k7 => k_is); (case k8 => ktr_room); (case k9 => exact BindsTo.of_eq rfl); (case c5 => decide); (case kB => exact locs rfl); (case c2 => exact rfl); (case c3 => exact rfl); (case c4 => exact rfl); k_whole; intro g' L' h' FG' F' N' B' X' T'; (try dsimp only); (try k_lift B'); (try k_fold))
  repeat' (first | (k_unfold; (try dsimp only)) | (k_end; kc_close) | (walk1; (try dsimp only)) | (dsimp only; walk1) | (leave1; (try dsimp only)))
  all_goals exact hret _ _ (by k_asm) (by simpa [suL, su1L, *] using (by k_asm))
theorem su41 (ma : (a.a, a.o) ∈ tl) (mb : (b.a, b.o) ∈ tl) (mc : (c.a, c.o) ∈ tl) (md : (d.a, d.o) ∈ tl) (cbd : Cmp w lt b d) (hoff : ∀ q ∈ tl, q.1 ≠ l) : Ctr 4 w 77 [.ref l, .int 1 t] l (listOf #[.ref a.a, .ref b.a, .ref c.a, .ref d.a] e) (listOf (vals (su1L lt [a, b, c, d])) e) tl .none := by
  intro mean mg mb9 dp un gd cn cs a9 ccd cl outer A₀ base h₀ L m s Q E B F X N T hk hdp hun hret
  refine wpAny_call ?_
  k_dflt (refine' code_def ?k1 ?k2 ?k3 ?k4 ?k5 ?kA ?kF ?kK ?k6 ?k7 ?k8 ?k9 ?kB ?_ ?c2 ?c3 ?c4 ?c5; (case kA => exact rfl); (case kF => exact rfl); (case kK => first | exact rfl | assumption); (case k1 => k_asm); (case k2 => k_asm); (case k3 => k_asm); (case k4 => k_asm); (case k5 => k_asm); (case k6 => k_is); (case k7 => k_is); (case k8 => ktr_room); (case k9 => exact BindsTo.of_eq rfl); (case c5 => decide); (case kB => exact locs rfl); (case c2 => exact rfl); (case c3 => exact rfl); (case c4 => exact rfl); k_whole; intro g' L' h' FG' F' N' B' X' T'; (try dsimp only); (try k_lift B'); (try k_fold))
  repeat' (first | (k_unfold; (try dsimp only)) | (k_end; kc_close) | (walk1; (try dsimp only)) | (dsimp only; walk1) | (leave1; (try dsimp only)))
  all_goals exact hret _ _ (by k_asm) (by simpa [suL, su1L, *] using (by k_asm))
end
end
theorem reset9 {M : Model} {A : Around} {E : Value → Shared → Prop} {s : Shared} {env : Env} {Q : Flow → Shared → Prop} (h : Q .next s) : wpAny M A (execs [] env) Q E s := by
  w_top off
  walk1
  w_top off
  exact h
/-! H2 -/
section
open PySem PySem.W PyProof.Rows PySem.Calls
set_option Elab.async false
set_option maxRecDepth 100000
set_option maxHeartbeats 8000000
set_option linter.unusedVariables false
theorem fill3 : Challenge.rw_op0038_01 = Challenge.rw_op0038_01 ∧ hd.heap_39 = hd.heap_39 := by
  k_fill
  exact ⟨rfl, rfl⟩
local macro_rules | `(tactic| walk_at "compareOp Lt ref") => `(tactic| (k_here; (refine' cmp_use ?c ?n ?hx ?hy ?hu ?_; (case c => assumption); (case n => k_asm); (case hx => k_mem); (case hy => k_mem); (case hu => ktr_units))))
local macro_rules | `(tactic| walk_at "call ref") => `(tactic| (k_here; (with_reducible show wpAny _ _ (call (Value.ref 77) _) _ _ _); k_dflt (first | (refine' su4 ?um0 ?um1 ?um2 ?um3 ?uc0 ?uc1 ?uc2 ?uc3 ?ho _ _ _ _ _ _ _ _ _ _ _ _ _ _ _ _ _ _ _ _ ?xB ?xF ?xX ?xN ?xT ?xk ?xd ?xu ?_; (case xN => k_asm); (case xF => k_asm); (case xB => k_asm); (case xX => k_asm); (case xT => k_asm); (case xk => exact rfl); (case xd => ktr_room); (case xu => ktr_units); (case ho => assumption); (case um0 => assumption); (case um1 => assumption); (case um2 => assumption); (case um3 => assumption); (case uc0 => assumption); (case uc1 => assumption); (case uc2 => assumption); (case uc3 => assumption); intro h9 tk9 F9 N9; (try dsimp only); (try k_fold)) | (refine' su3 ?um0 ?um1 ?um2 ?uc0 ?uc1 ?uc2 ?ho _ _ _ _ _ _ _ _ _ _ _ _ _ _ _ _ _ _ _ _ ?xB ?xF ?xX ?xN ?xT ?xk ?xd ?xu ?_; (case xN => k_asm); (case xF => k_asm); (case xB => k_asm); (case xX => k_asm); (case xT => k_asm); (case xk => exact rfl); (case xd => ktr_room); (case xu => ktr_units); (case ho => assumption); (case um0 => assumption); (case um1 => assumption); (case um2 => assumption); (case uc0 => assumption); (case uc1 => assumption); (case uc2 => assumption); intro h9 tk9 F9 N9; (try dsimp only); (try k_fold)) | (refine' su2 ?um0 ?um1 ?uc0 ?ho _ _ _ _ _ _ _ _ _ _ _ _ _ _ _ _ _ _ _ _ ?xB ?xF ?xX ?xN ?xT ?xk ?xd ?xu ?_; (case xN => k_asm); (case xF => k_asm); (case xB => k_asm); (case xX => k_asm); (case xT => k_asm); (case xk => exact rfl); (case xd => ktr_room); (case xu => ktr_units); (case ho => assumption); (case um0 => assumption); (case um1 => assumption); (case uc0 => assumption); intro h9 tk9 F9 N9; (try dsimp only); (try k_fold)) | (refine' su1 ?um0 ?ho _ _ _ _ _ _ _ _ _ _ _ _ _ _ _ _ _ _ _ _ ?xB ?xF ?xX ?xN ?xT ?xk ?xd ?xu ?_; (case xN => k_asm); (case xF => k_asm); (case xB => k_asm); (case xX => k_asm); (case xT => k_asm); (case xk => exact rfl); (case xd => ktr_room); (case xu => ktr_units); (case ho => assumption); (case um0 => assumption); intro h9 tk9 F9 N9; (try dsimp only); (try k_fold)) | (refine' su41 ?um0 ?um1 ?um2 ?um3 ?uc0 ?ho _ _ _ _ _ _ _ _ _ _ _ _ _ _ _ _ _ _ _ _ ?xB ?xF ?xX ?xN ?xT ?xk ?xd ?xu ?_; (case xN => k_asm); (case xF => k_asm); (case xB => k_asm); (case xX => k_asm); (case xT => k_asm); (case xk => exact rfl); (case xd => ktr_room); (case xu => ktr_units); (case ho => assumption); (case um0 => assumption); (case um1 => assumption); (case um2 => assumption); (case um3 => assumption); (case uc0 => assumption); intro h9 tk9 F9 N9; (try dsimp only); (try k_fold)))))
section
variable {w : World} {l : Addr} {a b c d x : Item} {e : Nat} {t : Tok} {tl : List (Addr × Obj)} {lt : Item → Item → Bool}
theorem hr1 (ma : (a.a, a.o) ∈ tl) (mx : (x.a, x.o) ∈ tl)  (hoff : ∀ q ∈ tl, q.1 ≠ l) : Ctr 8 w 56 [.ref l, .ref x.a] l (listOf #[.ref a.a] e) (listOf (vals (suL lt [x])) e) tl (.ref a.a) := by
  intro mean mg mb9 dp un gd cn cs a9 ccd cl outer A₀ base h₀ L m s Q E B F X N T hk hdp hun hret
  refine wpAny_call ?_
  k_dflt (refine' code_def ?k1 ?k2 ?k3 ?k4 ?k5 ?kA ?kF ?kK ?k6 ?k7 ?k8 ?k9 ?kB ?_ ?c2 ?c3 ?c4 ?c5; (case kA => exact rfl); (case kF => exact rfl); (case kK => first | exact rfl | assumption); (case k1 => k_asm); (case k2 => k_asm); (case k3 => k_asm); (case k4 => k_asm); (case k5 => k_asm); (case k6 => k_is); (case k7 => k_is); (case k8 => ktr_room); (case k9 => exact BindsTo.of_eq rfl); (case c5 => decide); (case kB => exact locs rfl); (case c2 => exact rfl); (case c3 => exact rfl); (case c4 => exact rfl); k_whole; intro g' L' h' FG' F' N' B' X' T'; (try dsimp only); (try k_lift B'); (try k_fold))
  k_steps
  all_goals exact hret _ _ (by k_asm) (by k_asm)
theorem hr2 (ma : (a.a, a.o) ∈ tl) (mb : (b.a, b.o) ∈ tl) (mx : (x.a, x.o) ∈ tl) (cxb : Cmp w lt x b) (hoff : ∀ q ∈ tl, q.1 ≠ l) : Ctr 8 w 56 [.ref l, .ref x.a] l (listOf #[.ref a.a, .ref b.a] e) (listOf (vals (suL lt [x, b])) e) tl (.ref a.a) := by
  intro mean mg mb9 dp un gd cn cs a9 ccd cl outer A₀ base h₀ L m s Q E B F X N T hk hdp hun hret
  refine wpAny_call ?_
  k_dflt (refine' code_def ?k1 ?k2 ?k3 ?k4 ?k5 ?kA ?kF ?kK ?k6 ?k7 ?k8 ?k9 ?kB ?_ ?c2 ?c3 ?c4 ?c5; (case kA => exact rfl); (case kF => exact rfl); (case kK => first | exact rfl | assumption); (case k1 => k_asm); (case k2 => k_asm); (case k3 => k_asm); (case k4 => k_asm); (case k5 => k_asm); (case k6 => k_is); (case k7 => k_is); (case k8 => ktr_room); (case k9 => exact BindsTo.of_eq rfl); (case c5 => decide); (case kB => exact locs rfl); (case c2 => exact rfl); (case c3 => exact rfl); (case c4 => exact rfl); k_whole; intro g' L' h' FG' F' N' B' X' T'; (try dsimp only); (try k_lift B'); (try k_fold))
  k_steps
  all_goals exact hret _ _ (by k_asm) (by k_asm)
theorem hr3 (ma : (a.a, a.o) ∈ tl) (mb : (b.a, b.o) ∈ tl) (mc : (c.a, c.o) ∈ tl) (mx : (x.a, x.o) ∈ tl) (cbc : Cmp w lt b c) (cxb : Cmp w lt x b) (cxc : Cmp w lt x c) (hoff : ∀ q ∈ tl, q.1 ≠ l) : Ctr 8 w 56 [.ref l, .ref x.a] l (listOf #[.ref a.a, .ref b.a, .ref c.a] e) (listOf (vals (suL lt [x, b, c])) e) tl (.ref a.a) := by
  intro mean mg mb9 dp un gd cn cs a9 ccd cl outer A₀ base h₀ L m s Q E B F X N T hk hdp hun hret
  refine wpAny_call ?_
  k_dflt (refine' code_def ?k1 ?k2 ?k3 ?k4 ?k5 ?kA ?kF ?kK ?k6 ?k7 ?k8 ?k9 ?kB ?_ ?c2 ?c3 ?c4 ?c5; (case kA => exact rfl); (case kF => exact rfl); (case kK => first | exact rfl | assumption); (case k1 => k_asm); (case k2 => k_asm); (case k3 => k_asm); (case k4 => k_asm); (case k5 => k_asm); (case k6 => k_is); (case k7 => k_is); (case k8 => ktr_room); (case k9 => exact BindsTo.of_eq rfl); (case c5 => decide); (case kB => exact locs rfl); (case c2 => exact rfl); (case c3 => exact rfl); (case c4 => exact rfl); k_whole; intro g' L' h' FG' F' N' B' X' T'; (try dsimp only); (try k_lift B'); (try k_fold))
  k_steps
  all_goals exact hret _ _ (by k_asm) (by k_asm)
theorem hr4 (ma : (a.a, a.o) ∈ tl) (mb : (b.a, b.o) ∈ tl) (mc : (c.a, c.o) ∈ tl) (md : (d.a, d.o) ∈ tl) (mx : (x.a, x.o) ∈ tl) (cbc : Cmp w lt b c) (cxd : Cmp w lt x d) (cxb : Cmp w lt x b) (cxc : Cmp w lt x c) (hoff : ∀ q ∈ tl, q.1 ≠ l) : Ctr 8 w 56 [.ref l, .ref x.a] l (listOf #[.ref a.a, .ref b.a, .ref c.a, .ref d.a] e) (listOf (vals (suL lt [x, b, c, d])) e) tl (.ref a.a) := by
  intro mean mg mb9 dp un gd cn cs a9 ccd cl outer A₀ base h₀ L m s Q E B F X N T hk hdp hun hret
  refine wpAny_call ?_
  k_dflt (refine' code_def ?k1 ?k2 ?k3 ?k4 ?k5 ?kA ?kF ?kK ?k6 ?k7 ?k8 ?k9 ?kB ?_ ?c2 ?c3 ?c4 ?c5; (case kA => exact rfl); (case kF => exact rfl); (case kK => first | exact rfl | assumption); (case k1 => k_asm); (case k2 => k_asm); (case k3 => k_asm); (case k4 => k_asm); (case k5 => k_asm); (case k6 => k_is); (case k7 => k_is); (case k8 => ktr_room); (case k9 => exact BindsTo.of_eq rfl); (case c5 => decide); (case kB => exact locs rfl); (case c2 => exact rfl); (case c3 => exact rfl); (case c4 => exact rfl); k_whole; intro g' L' h' FG' F' N' B' X' T'; (try dsimp only); (try k_lift B'); (try k_fold))
  k_steps
  all_goals exact hret _ _ (by k_asm) (by k_asm)
theorem hp1 (ma : (a.a, a.o) ∈ tl)  (hoff : ∀ q ∈ tl, q.1 ≠ l) : Ctr 8 w 49 [.ref l] l (listOf #[.ref a.a] e) (listOf #[] (e + 1)) tl (.ref a.a) := by
  intro mean mg mb9 dp un gd cn cs a9 ccd cl outer A₀ base h₀ L m s Q E B F X N T hk hdp hun hret
  refine wpAny_call ?_
  k_dflt (refine' code_def ?k1 ?k2 ?k3 ?k4 ?k5 ?kA ?kF ?kK ?k6 ?k7 ?k8 ?k9 ?kB ?_ ?c2 ?c3 ?c4 ?c5; (case kA => exact rfl); (case kF => exact rfl); (case kK => first | exact rfl | assumption); (case k1 => k_asm); (case k2 => k_asm); (case k3 => k_asm); (case k4 => k_asm); (case k5 => k_asm); (case k6 => k_is); (case k7 => k_is); (case k8 => ktr_room); (case k9 => exact BindsTo.of_eq rfl); (case c5 => decide); (case kB => exact locs rfl); (case c2 => exact rfl); (case c3 => exact rfl); (case c4 => exact rfl); k_whole; intro g' L' h' FG' F' N' B' X' T'; (try dsimp only); (try k_lift B'); (try k_fold))
  k_steps
  all_goals exact hret _ _ (by k_asm) (by k_asm)
theorem hp2 (ma : (a.a, a.o) ∈ tl) (mb : (b.a, b.o) ∈ tl)  (hoff : ∀ q ∈ tl, q.1 ≠ l) : Ctr 8 w 49 [.ref l] l (listOf #[.ref a.a, .ref b.a] e) (listOf (vals (suL lt [b])) (e + 1)) tl (.ref a.a) := by
  intro mean mg mb9 dp un gd cn cs a9 ccd cl outer A₀ base h₀ L m s Q E B F X N T hk hdp hun hret
  refine wpAny_call ?_
  k_dflt (refine' code_def ?k1 ?k2 ?k3 ?k4 ?k5 ?kA ?kF ?kK ?k6 ?k7 ?k8 ?k9 ?kB ?_ ?c2 ?c3 ?c4 ?c5; (case kA => exact rfl); (case kF => exact rfl); (case kK => first | exact rfl | assumption); (case k1 => k_asm); (case k2 => k_asm); (case k3 => k_asm); (case k4 => k_asm); (case k5 => k_asm); (case k6 => k_is); (case k7 => k_is); (case k8 => ktr_room); (case k9 => exact BindsTo.of_eq rfl); (case c5 => decide); (case kB => exact locs rfl); (case c2 => exact rfl); (case c3 => exact rfl); (case c4 => exact rfl); k_whole; intro g' L' h' FG' F' N' B' X' T'; (try dsimp only); (try k_lift B'); (try k_fold))
  k_steps
  all_goals exact hret _ _ (by k_asm) (by k_asm)
theorem hp3 (ma : (a.a, a.o) ∈ tl) (mb : (b.a, b.o) ∈ tl) (mc : (c.a, c.o) ∈ tl) (ccb : Cmp w lt c b) (hoff : ∀ q ∈ tl, q.1 ≠ l) : Ctr 8 w 49 [.ref l] l (listOf #[.ref a.a, .ref b.a, .ref c.a] e) (listOf (vals (suL lt [c, b])) (e + 1)) tl (.ref a.a) := by
  intro mean mg mb9 dp un gd cn cs a9 ccd cl outer A₀ base h₀ L m s Q E B F X N T hk hdp hun hret
  refine wpAny_call ?_
  k_dflt (refine' code_def ?k1 ?k2 ?k3 ?k4 ?k5 ?kA ?kF ?kK ?k6 ?k7 ?k8 ?k9 ?kB ?_ ?c2 ?c3 ?c4 ?c5; (case kA => exact rfl); (case kF => exact rfl); (case kK => first | exact rfl | assumption); (case k1 => k_asm); (case k2 => k_asm); (case k3 => k_asm); (case k4 => k_asm); (case k5 => k_asm); (case k6 => k_is); (case k7 => k_is); (case k8 => ktr_room); (case k9 => exact BindsTo.of_eq rfl); (case c5 => decide); (case kB => exact locs rfl); (case c2 => exact rfl); (case c3 => exact rfl); (case c4 => exact rfl); k_whole; intro g' L' h' FG' F' N' B' X' T'; (try dsimp only); (try k_lift B'); (try k_fold))
  k_steps
  all_goals exact hret _ _ (by k_asm) (by k_asm)
theorem hp4 (ma : (a.a, a.o) ∈ tl) (mb : (b.a, b.o) ∈ tl) (mc : (c.a, c.o) ∈ tl) (md : (d.a, d.o) ∈ tl) (cbc : Cmp w lt b c) (cdb : Cmp w lt d b) (cdc : Cmp w lt d c) (hoff : ∀ q ∈ tl, q.1 ≠ l) : Ctr 8 w 49 [.ref l] l (listOf #[.ref a.a, .ref b.a, .ref c.a, .ref d.a] e) (listOf (vals (suL lt [d, b, c])) (e + 1)) tl (.ref a.a) := by
  intro mean mg mb9 dp un gd cn cs a9 ccd cl outer A₀ base h₀ L m s Q E B F X N T hk hdp hun hret
  refine wpAny_call ?_
  k_dflt (refine' code_def ?k1 ?k2 ?k3 ?k4 ?k5 ?kA ?kF ?kK ?k6 ?k7 ?k8 ?k9 ?kB ?_ ?c2 ?c3 ?c4 ?c5; (case kA => exact rfl); (case kF => exact rfl); (case kK => first | exact rfl | assumption); (case k1 => k_asm); (case k2 => k_asm); (case k3 => k_asm); (case k4 => k_asm); (case k5 => k_asm); (case k6 => k_is); (case k7 => k_is); (case k8 => ktr_room); (case k9 => exact BindsTo.of_eq rfl); (case c5 => decide); (case kB => exact locs rfl); (case c2 => exact rfl); (case c3 => exact rfl); (case c4 => exact rfl); k_whole; intro g' L' h' FG' F' N' B' X' T'; (try dsimp only); (try k_lift B'); (try k_fold))
  k_steps
  all_goals exact hret _ _ (by k_asm) (by k_asm)
end
end
theorem reset10 {M : Model} {A : Around} {E : Value → Shared → Prop} {s : Shared} {env : Env} {Q : Flow → Shared → Prop} (h : Q .next s) : wpAny M A (execs [] env) Q E s := by
  w_top off
  walk1
  w_top off
  exact h
/-! H3 -/
section
open PySem PySem.W PyProof.Rows PySem.Calls
set_option Elab.async false
set_option maxRecDepth 100000
set_option maxHeartbeats 8000000
set_option linter.unusedVariables false
theorem fill4 : Challenge.rw_op0038_01 = Challenge.rw_op0038_01 ∧ hd.heap_39 = hd.heap_39 := by
  k_fill
  exact ⟨rfl, rfl⟩
/-- taking the top away -/
noncomputable def popL (lt : Item → Item → Bool) : List Item → List Item
  | [a, b] => [b]
  | [a, b, c] => suL lt [c, b]
  | [a, b, c, d] => suL lt [d, b, c]
  | _ => []
section
variable {w : World} {l : Addr} {e : Nat} {t : Tok} {tl : List (Addr × Obj)} {lt : Item → Item → Bool}
theorem su_ok {xs : List Item} (h1 : 1 ≤ xs.length) (h4 : xs.length ≤ 4) (hm : ∀ x ∈ xs, (x.a, x.o) ∈ tl) (hc : ∀ x ∈ xs, ∀ y ∈ xs, Cmp w lt x y) (hoff : ∀ q ∈ tl, q.1 ≠ l) :
    Ctr 4 w 77 [.ref l, .int 0 t] l (listOf (vals xs) e) (listOf (vals (suL lt xs)) e) tl .none := by
  match xs, h1, h4, hm, hc with
  | [a], _, _, hm, hc => exact su1 (hm a (by simp)) hoff
  | [a, b], _, _, hm, hc => exact su2 (hm a (by simp)) (hm b (by simp)) (hc _ (by simp) _ (by simp)) hoff
  | [a, b, c], _, _, hm, hc => exact su3 (hm a (by simp)) (hm b (by simp)) (hm c (by simp)) (hc _ (by simp) _ (by simp)) (hc _ (by simp) _ (by simp)) (hc _ (by simp) _ (by simp)) hoff
  | [a, b, c, d], _, _, hm, hc => exact su4 (hm a (by simp)) (hm b (by simp)) (hm c (by simp)) (hm d (by simp)) (hc _ (by simp) _ (by simp)) (hc _ (by simp) _ (by simp)) (hc _ (by simp) _ (by simp)) (hc _ (by simp) _ (by simp)) hoff
  | [], h1, _, _, _ => simp at h1
  | _ :: _ :: _ :: _ :: _ :: _, _, h4, _, _ => simp at h4
theorem hr_ok {x : Item} {r : List Item} {it : Item} (h4 : r.length ≤ 3) (hm : ∀ y ∈ it :: x :: r, (y.a, y.o) ∈ tl) (hc : ∀ y ∈ it :: r, ∀ z ∈ it :: r, Cmp w lt y z) (hoff : ∀ q ∈ tl, q.1 ≠ l) :
    Ctr 8 w 56 [.ref l, .ref it.a] l (listOf (vals (x :: r)) e) (listOf (vals (suL lt (it :: r))) e) tl (.ref x.a) := by
  match r, h4, hm, hc with
  | [], _, hm, hc => exact hr1 (lt := lt) (hm x (by simp)) (hm it (by simp)) hoff
  | [b], _, hm, hc => exact hr2 (hm x (by simp)) (hm b (by simp)) (hm it (by simp)) (hc _ (by simp) _ (by simp)) hoff
  | [b, c], _, hm, hc => exact hr3 (hm x (by simp)) (hm b (by simp)) (hm c (by simp)) (hm it (by simp)) (hc _ (by simp) _ (by simp)) (hc _ (by simp) _ (by simp)) (hc _ (by simp) _ (by simp)) hoff
  | [b, c, d], _, hm, hc => exact hr4 (hm x (by simp)) (hm b (by simp)) (hm c (by simp)) (hm d (by simp)) (hm it (by simp)) (hc _ (by simp) _ (by simp)) (hc _ (by simp) _ (by simp)) (hc _ (by simp) _ (by simp)) (hc _ (by simp) _ (by simp)) hoff
  | _ :: _ :: _ :: _ :: _, h4, _, _ => simp at h4
theorem hp_ok {x : Item} {r : List Item} (h4 : r.length ≤ 3) (hm : ∀ y ∈ x :: r, (y.a, y.o) ∈ tl) (hc : ∀ y ∈ r, ∀ z ∈ r, Cmp w lt y z) (hoff : ∀ q ∈ tl, q.1 ≠ l) :
    Ctr 8 w 49 [.ref l] l (listOf (vals (x :: r)) e) (listOf (vals (popL lt (x :: r))) (e + 1)) tl (.ref x.a) := by
  match r, h4, hm, hc with
  | [], _, hm, hc => exact hp1 (hm x (by simp)) hoff
  | [b], _, hm, hc => exact hp2 (lt := lt) (hm x (by simp)) (hm b (by simp)) hoff
  | [b, c], _, hm, hc => exact hp3 (hm x (by simp)) (hm b (by simp)) (hm c (by simp)) (hc _ (by simp) _ (by simp)) hoff
  | [b, c, d], _, hm, hc => exact hp4 (hm x (by simp)) (hm b (by simp)) (hm c (by simp)) (hm d (by simp)) (hc _ (by simp) _ (by simp)) (hc _ (by simp) _ (by simp)) (hc _ (by simp) _ (by simp)) hoff
  | _ :: _ :: _ :: _ :: _, h4, _, _ => simp at h4
theorem su1L_mem {lt : Item → Item → Bool} {a b c d x : Item} (h : x ∈ su1L lt [a, b, c, d]) : x ∈ [a, b, c, d] := by
  simp only [su1L] at h
  split at h <;> simp at h ⊢ <;> grind
end
local macro_rules | `(tactic| walk_at "call ref") => `(tactic| (k_here; (with_reducible show wpAny _ _ (call (Value.ref 77) _) _ _ _); k_dflt (first
  | (refine' su41 ?um0 ?um1 ?um2 ?um3 ?uc0 ?ho _ _ _ _ _ _ _ _ _ _ _ _ _ _ _ _ _ _ _ _ ?xB ?xF ?xX ?xN ?xT ?xk ?xd ?xu ?_; (case xN => k_asm); (case xF => k_asm); (case xB => k_asm); (case xX => k_asm); (case xT => k_asm); (case xk => exact rfl); (case xd => ktr_room); (case xu => ktr_units); (case ho => assumption); (case um0 => assumption); (case um1 => assumption); (case um2 => assumption); (case um3 => assumption); (case uc0 => assumption); intro h9 tk9 F9 N9; (try dsimp only); (try k_fold))
  | (refine' su_ok ?q1 ?q2 ?q3 ?q4 ?ho _ _ _ _ _ _ _ _ _ _ _ _ _ _ _ _ _ _ _ _ ?xB ?xF ?xX ?xN ?xT ?xk ?xd ?xu ?_; (case xN => k_asm); (case xF => k_asm); (case xB => k_asm); (case xX => k_asm); (case xT => k_asm); (case xk => exact rfl); (case xd => ktr_room); (case xu => ktr_units); (case ho => assumption); (case q1 => assumption); (case q2 => assumption); (case q3 => assumption); (case q4 => assumption); intro h9 tk9 F9 N9; (try dsimp only); (try k_fold)))))
theorem hfy {w : World} {l : Addr} {e : Nat} {tl : List (Addr × Obj)} {lt : Item → Item → Bool} {a b c d : Item} (ma : (a.a, a.o) ∈ tl) (mb : (b.a, b.o) ∈ tl) (mc : (c.a, c.o) ∈ tl) (md : (d.a, d.o) ∈ tl) (cbd : Cmp w lt b d) (hoff : ∀ q ∈ tl, q.1 ≠ l)
    (q1 : 1 ≤ (su1L lt [a, b, c, d]).length) (q2 : (su1L lt [a, b, c, d]).length ≤ 4) (q3 : ∀ x ∈ su1L lt [a, b, c, d], (x.a, x.o) ∈ tl) (q4 : ∀ x ∈ su1L lt [a, b, c, d], ∀ y ∈ su1L lt [a, b, c, d], Cmp w lt x y) :
    Ctr 8 w 63 [.ref l] l (listOf #[.ref a.a, .ref b.a, .ref c.a, .ref d.a] e) (listOf (vals (suL lt (su1L lt [a, b, c, d]))) e) tl .none := by
  intro mean mg mb9 dp un gd cn cs a9 ccd cl outer A₀ base h₀ L m s Q E B F X N T hk hdp hun hret
  refine wpAny_call ?_
  k_dflt (refine' code_def ?k1 ?k2 ?k3 ?k4 ?k5 ?kA ?kF ?kK ?k6 ?k7 ?k8 ?k9 ?kB ?_ ?c2 ?c3 ?c4 ?c5; (case kA => exact rfl); (case kF => exact rfl); (case kK => first | exact rfl | assumption); (case k1 => k_asm); (case k2 => k_asm); (case k3 => k_asm); (case k4 => k_asm); (case k5 => k_asm); (case k6 => k_is); (case k7 => k_is); (case k8 => ktr_room); (case k9 => exact BindsTo.of_eq rfl); (case c5 => decide); (case kB => exact locs rfl); (case c2 => exact rfl); (case c3 => exact rfl); (case c4 => exact rfl); k_whole; intro g' L' h' FG' F' N' B' X' T'; (try dsimp only); (try k_lift B'); (try k_fold))
  k_steps
  refine loop_rev2 (fun i m₁ nx => Has m₁ [(Str.ofString "x", .ref l)] ∧ nx = (l, listOf (match i with | 0 => vals [a, b, c, d] | 1 => vals (su1L lt [a, b, c, d]) | _ => vals (suL lt (su1L lt [a, b, c, d]))) e) :: tl) rfl (by assumption) (by k_asm) (by k_asm) ⟨has_of ?_, rfl⟩ ?_ ?_
  · intro p hp
    rw [List.mem_singleton.mp hp]
    rfl
  · rintro i I o t m₁ nx h tk hi hc hof ⟨⟨u, rfl⟩, rfl⟩ F' N'
    have N1 := news_swap N'
    obtain ⟨tl', htl⟩ : ∃ tl', tl' = (I, o) :: tl := ⟨_, rfl⟩
    rw [← htl] at N1
    have hof' : ∀ p ∈ tl, p.1 ≠ I := fun p hp => hof p (List.mem_cons_of_mem _ hp)
    have hIl : l ≠ I := hof (l, _) List.mem_cons_self
    have hoff' : ∀ q ∈ tl', q.1 ≠ l := by
      intro q hq
      rw [htl] at hq
      rcases List.mem_cons.mp hq with rfl | hq
      · exact hIl.symm
      · exact hoff q hq
    have ma' : (a.a, a.o) ∈ tl' := htl ▸ List.mem_cons_of_mem (I, o) ma
    have mb' : (b.a, b.o) ∈ tl' := htl ▸ List.mem_cons_of_mem (I, o) mb
    have mc' : (c.a, c.o) ∈ tl' := htl ▸ List.mem_cons_of_mem (I, o) mc
    have md' : (d.a, d.o) ∈ tl' := htl ▸ List.mem_cons_of_mem (I, o) md
    have q3' : ∀ x ∈ su1L lt [a, b, c, d], (x.a, x.o) ∈ tl' := fun x hx => by rw [htl]; exact List.mem_cons_of_mem _ (q3 x hx)
    clear N' hof
    have hi2 : i = 0 ∨ i = 1 := by omega
    rcases hi2 with rfl | rfl
    · dsimp only [kstB] at F' N1 ⊢
      k_steps
      rename News _ _ _ _ => N9
      rw [htl] at N9
      refine turn_next _ (by k_asm) (news_swap N9) ?_ ⟨has_of ?_, rfl⟩
      · intro p hp
        rcases List.mem_cons.mp hp with rfl | hp
        · exact .inr hIl
        · exact .inr (hof' p hp)
      · intro p hp
        rw [List.mem_singleton.mp hp]
        rfl
    · dsimp only [kstB] at F' N1 ⊢
      k_steps
      rename News _ _ _ _ => N9
      rw [htl] at N9
      refine turn_next _ (by k_asm) (news_swap N9) ?_ ⟨has_of ?_, rfl⟩
      · intro p hp
        rcases List.mem_cons.mp hp with rfl | hp
        · exact .inr hIl
        · exact .inr (hof' p hp)
      · intro p hp
        rw [List.mem_singleton.mp hp]
        rfl
  · rintro m₁ nx h tk ⟨_, rfl⟩ F' N'
    k_steps
    exact hret _ _ (by k_asm) (by k_asm)
end
end
end Mine
end
section
open PySem PySem.W PyProof.Rows PySem.Calls
namespace Mine
theorem reset11 {M : Model} {A : Around} {E : Value → Shared → Prop} {s : Shared} {env : Env} {Q : Flow → Shared → Prop} (h : Q .next s) : wpAny M A (execs [] env) Q E s := by
  w_top off
  walk1
  w_top off
  exact h
end Mine
end
/-! P1 -/
section
open PySem PySem.W PyProof.Rows PySem.Calls
set_option Elab.async false
set_option maxRecDepth 100000
set_option maxHeartbeats 4000000
set_option linter.unusedVariables false
namespace Mine
noncomputable abbrev Row := List Bool
noncomputable def pathCps : Row → List Nat
  | [] => []
  | [false] => [97]
  | [true] => [97, 45]
  | false :: r => 97 :: 47 :: pathCps r
  | true :: r => 97 :: 45 :: 47 :: pathCps r
noncomputable def pathStr (p : Row) : Str := ⟨(pathCps p).toArray⟩
noncomputable def pathB (p : Row) : Array UInt8 := ((pathCps p).map UInt8.ofNat).toArray
/-- a path as a text or as octets -/
noncomputable def PV (b : Bool) (p : Row) (t : Tok) : Value := match b with
  | true => .bytes (pathB p) t
  | false => .str (pathStr p) t
noncomputable def SV (b : Bool) (t : Tok) : Value := match b with
  | true => .bytes #[47] t
  | false => .str (Str.ofString "/") t
noncomputable def allRows : List Row := [[false], [true], [false, false], [false, true], [true, false], [true, true],
  [false, false, false], [false, false, true], [false, true, false], [false, true, true], [true, false, false], [true, false, true], [true, true, false], [true, true, true]]
theorem rows_ind {P : Row → Prop} (h : ∀ a : Bool, P [a]) (h2 : ∀ a b : Bool, P [a, b]) (h3 : ∀ a b c : Bool, P [a, b, c]) : ∀ p ∈ allRows, P p := by
  intro p hp
  simp only [allRows, List.mem_cons, List.not_mem_nil, or_false] at hp
  rcases hp with h | h | h | h | h | h | h | h | h | h | h | h | h | h <;> subst h <;> first | exact h _ | exact h2 _ _ | exact h3 _ _ _
theorem slot_bytes_count : Slot "bytes" "count" "bytes.count" :=
  .of (owner := "bytes") (n := "count") (by rw [typeLookup_type, builtinLookup_eq_fast]; kernel_rfl) (by decide +kernel) (by decide +kernel) (by decide +kernel)
    (by first | exact .inl (by decide +kernel) | exact .inr (by decide +kernel)) (by rw [isSubtype_type]; kernel_rfl)
theorem type_bytes_count : typeOf (.builtin "bytes.count") = pure (.type "method_descriptor") := by show builtinType _ = _; rw [builtinType_eq_fast]; kernel_rfl
theorem entry_bytes_count : entryFor table "bytes.count" = some Builtin.«bytes.count» := entryFor_of_tree (by kernel_rfl)
theorem args_bytes_count_2 (a b : Value) : argsOk "bytes.count" ⟨[a, b], []⟩ := by
  unfold argsOk; rw [signature?_of (id := "bytes.count") (n := ['t', 'n', 'u', 'o', 'c']) (o := ['s', 'e', 't', 'y', 'b']) (by kernel_rfl) FB.owner_bytes]; kernel_rfl
theorem slot_bytes_rindex : Slot "bytes" "rindex" "bytes.rindex" :=
  .of (owner := "bytes") (n := "rindex") (by rw [typeLookup_type, builtinLookup_eq_fast]; kernel_rfl) (by decide +kernel) (by decide +kernel) (by decide +kernel)
    (by first | exact .inl (by decide +kernel) | exact .inr (by decide +kernel)) (by rw [isSubtype_type]; kernel_rfl)
theorem type_bytes_rindex : typeOf (.builtin "bytes.rindex") = pure (.type "method_descriptor") := by show builtinType _ = _; rw [builtinType_eq_fast]; kernel_rfl
theorem entry_bytes_rindex : entryFor table "bytes.rindex" = some Builtin.«bytes.rindex» := entryFor_of_tree (by kernel_rfl)
theorem args_bytes_rindex_2 (a b : Value) : argsOk "bytes.rindex" ⟨[a, b], []⟩ := by
  unfold argsOk; rw [signature?_of (id := "bytes.rindex") (n := ['x', 'e', 'd', 'n', 'i', 'r']) (o := ['s', 'e', 't', 'y', 'b']) (by kernel_rfl) FB.owner_bytes]; kernel_rfl
/-- the place of the last sign -/
noncomputable def cutAt (p : Row) : Nat := (pathCps p.dropLast).length
theorem gives_count_s (p : Row) (hp : p ∈ allRows) (t u : Tok) : Gives (Builtin.«str.count» ⟨[.str (pathStr p) t, .str (Str.ofString "/") u], []⟩) (.int (p.length - 1 : Nat)) := by
  have h : ∀ p ∈ allRows, (Builtin.Str.occurrences (pathStr p) (Str.ofString "/") 0 (pathStr p).length ((pathStr p).length + 1)).length = p.length - 1 := by decide +kernel
  rw [← h p hp]
  exact gives_str_count _ _ t u
theorem gives_count_b (p : Row) (hp : p ∈ allRows) (t u : Tok) : Gives (Builtin.«bytes.count» ⟨[.bytes (pathB p) t, .bytes #[47] u], []⟩) (.int (p.length - 1 : Nat)) := by
  revert p
  refine rows_ind ?_ ?_ ?_
  · rintro (_ | _) <;> exact .of_eq (by kernel_rfl)
  · rintro (_ | _) (_ | _) <;> exact .of_eq (by kernel_rfl)
  · rintro (_ | _) (_ | _) (_ | _) <;> exact .of_eq (by kernel_rfl)
theorem gives_rindex_s (p : Row) (hp : p ∈ allRows) (h1 : 1 < p.length) (t u : Tok) : Gives (Builtin.«str.rindex» ⟨[.str (pathStr p) t, .str (Str.ofString "/") u], []⟩) (.int (cutAt p)) := by
  have h : ∀ p ∈ allRows, 1 < p.length → Builtin.Str.lastOccurrence (pathStr p) (Str.ofString "/") 0 (pathStr p).length = some (cutAt p) := by decide +kernel
  exact gives_str_rindex _ _ t u _ (h p hp h1)
theorem gives_rindex_b (p : Row) (hp : p ∈ allRows) (h1 : 1 < p.length) (t u : Tok) : Gives (Builtin.«bytes.rindex» ⟨[.bytes (pathB p) t, .bytes #[47] u], []⟩) (.int (cutAt p)) := by
  revert p
  refine rows_ind ?_ ?_ ?_
  · intro a h; simp at h
  · rintro (_ | _) (_ | _) _ <;> exact .of_eq (by kernel_rfl)
  · rintro (_ | _) (_ | _) (_ | _) _ <;> exact .of_eq (by kernel_rfl)

noncomputable def cntId (b : Bool) : String := match b with
  | true => "bytes.count"
  | false => "str.count"
/-- the sign's own value, and what follows -/
noncomputable def SepIs (b : Bool) (P : Shared → Prop) (v : Value) (s : Shared) : Prop := ∃ u, v = SV b u ∧ P s
theorem sepIs {b : Bool} {P : Shared → Prop} {u : Tok} {s : Shared} (h : P s) : SepIs b P (SV b u) s := ⟨u, rfl, h⟩
section
variable {prog : Program} {w : World} {A : Around} {E : Value → Shared → Prop} {s : Shared} {env : Env} {b : Bool} {p : Row} {t : Tok} {pos : Pos} {e : Expr} {pl : Sem Bool} {Q : Value → Shared → Prop}
theorem pv_method {name : Str} {bs : Bool → String} {n : Int} {Bs : Bool → Builtin} (sb : Slot "bytes" name (bs true)) (ss : Slot "str" name (bs false))
    (tb : typeOf (.builtin (bs true)) = pure (.type "method_descriptor")) (ts : typeOf (.builtin (bs false)) = pure (.type "method_descriptor"))
    (eb : ∀ b, entryFor table (bs b) = some (Bs b)) (ab : ∀ b x y, argsOk (bs b) ⟨[x, y], []⟩) (g : ∀ u, Gives (Bs b ⟨[PV b p t, SV b u], []⟩) (.int n))
    (htrees : backTo pos (starEach [e] env) = [(false, eval e env)])
    (h : wpAny (model prog w) A (eval e env) (SepIs b fun s₂ => Q (.int n s₂.toks) { s₂ with toks := s₂.toks + 1 }) E s) :
    wpAny (model prog w) A (getMethod (PV b p t) name pl) (fun fx s₂ => wpAny (model prog w) A (callWith pos fx.1 fx.2 (backTo pos (starEach [e] env)) []) Q E s₂) E s := by
  rw [htrees]
  have key : wpAny (model prog w) A (callWith pos (.builtin (bs b)) [PV b p t] [(false, eval e env)] []) Q E s := by
    cases b with
    | true =>
      refine method_meets sb (eb true) rfl (evalArgs_plain (spliced_cons (wpAny_mono h (fun v s₁ h₁ => ?_) fun _ _ x => x)))
      obtain ⟨u, rfl, h₂⟩ := h₁
      exact spliced_nil ⟨rfl, typeIs_bytes _ _ _, ab true _ _, _, (g u).meets, h₂⟩
    | false =>
      refine method_meets ss (eb false) rfl (evalArgs_plain (spliced_cons (wpAny_mono h (fun v s₁ h₁ => ?_) fun _ _ x => x)))
      obtain ⟨u, rfl, h₂⟩ := h₁
      exact spliced_nil ⟨rfl, typeIs_str _ _ _, ab false _ _, _, (g u).meets, h₂⟩
  cases b with
  | true => exact getMethod_builtin (T := "bytes") (typeIs_bytes _ _ _) FB.plainAttrs_bytes sb tb (fun a h => nomatch h) key
  | false => exact getMethod_builtin (T := "str") (typeIs_str _ _ _) F.plainAttrs_str ss ts (fun a h => nomatch h) key
theorem pv_count (hp : p ∈ allRows) (htrees : backTo pos (starEach [e] env) = [(false, eval e env)])
    (h : wpAny (model prog w) A (eval e env) (SepIs b fun s₂ => Q (.int ((p.length - 1 : Nat) : Int) s₂.toks) { s₂ with toks := s₂.toks + 1 }) E s) :
    wpAny (model prog w) A (getMethod (PV b p t) (Str.ofString "count") pl) (fun fx s₂ => wpAny (model prog w) A (callWith pos fx.1 fx.2 (backTo pos (starEach [e] env)) []) Q E s₂) E s := by
  refine pv_method (bs := fun b => match b with | true => "bytes.count" | false => "str.count") (Bs := fun b => match b with | true => Builtin.«bytes.count» | false => Builtin.«str.count») slot_bytes_count F.slot_str_count type_bytes_count F.type_str_count ?_ ?_ ?_ htrees h
  · intro b; cases b; exact F.entry_str_count; exact entry_bytes_count
  · intro b x y; cases b; exact F.args_str_count_2 _ _; exact args_bytes_count_2 _ _
  · intro u; cases b; exact gives_count_s p hp _ _; exact gives_count_b p hp _ _
theorem pv_rindex (hp : p ∈ allRows) (h1 : 1 < p.length) (htrees : backTo pos (starEach [e] env) = [(false, eval e env)])
    (h : wpAny (model prog w) A (eval e env) (SepIs b fun s₂ => Q (.int (cutAt p) s₂.toks) { s₂ with toks := s₂.toks + 1 }) E s) :
    wpAny (model prog w) A (getMethod (PV b p t) (Str.ofString "rindex") pl) (fun fx s₂ => wpAny (model prog w) A (callWith pos fx.1 fx.2 (backTo pos (starEach [e] env)) []) Q E s₂) E s := by
  refine pv_method (bs := fun b => match b with | true => "bytes.rindex" | false => "str.rindex") (Bs := fun b => match b with | true => Builtin.«bytes.rindex» | false => Builtin.«str.rindex») slot_bytes_rindex F.slot_str_rindex type_bytes_rindex F.type_str_rindex ?_ ?_ ?_ htrees h
  · intro b; cases b; exact F.entry_str_rindex; exact entry_bytes_rindex
  · intro b x y; cases b; exact F.args_str_rindex_2 _ _; exact args_bytes_rindex_2 _ _
  · intro u; cases b; exact gives_rindex_s p hp h1 _ _; exact gives_rindex_b p hp h1 _ _
/-- equality of two paths -/
theorem path_inj : ∀ p ∈ allRows, ∀ q ∈ allRows, pathCps p = pathCps q → p = q := by decide +kernel
theorem pathB_inj : ∀ p ∈ allRows, ∀ q ∈ allRows, (pathB p).toList = (pathB q).toList → p = q := by decide +kernel
theorem pv_eqGives {q : Row} {t u : Tok} (hp : p ∈ allRows) (hq : q ∈ allRows) : MeetsSeq.EqGives (PV b p t) (PV b q u) (decide (p = q)) := by
  cases b with
  | true =>
    intro prog w A E s Q h
    refine eqBool_bytes ?_
    have e : decide ((pathB p).toList = (pathB q).toList) = decide (p = q) := by
      by_cases hpq : p = q
      · simp [hpq]
      · simp only [hpq, decide_false, decide_eq_false_iff_not]
        exact fun h9 => hpq (pathB_inj p hp q hq h9)
    rw [e]; exact h
  | false =>
    intro prog w A E s Q h
    refine wpAny_eqBool_str ?_
    have e : decide (pathStr p = pathStr q) = decide (p = q) := by
      by_cases hpq : p = q
      · simp [hpq]
      · simp only [hpq, decide_false, decide_eq_false_iff_not]
        intro h9
        refine hpq (path_inj p hp q hq ?_)
        have := congrArg (fun x : Str => x.cps.toList) h9
        simpa [pathStr] using this
    rw [e]; exact h
/-- the order of paths -/
noncomputable def ltP (p q : Row) : Bool := decide (pathCps p < pathCps q)
theorem ltB_eq : ∀ p ∈ allRows, ∀ q ∈ allRows, (Builtin.Bytes.order (pathB p).toList (pathB q).toList == .lt) = ltP p q := by decide +kernel
end
end Mine
end
section
open PySem PySem.W PyProof.Rows PySem.Calls
namespace Mine
theorem reset12 {M : Model} {A : Around} {E : Value → Shared → Prop} {s : Shared} {env : Env} {Q : Flow → Shared → Prop} (h : Q .next s) : wpAny M A (execs [] env) Q E s := by
  w_top off
  walk1
  w_top off
  exact h
end Mine
end
/-! P2 -/
section
open PySem PySem.W PyProof.Rows PySem.Calls
set_option Elab.async false
set_option maxRecDepth 100000
set_option maxHeartbeats 4000000
set_option linter.unusedVariables false
namespace Mine
theorem slot_bytes_lt : Slot "bytes" (cmpInfo .Lt).2.1 "bytes.__lt__" :=
  .of (owner := "bytes") (n := "__lt__") (by rw [typeLookup_type, builtinLookup_eq_fast]; kernel_rfl) (by decide +kernel) (by decide +kernel) (by decide +kernel)
    (by first | exact .inl (by decide +kernel) | exact .inr (by decide +kernel)) (by rw [isSubtype_type]; kernel_rfl)
theorem entry_bytes_lt : entryFor table "bytes.__lt__" = some Builtin.«bytes.__lt__» := entryFor_of_tree (by kernel_rfl)
theorem args_bytes_lt_2 (a b : Value) : argsOk "bytes.__lt__" ⟨[a, b], []⟩ := by
  unfold argsOk; rw [signature?_of (id := "bytes.__lt__") (n := ['_', '_', 't', 'l', '_', '_']) (o := ['s', 'e', 't', 'y', 'b']) (by kernel_rfl) FB.owner_bytes]; kernel_rfl
theorem gives_bytes_lt (b c : Array UInt8) (t u : Tok) : Gives (Builtin.«bytes.__lt__» ⟨[.bytes b t, .bytes c u], []⟩) (.val (.bool (Builtin.Bytes.order b.toList c.toList == .lt))) := by
  refine .of_wp fun M A E s Q hq => ?_
  show wpAny M A (isInstance (.bytes c u) (.type "bytes") >>= fun r => _) _ E s
  refine wpAny_bind (wpAny_isInstance (typeIs_bytes s c u) F.sub_bytes_bytes ?_)
  exact wpAny_pure ⟨_, rfl, hq⟩
theorem pv_ltGives {b : Bool} {p q : Row} {t u : Tok} (hp : p ∈ allRows) (hq : q ∈ allRows) : LtGives (PV b p t) (PV b q u) (ltP p q) := by
  cases b with
  | true =>
    intro prog w A E s Q h
    exact richCompare_gives (op := .Lt) (typeIs_bytes _ _ _) (typeIs_bytes _ _ _) slot_bytes_lt entry_bytes_lt (args_bytes_lt_2 _ _) (gives_bytes_lt _ _ _ _) (fun e => nomatch e) (by show Q (.bool _) s; rw [ltB_eq p hp q hq]; exact h)
  | false =>
    intro prog w A E s Q h
    have e : decide ((pathStr p).cps.toList < (pathStr q).cps.toList) = ltP p q := by
      unfold ltP
      by_cases h9 : pathCps p < pathCps q
      · rw [decide_eq_true h9]; exact decide_eq_true (by simpa [pathStr] using h9)
      · rw [decide_eq_false h9]; exact decide_eq_false (by simpa [pathStr] using h9)
    exact ltGives_str _ _ _ _ prog w A E s Q (by rw [e]; exact h)
section
variable {prog : Program} {w : World} {A : Around} {E : Value → Shared → Prop} {s : Shared} {b : Bool} {p q : Row} {t u : Tok} {Q : Value → Shared → Prop} {h₀ : Heap} {L : Addr} {m : Str → Option Value} {news : List (Addr × Obj)}
theorem pv_eq (hp : p ∈ allRows) (hq : q ∈ allRows) (h : Q (.bool (decide (p = q))) s) : wpAny (model prog w) A (compareOp .Eq (PV b p t) (PV b q u)) Q E s := by
  cases b with
  | true =>
    refine cmp_ofEq (richCompare_gives (op := .Eq) (typeIs_bytes _ _ _) (typeIs_bytes _ _ _) FB.slot_bytes_eq FB.entry_bytes_eq (FB.args_bytes_eq_2 _ _) (gives_bytes_eq _ _ _ _) (fun e => nomatch e) ?_)
    have e : ((pathB p).toList == (pathB q).toList) = decide (p = q) := by
      by_cases hpq : p = q
      · simp [hpq]
      · simp only [hpq, decide_false, beq_eq_false_iff_ne]
        exact fun h9 => hpq (pathB_inj p hp q hq h9)
    show Q (.bool _) s
    rw [e]; exact h
  | false =>
    refine eq_str ?_
    have e : (pathStr p == pathStr q) = decide (p = q) := by
      by_cases hpq : p = q
      · simp [hpq]
      · simp only [hpq, decide_false, beq_eq_false_iff_ne]
        intro h9
        refine hpq (path_inj p hp q hq ?_)
        have := congrArg (fun x : Str => x.cps.toList) h9
        simpa [pathStr] using this
    first | (rw [e]; exact h) | (simpa [e] using h)
theorem cut_s : ∀ p ∈ allRows, 1 < p.length → Txt.slice (pathStr p) none (some (cutAt p)) = pathStr p.dropLast := by decide +kernel
theorem cut_b : ∀ p ∈ allRows, 1 < p.length → (KBy.whole (pathB p) none (some (cutAt p)) = false ∧ KBy.picked (pathB p) none (some (cutAt p)) = pathB p.dropLast) := by decide +kernel
theorem len_path : ∀ p ∈ allRows, (pathCps p).length ≤ 8 ∧ 1 ≤ (pathCps p).length := by decide +kernel
theorem drop_rows : ∀ p ∈ allRows, 1 < p.length → p.dropLast ∈ allRows := by decide +kernel
theorem pv_cut {value slice : Expr} {i : Int} {ui : Tok} (hp : p ∈ allRows) (h1 : 1 < p.length) (hi : i = (cutAt p : Int)) (hF : Fr h₀ L s.heap m) (hN : News h₀ L s.heap news)
    (hs : ∀ v : Value, subscripted slice false v (.ref s.heap.objs.size) = operate [.ref s.heap.objs.size, v] (getItem v (.ref s.heap.objs.size))) (ht : ∀ v r, letTemporaryGo value v r = pure ())
    (h : ∀ h' t' k, Fr h₀ L h' m → News h₀ L h' news → Q (PV b p.dropLast t') { s with heap := h', toks := k }) :
    wpAny (model prog w) A (subscriptTail value slice (PV b p t) (.ref s.heap.objs.size)) Q E { s with heap := s.heap.push { cls := .type "slice", data := .fields #[.none, .int i ui, .none] } } := by
  subst hi
  cases b with
  | true =>
    have e := cut_b p hp h1
    refine KBy.slice_N (b := pathB p) hF hN .none (.int _ _) e.1 ?_ (fun h' t' k F' N' => ?_) (hs _) (ht _)
    · rw [e.2]
      have := (len_path _ (drop_rows p hp h1)).1
      simp only [pathB, List.size_toArray, List.length_map]; omega
    · rw [e.2]; exact h h' t' k F' N'
  | false =>
    have e := cut_s p hp h1
    refine slice_strN_ns (x := pathStr p) hF hN (fun h' t' k F' N' => ?_) (hs _) (ht _) ?_
    · rw [e]; exact h h' t' k F' N'
    · have := (len_path _ hp).1
      show (pathStr p).length ≤ sizeLine
      rw [sizeLine_eq]
      show (pathCps p).toArray.size ≤ _
      rw [List.size_toArray]; omega
theorem pv_len (hp : p ∈ allRows) (h : ∀ t' k, Q (.int ((pathCps p).length : Int) t') { s with toks := k }) : wpAny (model prog w) A (call (.builtin "len") [PV b p t]) Q E s := by
  have hl := (len_path _ hp).1
  cases b with
  | true =>
    refine len_bytes (by simp only [pathB, List.size_toArray, List.length_map]; omega) ?_
    have e : (((pathB p).size : Nat) : Int) = ((pathCps p).length : Int) := by simp [pathB]
    rw [e]; exact h _ _
  | false =>
    have e : (pathStr p).length = (pathCps p).length := by show (pathCps p).toArray.size = _; simp
    refine PyProof.Rows.len_str (x := pathStr p) (by rw [e]; omega) ?_
    rw [e]; exact h _ _
end
end Mine
end
section
open PySem PySem.W PyProof.Rows PySem.Calls
namespace Mine
theorem reset13 {M : Model} {A : Around} {E : Value → Shared → Prop} {s : Shared} {env : Env} {Q : Flow → Shared → Prop} (h : Q .next s) : wpAny M A (execs [] env) Q E s := by
  w_top off
  walk1
  w_top off
  exact h
end Mine
end
/-! F0 -/
section
open PySem PySem.W PyProof.Rows PySem.Calls
set_option Elab.async false
set_option maxRecDepth 100000
set_option maxHeartbeats 8000000
set_option linter.unusedVariables false
namespace Mine
theorem fill5 : Challenge.rw_op0038_01 = Challenge.rw_op0038_01 ∧ hd.heap_39 = hd.heap_39 := by
  k_fill
  exact ⟨rfl, rfl⟩
/-- a call that changes nothing of the caller's, and hands back R of any token -/
noncomputable abbrev Ctr0 (k : Nat) (w : World) (f : Addr) (args : List Value) (news : List (Addr × Obj)) (R : Tok → Value) : Prop :=
  ∀ (mean : ExcName → Option Value) (mg mb : Str → Option Value) (dp un : Nat) (gd : Option (List Code)) (cn : Str) (cs : Scope) (a : Addr) (ccd : Value) (cl : List (Str × Addr)) (outer : List Env) (A₀ : Around) (base h₀ : Heap) (L : Addr) (m : Str → Option Value) (s : Shared) (Q E : Value → Shared → Prop),
    Below A₀ base outer h₀ → Fr h₀ L s.heap m → (hd.heap_39 w.params).In h₀ → News h₀ L s.heap news → Top topProg looseT mean mg mb h₀ → cs.kind = .function → dp + k < recursionLimit → un + 10 * k < cLine →
    (∀ t h' tk', Fr h₀ L h' m → News h₀ L h' news → Q (R t) { s with heap := h', toks := tk' }) →
    wpAny (model Prg w) (ktrTop dp un gd cn cs L a ccd cl outer) (call (.ref f) args) Q E s
theorem sep_ok {w : World} {news : List (Addr × Obj)} {b : Bool} {p : Row} {t : Tok} : Ctr0 4 w 84 [PV b p t] news (SV b) := by
  intro mean mg mb dp un gd cn cs a9 ccd cl outer A₀ base h₀ L m s Q E B F X N T hk hdp hun hret
  refine wpAny_call ?_
  cases b with
  | true =>
    k_dflt (refine' code_def ?k1 ?k2 ?k3 ?k4 ?k5 ?kA ?kF ?kK ?k6 ?k7 ?k8 ?k9 ?kB ?_ ?c2 ?c3 ?c4 ?c5; (case kA => exact rfl); (case kF => exact rfl); (case kK => first | exact rfl | assumption); (case k1 => k_asm); (case k2 => k_asm); (case k3 => k_asm); (case k4 => k_asm); (case k5 => k_asm); (case k6 => k_is); (case k7 => k_is); (case k8 => ktr_room); (case k9 => exact BindsTo.of_eq rfl); (case c5 => decide); (case kB => exact locs rfl); (case c2 => exact rfl); (case c3 => exact rfl); (case c4 => exact rfl); k_whole; intro g' L' h' FG' F' N' B' X' T'; (try dsimp only); (try k_lift B'); (try k_fold))
    dsimp only [PV] at *
    k_steps
    all_goals exact hret _ _ _ (by k_asm) (by k_asm)
  | false =>
    k_dflt (refine' code_def ?k1 ?k2 ?k3 ?k4 ?k5 ?kA ?kF ?kK ?k6 ?k7 ?k8 ?k9 ?kB ?_ ?c2 ?c3 ?c4 ?c5; (case kA => exact rfl); (case kF => exact rfl); (case kK => first | exact rfl | assumption); (case k1 => k_asm); (case k2 => k_asm); (case k3 => k_asm); (case k4 => k_asm); (case k5 => k_asm); (case k6 => k_is); (case k7 => k_is); (case k8 => ktr_room); (case k9 => exact BindsTo.of_eq rfl); (case c5 => decide); (case kB => exact locs rfl); (case c2 => exact rfl); (case c3 => exact rfl); (case c4 => exact rfl); k_whole; intro g' L' h' FG' F' N' B' X' T'; (try dsimp only); (try k_lift B'); (try k_fold))
    dsimp only [PV] at *
    k_steps
    all_goals exact hret _ _ _ (by k_asm) (by k_asm)
end Mine
end
section
open PySem PySem.W PyProof.Rows PySem.Calls
namespace Mine
theorem reset14 {M : Model} {A : Around} {E : Value → Shared → Prop} {s : Shared} {env : Env} {Q : Flow → Shared → Prop} (h : Q .next s) : wpAny M A (execs [] env) Q E s := by
  w_top off
  walk1
  w_top off
  exact h
end Mine
end
/-! K1 -/
section
open PySem PySem.W PyProof.Rows PySem.Calls
set_option Elab.async false
set_option maxRecDepth 100000
set_option maxHeartbeats 4000000
set_option linter.unusedVariables false
namespace Mine
/-- what a thing of the heap says: its height, its path, whose it is -/
structure Key where
  h : Int
  p : Row
  w : Int
deriving DecidableEq
noncomputable def ltK (x y : Key) : Bool := if x.h == y.h then (if decide (x.p = y.p) then (if x.w == y.w then false else decide (x.w < y.w)) else ltP x.p y.p) else decide (x.h < y.h)
noncomputable def rowOf : Value → Row
  | .str x _ => (allRows.find? fun p => pathCps p == x.cps.toList).getD []
  | .bytes y _ => (allRows.find? fun p => (pathB p).toList == y.toList).getD []
  | _ => []
noncomputable def keyOf (o : Obj) : Key := match o.data with
  | .seq xs _ => match xs.toList with
    | [.int h _, v, .int w _] => ⟨h, rowOf v, w⟩
    | _ => ⟨0, [], 0⟩
  | _ => ⟨0, [], 0⟩
theorem rowOf_s : ∀ p ∈ allRows, (allRows.find? fun q => pathCps q == pathCps p).getD [] = p := by decide +kernel
theorem rowOf_b : ∀ p ∈ allRows, (allRows.find? fun q => (pathB q).toList == (pathB p).toList).getD [] = p := by decide +kernel
theorem rowOf_pv {b : Bool} {p : Row} {t : Tok} (hp : p ∈ allRows) : rowOf (PV b p t) = p := by
  cases b with
  | true => exact rowOf_b p hp
  | false =>
    show (allRows.find? fun q => pathCps q == (pathStr p).cps.toList).getD [] = p
    have e : (pathStr p).cps.toList = pathCps p := by simp [pathStr]
    rw [e]; exact rowOf_s p hp
noncomputable abbrev hobj (b : Bool) (k : Key) (t1 t2 t3 : Tok) (n : Nat) : Obj := tup3 (.int k.h t1) (PV b k.p t2) (.int k.w t3) n
theorem keyOf_hobj {b : Bool} {k : Key} {t1 t2 t3 : Tok} {n : Nat} (hp : k.p ∈ allRows) : keyOf (hobj b k t1 t2 t3 n) = k := by
  show (⟨k.h, rowOf (PV b k.p t2), k.w⟩ : Key) = k
  rw [rowOf_pv hp]
/-- a thing of the heap that is well made -/
noncomputable def Good (b : Bool) (x : Item) : Prop := ∃ k t1 t2 t3 n, x.o = hobj b k t1 t2 t3 n ∧ k.p ∈ allRows ∧ k.h = 1 - (k.p.length : Int) ∧ 0 ≤ k.w ∧ k.w < 4
noncomputable def key (x : Item) : Key := keyOf x.o
noncomputable def ltI (x y : Item) : Bool := ltK (key x) (key y)
theorem cmp_good {w : World} {b : Bool} {x y : Item} (hx : Good b x) (hy : Good b y) : Cmp w ltI x y := by
  obtain ⟨k, t1, t2, t3, n, ex, hp, _⟩ := hx
  obtain ⟨k', u1, u2, u3, n', ey, hp', _⟩ := hy
  intro A E s Q hu h1 h2 h
  rw [ex] at h1
  rw [ey] at h2
  refine tup3_lt h1 h2 (MeetsSeq.EqGives.int _ _ _ _) (pv_eqGives hp hp') (MeetsSeq.EqGives.int _ _ _ _) (ltGives_int _ _ _ _) (pv_ltGives hp hp') (ltGives_int _ _ _ _) hu ?_
  have e : ltI x y = ltK k k' := by
    unfold ltI key
    rw [ex, ey, keyOf_hobj hp, keyOf_hobj hp']
  rw [e] at h
  exact h
end Mine
end
section
open PySem PySem.W PyProof.Rows PySem.Calls
namespace Mine
theorem reset15 {M : Model} {A : Around} {E : Value → Shared → Prop} {s : Shared} {env : Env} {Q : Flow → Shared → Prop} (h : Q .next s) : wpAny M A (execs [] env) Q E s := by
  w_top off
  walk1
  w_top off
  exact h
end Mine
end
/-! K2d -/
section
open PySem PySem.W PyProof.Rows PySem.Calls
set_option Elab.async false
set_option maxRecDepth 100000
set_option maxHeartbeats 4000000
set_option linter.unusedVariables false
namespace Mine
/-- the heap's moves upon the keys -/
noncomputable def suK : List Key → List Key
  | [a] => [a]
  | [a, b] => if ltK a b then [a, b] else [b, a]
  | [a, b, c] => if ltK b c then (if ltK a b then [a, b, c] else [b, a, c]) else (if ltK a c then [a, b, c] else [c, b, a])
  | [a, b, c, d] => if ltK b c then (if ltK a d then (if ltK a b then [a, b, c, d] else [b, a, c, d]) else [b, d, c, a]) else (if ltK a c then [a, b, c, d] else [c, b, a, d])
  | xs => xs
noncomputable def su1K : List Key → List Key
  | [a, b, c, d] => if ltK b d then [a, b, c, d] else [a, d, c, b]
  | xs => xs
noncomputable def popK : List Key → List Key
  | [a, b] => [b]
  | [a, b, c] => suK [c, b]
  | [a, b, c, d] => suK [d, b, c]
  | _ => []
/-- one step of a turn -/
noncomputable def stepK (height : Int) (folder : Row) (st : List Key × List Key) : List Key × List Key := match st.1 with
  | [] => st
  | x :: r => if x.p = folder then (if height < 0 then (suK (⟨height + 1, folder.dropLast, x.w⟩ :: r), st.2 ++ [x]) else (popK (x :: r), st.2 ++ [x])) else st
/-- what one that has gone pays -/
noncomputable def payK (prices : List Int) (k : Int) (n : Nat) (fees : List Int) (x : Key) : List Int :=
  fees.set x.w.toNat (fees.getD x.w.toNat 0 + Int.fdiv (prices.getD ((pathCps x.p).length - 1) 0 * min k n) n)
noncomputable def turnK (prices : List Int) (k : Int) (st : List Key × List Int) : List Key × List Int := match st.1 with
  | [] => st
  | x :: r =>
    let st2 := stepK x.h x.p (stepK x.h x.p (stepK x.h x.p (stepK x.h x.p (x :: r, []))))
    (st2.1, st2.2.foldl (payK prices k st2.2.length) st.2)
noncomputable def iterK {α : Type} (f : α → α) : Nat → α → α
  | 0, x => x
  | n + 1, x => f (iterK f n x)
noncomputable def feesK (prices : List Int) (k : Int) (xs : List Key) : List Int := (iterK (turnK prices k) 12 (suK (su1K xs), [0, 0, 0, 0])).2
end Mine
end
section
open PySem PySem.W PyProof.Rows PySem.Calls
namespace Mine
theorem reset16 {M : Model} {A : Around} {E : Value → Shared → Prop} {s : Shared} {env : Env} {Q : Flow → Shared → Prop} (h : Q .next s) : wpAny M A (execs [] env) Q E s := by
  w_top off
  walk1
  w_top off
  exact h
end Mine
end
/-! K2 -/
section
open PySem PySem.W PyProof.Rows PySem.Calls
set_option Elab.async false
set_option maxRecDepth 100000
set_option maxHeartbeats 4000000
set_option linter.unusedVariables false
namespace Mine
theorem key_su (xs : List Item) : (suL ltI xs).map key = suK (xs.map key) := by
  match xs with
  | [] => rfl
  | [a] => rfl
  | [a, b] => cases h0 : ltK (key a) (key b) <;> simp [suL, suK, ltI, h0]
  | [a, b, c] => cases h0 : ltK (key b) (key c) <;> cases h1 : ltK (key a) (key b) <;> cases h2 : ltK (key a) (key c) <;> simp [suL, suK, ltI, h0, h1, h2]
  | [a, b, c, d] => cases h0 : ltK (key b) (key c) <;> cases h1 : ltK (key a) (key d) <;> cases h2 : ltK (key a) (key b) <;> cases h3 : ltK (key a) (key c) <;> simp [suL, suK, ltI, h0, h1, h2, h3]
  | a :: b :: c :: d :: e :: r => rfl
theorem key_su1 (xs : List Item) : (su1L ltI xs).map key = su1K (xs.map key) := by
  match xs with
  | [] => rfl
  | [a] => rfl
  | [a, b] => rfl
  | [a, b, c] => rfl
  | [a, b, c, d] => cases h0 : ltK (key b) (key d) <;> simp [su1L, su1K, ltI, h0]
  | a :: b :: c :: d :: e :: r => rfl
theorem key_pop (xs : List Item) : (popL ltI xs).map key = popK (xs.map key) := by
  match xs with
  | [] => rfl
  | [a] => rfl
  | [a, b] => rfl
  | [a, b, c] => exact key_su [c, b]
  | [a, b, c, d] => exact key_su [d, b, c]
  | a :: b :: c :: d :: e :: r => rfl
theorem su_mem {lt : Item → Item → Bool} {xs : List Item} {x : Item} (h : x ∈ suL lt xs) : x ∈ xs := by
  match xs, h with
  | [], h => exact h
  | [a], h => exact h
  | [a, b], h =>
    cases h1 : lt a b <;> simp [suL, h1] at h <;> simp <;> grind
  | [a, b, c], h =>
    cases h1 : lt b c <;> cases h2 : lt a b <;> cases h3 : lt a c <;> simp [suL, h1, h2, h3] at h <;> simp <;> grind
  | [a, b, c, d], h =>
    cases h1 : lt b c <;> cases h2 : lt a d <;> cases h3 : lt a b <;> cases h4 : lt a c <;> simp [suL, h1, h2, h3, h4] at h <;> simp <;> grind
  | a :: b :: c :: d :: e :: r, h => exact h
theorem su_len (lt : Item → Item → Bool) (xs : List Item) : (suL lt xs).length = xs.length := by
  match xs with
  | [] => rfl
  | [a] => rfl
  | [a, b] => simp only [suL]; cases lt a b <;> rfl
  | [a, b, c] => simp only [suL]; cases lt b c <;> cases lt a b <;> cases lt a c <;> rfl
  | [a, b, c, d] => simp only [suL]; cases lt b c <;> cases lt a d <;> cases lt a b <;> cases lt a c <;> rfl
  | a :: b :: c :: d :: e :: r => rfl
theorem pop_mem {lt : Item → Item → Bool} {x : Item} {r : List Item} {y : Item} (h : y ∈ popL lt (x :: r)) : y ∈ r := by
  match r, h with
  | [], h => simp [popL] at h
  | [b], h => exact h
  | [b, c], h => have := su_mem (lt := lt) (xs := [c, b]) h; simp at this ⊢; grind
  | [b, c, d], h => have := su_mem (lt := lt) (xs := [d, b, c]) h; simp at this ⊢; grind
  | b :: c :: d :: e :: r, h => simp [popL] at h
theorem pop_len (lt : Item → Item → Bool) {x : Item} {r : List Item} (h : r.length ≤ 3) : (popL lt (x :: r)).length = r.length := by
  match r, h with
  | [], h => rfl
  | [b], h => rfl
  | [b, c], h => exact su_len lt [c, b]
  | [b, c, d], h => exact su_len lt [d, b, c]
  | b :: c :: d :: e :: r, h => simp at h
theorem su1_mem {lt : Item → Item → Bool} {xs : List Item} {x : Item} (h : x ∈ su1L lt xs) : x ∈ xs := by
  match xs, h with
  | [], h => exact h
  | [a], h => exact h
  | [a, b], h => exact h
  | [a, b, c], h => exact h
  | [a, b, c, d], h =>
    cases h1 : lt b d <;> simp [su1L, h1] at h <;> simp <;> grind
  | a :: b :: c :: d :: e :: r, h => exact h
theorem su1_len (lt : Item → Item → Bool) (xs : List Item) : (su1L lt xs).length = xs.length := by
  match xs with
  | [] => rfl
  | [a] => rfl
  | [a, b] => rfl
  | [a, b, c] => rfl
  | [a, b, c, d] => simp only [su1L]; cases lt b d <;> rfl
  | a :: b :: c :: d :: e :: r => rfl
end Mine
end
section
open PySem PySem.W PyProof.Rows PySem.Calls
namespace Mine
theorem reset17 {M : Model} {A : Around} {E : Value → Shared → Prop} {s : Shared} {env : Env} {Q : Flow → Shared → Prop} (h : Q .next s) : wpAny M A (execs [] env) Q E s := by
  w_top off
  walk1
  w_top off
  exact h
end Mine
end
/-! R4 -/
section
open PySem PySem.W PyProof.Rows PySem.Calls
set_option Elab.async false
set_option maxRecDepth 100000
set_option maxHeartbeats 4000000
set_option linter.unusedVariables false
namespace Mine
/-- two lists' items, pair by pair, equal or not -/
inductive EqL (H : Heap) (K : Around → Prop) : List Value → List Value → Bool → Prop
  | nil : EqL H K [] [] true
  | cons {x y : Value} {e r : Bool} {xs ys : List Value} : (∀ (prog : Program) (w : World) (A : Around) (E : Value → Shared → Prop) (s : Shared) (Q : Bool → Shared → Prop), K A → s.heap = H → Q e s → wpAny (model prog w) A (eqBool x y) Q E s) → EqL H K xs ys r → EqL H K (x :: xs) (y :: ys) (e && r)
theorem plain_eq_loop : plainId "list.__eq__.loop" = true := by decide +kernel
theorem entry_eq_loop : entryFor table "list.__eq__.loop" = some Builtin.«list.__eq__.loop» := entryFor_of_fast (by kernel_rfl)
theorem drop_none {X : Array Value} {i : Nat} (h : X.toList.drop i = []) : X[((i : Nat) : Int).toNat]? = none := by
  have : X.size ≤ i := by simpa using h
  simp; omega
theorem drop_some {X : Array Value} {i : Nat} {x : Value} {xs : List Value} (h : X.toList.drop i = x :: xs) : X[((i : Nat) : Int).toNat]? = some x ∧ X.toList.drop (i + 1) = xs := by
  constructor
  · have h1 : (X.toList.drop i)[0]? = some x := by rw [h]; rfl
    simpa using h1
  · have h1 : (X.toList.drop i).drop 1 = xs := by rw [h]; rfl
    rwa [List.drop_drop] at h1
theorem eq_loop {K : Around → Prop} {a b : Addr} {n1 n2 : Nat} {X Y : Array Value} (ev : Bool) (hsz : X.size = Y.size) {xs ys : List Value} {r : Bool} {H : Heap} (hE : EqL H K xs ys r) :
    ∀ (i : Nat), X.toList.drop i = xs → Y.toList.drop i = ys → ∀ (prog : Program) (w : World) (A : Around) (R : Result → Shared → Prop) (s : Shared), K A.in1 → s.heap = H →
      s.heap.get? a = some (listOf X n1) → s.heap.get? b = some (listOf Y n2) → R (.ok (.ret (.bool (r == ev)))) s → codeAny (model prog w) A (.builtin "list.__eq__.loop" ⟨[.ref a, .ref b, rawInt i, rawInt (cond ev 2 3)], []⟩) R s := by
  induction hE with
  | nil =>
    intro i hx hy prog w A R s hK hH ha hb h
    refine codeAny_builtin entry_eq_loop ?_
    rw [Around.under_plainId plain_eq_loop _]
    unfold Builtin.«list.__eq__.loop»
    have e1 := drop_none hx
    have e2 := drop_none hy
    cases ev with
    | true =>
      refine wpAny_bind (wpAny_listItems ha rfl (wpAny_bind (wpAny_listItems hb rfl ?_)))
      simp only [e1, e2]
      refine wpAny_bind (wpAny_listItems ha rfl (wpAny_bind (wpAny_listItems hb rfl (wpAny_pure ?_))))
      show R (.ok (.ret (.bool (X.size == Y.size)))) s
      rw [hsz]; simpa using h
    | false =>
      refine wpAny_bind (wpAny_listItems ha rfl (wpAny_bind (wpAny_listItems hb rfl ?_)))
      simp only [e1, e2]
      refine wpAny_bind (wpAny_listItems ha rfl (wpAny_bind (wpAny_listItems hb rfl (wpAny_pure ?_))))
      show R (.ok (.ret (.bool (X.size != Y.size)))) s
      rw [hsz]; simpa using h
  | @cons x y e r xs ys hq _ ih =>
    intro i hx hy prog w A R s hK hH ha hb h
    refine codeAny_builtin entry_eq_loop ?_
    rw [Around.under_plainId plain_eq_loop _]
    unfold Builtin.«list.__eq__.loop»
    obtain ⟨e1, d1⟩ := drop_some hx
    obtain ⟨e2, d2⟩ := drop_some hy
    have hci : ((i : Int) + 1) = ((i + 1 : Nat) : Int) := by push_cast; rfl
    cases ev with
    | true =>
      refine wpAny_bind (wpAny_listItems ha rfl (wpAny_bind (wpAny_listItems hb rfl ?_)))
      simp only [e1, e2]
      refine wpAny_bind (hq _ _ _ _ _ _ hK hH ?_)
      cases e with
      | true =>
        simp only [if_true]
        refine wpAny_pure ⟨plainId_quiet plain_eq_loop _, ?_⟩
        rw [hci]
        exact ih (i + 1) d1 d2 prog w A R s hK hH ha hb (by simpa using h)
      | false =>
        simp only [Bool.false_eq_true, if_false]
        refine wpAny_bind (wpAny_listItems ha rfl (wpAny_bind (wpAny_listItems hb rfl ?_)))
        simp only [e1, e2]
        exact wpAny_pure (by simpa using h)
    | false =>
      refine wpAny_bind (wpAny_listItems ha rfl (wpAny_bind (wpAny_listItems hb rfl ?_)))
      simp only [e1, e2]
      refine wpAny_bind (hq _ _ _ _ _ _ hK hH ?_)
      cases e with
      | true =>
        simp only [if_true]
        refine wpAny_pure ⟨plainId_quiet plain_eq_loop _, ?_⟩
        rw [hci]
        exact ih (i + 1) d1 d2 prog w A R s hK hH ha hb (by simpa using h)
      | false =>
        simp only [Bool.false_eq_true, if_false]
        refine wpAny_bind (wpAny_listItems ha rfl (wpAny_bind (wpAny_listItems hb rfl ?_)))
        simp only [e1, e2]
        exact wpAny_pure (by simpa using h)
theorem isSub_list_list : isSubtype (.type "list") (.type "list") = pure true := by rw [isSubtype_type]; kernel_rfl
section
variable {prog : Program} {w : World} {A : Around} {E : Value → Shared → Prop} {s : Shared} {a b : Addr} {n1 n2 : Nat} {X Y : Array Value} {Q : Value → Shared → Prop}

theorem list_eq_tree {K : Around → Prop} {r : Bool} {H : Heap} : Meets (Builtin.«list.__eq__» ⟨[.ref a, .ref b], []⟩) fun A R s => s.heap.get? a = some (listOf X n1) ∧ s.heap.get? b = some (listOf Y n2) ∧
    ((X.size ≠ Y.size ∧ R (.ok (.ret (.bool false))) s) ∨ (X.size = Y.size ∧ EqL H K X.toList Y.toList r ∧ s.heap = H ∧ K A.in1 ∧ R (.ok (.ret (.bool (r == true)))) s)) := by
  intro prog w A R s h
  obtain ⟨ha, hb, h⟩ := h
  show wpAny _ _ (isInstance (.ref b) (.type "list") >>= _) _ _ s
  refine wpAny_bind (wpAny_isInstance (T := "list") ⟨_, hb, rfl⟩ isSub_list_list ?_)
  simp only [Bool.not_true, Bool.false_eq_true, if_false]
  have eop : (CmpOp.Eq == CmpOp.Eq || CmpOp.Eq == CmpOp.NotEq) = true := rfl
  rw [eop]
  simp only [if_true]
  refine wpAny_bind (wpAny_listItems ha rfl (wpAny_bind (wpAny_listItems hb rfl ?_)))
  rcases h with ⟨hne, h⟩ | ⟨he, hE, hH, hK, h⟩
  · have e1 : (X.size != Y.size) = true := by simpa using hne
    rw [e1]
    simp only [if_true]
    exact wpAny_bind (wpAny_rule (wpAny_pure h))
  · have e1 : (X.size != Y.size) = false := by simpa using he
    rw [e1]
    simp only [Bool.false_eq_true, if_false]
    exact wpAny_pure ⟨plainId_quiet plain_eq_loop _, eq_loop true he hE 0 rfl rfl prog w A R s hK hH ha hb h⟩
theorem list_eq {K : Around → Prop} {r : Bool} (ha : s.heap.get? a = some (listOf X n1)) (hb : s.heap.get? b = some (listOf Y n2)) (hE : EqL s.heap K X.toList Y.toList r) (hK : ∀ A : Around, A.units < cLine → K A.in1) (hu : A.units < cLine) (he : X.size = Y.size) (h : Q (.bool (r == true)) s) : wpAny (model prog w) A (compareOp .Eq (.ref a) (.ref b)) Q E s := by
  have hT : s.TypeIs (.ref a) "list" := ⟨_, ha, rfl⟩
  have hT' : s.TypeIs (.ref b) "list" := ⟨_, hb, rfl⟩
  exact cmp_ofEq (wpAny_richCompare_same_room (op := .Eq) hT hT' F.slot_list_eq (call_meets F.slot_list_eq hT F.entry_list_eq (F.args_list_eq_2 _ _) list_eq_tree ⟨ha, hb, .inr ⟨he, hE, rfl, hK _ hu, (fun e => nomatch e : Value.bool (r == true) ≠ .notImplemented), h⟩⟩) hu)
theorem list_eq_len (ha : s.heap.get? a = some (listOf X n1)) (hb : s.heap.get? b = some (listOf Y n2)) (hne : X.size ≠ Y.size) (hu : A.units < cLine) (h : Q (.bool false) s) : wpAny (model prog w) A (compareOp .Eq (.ref a) (.ref b)) Q E s := by
  have hT : s.TypeIs (.ref a) "list" := ⟨_, ha, rfl⟩
  have hT' : s.TypeIs (.ref b) "list" := ⟨_, hb, rfl⟩
  exact cmp_ofEq (wpAny_richCompare_same_room (op := .Eq) hT hT' F.slot_list_eq (call_meets F.slot_list_eq hT F.entry_list_eq (F.args_list_eq_2 _ _) (list_eq_tree (K := fun _ => True) (r := true) (H := s.heap)) ⟨ha, hb, .inl ⟨hne, (fun e => nomatch e : Value.bool false ≠ .notImplemented), h⟩⟩) hu)

theorem list_ne_tree {K : Around → Prop} {r : Bool} {H : Heap} : Meets (Builtin.«list.__ne__» ⟨[.ref a, .ref b], []⟩) fun A R s => s.heap.get? a = some (listOf X n1) ∧ s.heap.get? b = some (listOf Y n2) ∧
    ((X.size ≠ Y.size ∧ R (.ok (.ret (.bool true))) s) ∨ (X.size = Y.size ∧ EqL H K X.toList Y.toList r ∧ s.heap = H ∧ K A.in1 ∧ R (.ok (.ret (.bool (r == false)))) s)) := by
  intro prog w A R s h
  obtain ⟨ha, hb, h⟩ := h
  show wpAny _ _ (isInstance (.ref b) (.type "list") >>= _) _ _ s
  refine wpAny_bind (wpAny_isInstance (T := "list") ⟨_, hb, rfl⟩ isSub_list_list ?_)
  simp only [Bool.not_true, Bool.false_eq_true, if_false]
  have eop : (CmpOp.NotEq == CmpOp.Eq || CmpOp.NotEq == CmpOp.NotEq) = true := rfl
  rw [eop]
  simp only [if_true]
  refine wpAny_bind (wpAny_listItems ha rfl (wpAny_bind (wpAny_listItems hb rfl ?_)))
  rcases h with ⟨hne, h⟩ | ⟨he, hE, hH, hK, h⟩
  · have e1 : (X.size != Y.size) = true := by simpa using hne
    rw [e1]
    simp only [if_true]
    exact wpAny_bind (wpAny_rule (wpAny_pure h))
  · have e1 : (X.size != Y.size) = false := by simpa using he
    rw [e1]
    simp only [Bool.false_eq_true, if_false]
    exact wpAny_pure ⟨plainId_quiet plain_eq_loop _, eq_loop false he hE 0 rfl rfl prog w A R s hK hH ha hb h⟩
theorem list_ne {K : Around → Prop} {r : Bool} (ha : s.heap.get? a = some (listOf X n1)) (hb : s.heap.get? b = some (listOf Y n2)) (hE : EqL s.heap K X.toList Y.toList r) (hK : ∀ A : Around, A.units < cLine → K A.in1) (hu : A.units < cLine) (he : X.size = Y.size) (h : Q (.bool (r == false)) s) : wpAny (model prog w) A (compareOp .NotEq (.ref a) (.ref b)) Q E s := by
  have hT : s.TypeIs (.ref a) "list" := ⟨_, ha, rfl⟩
  have hT' : s.TypeIs (.ref b) "list" := ⟨_, hb, rfl⟩
  exact cmp_ofNotEq (wpAny_richCompare_same_room (op := .NotEq) hT hT' F.slot_list_ne (call_meets F.slot_list_ne hT F.entry_list_ne (F.args_list_ne_2 _ _) list_ne_tree ⟨ha, hb, .inr ⟨he, hE, rfl, hK _ hu, (fun e => nomatch e : Value.bool (r == false) ≠ .notImplemented), h⟩⟩) hu)
theorem list_ne_len (ha : s.heap.get? a = some (listOf X n1)) (hb : s.heap.get? b = some (listOf Y n2)) (hne : X.size ≠ Y.size) (hu : A.units < cLine) (h : Q (.bool true) s) : wpAny (model prog w) A (compareOp .NotEq (.ref a) (.ref b)) Q E s := by
  have hT : s.TypeIs (.ref a) "list" := ⟨_, ha, rfl⟩
  have hT' : s.TypeIs (.ref b) "list" := ⟨_, hb, rfl⟩
  exact cmp_ofNotEq (wpAny_richCompare_same_room (op := .NotEq) hT hT' F.slot_list_ne (call_meets F.slot_list_ne hT F.entry_list_ne (F.args_list_ne_2 _ _) (list_ne_tree (K := fun _ => True) (r := true) (H := s.heap)) ⟨ha, hb, .inl ⟨hne, (fun e => nomatch e : Value.bool true ≠ .notImplemented), h⟩⟩) hu)
end
end Mine
end
section
open PySem PySem.W PyProof.Rows PySem.Calls
namespace Mine
theorem reset18 {M : Model} {A : Around} {E : Value → Shared → Prop} {s : Shared} {env : Env} {Q : Flow → Shared → Prop} (h : Q .next s) : wpAny M A (execs [] env) Q E s := by
  w_top off
  walk1
  w_top off
  exact h
end Mine
end
/-! K3 -/
section
open PySem PySem.W PyProof.Rows PySem.Calls
set_option Elab.async false
set_option maxRecDepth 100000
set_option maxHeartbeats 4000000
set_option linter.unusedVariables false
namespace Mine
theorem hfy_ok {w : World} {l : Addr} {e : Nat} {tl : List (Addr × Obj)} {lt : Item → Item → Bool} {xs : List Item} (h4 : xs.length = 4) (hm : ∀ x ∈ xs, (x.a, x.o) ∈ tl) (hc : ∀ x ∈ xs, ∀ y ∈ xs, Cmp w lt x y) (hoff : ∀ q ∈ tl, q.1 ≠ l) :
    Ctr 8 w 63 [.ref l] l (listOf (vals xs) e) (listOf (vals (suL lt (su1L lt xs))) e) tl .none := by
  rcases xs with _ | ⟨a, _ | ⟨b, _ | ⟨c, _ | ⟨d, _ | ⟨e, r⟩⟩⟩⟩⟩
  · cases h4
  · cases h4
  · cases h4
  · cases h4
  · have q3 : ∀ x ∈ su1L lt [a, b, c, d], (x.a, x.o) ∈ tl := fun x hx => hm x (su1_mem hx)
    have q4 : ∀ x ∈ su1L lt [a, b, c, d], ∀ y ∈ su1L lt [a, b, c, d], Cmp w lt x y := fun x hx y hy => hc x (su1_mem hx) y (su1_mem hy)
    have q1 : 1 ≤ (su1L lt [a, b, c, d]).length := by rw [su1_len]; exact Nat.le_of_ble_eq_true rfl
    have q2 : (su1L lt [a, b, c, d]).length ≤ 4 := by rw [su1_len]; exact Nat.le_refl _
    have ma := hm a (.head _)
    have mb := hm b (.tail _ (.head _))
    have mc := hm c (.tail _ (.tail _ (.head _)))
    have md := hm d (.tail _ (.tail _ (.tail _ (.head _))))
    have cbd := hc b (.tail _ (.head _)) d (.tail _ (.tail _ (.tail _ (.head _))))
    exact hfy ma mb mc md cbd hoff q1 q2 q3 q4
  · simp at h4
theorem off1_all {D : Addr} : ∀ {l : List (Addr × Obj)}, LCg.Off1 D l → ∀ q ∈ l, q.1 ≠ D
  | [], _, _, h => nomatch h
  | _ :: _, x, q, h => by
    rcases List.mem_cons.mp h with rfl | h
    · exact x.1
    · exact off1_all x.2 q h
noncomputable abbrev kobj (b : Bool) (p : Row) (i : Int) (s t r : Tok) : Obj := tup3 (.int (-((p.length - 1 : Nat) : Int)) s) (PV b p t) (.int i r) 0
theorem kobj_good {b : Bool} {p : Row} {i : Int} {s t r : Tok} {a : Addr} (hp : p ∈ allRows) (h0 : 0 ≤ i) (h4 : i < 4) : Good b ⟨a, kobj b p i s t r⟩ ∧ key ⟨a, kobj b p i s t r⟩ = ⟨1 - (p.length : Int), p, i⟩ := by
  have hl : ∀ p ∈ allRows, 1 ≤ p.length := by decide +kernel
  have e : -((p.length - 1 : Nat) : Int) = 1 - (p.length : Int) := by have := hl p hp; omega
  have eo : kobj b p i s t r = hobj b ⟨1 - (p.length : Int), p, i⟩ s t r 0 := by unfold kobj hobj; rw [e]
  refine ⟨⟨_, _, _, _, _, eo, hp, rfl, h0, h4⟩, ?_⟩
  show keyOf (kobj b p i s t r) = _
  rw [eo, keyOf_hobj hp]
theorem pack4 {g h : Heap} {L D a0 a1 a2 a3 : Addr} {b : Bool} {p0 p1 p2 p3 : Row} {s0 t0 r0 s1 t1 r1 s2 t2 r2 s3 t3 r3 : Tok} {rest : List (Addr × Obj)}
    (hp0 : p0 ∈ allRows) (hp1 : p1 ∈ allRows) (hp2 : p2 ∈ allRows) (hp3 : p3 ∈ allRows)
    (N : News g L h ((D, LCg.lst [.ref a0, .ref a1, .ref a2, .ref a3]) :: (a3, kobj b p3 3 s3 t3 r3) :: (a2, kobj b p2 2 s2 t2 r2) :: (a1, kobj b p1 1 s1 t1 r1) :: (a0, kobj b p0 0 s0 t0 r0) :: rest))
    (off : LCg.Off1 D ((a3, kobj b p3 3 s3 t3 r3) :: (a2, kobj b p2 2 s2 t2 r2) :: (a1, kobj b p1 1 s1 t1 r1) :: (a0, kobj b p0 0 s0 t0 r0) :: rest)) :
    ∃ xs tl', xs.length = 4 ∧ xs.map key = [⟨1 - p0.length, p0, 0⟩, ⟨1 - p1.length, p1, 1⟩, ⟨1 - p2.length, p2, 2⟩, ⟨1 - p3.length, p3, 3⟩] ∧ (∀ x ∈ xs, Good b x) ∧ News g L h ((D, listOf (vals xs) 4) :: tl') ∧ (∀ x ∈ xs, (x.a, x.o) ∈ tl') ∧ (∀ q ∈ tl', q.1 ≠ D) ∧ (∀ q ∈ rest, q ∈ tl') := by
  have g0 := kobj_good (b := b) (i := 0) (s := s0) (t := t0) (r := r0) (a := a0) hp0 (by omega) (by omega)
  have g1 := kobj_good (b := b) (i := 1) (s := s1) (t := t1) (r := r1) (a := a1) hp1 (by omega) (by omega)
  have g2 := kobj_good (b := b) (i := 2) (s := s2) (t := t2) (r := r2) (a := a2) hp2 (by omega) (by omega)
  have g3 := kobj_good (b := b) (i := 3) (s := s3) (t := t3) (r := r3) (a := a3) hp3 (by omega) (by omega)
  refine ⟨[⟨a0, kobj b p0 0 s0 t0 r0⟩, ⟨a1, kobj b p1 1 s1 t1 r1⟩, ⟨a2, kobj b p2 2 s2 t2 r2⟩, ⟨a3, kobj b p3 3 s3 t3 r3⟩], _, rfl, ?_, ?_, N, ?_, off1_all off, ?_⟩
  · simp only [List.map_cons, List.map_nil, g0.2, g1.2, g2.2, g3.2]
  · intro x hx
    simp only [List.mem_cons, List.not_mem_nil, or_false] at hx
    rcases hx with rfl | rfl | rfl | rfl
    · exact g0.1
    · exact g1.1
    · exact g2.1
    · exact g3.1
  · intro x hx
    simp only [List.mem_cons, List.not_mem_nil, or_false] at hx
    rcases hx with rfl | rfl | rfl | rfl <;> simp
  · intro q hq
    simp only [List.mem_cons]
    exact .inr (.inr (.inr (.inr hq)))
end Mine
end
section
open PySem PySem.W PyProof.Rows PySem.Calls
namespace Mine
theorem reset19 {M : Model} {A : Around} {E : Value → Shared → Prop} {s : Shared} {env : Env} {Q : Flow → Shared → Prop} (h : Q .next s) : wpAny M A (execs [] env) Q E s := by
  w_top off
  walk1
  w_top off
  exact h
end Mine
end
/-! R5 -/
section
open PySem PySem.W PyProof.Rows PySem.Calls
set_option Elab.async false
set_option maxRecDepth 100000
set_option maxHeartbeats 4000000
set_option linter.unusedVariables false
namespace Mine
section
variable {prog : Program} {w : World} {A : Around} {E : Value → Shared → Prop} {s : Shared} {h₀ : Heap} {L : Addr} {m : Str → Option Value} {news : List (Addr × Obj)}
theorem head2_applied {sl : Addr} {u : Tok} {Q : Int × Int × Nat → Shared → Prop} (hs : s.heap.IsSliceOf sl .none (.int 2 u) .none) (h : Q ((0 : Int), 1, 2) s) :
    wpAny (model prog w) A (Builtin.Slice.sliceApplied (.ref sl) (pure (3 : Int))) Q E s := by
  obtain ⟨os, hos, hcs, hds⟩ := id hs
  unfold Builtin.Slice.sliceApplied Builtin.Slice.sliceFields
  refine wpAny_bind (wpAny_bind (wpAny_field hos hds (x := .none) rfl (wpAny_bind (wpAny_field hos hds (x := .int 2 u) rfl (wpAny_bind (wpAny_field hos hds (x := .none) rfl (wpAny_pure ?_)))))))
  refine wpAny_bind (slicePart_none ?_)
  show wpAny _ _ (if ((1 : Int) == 0) = true then _ else _) _ _ s
  rw [if_neg (by decide)]
  refine wpAny_bind (slicePart_none (wpAny_bind (slicePart_int (wpAny_bind (wpAny_pure ?_)))))
  exact wpAny_pure h
theorem head2_get {t sl : Addr} {x y z : Value} {u : Tok} {Q : Value → Shared → Prop} (ht : IsTup s.heap t #[x, y, z]) (hs : s.heap.IsSliceOf sl .none (.int 2 u) .none)
    (h : Q (.ref s.heap.objs.size) { s with heap := s.heap.push { cls := .type "tuple", data := .seq #[x, y] } }) : wpAny (model prog w) A (getItem (.ref t) (.ref sl)) Q E s := by
  have hok : sizeOk (.seq #[x, y]) := by
    show (#[x, y] : Array Value).size ≤ sizeLine
    rw [sizeLine_eq]
    exact Nat.le_of_ble_eq_true rfl
  obtain ⟨os, hos, hcs, hds⟩ := id hs
  have hTs : s.TypeIs (.ref sl) "slice" := ⟨os, hos, hcs⟩
  unfold getItem
  try with_reducible refine wpAny_holding ?_
  first | refine wpAny_bind (wpAny_pure ?_) | skip
  refine wpAny_bind (wpAny_sequenceKey ht.typeIs (by decide) ?_)
  refine wpAny_bind (wpAny_callSpecial?_slot (name := Str.ofString "__getitem__") ht.typeIs slot_tuple_getitem
    (wpAny_call_entry slot_tuple_getitem ht.typeIs entry_tuple_getitem ?_ (args_tuple_getitem _ _)))
  show wpAny _ _ (Builtin.Tuple.tupleItemsOf (.ref t) >>= _) _ _ s
  refine wpAny_bind (tupleItemsOf_ ht ?_)
  refine wpAny_bind (wpAny_typeOf hTs ?_)
  rw [if_pos (by decide)]
  refine wpAny_bind (head2_applied hs ?_)
  show wpAny _ _ (if ((0 : Int) == 0 && (1 : Int) == 1 && (2 : Nat) == 3) = true then _ else _) _ _ s
  rw [if_neg (by decide)]
  first
    | exact wpAny_bind (m := Builtin.Tuple.tupleExact _) (wpAny_newObj_type (wpAny_pure ⟨_, rfl, wpAny_pure h⟩) hok)
    | exact wpAny_bind (m := Builtin.Tuple.tupleExact _) (wpAny_newObj_type (wpAny_bind (wpAny_pure (wpAny_pure ⟨_, rfl, wpAny_pure h⟩))) hok)
    | exact wpAny_bind (wpAny_bind (m := Builtin.Tuple.tupleExact _) (wpAny_newObj_type (wpAny_pure (wpAny_pure ⟨_, rfl, wpAny_pure h⟩)) hok))
    | exact wpAny_bind (wpAny_bind (m := Builtin.Tuple.tupleExact _) (wpAny_newObj_type (wpAny_pure ⟨_, rfl, wpAny_pure h⟩) hok))
theorem head2 {value slice : Expr} {t : Addr} {x y z : Value} {n : Nat} {u : Tok} {Q : Value → Shared → Prop}
    (F : Fr h₀ L s.heap m) (N : News h₀ L s.heap news) (hm : (t, tup3 x y z n) ∈ news)
    (h : ∀ h' D, Fr h₀ L h' m → News h₀ L h' ((D, { cls := .type "tuple", data := .seq #[x, y] }) :: news) → Q (.ref D) { s with heap := h' })
    (hs : subscripted slice false (.ref t) (.ref s.heap.objs.size) = operate [.ref s.heap.objs.size, .ref t] (getItem (.ref t) (.ref s.heap.objs.size)))
    (hg : ∀ r, letTemporaryGo value (.ref t) r = pure ()) :
    wpAny (model prog w) A (subscriptTail value slice (.ref t) (.ref s.heap.objs.size)) Q E { s with heap := s.heap.push { cls := .type "slice", data := .fields #[.none, .int 2 u, .none] } } := by
  have ht : IsTup s.heap t #[x, y, z] := ⟨_, N.get hm, rfl, n, rfl⟩
  have ht' : IsTup (s.heap.push { cls := .type "slice", data := .fields #[.none, .int 2 u, .none] }) t #[x, y, z] := ht.keeps fun _ _ e => Heap.get?_push_of_some _ e
  refine subscriptTail_ops (s := { s with heap := s.heap.push { cls := .type "slice", data := .fields #[.none, .int 2 u, .none] } }) ht'.typeIs slot_tuple_getitem.lookup
    (head2_get ht' (Heap.IsSliceOf.new ..) ?_) hs hg
  have N1 := News.push (F.push { cls := .type "slice", data := .fields #[.none, .int 2 u, .none] }) (N.grown fun _ _ e => Heap.get?_push_of_some _ e) { cls := .type "tuple", data := .seq #[x, y] }
  rw [Heap.size_push] at N1
  show Q (.ref (s.heap.push _).objs.size) _
  rw [Heap.size_push]
  exact h _ _ ((F.push _).push _) N1
end
end Mine
end
section
open PySem PySem.W PyProof.Rows PySem.Calls
namespace Mine
theorem reset20 {M : Model} {A : Around} {E : Value → Shared → Prop} {s : Shared} {env : Env} {Q : Flow → Shared → Prop} (h : Q .next s) : wpAny M A (execs [] env) Q E s := by
  w_top off
  walk1
  w_top off
  exact h
end Mine
end
/-! M1 -/
section
open PySem PySem.W PyProof.Rows PySem.Calls
set_option Elab.async false
set_option maxRecDepth 100000
set_option maxHeartbeats 4000000
set_option linter.unusedVariables false
namespace Mine
theorem plain_sumprod : plainId "math.sumprod" = true := by decide +kernel
theorem kind_sumprod : builtinKind "math.sumprod" = none := by decide +kernel
theorem entry_sumprod : entryFor table "math.sumprod" = some Builtin.«math.sumprod» := entryFor_of_tree (by kernel_rfl)
theorem plain_sumprod_loop : plainId "math.sumprod.loop" = true := by decide +kernel
theorem entry_sumprod_loop : entryFor table "math.sumprod.loop" = some Builtin.«math.sumprod.loop» := entryFor_of_tree (by kernel_rfl)
theorem args_sumprod (a b : Value) : argsOk "math.sumprod" ⟨[a, b], []⟩ := by unfold argsOk; kernel_rfl
theorem plain_fsum : plainId "math.fsum" = true := by decide +kernel
theorem kind_fsum : builtinKind "math.fsum" = none := by decide +kernel
theorem entry_fsum : entryFor table "math.fsum" = some Builtin.«math.fsum» := entryFor_of_tree (by kernel_rfl)
theorem plain_fsum_loop : plainId "math.fsum.loop" = true := by decide +kernel
theorem entry_fsum_loop : entryFor table "math.fsum.loop" = some Builtin.«math.fsum.loop» := entryFor_of_tree (by kernel_rfl)
theorem args_fsum (a : Value) : argsOk "math.fsum" ⟨[a], []⟩ := by unfold argsOk; kernel_rfl
section
variable {prog : Program} {w : World} {A : Around} {R : Result → Shared → Prop} {E : Value → Shared → Prop} {s : Shared}
noncomputable abbrev zz : Value := rawInt (Float64.zero false).toNat
noncomputable def preMul (a b : Nat → Int) : Nat → Int
  | 0 => 0
  | j + 1 => preMul a b j + a j * b j
theorem sumprod_loop {I J la lw T : Addr} {X Y : Array Value} {n : Nat} {a b : Nat → Int} {t0 : Tok} (hh : A.in1.handled = none) (hX : X.size = n) (hY : Y.size = n)
    (ha : ∀ i, i < n → ∃ t, X[i]? = some (.int (a i) t)) (hb : ∀ i, i < n → ∃ t, Y[i]? = some (.int (b i) t)) (hfit : ∀ i, i < n → InLong (a i) ∧ InLong (b i) ∧ InLong (a i * b i) ∧ InLong (preMul a b (i + 1)))
    (hIJ : I ≠ J) (hIa : la ≠ I) (hJa : la ≠ J) (hIw : lw ≠ I) (hJw : lw ≠ J) (hTI : T ≠ I) (hTJ : T ≠ J) :
    ∀ (k i : Nat) (s : Shared), n - i = k → i ≤ n → s.heap.IsListIter I la i → s.heap.IsListIter J lw i → s.heap.IsList la X → s.heap.IsList lw Y → s.heap.get? T = some (tup3 zz zz zz 0) →
      (∀ h' tk t', (∀ b o, b ≠ I → b ≠ J → s.heap.get? b = some o → h'.get? b = some o) → R (.ok (.ret (.int (preMul a b n) t'))) { s with heap := h', toks := tk }) →
      codeAny (model prog w) A (.builtin "math.sumprod.loop" ⟨[.ref I, .ref J, .int 0 t0, .bool true, rawInt (preMul a b i), .bool (decide (0 < i)), .bool true, .ref T, .bool false], []⟩) R s := by
  intro k
  induction k with
  | zero =>
    intro i s hk hi sI sJ lA lW hT hR
    have hin : i = n := by omega
    subst hin
    refine codeAny_builtin entry_sumprod_loop ?_
    rw [Around.under_plainId plain_sumprod_loop _]
    show wpAny _ A.in1 (seqItems? (.ref T) >>= _) _ _ s
    refine wpAny_bind (wpAny_seqItems hT rfl ?_)
    show wpAny _ A.in1 (pyNext (.ref I) >>= _) _ _ s
    refine wpAny_bind (wpAny_pyNext_list_end hh sI lA (by simp [hX]) fun h1 e1 => ?_)
    refine wpAny_bind (wpAny_holding (wpAny_pyNext_list_end (s := { s with heap := h1 }) (l := lw) (items := Y) (i := i) hh (sJ.at fun o e => e1 J o (Ne.symm hIJ) e) (lW.at fun o e => e1 lw o hIw e) (by simp [hY]) fun h2 e2 => ?_))
    simp only [Option.isSome_none, bne_self_eq_false, Bool.false_eq_true, if_false, if_true]
    refine wpAny_bind (wpAny_rule ?_)
    have hkeep : ∀ (b : Addr) (o : Obj), b ≠ I → b ≠ J → s.heap.get? b = some o → h2.get? b = some o := fun b o b1 b2 e => e2 b o b2 (e1 b o b1 e)
    by_cases h0 : 0 < i
    · rw [if_pos (decide_eq_true h0)]
      refine wpAny_bind (wpAny_mkInt ?_)
      refine wpAny_bind (wpAny_holding (wpAny_add_int ?_))
      refine wpAny_bind (wpAny_rule ?_)
      refine wpAny_pure ?_
      show R (.ok (.ret (.int (0 + preMul a b i) _))) _
      rw [Int.zero_add]
      exact hR h2 _ _ hkeep
    · rw [if_neg (by simpa using h0)]
      refine wpAny_bind (wpAny_rule (wpAny_pure ?_))
      have hz : i = 0 := by omega
      subst hz
      exact hR h2 _ t0 hkeep
  | succ k ih =>
    intro i s hk hi sI sJ lA lW hT hR
    have hlt : i < n := by omega
    obtain ⟨t1, e1⟩ := ha i hlt
    obtain ⟨t2, e2⟩ := hb i hlt
    refine codeAny_builtin entry_sumprod_loop ?_
    rw [Around.under_plainId plain_sumprod_loop _]
    show wpAny _ A.in1 (seqItems? (.ref T) >>= _) _ _ s
    refine wpAny_bind (wpAny_seqItems hT rfl ?_)
    show wpAny _ A.in1 (pyNext (.ref I) >>= _) _ _ s
    refine wpAny_bind (wpAny_pyNext_list_item sI lA (x := .int (a i) t1) (by simpa using e1) fun h1 it1 k1 => ?_)
    refine wpAny_bind (wpAny_holding (wpAny_pyNext_list_item (s := { s with heap := h1 }) (l := lw) (items := Y) (i := i) (sJ.at fun o e => k1.extBut J o (Ne.symm hIJ) e) (lW.at fun o e => k1.extBut lw o hIw e) (x := .int (b i) t2) (by simpa using e2) fun h2 it2 k2 => ?_))
    simp only [Option.isSome_some, bne_self_eq_false, Bool.false_eq_true, if_false, if_true]
    obtain ⟨⟨a1, a2⟩, ⟨b1, b2⟩, ⟨c1, c2⟩, d1, d2⟩ := hfit i hlt
    have hms : Builtin.Math.maxSsize = 2 ^ 63 - 1 := by decide
    have hc : (decide (-2 ^ 63 ≤ a i) && decide (a i ≤ Builtin.Math.maxSsize) && (decide (-2 ^ 63 ≤ b i) && decide (b i ≤ Builtin.Math.maxSsize)) && (decide (-2 ^ 63 ≤ a i * b i) && decide (a i * b i ≤ Builtin.Math.maxSsize)) &&
        (decide (-2 ^ 63 ≤ preMul a b i + a i * b i) && decide (preMul a b i + a i * b i ≤ Builtin.Math.maxSsize))) = true := by
      simp only [preMul] at d1 d2
      rw [hms]
      simp only [Bool.and_eq_true, decide_eq_true_eq]
      generalize a i * b i = ab at *
      omega
    rw [if_pos hc]
    refine wpAny_pure ⟨plainId_quiet plain_sumprod_loop _, ?_⟩
    have hd : decide (0 < i + 1) = true := decide_eq_true (by omega)
    have ih' := ih (i + 1) { s with heap := h2 } (by omega) (by omega) (it1.at fun o e => k2.extBut I o hIJ e) it2 (lA.at fun o e => k2.extBut la o hJa (k1.extBut la o hIa e)) (lW.at fun o e => k2.extBut lw o hJw (k1.extBut lw o hIw e)) (k2.extBut T _ hTJ (k1.extBut T _ hTI hT))
      (fun h' tk t' hk' => hR h' tk t' fun b o n1 n2 e => hk' b o n1 n2 (k2.extBut b o n2 (k1.extBut b o n1 e)))
    rw [hd] at ih'
    exact ih'
theorem call_sumprod {la lw : Addr} {X Y : Array Value} {n : Nat} {a b : Nat → Int} {Q : Value → Shared → Prop} (hh : A.in1.handled = none) (hX : X.size = n) (hY : Y.size = n) (lA : s.heap.IsList la X) (lW : s.heap.IsList lw Y)
    (ha : ∀ i, i < n → ∃ t, X[i]? = some (.int (a i) t)) (hb : ∀ i, i < n → ∃ t, Y[i]? = some (.int (b i) t)) (hfit : ∀ i, i < n → InLong (a i) ∧ InLong (b i) ∧ InLong (a i * b i) ∧ InLong (preMul a b (i + 1)))
    (h : ∀ h' tk t', (∀ b o, s.heap.get? b = some o → h'.get? b = some o) → Q (.int (preMul a b n) t') { s with heap := h', toks := tk }) :
    wpAny (model prog w) A (call (.builtin "math.sumprod") [.ref la, .ref lw]) Q E s := by
  refine call_function_tree kind_sumprod plain_sumprod entry_sumprod (args_sumprod _ _) ?_
  unfold Builtin.«math.sumprod»
  refine wpAny_bind (wpAny_of_eq (show Builtin.Math.mathSome "sumprod" 2 2 ⟨[.ref la, .ref lw], []⟩ = pure [.ref la, .ref lw] from rfl) ?_)
  try dsimp only
  have hla : la < s.heap.objs.size := by obtain ⟨_, e, _⟩ := lA; exact Heap.lt_size e
  have hlw : lw < s.heap.objs.size := by obtain ⟨_, e, _⟩ := lW; exact Heap.lt_size e
  refine wpAny_bind (wpAny_pyIter_list lA ?_)
  refine wpAny_bind (wpAny_holding (wpAny_pyIter_list (lW.at fun o e => Heap.get?_push_of_some _ e) ?_))
  refine wpAny_bind (wpAny_mkInt ?_)
  refine wpAny_bind (wpAny_newObj_type ?_)
  refine wpAny_pure ⟨plainId_quiet plain_sumprod_loop _, ?_⟩
  dsimp only
  generalize hH1 : s.heap.push { cls := .type "list_iterator", data := .fields #[.ref la, .int 0 0] } = H1
  generalize hH2 : H1.push { cls := .type "list_iterator", data := .fields #[.ref lw, .int 0 0] } = H2
  generalize hH3 : H2.push { cls := .type "tuple", data := .seq [zz, zz, zz].toArray } = H3
  have s1 : H1.objs.size = s.heap.objs.size + 1 := by rw [← hH1, Heap.size_push]
  have s2 : H2.objs.size = s.heap.objs.size + 2 := by rw [← hH2, Heap.size_push, s1]
  have k1 : ∀ b o, s.heap.get? b = some o → H1.get? b = some o := fun b o e => hH1 ▸ Heap.get?_push_of_some _ e
  have k2 : ∀ b o, H1.get? b = some o → H2.get? b = some o := fun b o e => hH2 ▸ Heap.get?_push_of_some _ e
  have k3 : ∀ b o, H2.get? b = some o → H3.get? b = some o := fun b o e => hH3 ▸ Heap.get?_push_of_some _ e
  have i1 : H1.IsListIter s.heap.objs.size la 0 := hH1 ▸ ⟨_, Heap.get?_push_size _ rfl, rfl, rfl⟩
  have i2 : H2.IsListIter H1.objs.size lw 0 := hH2 ▸ ⟨_, Heap.get?_push_size _ rfl, rfl, rfl⟩
  have i3 : H3.get? H2.objs.size = some (tup3 zz zz zz 0) := hH3 ▸ Heap.get?_push_size _ rfl
  refine sumprod_loop (I := s.heap.objs.size) (J := H1.objs.size) (la := la) (lw := lw) (T := H2.objs.size) hh hX hY ha hb hfit ?_ ?_ ?_ ?_ ?_ ?_ ?_ n 0 { s with heap := H3, toks := _ } (by omega) (by omega) ((i1.at fun o e => k2 _ o e).at fun o e => k3 _ o e) (i2.at fun o e => k3 _ o e)
    (((lA.at fun o e => k1 _ o e).at fun o e => k2 _ o e).at fun o e => k3 _ o e) (((lW.at fun o e => k1 _ o e).at fun o e => k2 _ o e).at fun o e => k3 _ o e) i3 ?_
  · show @Ne Nat _ _; omega
  · show @Ne Nat _ _; exact Nat.ne_of_lt hla
  · show @Ne Nat _ _; rw [s1]; exact Nat.ne_of_lt (Nat.lt_succ_of_lt hla)
  · show @Ne Nat _ _; exact Nat.ne_of_lt hlw
  · show @Ne Nat _ _; rw [s1]; exact Nat.ne_of_lt (Nat.lt_succ_of_lt hlw)
  · show @Ne Nat _ _; omega
  · show @Ne Nat _ _; omega
  · intro h' tk t' hk'
    refine h h' tk t' fun b o e => hk' b o ?_ ?_ (k3 _ _ (k2 _ _ (k1 _ _ e)))
    · exact Nat.ne_of_lt (Heap.lt_size e)
    · show @Ne Nat _ _; rw [s1]; exact Nat.ne_of_lt (Nat.lt_succ_of_lt (Heap.lt_size e))
end
end Mine
end
section
open PySem PySem.W PyProof.Rows PySem.Calls
namespace Mine
theorem reset21 {M : Model} {A : Around} {E : Value → Shared → Prop} {s : Shared} {env : Env} {Q : Flow → Shared → Prop} (h : Q .next s) : wpAny M A (execs [] env) Q E s := by
  w_top off
  walk1
  w_top off
  exact h
end Mine
end
/-! M2 -/
section
open PySem PySem.W PyProof.Rows PySem.Calls PyProof.V
set_option Elab.async false
set_option maxRecDepth 100000
set_option maxHeartbeats 4000000
set_option linter.unusedVariables false
namespace Mine
section
variable {prog : Program} {w : World} {A : Around} {R : Result → Shared → Prop} {E : Value → Shared → Prop} {s : Shared}
noncomputable abbrev pk (ps : List UInt64) : Obj := { cls := .type "tuple", data := .seq (ps.map fun x => rawInt x.toNat).toArray 0 }
noncomputable def fsP (b : Nat → Int) : Nat → List UInt64
  | 0 => []
  | i + 1 => let r := Float64.fsumAdd (fsP b i) (Float64.ofInt (b i)); if Float64.isZero r.2 then r.1 else r.1 ++ [r.2]
theorem unpack_pk (ps : List UInt64) : (ps.map fun x => rawInt x.toNat).toArray.toList.map (fun | .int i _ => i.toNat.toUInt64 | _ => 0) = ps := by
  rw [List.toList_toArray, List.map_map]
  conv => rhs; rw [← List.map_id ps]
  apply List.map_congr_left
  intro x _
  show ((x.toNat : Int)).toNat.toUInt64 = x
  simp
theorem unpack_ok {P : Addr} {ps : List UInt64} {Q : List UInt64 → Shared → Prop} (h : s.heap.get? P = some (pk ps)) (hq : Q ps s) :
    wpAny (model prog w) A (seqItems? (.ref P) >>= fun r => pure ((r.getD #[]).toList.map (fun | .int i _ => i.toNat.toUInt64 | _ => 0))) Q E s := by
  refine wpAny_bind (wpAny_seqItems h rfl (wpAny_pure ?_))
  simp only [Option.getD_some]
  rw [unpack_pk]
  exact hq
theorem fsum_loop {I lw S : Addr} {Y : Array Value} {n : Nat} {b : Nat → Int} (hh : A.in1.handled = none) (hY : Y.size = n)
    (hb : ∀ i, i < n → ∃ t, Y[i]? = some (.int (b i) t)) (hov : ∀ i, i < n → ¬ PySem.Flt.Over (b i)) (hfin : ∀ i, i < n → Float64.isFinite (Float64.fsumAdd (fsP b i) (Float64.ofInt (b i))).2 = true) (hsz : ∀ i, i ≤ n → (fsP b i).length ≤ sizeLine)
    (hIw : lw ≠ I) (hSI : S ≠ I) :
    ∀ (k i : Nat) (s : Shared) (P : Addr), P ≠ I → n - i = k → i ≤ n → s.heap.IsListIter I lw i → s.heap.IsList lw Y → s.heap.get? P = some (pk (fsP b i)) → s.heap.get? S = some (pk [Float64.zero false, Float64.zero false]) →
      (∀ h' tk t', (∀ b o, b ≠ I → s.heap.get? b = some o → h'.get? b = some o) → R (.ok (.ret (.float (Float64.fsumEnd (fsP b n)) t'))) { s with heap := h', toks := tk }) →
      codeAny (model prog w) A (.builtin "math.fsum.loop" ⟨[.ref I, .ref P, .ref S], []⟩) R s := by
  intro k
  induction k with
  | zero =>
    intro i s P hPI hk hi sI lW hP hS hR
    have hin : i = n := by omega
    subst hin
    refine codeAny_builtin entry_fsum_loop ?_
    rw [Around.under_plainId plain_fsum_loop _]
    refine wpAny_bind (unpack_ok hP ?_)
    refine wpAny_bind (unpack_ok hS ?_)
    refine wpAny_bind (wpAny_pyNext_list_end hh sI lW (by simp [hY]) fun h1 e1 => ?_)
    show wpAny _ A.in1 (if (!Float64.isZero (Float64.zero false)) = true then _ else Builtin.Float.retFloat (Float64.fsumEnd (fsP b i))) _ _ _
    rw [if_neg (by decide +kernel)]
    refine wpAny_bind (wpAny_mkFloat ?_)
    exact wpAny_pure (hR h1 _ _ fun b o n1 e => e1 b o n1 e)
  | succ k ih =>
    intro i s P hPI hk hi sI lW hP hS hR
    have hlt : i < n := by omega
    obtain ⟨t2, e2⟩ := hb i hlt
    refine codeAny_builtin entry_fsum_loop ?_
    rw [Around.under_plainId plain_fsum_loop _]
    refine wpAny_bind (unpack_ok hP ?_)
    refine wpAny_bind (unpack_ok hS ?_)
    refine wpAny_bind (wpAny_pyNext_list_item sI lW (x := .int (b i) t2) (by simpa using e2) fun h1 it1 k1 => ?_)
    dsimp only
    refine wpAny_bind (wpAny_holding (PySem.Flt.realArg_int hh (fun c => absurd c (hov i hlt)) fun _ => ?_))
    dsimp only
    rw [if_pos (hfin i hlt)]
    refine wpAny_bind (wpAny_newTuple (items := (fsP b (i + 1)).map fun x => rawInt x.toNat) ?_ ?_)
    · refine wpAny_pure ⟨plainId_quiet plain_fsum_loop _, ?_⟩
      refine ih (i + 1) _ _ ?_ (by omega) (by omega) (it1.at fun o e => Heap.get?_push_of_some _ e) ((lW.at fun o e => k1.extBut lw o hIw e).at fun o e => Heap.get?_push_of_some _ e) (Heap.get?_push_size _ rfl) (Heap.get?_push_of_some _ (k1.extBut S _ hSI hS)) ?_
      · obtain ⟨_, e, _⟩ := it1
        exact (Nat.ne_of_lt (Heap.lt_size e)).symm
      · intro h' tk t' hk'
        exact hR h' tk t' fun b o n1 e => hk' b o n1 (Heap.get?_push_of_some _ (k1.extBut b o n1 e))
    · rw [List.length_map]
      exact hsz (i + 1) (by omega)
theorem call_fsum {lw : Addr} {Y : Array Value} {n : Nat} {b : Nat → Int} {Q : Value → Shared → Prop} (hh : A.in1.handled = none) (hY : Y.size = n) (lW : s.heap.IsList lw Y)
    (hb : ∀ i, i < n → ∃ t, Y[i]? = some (.int (b i) t)) (hov : ∀ i, i < n → ¬ PySem.Flt.Over (b i)) (hfin : ∀ i, i < n → Float64.isFinite (Float64.fsumAdd (fsP b i) (Float64.ofInt (b i))).2 = true) (hsz : ∀ i, i ≤ n → (fsP b i).length ≤ sizeLine)
    (h : ∀ h' tk t', (∀ b o, s.heap.get? b = some o → h'.get? b = some o) → Q (.float (Float64.fsumEnd (fsP b n)) t') { s with heap := h', toks := tk }) :
    wpAny (model prog w) A (call (.builtin "math.fsum") [.ref lw]) Q E s := by
  refine call_function_tree kind_fsum plain_fsum entry_fsum (args_fsum _) ?_
  unfold Builtin.«math.fsum»
  refine wpAny_bind (wpAny_of_eq (show Builtin.Math.mathOne "fsum" ⟨[.ref lw], []⟩ = pure (.ref lw) from rfl) ?_)
  have hlw : lw < s.heap.objs.size := by obtain ⟨_, e, _⟩ := lW; exact Heap.lt_size e
  refine wpAny_bind (wpAny_pyIter_list lW ?_)
  refine wpAny_bind (wpAny_newTuple (items := ([] : List UInt64).map fun x => rawInt x.toNat) ?_ (Nat.zero_le _))
  refine wpAny_bind (wpAny_newTuple (items := [Float64.zero false, Float64.zero false].map fun x => rawInt x.toNat) ?_ (by rw [sizeLine_eq]; decide))
  refine wpAny_pure ⟨plainId_quiet plain_fsum_loop _, ?_⟩
  dsimp only
  generalize hH1 : s.heap.push { cls := .type "list_iterator", data := .fields #[.ref lw, .int 0 0] } = H1
  generalize hH2 : H1.push { cls := .type "tuple", data := .seq (([] : List UInt64).map fun x => rawInt x.toNat).toArray } = H2
  generalize hH3 : H2.push { cls := .type "tuple", data := .seq ([Float64.zero false, Float64.zero false].map fun x => rawInt x.toNat).toArray } = H3
  have s1 : H1.objs.size = s.heap.objs.size + 1 := by rw [← hH1, Heap.size_push]
  have s2 : H2.objs.size = s.heap.objs.size + 2 := by rw [← hH2, Heap.size_push, s1]
  have k1 : ∀ b o, s.heap.get? b = some o → H1.get? b = some o := fun b o e => hH1 ▸ Heap.get?_push_of_some _ e
  have k2 : ∀ b o, H1.get? b = some o → H2.get? b = some o := fun b o e => hH2 ▸ Heap.get?_push_of_some _ e
  have k3 : ∀ b o, H2.get? b = some o → H3.get? b = some o := fun b o e => hH3 ▸ Heap.get?_push_of_some _ e
  have i1 : H1.IsListIter s.heap.objs.size lw 0 := hH1 ▸ ⟨_, Heap.get?_push_size _ rfl, rfl, rfl⟩
  have i2 : H2.get? H1.objs.size = some (pk []) := hH2 ▸ Heap.get?_push_size _ rfl
  have i3 : H3.get? H2.objs.size = some (pk [Float64.zero false, Float64.zero false]) := hH3 ▸ Heap.get?_push_size _ rfl
  refine fsum_loop (I := s.heap.objs.size) (lw := lw) (S := H2.objs.size) hh hY hb hov hfin hsz ?_ ?_ n 0 { s with heap := H3, toks := _ } H1.objs.size ?_ (by omega) (by omega) ((i1.at fun o e => k2 _ o e).at fun o e => k3 _ o e)
    (((lW.at fun o e => k1 _ o e).at fun o e => k2 _ o e).at fun o e => k3 _ o e) (k3 _ _ i2) i3 ?_
  · show @Ne Nat _ _; exact Nat.ne_of_lt hlw
  · show @Ne Nat _ _; omega
  · show @Ne Nat _ _; omega
  · intro h' tk t' hk'
    refine h h' tk t' fun b o e => hk' b o ?_ (k3 _ _ (k2 _ _ (k1 _ _ e)))
    exact Nat.ne_of_lt (Heap.lt_size e)
end

/-- the weights of the sets -/
noncomputable def wsL : List Int := [6, 2, 2, 2, 2, 2, 2, 6]
noncomputable def wsF (i : Nat) : Int := wsL.getD i 0
theorem ws_fin : ∀ i, i < 8 → Float64.isFinite (Float64.fsumAdd (fsP wsF i) (Float64.ofInt (wsF i))).2 = true := by decide +kernel
theorem ws_len : ∀ i, i ≤ 8 → (fsP wsF i).length ≤ 8 := by
  have h : ∀ i, i < 9 → (fsP wsF i).length ≤ 8 := by decide +kernel
  exact fun i hi => h i (by omega)
theorem ws_end : Float64.fsumEnd (fsP wsF 8) = Float64.ofInt 24 := by decide +kernel
theorem ws_small : ∀ i, i < 8 → 0 ≤ wsF i ∧ wsF i ≤ 6 := by decide +kernel
/-- a number that a double holds as it is -/
theorem right_exact {r : UInt64} {neg : Bool} {W D t₀ : Nat} (h : Float64.Right r neg W D) (hD : 0 < D) (hW : W = D * Float64.V t₀) (hov : 2 * W < D * ((2 ^ 54 - 1) * 2 ^ 2045)) :
    ∃ m e, Float64.decode r = .fin neg m e ∧ Float64.val r = Float64.sgn neg (Float64.V t₀) := by
  obtain ⟨t, rfl, hle, hinf, hnear⟩ := h
  have hlt : t < Float64.infMag := by
    rcases Nat.lt_or_eq_of_le hle with h | h
    · exact h
    · exact absurd (hinf.mp h) (Nat.not_le.mpr hov)
  have h1 := (hnear hlt t₀).1
  have h2 : Float64.dist W (D * Float64.V t₀) = 0 := by unfold Float64.dist; omega
  rw [h2] at h1
  have h3 : W = D * Float64.V t := by unfold Float64.dist at h1; omega
  have h4 : Float64.V t = Float64.V t₀ := Nat.eq_of_mul_eq_mul_left hD (h3.symm.trans hW)
  obtain ⟨m, e, hd, hv⟩ := Float64.decode_pack neg hlt
  exact ⟨m, e, hd, by rw [Float64.val_pack neg hlt, h4]⟩
theorem V_of (n : Nat) (hn : n < 2 ^ 53) : ∃ t, Float64.V t = n * 2 ^ 1074 := by
  by_cases h0 : n = 0
  · exact ⟨0, by rw [Float64.V_zero, h0, Nat.zero_mul]⟩
  · have hl : n.log2 ≤ 52 := by
      have := (Nat.log2_lt h0).mpr hn
      omega
    have hlo : 2 ^ n.log2 ≤ n := Nat.log2_self_le h0
    have hhi : n < 2 ^ (n.log2 + 1) := Nat.lt_log2_self
    have e1 : n * 2 ^ (52 - n.log2) < 2 ^ 53 := by
      calc n * 2 ^ (52 - n.log2) < 2 ^ (n.log2 + 1) * 2 ^ (52 - n.log2) := Nat.mul_lt_mul_of_pos_right hhi (Nat.two_pow_pos _)
        _ = 2 ^ 53 := by rw [← Nat.pow_add]; congr 1; omega
    have e2 : 2 ^ 52 ≤ n * 2 ^ (52 - n.log2) := by
      calc 2 ^ 52 = 2 ^ n.log2 * 2 ^ (52 - n.log2) := by rw [← Nat.pow_add]; congr 1; omega
        _ ≤ n * 2 ^ (52 - n.log2) := Nat.mul_le_mul_right _ hlo
    refine ⟨(1022 + n.log2) * 2 ^ 52 + n * 2 ^ (52 - n.log2), ?_⟩
    rw [Float64.V_at (Nat.le_of_lt e1) (.inl e2), Nat.mul_assoc, ← Nat.pow_add]
    congr 2
    omega
theorem pow_big : 2 * (2 ^ 53 * 2 ^ 1074) < (2 ^ 54 - 1) * 2 ^ 2045 := by
  rw [show (2045 : Nat) = 1074 + 971 from rfl, Nat.pow_add 2 1074 971]
  generalize hK : 2 ^ 1074 = K
  have hK0 : 0 < K := by rw [← hK]; exact Nat.two_pow_pos _
  have : 2 * 2 ^ 53 < (2 ^ 54 - 1) * 2 ^ 971 := by decide +kernel
  calc 2 * (2 ^ 53 * K) = 2 * 2 ^ 53 * K := by rw [Nat.mul_assoc]
    _ < (2 ^ 54 - 1) * 2 ^ 971 * K := Nat.mul_lt_mul_of_pos_right this hK0
    _ = (2 ^ 54 - 1) * (K * 2 ^ 971) := by rw [Nat.mul_assoc, Nat.mul_comm (2 ^ 971)]
theorem ofInt_exact {i : Int} (h : i.natAbs < 2 ^ 53) : ∃ m e, Float64.decode (Float64.ofInt i) = .fin (decide (i < 0)) m e ∧ (Float64.val (Float64.ofInt i)).natAbs = i.natAbs * 2 ^ 1074 ∧ Float64.val (Float64.ofInt i) = i * 2 ^ 1074 := by
  obtain ⟨t, ht⟩ := V_of i.natAbs h
  have hov : 2 * (i.natAbs * 2 ^ 1074) < 1 * ((2 ^ 54 - 1) * 2 ^ 2045) := by
    rw [Nat.one_mul]
    refine Nat.lt_of_le_of_lt ?_ pow_big
    exact Nat.mul_le_mul_left 2 (Nat.mul_le_mul_right _ (Nat.le_of_lt h))
  obtain ⟨m, e, hd, hv⟩ := right_exact (Float64.ofInt_right i) (by omega) (by rw [ht, Nat.one_mul]) hov
  rw [ht] at hv
  refine ⟨m, e, hd, by rw [hv, Float64.sgn_natAbs], ?_⟩
  rw [hv]
  unfold Float64.sgn
  generalize hK : (2 : Nat) ^ 1074 = K
  have hK' : (2 : Int) ^ 1074 = (K : Int) := by rw [← hK]; norm_cast
  rw [hK']
  by_cases hneg : i < 0
  · rw [if_pos (decide_eq_true hneg), Int.natCast_mul, ← Int.neg_mul]
    congr 1
    omega
  · rw [if_neg (by simpa using hneg), Int.natCast_mul]
    congr 1
    omega
/-- a whole number's share, as fmean makes it, is the whole number -/
theorem mean_exact {f : Int} (h : f.natAbs < 2 ^ 45) : Float64.cmpInt (Float64.div (Float64.ofInt (24 * f)) (Float64.ofInt 24)) f = some .eq := by
  obtain ⟨m, e, hd, hn, hv⟩ := ofInt_exact (i := 24 * f) (by omega)
  obtain ⟨m2, e2, hd2, hn2, hv2⟩ := ofInt_exact (i := 24) (by decide)
  have hm2 : m2 ≠ 0 := by
    rintro rfl
    have := Float64.val_natAbs hd2
    rw [hn2, Nat.zero_mul] at this
    have h3 : 0 < Int.natAbs 24 * 2 ^ 1074 := Nat.mul_pos (by decide) (Nat.two_pow_pos _)
    omega
  obtain ⟨t, ht⟩ := V_of f.natAbs (by omega)
  have hR := Float64.div_right hd hd2 hm2
  rw [hn, hn2] at hR
  have e24 : (24 * f).natAbs = 24 * f.natAbs := by omega
  rw [e24] at hR
  have hW : 24 * f.natAbs * 2 ^ 1074 * 2 ^ 1074 = Int.natAbs 24 * 2 ^ 1074 * Float64.V t := by
    rw [ht]
    show 24 * f.natAbs * 2 ^ 1074 * 2 ^ 1074 = 24 * 2 ^ 1074 * (f.natAbs * 2 ^ 1074)
    generalize (2 : Nat) ^ 1074 = K
    ac_rfl
  have hov : 2 * (24 * f.natAbs * 2 ^ 1074 * 2 ^ 1074) < Int.natAbs 24 * 2 ^ 1074 * ((2 ^ 54 - 1) * 2 ^ 2045) := by
    have h1 := pow_big
    have h2 : 24 * f.natAbs * 2 ^ 1074 * 2 ^ 1074 ≤ 24 * 2 ^ 1074 * (2 ^ 53 * 2 ^ 1074) := by
      have : f.natAbs ≤ 2 ^ 53 := by omega
      generalize (2 : Nat) ^ 1074 = K
      calc 24 * f.natAbs * K * K ≤ 24 * 2 ^ 53 * K * K := Nat.mul_le_mul_right _ (Nat.mul_le_mul_right _ (Nat.mul_le_mul_left _ this))
        _ = 24 * K * (2 ^ 53 * K) := by ac_rfl
    show _ < 24 * 2 ^ 1074 * _
    have hK0 : 0 < 24 * 2 ^ 1074 := Nat.mul_pos (by decide) (Nat.two_pow_pos _)
    calc 2 * (24 * f.natAbs * 2 ^ 1074 * 2 ^ 1074) ≤ 2 * (24 * 2 ^ 1074 * (2 ^ 53 * 2 ^ 1074)) := Nat.mul_le_mul_left _ h2
      _ = 24 * 2 ^ 1074 * (2 * (2 ^ 53 * 2 ^ 1074)) := by rw [← Nat.mul_assoc 2, Nat.mul_comm 2, Nat.mul_assoc]
      _ < _ := Nat.mul_lt_mul_of_pos_left h1 hK0
  obtain ⟨m3, e3, hd3, hv3⟩ := right_exact hR (Nat.mul_pos (by decide) (Nat.two_pow_pos _)) hW hov
  rw [Float64.cmpInt_right hd3, hv3, ht]
  have : Float64.sgn (decide (24 * f < 0) != decide ((24 : Int) < 0)) (f.natAbs * 2 ^ 1074) = f * 2 ^ 1074 := by
    unfold Float64.sgn
    generalize hK : (2 : Nat) ^ 1074 = K
    have hK' : (2 : Int) ^ 1074 = (K : Int) := by rw [← hK]; norm_cast
    rw [hK']
    by_cases hneg : 24 * f < 0
    · rw [if_pos (by simp only [hneg]; decide), Int.natCast_mul, ← Int.neg_mul]
      congr 1
      omega
    · rw [if_neg (by simp only [hneg]; decide), Int.natCast_mul]
      congr 1
      omega
  rw [this]
  simp
end Mine
end
section
open PySem PySem.W PyProof.Rows PySem.Calls
set_option maxRecDepth 100000
set_option maxHeartbeats 8000000
set_option linter.unusedVariables false
namespace Mine
/-! gT -/
section
local macro_rules | `(tactic| k_all) => `(tactic| assumption)
local macro_rules | `(tactic| k_mem) => `(tactic| assumption)
local macro_rules | `(tactic| walk_at "CompSrc") => `(tactic| (k_here; k_dflt (refine LCg.CompSrc.range (by rfl) (by k_asm) (by k_asm) (by assumption) (by first | decide | rfl) (by first | rfl | decide) (by first | size_fits | exact Nat.le_of_ble_eq_true rfl) ?_; intro g'; lcg_lit)))
local macro_rules | `(tactic| walk_at "CompRest") => `(tactic| (with_unfolding_all first
  | (refine LCg.CompRest.succ ?_; intro v' I' oI' C' oC' D' m' h' tk' E' hv' hC' hx' F' N' off' ne'; (first | lcg_open hv' | (obtain ⟨t9', hv9'⟩ := hv'; subst hv9')))
  | refine LCg.CompRest.zero ?_))
local macro_rules | `(tactic| walk_at "CompEnd") => `(tactic| first
  | (refine' compEnd1 ?f ?n ?e ?o ?s ?_; (case f => k_asm); (case n => k_asm); (case o => assumption); (case s => exact True.intro); (case e => (refine ⟨?_, ?_, ?_⟩ <;> k_ne)))
  | (refine' compEnd0 ?f ?n ?o ?s ?_; (case f => k_asm); (case n => k_asm); (case o => assumption); (case s => exact True.intro)))
local macro_rules | `(tactic| walk_at "getMethod") => `(tactic| (k_here; first | (refine pv_count (by assumption) (by with_unfolding_all rfl) ?_) | (refine pv_rindex (by assumption) (by assumption) (by with_unfolding_all rfl) ?_)))
local macro_rules | `(tactic| walk_at "FinA") => `(tactic| ((unfold LCg.FinA); intro D' h' tk' F' N' o1'; (try simp only [List.nil_append, List.cons_append] at N'); (try dsimp only)))
local macro_rules | `(tactic| walk_at "SepIs") => `(tactic| refine sepIs ?_)
local macro_rules | `(tactic| ktr_unf) => `(tactic| repeat' (first | (k_unfold; (try dsimp only)) | ((fail_if_success (with_reducible show wpAny _ _ (pyIter _) _ _ _)); (first | walk1 | (dsimp only; walk1) | (leave1; (try dsimp only))))))
local macro_rules | `(tactic| walk_at "call ref") => `(tactic| (k_here; (with_reducible show wpAny _ _ (call (Value.ref 84) _) _ _ _); k_dflt (
  refine' sep_ok _ _ _ _ _ _ _ _ _ _ _ _ _ _ _ _ _ _ _ _ ?xB ?xF ?xX ?xN ?xT ?xk ?xd ?xu ?_; (case xN => k_asm); (case xF => k_asm); (case xB => k_asm); (case xX => k_asm); (case xT => k_asm); (case xk => first | exact rfl | assumption); (case xd => ktr_room); (case xu => ktr_units); intro t9 h9 tk9 F9 N9; (try dsimp only); (try k_fold))))
local macro_rules | `(tactic| walk_at "subscriptTail Name Name ref int") => `(tactic| (k_here; k_dflt (refine' sub_list ?n ?m ?a ?b ?c ?_ ?hs; (case n => k_asm); (case m => k_mem); (case a => first | omega | decide); (case b => first | omega | decide); (case c => rfl); (case hs => with_unfolding_all rfl))))
local macro_rules | `(tactic| walk_at "subscriptTail Name Constant ref int") => `(tactic| (k_here; k_dflt (refine' sub_list ?n ?m ?a ?b ?c ?_ ?hs; (case n => k_asm); (case m => k_mem); (case a => first | omega | decide); (case b => first | omega | decide); (case c => rfl); (case hs => with_unfolding_all rfl))))
/-! gTa -/
section
local macro_rules | `(tactic| k_mem) => `(tactic| first | assumption | exact .tail _ (by assumption) | exact .tail _ (.tail _ (by assumption)) | exact .tail _ (.tail _ (.tail _ (by assumption))) | exact .tail _ (.tail _ (.tail _ (.tail _ (by assumption)))) | exact .head _ | exact .tail _ (.head _) | exact .tail _ (.tail _ (.head _)) | exact .tail _ (.tail _ (.tail _ (.head _))))
local macro_rules | `(tactic| walk_at "subscriptTail Name Constant ref int") => `(tactic| (k_here; k_dflt (first
  | (refine' sub_list ?n ?m ?a ?b ?c ?_ ?hs; (case n => k_asm); (case m => k_mem); (case a => first | omega | decide); (case b => first | omega | decide); (case c => rfl); (case hs => with_unfolding_all rfl))
  | (refine' sub_tup3 ?n ?m ?a ?b ?c ?_ ?hs; (case n => k_asm); (case m => k_mem); (case a => first | omega | decide); (case b => first | omega | decide); (case c => rfl); (case hs => with_unfolding_all rfl)))))
theorem reset22 {M : Model} {A : Around} {E : Value → Shared → Prop} {s : Shared} {env : Env} {Q : Flow → Shared → Prop} (h : Q .next s) : wpAny M A (execs [] env) Q E s := by
  w_top off
  walk1
  w_top off
  exact h
/-! T1 -/
section
open PySem PySem.W PyProof.Rows PySem.Calls
set_option Elab.async false
set_option maxRecDepth 100000
set_option maxHeartbeats 8000000
set_option linter.unusedVariables false
theorem fill7 : Challenge.rw_op0038_01 = Challenge.rw_op0038_01 ∧ hd.heap_39 = hd.heap_39 := by
  k_fill
  exact ⟨rfl, rfl⟩
noncomputable def nth : Nat → List Stmt → Stmt
  | 0, x :: _ => x
  | n + 1, _ :: r => nth n r
  | _, [] => .Pass ⟨0, 0, 0, 0⟩
noncomputable def forB : Stmt → List Stmt
  | .For _ _ b _ _ => b
  | _ => []
noncomputable def defB : Stmt → List Stmt
  | .FunctionDef _ _ b _ _ _ _ _ _ _ => b
  | _ => []
noncomputable def defS : Stmt → Scope
  | .FunctionDef _ _ _ _ _ _ s _ _ _ => s
  | _ => default
theorem of_for {st : Stmt} {t i : Expr} {b o : List Stmt} {p : Pos} (P : List Stmt → Prop) (e : st = .For t i b o p) (h : P b) : P (forB st) := by subst e; exact h
theorem of_defS {st : Stmt} {n : Str} {a : Arguments} {b : List Stmt} {d : List Expr} {r : Option Expr} {tp : List TypeParam} {sc : Scope} {ts : Option Scope} {bi : Str} {p : Pos} (P : Scope → Prop) (e : st = .FunctionDef n a b d r tp sc ts bi p) (h : P sc) : P (defS st) := by subst e; exact h
noncomputable def feesF : Stmt := nth 13 Prg.main.body
noncomputable def turnB : List Stmt := forB (nth 3 (defB feesF))
noncomputable def stepB : List Stmt := forB (nth 3 turnB)
noncomputable def goneB : List Stmt := forB (nth 4 turnB)
noncomputable def feesEnv (L : Addr) : Env := envOfC (Str.ofString "_law_fees") (defS feesF) L 110 (.ref 109)

theorem vals_push (zs : List Item) (x : Item) : (vals zs).push (.ref x.a) = vals (zs ++ [x]) := by simp [vals]
theorem vals_fits {zs : List Item} (hz : zs.length ≤ 100) : (vals zs).size ≤ sizeLine := by
  rw [sizeLine_eq]; simp only [vals, List.size_toArray, List.length_map]; omega
theorem all_lt {r : Addr} : ∀ {tl : List (Addr × Obj)}, AllLt r tl → ∀ q ∈ tl, q.1 < r
  | [], _, _, h => nomatch h
  | _ :: _, x, q, h => by
    rcases List.mem_cons.mp h with rfl | h
    · exact x.1
    · exact all_lt x.2 q h
theorem step_ok {w : World} {b : Bool} {lh lz L0 L' : Addr} {e ez : Nat} {tl : List (Addr × Obj)} {xs zs : List Item} {f : Row} {hgt : Int} {th tf : Tok} {u : Str → Option Value}
  {mean : ExcName → Option Value} {mg mb : Str → Option Value} {dp un : Nat} {gd : Option (List Code)} {cn : Str} {cs : Scope} {a : Addr} {ccd : Value} {cl : List (Str × Addr)} {outer : List Env} {base g : Heap} {s : Shared} {Q : Flow → Shared → Prop} {E : Value → Shared → Prop}
  (hf : f ∈ allRows) (hh : hgt = 1 - (f.length : Int)) 
  (B : Below (ktrTop dp un gd cn cs L0 a ccd cl outer) base (envX cn cs L0 a ccd cl :: outer) g) (X : (hd.heap_39 w.params).In g) (T : Top topProg looseT mean mg mb g)
  (hk : cs.kind = .function) (hdp : dp + 20 < recursionLimit) (hun : un + 200 < cLine)
  (F : Fr g L' s.heap (kstB u [(Str.ofString "heap", .ref lh), (Str.ofString "height", .int hgt th), (Str.ofString "folder", PV b f tf), (Str.ofString "here", .ref lz)]))
  (N : News g L' s.heap ((lh, listOf (vals xs) e) :: (lz, listOf (vals zs) ez) :: tl))
  (hx : ∀ x ∈ xs, (x.a, x.o) ∈ tl) (hg : ∀ x ∈ xs, Good b x) (h4 : xs.length ≤ 4) (hoff : ∀ q ∈ tl, q.1 ≠ lh ∧ q.1 ≠ lz) (hne : lh ≠ lz) (hz : zs.length ≤ 100)
  (post : ∀ h' tk' m' xs' zs' e' ez' tl', (∀ z, z ≠ Str.ofString "above" → m' z = kstB u [(Str.ofString "heap", .ref lh), (Str.ofString "height", .int hgt th), (Str.ofString "folder", PV b f tf), (Str.ofString "here", .ref lz)] z) → Fr g L' h' m' →
     News g L' h' ((lh, listOf (vals xs') e') :: (lz, listOf (vals zs') ez') :: tl') → (∀ q ∈ tl, q ∈ tl') → (∀ x ∈ xs', (x.a, x.o) ∈ tl') → (∀ x ∈ xs', Good b x) → xs'.length ≤ 4 → (∀ q ∈ tl', q.1 ≠ lh ∧ q.1 ≠ lz) → (∀ z ∈ zs', z ∈ zs ∨ z ∈ xs) → zs'.length ≤ zs.length + 1 →
     (xs'.map key, zs'.map key) = stepK hgt f (xs.map key, zs.map key) → Q .next { s with heap := h', toks := tk' }) :
    wpAny (model Prg w) ((ktrTop dp un gd cn cs L0 a ccd cl outer).deeper (feesEnv L')) (execs stepB (feesEnv L')) Q E s := by
  refine of_for (st := nth 3 turnB) (fun bd => wpAny (model Prg w) ((ktrTop dp un gd cn cs L0 a ccd cl outer).deeper (feesEnv L')) (execs bd (feesEnv L')) Q E s) rfl ?_
  try dsimp only
  unfold feesEnv
  refine of_defS (st := feesF) (fun sc => wpAny (model Prg w) ((ktrTop dp un gd cn cs L0 a ccd cl outer).deeper (envOfC (Str.ofString "_law_fees") sc L' 110 (.ref 109))) (execs _ (envOfC (Str.ofString "_law_fees") sc L' 110 (.ref 109))) Q E s) rfl ?_
  try dsimp only
  dsimp only [kstB] at F
  have hu1 : (ktrTop dp un gd cn cs L0 a ccd cl outer).units < cLine := by ktr_units
  ktr_unf
  rename News _ _ _ _ => N1
  rename Fr _ _ _ _ => F1
  rcases xs with _ | ⟨x, r⟩
  · refine list_ne (r := true) (K := fun _ => True) (N1.get (.tail _ (.head _))) (N1.get (.head _)) .nil (fun _ _ => trivial) ?_ rfl ?_
    · ktr_units
    · try dsimp only
      ktr_unf
      refine post _ _ _ [] zs e ez tl ?_ F1 ?_ (fun q hq => hq) (fun x hx => nomatch hx) (fun x hx => nomatch hx) (Nat.zero_le _) hoff (fun z hz => .inl hz) (Nat.le_succ _) rfl
      · intro z hz
        rfl
      · intro q hq
        exact N1 q (.tail _ hq)
  · obtain ⟨kx, t1, t2, t3, n, ex, hkp, hkh, hk0, hk4⟩ := hg x (.head _)
    have hxm : (x.a, hobj b kx t1 t2 t3 n) ∈ tl := ex ▸ hx x (.head _)
    have hkey : key x = kx := by unfold key; rw [ex]; exact keyOf_hobj hkp
    refine list_ne_len (N1.get (.tail _ (.head _))) (N1.get (.head _)) ?_ ?_ ?_
    · simp [vals]
    · ktr_units
    · try dsimp only
      ktr_unf
      refine sub_tup3 (n := n) N1 (.tail _ (.tail _ (.tail _ hxm))) (by omega) (by omega) rfl ?_ (by with_unfolding_all rfl)
      try dsimp only
      ktr_unf
      refine pv_eq hkp hf ?_
      by_cases hpf : kx.p = f
      · rw [decide_eq_true hpf]
        by_cases hlt : hgt < 0
        · have hf1 : 1 < f.length := by omega
          ktr_unf
          rename Fr _ _ _ _ => F2
          rename News _ _ _ _ => N2
          refine' pv_cut hf hf1 rfl F2 N2 (fun v => ?c1) (fun v r => ?c2) ?_
          case c1 => with_unfolding_all rfl
          case c2 => with_unfolding_all rfl
          intro h3 t3' k3 F3 N3
          try dsimp only
          ktr_unf
          rename News _ _ _ _ => N4
          refine sub_tup3 (l := x.a) (n := n) N4 (.tail _ (.tail _ (.tail _ hxm))) (by omega) (by omega) rfl ?_ (by with_unfolding_all rfl)
          try dsimp only
          ktr_unf
          rename News _ _ _ _ => N5
          rename Fr _ _ _ _ => F5
          rename_i D5 h5 l5
          obtain ⟨it, hit⟩ : ∃ it : Item, it = ⟨D5, hobj b ⟨hgt + 1, f.dropLast, kx.w⟩ (tk + 1) t3' t3 0⟩ := ⟨_, rfl⟩
          have hdl : f.dropLast ∈ allRows := drop_rows f hf hf1
          have hgi : Good b it := by
            rw [hit]
            exact ⟨⟨hgt + 1, f.dropLast, kx.w⟩, _, _, _, _, rfl, hdl, by simp only [List.length_dropLast]; omega, hk0, hk4⟩
          have hki : key it = ⟨hgt + 1, f.dropLast, kx.w⟩ := by
            rw [hit]
            exact keyOf_hobj hdl
          have N6 : News g L' h5 ((lh, listOf (vals (x :: r)) e) :: (lz, listOf (vals zs) ez) :: (it.a, it.o) :: tl) := by
            rw [hit]
            intro q hq
            rcases List.mem_cons.mp hq with rfl | hq
            · exact N5 _ (.tail _ (.tail _ (.head _)))
            · rcases List.mem_cons.mp hq with rfl | hq
              · exact N5 _ (.tail _ (.tail _ (.tail _ (.head _))))
              · rcases List.mem_cons.mp hq with rfl | hq
                · exact N5 _ (.head _)
                · exact N5 _ (.tail _ (.tail _ (.tail _ (.tail _ hq))))
          have hia : it.a = D5 := by rw [hit]
          have hoff3 : ∀ q ∈ (it.a, it.o) :: tl, q.1 ≠ lh ∧ q.1 ≠ lz := by
            intro q hq
            rcases List.mem_cons.mp hq with rfl | hq
            · exact ⟨by show it.a ≠ lh; rw [hia]; exact (Nat.ne_of_lt l5.2.1).symm, by show it.a ≠ lz; rw [hia]; exact (Nat.ne_of_lt l5.2.2.1).symm⟩
            · exact hoff q hq
          have hoff2 : ∀ q ∈ (lz, listOf (vals zs) ez) :: (it.a, it.o) :: tl, q.1 ≠ lh := by
            intro q hq
            rcases List.mem_cons.mp hq with rfl | hq
            · exact fun h => hne h.symm
            · exact (hoff3 q hq).1
          have hgr : ∀ y ∈ it :: r, Good b y := by
            intro y hy
            rcases List.mem_cons.mp hy with rfl | hy
            · exact hgi
            · exact hg y (.tail _ hy)
          have hmr : ∀ y ∈ it :: x :: r, (y.a, y.o) ∈ (lz, listOf (vals zs) ez) :: (it.a, it.o) :: tl := by
            intro y hy
            rcases List.mem_cons.mp hy with rfl | hy
            · exact .tail _ (.head _)
            · exact .tail _ (.tail _ (hx y hy))
          rw [← hia]
          refine' hr_ok (tl := (lz, listOf (vals zs) ez) :: (it.a, it.o) :: tl) (lt := ltI) (r := r) (x := x) (it := it) ?q1 hmr (fun y hy z hz => cmp_good (hgr y hy) (hgr z hz)) hoff2 _ _ _ _ _ _ _ _ _ _ _ _ _ _ _ _ _ _ _ _ ?xB ?xF ?xX N6 ?xT ?xk ?xd ?xu ?_
          case q1 => simpa using h4
          case xF => k_asm
          case xB => k_asm
          case xX => k_asm
          case xT => k_asm
          case xk => exact rfl
          case xd => ktr_room
          case xu => ktr_units
          intro h7 tk7 F7 N7
          try dsimp only
          ktr_unf
          refine append_second F7 N7 hne (fun p hp => (hoff3 p hp).2) (fun h8 F8 N8 => ?_) (vals_fits hz)
          have N9 : News g L' h8 ((lh, listOf (vals (suL ltI (it :: r))) e) :: (lz, listOf (vals (zs ++ [x])) (ez + 1)) :: (it.a, it.o) :: tl) := by rw [← vals_push]; exact N8
          try dsimp only
          ktr_unf
          refine post _ _ _ (suL ltI (it :: r)) (zs ++ [x]) _ _ ((it.a, it.o) :: tl) ?_ F8 N9 (fun q hq => .tail _ hq) ?_ (fun y hy => hgr y (su_mem hy)) ?_ hoff3 ?_ ?_ ?_
          · intro z hz
            exact if_neg hz
          · intro y hy
            rcases List.mem_cons.mp (su_mem hy) with rfl | hy
            · exact .head _
            · exact .tail _ (hx y (.tail _ hy))
          · rw [su_len]; exact h4
          · intro z hz
            rcases List.mem_append.mp hz with h | h
            · exact .inl h
            · rw [List.mem_singleton.mp h]; exact .inr (.head _)
          · simp
          · rw [key_su]
            simp only [stepK, List.map_cons, List.map_append, List.map_nil, hkey, hki, hpf, if_true, hlt]
        · have N2 : News g L' _ ((lh, listOf (vals (x :: r)) e) :: (lz, listOf (vals zs) ez) :: tl) := fun q hq => N1 q (.tail _ hq)
          ktr_unf
          have hoff2 : ∀ q ∈ (lz, listOf (vals zs) ez) :: tl, q.1 ≠ lh := by
            intro q hq
            rcases List.mem_cons.mp hq with rfl | hq
            · exact fun h => hne h.symm
            · exact (hoff q hq).1
          refine' hp_ok (tl := (lz, listOf (vals zs) ez) :: tl) (lt := ltI) (r := r) (x := x) ?q1 (fun y hy => .tail _ (hx y hy)) (fun y hy z hz => cmp_good (hg y (.tail _ hy)) (hg z (.tail _ hz))) hoff2 _ _ _ _ _ _ _ _ _ _ _ _ _ _ _ _ _ _ _ _ ?xB ?xF ?xX N2 ?xT ?xk ?xd ?xu ?_
          case q1 => simpa using h4
          case xF => k_asm
          case xB => k_asm
          case xX => k_asm
          case xT => k_asm
          case xk => exact rfl
          case xd => ktr_room
          case xu => ktr_units
          intro h3 tk3 F3 N3
          try dsimp only
          ktr_unf
          refine append_second F3 N3 hne (fun p hp => (hoff p hp).2) (fun h4' F4 N4 => ?_) (vals_fits hz)
          have N5 : News g L' h4' ((lh, listOf (vals (popL ltI (x :: r))) (e + 1)) :: (lz, listOf (vals (zs ++ [x])) (ez + 1)) :: tl) := by rw [← vals_push]; exact N4
          try dsimp only
          ktr_unf
          refine post _ _ _ (popL ltI (x :: r)) (zs ++ [x]) _ _ tl ?_ F4 N5 (fun q hq => hq) (fun y hy => hx y (.tail _ (pop_mem hy))) (fun y hy => hg y (.tail _ (pop_mem hy))) ?_ hoff ?_ ?_ ?_
          · intro z hz
            rfl
          · rw [pop_len]
            · have := h4; simp at this; omega
            · have := h4; simp at this; omega
          · intro z hz
            rcases List.mem_append.mp hz with h | h
            · exact .inl h
            · rw [List.mem_singleton.mp h]; exact .inr (.head _)
          · simp
          · rw [key_pop]
            simp only [stepK, List.map_cons, List.map_append, List.map_nil, hkey, hpf, if_true, hlt, if_false]
      · rw [decide_eq_false hpf]
        ktr_unf
        refine post _ _ _ (x :: r) zs e ez tl ?_ F1 ?_ (fun q hq => hq) hx hg h4 hoff (fun z hz => .inl hz) (Nat.le_succ _) ?_
        · intro z hz
          rfl
        · intro q hq
          exact N1 q (.tail _ hq)
        · show _ = stepK hgt f (key x :: r.map key, zs.map key)
          rw [hkey]
          simp only [stepK, hpf, if_false, List.map_cons, hkey]
end
theorem reset23 {M : Model} {A : Around} {E : Value → Shared → Prop} {s : Shared} {env : Env} {Q : Flow → Shared → Prop} (h : Q .next s) : wpAny M A (execs [] env) Q E s := by
  w_top off
  walk1
  w_top off
  exact h
/-! T2 -/
section
open PySem PySem.W PyProof.Rows PySem.Calls
set_option Elab.async false
set_option maxRecDepth 100000
set_option maxHeartbeats 8000000
set_option linter.unusedVariables false
theorem fill8 : Challenge.rw_op0038_01 = Challenge.rw_op0038_01 ∧ hd.heap_39 = hd.heap_39 := by
  k_fill
  exact ⟨rfl, rfl⟩


noncomputable def intArr (fs : List Int) (ts : Nat → Tok) : Array Value := ((fs.zipIdx).map fun x => Value.int x.1 (ts x.2)).toArray
theorem intArr_get {fs : List Int} {ts : Nat → Tok} {i : Nat} (h : i < fs.length) : (intArr fs ts)[i]? = some (.int (fs.getD i 0) (ts i)) := by
  simp [intArr, List.getElem?_eq_getElem h]
theorem intArr_size (fs : List Int) (ts : Nat → Tok) : (intArr fs ts).size = fs.length := by simp [intArr]
theorem len_vals {prog : Program} {w : World} {A : Around} {E : Value → Shared → Prop} {s : Shared} {g : Heap} {L lz : Addr} {ez : Nat} {zs : List Item} {news : List (Addr × Obj)} {Q : Value → Shared → Prop} (N : News g L s.heap news) (hm : (lz, listOf (vals zs) ez) ∈ news) (hz : zs.length ≤ 4)
    (h : ∀ t' k, Q (.int (zs.length : Int) t') { s with toks := k }) : wpAny (model prog w) A (call (.builtin "len") [.ref lz]) Q E s := by
  have e : (vals zs).size = zs.length := by simp [vals]
  refine len_list (items := vals zs) ⟨_, N.get hm, rfl, _, rfl⟩ (by rw [e]; omega) ?_
  rw [e]
  exact h _ _
theorem intArr_none {fs : List Int} {ts : Nat → Tok} {i : Nat} (h : ¬ i < fs.length) : (intArr fs ts)[i]? = none := by
  simp [intArr]; omega
theorem intArr_set {fs : List Int} {ts : Nat → Tok} {i : Nat} {v : Int} {u : Tok} (hi : i < fs.length) : (intArr fs ts).setIfInBounds i (.int v u) = intArr (fs.set i v) (fun j => if j = i then u else ts j) := by
  apply Array.ext_getElem?
  intro j
  rw [Array.getElem?_setIfInBounds, intArr_size]
  by_cases hj : j < fs.length
  · rw [intArr_get (fs := fs.set i v) (by simpa using hj), intArr_get hj]
    by_cases hji : i = j
    · subst hji
      simp [hi]
    · have h2 : ¬ j = i := fun h => hji h.symm
      rw [if_neg hji]
      simp [h2, List.getElem?_set_ne hji]
  · rw [intArr_none (fs := fs.set i v) (by simpa using hj), intArr_none hj]
    rw [if_neg (by omega)]
theorem set_ints {prog : Program} {w : World} {A : Around} {E : Value → Shared → Prop} {s : Shared} {g : Heap} {L lf : Addr} {ef : Nat} {fs : List Int} {ts : Nat → Tok} {m : Str → Option Value} {tl : List (Addr × Obj)} {k v : Int} {t u : Tok} {Q : Unit → Shared → Prop}
    (F : Fr g L s.heap m) (N : News g L s.heap ((lf, listOf (intArr fs ts) ef) :: tl)) (hoff : ∀ q ∈ tl, q.1 ≠ lf) (h0 : 0 ≤ k) (hi : k.toNat < fs.length) (hfs : fs.length ≤ 100)
    (h : ∀ h' ts', Fr g L h' m → News g L h' ((lf, listOf (intArr (fs.set k.toNat v) ts') ef) :: tl) → Q () { s with heap := h' }) :
    wpAny (model prog w) A (setItem (.ref lf) (.int k t) (.int v u)) Q E s := by
  refine ki_setAt (N.get (.head _)) h0 (by omega) (by rw [intArr_size]; omega) (h _ (fun j => if j = k.toNat then u else ts j) (F.change (Heap.SameBut.update ..) (N _ (.head _)).2.1 (N _ (.head _)).2.2) (ki_turn (pre := []) _ N (fun _ h => nomatch h) hoff ?_ ?_))
  · exact intArr_set hi
  · rw [intArr_size, intArr_size, List.length_set]
    simp
theorem gone_ok {w : World} {b : Bool} {lf lz lq L0 L' : Addr} {ef ez eq : Nat} {tl : List (Addr × Obj)} {x : Item} {zs : List Item} {fs qs : List Int} {ts us : Nat → Tok} {k : Int} {tk0 : Tok} {u : Str → Option Value}
  {mean : ExcName → Option Value} {mg mb : Str → Option Value} {dp un : Nat} {gd : Option (List Code)} {cn : Str} {cs : Scope} {a : Addr} {ccd : Value} {cl : List (Str × Addr)} {outer : List Env} {base g : Heap} {s : Shared} {Q : Flow → Shared → Prop} {E : Value → Shared → Prop}
  (hq : qs.length = 8) (hf4 : fs.length = 4) (hk1 : 1 ≤ k) (hk3 : k ≤ 3) (hz1 : 1 ≤ zs.length) (hz4 : zs.length ≤ 4) (hg : Good b x)
  (B : Below (ktrTop dp un gd cn cs L0 a ccd cl outer) base (envX cn cs L0 a ccd cl :: outer) g) (X : (hd.heap_39 w.params).In g) (T : Top topProg looseT mean mg mb g)
  (hk : cs.kind = .function) (hdp : dp + 20 < recursionLimit) (hun : un + 200 < cLine)
  (F : Fr g L' s.heap (kstB u [(Str.ofString "gone", .ref x.a), (Str.ofString "fees", .ref lf), (Str.ofString "here", .ref lz), (Str.ofString "prices", .ref lq), (Str.ofString "k", .int k tk0)]))
  (N : News g L' s.heap ((lf, listOf (intArr fs ts) ef) :: tl))
  (hx : (x.a, x.o) ∈ tl) (hzm : (lz, listOf (vals zs) ez) ∈ tl) (hqm : (lq, listOf (intArr qs us) eq) ∈ tl) (hoff : ∀ q ∈ tl, q.1 ≠ lf)
  (post : ∀ h' tk' ts' , Fr g L' h' (kstB u [(Str.ofString "gone", .ref x.a), (Str.ofString "fees", .ref lf), (Str.ofString "here", .ref lz), (Str.ofString "prices", .ref lq), (Str.ofString "k", .int k tk0)]) →
     News g L' h' ((lf, listOf (intArr (payK qs k zs.length fs (key x)) ts') ef) :: tl) → Q .next { s with heap := h', toks := tk' }) :
    wpAny (model Prg w) ((ktrTop dp un gd cn cs L0 a ccd cl outer).deeper (feesEnv L')) (execs goneB (feesEnv L')) Q E s := by
  refine of_for (st := nth 4 turnB) (fun bd => wpAny (model Prg w) ((ktrTop dp un gd cn cs L0 a ccd cl outer).deeper (feesEnv L')) (execs bd (feesEnv L')) Q E s) rfl ?_
  try dsimp only
  unfold feesEnv
  refine of_defS (st := feesF) (fun sc => wpAny (model Prg w) ((ktrTop dp un gd cn cs L0 a ccd cl outer).deeper (envOfC (Str.ofString "_law_fees") sc L' 110 (.ref 109))) (execs _ (envOfC (Str.ofString "_law_fees") sc L' 110 (.ref 109))) Q E s) rfl ?_
  try dsimp only
  dsimp only [kstB] at F post
  obtain ⟨kx, t1, t2, t3, n, ex, hkp, hkh, hk0, hk4⟩ := hg
  have hxm : (x.a, hobj b kx t1 t2 t3 n) ∈ tl := ex ▸ hx
  have hkey : key x = kx := by unfold key; rw [ex]; exact keyOf_hobj hkp
  ktr_unf
  have hwn : kx.w.toNat < fs.length := by omega
  refine wpAny_getItem_list (items := intArr fs ts) (x := .int (fs.getD kx.w.toNat 0) (ts kx.w.toNat)) ⟨_, N.get (.head _), rfl, _, rfl⟩ hk0 (by omega) (intArr_get hwn) ?_
  try dsimp only
  ktr_unf
  refine pv_len hkp (fun t5 k5 => ?_)
  try dsimp only
  have hlp := len_path kx.p hkp
  ktr_unf
  refine sub_list (v := .int (qs.getD ((pathCps kx.p).length - 1) 0) (us ((pathCps kx.p).length - 1))) N (.tail _ hqm) (by omega) (by omega) ?hv ?_ (by with_unfolding_all rfl)
  case hv =>
    have e9 : (((pathCps kx.p).length : Int) - 1).toNat = (pathCps kx.p).length - 1 := by omega
    rw [e9]
    exact intArr_get (by omega)
  try dsimp only
  ktr_unf
  refine len_vals N (.tail _ hzm) hz4 (fun t6 k6 => ?_)
  try dsimp only
  ktr_unf
  have em : (if (zs.length : Int) < k then (zs.length : Int) else k) = min k zs.length := by split <;> omega
  rw [em]
  rename News _ _ _ _ => N2
  rename Fr _ _ _ _ => F2
  refine len_vals N2 (.tail _ hzm) hz4 (fun t7 k7 => ?_)
  try dsimp only
  refine floordiv_int (by omega) ?_ (Or.inl (PyProof.noPylong_small (by omega)))
  try dsimp only
  ktr_unf
  refine set_ints F2 N2 hoff hk0 hwn (by omega) (fun h9 ts9 F9 N9 => ?_)
  try dsimp only
  ktr_unf
  refine post _ _ ts9 F9 ?_
  rw [hkey]
  exact N9
end
theorem reset24 {M : Model} {A : Around} {E : Value → Shared → Prop} {s : Shared} {env : Env} {Q : Flow → Shared → Prop} (h : Q .next s) : wpAny M A (execs [] env) Q E s := by
  w_top off
  walk1
  w_top off
  exact h
/-! T3 -/
section
open PySem PySem.W PyProof.Rows PySem.Calls
set_option Elab.async false
set_option maxRecDepth 100000
set_option maxHeartbeats 8000000
set_option linter.unusedVariables false
theorem fill9 : Challenge.rw_op0038_01 = Challenge.rw_op0038_01 ∧ hd.heap_39 = hd.heap_39 := by
  k_fill
  exact ⟨rfl, rfl⟩



theorem has_eq {m : Str → Option Value} {ps : List (Str × Value)} (h : ∀ p ∈ ps, m p.1 = some p.2) : m = kstB m ps := funext fun z => (kstB_eq h fun _ => rfl).symm
theorem foldl_take {α β : Type} (f : β → α → β) (b : β) : ∀ (l : List α) (i : Nat) (x : α), l[i]? = some x → (l.take (i + 1)).foldl f b = f ((l.take i).foldl f b) x := by
  intro l i x h
  have : l.take (i + 1) = l.take i ++ [x] := by
    rw [List.take_add_one, h]; rfl
  rw [this, List.foldl_append]; rfl
theorem pay_len (qs : List Int) (k : Int) (n : Nat) (fs : List Int) (x : Key) : (payK qs k n fs x).length = fs.length := by simp [payK]
theorem pays_len (qs : List Int) (k : Int) (n : Nat) : ∀ (l : List Key) (fs : List Int), (l.foldl (payK qs k n) fs).length = fs.length
  | [], _ => rfl
  | x :: r, fs => by rw [List.foldl_cons, pays_len qs k n r]; exact pay_len qs k n fs x
theorem gone_loop {w : World} {b : Bool} {lf lz lq L0 L' : Addr} {ef ez eq : Nat} {tl : List (Addr × Obj)} {zs : List Item} {fs qs : List Int} {ts us : Nat → Tok} {k : Int} {tk0 : Tok} {m : Str → Option Value}
  {mean : ExcName → Option Value} {mg mb : Str → Option Value} {dp un : Nat} {gd : Option (List Code)} {cn : Str} {cs : Scope} {a : Addr} {ccd : Value} {cl : List (Str × Addr)} {outer : List Env} {base g : Heap} {s : Shared} {Q : Flow → Shared → Prop} {E : Value → Shared → Prop}
  (hq : qs.length = 8) (hf4 : fs.length = 4) (hk1 : 1 ≤ k) (hk3 : k ≤ 3) (hz4 : zs.length ≤ 4) (hg : ∀ z ∈ zs, Good b z)
  (B : Below (ktrTop dp un gd cn cs L0 a ccd cl outer) base (envX cn cs L0 a ccd cl :: outer) g) (X : (hd.heap_39 w.params).In g) (T : Top topProg looseT mean mg mb g)
  (hk : cs.kind = .function) (hdp : dp + 20 < recursionLimit) (hun : un + 200 < cLine)
  (F : Fr g L' s.heap m) (hm : ∀ p ∈ [(Str.ofString "fees", Value.ref lf), (Str.ofString "here", .ref lz), (Str.ofString "prices", .ref lq), (Str.ofString "k", .int k tk0)], m p.1 = some p.2)
  (N : News g L' s.heap ((lf, listOf (intArr fs ts) ef) :: tl))
  (hx : ∀ z ∈ zs, (z.a, z.o) ∈ tl) (hzm : (lz, listOf (vals zs) ez) ∈ tl) (hqm : (lq, listOf (intArr qs us) eq) ∈ tl) (hoff : ∀ q ∈ tl, q.1 ≠ lf)
  (post : ∀ h' tk' ts' m', (∀ z, z ≠ Str.ofString "gone" → m' z = m z) → Fr g L' h' m' →
     News g L' h' ((lf, listOf (intArr ((zs.map key).foldl (payK qs k zs.length) fs) ts') ef) :: tl) → Q .next { s with heap := h', toks := tk' }) :
    wpAny (model Prg w) ((ktrTop dp un gd cn cs L0 a ccd cl outer).deeper (feesEnv L')) (pyIter (.ref lz)) (fun it s₂ => LoopAtV Prg w ((ktrTop dp un gd cn cs L0 a ccd cl outer).deeper (feesEnv L')) g (feesEnv L') (Str.ofString "gone") goneB Q E it s₂) E s := by
  refine kdl_iter (l := lz) (vs := zs.map fun x : Item => Value.ref x.a) (nn := ez) (m₀ := m) (news := (lf, listOf (intArr fs ts) ef) :: tl)
    (fun i m' nx => (∀ z, z ≠ Str.ofString "gone" → m' z = m z) ∧ ∃ ts', nx = (lf, listOf (intArr (((zs.map key).take i).foldl (payK qs k zs.length) fs) ts') ef) :: tl) rfl (.tail _ hzm) F N ⟨fun _ _ => rfl, ts, rfl⟩ ?_ ?_
  · rintro i v m₁ nx h tk own hv hown _ ⟨hm1, ts1, rfl⟩ F1 N1
    have hi : i < zs.length := by
      have := (List.getElem?_eq_some_iff.mp hv).1
      simpa using this
    have hxi : zs[i]? = some zs[i] := List.getElem?_eq_getElem hi
    have hv2 : v = .ref zs[i].a := by
      rw [List.getElem?_map, hxi] at hv
      exact (Option.some.inj hv).symm
    subst hv2
    have hmem : zs[i] ∈ zs := List.getElem_mem hi
    have hgone : (fun y => if y = Str.ofString "gone" then some (Value.ref zs[i].a) else m₁ y) (Str.ofString "gone") = some (Value.ref zs[i].a) := if_pos rfl
    have q : ∀ n v, n ≠ Str.ofString "gone" → m n = some v → (fun y => if y = Str.ofString "gone" then some (Value.ref zs[i].a) else m₁ y) n = some v := by
      intro n v hn hv
      show (if n = Str.ofString "gone" then _ else m₁ n) = some v
      rw [if_neg hn, hm1 n hn, hv]
    have q1 := q (Str.ofString "fees") _ (by decide) (hm _ (.head _))
    have q2 := q (Str.ofString "here") _ (by decide) (hm _ (.tail _ (.head _)))
    have q3 := q (Str.ofString "prices") _ (by decide) (hm _ (.tail _ (.tail _ (.head _))))
    have q4 := q (Str.ofString "k") _ (by decide) (hm _ (.tail _ (.tail _ (.tail _ (.head _)))))
    have hkst := has_eq (m := fun y => if y = Str.ofString "gone" then some (Value.ref zs[i].a) else m₁ y) (ps := [(Str.ofString "gone", .ref zs[i].a), (Str.ofString "fees", .ref lf), (Str.ofString "here", .ref lz), (Str.ofString "prices", .ref lq), (Str.ofString "k", .int k tk0)])
      (all_cons (m := fun y => if y = Str.ofString "gone" then some (Value.ref zs[i].a) else m₁ y) hgone (all_cons (m := fun y => if y = Str.ofString "gone" then some (Value.ref zs[i].a) else m₁ y) q1 (all_cons (m := fun y => if y = Str.ofString "gone" then some (Value.ref zs[i].a) else m₁ y) q2 (all_cons (m := fun y => if y = Str.ofString "gone" then some (Value.ref zs[i].a) else m₁ y) q3 (all_cons (m := fun y => if y = Str.ofString "gone" then some (Value.ref zs[i].a) else m₁ y) q4 all_nil)))))
    rw [hkst] at F1
    have hlen : (((zs.map key).take i).foldl (payK qs k zs.length) fs).length = 4 := by rw [pays_len]; exact hf4
    refine gone_ok (tl := tl ++ own) hq hlen hk1 hk3 (by omega) hz4 (hg _ hmem) B X T hk hdp hun F1 N1 (List.mem_append_left _ (hx _ hmem)) (List.mem_append_left _ hzm) (List.mem_append_left _ hqm) ?_ ?_
    · intro q hq'
      rcases List.mem_append.mp hq' with h1 | h1
      · exact hoff q h1
      · exact hown q h1 lf (.head _)
    · intro h2 tk2 ts2 F2 N2
      rw [← hkst] at F2
      have e9 : payK qs k zs.length (((zs.map key).take i).foldl (payK qs k zs.length) fs) (key zs[i]) = ((zs.map key).take (i + 1)).foldl (payK qs k zs.length) fs := by
        rw [foldl_take _ _ _ i (key zs[i]) (by rw [List.getElem?_map, hxi]; rfl)]
      rw [e9] at N2
      refine InvEndG.intro (nx := (lf, listOf (intArr (((zs.map key).take (i + 1)).foldl (payK qs k zs.length) fs) ts2) ef) :: tl) F2 N2 ⟨.tail _ hzm, ?_, ts2, rfl⟩ hown ?_ ?_
      · intro z hz
        show (if z = Str.ofString "gone" then _ else m₁ z) = m z
        rw [if_neg hz]
        exact hm1 z hz
      · intro p hp
        rcases List.mem_cons.mp hp with rfl | hp
        · exact .head _
        · exact .tail _ (List.mem_append_left _ hp)
      · intro p hp
        exact .tail _ (List.mem_append_right _ hp)
  · rintro m₁ nx h tk ⟨hm1, ts1, rfl⟩ F1 N1
    have e : (zs.map key).take (zs.map fun x : Item => Value.ref x.a).length = zs.map key := by
      rw [List.length_map, ← List.length_map (f := key) (as := zs), List.take_length]
    rw [e] at N1
    exact post _ _ ts1 m₁ hm1 F1 N1

theorem step_loop {w : World} {b : Bool} {lh lz L0 L' r : Addr} {e ez : Nat} {t u v : Tok} {tl : List (Addr × Obj)} {xs : List Item} {f : Row} {hgt : Int} {th tf : Tok} {m : Str → Option Value}
  {mean : ExcName → Option Value} {mg mb : Str → Option Value} {dp un : Nat} {gd : Option (List Code)} {cn : Str} {cs : Scope} {a : Addr} {ccd : Value} {cl : List (Str × Addr)} {outer : List Env} {base g : Heap} {s : Shared} {Q : Flow → Shared → Prop} {E : Value → Shared → Prop}
  (hf : f ∈ allRows) (hh : hgt = 1 - (f.length : Int)) (hr : IsRange s.heap r 0 4 1 t u v)
  (B : Below (ktrTop dp un gd cn cs L0 a ccd cl outer) base (envX cn cs L0 a ccd cl :: outer) g) (X : (hd.heap_39 w.params).In g) (T : Top topProg looseT mean mg mb g)
  (hk : cs.kind = .function) (hdp : dp + 20 < recursionLimit) (hun : un + 200 < cLine)
  (F : Fr g L' s.heap m) (hm : ∀ p ∈ [(Str.ofString "heap", Value.ref lh), (Str.ofString "height", .int hgt th), (Str.ofString "folder", PV b f tf), (Str.ofString "here", .ref lz)], m p.1 = some p.2)
  (N : News g L' s.heap ((lh, listOf (vals xs) e) :: (lz, listOf (vals []) ez) :: tl))
  (hx : ∀ x ∈ xs, (x.a, x.o) ∈ tl) (hg : ∀ x ∈ xs, Good b x) (h4 : xs.length ≤ 4) (hoff : ∀ q ∈ tl, q.1 ≠ lh ∧ q.1 ≠ lz) (hne : lh ≠ lz)
  (post : ∀ h' tk' m' xs' zs' e' ez' tl', (∀ z, z ≠ Str.ofString "above" → z ≠ Str.ofString "step" → m' z = m z) → Fr g L' h' m' →
     News g L' h' ((lh, listOf (vals xs') e') :: (lz, listOf (vals zs') ez') :: tl') → (∀ q ∈ tl, q ∈ tl') → (∀ x ∈ xs', (x.a, x.o) ∈ tl') → (∀ x ∈ xs', Good b x) → xs'.length ≤ 4 → (∀ q ∈ tl', q.1 ≠ lh ∧ q.1 ≠ lz) → (∀ z ∈ zs', (z.a, z.o) ∈ tl' ∧ Good b z) → zs'.length ≤ 4 →
     (xs'.map key, zs'.map key) = iterK (stepK hgt f) 4 (xs.map key, []) → Q .next { s with heap := h', toks := tk' }) :
    wpAny (model Prg w) ((ktrTop dp un gd cn cs L0 a ccd cl outer).deeper (feesEnv L')) (pyIter (.ref r)) (fun it s₂ => LoopAtV Prg w ((ktrTop dp un gd cn cs L0 a ccd cl outer).deeper (feesEnv L')) g (feesEnv L') (Str.ofString "step") stepB Q E it s₂) E s := by
  refine loop_range (n := 4) (m₀ := m) (news := (lh, listOf (vals xs) e) :: (lz, listOf (vals []) ez) :: tl)
    (fun i m' nx => (∀ z, z ≠ Str.ofString "above" → z ≠ Str.ofString "step" → m' z = m z) ∧ ∃ xs' zs' e' ez' tl', nx = (lh, listOf (vals xs') e') :: (lz, listOf (vals zs') ez') :: tl' ∧ (∀ q ∈ tl, q ∈ tl') ∧ (∀ x ∈ xs', (x.a, x.o) ∈ tl') ∧ (∀ x ∈ xs', Good b x) ∧ xs'.length ≤ 4 ∧ (∀ q ∈ tl', q.1 ≠ lh ∧ q.1 ≠ lz) ∧ (∀ z ∈ zs', (z.a, z.o) ∈ tl' ∧ Good b z) ∧ zs'.length ≤ i ∧
     (xs'.map key, zs'.map key) = iterK (stepK hgt f) i (xs.map key, [])) rfl hr (by decide) (by decide) F N ⟨fun _ _ _ => rfl, xs, [], e, ez, tl, rfl, fun q hq => hq, hx, hg, h4, hoff, ⟨(fun z hz => absurd hz List.not_mem_nil), Nat.le_refl _, rfl⟩⟩ ?_ ?_
  · rintro i I o t1 m₁ nx h tk hi hc hof ⟨hm1, xs', zs', e', ez', tl', rfl, hsub, hx', hg', h4', hoff', hz', hzl, hkeys⟩ F1 N1
    have q : ∀ n v, n ≠ Str.ofString "above" → n ≠ Str.ofString "step" → m n = some v → (fun y => if y = Str.ofString "step" then some (Value.int (0 + (i : Int)) t1) else m₁ y) n = some v := by
      intro n v hn hn2 hv
      show (if n = Str.ofString "step" then _ else m₁ n) = some v
      rw [if_neg hn2, hm1 n hn hn2, hv]
    have q1 := q (Str.ofString "heap") _ (by decide) (by decide) (hm _ (.head _))
    have q2 := q (Str.ofString "height") _ (by decide) (by decide) (hm _ (.tail _ (.head _)))
    have q3 := q (Str.ofString "folder") _ (by decide) (by decide) (hm _ (.tail _ (.tail _ (.head _))))
    have q4 := q (Str.ofString "here") _ (by decide) (by decide) (hm _ (.tail _ (.tail _ (.tail _ (.head _)))))
    have hkst := has_eq (m := fun y => if y = Str.ofString "step" then some (Value.int (0 + (i : Int)) t1) else m₁ y) (ps := [(Str.ofString "heap", Value.ref lh), (Str.ofString "height", .int hgt th), (Str.ofString "folder", PV b f tf), (Str.ofString "here", .ref lz)])
      (all_cons (m := fun y => if y = Str.ofString "step" then some (Value.int (0 + (i : Int)) t1) else m₁ y) q1 (all_cons (m := fun y => if y = Str.ofString "step" then some (Value.int (0 + (i : Int)) t1) else m₁ y) q2 (all_cons (m := fun y => if y = Str.ofString "step" then some (Value.int (0 + (i : Int)) t1) else m₁ y) q3 (all_cons (m := fun y => if y = Str.ofString "step" then some (Value.int (0 + (i : Int)) t1) else m₁ y) q4 all_nil))))
    rw [hkst] at F1
    have N2 : News g L' h ((lh, listOf (vals xs') e') :: (lz, listOf (vals zs') ez') :: (I, o) :: tl') := by
      intro p hp
      refine N1 p ?_
      simp only [List.mem_cons] at hp ⊢
      rcases hp with h | h | h | h
      · exact .inr (.inl h)
      · exact .inr (.inr (.inl h))
      · exact .inl h
      · exact .inr (.inr (.inr h))
    have hIh : lh ≠ I := hof _ (.head _)
    have hIz : lz ≠ I := hof _ (.tail _ (.head _))
    refine step_ok (tl := (I, o) :: tl') hf hh B X T hk hdp hun F1 N2 (fun x hx => .tail _ (hx' x hx)) hg' h4' ?_ hne (by omega) ?_
    · intro p hp
      rcases List.mem_cons.mp hp with rfl | hp
      · exact ⟨hIh.symm, hIz.symm⟩
      · exact hoff' p hp
    · intro h2 tk2 m2 xs2 zs2 e2 ez2 tl2 hm2 F2 N3 hsub2 hx2 hg2 h42 hoff2 hzz hzl2 hkeys2
      have hIo : h2.get? I = some o := (N3 (I, o) (.tail _ (.tail _ (hsub2 _ (.head _))))).1
      have hkeep : ∀ p ∈ tl', p.1 ≠ I := fun p hp => hof p (.tail _ (.tail _ hp))
      have hgI : ∀ x : Item, Good b x → (x.a, x.o) ∈ tl2 → x.a ≠ I := by
        intro x hgx hxm hxI
        have h3 := (N3 (x.a, x.o) (.tail _ (.tail _ hxm))).1
        dsimp only at h3
        rw [hxI, hIo] at h3
        obtain ⟨kx, t1, t2, t3, n, ex, _⟩ := hgx
        have h5 : o = x.o := Option.some.inj h3
        rw [ex] at h5
        rw [h5] at hc
        have hc2 : Value.type "tuple" = Value.type "range_iterator" := hc
        exact absurd hc2 (by decide)
      have hfil : ∀ p ∈ tl2, p.1 ≠ I → p ∈ tl2.filter fun q => decide (q.1 ≠ I) := fun p hp hne => List.mem_filter.mpr ⟨hp, decide_eq_true hne⟩
      refine turn_next ((lh, listOf (vals xs2) e2) :: (lz, listOf (vals zs2) ez2) :: tl2.filter fun q => decide (q.1 ≠ I)) F2 ?_ ?_ ⟨?_, xs2, zs2, e2, ez2, _, rfl, ?_, ?_, hg2, h42, ?_, ?_, ?_, ?_⟩
      · intro p hp
        simp only [List.mem_cons] at hp
        rcases hp with h | h | h | h
        · rw [h]; exact N3 (I, o) (.tail _ (.tail _ (hsub2 _ (.head _))))
        · rw [h]; exact N3 _ (.head _)
        · rw [h]; exact N3 _ (.tail _ (.head _))
        · exact N3 _ (.tail _ (.tail _ (List.mem_filter.mp h).1))
      · intro p hp
        simp only [List.mem_cons] at hp
        rcases hp with h | h | h
        · rw [h]; exact .inr hIh
        · rw [h]; exact .inr hIz
        · exact .inr (of_decide_eq_true (List.mem_filter.mp h).2)
      · intro z hz1 hz2
        rw [hm2 z hz1, ← hkst]
        show (if z = Str.ofString "step" then _ else m₁ z) = m z
        rw [if_neg hz2]
        exact hm1 z hz1 hz2
      · intro p hp
        exact hfil p (hsub2 _ (.tail _ (hsub p hp))) (hkeep p (hsub p hp))
      · intro x hx
        exact hfil _ (hx2 x hx) (hgI x (hg2 x hx) (hx2 x hx))
      · intro p hp
        exact hoff2 p (List.mem_filter.mp hp).1
      · intro z hz
        have hz3 : (z.a, z.o) ∈ tl' ∧ Good b z := (hzz z hz).elim (fun h => hz' z h) (fun h => ⟨hx' z h, hg' z h⟩)
        exact ⟨hfil _ (hsub2 _ (.tail _ hz3.1)) (hkeep _ hz3.1), hz3.2⟩
      · omega
      · rw [hkeys2, hkeys]; rfl
  · rintro m₁ nx h tk ⟨hm1, xs', zs', e', ez', tl', rfl, hsub, hx', hg', h4', hoff', hz', hzl, hkeys⟩ F1 N1
    exact post _ _ m₁ xs' zs' e' ez' tl' hm1 F1 N1 hsub hx' hg' h4' hoff' hz' hzl hkeys
end
theorem reset25 {M : Model} {A : Around} {E : Value → Shared → Prop} {s : Shared} {env : Env} {Q : Flow → Shared → Prop} (h : Q .next s) : wpAny M A (execs [] env) Q E s := by
  w_top off
  walk1
  w_top off
  exact h
/-! T4 -/
section
open PySem PySem.W PyProof.Rows PySem.Calls
set_option Elab.async false
set_option maxRecDepth 100000
set_option maxHeartbeats 8000000
set_option linter.unusedVariables false
theorem fill10 : Challenge.rw_op0038_01 = Challenge.rw_op0038_01 ∧ hd.heap_39 = hd.heap_39 := by
  k_fill
  exact ⟨rfl, rfl⟩




theorem turnB_eq {P : List Stmt → Prop} {t i : Expr} {bd o : List Stmt} {p : Pos} (e : nth 3 (defB feesF) = .For t i bd o p) (h : P bd) : P turnB := by
  unfold turnB; rw [e]; exact h
theorem turn_ok {w : World} {b : Bool} {lh lf lq L0 L' : Addr} {e ef eq : Nat} {tl : List (Addr × Obj)} {xs : List Item} {fs qs : List Int} {ts us : Nat → Tok} {k : Int} {tk0 : Tok} {u : Str → Option Value}
  {mean : ExcName → Option Value} {mg mb : Str → Option Value} {dp un : Nat} {gd : Option (List Code)} {cn : Str} {cs : Scope} {a : Addr} {ccd : Value} {cl : List (Str × Addr)} {outer : List Env} {base g : Heap} {s : Shared} {Q : Flow → Shared → Prop} {E : Value → Shared → Prop}
  (hq : qs.length = 8) (hf4 : fs.length = 4) (hk1 : 1 ≤ k) (hk3 : k ≤ 3)
  (B : Below (ktrTop dp un gd cn cs L0 a ccd cl outer) base (envX cn cs L0 a ccd cl :: outer) g) (X : (hd.heap_39 w.params).In g) (T : Top topProg looseT mean mg mb g)
  (hk : cs.kind = .function) (hdp : dp + 20 < recursionLimit) (hun : un + 200 < cLine) (hE : PassesOwn (model Prg w) ((ktrTop dp un gd cn cs L0 a ccd cl outer).deeper (feesEnv L')) (feesEnv L') E)
  (F : Fr g L' s.heap (kstB u [(Str.ofString "heap", .ref lh), (Str.ofString "fees", .ref lf), (Str.ofString "prices", .ref lq), (Str.ofString "k", .int k tk0)]))
  (N : News g L' s.heap ((lh, listOf (vals xs) e) :: (lf, listOf (intArr fs ts) ef) :: tl))
  (hx : ∀ x ∈ xs, (x.a, x.o) ∈ tl) (hg : ∀ x ∈ xs, Good b x) (h4 : xs.length ≤ 4) (hqm : (lq, listOf (intArr qs us) eq) ∈ tl) (hoff : ∀ q ∈ tl, q.1 ≠ lh ∧ q.1 ≠ lf) (hne : lh ≠ lf)
  (leave : ∀ h' tk', xs = [] → Fr g L' h' (kstB u [(Str.ofString "heap", .ref lh), (Str.ofString "fees", .ref lf), (Str.ofString "prices", .ref lq), (Str.ofString "k", .int k tk0)]) → News g L' h' ((lh, listOf (vals xs) e) :: (lf, listOf (intArr fs ts) ef) :: tl) → Q (.ret (.ref lf)) { s with heap := h', toks := tk' })
  (post : ∀ h' tk' m' xs' e' fs' ts' tl', (∀ p ∈ [(Str.ofString "heap", Value.ref lh), (Str.ofString "fees", .ref lf), (Str.ofString "prices", .ref lq), (Str.ofString "k", .int k tk0)], m' p.1 = some p.2) → Fr g L' h' m' →
     News g L' h' ((lh, listOf (vals xs') e') :: (lf, listOf (intArr fs' ts') ef) :: tl') → (∀ q ∈ tl, q ∈ tl') → (∀ x ∈ xs', (x.a, x.o) ∈ tl') → (∀ x ∈ xs', Good b x) → xs'.length ≤ 4 → (∀ q ∈ tl', q.1 ≠ lh ∧ q.1 ≠ lf) → fs'.length = 4 →
     (xs'.map key, fs') = turnK qs k (xs.map key, fs) → Q .next { s with heap := h', toks := tk' }) :
    wpAny (model Prg w) ((ktrTop dp un gd cn cs L0 a ccd cl outer).deeper (feesEnv L')) (execs turnB (feesEnv L')) Q E s := by
  refine of_for (st := nth 3 (defB feesF)) (fun bd => wpAny (model Prg w) ((ktrTop dp un gd cn cs L0 a ccd cl outer).deeper (feesEnv L')) (execs bd (feesEnv L')) Q E s) rfl ?_
  try dsimp only
  revert hE
  unfold feesEnv
  refine of_defS (st := feesF) (fun sc => PassesOwn (model Prg w) ((ktrTop dp un gd cn cs L0 a ccd cl outer).deeper (envOfC (Str.ofString "_law_fees") sc L' 110 (.ref 109))) (envOfC (Str.ofString "_law_fees") sc L' 110 (.ref 109)) E → wpAny (model Prg w) ((ktrTop dp un gd cn cs L0 a ccd cl outer).deeper (envOfC (Str.ofString "_law_fees") sc L' 110 (.ref 109))) (execs _ (envOfC (Str.ofString "_law_fees") sc L' 110 (.ref 109))) Q E s) rfl ?_
  intro hE
  try dsimp only
  dsimp only [kstB] at F leave
  iterate 7 (walk1; (try dsimp only))
  rename News _ _ _ _ => N1
  rename Fr _ _ _ _ => F1
  rcases xs with _ | ⟨x, r⟩
  · refine list_eq (r := true) (K := fun _ => True) (N1.get (.tail _ (.head _))) (N1.get (.head _)) .nil (fun _ _ => trivial) ?_ rfl ?_
    · ktr_units
    · try dsimp only
      ktr_unf
      exact leave _ _ rfl F1 (fun q hq => N1 q (.tail _ hq))
  · obtain ⟨kx, t1, t2, t3, n, ex, hkp, hkh, hk0, hk4⟩ := hg x (.head _)
    have hxm : (x.a, hobj b kx t1 t2 t3 n) ∈ tl := ex ▸ hx x (.head _)
    have hkey : key x = kx := by unfold key; rw [ex]; exact keyOf_hobj hkp
    refine list_eq_len (N1.get (.tail _ (.head _))) (N1.get (.head _)) ?_ ?_ ?_
    · simp [vals]
    · ktr_units
    · try dsimp only
      ktr_unf
      refine' head2 (t := x.a) (n := n) F1 N1 (.tail _ (.tail _ (.tail _ hxm))) ?_ ?c1 (fun r => ?c2)
      case c1 => with_unfolding_all rfl
      case c2 => with_unfolding_all rfl
      intro h2 D2 F2 N2
      try dsimp only
      ktr_unf
      rename Fr _ _ _ _ => F3
      rename News _ _ _ _ => N3
      rename IsRange _ _ _ _ _ _ _ _ => R3
      rename_i lz _ lb1 _ _ _ _ _ _ _ _ _
      have hzlh : lh ≠ lz := Nat.ne_of_lt lb1.2.2.1
      have hzlf : lf ≠ lz := Nat.ne_of_lt lb1.2.2.2.1
      have hztl : ∀ q ∈ tl, q.1 ≠ lz := fun q hq => Nat.ne_of_lt (all_lt lb1.2.2.2.2 q hq)
      refine step_loop (b := b) (lz := lz) (xs := x :: r) (e := e) (ez := 0) (f := kx.p) (hgt := kx.h) (th := t1) (tf := t2) (tl := (lf, listOf (intArr fs ts) ef) :: tl) hkp hkh R3 B X T hk hdp hun F3 ?m ?n (fun y hy => .tail _ (hx y hy)) hg h4 ?o hzlh ?_
      case m =>
        intro p hp
        simp only [List.mem_cons, List.not_mem_nil, or_false] at hp
        rcases hp with rfl | rfl | rfl | rfl <;> rfl
      case n =>
        intro q hq
        simp only [List.mem_cons] at hq
        rcases hq with rfl | rfl | rfl | hq
        · exact N3 _ (.tail _ (.tail _ (.tail _ (.head _))))
        · exact N3 _ (.head _)
        · exact N3 _ (.tail _ (.tail _ (.tail _ (.tail _ (.head _)))))
        · exact N3 _ (.tail _ (.tail _ (.tail _ (.tail _ (.tail _ hq)))))
      case o =>
        intro q hq
        rcases List.mem_cons.mp hq with rfl | hq
        · exact ⟨hne.symm, hzlf⟩
        · exact ⟨(hoff q hq).1, hztl q hq⟩
      intro h5 tk5 m5 xs5 zs5 e5 ez5 tl5 hm5 F5 N5 hsub5 hx5 hg5 h45 hoff5 hz5 hzl5 hkeys5
      have q5 : ∀ n v, n ≠ Str.ofString "above" → n ≠ Str.ofString "step" → _ → m5 n = some v := fun n v h1 h2 (h3 : _ = some v) => (hm5 n h1 h2).trans h3
      have m5h := q5 (Str.ofString "heap") (.ref lh) (by decide) (by decide) rfl
      have m5f := q5 (Str.ofString "fees") (.ref lf) (by decide) (by decide) rfl
      have m5z := q5 (Str.ofString "here") (.ref lz) (by decide) (by decide) rfl
      have m5q := q5 (Str.ofString "prices") (.ref lq) (by decide) (by decide) rfl
      have m5k := q5 (Str.ofString "k") (.int k tk0) (by decide) (by decide) rfl
      have hkst := has_eq (m := m5) (ps := [(Str.ofString "heap", .ref lh), (Str.ofString "fees", .ref lf), (Str.ofString "here", .ref lz), (Str.ofString "prices", .ref lq), (Str.ofString "k", .int k tk0)]) (all_cons (m := m5) m5h (all_cons (m := m5) m5f (all_cons (m := m5) m5z (all_cons (m := m5) m5q (all_cons (m := m5) m5k all_nil)))))
      have F6 := F5
      rw [hkst] at F6
      dsimp only [kstB] at F6
      clear F3 N3
      have hlf5 := (N5 (lf, listOf (intArr fs ts) ef) (.tail _ (.tail _ (hsub5 _ (.head _))))).1
      have hgl : ∀ x : Item, Good b x → (x.a, x.o) ∈ tl5 → x.a ≠ lf := by
        intro y hgy hym hyI
        have h3 := (N5 (y.a, y.o) (.tail _ (.tail _ hym))).1
        dsimp only at h3
        rw [hyI, hlf5] at h3
        obtain ⟨ky, u1, u2, u3, n', ey, _⟩ := hgy
        have h6 := Option.some.inj h3
        rw [ey] at h6
        have h7 := congrArg Obj.cls h6
        have hc2 : Value.type "list" = Value.type "tuple" := h7
        exact absurd hc2 (by decide)
      have hfil : ∀ p ∈ tl5, p.1 ≠ lf → p ∈ tl5.filter fun q => decide (q.1 ≠ lf) := fun p hp hne => List.mem_filter.mpr ⟨hp, decide_eq_true hne⟩
      have N6 : News g L' h5 ((lf, listOf (intArr fs ts) ef) :: (lh, listOf (vals xs5) e5) :: (lz, listOf (vals zs5) ez5) :: tl5.filter fun q => decide (q.1 ≠ lf)) := by
        intro p hp
        simp only [List.mem_cons] at hp
        rcases hp with h | h | h | h
        · rw [h]; exact N5 _ (.tail _ (.tail _ (hsub5 _ (.head _))))
        · rw [h]; exact N5 _ (.head _)
        · rw [h]; exact N5 _ (.tail _ (.head _))
        · exact N5 _ (.tail _ (.tail _ (List.mem_filter.mp h).1))
      try dsimp only
      walk1
      with_unfolding_all refine' For_invVF F6 ?k1 ?k2 ?_ ?k3 ?k4
      case k1 => with_unfolding_all rfl
      case k2 => with_unfolding_all rfl
      case k3 => intro _; with_unfolding_all rfl
      case k4 => exact hE
      try dsimp only
      walk1
      refine gone_loop (b := b) (lf := lf) (ef := ef) (ez := ez5) (eq := eq) (zs := zs5) (fs := fs) (qs := qs) (ts := ts) (us := us) (k := k) (tk0 := tk0) (lq := lq) (tl := (lh, listOf (vals xs5) e5) :: (lz, listOf (vals zs5) ez5) :: tl5.filter fun q => decide (q.1 ≠ lf)) hq hf4 hk1 hk3 hzl5 (fun z hz => (hz5 z hz).2) B X T hk hdp hun F5 (all_cons (m := m5) m5f (all_cons (m := m5) m5z (all_cons (m := m5) m5q (all_cons (m := m5) m5k all_nil)))) N6 ?g1 (.tail _ (.head _)) ?g3 ?g4 ?_
      case g1 =>
        intro z hz
        exact .tail _ (.tail _ (hfil _ (hz5 z hz).1 (hgl z (hz5 z hz).2 (hz5 z hz).1)))
      case g3 => exact .tail _ (.tail _ (hfil _ (hsub5 _ (.tail _ hqm)) (hoff _ hqm).2))
      case g4 =>
        intro p hp
        rcases List.mem_cons.mp hp with rfl | hp
        · exact hne
        · rcases List.mem_cons.mp hp with rfl | hp
          · exact hzlf.symm
          · exact of_decide_eq_true (List.mem_filter.mp hp).2
      intro h7 tk7 ts7 m7 hm7 F7 N7
      try dsimp only
      walk1
      try dsimp only
      refine post h7 tk7 m7 xs5 e5 ((zs5.map key).foldl (payK qs k zs5.length) fs) ts7 ((lz, listOf (vals zs5) ez5) :: tl5.filter fun q => decide (q.1 ≠ lf)) ?_ F7 ?_ ?_ ?_ hg5 h45 ?_ ?_ ?_
      · exact all_cons (m := m7) ((hm7 (Str.ofString "heap") (by decide)).trans m5h) (all_cons (m := m7) ((hm7 (Str.ofString "fees") (by decide)).trans m5f) (all_cons (m := m7) ((hm7 (Str.ofString "prices") (by decide)).trans m5q) (all_cons (m := m7) ((hm7 (Str.ofString "k") (by decide)).trans m5k) all_nil)))
      · intro p hp
        simp only [List.mem_cons] at hp
        rcases hp with h | h | h | h
        · rw [h]; exact N7 _ (.tail _ (.head _))
        · rw [h]; exact N7 _ (.head _)
        · rw [h]; exact N7 _ (.tail _ (.tail _ (.head _)))
        · exact N7 _ (.tail _ (.tail _ (.tail _ h)))
      · intro p hp
        exact .tail _ (hfil _ (hsub5 _ (.tail _ hp)) (hoff _ hp).2)
      · intro y hy
        exact .tail _ (hfil _ (hx5 y hy) (hgl y (hg5 y hy) (hx5 y hy)))
      · intro p hp
        rcases List.mem_cons.mp hp with rfl | hp
        · exact ⟨hzlh.symm, hzlf.symm⟩
        · exact ⟨(hoff5 p (List.mem_filter.mp hp).1).1, of_decide_eq_true (List.mem_filter.mp hp).2⟩
      · rw [pays_len]; exact hf4
      · have e1 : iterK (stepK kx.h kx.p) 4 ((x :: r).map key, []) = stepK kx.h kx.p (stepK kx.h kx.p (stepK kx.h kx.p (stepK kx.h kx.p (kx :: r.map key, [])))) := by
          rw [List.map_cons, hkey]; rfl
        rw [e1] at hkeys5
        rw [List.map_cons, hkey]
        simp only [turnK]
        rw [← hkeys5]
        simp only [List.length_map]
end
theorem reset26 {M : Model} {A : Around} {E : Value → Shared → Prop} {s : Shared} {env : Env} {Q : Flow → Shared → Prop} (h : Q .next s) : wpAny M A (execs [] env) Q E s := by
  w_top off
  walk1
  w_top off
  exact h
/-! T5 -/
section
open PySem PySem.W PyProof.Rows PySem.Calls
set_option Elab.async false
set_option maxRecDepth 100000
set_option maxHeartbeats 8000000
set_option linter.unusedVariables false
theorem fill12 : Challenge.rw_op0038_01 = Challenge.rw_op0038_01 ∧ hd.heap_39 = hd.heap_39 := by
  k_fill
  exact ⟨rfl, rfl⟩





theorem turnK_nil {qs : List Int} {k : Int} {st : List Key × List Int} (h : st.1 = []) : turnK qs k st = st := by
  obtain ⟨a, c⟩ := st
  simp only at h
  subst h
  rfl
theorem iterK_stop {qs : List Int} {k : Int} {st : List Key × List Int} : ∀ (n i : Nat), (iterK (turnK qs k) i st).1 = [] → iterK (turnK qs k) (i + n) st = iterK (turnK qs k) i st
  | 0, i, h => rfl
  | n + 1, i, h => by
    show turnK qs k (iterK (turnK qs k) (i + n) st) = _
    rw [iterK_stop n i h]
    exact turnK_nil h
theorem turn_loop {w : World} {b : Bool} {lh lf lq L0 L' r : Addr} {e ef eq : Nat} {t u v : Tok} {tl : List (Addr × Obj)} {xs : List Item} {fs qs : List Int} {ts us : Nat → Tok} {k : Int} {tk0 : Tok} {m : Str → Option Value}
  {mean : ExcName → Option Value} {mg mb : Str → Option Value} {dp un : Nat} {gd : Option (List Code)} {cn : Str} {cs : Scope} {a : Addr} {ccd : Value} {cl : List (Str × Addr)} {outer : List Env} {base g : Heap} {s : Shared} {Q : Flow → Shared → Prop} {E : Value → Shared → Prop}
  (hq : qs.length = 8) (hf4 : fs.length = 4) (hk1 : 1 ≤ k) (hk3 : k ≤ 3) (hr : IsRange s.heap r 0 12 1 t u v)
  (B : Below (ktrTop dp un gd cn cs L0 a ccd cl outer) base (envX cn cs L0 a ccd cl :: outer) g) (X : (hd.heap_39 w.params).In g) (T : Top topProg looseT mean mg mb g)
  (hk : cs.kind = .function) (hdp : dp + 20 < recursionLimit) (hun : un + 200 < cLine) (hE : PassesOwn (model Prg w) ((ktrTop dp un gd cn cs L0 a ccd cl outer).deeper (feesEnv L')) (feesEnv L') E)
  (F : Fr g L' s.heap m) (hm : ∀ p ∈ [(Str.ofString "heap", Value.ref lh), (Str.ofString "fees", Value.ref lf), (Str.ofString "prices", Value.ref lq), (Str.ofString "k", Value.int k tk0)], m p.1 = some p.2)
  (N : News g L' s.heap ((lh, listOf (vals xs) e) :: (lf, listOf (intArr fs ts) ef) :: tl))
  (hx : ∀ x ∈ xs, (x.a, x.o) ∈ tl) (hg : ∀ x ∈ xs, Good b x) (h4 : xs.length ≤ 4) (hqm : (lq, listOf (intArr qs us) eq) ∈ tl) (hoff : ∀ q ∈ tl, q.1 ≠ lh ∧ q.1 ≠ lf) (hne : lh ≠ lf)
  (leave : ∀ h' tk' m' ts', Fr g L' h' m' → m' (Str.ofString "fees") = some (.ref lf) → News g L' h' ((lf, listOf (intArr (iterK (turnK qs k) 12 (xs.map key, fs)).2 ts') ef) :: tl) → Q (.ret (.ref lf)) { s with heap := h', toks := tk' })
  (post : ∀ h' tk' m' ts', Fr g L' h' m' → m' (Str.ofString "fees") = some (.ref lf) → News g L' h' ((lf, listOf (intArr (iterK (turnK qs k) 12 (xs.map key, fs)).2 ts') ef) :: tl) → Q .next { s with heap := h', toks := tk' }) :
    wpAny (model Prg w) ((ktrTop dp un gd cn cs L0 a ccd cl outer).deeper (feesEnv L')) (pyIter (.ref r)) (fun it s₂ => LoopAtV Prg w ((ktrTop dp un gd cn cs L0 a ccd cl outer).deeper (feesEnv L')) g (feesEnv L') (Str.ofString "turn") turnB Q E it s₂) E s := by
  refine loop_range (n := 12) (m₀ := m) (news := (lh, listOf (vals xs) e) :: (lf, listOf (intArr fs ts) ef) :: tl)
    (fun i m' nx => (∀ p ∈ [(Str.ofString "heap", Value.ref lh), (Str.ofString "fees", Value.ref lf), (Str.ofString "prices", Value.ref lq), (Str.ofString "k", Value.int k tk0)], m' p.1 = some p.2) ∧ ∃ xs' e' fs' ts' tl', nx = (lh, listOf (vals xs') e') :: (lf, listOf (intArr fs' ts') ef) :: tl' ∧ (∀ q ∈ tl, q ∈ tl') ∧ (∀ x ∈ xs', (x.a, x.o) ∈ tl') ∧ (∀ x ∈ xs', Good b x) ∧ xs'.length ≤ 4 ∧ (∀ q ∈ tl', q.1 ≠ lh ∧ q.1 ≠ lf) ∧ fs'.length = 4 ∧
     (xs'.map key, fs') = iterK (turnK qs k) i (xs.map key, fs)) rfl hr (by decide) (by decide) F N ⟨hm, xs, e, fs, ts, tl, rfl, fun q hq => hq, hx, hg, h4, hoff, hf4, rfl⟩ ?_ ?_
  · rintro i I o t1 m₁ nx h tk hi hc hof ⟨hm1, xs', e', fs', ts', tl', rfl, hsub, hx', hg', h4', hoff', hf', hkeys⟩ F1 N1
    have q : ∀ n v, n ≠ Str.ofString "turn" → m₁ n = some v → (fun y => if y = Str.ofString "turn" then some (Value.int (0 + (i : Int)) t1) else m₁ y) n = some v := by
      intro n v hn hv
      show (if n = Str.ofString "turn" then _ else m₁ n) = some v
      rw [if_neg hn, hv]
    have q1 := q (Str.ofString "heap") _ (by decide) (hm1 _ (.head _))
    have q2 := q (Str.ofString "fees") _ (by decide) (hm1 _ (.tail _ (.head _)))
    have q3 := q (Str.ofString "prices") _ (by decide) (hm1 _ (.tail _ (.tail _ (.head _))))
    have q4 := q (Str.ofString "k") _ (by decide) (hm1 _ (.tail _ (.tail _ (.tail _ (.head _)))))
    have hkst := has_eq (m := fun y => if y = Str.ofString "turn" then some (Value.int (0 + (i : Int)) t1) else m₁ y) (ps := [(Str.ofString "heap", Value.ref lh), (Str.ofString "fees", Value.ref lf), (Str.ofString "prices", Value.ref lq), (Str.ofString "k", Value.int k tk0)])
      (all_cons (m := fun y => if y = Str.ofString "turn" then some (Value.int (0 + (i : Int)) t1) else m₁ y) q1 (all_cons (m := fun y => if y = Str.ofString "turn" then some (Value.int (0 + (i : Int)) t1) else m₁ y) q2 (all_cons (m := fun y => if y = Str.ofString "turn" then some (Value.int (0 + (i : Int)) t1) else m₁ y) q3 (all_cons (m := fun y => if y = Str.ofString "turn" then some (Value.int (0 + (i : Int)) t1) else m₁ y) q4 all_nil))))
    rw [hkst] at F1
    have N2 : News g L' h ((lh, listOf (vals xs') e') :: (lf, listOf (intArr fs' ts') ef) :: (I, o) :: tl') := by
      intro p hp
      refine N1 p ?_
      simp only [List.mem_cons] at hp ⊢
      rcases hp with h | h | h | h
      · exact .inr (.inl h)
      · exact .inr (.inr (.inl h))
      · exact .inl h
      · exact .inr (.inr (.inr h))
    have hIh : lh ≠ I := hof _ (.head _)
    have hIf : lf ≠ I := hof _ (.tail _ (.head _))
    refine turn_ok (b := b) (tl := (I, o) :: tl') hq hf' hk1 hk3 B X T hk hdp hun hE F1 N2 (fun x hx => .tail _ (hx' x hx)) hg' h4' (.tail _ (hsub _ hqm)) ?_ hne ?_ ?_
    · intro p hp
      rcases List.mem_cons.mp hp with rfl | hp
      · exact ⟨hIh.symm, hIf.symm⟩
      · exact hoff' p hp
    · intro h2 tk2 hxe F2 N3
      show Q (.ret (.ref lf)) { s with heap := h2, toks := tk2 }
      have e12 : fs' = (iterK (turnK qs k) 12 (xs.map key, fs)).2 := by
        have h0 : (iterK (turnK qs k) i (xs.map key, fs)).1 = [] := by rw [← hkeys, hxe]; rfl
        have h1 := iterK_stop (12 - i) i h0
        rw [show i + (12 - i) = 12 by omega] at h1
        rw [h1, ← hkeys]
      refine leave h2 tk2 _ ts' F2 ?_ ?_
      · rfl
      · rw [← e12]
        intro p hp
        rcases List.mem_cons.mp hp with h | h
        · rw [h]; exact N3 _ (.tail _ (.head _))
        · exact N3 _ (.tail _ (.tail _ (.tail _ (hsub p h))))
    · intro h2 tk2 m2 xs2 e2 fs2 ts2 tl2 hm2 F2 N3 hsub2 hx2 hg2 h42 hoff2 hf2 hkeys2
      have hIo : h2.get? I = some o := (N3 (I, o) (.tail _ (.tail _ (hsub2 _ (.head _))))).1
      have hkeep : ∀ p ∈ tl', p.1 ≠ I := fun p hp => hof p (.tail _ (.tail _ hp))
      have hgI : ∀ x : Item, Good b x → (x.a, x.o) ∈ tl2 → x.a ≠ I := by
        intro x hgx hxm hxI
        have h3 := (N3 (x.a, x.o) (.tail _ (.tail _ hxm))).1
        dsimp only at h3
        rw [hxI, hIo] at h3
        obtain ⟨kx, t1, t2, t3, n, ex, _⟩ := hgx
        have h5 : o = x.o := Option.some.inj h3
        rw [ex] at h5
        rw [h5] at hc
        have hc2 : Value.type "tuple" = Value.type "range_iterator" := hc
        exact absurd hc2 (by decide)
      have hfil : ∀ p ∈ tl2, p.1 ≠ I → p ∈ tl2.filter fun q => decide (q.1 ≠ I) := fun p hp hne => List.mem_filter.mpr ⟨hp, decide_eq_true hne⟩
      refine turn_next ((lh, listOf (vals xs2) e2) :: (lf, listOf (intArr fs2 ts2) ef) :: tl2.filter fun q => decide (q.1 ≠ I)) F2 ?_ ?_ ⟨hm2, xs2, e2, fs2, ts2, _, rfl, ?_, ?_, hg2, h42, ?_, hf2, ?_⟩
      · intro p hp
        simp only [List.mem_cons] at hp
        rcases hp with h | h | h | h
        · rw [h]; exact N3 (I, o) (.tail _ (.tail _ (hsub2 _ (.head _))))
        · rw [h]; exact N3 _ (.head _)
        · rw [h]; exact N3 _ (.tail _ (.head _))
        · exact N3 _ (.tail _ (.tail _ (List.mem_filter.mp h).1))
      · intro p hp
        simp only [List.mem_cons] at hp
        rcases hp with h | h | h
        · rw [h]; exact .inr hIh
        · rw [h]; exact .inr hIf
        · exact .inr (of_decide_eq_true (List.mem_filter.mp h).2)
      · intro p hp
        exact hfil p (hsub2 _ (.tail _ (hsub p hp))) (hkeep p (hsub p hp))
      · intro x hx
        exact hfil _ (hx2 x hx) (hgI x (hg2 x hx) (hx2 x hx))
      · intro p hp
        exact hoff2 p (List.mem_filter.mp hp).1
      · rw [hkeys2, hkeys]; rfl
  · rintro m₁ nx h tk ⟨hm1, xs', e', fs', ts', tl', rfl, hsub, hx', hg', h4', hoff', hf', hkeys⟩ F1 N1
    refine post _ _ m₁ ts' F1 (hm1 _ (.tail _ (.head _))) ?_
    rw [← hkeys]
    intro p hp
    rcases List.mem_cons.mp hp with h | h
    · rw [h]; exact N1 _ (.tail _ (.head _))
    · exact N1 _ (.tail _ (.tail _ (hsub p h)))
end
end
theorem reset27 {M : Model} {A : Around} {E : Value → Shared → Prop} {s : Shared} {env : Env} {Q : Flow → Shared → Prop} (h : Q .next s) : wpAny M A (execs [] env) Q E s := by
  w_top off
  walk1
  w_top off
  exact h
/-! F2 -/
section
open PySem PySem.W PyProof.Rows PySem.Calls
set_option Elab.async false
set_option maxRecDepth 100000
set_option maxHeartbeats 8000000
set_option linter.unusedVariables false
theorem fill13 : Challenge.rw_op0038_01 = Challenge.rw_op0038_01 ∧ hd.heap_39 = hd.heap_39 := by
  k_fill
  exact ⟨rfl, rfl⟩
theorem fees_ok {w : World} {b : Bool} {p0 p1 p2 p3 : Row} {t0 t1 t2 t3 tk0 : Tok} {lp lq : Addr} {e1 e2 : Nat} {qs : List Int} {k : Int} {us : Nat → Tok} {tl : List (Addr × Obj)}
  (hp0 : p0 ∈ allRows) (hp1 : p1 ∈ allRows) (hp2 : p2 ∈ allRows) (hp3 : p3 ∈ allRows) (hq : qs.length = 8) (hk1 : 1 ≤ k) (hk3 : k ≤ 3)
  (mean : ExcName → Option Value) (mg mb : Str → Option Value) (dp un : Nat) (gd : Option (List Code)) (cn : Str) (cs : Scope) (a : Addr) (ccd : Value) (cl : List (Str × Addr)) (outer : List Env) (A₀ : Around) (base h₀ : Heap) (L : Addr) (m : Str → Option Value) (s : Shared) (Q E : Value → Shared → Prop)
  (B : Below A₀ base outer h₀) (F : Fr h₀ L s.heap m) (X : (hd.heap_39 w.params).In h₀) 
  (N : News h₀ L s.heap ((lp, listOf #[PV b p0 t0, PV b p1 t1, PV b p2 t2, PV b p3 t3] e1) :: (lq, listOf (intArr qs us) e2) :: tl))
  (T : Top topProg looseT mean mg mb h₀) (hk : cs.kind = .function) (hdp : dp + 20 < recursionLimit) (hun : un + 200 < cLine)
  (hret : ∀ h' tk' lf e ts, Fr h₀ L h' m → News h₀ L h' ((lf, listOf (intArr (feesK qs k [⟨1 - p0.length, p0, 0⟩, ⟨1 - p1.length, p1, 1⟩, ⟨1 - p2.length, p2, 2⟩, ⟨1 - p3.length, p3, 3⟩]) ts) e) :: (lp, listOf #[PV b p0 t0, PV b p1 t1, PV b p2 t2, PV b p3 t3] e1) :: (lq, listOf (intArr qs us) e2) :: tl) →
     lp < lf → Q (.ref lf) { s with heap := h', toks := tk' }) :
    wpAny (model Prg w) (ktrTop dp un gd cn cs L a ccd cl outer) (call (.ref 110) [.ref lp, .ref lq, .int k tk0]) Q E s := by
  refine wpAny_call ?_
  k_dflt (refine' code_defC ?k1 ?k2 ?k3 ?k4 ?k5 ?kA ?kF ?kK ?k6 ?k7 ?k8 ?k9 ?kB ?kD ?_ ?c2 ?c3 ?c4; (case kA => exact rfl); (case kF => exact rfl); (case kK => first | exact rfl | assumption); (case k1 => k_asm); (case k2 => k_asm); (case k3 => k_asm); (case k4 => k_asm); (case k5 => k_asm); (case k6 => k_is); (case k7 => k_is); (case k8 => ktr_room); (case k9 => exact BindsTo.of_eq rfl); (case kB => exact rfl); (case kD => decide +kernel); (case c2 => exact rfl); (case c3 => exact rfl); (case c4 => exact rfl); k_whole; intro g' L' h' tk' cells' FG' F' N' Y' B' X' T' l1; (try k_lt l1); k_cells Y'; (try simp only [List.cons_append, List.nil_append] at N'); (try dsimp only); (try k_lift B'); (try k_fold))
  obtain ⟨u, F2⟩ := fr_has (ps := [(Str.ofString "prices", .ref lq), (Str.ofString "k", .int k tk0)]) F' (all_cons rfl (all_cons rfl all_nil))
  clear F'
  dsimp only [kstB] at F2
  rename (Obj.data _ = Data.cell _) => hcd
  have hcd2 := hcd.trans (show _ = Data.cell (some (Value.ref lp)) from rfl)
  clear hcd
  ktr_unf
  rename News _ _ _ _ => NN
  rename LCg.Off1 _ _ => OO
  rename Fr _ _ _ _ => FF
  rename_i lh hh tkh _ _ _
  obtain ⟨xs, tl', hx4, hxk, hxg, N3, hxm, hoff, hsub⟩ := pack4 hp0 hp1 hp2 hp3 NN OO
  have hxc : ∀ x ∈ xs, ∀ y ∈ xs, Cmp w ltI x y := fun x hx y hy => cmp_good (hxg x hx) (hxg y hy)
  clear NN OO
  refine' hfy_ok hx4 hxm hxc hoff _ _ _ _ _ _ _ _ _ _ _ _ _ _ _ _ _ _ _ _ ?xB ?xF ?xX ?xN ?xT ?xk ?xd ?xu ?_
  case xN => k_asm
  case xF => k_asm
  case xB => k_asm
  case xX => k_asm
  case xT => k_asm
  case xk => exact rfl
  case xd => ktr_room
  case xu => ktr_units
  intro h9 tk9 F9 N9
  dsimp only
  ktr_unf
  rename IsRange _ _ _ _ _ _ _ _ => R3
  rename Fr _ _ _ _ => F5
  rename News _ _ _ _ => N5
  have hpa : (lp, listOf #[PV b p0 t0, PV b p1 t1, PV b p2 t2, PV b p3 t3] e1) ∈ tl' := hsub _ (.tail _ (.head _))
  have hqa : (lq, listOf (intArr qs us) e2) ∈ tl' := hsub _ (.tail _ (.tail _ (.head _)))
  have htl : ∀ q ∈ tl, q ∈ tl' := fun q hq => hsub q (.tail _ (.tail _ (.tail _ hq)))
  rename_i lh _ _ _ _ lb1 lf _ _ _ _ _ _ _ lb2 _ _ _ _ _ _ _ _ _
  have hlhf : lh ≠ lf := Nat.ne_of_lt lb2.2.1
  have htlf : ∀ q ∈ tl', q.1 < lf := fun q hq => all_lt lb2.2.2 q hq
  have hN : (List.replicate (Int.toNat 4) [Value.int 0 tk9]).flatten.toArray = intArr [0, 0, 0, 0] (fun _ => tk9) := rfl
  rw [hN] at N5
  have hkk : (suL ltI (su1L ltI xs)).map key = suK (su1K [⟨1 - p0.length, p0, 0⟩, ⟨1 - p1.length, p1, 1⟩, ⟨1 - p2.length, p2, 2⟩, ⟨1 - p3.length, p3, 3⟩]) := by
    rw [key_su, key_su1, hxk]
  clear hcd2 hN
  refine' turn_loop (b := b) (lh := lh) (lf := lf) (e := 4) (ef := 0) (eq := e2) (fs := [0, 0, 0, 0]) (ts := fun _ => tk9) (us := us) (tk0 := tk0) (xs := suL ltI (su1L ltI xs)) (tl := tl') hq rfl hk1 hk3 R3 B' ?xX ?xT hk ?xd ?xu ?xE F5 ?hm ?hN (fun x hx => hxm x (su1_mem (su_mem hx))) (fun x hx => hxg x (su1_mem (su_mem hx))) ?h4 hqa (fun q hq => ⟨hoff q hq, Nat.ne_of_lt (htlf q hq)⟩) hlhf ?hl ?hp
  case xX => assumption
  case xT => assumption
  case xd => assumption
  case xu => assumption
  case hm =>
    intro p hp
    simp only [List.mem_cons, List.not_mem_nil, or_false] at hp
    rcases hp with rfl | rfl | rfl | rfl <;> rfl
  case hN =>
    intro q hq
    simp only [List.mem_cons] at hq
    rcases hq with rfl | rfl | hq
    · exact N5 _ (.tail _ (.tail _ (.head _)))
    · exact N5 _ (.head _)
    · exact N5 _ (.tail _ (.tail _ (.tail _ hq)))
  case h4 => rw [su_len, su1_len, hx4]; exact Nat.le_refl _
  case xE =>
    unfold feesEnv
    refine of_defS (st := feesF) (fun sc => PassesOwn (model Prg w) ((ktrTop dp un gd cn cs L a ccd cl outer).deeper (envOfC (Str.ofString "_law_fees") sc L' 110 (.ref 109))) (envOfC (Str.ofString "_law_fees") sc L' 110 (.ref 109)) _) rfl ?_
    passes_own
  case hl =>
    intro h7 tk7 m7 ts7 F7 hm7 N7
    try dsimp only
    clear N5 F5
    ktr_unf
    rename Fr _ _ _ _ => F8
    rename News _ _ _ _ => N8
    rw [hkk] at N8
    refine hret h7 tk7 lf 0 ts7 F8 ?_ (htlf _ hpa)
    intro q hq
    rcases List.mem_cons.mp hq with rfl | hq
    · exact N8 _ (.head _)
    · rcases List.mem_cons.mp hq with rfl | hq
      · exact N8 _ (.tail _ hpa)
      · rcases List.mem_cons.mp hq with rfl | hq
        · exact N8 _ (.tail _ hqa)
        · exact N8 _ (.tail _ (htl q hq))
  case hp =>
    intro h7 tk7 m7 ts7 F7 hm7 N7
    try dsimp only
    clear N5 F5
    have hkst := has_eq (m := m7) (ps := [(Str.ofString "fees", .ref lf)]) (all_cons (m := m7) hm7 all_nil)
    rw [hkst] at F7
    dsimp only [kstB] at F7
    ktr_unf
    rename Fr _ _ _ _ => F8
    rename News _ _ _ _ => N8
    rw [hkk] at N8
    refine hret h7 tk7 lf 0 ts7 F8 ?_ (htlf _ hpa)
    intro q hq
    rcases List.mem_cons.mp hq with rfl | hq
    · exact N8 _ (.head _)
    · rcases List.mem_cons.mp hq with rfl | hq
      · exact N8 _ (.tail _ hpa)
      · rcases List.mem_cons.mp hq with rfl | hq
        · exact N8 _ (.tail _ hqa)
        · exact N8 _ (.tail _ (htl q hq))
end
theorem reset28 {M : Model} {A : Around} {E : Value → Shared → Prop} {s : Shared} {env : Env} {Q : Flow → Shared → Prop} (h : Q .next s) : wpAny M A (execs [] env) Q E s := by
  w_top off
  walk1
  w_top off
  exact h
/-! G1 -/
section
open PySem PySem.W PyProof.Rows PySem.Calls
set_option Elab.async false
set_option maxRecDepth 100000
set_option maxHeartbeats 8000000
set_option linter.unusedVariables false
theorem fill14 : Challenge.rw_op0038_01 = Challenge.rw_op0038_01 ∧ hd.heap_39 = hd.heap_39 := by
  k_fill
  exact ⟨rfl, rfl⟩

noncomputable abbrev IsListL (h : Heap) (l : Addr) (xs : Array Value) : Prop := h.IsList l xs
theorem ws_notover : ∀ i, i < 8 → ¬ PySem.Flt.Over (wsF i) := by
  intro i hi ho
  have h := ws_small i hi
  have h2 : (wsF i).natAbs ≤ 6 := by omega
  have h3 : 2 ^ 1024 - 2 ^ 970 ≤ 6 := Nat.le_trans ho h2
  exact absurd h3 (by decide +kernel)
theorem fits8 {as : List Int} (hb : ∀ i, i < 8 → (as.getD i 0).natAbs < 2 ^ 45) : ∀ i, i < 8 → InLong (as.getD i 0) ∧ InLong (wsF i) ∧ InLong (as.getD i 0 * wsF i) ∧ InLong (preMul (fun i => as.getD i 0) wsF (i + 1)) := by
  have hm : ∀ i, i < 8 → (as.getD i 0 * wsF i).natAbs ≤ 2 ^ 45 * 6 := by
    intro i hi
    rw [Int.natAbs_mul]
    have h1 := hb i hi
    have h2 := ws_small i hi
    exact Nat.mul_le_mul (Nat.le_of_lt h1) (by omega)
  have hp : ∀ i, i ≤ 8 → (preMul (fun i => as.getD i 0) wsF i).natAbs ≤ i * (2 ^ 45 * 6) := by
    intro i
    induction i with
    | zero => intro _; simp [preMul]
    | succ i ih =>
      intro hi
      have h1 := ih (by omega)
      have h2 := hm i (by omega)
      simp only [preMul]
      omega
  intro i hi
  have h1 := hb i hi
  have h2 := ws_small i hi
  have h3 := hm i hi
  have h4 := hp (i + 1) (by omega)
  unfold InLong
  generalize as.getD i 0 * wsF i = x at *
  generalize preMul (fun i => as.getD i 0) wsF (i + 1) = y at *
  refine ⟨⟨?_, ?_⟩, ⟨?_, ?_⟩, ⟨?_, ?_⟩, ?_, ?_⟩ <;> omega
theorem mean_ok {w : World} {la lw : Addr} {ea ew : Nat} {as : List Int} {ta tw : Nat → Tok} {tl : List (Addr × Obj)} (h8 : as.length = 8) (hb : ∀ i, i < 8 → (as.getD i 0).natAbs < 2 ^ 45)
  (mean : ExcName → Option Value) (mg mb : Str → Option Value) (dp un : Nat) (gd : Option (List Code)) (cn : Str) (cs : Scope) (a : Addr) (ccd : Value) (cl : List (Str × Addr)) (outer : List Env) (A₀ : Around) (base h₀ : Heap) (L : Addr) (m : Str → Option Value) (s : Shared) (Q E : Value → Shared → Prop)
  (B : Below A₀ base outer h₀) (F : Fr h₀ L s.heap m) (X : (hd.heap_39 w.params).In h₀) 
  (N : News h₀ L s.heap ((la, listOf (intArr as ta) ea) :: (lw, listOf (intArr wsL tw) ew) :: tl))
  (T : Top topProg looseT mean mg mb h₀) (hk : cs.kind = .function) (hdp : dp + 20 < recursionLimit) (hun : un + 200 < cLine)
  (hret : ∀ h' tk' t, Fr h₀ L h' m → News h₀ L h' ((la, listOf (intArr as ta) ea) :: (lw, listOf (intArr wsL tw) ew) :: tl) →
     Q (.float (Float64.div (Float64.ofInt (preMul (fun i => as.getD i 0) wsF 8)) (Float64.ofInt 24)) t) { s with heap := h', toks := tk' }) :
    wpAny (model Prg w) (ktrTop dp un gd cn cs L a ccd cl outer) (call (.ref 105) [.ref la, .ref lw]) Q E s := by
  refine wpAny_call ?_
  k_dflt (refine' code_defC ?k1 ?k2 ?k3 ?k4 ?k5 ?kA ?kF ?kK ?k6 ?k7 ?k8 ?k9 ?kB ?kD ?_ ?c2 ?c3 ?c4; (case kA => exact rfl); (case kF => exact rfl); (case kK => first | exact rfl | assumption); (case k1 => k_asm); (case k2 => k_asm); (case k3 => k_asm); (case k4 => k_asm); (case k5 => k_asm); (case k6 => k_is); (case k7 => k_is); (case k8 => ktr_room); (case k9 => exact binds_K (by k_in) rfl (by k_is) rfl rfl rfl); (case kB => exact rfl); (case kD => decide +kernel); (case c2 => exact rfl); (case c3 => exact rfl); (case c4 => exact rfl); k_whole; intro g' L' h' tk' cells' FG' F' N' Y' B' X' T' l1; (try k_lt l1); k_cells Y'; (try simp only [List.cons_append, List.nil_append] at N'); (try dsimp only); (try k_lift B'); (try k_fold))
  obtain ⟨u, F2⟩ := fr_has (ps := [(Str.ofString "data", .ref la), (Str.ofString "weights", .ref lw)]) F' (all_cons rfl (all_cons rfl all_nil))
  clear F'
  dsimp only [kstB] at F2
  ktr_unf
  refine wpAny_Try_except ?_
  try dsimp only
  ktr_unf
  rename Fr _ _ _ _ => F3
  rename News _ _ _ _ => N3
  have lA : IsListL _ la (intArr as ta) := ⟨_, (N3 _ (.tail _ (.tail _ (.head _)))).1, rfl, ea, rfl⟩
  have lW : IsListL _ lw (intArr wsL tw) := ⟨_, (N3 _ (.tail _ (.tail _ (.tail _ (.head _))))).1, rfl, ew, rfl⟩
  refine call_sumprod (n := 8) (a := fun i => as.getD i 0) (b := wsF) rfl (by rw [intArr_size]; exact h8) (by rw [intArr_size]; rfl) lA lW (fun i hi => ⟨_, intArr_get (by omega)⟩) (fun i hi => ⟨_, intArr_get (fs := wsL) (by show i < 8; exact hi)⟩) (fits8 hb) (fun h5 tk5 t5 k5 => ?_)
  have F5 := F3.keeps k5
  have N5 := N3.grown k5
  clear F3 N3
  try dsimp only
  ktr_unf
  rename Fr _ _ _ _ => F6
  rename News _ _ _ _ => N6
  have lW6 : IsListL _ lw (intArr wsL tw) := ⟨_, (N6 _ (.tail _ (.tail _ (.tail _ (.head _))))).1, rfl, ew, rfl⟩
  refine call_fsum (n := 8) (b := wsF) rfl (by rw [intArr_size]; rfl) lW6 (fun i hi => ⟨_, intArr_get (fs := wsL) (by show i < 8; exact hi)⟩) (fun i hi ho => ws_notover i hi ho) ws_fin (fun i hi => Nat.le_trans (ws_len i hi) (by rw [sizeLine_eq]; decide)) (fun h7 tk7 t7 k7 => ?_)
  have F7 := F6.keeps k7
  have N7 := N6.grown k7
  clear F6 N6
  rw [ws_end]
  obtain ⟨c24, hc24⟩ : ∃ c, c = Float64.ofInt 24 := ⟨_, rfl⟩
  have hz : Float64.isZero c24 = false := by rw [hc24]; decide +kernel
  rw [← hc24] at hret ⊢
  clear hc24
  try dsimp only
  iterate 8 (walk1; (try dsimp only))
  rw [if_neg (by rw [hz]; decide)]
  iterate 6 (walk1; (try dsimp only))
  have hov : ¬ PySem.Flt.Over (preMul (fun i => as.getD i 0) wsF 8) := by
    have h : InLong (preMul (fun i => as.getD i 0) wsF 8) := (fits8 hb 7 (by omega)).2.2.2
    intro ho
    unfold InLong at h
    have h2 : (preMul (fun i => as.getD i 0) wsF 8).natAbs ≤ 2 ^ 63 := by clear hb ho; generalize preMul (fun i => as.getD i 0) wsF 8 = z at h ⊢; omega
    have h3 : 2 ^ 1024 - 2 ^ 970 ≤ 2 ^ 63 := Nat.le_trans ho h2
    exact absurd h3 (by decide +kernel)
  refine PySem.Flt.truediv_if rfl (fun ho => absurd ho hov) (fun _ hz2 => absurd hz2 (by rw [hz]; decide)) ?_
  intro _ _
  try dsimp only
  ktr_unf
  rename Fr _ _ _ _ => F8
  rename News _ _ _ _ => N8
  refine hret _ _ _ F8 (fun q hq => ?_)
  simp only [List.mem_cons] at hq
  rcases hq with rfl | rfl | hq
  · exact N8 _ (.tail _ (.tail _ (.head _)))
  · exact N8 _ (.tail _ (.tail _ (.tail _ (.head _))))
  · exact N8 _ (.tail _ (.tail _ (.tail _ (.tail _ hq))))
end
end
end Mine
end
section
open PySem PySem.W PyProof.Rows PySem.Calls
namespace Mine
theorem reset29 {M : Model} {A : Around} {E : Value → Shared → Prop} {s : Shared} {env : Env} {Q : Flow → Shared → Prop} (h : Q .next s) : wpAny M A (execs [] env) Q E s := by
  w_top off
  walk1
  w_top off
  exact h
end Mine
end
/-! R10 -/
section
open PySem PySem.W PyProof.Rows PySem.Calls PySem.SeqAt
set_option Elab.async false
set_option maxRecDepth 100000
set_option maxHeartbeats 4000000
set_option linter.unusedVariables false
namespace Mine
/-- a name -/
noncomputable def nmStr (b : Bool) : Str := match b with
  | true => Str.ofString "a-"
  | false => Str.ofString "a"
noncomputable def nmV (b : Bool) (t : Tok) : Value := .str (nmStr b) t
/-- a list of names -/
noncomputable def rowArr (p : Row) (ts : Nat → Tok) : Array Value := (p.zipIdx.map fun x => nmV x.1 (ts x.2)).toArray
theorem rowArr_size (p : Row) (ts : Nat → Tok) : (rowArr p ts).size = p.length := by simp [rowArr]
theorem rowArr_get {p : Row} {ts : Nat → Tok} {i : Nat} (h : i < p.length) : (rowArr p ts)[i]? = some (nmV p[i] (ts i)) := by
  simp [rowArr, List.getElem?_eq_getElem h]
theorem rowArr_get' {p : Row} {ts : Nat → Tok} {i : Nat} (h : i < (rowArr p ts).size) : (rowArr p ts)[i] = nmV (p[i]'(by rw [rowArr_size] at h; exact h)) (ts i) := by
  have h2 : i < p.length := by rw [rowArr_size] at h; exact h
  have := rowArr_get (ts := ts) h2
  rw [Array.getElem?_eq_getElem h] at this
  exact Option.some.inj this
theorem rowArr_take (p : Row) (ts : Nat → Tok) (d : Nat) : ((rowArr p ts).toList.take d).toArray = rowArr (p.take d) ts := by
  unfold rowArr
  congr 1
  rw [List.toList_toArray]
  apply List.ext_getElem?
  intro i
  simp only [List.getElem?_take, List.getElem?_map, List.getElem?_zipIdx]
  split <;> simp
theorem nm_inj {a b : Bool} : nmStr a = nmStr b ↔ a = b := by
  cases a <;> cases b <;> decide
theorem rowArr_inj {p q : Row} {ts us : Nat → Tok} (h : rowArr p ts = rowArr q us) : p = q := by
  apply List.ext_getElem?
  intro i
  have hl : p.length = q.length := by rw [← rowArr_size p ts, ← rowArr_size q us, h]
  by_cases hi : i < p.length
  · have h1 := rowArr_get (ts := ts) hi
    have h2 := rowArr_get (ts := us) (hl ▸ hi)
    rw [h, h2] at h1
    have h3 := Option.some.inj h1
    unfold nmV at h3
    injection h3 with h4 h5
    rw [List.getElem?_eq_getElem hi, List.getElem?_eq_getElem (hl ▸ hi), nm_inj.mp h4]
  · rw [List.getElem?_eq_none (by omega), List.getElem?_eq_none (by omega)]
section
variable {prog : Program} {w : World} {A : Around} {E : Value → Shared → Prop} {s : Shared} {h₀ : Heap} {L : Addr} {m : Str → Option Value} {news : List (Addr × Obj)} {Q : Value → Shared → Prop}
theorem pick_upto (its : Array Value) {d : Int} (h : 0 ≤ d) : slicePick its none (some d) none = (its.toList.take d.toNat).toArray := by
  have e : sliceBounds none (some d) none its.size = (((0 : Nat) : Int), ((min d.toNat its.size : Nat) : Int), 1) := by
    simp only [sliceBounds, Option.getD_none, show (1 : Int) > 0 by decide, if_true, if_neg (show ¬ (d < 0) by omega)]
    congr 1
    congr 1
    omega
  rw [kmk_pick_nat _ e, List.drop_zero, Nat.sub_zero, ← Array.length_toList, kmk_take_min]
/-- a row's head -/
theorem take_row {value slice : Expr} {l : Addr} {p : Row} {ts : Nat → Tok} {n : Nat} {d : Int} {t : Tok} (hd : 0 ≤ d) (hp : p.length ≤ 100) (F : Fr h₀ L s.heap m) (N : News h₀ L s.heap news) (hm : (l, listOf (rowArr p ts) n) ∈ news)
    (h : ∀ D h', Fr h₀ L h' m → News h₀ L h' ((D, listOf (rowArr (p.take d.toNat) ts) 0) :: news) → (∀ q ∈ news, q.1 < D) → Q (.ref D) { s with heap := h' })
    (hs : subscripted slice false (.ref l) (.ref s.heap.objs.size) = operate [.ref s.heap.objs.size, .ref l] (getItem (.ref l) (.ref s.heap.objs.size))) (ht : ∀ r, letTemporaryGo value (.ref l) r = pure ()) :
    wpAny (model prog w) A (subscriptTail value slice (.ref l) (.ref s.heap.objs.size)) Q E { s with heap := s.heap.push { cls := .type "slice", data := .fields #[.none, .int d t, .none] } } := by
  refine kmk_slice (lo := none) (hi := some d) F N ⟨_, N.get hm, rfl, n, rfl⟩ .none (.int _ _) (fun D h' F' N' l1 => h D h' F' ?_ l1) hs ht ?_
  · rw [pick_upto _ hd, rowArr_take] at N'
    exact N'
  · rw [rowArr_size, sizeLine_eq]; omega
theorem nm_eq {A : Around} {s : Shared} {a b : Bool} {t u : Tok} : EqAt A s (nmV a t) (nmV b u) (decide (a = b)) := fun prog w E Q h => wpAny_eqBool_str (by
  have e : decide (nmStr a = nmStr b) = decide (a = b) := decide_eq_decide.mpr nm_inj
  rw [e]; exact h)
theorem row_rc {a b : Addr} {p q : Row} {ts us : Nat → Tok} (ha : s.heap.IsList a (rowArr p ts)) (hb : s.heap.IsList b (rowArr q us)) (hu : A.units < cLine) : RcAt A s (.ref a) (.ref b) (decide (p = q)) := by
  by_cases hl : p.length = q.length
  · have h := RcAt.lists (A := A) (e := fun j => decide (p[j]? = q[j]?)) ha hb (by rw [rowArr_size, rowArr_size, hl]) hu (fun j h1 h2 => by
      rw [rowArr_get' h1, rowArr_get' h2]
      have g1 : j < p.length := by rw [rowArr_size] at h1; exact h1
      have g2 : j < q.length := by rw [rowArr_size] at h2; exact h2
      have e : decide (p[j]? = q[j]?) = decide (p[j] = q[j]) := by
        rw [List.getElem?_eq_getElem g1, List.getElem?_eq_getElem g2]
        exact decide_eq_decide.mpr ⟨Option.some.inj, congrArg some⟩
      rw [e]
      exact nm_eq)
    have e : (List.range (rowArr p ts).size).all (fun j => decide (p[j]? = q[j]?)) = decide (p = q) := by
      rw [rowArr_size]
      by_cases hpq : p = q
      · subst hpq; simp
      · rw [decide_eq_false hpq, List.all_eq_false]
        apply Classical.byContradiction
        intro hno
        refine hpq (List.ext_getElem? fun i => ?_)
        by_cases hi : i < p.length
        · apply Classical.byContradiction
          intro hne
          exact hno ⟨i, List.mem_range.mpr hi, by simpa using hne⟩
        · rw [List.getElem?_eq_none (by omega), List.getElem?_eq_none (by omega)]
    rw [← e]
    exact h
  · have hne : p ≠ q := fun e => hl (by rw [e])
    rw [decide_eq_false hne]
    exact RcAt.lists_lengths ha hb (by rw [rowArr_size, rowArr_size]; simpa using hl) hu
theorem row_eq {a b : Addr} {p q : Row} {ts us : Nat → Tok} {n n' : Nat} (N : News h₀ L s.heap news) (ha : (a, listOf (rowArr p ts) n) ∈ news) (hb : (b, listOf (rowArr q us) n') ∈ news) (hu : A.units < cLine) (h : Q (.bool (decide (p = q))) s) :
    wpAny (model prog w) A (compareOp .Eq (.ref a) (.ref b)) Q E s :=
  cmp_ofEq (row_rc (A := A) ⟨_, N.get ha, rfl, n, rfl⟩ ⟨_, N.get hb, rfl, n', rfl⟩ hu prog w E Q h)
/-- a list of names that has been kept -/
structure SIt where
  a : Addr
  q : Row
  ts : Nat → Tok
  n : Nat
noncomputable def SIt.o (x : SIt) : Obj := listOf (rowArr x.q x.ts) x.n
noncomputable def svals (xs : List SIt) : Array Value := (xs.map fun x => Value.ref x.a).toArray
theorem svals_push (xs : List SIt) (x : SIt) : (svals xs).push (.ref x.a) = svals (xs ++ [x]) := by simp [svals]
theorem svals_size (xs : List SIt) : (svals xs).size = xs.length := by simp [svals]
theorem not_in_rows {D lS : Addr} {q : Row} {us : Nat → Tok} {eS nD : Nat} {xs : List SIt} (N : News h₀ L s.heap news) (hS : (lS, listOf (svals xs) eS) ∈ news) (hD : (D, listOf (rowArr q us) nD) ∈ news) (hx : ∀ x ∈ xs, (x.a, x.o) ∈ news) (hne : ∀ x ∈ xs, x.a ≠ D)
    (hu : A.units + 2 < cLine) (h : Q (.bool (!decide (q ∈ xs.map SIt.q))) s) : wpAny (model prog w) A (compareOp .NotIn (.ref D) (.ref lS)) Q E s := by
  refine notIn_listAt (items := svals xs) (fun v => decide (∃ x ∈ xs, v = .ref x.a ∧ x.q = q)) ⟨_, N.get hS, rfl, eS, rfl⟩ ?_ ?_
  · intro y hy
    obtain ⟨x, hxm, rfl⟩ : ∃ x ∈ xs, Value.ref x.a = y := by simpa [svals] using hy
    have hrc := row_rc (A := A.in1) (s := s) (a := x.a) (b := D) (p := x.q) (q := q) (ts := x.ts) (us := us) ⟨_, N.get (hx x hxm), rfl, x.n, rfl⟩ ⟨_, N.get hD, rfl, nD, rfl⟩ (by show A.units + 1 < cLine; omega)
    have e : decide (∃ x' ∈ xs, Value.ref x.a = .ref x'.a ∧ x'.q = q) = decide (x.q = q) := by
      refine decide_eq_decide.mpr ⟨?_, fun e => ⟨x, hxm, rfl, e⟩⟩
      rintro ⟨x', hx', ea, eq⟩
      injection ea with ea
      have h1 := (N _ (hx x hxm)).1
      have h2 := (N _ (hx x' hx')).1
      dsimp only at h1 h2
      rw [← ea, h1] at h2
      have h3 := Option.some.inj h2
      unfold SIt.o at h3
      have h4 : (Obj.data (listOf (rowArr x.q x.ts) x.n)) = Obj.data (listOf (rowArr x'.q x'.ts) x'.n) := congrArg Obj.data h3
      injection h4 with h5 h6
      rw [rowArr_inj h5, eq]
    rw [e]
    exact EqAt.of_refs (hne x hxm) hrc
  · have e : (svals xs).any (fun v => decide (∃ x ∈ xs, v = .ref x.a ∧ x.q = q)) = decide (q ∈ xs.map SIt.q) := by
      by_cases hq : q ∈ xs.map SIt.q
      · obtain ⟨x, hxm, rfl⟩ := List.mem_map.mp hq
        rw [decide_eq_true hq, Array.any_eq_true']
        exact ⟨.ref x.a, by simp [svals]; exact ⟨x, hxm, rfl⟩, by rw [decide_eq_true_iff]; exact ⟨x, hxm, rfl, rfl⟩⟩
      · rw [decide_eq_false hq, Array.any_eq_false']
        intro v hv
        rw [decide_eq_true_iff]
        rintro ⟨x, hxm, _, e⟩
        exact hq (List.mem_map.mpr ⟨x, hxm, e⟩)
    rw [e]; exact h
/-- the sum of a list of numbers -/
theorem sum_list {l : Addr} {its : Array Value} {ns : List Int} {n : Nat} (hh : A.in1.handled = none) (F : Fr h₀ L s.heap m) (N : News h₀ L s.heap news) (hm : (l, listOf its n) ∈ news) (hsz : its.size = ns.length) (hi : ∀ i (h : i < ns.length), ∃ t, its[i]? = some (.int ns[i] t))
    (h : ∀ h' tk t, Fr h₀ L h' m → News h₀ L h' news → Q (.int ns.sum t) { s with heap := h', toks := tk }) : wpAny (model prog w) A (call (.builtin "sum") [.ref l]) Q E s := by
  have hl : s.heap.IsList l its := ⟨_, N.get hm, rfl, n, rfl⟩
  have hlt : l < s.heap.objs.size := Heap.lt_size (N.get hm)
  refine call_sum_walkAnyS (wpAny_pyIter_list hl ?_)
  refine ⟨s.heap.objs.size, _, _, _, its.size, _, _, fun i => ns.getD i 0, rfl, (Walks.list (prog := prog) (w := w) hh s.heap.objs.size l (Nat.ne_of_lt hlt) its).toS, ⟨⟨_, Heap.get?_push_size _ rfl, rfl, rfl⟩, hl.push _⟩, ?_, ?_, ?_⟩
  · intro b hb
    show b < (s.heap.push _).objs.size
    rw [Heap.size_push]
    rcases List.mem_cons.mp hb with rfl | hb
    · exact Nat.lt_succ_self _
    · rw [List.mem_singleton.mp hb]; exact Nat.lt_succ_of_lt hlt
  · intro i v hv
    have hlt2 : i < ns.length := by
      have := (Array.getElem?_eq_some_iff.mp hv).1
      omega
    obtain ⟨t, ht⟩ := hi i hlt2
    rw [ht] at hv
    exact ⟨t, by rw [← Option.some.inj hv]; show Value.int ns[i] t = Value.int (ns.getD i 0) t; rw [List.getD_eq_getElem?_getD, List.getElem?_eq_getElem hlt2]; rfl⟩
  · intro s' t' hmv
    have hk : ∀ b o, s.heap.get? b = some o → s'.heap.get? b = some o := fun b o e => hmv.heap b o (by
      intro hb
      rw [List.mem_singleton.mp hb] at e
      exact absurd (Heap.lt_size e) (Nat.lt_irrefl _)) (Heap.get?_push_of_some _ e)
    have es : s' = { s with heap := s'.heap, toks := s'.toks } := by
      obtain ⟨h1, g1, d1, t1, o1⟩ := s'
      have e1 : g1 = s.gens := hmv.gens
      have e2 : d1 = s.drawn := hmv.drawn
      have e3 : o1 = s.os := hmv.os
      subst e1 e2 e3
      rfl
    rw [hsz, preSum_getD, List.take_length, es]
    exact h _ _ _ (F.keeps hk) (N.grown hk)
end
end Mine
end
section
open PySem PySem.W PyProof.Rows PySem.Calls
namespace Mine
theorem reset30 {M : Model} {A : Around} {E : Value → Shared → Prop} {s : Shared} {env : Env} {Q : Flow → Shared → Prop} (h : Q .next s) : wpAny M A (execs [] env) Q E s := by
  w_top off
  walk1
  w_top off
  exact h
end Mine
end
/-! S0 -/
section
open PySem PySem.W PyProof.Rows PySem.Calls
set_option Elab.async false
set_option maxRecDepth 100000
set_option maxHeartbeats 4000000
set_option linter.unusedVariables false
namespace Mine
/-- numbers of a list, one way and the other -/
theorem ints_of {vs : List Value} {ns : List Int} (h : IntsAre vs ns) : ∃ ts, vs.toArray = intArr ns ts := by
  have hl := h.length
  have hex : ∀ i, ∃ t : Tok, ∀ hi : i < ns.length, vs[i]? = some (.int ns[i] t) := by
    intro i
    by_cases hi : i < ns.length
    · obtain ⟨t, ht⟩ := h.get i ns[i] (List.getElem?_eq_getElem hi)
      exact ⟨t, fun _ => ht⟩
    · exact ⟨0, fun h => absurd h hi⟩
  refine ⟨fun i => Classical.choose (hex i), ?_⟩
  apply Array.ext_getElem?
  intro i
  by_cases hi : i < ns.length
  · rw [intArr_get hi, List.getElem?_toArray]
    refine (Classical.choose_spec (hex i) hi).trans ?_
    rw [List.getD_eq_getElem?_getD, List.getElem?_eq_getElem hi]
    rfl
  · rw [intArr_none hi, List.getElem?_toArray, List.getElem?_eq_none (by omega)]
theorem of_ints (ns : List Int) (ts : Nat → Tok) : IntsAre (intArr ns ts).toList ns := by
  have h : ∀ (l : List Int) (k : Nat), IntsAre ((l.zipIdx k).map fun x => Value.int x.1 (ts x.2)) l := by
    intro l
    induction l with
    | nil => intro k; exact .nil
    | cons n r ih => intro k; exact .cons n _ (ih (k + 1))
  unfold intArr
  rw [List.toList_toArray]
  exact h ns 0
section
variable {prog : Program} {w : World} {A : Around} {E : Value → Shared → Prop} {s : Shared} {h₀ : Heap} {L : Addr} {m : Str → Option Value} {news : List (Addr × Obj)} {Q : Value → Shared → Prop}
theorem sum_are {l : Addr} {its : Array Value} {ns : List Int} (hh : A.in1.handled = none) (F : Fr h₀ L s.heap m) (N : News h₀ L s.heap news) (hl : s.heap.IsList l its) (hi : IntsAre its.toList ns)
    (h : ∀ h' tk t, Fr h₀ L h' m → News h₀ L h' news → Q (.int ns.sum t) { s with heap := h', toks := tk }) : wpAny (model prog w) A (call (.builtin "sum") [.ref l]) Q E s := by
  have hlt : l < s.heap.objs.size := by obtain ⟨_, e, _⟩ := hl; exact Heap.lt_size e
  have hsz : its.size = ns.length := by have := hi.length; simpa using this
  refine call_sum_walkAnyS (wpAny_pyIter_list hl ?_)
  refine ⟨s.heap.objs.size, _, _, _, its.size, _, _, fun i => ns.getD i 0, rfl, (Walks.list (prog := prog) (w := w) hh s.heap.objs.size l (Nat.ne_of_lt hlt) its).toS, ⟨⟨_, Heap.get?_push_size _ rfl, rfl, rfl⟩, hl.push _⟩, ?_, ?_, ?_⟩
  · intro b hb
    show b < (s.heap.push _).objs.size
    rw [Heap.size_push]
    rcases List.mem_cons.mp hb with rfl | hb
    · exact Nat.lt_succ_self _
    · rw [List.mem_singleton.mp hb]; exact Nat.lt_succ_of_lt hlt
  · intro i v hv
    have hlt2 : i < ns.length := by
      have := (Array.getElem?_eq_some_iff.mp hv).1
      omega
    obtain ⟨t, ht⟩ := hi.get i ns[i] (List.getElem?_eq_getElem hlt2)
    rw [Array.getElem?_toList, hv] at ht
    refine ⟨t, ?_⟩
    rw [Option.some.inj ht]
    show Value.int ns[i] t = Value.int (ns.getD i 0) t
    rw [List.getD_eq_getElem?_getD, List.getElem?_eq_getElem hlt2]; rfl
  · intro s' t' hmv
    have hk : ∀ b o, s.heap.get? b = some o → s'.heap.get? b = some o := fun b o e => hmv.heap b o (by
      intro hb
      rw [List.mem_singleton.mp hb] at e
      exact absurd (Heap.lt_size e) (Nat.lt_irrefl _)) (Heap.get?_push_of_some _ e)
    have es : s' = { s with heap := s'.heap, toks := s'.toks } := by
      obtain ⟨h1, g1, d1, t1, o1⟩ := s'
      have e1 : g1 = s.gens := hmv.gens
      have e2 : d1 = s.drawn := hmv.drawn
      have e3 : o1 = s.os := hmv.os
      subst e1 e2 e3
      rfl
    rw [hsz, preSum_getD, List.take_length, es]
    exact h _ _ _ (F.keeps hk) (N.grown hk)
/-- a slice of the script -/
theorem slice_ints3 {value slice : Expr} {l : Addr} {vs : List Value} {ns : List Int} {vl vu vk : Value} {lo hi st : Option Int} {ops : List Value} (F : Fr h₀ L s.heap m) (N : News h₀ L s.heap news) (hl : s.heap.IsList l vs.toArray) (hn : IntsAre vs ns) (hlen : ns.length ≤ 100) (pl : IsPart vl lo) (pu : IsPart vu hi) (pk : IsPart vk st) (h0 : st ≠ some 0)
    (h : ∀ D its h', Fr h₀ L h' m → News h₀ L h' ((D, listOf its 0) :: news) → IntsAre its.toList (pickNums ns lo hi st) → (∀ q ∈ news, q.1 < D) → Q (.ref D) { s with heap := h' })
    (hs : subscripted slice false (.ref l) (.ref s.heap.objs.size) = operate ops (getItem (.ref l) (.ref s.heap.objs.size))) (ht : ∀ r, letTemporaryGo value (.ref l) r = pure ()) :
    wpAny (model prog w) A (subscriptTail value slice (.ref l) (.ref s.heap.objs.size)) Q E { s with heap := s.heap.push { cls := .type "slice", data := .fields #[vl, vu, vk] } } :=
  slice_list3 F N hl pl pu pk h0 (fun h' F' N' => h _ _ h' F' N' (hn.pick lo hi st) (fun q hq => Nat.lt_succ_of_lt (Heap.lt_size (N q hq).1))) hs ht (by have := hn.length; rw [sizeLine_eq, List.size_toArray]; omega)
end
/-- a cell is stored -/
theorem store_cell {prog : Program} {w : World} {A : Around} {E : Value → Shared → Prop} {s : Shared} {env : Env} {h₀ : Heap} {m : Str → Option Value} {x : Str} {c : Addr} {o : Obj} {v₀ : Option Value} {v : Value} {rest : List (Addr × Obj)} {Q : Unit → Shared → Prop}
    (hk : env.scope.kind = .function) (hx : env.kindOf x = some .cell) (hc : env.cells.lookup x = some c) (F : Fr h₀ env.locals s.heap m) (N : News h₀ env.locals s.heap ((c, o) :: rest)) (hd : o.data = .cell v₀) (hoff : ∀ p ∈ rest, p.1 ≠ c)
    (h : ∀ h' o', o'.data = .cell (some v) → Fr h₀ env.locals h' m → News h₀ env.locals h' ((c, o') :: rest) → Q () { s with heap := h' }) :
    wpAny (model prog w) A (storeName env x v) Q E s := by
  have hm := N (c, o) (.head _)
  refine wpAny_storeName_cell hk hx hc ⟨o, hm.1, hd⟩ fun h' hv hs => ?_
  obtain ⟨o', ho', hd'⟩ := hv
  refine h h' o' hd' ⟨F.ns.sameBut hs (Ne.symm hm.2.1), fun b ob e => (hs.2 b (fun q => ?_)).trans (F.keep b ob e), F.above⟩ fun p hp => ?_
  · rw [q, hm.2.2] at e; cases e
  · rcases List.mem_cons.mp hp with rfl | hp
    · exact ⟨ho', hm.2⟩
    · have z := N p (.tail _ hp)
      exact ⟨(hs.2 p.1 (hoff p hp)).trans z.1, z.2⟩
end Mine
end
section
open PySem PySem.W PyProof.Rows PySem.Calls
namespace Mine
theorem reset31 {M : Model} {A : Around} {E : Value → Shared → Prop} {s : Shared} {env : Env} {Q : Flow → Shared → Prop} (h : Q .next s) : wpAny M A (execs [] env) Q E s := by
  w_top off
  walk1
  w_top off
  exact h
end Mine
end
/-! D1 -/
section
open PySem PySem.W PyProof.Rows PySem.Calls
set_option Elab.async false
set_option maxRecDepth 100000
namespace Mine
noncomputable def priceK (qs : List Int) (q : Row) : Int := qs.getD ((pathCps q).length - 1) 0
noncomputable def usersK (rows : List Row) (q : Row) : Int := ((List.range 4).map fun i => if (rows.getD i []).take q.length = q then (2 : Int) ^ i else 0).sum
noncomputable def lineStep (qs : List Int) (rows : List Row) (q : Row) (st : List Row × List (Int × Int)) : List Row × List (Int × Int) :=
  if q ∈ st.1 then st else (st.1 ++ [q], st.2 ++ [(priceK qs q, usersK rows q)])
noncomputable def depthF (qs : List Int) (rows : List Row) (q : Row) : Nat → List Row × List (Int × Int) → List Row × List (Int × Int)
  | 0, st => st
  | i + 1, st => lineStep qs rows (q.take (i + 1)) (depthF qs rows q i st)
noncomputable def rowsF (qs : List Int) (rows : List Row) (i : Nat) : List Row × List (Int × Int) := (rows.take i).foldl (fun st q => depthF qs rows q q.length st) ([], [])
end Mine
end
section
open PySem PySem.W PyProof.Rows PySem.Calls
namespace Mine
theorem reset32 {M : Model} {A : Around} {E : Value → Shared → Prop} {s : Shared} {env : Env} {Q : Flow → Shared → Prop} (h : Q .next s) : wpAny M A (execs [] env) Q E s := by
  w_top off
  walk1
  w_top off
  exact h
end Mine
end
/-! L0 -/
section
open PySem PySem.W PyProof.Rows PySem.Calls
set_option Elab.async false
set_option maxRecDepth 100000
set_option maxHeartbeats 8000000
set_option linter.unusedVariables false
namespace Mine
theorem sum_ints {prog : Program} {w : World} {A : Around} {E : Value → Shared → Prop} {s : Shared} {h₀ : Heap} {L : Addr} {m : Str → Option Value} {news : List (Addr × Obj)} {Q : Value → Shared → Prop} {l : Addr} {ns : List Int} {ts : Nat → Tok} {n : Nat} (hh : A.in1.handled = none) (F : Fr h₀ L s.heap m) (N : News h₀ L s.heap news) (hm : (l, listOf (intArr ns ts) n) ∈ news)
    (h : ∀ h' tk t, Fr h₀ L h' m → News h₀ L h' news → Q (.int ns.sum t) { s with heap := h', toks := tk }) : wpAny (model prog w) A (call (.builtin "sum") [.ref l]) Q E s :=
  sum_list hh F N hm (intArr_size _ _) (fun i hi => ⟨_, by rw [intArr_get hi]; rw [List.getD_eq_getElem?_getD, List.getElem?_eq_getElem hi]; rfl⟩) h
end Mine
end
section
open PySem PySem.W PyProof.Rows PySem.Calls
set_option maxRecDepth 100000
set_option maxHeartbeats 8000000
set_option linter.unusedVariables false
namespace Mine
/-! gL -/
section
local macro_rules | `(tactic| k_all) => `(tactic| assumption)
local macro_rules | `(tactic| k_mem) => `(tactic| assumption)
local macro_rules | `(tactic| walk_at "CompSrc") => `(tactic| (k_here; k_dflt (refine LCg.CompSrc.range (by rfl) (by k_asm) (by k_asm) (by assumption) (by first | decide | rfl) (by first | rfl | decide) (by first | size_fits | exact Nat.le_of_ble_eq_true rfl) ?_; intro g'; lcg_lit)))
local macro_rules | `(tactic| walk_at "CompRest") => `(tactic| (with_unfolding_all first
  | (refine LCg.CompRest.succ ?_; intro v' I' oI' C' oC' D' m' h' tk' E' hv' hC' hx' F' N' off' ne'; (first | lcg_open hv' | (obtain ⟨t9', hv9'⟩ := hv'; subst hv9')))
  | refine LCg.CompRest.zero ?_))
local macro_rules | `(tactic| walk_at "CompEnd") => `(tactic| first
  | (refine' compEnd1 ?f ?n ?e ?o ?s ?_; (case f => k_asm); (case n => k_asm); (case o => assumption); (case s => exact True.intro); (case e => (refine ⟨?_, ?_, ?_⟩ <;> k_ne)))
  | (refine' compEnd0 ?f ?n ?o ?s ?_; (case f => k_asm); (case n => k_asm); (case o => assumption); (case s => exact True.intro)))
local macro_rules | `(tactic| walk_at "getMethod") => `(tactic| (k_here; first | (refine pv_count (by assumption) (by with_unfolding_all rfl) ?_) | (refine pv_rindex (by assumption) (by assumption) (by with_unfolding_all rfl) ?_)))
local macro_rules | `(tactic| walk_at "FinA") => `(tactic| ((unfold LCg.FinA); intro D' h' tk' F' N' o1'; (try simp only [List.nil_append, List.cons_append] at N'); (try dsimp only)))
local macro_rules | `(tactic| walk_at "SepIs") => `(tactic| refine sepIs ?_)
local macro_rules | `(tactic| walk_at "call ref") => `(tactic| (k_here; (with_reducible show wpAny _ _ (call (Value.ref 84) _) _ _ _); k_dflt (
  refine' sep_ok _ _ _ _ _ _ _ _ _ _ _ _ _ _ _ _ _ _ _ _ ?xB ?xF ?xX ?xN ?xT ?xk ?xd ?xu ?_; (case xN => k_asm); (case xF => k_asm); (case xB => k_asm); (case xX => k_asm); (case xT => k_asm); (case xk => first | exact rfl | assumption); (case xd => ktr_room); (case xu => ktr_units); intro t9 h9 tk9 F9 N9; (try dsimp only); (try k_fold))))
local macro_rules | `(tactic| walk_at "subscriptTail Name Name ref int") => `(tactic| (k_here; k_dflt (refine' sub_list ?n ?m ?a ?b ?c ?_ ?hs; (case n => k_asm); (case m => k_mem); (case a => first | omega | decide); (case b => first | omega | decide); (case c => rfl); (case hs => with_unfolding_all rfl))))
local macro_rules | `(tactic| walk_at "subscriptTail Name Constant ref int") => `(tactic| (k_here; k_dflt (refine' sub_list ?n ?m ?a ?b ?c ?_ ?hs; (case n => k_asm); (case m => k_mem); (case a => first | omega | decide); (case b => first | omega | decide); (case c => rfl); (case hs => with_unfolding_all rfl))))
local macro_rules | `(tactic| k_mem) => `(tactic| first | assumption | exact .tail _ (by assumption) | exact .tail _ (.tail _ (by assumption)) | exact .tail _ (.tail _ (.tail _ (by assumption))) | exact .tail _ (.tail _ (.tail _ (.tail _ (by assumption)))) | exact .tail _ (.tail _ (.tail _ (.tail _ (.tail _ (by assumption))))) | exact .tail _ (.tail _ (.tail _ (.tail _ (.tail _ (.tail _ (by assumption)))))) | exact .tail _ (.tail _ (.tail _ (.tail _ (.tail _ (.tail _ (.tail _ (by assumption))))))) | exact .tail _ (.tail _ (.tail _ (.tail _ (.tail _ (.tail _ (.tail _ (.tail _ (by assumption)))))))) | exact .head _ | exact .tail _ (.head _) | exact .tail _ (.tail _ (.head _)) | exact .tail _ (.tail _ (.tail _ (.head _))))
local macro_rules | `(tactic| walk_at "subscriptTail Name Constant ref int") => `(tactic| (k_here; k_dflt (first
  | (refine' sub_list ?n ?m ?a ?b ?c ?_ ?hs; (case n => k_asm); (case m => k_mem); (case a => first | omega | decide); (case b => first | omega | decide); (case c => rfl); (case hs => with_unfolding_all rfl))
  | (refine' sub_tup3 ?n ?m ?a ?b ?c ?_ ?hs; (case n => k_asm); (case m => k_mem); (case a => first | omega | decide); (case b => first | omega | decide); (case c => rfl); (case hs => with_unfolding_all rfl)))))
local macro_rules | `(tactic| walk_at "subscriptTail Name Slice ref ref") => `(tactic| (k_here; k_dflt (refine' take_row ?a ?b ?f ?n ?m ?_ ?hs ?ht; (case f => k_asm); (case n => k_asm); (case m => k_mem); (case a => omega); (case b => omega); (case hs => with_unfolding_all rfl); (case ht => intro _; with_unfolding_all rfl)); intro D' h' F' N' l'; (try dsimp only)))
local macro_rules | `(tactic| walk_at "subscriptTail Subscript Slice ref ref") => `(tactic| (k_here; k_dflt (refine' take_row ?a ?b ?f ?n ?m ?_ ?hs ?ht; (case f => k_asm); (case n => k_asm); (case m => k_mem); (case a => omega); (case b => omega); (case hs => with_unfolding_all rfl); (case ht => intro _; with_unfolding_all rfl)); intro D' h' F' N' l'; (try dsimp only)))
local macro_rules | `(tactic| walk_at "subscriptTail Name Name ref int") => `(tactic| (k_here; k_dflt (refine' sub_list ?n ?m ?a ?b ?c ?_ ?hs; (case n => k_asm); (case m => k_mem); (case a => first | omega | decide); (case b => first | omega | decide); (case c => first | assumption | rfl); (case hs => with_unfolding_all rfl))))
local macro_rules | `(tactic| walk_at "compareOp Eq ref ref") => `(tactic| (k_here; k_dflt (refine' row_eq ?n ?a ?b ?u ?_; (case n => k_asm); (case a => k_mem); (case b => k_mem); (case u => ktr_units))))
local macro_rules | `(tactic| walk_at "call builtin:sum cons nil") => `(tactic| (k_here; k_dflt (refine' sum_ints ?a ?f ?n ?m ?_; (case f => k_asm); (case n => k_asm); (case m => k_mem); (case a => exact rfl)); intro h' tk' t' F' N'; (try dsimp only)))
/-! gLa -/
section
local macro_rules | `(tactic| ktr_unf) => `(tactic| repeat' (first | (k_unfold; (try dsimp only)) | ((fail_if_success (with_reducible show wpAny _ _ (pyIter _) _ _ _)); (fail_if_success (with_reducible show wpAny _ _ (eval (Expr.ListComp _ _ _ _) _) _ _ _)); (fail_if_success (with_reducible show LCt.CompSrcT _ _ _ _ _ _ _ _ _ _ _ _ _ _ _)); (fail_if_success (with_reducible show LCg.CompSrc _ _ _ _ _ _ _ _ _ _ _ _ _ _)); (first | walk1 | (dsimp only; walk1) | (leave1; (try dsimp only))))))
theorem reset33 {M : Model} {A : Around} {E : Value → Shared → Prop} {s : Shared} {env : Env} {Q : Flow → Shared → Prop} (h : Q .next s) : wpAny M A (execs [] env) Q E s := by
  w_top off
  walk1
  w_top off
  exact h
/-! L1 -/
section
open PySem PySem.W PyProof.Rows PySem.Calls
set_option Elab.async false
set_option maxRecDepth 100000
set_option maxHeartbeats 8000000
set_option linter.unusedVariables false
theorem fill20 : Challenge.rw_op0038_01 = Challenge.rw_op0038_01 ∧ hd.heap_39 = hd.heap_39 := by
  k_fill
  exact ⟨rfl, rfl⟩





noncomputable def nmLen (b : Bool) : Int := ((nmStr b).length : Int)
theorem nm_len (b : Bool) : (nmStr b).length ≤ 2 := by cases b <;> decide
theorem take_in3 : ∀ p ∈ allRows, ∀ d, d < 4 → 1 ≤ d → d ≤ p.length → p.take d ∈ allRows := by decide +kernel
theorem lens_path : ∀ p ∈ allRows, (p.map nmLen).sum + (p.length : Int) - 2 = (((pathCps p).length - 1 : Nat) : Int) ∧ (pathCps p).length ≤ 8 ∧ 1 ≤ (pathCps p).length := by decide +kernel
local macro_rules | `(tactic| walk_at "subscriptTail Name BinOp ref int") => `(tactic| (k_here; k_dflt (refine' sub_list ?n ?m ?a ?b ?c ?_ ?hs; (case n => k_asm); (case m => k_mem); (case a => first | omega | decide); (case b => first | omega | decide); (case c => first | assumption | rfl); (case hs => with_unfolding_all rfl))))
noncomputable def linesF : Stmt := nth 14 Prg.main.body
noncomputable def rowB : List Stmt := forB (nth 2 (defB linesF))
noncomputable def depthB : List Stmt := forB (nth 0 rowB)
noncomputable def linesEnv (L : Addr) : Env := envOfC (Str.ofString "_law_lines") (defS linesF) L 115 (.ref 114)
/-- a line: what it costs, who needs it -/
structure LIt where
  a : Addr
  c : Int
  u : Int
  t1 : Tok
  t2 : Tok
  n : Nat
noncomputable def LIt.o (y : LIt) : Obj := { cls := .type "tuple", data := .seq #[.int y.c y.t1, .int y.u y.t2] y.n }
noncomputable def lvals (ys : List LIt) : Array Value := (ys.map fun y => Value.ref y.a).toArray
theorem lvals_push (ys : List LIt) (y : LIt) : (lvals ys).push (.ref y.a) = lvals (ys ++ [y]) := by simp [lvals]
theorem lvals_size (ys : List LIt) : (lvals ys).size = ys.length := by simp [lvals]
theorem mk_lit {h₀ h : Heap} {L D : Addr} {c u : Int} {t1 t2 : Tok} {n : Nat} {rest : List (Addr × Obj)} (N : News h₀ L h ((D, { cls := .type "tuple", data := .seq #[.int c t1, .int u t2] n }) :: rest)) : ∃ yt : LIt, yt.a = D ∧ (yt.c, yt.u) = (c, u) ∧ News h₀ L h ((yt.a, yt.o) :: rest) := ⟨⟨D, c, u, t1, t2, n⟩, rfl, rfl, N⟩
noncomputable def usersU (rows : List Row) (q : Row) : Nat → List Int
  | 0 => []
  | i + 1 => if (rows.getD i []).take q.length = q then usersU rows q i ++ [(2 : Int) ^ i] else usersU rows q i
theorem usersU_sum (rows : List Row) (q : Row) : (usersU rows q 4).sum = usersK rows q := by
  have h : ∀ n, (usersU rows q n).sum = ((List.range n).map fun i => if (rows.getD i []).take q.length = q then (2 : Int) ^ i else 0).sum := by
    intro n
    induction n with
    | zero => rfl
    | succ n ih =>
      rw [List.range_succ, List.map_append, List.sum_append, ← ih]
      show (if (rows.getD n []).take q.length = q then usersU rows q n ++ [(2 : Int) ^ n] else usersU rows q n).sum = (usersU rows q n).sum + [if (rows.getD n []).take q.length = q then (2 : Int) ^ n else 0].sum
      by_cases h : (rows.getD n []).take q.length = q
      · rw [if_pos h, if_pos h, List.sum_append]
      · rw [if_neg h, if_neg h, List.sum_cons, List.sum_nil]; omega
  exact h 4
theorem intArr_snoc {zs : List Value} {ns : List Int} {ts : Nat → Tok} {v : Int} {t : Tok} (h : zs.toArray = intArr ns ts) : (zs ++ [Value.int v t]).toArray = intArr (ns ++ [v]) (fun j => if j = ns.length then t else ts j) := by
  have h2 : zs = (ns.zipIdx).map fun x => Value.int x.1 (ts x.2) := by
    have := congrArg Array.toList h
    simpa [intArr] using this
  unfold intArr
  congr 1
  rw [List.zipIdx_append, List.map_append, h2]
  congr 1
  · apply List.map_congr_left
    rintro ⟨v', j⟩ hj
    have := List.mem_zipIdx hj
    have hne : ¬ j = ns.length := by omega
    simp [hne]
  · simp
theorem svals_get {xs : List SIt} {i : Nat} (h : i < xs.length) : (svals xs)[i]? = some (.ref xs[i].a) := by simp [svals, List.getElem?_eq_getElem h]
theorem rows_len3 : ∀ p ∈ allRows, 1 ≤ p.length ∧ p.length ≤ 3 := by decide +kernel
theorem depth_ok {w : World} {lr lS lL lq L0 L' : Addr} {er eS eL eq : Nat} {tl : List (Addr × Obj)} {rr xs : List SIt} {ys : List LIt} {x0 : SIt} {d : Int} {td : Tok} {oR oW oD : Obj} {qs : List Int} {us : Nat → Tok} {u : Str → Option Value}
  {mean : ExcName → Option Value} {mg mb : Str → Option Value} {dp un : Nat} {gd : Option (List Code)} {cn : Str} {cs : Scope} {a : Addr} {ccd : Value} {cl : List (Str × Addr)} {outer : List Env} {base g : Heap} {s : Shared} {Q : Flow → Shared → Prop} {E : Value → Shared → Prop}
  (hq : qs.length = 8) (hrr : rr.length = 4) (hrq : ∀ x ∈ rr, x.q ∈ allRows) (hx0 : x0 ∈ rr) (hd1 : 1 ≤ d) (hd2 : d ≤ x0.q.length)
  (B : Below (ktrTop dp un gd cn cs L0 a ccd cl outer) base (envX cn cs L0 a ccd cl :: outer) g) (X : (hd.heap_39 w.params).In g) (T : Top topProg looseT mean mg mb g)
  (hk : cs.kind = .function) (hdp : dp + 20 < recursionLimit) (hun : un + 200 < cLine)
  (F : Fr g L' s.heap (kstB u [(Str.ofString "prices", .ref lq), (Str.ofString "seen", .ref lS), (Str.ofString "lines", .ref lL)]))
  (N : News g L' s.heap ((lS, listOf (svals xs) eS) :: (lL, listOf (lvals ys) eL) :: tl))
  (hcR : (L' + 1, oR) ∈ tl) (dR : oR.data = .cell (some (.ref lr))) (hcW : (L' + 2, oW) ∈ tl) (dW : oW.data = .cell (some (.ref x0.a))) (hcD : (L' + 3, oD) ∈ tl) (dD : oD.data = .cell (some (.int d td)))
  (hlr : (lr, listOf (svals rr) er) ∈ tl) (hrm : ∀ x ∈ rr, (x.a, x.o) ∈ tl) (hqm : (lq, listOf (intArr qs us) eq) ∈ tl) (hxm : ∀ x ∈ xs, (x.a, x.o) ∈ tl) (hym : ∀ y ∈ ys, (y.a, y.o) ∈ tl)
  (hoff : ∀ p ∈ tl, p.1 ≠ lS ∧ p.1 ≠ lL) (hne : lS ≠ lL) (hxl : xs.length ≤ 100) (hyl : ys.length ≤ 100)
  (post : ∀ h' tk' m' xs' ys' eS' eL' tl', (∀ z, z ≠ Str.ofString "users" → m' z = kstB u [(Str.ofString "prices", .ref lq), (Str.ofString "seen", .ref lS), (Str.ofString "lines", .ref lL)] z) → Fr g L' h' m' →
     News g L' h' ((lS, listOf (svals xs') eS') :: (lL, listOf (lvals ys') eL') :: tl') → (∀ q ∈ tl, q ∈ tl') → (∀ x ∈ xs', (x.a, x.o) ∈ tl') → (∀ y ∈ ys', (y.a, y.o) ∈ tl') → (∀ p ∈ tl', p.1 ≠ lS ∧ p.1 ≠ lL) → xs'.length ≤ xs.length + 1 → ys'.length ≤ ys.length + 1 →
     (xs'.map SIt.q, ys'.map fun y => (y.c, y.u)) = lineStep qs (rr.map SIt.q) (x0.q.take d.toNat) (xs.map SIt.q, ys.map fun y => (y.c, y.u)) → Q .next { s with heap := h', toks := tk' }) :
    wpAny (model Prg w) ((ktrTop dp un gd cn cs L0 a ccd cl outer).deeper (linesEnv L')) (execs depthB (linesEnv L')) Q E s := by
  refine of_for (st := nth 0 rowB) (fun bd => wpAny (model Prg w) ((ktrTop dp un gd cn cs L0 a ccd cl outer).deeper (linesEnv L')) (execs bd (linesEnv L')) Q E s) rfl ?_
  try dsimp only
  unfold linesEnv
  refine of_defS (st := linesF) (fun sc => wpAny (model Prg w) ((ktrTop dp un gd cn cs L0 a ccd cl outer).deeper (envOfC (Str.ofString "_law_lines") sc L' 115 (.ref 114))) (execs _ (envOfC (Str.ofString "_law_lines") sc L' 115 (.ref 114))) Q E s) rfl ?_
  try dsimp only
  dsimp only [kstB] at F
  have hu1 : (ktrTop dp un gd cn cs L0 a ccd cl outer).units + 10 < cLine := by show un + _ < cLine; omega
  have hx0l := rows_len3 _ (hrq x0 hx0)
  have hxom : (x0.a, listOf (rowArr x0.q x0.ts) x0.n) ∈ tl := hrm x0 hx0
  iterate 12 (walk1; (try dsimp only))
  rename Fr _ _ _ _ => F1
  rename News _ _ _ _ => N1
  rename_i D1 h1 l1
  have hA1 : ∀ x ∈ xs, x.a ≠ D1 := fun x hx => Nat.ne_of_lt (l1 (x.a, x.o) (.tail _ (.tail _ (hxm x hx))))
  refine not_in_rows N1 (.tail _ (.head _)) (.head _) (fun x hx => .tail _ (.tail _ (.tail _ (hxm x hx)))) hA1 (by ktr_units) ?_
  try dsimp only
  by_cases hin : x0.q.take d.toNat ∈ xs.map SIt.q
  · rw [decide_eq_true hin]
    ktr_unf
    refine post _ _ _ xs ys eS eL tl ?_ F1 (fun p hp => N1 p (.tail _ hp)) (fun q hq => hq) hxm hym hoff (Nat.le_succ _) (Nat.le_succ _) ?_
    · intro z hz; rfl
    · unfold lineStep; rw [if_pos hin]
  · rw [decide_eq_false hin]
    ktr_unf
    rename Fr _ _ _ _ => F2
    rename News _ _ _ _ => N2
    rename_i D2 h2 l2
    have hD2 : ∀ p ∈ tl, p.1 ≠ D2 := fun p hp => Nat.ne_of_lt (l2 p (.tail _ (.tail _ (.tail _ hp))))
    have hSD2 : lS ≠ D2 := Nat.ne_of_lt (l2 (lS, _) (.tail _ (.head _)))
    have hLD2 : lL ≠ D2 := Nat.ne_of_lt (l2 (lL, _) (.tail _ (.tail _ (.head _))))
    obtain ⟨it, hit⟩ : ∃ it : SIt, it = ⟨D2, x0.q.take d.toNat, x0.ts, 0⟩ := ⟨_, rfl⟩
    have hita : it.a = D2 := by rw [hit]
    have hito : it.o = listOf (rowArr (x0.q.take d.toNat) x0.ts) 0 := by rw [hit]; rfl
    have hitq : it.q = x0.q.take d.toNat := by rw [hit]
    have N3 : News g L' h2 ((lS, listOf (svals xs) eS) :: (lL, listOf (lvals ys) eL) :: (it.a, it.o) :: tl) := by
      rw [hita, hito]
      intro p hp
      simp only [List.mem_cons] at hp
      rcases hp with h | h | h | h
      · rw [h]; exact N2 _ (.tail _ (.tail _ (.head _)))
      · rw [h]; exact N2 _ (.tail _ (.tail _ (.tail _ (.head _))))
      · rw [h]; exact N2 _ (.head _)
      · exact N2 _ (.tail _ (.tail _ (.tail _ (.tail _ h))))
    have hoff3 : ∀ p ∈ (it.a, it.o) :: tl, p.1 ≠ lS ∧ p.1 ≠ lL := by
      intro p hp
      rcases List.mem_cons.mp hp with rfl | hp
      · rw [hita]; exact ⟨hSD2.symm, hLD2.symm⟩
      · exact hoff p hp
    clear N2 N1 F1 l1 l2
    rw [← hita]
    refine append_head F2 N3 ?hap (fun h3 F3 N4 => ?_) (by rw [svals_size, sizeLine_eq]; omega)
    case hap =>
      intro p hp
      rcases List.mem_cons.mp hp with rfl | hp
      · exact hne.symm
      · exact (hoff3 p hp).1
    rw [svals_push] at N4
    clear N3 F2
    try dsimp only
    ktr_unf
    obtain ⟨N0, hN0⟩ : ∃ N0, N0 = (lS, listOf (svals (xs ++ [it])) (eS + 1)) :: (lL, listOf (lvals ys) eL) :: (it.a, it.o) :: tl := ⟨_, rfl⟩
    k_dflt (refine LCt.ListComp_T (F₀ := F3) (by with_unfolding_all rfl) (by decide) (by rfl) (by decide) (by rfl) ?_)
    try dsimp only
    ktr_unf
    rename Fr _ _ _ _ => F5
    rename News _ _ _ _ => N5
    rename IsRange _ _ _ _ _ _ _ _ => R5
    change News g L' _ ((lS, listOf (svals (xs ++ [it])) (eS + 1)) :: (lL, listOf (lvals ys) eL) :: (it.a, it.o) :: tl) at N5
    rw [← hN0] at N5
    refine LCt.CompSrcT.range (n := 4) (news := N0) (by rfl) F5 N5 R5 (by decide) (by decide) (by rw [sizeLine_eq]; decide) (fun g' => restT_inv (fun i ys nx => nx = N0 ∧ ∃ ts, ys.toArray = intArr (usersU (rr.map SIt.q) (x0.q.take d.toNat) i) ts) ?turn ?fin 4 0 [] N0 rfl ⟨rfl, fun _ => 0, rfl⟩)
    case turn =>
      rintro i zs nx v I oI C oC D m₂ h tk E' hi ⟨t, rfl⟩ ⟨hnx, ts, hys⟩ hoC hm F6 N6 off ne
      subst hnx
      have hir : i < rr.length := by omega
      have hsv : (svals rr)[(0 + (i : Int)).toNat]? = some (.ref rr[i].a) := by
        rw [show (0 + (i : Int)).toNat = i by omega]
        exact svals_get hir
      have hrl := rows_len3 _ (hrq rr[i] (List.getElem_mem hir))
      have hri : (rr[i].a, listOf (rowArr rr[i].q rr[i].ts) rr[i].n) ∈ tl := hrm rr[i] (List.getElem_mem hir)
      have hsub0 : ∀ p ∈ tl, p ∈ nx := fun p hp => by rw [hN0]; exact .tail _ (.tail _ (.tail _ hp))
      have g1 := hsub0 _ hcR
      have g2 := hsub0 _ hcW
      have g3 := hsub0 _ hcD
      have g4 := hsub0 _ hlr
      have g5 := hsub0 _ hri
      have g6 := hsub0 _ hxom
      clear F N post hcR hcW hcD hlr hri hxom
      ktr_unf
      · rename_i hc
        rename Fr _ _ _ _ => F7
        rename News _ _ _ _ => N7
        refine LCg.CompEnd.intro F7 N7 nx (fun p hp => .tail _ (.tail _ hp)) off trivial ⟨rfl, ?_⟩
        have hcond : ((rr.map SIt.q).getD i []).take (x0.q.take d.toNat).length = x0.q.take d.toNat := by
          rw [List.length_take, Nat.min_eq_left (by omega), List.getD_eq_getElem?_getD, List.getElem?_map, List.getElem?_eq_getElem hir]
          exact hc
        rw [show (0 + (i : Int)).toNat = i by omega]
        unfold usersU
        rw [if_pos hcond]
        exact ⟨_, intArr_snoc hys⟩
      · rename_i hc
        rename Fr _ _ _ _ => F7
        rename News _ _ _ _ => N7
        refine LCg.CompEnd.intro F7 N7 nx (fun p hp => .tail _ (.tail _ hp)) off trivial ⟨rfl, ?_⟩
        have hcond : ¬ ((rr.map SIt.q).getD i []).take (x0.q.take d.toNat).length = x0.q.take d.toNat := by
          rw [List.length_take, Nat.min_eq_left (by omega), List.getD_eq_getElem?_getD, List.getElem?_map, List.getElem?_eq_getElem hir]
          exact hc
        unfold usersU
        rw [if_neg hcond]
        exact ⟨ts, hys⟩
    case fin =>
      rintro zs nx ⟨rfl, ts, hys⟩
      intro D3 h7 tk7 F7 N7 o7
      have elst : LCg.lst zs = listOf (intArr (usersU (rr.map SIt.q) (x0.q.take d.toNat) 4) ts) zs.length := by
        show listOf zs.toArray _ = _
        rw [hys]
      rw [elst] at N7
      subst hN0
      clear F N F5 N5
      try dsimp only
      ktr_unf
      rename Fr _ _ _ _ => F8
      rename News _ _ _ _ => N8
      k_dflt (refine LCg.ListComp_U (F₀ := F8) (by with_unfolding_all rfl) (by decide) (by rfl) (by decide) (by rfl) ?_)
      try dsimp only
      ktr_unf
      rename Fr _ _ _ _ => F9
      rename News _ _ _ _ => N9
      rename_i D4 h4 l4
      obtain ⟨N1, hN1⟩ : ∃ N1, N1 = (D4, listOf (rowArr (x0.q.take d.toNat) x0.ts) 0) :: (D3, listOf (intArr (usersU (rr.map SIt.q) (x0.q.take d.toNat) 4) ts) zs.length) :: (lS, listOf (svals (xs ++ [it])) (eS + 1)) :: (lL, listOf (lvals ys) eL) :: (it.a, it.o) :: tl := ⟨_, rfl⟩
      rw [← hN1] at N9
      have hm4 : (D4, listOf (rowArr (x0.q.take d.toNat) x0.ts) 0) ∈ N1 := by rw [hN1]; exact .head _
      refine LCg.CompSrc.ledger (news := N1) (k := 0) (its := rowArr (x0.q.take d.toNat) x0.ts) rfl F9 N9 hm4 (by rw [rowArr_size, sizeLine_eq, List.length_take]; omega) (fun g' => rest_inv (fun i zs nx => nx = N1 ∧ ∃ ts, zs.toArray = intArr (((x0.q.take d.toNat).take i).map nmLen) ts) ?turn2 ?fin2 _ 0 [] N1 (Nat.zero_add _) ⟨rfl, fun _ => 0, rfl⟩)
      case turn2 =>
        rintro i zs2 nx2 v I oI C oC D m₂ h tk E' hi hP ⟨hnx, ts2, hys2⟩ hoC hm F6 N6 off ne
        subst hnx
        rw [rowArr_size] at hi
        rw [rowArr_get hi] at hP
        have hv := Option.some.inj hP
        subst hv
        clear post
        unfold nmV at hm
        ktr_unf
        refine len_str (by have := nm_len (x0.q.take d.toNat)[i]; omega) ?_
        try dsimp only
        refine LCg.CompEnd.intro F6 N6 nx2 (fun p hp => hp) off (.inr ⟨_, hm4, rfl, _, rfl⟩) ⟨rfl, ?_⟩
        rw [List.take_succ_eq_append_getElem hi, List.map_append]
        exact ⟨_, intArr_snoc hys2⟩
      case fin2 =>
        rintro zs2 nx2 ⟨rfl, ts2, hys2⟩
        intro D5 h9 tk9 F10 N10 o10
        have elst2 : LCg.lst zs2 = listOf (intArr ((x0.q.take d.toNat).map nmLen) ts2) zs2.length := by
          show listOf zs2.toArray _ = _
          rw [hys2, rowArr_size, List.take_length]
        rw [elst2] at N10
        subst hN1
        clear F9 N9 F8 N8
        have hqin : x0.q.take d.toNat ∈ allRows := take_in3 _ (hrq x0 hx0) _ (by omega) (by omega) (by omega)
        have hlp := lens_path _ hqin
        have hql : ((x0.q.take d.toNat).length : Int) = d := by rw [List.length_take]; omega
        rw [hql] at hlp
        have hpk : (intArr qs us)[(((x0.q.take d.toNat).map nmLen).sum + d - 2).toNat]? = some (.int (priceK qs (x0.q.take d.toNat)) (us ((pathCps (x0.q.take d.toNat)).length - 1))) := by
          rw [hlp.1, Int.toNat_natCast]
          exact intArr_get (by omega)
        try dsimp only
        ktr_unf
        rename Fr _ _ _ _ => F11
        rename News _ _ _ _ => N11
        rename_i D6 h6 l6
        obtain ⟨yt, hyta, hytc', N11'⟩ := mk_lit N11
        have hytc : (yt.c, yt.u) = (priceK qs (x0.q.take d.toNat), usersK (rr.map SIt.q) (x0.q.take d.toNat)) := by rw [hytc', usersU_sum]
        clear N11
        rename News _ _ _ _ => N11
        have N12 : News g L' h6 ((lL, listOf (lvals ys) eL) :: (lS, listOf (svals (xs ++ [it])) (eS + 1)) :: (yt.a, yt.o) :: (it.a, it.o) :: tl) := by
          intro p hp
          simp only [List.mem_cons] at hp
          rcases hp with h | h | h | h | h
          · rw [h]; exact N11 _ (.tail _ (.tail _ (.tail _ (.tail _ (.tail _ (.head _))))))
          · rw [h]; exact N11 _ (.tail _ (.tail _ (.tail _ (.tail _ (.head _)))))
          · rw [h]; exact N11 _ (.head _)
          · rw [h]; exact N11 _ (.tail _ (.tail _ (.tail _ (.tail _ (.tail _ (.tail _ (.head _)))))))
          · exact N11 _ (.tail _ (.tail _ (.tail _ (.tail _ (.tail _ (.tail _ (.tail _ h)))))))
        have hoff6 : ∀ p ∈ (yt.a, yt.o) :: (it.a, it.o) :: tl, p.1 ≠ lS ∧ p.1 ≠ lL := by
          intro p hp
          rcases List.mem_cons.mp hp with rfl | hp
          · rw [hyta]; exact ⟨(Nat.ne_of_lt l6.2.2.2.1).symm, (Nat.ne_of_lt l6.2.2.2.2.1).symm⟩
          · exact hoff3 p hp
        rw [← hyta]
        clear N11
        refine append_head F11 N12 ?hap2 (fun h13 F13 N13 => ?_) (by rw [lvals_size, sizeLine_eq]; omega)
        case hap2 =>
          intro p hp
          rcases List.mem_cons.mp hp with rfl | hp
          · exact hne
          · exact (hoff6 p hp).2
        rw [lvals_push] at N13
        try dsimp only
        ktr_unf
        refine post _ _ _ (xs ++ [it]) (ys ++ [yt]) (eS + 1) (eL + 1) ((yt.a, yt.o) :: (it.a, it.o) :: tl) ?_ F13 ?_ (fun q hq => .tail _ (.tail _ hq)) ?_ ?_ hoff6 ?_ ?_ ?_
        · intro z hz
          exact if_neg hz
        · intro p hp
          simp only [List.mem_cons] at hp
          rcases hp with h | h | h | h | h
          · rw [h]; exact N13 _ (.tail _ (.head _))
          · rw [h]; exact N13 _ (.head _)
          · rw [h]; exact N13 _ (.tail _ (.tail _ (.head _)))
          · rw [h]; exact N13 _ (.tail _ (.tail _ (.tail _ (.head _))))
          · exact N13 _ (.tail _ (.tail _ (.tail _ (.tail _ h))))
        · intro x hx
          rcases List.mem_append.mp hx with h | h
          · exact .tail _ (.tail _ (hxm x h))
          · rw [List.mem_singleton.mp h]; exact .tail _ (.head _)
        · intro y hy
          rcases List.mem_append.mp hy with h | h
          · exact .tail _ (.tail _ (hym y h))
          · rw [List.mem_singleton.mp h]; exact .head _
        · simp
        · simp
        · unfold lineStep
          rw [if_neg hin]
          simp only [List.map_append, List.map_cons, List.map_nil, hitq, hytc]
end
theorem reset34 {M : Model} {A : Around} {E : Value → Shared → Prop} {s : Shared} {env : Env} {Q : Flow → Shared → Prop} (h : Q .next s) : wpAny M A (execs [] env) Q E s := by
  w_top off
  walk1
  w_top off
  exact h
/-! L2 -/
section
open PySem PySem.W PyProof.Rows PySem.Calls
set_option Elab.async false
set_option maxRecDepth 100000
set_option maxHeartbeats 8000000
set_option linter.unusedVariables false
theorem fill21 : Challenge.rw_op0038_01 = Challenge.rw_op0038_01 ∧ hd.heap_39 = hd.heap_39 := by
  k_fill
  exact ⟨rfl, rfl⟩






theorem le_kind (L : Addr) : (linesEnv L).scope.kind = .function := by
  unfold linesEnv
  exact of_defS (st := linesF) (fun sc => (envOfC (Str.ofString "_law_lines") sc L 115 (.ref 114)).scope.kind = .function) rfl rfl
theorem le_depth (L : Addr) : (linesEnv L).kindOf (Str.ofString "depth") = some .cell := by
  unfold linesEnv
  exact of_defS (st := linesF) (fun sc => (envOfC (Str.ofString "_law_lines") sc L 115 (.ref 114)).kindOf (Str.ofString "depth") = some .cell) rfl rfl
theorem le_row (L : Addr) : (linesEnv L).kindOf (Str.ofString "row") = some .cell := by
  unfold linesEnv
  exact of_defS (st := linesF) (fun sc => (envOfC (Str.ofString "_law_lines") sc L 115 (.ref 114)).kindOf (Str.ofString "row") = some .cell) rfl rfl
theorem le_cdepth (L : Addr) : (linesEnv L).cells.lookup (Str.ofString "depth") = some (L + 3) := by
  unfold linesEnv
  exact of_defS (st := linesF) (fun sc => (envOfC (Str.ofString "_law_lines") sc L 115 (.ref 114)).cells.lookup (Str.ofString "depth") = some (L + 3)) rfl rfl
theorem le_crow (L : Addr) : (linesEnv L).cells.lookup (Str.ofString "row") = some (L + 2) := by
  unfold linesEnv
  exact of_defS (st := linesF) (fun sc => (envOfC (Str.ofString "_law_lines") sc L 115 (.ref 114)).cells.lookup (Str.ofString "row") = some (L + 2)) rfl rfl
/-- a name that is a cell is bound -/
theorem assign_cell {prog : Program} {w : World} {A : Around} {E : Value → Shared → Prop} {s : Shared} {env : Env} {h₀ : Heap} {m : Str → Option Value} {x : Str} {px : Pos} {c : Addr} {o : Obj} {v₀ : Option Value} {v : Value} {rest : List (Addr × Obj)} {Q : Unit → Shared → Prop}
    (hk : env.scope.kind = .function) (hx : env.kindOf x = some .cell) (hc : env.cells.lookup x = some c) (F : Fr h₀ env.locals s.heap m) (N : News h₀ env.locals s.heap ((c, o) :: rest)) (hd : o.data = .cell v₀) (hoff : ∀ p ∈ rest, p.1 ≠ c)
    (h : ∀ h' o', o'.data = .cell (some v) → Fr h₀ env.locals h' m → News h₀ env.locals h' ((c, o') :: rest) → Q () { s with heap := h' }) :
    wpAny (model prog w) A (assign (.Name x px) env v) Q E s := by
  have hm := N (c, o) (.head _)
  refine wpAny_assign_Name (wpAny_storeName_cell hk hx hc ⟨o, hm.1, hd⟩ fun h' hv hs => ?_)
  obtain ⟨o', ho', hd'⟩ := hv
  refine h h' o' hd' ⟨F.ns.sameBut hs (Ne.symm hm.2.1), fun b ob e => (hs.2 b (fun q => ?_)).trans (F.keep b ob e), F.above⟩ fun p hp => ?_
  · rw [q, hm.2.2] at e; cases e
  · rcases List.mem_cons.mp hp with rfl | hp
    · exact ⟨ho', hm.2⟩
    · have z := N p (.tail _ hp)
      exact ⟨(hs.2 p.1 (hoff p hp)).trans z.1, z.2⟩
theorem depth_loop {w : World} {lr lS lL lq L0 L' r : Addr} {er eS eL eq : Nat} {t u v : Tok} {tl : List (Addr × Obj)} {rr xs : List SIt} {ys : List LIt} {x0 : SIt} {oR oW oD : Obj} {v₀ : Option Value} {qs : List Int} {us : Nat → Tok} {m : Str → Option Value}
  {mean : ExcName → Option Value} {mg mb : Str → Option Value} {dp un : Nat} {gd : Option (List Code)} {cn : Str} {cs : Scope} {a : Addr} {ccd : Value} {cl : List (Str × Addr)} {outer : List Env} {base g : Heap} {s : Shared} {px : Pos} {Q : Flow → Shared → Prop} {E : Value → Shared → Prop}
  (hq : qs.length = 8) (hrr : rr.length = 4) (hrq : ∀ x ∈ rr, x.q ∈ allRows) (hx0 : x0 ∈ rr) (hr : IsRange s.heap r 1 ((x0.q.length : Int) + 1) 1 t u v)
  (B : Below (ktrTop dp un gd cn cs L0 a ccd cl outer) base (envX cn cs L0 a ccd cl :: outer) g) (X : (hd.heap_39 w.params).In g) (T : Top topProg looseT mean mg mb g)
  (hk : cs.kind = .function) (hdp : dp + 20 < recursionLimit) (hun : un + 200 < cLine)
  (F : Fr g L' s.heap m) (hm : ∀ p ∈ [(Str.ofString "prices", Value.ref lq), (Str.ofString "seen", .ref lS), (Str.ofString "lines", .ref lL)], m p.1 = some p.2)
  (N : News g L' s.heap ((lS, listOf (svals xs) eS) :: (lL, listOf (lvals ys) eL) :: (L' + 3, oD) :: tl)) (dD : oD.data = .cell v₀)
  (hcR : (L' + 1, oR) ∈ tl) (dR : oR.data = .cell (some (.ref lr))) (hcW : (L' + 2, oW) ∈ tl) (dW : oW.data = .cell (some (.ref x0.a)))
  (hlr : (lr, listOf (svals rr) er) ∈ tl) (hrm : ∀ x ∈ rr, (x.a, x.o) ∈ tl) (hqm : (lq, listOf (intArr qs us) eq) ∈ tl) (hxm : ∀ x ∈ xs, (x.a, x.o) ∈ tl) (hym : ∀ y ∈ ys, (y.a, y.o) ∈ tl)
  (hoff : ∀ p ∈ tl, p.1 ≠ lS ∧ p.1 ≠ lL ∧ p.1 ≠ L' + 3) (hne : lS ≠ lL) (hne1 : lS ≠ L' + 3) (hne2 : lL ≠ L' + 3) (hxl : xs.length ≤ 90) (hyl : ys.length ≤ 90)
  (post : ∀ h' tk' m' xs' ys' eS' eL' oD' v' tl', (∀ p ∈ [(Str.ofString "prices", Value.ref lq), (Str.ofString "seen", .ref lS), (Str.ofString "lines", .ref lL)], m' p.1 = some p.2) → Fr g L' h' m' →
     News g L' h' ((lS, listOf (svals xs') eS') :: (lL, listOf (lvals ys') eL') :: (L' + 3, oD') :: tl') → oD'.data = .cell v' → (∀ q ∈ tl, q ∈ tl') → (∀ x ∈ xs', (x.a, x.o) ∈ tl') → (∀ y ∈ ys', (y.a, y.o) ∈ tl') → (∀ p ∈ tl', p.1 ≠ lS ∧ p.1 ≠ lL ∧ p.1 ≠ L' + 3) → xs'.length ≤ xs.length + 3 → ys'.length ≤ ys.length + 3 →
     (xs'.map SIt.q, ys'.map fun y => (y.c, y.u)) = depthF qs (rr.map SIt.q) x0.q x0.q.length (xs.map SIt.q, ys.map fun y => (y.c, y.u)) → Q .next { s with heap := h', toks := tk' }) :
    wpAny (model Prg w) ((ktrTop dp un gd cn cs L0 a ccd cl outer).deeper (linesEnv L')) (pyIter (.ref r)) (fun it s₂ => TurnsAt Prg w ((ktrTop dp un gd cn cs L0 a ccd cl outer).deeper (linesEnv L')) g (linesEnv L') (.Name (Str.ofString "depth") px) depthB Q E it s₂) E s := by
  have hx0l := rows_len3 _ (hrq x0 hx0)
  have hcl : (x0.q.length = 1 ∨ x0.q.length = 2 ∨ x0.q.length = 3) := by omega
  have hsm : Builtin.Range.small 1 ((x0.q.length : Int) + 1) 1 = true := by rcases hcl with h | h | h <;> rw [h] <;> decide
  have hsz : Builtin.Range.rangeSize 1 ((x0.q.length : Int) + 1) 1 = ((x0.q.length : Nat) : Int) := by rcases hcl with h | h | h <;> rw [h] <;> decide
  refine turns_range (n := x0.q.length) (m₀ := m) (news := (lS, listOf (svals xs) eS) :: (lL, listOf (lvals ys) eL) :: (L' + 3, oD) :: tl)
    (fun i m' nx => (∀ p ∈ [(Str.ofString "prices", Value.ref lq), (Str.ofString "seen", .ref lS), (Str.ofString "lines", .ref lL)], m' p.1 = some p.2) ∧ ∃ xs' ys' eS' eL' oD' v' tl', nx = (lS, listOf (svals xs') eS') :: (lL, listOf (lvals ys') eL') :: (L' + 3, oD') :: tl' ∧ oD'.data = .cell v' ∧ (∀ q ∈ tl, q ∈ tl') ∧ (∀ x ∈ xs', (x.a, x.o) ∈ tl') ∧ (∀ y ∈ ys', (y.a, y.o) ∈ tl') ∧ (∀ p ∈ tl', p.1 ≠ lS ∧ p.1 ≠ lL ∧ p.1 ≠ L' + 3) ∧ xs'.length ≤ xs.length + i ∧ ys'.length ≤ ys.length + i ∧
      (xs'.map SIt.q, ys'.map fun y => (y.c, y.u)) = depthF qs (rr.map SIt.q) x0.q i (xs.map SIt.q, ys.map fun y => (y.c, y.u))) rfl hr hsm hsz F N
    ⟨hm, xs, ys, eS, eL, oD, v₀, tl, rfl, dD, fun q hq => hq, hxm, hym, hoff, Nat.le_refl _, Nat.le_refl _, rfl⟩ ?_ ?_
  · rintro i I o t1 m₁ nx h tk hi hc hof ⟨hm1, xs', ys', eS', eL', oD', v', tl', rfl, dD', hsub, hxm', hym', hoff', hxl', hyl', hst⟩ F1 N1
    have N2 : News g (linesEnv L').locals h ((L' + 3, oD') :: (lS, listOf (svals xs') eS') :: (lL, listOf (lvals ys') eL') :: (I, o) :: tl') := by
      intro p hp
      refine N1 p ?_
      simp only [List.mem_cons] at hp ⊢
      rcases hp with h | h | h | h | h
      · exact .inr (.inr (.inr (.inl h)))
      · exact .inr (.inl h)
      · exact .inr (.inr (.inl h))
      · exact .inl h
      · exact .inr (.inr (.inr (.inr h)))
    have hIS : lS ≠ I := hof _ (.head _)
    have hIL : lL ≠ I := hof _ (.tail _ (.head _))
    have hID : L' + 3 ≠ I := hof _ (.tail _ (.tail _ (.head _)))
    refine assign_cell (le_kind L') (le_depth L') (le_cdepth L') F1 N2 dD' ?_ (fun h2 oD2 dD2 F2 N3 => ?_)
    · intro p hp
      simp only [List.mem_cons] at hp
      rcases hp with rfl | rfl | rfl | hp
      · exact hne1
      · exact hne2
      · exact hID.symm
      · exact (hoff' p hp).2.2
    have N4 : News g L' h2 ((lS, listOf (svals xs') eS') :: (lL, listOf (lvals ys') eL') :: (L' + 3, oD2) :: (I, o) :: tl') := by
      intro p hp
      refine N3 p ?_
      simp only [List.mem_cons] at hp ⊢
      rcases hp with h | h | h | h | h
      · exact .inr (.inl h)
      · exact .inr (.inr (.inl h))
      · exact .inl h
      · exact .inr (.inr (.inr (.inl h)))
      · exact .inr (.inr (.inr (.inr h)))
    have hkst := has_eq (m := m₁) (ps := [(Str.ofString "prices", Value.ref lq), (Str.ofString "seen", .ref lS), (Str.ofString "lines", .ref lL)]) hm1
    have F3 : Fr g L' h2 (kstB m₁ [(Str.ofString "prices", Value.ref lq), (Str.ofString "seen", .ref lS), (Str.ofString "lines", .ref lL)]) := by rw [← hkst]; exact F2
    have hsub2 : ∀ p ∈ tl, p ∈ (L' + 3, oD2) :: (I, o) :: tl' := fun p hp => .tail _ (.tail _ (hsub p hp))
    refine depth_ok (d := 1 + (i : Int)) (td := t1) (tl := (L' + 3, oD2) :: (I, o) :: tl') hq hrr hrq hx0 (by omega) (by omega) B X T hk hdp hun F3 N4 (hsub2 _ hcR) dR (hsub2 _ hcW) dW (.head _) dD2 (hsub2 _ hlr) (fun x hx => hsub2 _ (hrm x hx)) (hsub2 _ hqm)
      (fun x hx => .tail _ (.tail _ (hxm' x hx))) (fun y hy => .tail _ (.tail _ (hym' y hy))) ?_ hne (by omega) (by omega) ?_
    · intro p hp
      simp only [List.mem_cons] at hp
      rcases hp with rfl | rfl | hp
      · exact ⟨hne1.symm, hne2.symm⟩
      · exact ⟨hIS.symm, hIL.symm⟩
      · exact ⟨(hoff' p hp).1, (hoff' p hp).2.1⟩
    · intro h5 tk5 m5 xs5 ys5 eS5 eL5 tl5 hm5 F5 N5 hsub5 hxm5 hym5 hoff5 hxl5 hyl5 hst5
      have hIo : h5.get? I = some o := (N5 (I, o) (.tail _ (.tail _ (hsub5 _ (.tail _ (.head _)))))).1
      have hDo : h5.get? (L' + 3) = some oD2 := (N5 (L' + 3, oD2) (.tail _ (.tail _ (hsub5 _ (.head _))))).1
      have hfil : ∀ p ∈ tl5, p.1 ≠ I → p.1 ≠ L' + 3 → p ∈ tl5.filter fun q => decide (q.1 ≠ I ∧ q.1 ≠ L' + 3) := fun p hp h1 h2 => List.mem_filter.mpr ⟨hp, decide_eq_true ⟨h1, h2⟩⟩
      have hsep : ∀ (b : Addr) (ob : Obj), (b, ob) ∈ tl5 → ob.cls ≠ .type "range_iterator" → (∀ z, ob.data ≠ .cell z) → b ≠ I ∧ b ≠ L' + 3 := by
        intro b ob hb hc1 hc2
        have h3 := (N5 (b, ob) (.tail _ (.tail _ hb))).1
        dsimp only at h3
        refine ⟨fun e => ?_, fun e => ?_⟩
        · rw [e, hIo] at h3
          rw [← Option.some.inj h3] at hc1
          exact hc1 hc
        · rw [e, hDo] at h3
          rw [← Option.some.inj h3] at hc2
          exact hc2 _ dD2
      refine turn_next ((lS, listOf (svals xs5) eS5) :: (lL, listOf (lvals ys5) eL5) :: (L' + 3, oD2) :: tl5.filter fun q => decide (q.1 ≠ I ∧ q.1 ≠ L' + 3)) F5 ?_ ?_ ⟨?_, xs5, ys5, eS5, eL5, oD2, _, _, rfl, dD2, ?_, ?_, ?_, ?_, by omega, by omega, ?_⟩
      · intro p hp
        simp only [List.mem_cons] at hp
        rcases hp with h | h | h | h | h
        · rw [h]; exact N5 (I, o) (.tail _ (.tail _ (hsub5 _ (.tail _ (.head _)))))
        · rw [h]; exact N5 _ (.head _)
        · rw [h]; exact N5 _ (.tail _ (.head _))
        · rw [h]; exact N5 (L' + 3, oD2) (.tail _ (.tail _ (hsub5 _ (.head _))))
        · exact N5 _ (.tail _ (.tail _ (List.mem_filter.mp h).1))
      · intro p hp
        simp only [List.mem_cons] at hp
        rcases hp with h | h | h | h
        · rw [h]; exact .inr hIS
        · rw [h]; exact .inr hIL
        · rw [h]; exact .inr hID
        · exact .inr (of_decide_eq_true (List.mem_filter.mp h).2).1
      · intro p hp
        simp only [List.mem_cons, List.not_mem_nil, or_false] at hp
        rcases hp with rfl | rfl | rfl
        · exact hm5 (Str.ofString "prices") (by decide)
        · exact hm5 (Str.ofString "seen") (by decide)
        · exact hm5 (Str.ofString "lines") (by decide)
      · intro p hp
        have h1 := hsub p hp
        exact hfil p (hsub5 _ (.tail _ (.tail _ h1))) (hof p (.tail _ (.tail _ (.tail _ h1)))) (hoff' p h1).2.2
      · intro x hx
        have h1 := hsep x.a x.o (hxm5 x hx) (fun e => by have e2 : Value.type "list" = Value.type "range_iterator" := e; exact absurd e2 (by decide)) (fun z e => nomatch e)
        exact hfil _ (hxm5 x hx) h1.1 h1.2
      · intro y hy
        have h1 := hsep y.a y.o (hym5 y hy) (fun e => by have e2 : Value.type "tuple" = Value.type "range_iterator" := e; exact absurd e2 (by decide)) (fun z e => nomatch e)
        exact hfil _ (hym5 y hy) h1.1 h1.2
      · intro p hp
        have h1 := List.mem_filter.mp hp
        exact ⟨(hoff5 p h1.1).1, (hoff5 p h1.1).2, (of_decide_eq_true h1.2).2⟩
      · rw [hst5, hst, show (1 + (i : Int)).toNat = i + 1 by omega]; rfl
  · rintro m₁ nx h tk ⟨hm1, xs', ys', eS', eL', oD', v', tl', rfl, dD', hsub, hxm', hym', hoff', hxl', hyl', hst⟩ F1 N1
    exact post _ _ m₁ xs' ys' eS' eL' oD' v' tl' hm1 F1 N1 dD' hsub hxm' hym' hoff' (by omega) (by omega) hst
end
theorem reset35 {M : Model} {A : Around} {E : Value → Shared → Prop} {s : Shared} {env : Env} {Q : Flow → Shared → Prop} (h : Q .next s) : wpAny M A (execs [] env) Q E s := by
  w_top off
  walk1
  w_top off
  exact h
/-! L3 -/
section
open PySem PySem.W PyProof.Rows PySem.Calls
set_option Elab.async false
set_option maxRecDepth 100000
set_option maxHeartbeats 8000000
set_option linter.unusedVariables false
theorem fill22 : Challenge.rw_op0038_01 = Challenge.rw_op0038_01 ∧ hd.heap_39 = hd.heap_39 := by
  k_fill
  exact ⟨rfl, rfl⟩







theorem row_ok {w : World} {lr lS lL lq L0 L' : Addr} {er eS eL eq : Nat} {tl : List (Addr × Obj)} {rr xs : List SIt} {ys : List LIt} {x0 : SIt} {oR oW oD : Obj} {v₀ : Option Value} {qs : List Int} {us : Nat → Tok} {m : Str → Option Value}
  {mean : ExcName → Option Value} {mg mb : Str → Option Value} {dp un : Nat} {gd : Option (List Code)} {cn : Str} {cs : Scope} {a : Addr} {ccd : Value} {cl : List (Str × Addr)} {outer : List Env} {base g : Heap} {s : Shared} {Q : Flow → Shared → Prop} {E : Value → Shared → Prop}
  (hq : qs.length = 8) (hrr : rr.length = 4) (hrq : ∀ x ∈ rr, x.q ∈ allRows) (hx0 : x0 ∈ rr)
  (B : Below (ktrTop dp un gd cn cs L0 a ccd cl outer) base (envX cn cs L0 a ccd cl :: outer) g) (X : (hd.heap_39 w.params).In g) (T : Top topProg looseT mean mg mb g)
  (hk : cs.kind = .function) (hdp : dp + 20 < recursionLimit) (hun : un + 200 < cLine) (hE : PassesOwn (model Prg w) ((ktrTop dp un gd cn cs L0 a ccd cl outer).deeper (linesEnv L')) (linesEnv L') E)
  (F : Fr g L' s.heap (kstB m [(Str.ofString "prices", Value.ref lq), (Str.ofString "seen", .ref lS), (Str.ofString "lines", .ref lL)]))
  (N : News g L' s.heap ((lS, listOf (svals xs) eS) :: (lL, listOf (lvals ys) eL) :: (L' + 3, oD) :: tl)) (dD : oD.data = .cell v₀)
  (hcR : (L' + 1, oR) ∈ tl) (dR : oR.data = .cell (some (.ref lr))) (hcW : (L' + 2, oW) ∈ tl) (dW : oW.data = .cell (some (.ref x0.a)))
  (hlr : (lr, listOf (svals rr) er) ∈ tl) (hrm : ∀ x ∈ rr, (x.a, x.o) ∈ tl) (hqm : (lq, listOf (intArr qs us) eq) ∈ tl) (hxm : ∀ x ∈ xs, (x.a, x.o) ∈ tl) (hym : ∀ y ∈ ys, (y.a, y.o) ∈ tl)
  (hoff : ∀ p ∈ tl, p.1 ≠ lS ∧ p.1 ≠ lL ∧ p.1 ≠ L' + 3) (hne : lS ≠ lL) (hne1 : lS ≠ L' + 3) (hne2 : lL ≠ L' + 3) (hxl : xs.length ≤ 90) (hyl : ys.length ≤ 90)
  (post : ∀ h' tk' m' xs' ys' eS' eL' oD' v' tl', (∀ p ∈ [(Str.ofString "prices", Value.ref lq), (Str.ofString "seen", .ref lS), (Str.ofString "lines", .ref lL)], m' p.1 = some p.2) → Fr g L' h' m' →
     News g L' h' ((lS, listOf (svals xs') eS') :: (lL, listOf (lvals ys') eL') :: (L' + 3, oD') :: tl') → oD'.data = .cell v' → (∀ q ∈ tl, q ∈ tl') → (∀ x ∈ xs', (x.a, x.o) ∈ tl') → (∀ y ∈ ys', (y.a, y.o) ∈ tl') → (∀ p ∈ tl', p.1 ≠ lS ∧ p.1 ≠ lL ∧ p.1 ≠ L' + 3) → xs'.length ≤ xs.length + 3 → ys'.length ≤ ys.length + 3 →
     (xs'.map SIt.q, ys'.map fun y => (y.c, y.u)) = depthF qs (rr.map SIt.q) x0.q x0.q.length (xs.map SIt.q, ys.map fun y => (y.c, y.u)) → Q .next { s with heap := h', toks := tk' }) :
    wpAny (model Prg w) ((ktrTop dp un gd cn cs L0 a ccd cl outer).deeper (linesEnv L')) (execs rowB (linesEnv L')) Q E s := by
  refine of_for (st := nth 2 (defB linesF)) (fun bd => wpAny (model Prg w) ((ktrTop dp un gd cn cs L0 a ccd cl outer).deeper (linesEnv L')) (execs bd (linesEnv L')) Q E s) rfl ?_
  try dsimp only
  revert hE
  unfold linesEnv
  refine of_defS (st := linesF) (fun sc => PassesOwn (model Prg w) ((ktrTop dp un gd cn cs L0 a ccd cl outer).deeper (envOfC (Str.ofString "_law_lines") sc L' 115 (.ref 114))) (envOfC (Str.ofString "_law_lines") sc L' 115 (.ref 114)) E → wpAny (model Prg w) ((ktrTop dp un gd cn cs L0 a ccd cl outer).deeper (envOfC (Str.ofString "_law_lines") sc L' 115 (.ref 114))) (execs _ (envOfC (Str.ofString "_law_lines") sc L' 115 (.ref 114))) Q E s) rfl ?_
  intro hE
  try dsimp only
  have hx0l := rows_len3 _ (hrq x0 hx0)
  have hxom : (x0.a, listOf (rowArr x0.q x0.ts) x0.n) ∈ tl := hrm x0 hx0
  have F0 := F
  dsimp only [kstB] at F
  walk1
  with_unfolding_all refine' For_turns F ?_ ?k3 ?k4
  case k3 => intro _; with_unfolding_all rfl
  case k4 => exact hE
  try dsimp only
  ktr_unf
  refine len_list (items := rowArr x0.q x0.ts) ⟨_, (N _ (.tail _ (.tail _ (.tail _ hxom)))).1, rfl, _, rfl⟩ (by rw [rowArr_size]; omega) ?_
  rw [rowArr_size]
  try dsimp only
  ktr_unf
  rename IsRange _ _ _ _ _ _ _ _ => R5
  rename Fr _ _ _ _ => F5
  rename News _ _ _ _ => N5
  refine depth_loop (x0 := x0) hq hrr hrq hx0 R5 B X T hk hdp hun F5 ?hm N5 dD hcR dR hcW dW hlr hrm hqm hxm hym hoff hne hne1 hne2 hxl hyl ?hp
  case hm =>
    intro p hp
    simp only [List.mem_cons, List.not_mem_nil, or_false] at hp
    rcases hp with rfl | rfl | rfl <;> rfl
  case hp =>
    intro h5 tk5 m5 xs5 ys5 eS5 eL5 oD5 v5 tl5 hm5 F6 N6 dD5 hsub5 hxm5 hym5 hoff5 hxl5 hyl5 hst5
    try dsimp only
    walk1
    try dsimp only
    exact post _ _ _ _ _ _ _ _ _ _ hm5 F6 N6 dD5 hsub5 hxm5 hym5 hoff5 hxl5 hyl5 hst5
end
end
theorem reset36 {M : Model} {A : Around} {E : Value → Shared → Prop} {s : Shared} {env : Env} {Q : Flow → Shared → Prop} (h : Q .next s) : wpAny M A (execs [] env) Q E s := by
  w_top off
  walk1
  w_top off
  exact h
/-! L4 -/
section
open PySem PySem.W PyProof.Rows PySem.Calls
set_option Elab.async false
set_option maxRecDepth 100000
set_option maxHeartbeats 8000000
set_option linter.unusedVariables false
theorem fill23 : Challenge.rw_op0038_01 = Challenge.rw_op0038_01 ∧ hd.heap_39 = hd.heap_39 := by
  k_fill
  exact ⟨rfl, rfl⟩
local macro_rules | `(tactic| ktr_unf) => `(tactic| repeat' (first | (k_unfold; (try dsimp only)) | ((fail_if_success (with_reducible show wpAny _ _ (pyIter _) _ _ _)); (fail_if_success (with_reducible show wpAny _ _ (eval (Expr.ListComp _ _ _ _) _) _ _ _)); (fail_if_success (with_reducible show wpAny _ _ (exec (Stmt.For _ _ _ _ _) _) _ _ _)); (fail_if_success (with_reducible show LCt.CompSrcT _ _ _ _ _ _ _ _ _ _ _ _ _ _ _)); (fail_if_success (with_reducible show LCg.CompSrc _ _ _ _ _ _ _ _ _ _ _ _ _ _)); (first | walk1 | (dsimp only; walk1) | (leave1; (try dsimp only))))))








theorem rows_loop {w : World} {lr lS lL lq L0 L' : Addr} {er eS eL eq : Nat} {tl : List (Addr × Obj)} {rr : List SIt} {oR oW oD : Obj} {v₀ vW : Option Value} {qs : List Int} {us : Nat → Tok} {m : Str → Option Value}
  {mean : ExcName → Option Value} {mg mb : Str → Option Value} {dp un : Nat} {gd : Option (List Code)} {cn : Str} {cs : Scope} {a : Addr} {ccd : Value} {cl : List (Str × Addr)} {outer : List Env} {base g : Heap} {s : Shared} {px : Pos} {Q : Flow → Shared → Prop} {E : Value → Shared → Prop}
  (hq : qs.length = 8) (hrr : rr.length = 4) (hrq : ∀ x ∈ rr, x.q ∈ allRows)
  (B : Below (ktrTop dp un gd cn cs L0 a ccd cl outer) base (envX cn cs L0 a ccd cl :: outer) g) (X : (hd.heap_39 w.params).In g) (T : Top topProg looseT mean mg mb g)
  (hk : cs.kind = .function) (hdp : dp + 20 < recursionLimit) (hun : un + 200 < cLine) (hE : PassesOwn (model Prg w) ((ktrTop dp un gd cn cs L0 a ccd cl outer).deeper (linesEnv L')) (linesEnv L') E)
  (F : Fr g L' s.heap m) (hm : ∀ p ∈ [(Str.ofString "prices", Value.ref lq), (Str.ofString "seen", .ref lS), (Str.ofString "lines", .ref lL)], m p.1 = some p.2)
  (N : News g L' s.heap ((lS, listOf (svals []) eS) :: (lL, listOf (lvals []) eL) :: (L' + 3, oD) :: (L' + 2, oW) :: tl)) (dD : oD.data = .cell v₀) (dW : oW.data = .cell vW)
  (hcR : (L' + 1, oR) ∈ tl) (dR : oR.data = .cell (some (.ref lr)))
  (hlr : (lr, listOf (svals rr) er) ∈ tl) (hrm : ∀ x ∈ rr, (x.a, x.o) ∈ tl) (hqm : (lq, listOf (intArr qs us) eq) ∈ tl)
  (hoff : ∀ p ∈ tl, p.1 ≠ lS ∧ p.1 ≠ lL ∧ p.1 ≠ L' + 3 ∧ p.1 ≠ L' + 2) (hne : lS ≠ lL) (hne1 : lS ≠ L' + 3) (hne2 : lL ≠ L' + 3) (hne3 : lS ≠ L' + 2) (hne4 : lL ≠ L' + 2)
  (post : ∀ h' tk' m' ys' eL' tl', (∀ p ∈ [(Str.ofString "prices", Value.ref lq), (Str.ofString "seen", .ref lS), (Str.ofString "lines", .ref lL)], m' p.1 = some p.2) → Fr g L' h' m' →
     News g L' h' ((lL, listOf (lvals ys') eL') :: tl') → (∀ q ∈ tl, q ∈ tl') → (∀ y ∈ ys', (y.a, y.o) ∈ tl') → ys'.length ≤ 12 →
     (ys'.map fun y => (y.c, y.u)) = (rowsF qs (rr.map SIt.q) 4).2 → Q .next { s with heap := h', toks := tk' }) :
    wpAny (model Prg w) ((ktrTop dp un gd cn cs L0 a ccd cl outer).deeper (linesEnv L')) (pyIter (.ref lr)) (fun it s₂ => TurnsAt Prg w ((ktrTop dp un gd cn cs L0 a ccd cl outer).deeper (linesEnv L')) g (linesEnv L') (.Name (Str.ofString "row") px) rowB Q E it s₂) E s := by
  have h23 : L' + 3 ≠ L' + 2 := (show @Ne Nat (L' + 3) (L' + 2) by omega)
  refine turns_list (m₀ := m) (news := (lS, listOf (svals []) eS) :: (lL, listOf (lvals []) eL) :: (L' + 3, oD) :: (L' + 2, oW) :: tl)
    (fun i m' nx => (∀ p ∈ [(Str.ofString "prices", Value.ref lq), (Str.ofString "seen", .ref lS), (Str.ofString "lines", .ref lL)], m' p.1 = some p.2) ∧ ∃ xs' ys' eS' eL' oD' v' oW' v2' tl', nx = (lS, listOf (svals xs') eS') :: (lL, listOf (lvals ys') eL') :: (L' + 3, oD') :: (L' + 2, oW') :: tl' ∧ oD'.data = .cell v' ∧ oW'.data = .cell v2' ∧ (∀ q ∈ tl, q ∈ tl') ∧ (∀ x ∈ xs', (x.a, x.o) ∈ tl') ∧ (∀ y ∈ ys', (y.a, y.o) ∈ tl') ∧ (∀ p ∈ tl', p.1 ≠ lS ∧ p.1 ≠ lL ∧ p.1 ≠ L' + 3 ∧ p.1 ≠ L' + 2) ∧ xs'.length ≤ 3 * i ∧ ys'.length ≤ 3 * i ∧
      (xs'.map SIt.q, ys'.map fun y => (y.c, y.u)) = rowsF qs (rr.map SIt.q) i) rfl (.tail _ (.tail _ (.tail _ (.tail _ hlr)))) F N
    ⟨hm, [], [], eS, eL, oD, v₀, oW, vW, tl, rfl, dD, dW, fun q hq => hq, (fun _ h => nomatch h), (fun _ h => nomatch h), hoff, Nat.le_refl _, Nat.le_refl _, rfl⟩ ?_ ?_
  · rintro i v I o m₁ nx h tk hv hc hof _ ⟨hm1, xs', ys', eS', eL', oD', v', oW', v2', tl', rfl, dD', dW', hsub, hxm', hym', hoff', hxl', hyl', hst⟩ F1 N1
    have hi : i < rr.length := by
      have := (Array.getElem?_eq_some_iff.mp hv).1
      rwa [svals_size] at this
    rw [svals_get hi] at hv
    have hv2 := Option.some.inj hv
    subst hv2
    have hIS : lS ≠ I := hof _ (.head _)
    have hIL : lL ≠ I := hof _ (.tail _ (.head _))
    have hID : L' + 3 ≠ I := hof _ (.tail _ (.tail _ (.head _)))
    have hIW : L' + 2 ≠ I := hof _ (.tail _ (.tail _ (.tail _ (.head _))))
    have N2 : News g (linesEnv L').locals h ((L' + 2, oW') :: (lS, listOf (svals xs') eS') :: (lL, listOf (lvals ys') eL') :: (L' + 3, oD') :: (I, o) :: tl') := by
      intro p hp
      refine N1 p ?_
      simp only [List.mem_cons] at hp ⊢
      rcases hp with h | h | h | h | h | h
      · exact .inr (.inr (.inr (.inr (.inl h))))
      · exact .inr (.inl h)
      · exact .inr (.inr (.inl h))
      · exact .inr (.inr (.inr (.inl h)))
      · exact .inl h
      · exact .inr (.inr (.inr (.inr (.inr h))))
    refine assign_cell (le_kind L') (le_row L') (le_crow L') F1 N2 dW' ?_ (fun h2 oW2 dW2 F2 N3 => ?_)
    · intro p hp
      simp only [List.mem_cons] at hp
      rcases hp with rfl | rfl | rfl | rfl | hp
      · exact hne3
      · exact hne4
      · exact h23
      · exact hIW.symm
      · exact (hoff' p hp).2.2.2
    have N4 : News g L' h2 ((lS, listOf (svals xs') eS') :: (lL, listOf (lvals ys') eL') :: (L' + 3, oD') :: (L' + 2, oW2) :: (I, o) :: tl') := by
      intro p hp
      refine N3 p ?_
      simp only [List.mem_cons] at hp ⊢
      rcases hp with h | h | h | h | h | h
      · exact .inr (.inl h)
      · exact .inr (.inr (.inl h))
      · exact .inr (.inr (.inr (.inl h)))
      · exact .inl h
      · exact .inr (.inr (.inr (.inr (.inl h))))
      · exact .inr (.inr (.inr (.inr (.inr h))))
    have hkst := has_eq (m := m₁) (ps := [(Str.ofString "prices", Value.ref lq), (Str.ofString "seen", .ref lS), (Str.ofString "lines", .ref lL)]) hm1
    have F3 : Fr g L' h2 (kstB m₁ [(Str.ofString "prices", Value.ref lq), (Str.ofString "seen", .ref lS), (Str.ofString "lines", .ref lL)]) := by rw [← hkst]; exact F2
    have hsub2 : ∀ p ∈ tl, p ∈ (L' + 2, oW2) :: (I, o) :: tl' := fun p hp => .tail _ (.tail _ (hsub p hp))
    refine row_ok (x0 := rr[i]) (tl := (L' + 2, oW2) :: (I, o) :: tl') hq hrr hrq (List.getElem_mem hi) B X T hk hdp hun hE F3 N4 dD' (hsub2 _ hcR) dR (.head _) dW2 (hsub2 _ hlr) (fun x hx => hsub2 _ (hrm x hx)) (hsub2 _ hqm)
      (fun x hx => .tail _ (.tail _ (hxm' x hx))) (fun y hy => .tail _ (.tail _ (hym' y hy))) ?_ hne hne1 hne2 (by omega) (by omega) ?_
    · intro p hp
      simp only [List.mem_cons] at hp
      rcases hp with rfl | rfl | hp
      · exact ⟨hne3.symm, hne4.symm, h23.symm⟩
      · exact ⟨hIS.symm, hIL.symm, hID.symm⟩
      · exact ⟨(hoff' p hp).1, (hoff' p hp).2.1, (hoff' p hp).2.2.1⟩
    · intro h5 tk5 m5 xs5 ys5 eS5 eL5 oD5 v5 tl5 hm5 F5 N5 dD5 hsub5 hxm5 hym5 hoff5 hxl5 hyl5 hst5
      have hIo : h5.get? I = some o := (N5 (I, o) (.tail _ (.tail _ (.tail _ (hsub5 _ (.tail _ (.head _))))))).1
      have hWo : h5.get? (L' + 2) = some oW2 := (N5 (L' + 2, oW2) (.tail _ (.tail _ (.tail _ (hsub5 _ (.head _)))))).1
      have hfil : ∀ p ∈ tl5, p.1 ≠ I → p.1 ≠ L' + 2 → p ∈ tl5.filter fun q => decide (q.1 ≠ I ∧ q.1 ≠ L' + 2) := fun p hp h1 h2 => List.mem_filter.mpr ⟨hp, decide_eq_true ⟨h1, h2⟩⟩
      have hsep : ∀ (b : Addr) (ob : Obj), (b, ob) ∈ tl5 → ob.cls ≠ .type "list_iterator" → (∀ z, ob.data ≠ .cell z) → b ≠ I ∧ b ≠ L' + 2 := by
        intro b ob hb hc1 hc2
        have h3 := (N5 (b, ob) (.tail _ (.tail _ (.tail _ hb)))).1
        dsimp only at h3
        refine ⟨fun e => ?_, fun e => ?_⟩
        · rw [e, hIo] at h3
          rw [← Option.some.inj h3] at hc1
          exact hc1 hc
        · rw [e, hWo] at h3
          rw [← Option.some.inj h3] at hc2
          exact hc2 _ dW2
      have hsubf : ∀ p ∈ tl, p ∈ tl5.filter fun q => decide (q.1 ≠ I ∧ q.1 ≠ L' + 2) := fun p hp => by
        have h1 := hsub p hp
        exact hfil p (hsub5 _ (.tail _ (.tail _ h1))) (hof p (.tail _ (.tail _ (.tail _ (.tail _ h1))))) (hoff' p h1).2.2.2
      refine turn_next ((lS, listOf (svals xs5) eS5) :: (lL, listOf (lvals ys5) eL5) :: (L' + 3, oD5) :: (L' + 2, oW2) :: tl5.filter fun q => decide (q.1 ≠ I ∧ q.1 ≠ L' + 2)) F5 ?_ ?_ ⟨.tail _ (.tail _ (.tail _ (.tail _ (hsubf _ hlr)))), hm5, xs5, ys5, eS5, eL5, oD5, v5, oW2, _, _, rfl, dD5, dW2, hsubf, ?_, ?_, ?_, by omega, by omega, ?_⟩
      · intro p hp
        simp only [List.mem_cons] at hp
        rcases hp with h | h | h | h | h | h
        · rw [h]; exact N5 (I, o) (.tail _ (.tail _ (.tail _ (hsub5 _ (.tail _ (.head _))))))
        · rw [h]; exact N5 _ (.head _)
        · rw [h]; exact N5 _ (.tail _ (.head _))
        · rw [h]; exact N5 _ (.tail _ (.tail _ (.head _)))
        · rw [h]; exact N5 (L' + 2, oW2) (.tail _ (.tail _ (.tail _ (hsub5 _ (.head _)))))
        · exact N5 _ (.tail _ (.tail _ (.tail _ (List.mem_filter.mp h).1)))
      · intro p hp
        simp only [List.mem_cons] at hp
        rcases hp with h | h | h | h | h
        · rw [h]; exact .inr hIS
        · rw [h]; exact .inr hIL
        · rw [h]; exact .inr hID
        · rw [h]; exact .inr hIW
        · exact .inr (of_decide_eq_true (List.mem_filter.mp h).2).1
      · intro x hx
        have h1 := hsep x.a x.o (hxm5 x hx) (fun e => by have e2 : Value.type "list" = Value.type "list_iterator" := e; exact absurd e2 (by decide)) (fun z e => nomatch e)
        exact hfil _ (hxm5 x hx) h1.1 h1.2
      · intro y hy
        have h1 := hsep y.a y.o (hym5 y hy) (fun e => by have e2 : Value.type "tuple" = Value.type "list_iterator" := e; exact absurd e2 (by decide)) (fun z e => nomatch e)
        exact hfil _ (hym5 y hy) h1.1 h1.2
      · intro p hp
        have h1 := List.mem_filter.mp hp
        exact ⟨(hoff5 p h1.1).1, (hoff5 p h1.1).2.1, (hoff5 p h1.1).2.2, (of_decide_eq_true h1.2).2⟩
      · rw [hst5, hst]
        have hi2 : i < (rr.map SIt.q).length := by rw [List.length_map]; exact hi
        show _ = rowsF qs (rr.map SIt.q) (i + 1)
        unfold rowsF
        rw [List.take_succ_eq_append_getElem hi2, List.foldl_append, List.getElem_map]
        rfl
  · rintro m₁ nx h tk _ ⟨hm1, xs', ys', eS', eL', oD', v', oW', v2', tl', rfl, dD', dW', hsub, hxm', hym', hoff', hxl', hyl', hst⟩ F1 N1
    rw [svals_size, hrr] at hst hyl'
    refine post _ _ m₁ ys' eL' tl' hm1 F1 (fun p hp => ?_) hsub hym' hyl' (congrArg Prod.snd hst)
    rcases List.mem_cons.mp hp with h | h
    · rw [h]; exact N1 _ (.tail _ (.head _))
    · exact N1 _ (.tail _ (.tail _ (.tail _ (.tail _ h))))
theorem lines_ok {w : World} {lr lq : Addr} {er eq : Nat} {rr : List SIt} {qs : List Int} {us : Nat → Tok} {tl : List (Addr × Obj)}
  (hq : qs.length = 8) (hrr : rr.length = 4) (hrq : ∀ x ∈ rr, x.q ∈ allRows)
  (mean : ExcName → Option Value) (mg mb : Str → Option Value) (dp un : Nat) (gd : Option (List Code)) (cn : Str) (cs : Scope) (a : Addr) (ccd : Value) (cl : List (Str × Addr)) (outer : List Env) (A₀ : Around) (base h₀ : Heap) (L : Addr) (m : Str → Option Value) (s : Shared) (Q E : Value → Shared → Prop)
  (B : Below A₀ base outer h₀) (F : Fr h₀ L s.heap m) (X : (hd.heap_39 w.params).In h₀) 
  (N : News h₀ L s.heap tl) (hlr : (lr, listOf (svals rr) er) ∈ tl) (hrm : ∀ x ∈ rr, (x.a, x.o) ∈ tl) (hqm : (lq, listOf (intArr qs us) eq) ∈ tl)
  (T : Top topProg looseT mean mg mb h₀) (hk : cs.kind = .function) (hdp : dp + 20 < recursionLimit) (hun : un + 200 < cLine)
  (hret : ∀ h' tk' lL ys e tl', Fr h₀ L h' m → News h₀ L h' ((lL, listOf (lvals ys) e) :: tl') → (∀ q ∈ tl, q ∈ tl') → (∀ y ∈ ys, (y.a, y.o) ∈ tl') → ys.length ≤ 12 → (ys.map fun y => (y.c, y.u)) = (rowsF qs (rr.map SIt.q) 4).2 →
     Q (.ref lL) { s with heap := h', toks := tk' }) :
    wpAny (model Prg w) (ktrTop dp un gd cn cs L a ccd cl outer) (call (.ref 115) [.ref lr, .ref lq]) Q E s := by
  refine wpAny_call ?_
  k_dflt (refine' code_defC ?k1 ?k2 ?k3 ?k4 ?k5 ?kA ?kF ?kK ?k6 ?k7 ?k8 ?k9 ?kB ?kD ?_ ?c2 ?c3 ?c4; (case kA => exact rfl); (case kF => exact rfl); (case kK => first | exact rfl | assumption); (case k1 => k_asm); (case k2 => k_asm); (case k3 => k_asm); (case k4 => k_asm); (case k5 => k_asm); (case k6 => k_is); (case k7 => k_is); (case k8 => ktr_room); (case k9 => exact BindsTo.of_eq rfl); (case kB => exact rfl); (case kD => decide +kernel); (case c2 => exact rfl); (case c3 => exact rfl); (case c4 => exact rfl); k_whole; intro g' L' h' tk' cells' FG' F' N' Y' B' X' T' l1; (try k_cells Y'); (try simp only [List.cons_append, List.nil_append] at N'); (try dsimp only); (try k_lift B'); (try k_fold))
  obtain ⟨u, F2⟩ := fr_has (ps := [(Str.ofString "prices", .ref lq)]) F' (all_cons rfl all_nil)
  clear F'
  dsimp only [kstB] at F2
  rename_i oD oW oR dD dW dR
  have dD2 := dD.trans (show _ = Data.cell none from rfl)
  have dW2 := dW.trans (show _ = Data.cell none from rfl)
  have dR2 := dR.trans (show _ = Data.cell (some (Value.ref lr)) from rfl)
  clear dD dW dR
  change News g' L' h' ((L' + 3, oD) :: (L' + 2, oW) :: (L' + 1, oR) :: tl) at N'
  ktr_unf
  rename Fr _ _ _ _ => F5
  rename News _ _ _ _ => N5
  with_unfolding_all refine' For_turns F5 ?_ ?k3 ?k4
  case k3 => intro _; with_unfolding_all rfl
  case k4 => passes_own
  try dsimp only
  walk1
  try dsimp only
  rename_i lS _ lb1 _ lL _ lb2 h5
  have htlS : ∀ p ∈ tl, p.1 ≠ lS := fun p hp => Nat.ne_of_lt (all_lt lb1.2.2.2 p hp)
  have htlL : ∀ p ∈ tl, p.1 ≠ lL := fun p hp => Nat.ne_of_lt (all_lt lb2.2.2.2.2 p hp)
  have ht3 : ∀ p ∈ tl, p.1 ≠ L' + 3 := fun p hp => Nat.ne_of_lt (Nat.lt_of_lt_of_le (l1 p hp) (Nat.le_add_right _ _))
  have ht2 : ∀ p ∈ tl, p.1 ≠ L' + 2 := fun p hp => Nat.ne_of_lt (Nat.lt_of_lt_of_le (l1 p hp) (Nat.le_add_right _ _))
  refine' rows_loop (lS := lS) (lL := lL) (eS := 0) (eL := 0) (rr := rr) (qs := qs) (us := us) (er := er) (eq := eq) (tl := (L' + 1, oR) :: tl) hq hrr hrq B' ?xX ?xT hk ?xd ?xu ?xE F5 ?hm ?hN dD2 dW2 (.head _) dR2 (.tail _ hlr) (fun x hx => .tail _ (hrm x hx)) (.tail _ hqm) ?ho ?n0 ?n1 ?n2 ?n3 ?n4 ?hp
  case xX => assumption
  case xT => assumption
  case xd => assumption
  case xu => assumption
  case hm =>
    intro p hp
    simp only [List.mem_cons, List.not_mem_nil, or_false] at hp
    rcases hp with rfl | rfl | rfl <;> rfl
  case hN =>
    intro p hp
    refine N5 p ?_
    simp only [List.mem_cons] at hp ⊢
    rcases hp with h | h | h | h | h | h
    · exact .inr (.inl h)
    · exact .inl h
    · exact .inr (.inr (.inl h))
    · exact .inr (.inr (.inr (.inl h)))
    · exact .inr (.inr (.inr (.inr (.inl h))))
    · exact .inr (.inr (.inr (.inr (.inr h))))
  case ho =>
    intro p hp
    rcases List.mem_cons.mp hp with rfl | hp
    · exact ⟨Nat.ne_of_lt lb1.2.2.1, Nat.ne_of_lt lb2.2.2.2.1, (show @Ne Nat (L' + 1) (L' + 3) by omega), (show @Ne Nat (L' + 1) (L' + 2) by omega)⟩
    · exact ⟨htlS p hp, htlL p hp, ht3 p hp, ht2 p hp⟩
  case n0 => exact Nat.ne_of_lt lb2.1
  case n1 => exact (Nat.ne_of_lt lb1.1).symm
  case n2 => exact (Nat.ne_of_lt lb2.2.1).symm
  case n3 => exact (Nat.ne_of_lt lb1.2.1).symm
  case n4 => exact (Nat.ne_of_lt lb2.2.2.1).symm
  case xE =>
    unfold linesEnv
    refine of_defS (st := linesF) (fun sc => PassesOwn (model Prg w) ((ktrTop dp un gd cn cs L a ccd cl outer).deeper (envOfC (Str.ofString "_law_lines") sc L' 115 (.ref 114))) (envOfC (Str.ofString "_law_lines") sc L' 115 (.ref 114)) _) rfl ?_
    passes_own
  case hp =>
    intro h7 tk7 m7 ys7 e7 tl7 hm7 F7 N7 hsub7 hym7 hyl7 hst7
    try dsimp only
    clear N5 F5
    have hkst := has_eq (m := m7) (ps := [(Str.ofString "lines", .ref lL)]) (all_cons (m := m7) (hm7 _ (.tail _ (.tail _ (.head _)))) all_nil)
    rw [hkst] at F7
    dsimp only [kstB] at F7
    ktr_unf
    rename Fr _ _ _ _ => F8
    rename News _ _ _ _ => N8
    exact hret _ _ lL ys7 e7 tl7 F8 N8 (fun q hq => hsub7 q (.tail _ hq)) hym7 hyl7 hst7
end
end
end Mine
end
section
open PySem PySem.W PyProof.Rows PySem.Calls
namespace Mine
theorem reset37 {M : Model} {A : Around} {E : Value → Shared → Prop} {s : Shared} {env : Env} {Q : Flow → Shared → Prop} (h : Q .next s) : wpAny M A (execs [] env) Q E s := by
  w_top off
  walk1
  w_top off
  exact h
end Mine
end
/-! Pl1 -/
section
open PySem PySem.W PyProof.Rows PySem.Calls
set_option Elab.async false
set_option maxRecDepth 100000
set_option maxHeartbeats 4000000
set_option linter.unusedVariables false
namespace Mine
/-- a path's place in the order of paths -/
noncomputable def idx (p : Row) : Nat := (allRows.filter fun q => ltP q p).length
theorem idx_lt : ∀ p ∈ allRows, ∀ q ∈ allRows, ltP p q = decide (idx p < idx q) := by decide +kernel
theorem idx_inj : ∀ p ∈ allRows, ∀ q ∈ allRows, idx p = idx q → p = q := by decide +kernel
theorem idx_bd : ∀ p ∈ allRows, idx p < 14 := by decide +kernel
noncomputable def rk (x : Key) : Int := (x.h * 16 + idx x.p) * 4 + x.w
noncomputable def GoodK (x : Key) : Prop := x.p ∈ allRows ∧ x.h = 1 - (x.p.length : Int) ∧ 0 ≤ x.w ∧ x.w < 4
theorem ltK_rk {x y : Key} (hx : GoodK x) (hy : GoodK y) : ltK x y = decide (rk x < rk y) := by
  obtain ⟨hx, hx1, hx2, hx3⟩ := hx
  obtain ⟨hy, hy1, hy2, hy3⟩ := hy
  have b1 := idx_bd _ hx
  have b2 := idx_bd _ hy
  unfold ltK rk
  by_cases h1 : x.h = y.h
  · rw [if_pos (by simpa using h1)]
    by_cases h2 : x.p = y.p
    · rw [if_pos (by simpa using h2)]
      by_cases h3 : x.w = y.w
      · rw [if_pos (by simpa using h3), h1, h2, h3]; simp
      · rw [if_neg (by simpa using h3), h1, h2]
        apply decide_eq_decide.mpr; omega
    · rw [if_neg (by simpa using h2), idx_lt _ hx _ hy, h1]
      have h4 : idx x.p ≠ idx y.p := fun h => h2 (idx_inj _ hx _ hy h)
      apply decide_eq_decide.mpr; omega
  · rw [if_neg (by simpa using h1)]
    apply decide_eq_decide.mpr; omega
noncomputable def HeapK : List Key → Prop
  | [a, b] => rk a ≤ rk b
  | [a, b, c] => rk a ≤ rk b ∧ rk a ≤ rk c
  | [a, b, c, d] => rk a ≤ rk b ∧ rk a ≤ rk c ∧ rk b ≤ rk d
  | _ => True
/-- a heap but for its top -/
noncomputable def SemiK : List Key → Prop
  | [_, b, _, d] => rk b ≤ rk d
  | _ => True
theorem heap_semi {x y : Key} {r : List Key} (h : HeapK (x :: r)) : SemiK (y :: r) := by
  match r, h with
  | [], _ => trivial
  | [_], _ => trivial
  | [_, _], _ => trivial
  | [_, _, _], h => exact h.2.2
  | _ :: _ :: _ :: _ :: _, _ => trivial
theorem heap_top {x : Key} {r : List Key} (hl : r.length ≤ 3) (h : HeapK (x :: r)) : ∀ y ∈ x :: r, rk x ≤ rk y := by
  match r, h, hl with
  | [], _, _ => simp
  | [b], h, _ => simp [HeapK] at h ⊢; omega
  | [b, c], h, _ => simp [HeapK] at h ⊢; omega
  | [b, c, d], h, _ => simp [HeapK] at h ⊢; omega
  | _ :: _ :: _ :: _ :: _, _, hl => simp at hl
theorem su_perm (xs : List Key) : (suK xs).Perm xs := by
  match xs with
  | [] => exact .refl _
  | [a] => exact .refl _
  | [a, b] =>
    simp only [suK]
    split
    · exact .refl _
    · exact .swap ..
  | [a, b, c] =>
    simp only [suK]
    split
    · split
      · exact .refl _
      · exact .swap ..
    · split
      · exact .refl _
      · exact List.perm_iff_count.mpr (fun z => by simp only [List.count_cons, List.count_nil]; omega) 
  | [a, b, c, d] =>
    simp only [suK]
    split
    · split
      · split
        · exact .refl _
        · exact .swap ..
      · exact List.perm_iff_count.mpr (fun z => by simp only [List.count_cons, List.count_nil]; omega) 
    · split
      · exact .refl _
      · exact List.perm_iff_count.mpr (fun z => by simp only [List.count_cons, List.count_nil]; omega) 
  | a :: b :: c :: d :: e :: r => exact .refl _
theorem su_heap {xs : List Key} (hg : ∀ x ∈ xs, GoodK x) (h : SemiK xs) : HeapK (suK xs) := by
  match xs, hg, h with
  | [], _, _ => trivial
  | [a], _, _ => trivial
  | [a, b], hg, _ =>
    simp only [suK, ltK_rk (hg a (by simp)) (hg b (by simp))]
    split <;> rename_i h1 <;> simp [HeapK] at h1 ⊢ <;> omega
  | [a, b, c], hg, _ =>
    simp only [suK, ltK_rk (hg a (by simp)) (hg b (by simp)), ltK_rk (hg b (by simp)) (hg c (by simp)), ltK_rk (hg a (by simp)) (hg c (by simp)), decide_eq_true_eq]
    split <;> split <;> simp only [HeapK] <;> omega
  | [a, b, c, d], hg, h =>
    simp only [SemiK] at h
    simp only [suK, ltK_rk (hg a (by simp)) (hg b (by simp)), ltK_rk (hg b (by simp)) (hg c (by simp)), ltK_rk (hg a (by simp)) (hg c (by simp)), ltK_rk (hg a (by simp)) (hg d (by simp)), decide_eq_true_eq]
    split <;> split <;> (try split) <;> simp only [HeapK] <;> omega
  | a :: b :: c :: d :: e :: r, _, _ => trivial
theorem su1_perm (xs : List Key) : (su1K xs).Perm xs := by
  match xs with
  | [] => exact .refl _
  | [a] => exact .refl _
  | [a, b] => exact .refl _
  | [a, b, c] => exact .refl _
  | [a, b, c, d] =>
    simp only [su1K]
    split
    · exact .refl _
    · exact List.perm_iff_count.mpr (fun z => by simp only [List.count_cons, List.count_nil]; omega) 
  | a :: b :: c :: d :: e :: r => exact .refl _
theorem su1_semi {xs : List Key} (hg : ∀ x ∈ xs, GoodK x) : SemiK (su1K xs) := by
  match xs, hg with
  | [], _ => trivial
  | [a], _ => trivial
  | [a, b], _ => trivial
  | [a, b, c], _ => trivial
  | [a, b, c, d], hg =>
    simp only [su1K, ltK_rk (hg b (by simp)) (hg d (by simp)), decide_eq_true_eq]
    split <;> simp only [SemiK] <;> omega
  | a :: b :: c :: d :: e :: r, _ => trivial
theorem pop_perm {x : Key} {r : List Key} (hl : r.length ≤ 3) : (popK (x :: r)).Perm r := by
  match r, hl with
  | [], _ => exact .refl _
  | [b], _ => exact .refl _
  | [b, c], _ => exact (su_perm [c, b]).trans (.swap ..)
  | [b, c, d], _ => exact (su_perm [d, b, c]).trans (List.perm_iff_count.mpr (fun z => by simp only [List.count_cons, List.count_nil]; omega))
  | _ :: _ :: _ :: _ :: _, hl => simp at hl
theorem pop_heap {x : Key} {r : List Key} (hl : r.length ≤ 3) (hg : ∀ y ∈ r, GoodK y) : HeapK (popK (x :: r)) := by
  match r, hl, hg with
  | [], _, _ => trivial
  | [b], _, _ => trivial
  | [b, c], _, hg => exact su_heap (xs := [c, b]) (fun y hy => hg y (by simp only [List.mem_cons] at hy ⊢; grind)) trivial
  | [b, c, d], _, hg => exact su_heap (xs := [d, b, c]) (fun y hy => hg y (by simp only [List.mem_cons] at hy ⊢; grind)) trivial
  | _ :: _ :: _ :: _ :: _, hl, _ => simp at hl
end Mine
end
section
open PySem PySem.W PyProof.Rows PySem.Calls
namespace Mine
theorem reset38 {M : Model} {A : Around} {E : Value → Shared → Prop} {s : Shared} {env : Env} {Q : Flow → Shared → Prop} (h : Q .next s) : wpAny M A (execs [] env) Q E s := by
  w_top off
  walk1
  w_top off
  exact h
end Mine
end
/-! Pl2 -/
section
open PySem PySem.W PyProof.Rows PySem.Calls
set_option Elab.async false
set_option maxRecDepth 100000
set_option maxHeartbeats 4000000
set_option linter.unusedVariables false
namespace Mine
theorem rows_ne : ∀ p ∈ allRows, 1 ≤ p.length ∧ p.length ≤ 3 := by decide +kernel
theorem drop_in : ∀ p ∈ allRows, 1 < p.length → p.dropLast ∈ allRows := by decide +kernel
/-- where each one stands, and the heap that says so -/
structure InvK (cur : Int → Row) (xs : List Key) : Prop where
  nd : (xs.map Key.w).Nodup
  mem : ∀ x, x ∈ xs ↔ (0 ≤ x.w ∧ x.w < 4 ∧ x.p ≠ [] ∧ cur x.w = x.p ∧ x.h = 1 - (x.p.length : Int))
  rows : ∀ w, 0 ≤ w → w < 4 → cur w ≠ [] → cur w ∈ allRows
  heap : HeapK xs
  len : xs.length ≤ 4
theorem InvK.good {cur : Int → Row} {xs : List Key} (I : InvK cur xs) {x : Key} (hx : x ∈ xs) : GoodK x := by
  obtain ⟨h0, h4, hn, hc, hh⟩ := (I.mem x).mp hx
  exact ⟨hc ▸ I.rows _ h0 h4 (hc ▸ hn), hh, h0, h4⟩
/-- all others come behind -/
noncomputable def SepK (f : Row) (cur : Int → Row) : Prop := ∀ w, 0 ≤ w → w < 4 → cur w ≠ [] → cur w = f ∨ (1 - (f.length : Int)) * 16 + idx f < (1 - ((cur w).length : Int)) * 16 + idx (cur w)
noncomputable def updK (cur : Int → Row) (w0 : Int) (v : Row) : Int → Row := fun w => if w = w0 then v else cur w
theorem step_K {f : Row} {h : Int} {cur : Int → Row} {xs zs : List Key} (hf : f ∈ allRows) (hh : h = 1 - (f.length : Int)) (I : InvK cur xs) (S : SepK f cur) :
    ((∀ w, 0 ≤ w → w < 4 → cur w ≠ f) ∧ stepK h f (xs, zs) = (xs, zs)) ∨
    (∃ w0 xs', 0 ≤ w0 ∧ w0 < 4 ∧ cur w0 = f ∧ stepK h f (xs, zs) = (xs', zs ++ [⟨h, f, w0⟩]) ∧ InvK (updK cur w0 f.dropLast) xs' ∧ SepK f (updK cur w0 f.dropLast)) := by
  have hfl := rows_ne f hf
  have hfn : f ≠ [] := by intro e; rw [e] at hfl; simp at hfl
  have bf := idx_bd f hf
  match xs, I with
  | [], I =>
    refine .inl ⟨fun w h0 h4 e => ?_, rfl⟩
    have := (I.mem ⟨h, f, w⟩).mpr ⟨h0, h4, hfn, e, hh⟩
    exact absurd this List.not_mem_nil
  | x :: r, I =>
    have hx0 := (I.mem x).mp List.mem_cons_self
    obtain ⟨h0, h4, hn, hc, hxh⟩ := hx0
    have hl : r.length ≤ 3 := by have := I.len; simp at this; omega
    by_cases hp : x.p = f
    · right
      have hxe : x = ⟨h, f, x.w⟩ := by
        cases x; simp only at hp hxh ⊢
        subst hp; rw [hxh, hh]
      have hnd := I.nd
      simp only [List.map_cons, List.nodup_cons] at hnd
      have hrw : ∀ z ∈ r, z.w ≠ x.w := fun z hz e => hnd.1 (List.mem_map.mpr ⟨z, hz, e⟩)
      have hmemr : ∀ z, z ∈ r ↔ (0 ≤ z.w ∧ z.w < 4 ∧ z.p ≠ [] ∧ cur z.w = z.p ∧ z.h = 1 - (z.p.length : Int)) ∧ z.w ≠ x.w := by
        intro z
        constructor
        · intro hz
          exact ⟨(I.mem z).mp (List.mem_cons_of_mem _ hz), hrw z hz⟩
        · rintro ⟨hz, hne⟩
          rcases List.mem_cons.mp ((I.mem z).mpr hz) with e | hz'
          · exact absurd (congrArg Key.w e) hne
          · exact hz'
      have hgr : ∀ z ∈ r, GoodK z := fun z hz => I.good (List.mem_cons_of_mem _ hz)
      have hsep : SepK f (updK cur x.w f.dropLast) := by
        intro w hw0 hw4 hne
        unfold updK at hne ⊢
        by_cases hw : w = x.w
        · rw [if_pos hw] at hne ⊢
          right
          have h1 : 1 < f.length := by
            rcases f with _ | ⟨a, _ | ⟨b, t⟩⟩
            · exact absurd rfl hfn
            · exact absurd rfl hne
            · simp
          rw [List.length_dropLast]
          omega
        · rw [if_neg hw] at hne ⊢
          exact S w hw0 hw4 hne
      have hst : stepK h f (x :: r, zs) = if h < 0 then (suK (⟨h + 1, f.dropLast, x.w⟩ :: r), zs ++ [x]) else (popK (x :: r), zs ++ [x]) := by
        simp only [stepK]; rw [if_pos hp]
      by_cases hlt : h < 0
      · have hf1 : 1 < f.length := by omega
        have hdi := drop_in f hf hf1
        have hdl := rows_ne _ hdi
        have hdn : f.dropLast ≠ [] := by intro e; rw [e] at hdl; simp at hdl
        have hgy : GoodK ⟨h + 1, f.dropLast, x.w⟩ := ⟨hdi, by simp only [List.length_dropLast]; omega, h0, h4⟩
        have hP := su_perm (⟨h + 1, f.dropLast, x.w⟩ :: r)
        refine ⟨x.w, suK (⟨h + 1, f.dropLast, x.w⟩ :: r), h0, h4, hc.trans hp, ?_, ⟨?_, ?_, ?_, ?_, ?_⟩, hsep⟩
        · rw [hst, if_pos hlt, ← hxe]
        · refine (hP.map Key.w).nodup_iff.mpr ?_
          simp only [List.map_cons, List.nodup_cons]
          exact hnd
        · intro z
          rw [hP.mem_iff, List.mem_cons, hmemr]
          unfold updK
          constructor
          · rintro (rfl | ⟨⟨z0, z4, zn, zc, zh⟩, zw⟩)
            · exact ⟨h0, h4, hdn, if_pos rfl, by simp only [List.length_dropLast]; omega⟩
            · exact ⟨z0, z4, zn, by rw [if_neg zw]; exact zc, zh⟩
          · rintro ⟨z0, z4, zn, zc, zh⟩
            by_cases hw : z.w = x.w
            · left
              rw [if_pos hw] at zc
              cases z
              simp only at zc zh hw ⊢
              subst zc
              rw [List.length_dropLast] at zh
              rw [hw, zh, hh]
              congr 1
              omega
            · right
              rw [if_neg hw] at zc
              exact ⟨⟨z0, z4, zn, zc, zh⟩, hw⟩
        · intro w hw0 hw4 hne
          unfold updK at hne ⊢
          by_cases hw : w = x.w
          · rw [if_pos hw]; exact hdi
          · rw [if_neg hw] at hne ⊢; exact I.rows w hw0 hw4 hne
        · refine su_heap ?_ (heap_semi I.heap)
          intro z hz
          rcases List.mem_cons.mp hz with rfl | hz
          · exact hgy
          · exact hgr z hz
        · rw [hP.length_eq]; simp; exact hl
      · have hf1 : f.dropLast = [] := by
          rcases f with _ | ⟨a, _ | ⟨b, t⟩⟩
          · rfl
          · rfl
          · simp at hh; omega
        have hP := pop_perm (x := x) hl
        refine ⟨x.w, popK (x :: r), h0, h4, hc.trans hp, ?_, ⟨?_, ?_, ?_, ?_, ?_⟩, hsep⟩
        · rw [hst, if_neg hlt, ← hxe]
        · exact (hP.map Key.w).nodup_iff.mpr hnd.2
        · intro z
          rw [hP.mem_iff, hmemr]
          unfold updK
          constructor
          · rintro ⟨⟨z0, z4, zn, zc, zh⟩, zw⟩
            exact ⟨z0, z4, zn, by rw [if_neg zw]; exact zc, zh⟩
          · rintro ⟨z0, z4, zn, zc, zh⟩
            by_cases hw : z.w = x.w
            · rw [if_pos hw, hf1] at zc
              exact absurd zc.symm zn
            · rw [if_neg hw] at zc
              exact ⟨⟨z0, z4, zn, zc, zh⟩, hw⟩
        · intro w hw0 hw4 hne
          unfold updK at hne ⊢
          by_cases hw : w = x.w
          · rw [if_pos hw, hf1] at hne; exact absurd rfl hne
          · rw [if_neg hw] at hne ⊢; exact I.rows w hw0 hw4 hne
        · exact pop_heap hl hgr
        · rw [hP.length_eq]; omega
    · left
      refine ⟨fun w hw0 hw4 e => ?_, by simp only [stepK]; rw [if_neg hp]⟩
      have hy := (I.mem ⟨h, f, w⟩).mpr ⟨hw0, hw4, hfn, e, hh⟩
      have ht := heap_top hl I.heap _ hy
      have hs := S x.w h0 h4 (by rw [hc]; exact hn)
      rw [hc] at hs
      rcases hs with hs | hs
      · exact hp hs
      · unfold rk at ht
        simp only at ht
        rw [hxh, hh] at ht
        omega
/-- how far a turn has come -/
structure TurnInv (f : Row) (cur : Int → Row) (i : Nat) (st : List Key × List Key) : Prop where
  ex : ∃ cur', InvK cur' st.1 ∧ SepK f cur' ∧ (∀ w, 0 ≤ w → w < 4 → cur' w = if w ∈ st.2.map Key.w then f.dropLast else cur w) ∧ ((∃ w, 0 ≤ w ∧ w < 4 ∧ cur' w = f) → st.2.length = i)
  nd : (st.2.map Key.w).Nodup
  all : ∀ z ∈ st.2, z.p = f ∧ 0 ≤ z.w ∧ z.w < 4 ∧ cur z.w = f
theorem drop_ne {f : Row} (hf : f ≠ []) : f.dropLast ≠ f := by
  intro e
  have := congrArg List.length e
  rw [List.length_dropLast] at this
  have : f.length ≠ 0 := by simpa using hf
  omega
theorem turn_step {f : Row} {h : Int} {cur : Int → Row} {i : Nat} {st : List Key × List Key} (hf : f ∈ allRows) (hh : h = 1 - (f.length : Int)) (T : TurnInv f cur i st) : TurnInv f cur (i + 1) (stepK h f st) := by
  obtain ⟨xs, zs⟩ := st
  obtain ⟨⟨cur', I, S, hcur, hfull⟩, hnd, hall⟩ := T
  have hfn : f ≠ [] := by have := rows_ne f hf; intro e; rw [e] at this; simp at this
  have hdn := drop_ne hfn
  rcases step_K (zs := zs) hf hh I S with ⟨hno, hst⟩ | ⟨w0, xs', h0, h4, hw0, hst, I', S'⟩
  · rw [hst]
    exact ⟨⟨cur', I, S, hcur, fun ⟨w, a, b, c⟩ => absurd c (hno w a b)⟩, hnd, hall⟩
  · rw [hst]
    have hc0 := hcur w0 h0 h4
    have hnot : w0 ∉ zs.map Key.w := by
      intro hm
      rw [if_pos hm, hw0] at hc0
      exact hdn hc0.symm
    rw [if_neg hnot] at hc0
    refine ⟨⟨_, I', S', ?_, ?_⟩, ?_, ?_⟩
    · intro w hw0' hw4'
      unfold updK
      simp only [List.map_append, List.map_cons, List.map_nil, List.mem_append, List.mem_singleton]
      by_cases hw : w = w0
      · rw [if_pos hw, if_pos (.inr hw)]
      · rw [if_neg hw, hcur w hw0' hw4']
        simp [hw]
    · rintro ⟨w, a, b, c⟩
      have : zs.length = i := hfull ⟨w0, h0, h4, hw0⟩
      simp [this]
    · simp only [List.map_append, List.map_cons, List.map_nil]
      rw [List.nodup_append]
      refine ⟨hnd, by simp, ?_⟩
      intro a ha b hb
      rw [List.mem_singleton.mp hb]
      intro e
      exact hnot (e ▸ ha)
    · intro z hz
      rcases List.mem_append.mp hz with hz | hz
      · exact hall z hz
      · rw [List.mem_singleton.mp hz]
        exact ⟨rfl, h0, h4, hc0.symm.trans hw0⟩
/-- a turn whole -/
theorem turn_steps {f : Row} {h : Int} {cur : Int → Row} {xs : List Key} (hf : f ∈ allRows) (hh : h = 1 - (f.length : Int)) (I : InvK cur xs) (S : SepK f cur) :
    ∃ xs' zs' cur', stepK h f (stepK h f (stepK h f (stepK h f (xs, [])))) = (xs', zs') ∧ InvK cur' xs' ∧ (zs'.map Key.w).Nodup ∧ (∀ w, 0 ≤ w → w < 4 → (w ∈ zs'.map Key.w ↔ cur w = f)) ∧ (∀ z ∈ zs', z.p = f ∧ 0 ≤ z.w ∧ z.w < 4) ∧
      (∀ w, 0 ≤ w → w < 4 → cur' w = if cur w = f then f.dropLast else cur w) := by
  have hfn : f ≠ [] := by have := rows_ne f hf; intro e; rw [e] at this; simp at this
  have hdn := drop_ne hfn
  have T0 : TurnInv f cur 0 (xs, []) := ⟨⟨cur, I, S, fun w _ _ => by simp, fun _ => rfl⟩, by simp, fun z hz => absurd hz List.not_mem_nil⟩
  have T4 := turn_step hf hh (turn_step hf hh (turn_step hf hh (turn_step hf hh T0)))
  revert T4
  generalize stepK h f (stepK h f (stepK h f (stepK h f (xs, [])))) = st
  obtain ⟨xs', zs'⟩ := st
  rintro ⟨⟨cur', I', S', hcur, hfull⟩, hnd, hall⟩
  have hno : ∀ w, 0 ≤ w → w < 4 → cur' w ≠ f := by
    intro w h0 h4 e
    have hl := hfull ⟨w, h0, h4, e⟩
    have hw := hcur w h0 h4
    have hin : w ∈ zs'.map Key.w := by
      match zs', hl, hnd, hall with
      | [a, b, c, d], _, hnd, hall =>
        have ha := (hall a (by simp)).2
        have hb := (hall b (by simp)).2
        have hc := (hall c (by simp)).2
        have hd := (hall d (by simp)).2
        simp only [List.map_cons, List.map_nil, List.nodup_cons, List.mem_cons, List.not_mem_nil, or_false, not_or] at hnd ⊢
        omega
    rw [if_pos hin, e] at hw
    exact hdn hw.symm
  have hiff : ∀ w, 0 ≤ w → w < 4 → (w ∈ zs'.map Key.w ↔ cur w = f) := by
    intro w h0 h4
    constructor
    · intro hm
      obtain ⟨z, hz, rfl⟩ := List.mem_map.mp hm
      exact (hall z hz).2.2.2
    · intro e
      apply Classical.byContradiction
      intro hm
      have hw := hcur w h0 h4
      rw [if_neg hm, e] at hw
      exact hno w h0 h4 hw
  refine ⟨xs', zs', cur', rfl, I', hnd, hiff, fun z hz => ⟨(hall z hz).1, (hall z hz).2.1, (hall z hz).2.2.1⟩, ?_⟩
  intro w h0 h4
  rw [hcur w h0 h4]
  by_cases e : cur w = f
  · rw [if_pos ((hiff w h0 h4).mpr e), if_pos e]
  · rw [if_neg (fun hm => e ((hiff w h0 h4).mp hm)), if_neg e]
end Mine
end
section
open PySem PySem.W PyProof.Rows PySem.Calls
namespace Mine
theorem reset39 {M : Model} {A : Around} {E : Value → Shared → Prop} {s : Shared} {env : Env} {Q : Flow → Shared → Prop} (h : Q .next s) : wpAny M A (execs [] env) Q E s := by
  w_top off
  walk1
  w_top off
  exact h
end Mine
end
/-! Pl3 -/
section
open PySem PySem.W PyProof.Rows PySem.Calls
set_option Elab.async false
set_option maxRecDepth 100000
set_option maxHeartbeats 4000000
set_option linter.unusedVariables false
namespace Mine
/-- what one that stands in a folder pays there, n standing in it -/
noncomputable def shareK (prices : List Int) (k : Int) (q : Row) (n : Nat) : Int := Int.fdiv (prices.getD ((pathCps q).length - 1) 0 * min k n) n
theorem getD_in {l : List Int} {i : Nat} (h : i < l.length) : l.getD i 0 = l[i] := by rw [List.getD_eq_getElem?_getD, List.getElem?_eq_getElem h]; rfl
theorem pays_K {prices : List Int} {k : Int} {n : Nat} {f : Row} : ∀ (zs : List Key) (fs : List Int), fs.length = 4 → (zs.map Key.w).Nodup → (∀ z ∈ zs, z.p = f ∧ 0 ≤ z.w ∧ z.w < 4) → (zs.foldl (payK prices k n) fs).length = 4 ∧
    ∀ i : Nat, i < 4 → (zs.foldl (payK prices k n) fs).getD i 0 = fs.getD i 0 + if (i : Int) ∈ zs.map Key.w then shareK prices k f n else 0
  | [], fs, hl, _, _ => ⟨hl, fun i hi => by simp⟩
  | z :: r, fs, hl, hnd, hall => by
    obtain ⟨hp, h0, h4⟩ := hall z List.mem_cons_self
    simp only [List.map_cons, List.nodup_cons] at hnd
    have hl' : (payK prices k n fs z).length = 4 := by simp [payK, hl]
    obtain ⟨h1, h2⟩ := pays_K (prices := prices) (k := k) (n := n) (f := f) r (payK prices k n fs z) hl' hnd.2 (fun y hy => hall y (List.mem_cons_of_mem _ hy))
    refine ⟨h1, fun i hi => ?_⟩
    rw [List.foldl_cons, h2 i hi]
    have e : (payK prices k n fs z).getD i 0 = fs.getD i 0 + if (i : Int) = z.w then shareK prices k f n else 0 := by
      have hil : i < fs.length := by omega
      have hil' : i < (payK prices k n fs z).length := by omega
      rw [getD_in hil', getD_in hil]
      simp only [payK, List.getElem_set]
      by_cases hz : (i : Int) = z.w
      · have : z.w.toNat = i := by omega
        rw [if_pos this, if_pos hz, this, hp, getD_in hil]; rfl
      · have : ¬ z.w.toNat = i := by omega
        rw [if_neg this, if_neg hz]; simp
    rw [e]
    simp only [List.map_cons, List.mem_cons]
    by_cases hz : (i : Int) = z.w
    · have : ¬ (i : Int) ∈ r.map Key.w := by rw [hz]; exact hnd.1
      rw [if_pos hz, if_neg this, if_pos (.inl hz)]; omega
    · rw [if_neg hz]
      by_cases hr : (i : Int) ∈ r.map Key.w
      · rw [if_pos hr, if_pos (.inr hr)]; omega
      · rw [if_neg hr, if_neg (by simp only [not_or]; exact ⟨hz, hr⟩)]; omega
/-- how many stand in a folder -/
noncomputable def cntK (c : Int → Row) (f : Row) : Nat := ((List.range 4).filter fun i : Nat => decide (c (i : Int) = f)).length
theorem cnt_len {cur : Int → Row} {f : Row} {ws : List Int} (hnd : ws.Nodup) (hall : ∀ w ∈ ws, 0 ≤ w ∧ w < 4) (hiff : ∀ w, 0 ≤ w → w < 4 → (w ∈ ws ↔ cur w = f)) : ws.length = cntK cur f := by
  have hP : ws.Perm (((List.range 4).filter fun i : Nat => decide (cur (i : Int) = f)).map fun i : Nat => (i : Int)) := by
    refine (List.perm_ext_iff_of_nodup hnd ?_).mpr ?_
    · refine List.Pairwise.map (R := fun a b : Nat => a ≠ b) (fun i : Nat => (i : Int)) (fun a b h e => h (Int.ofNat.inj e)) ?_
      exact List.Pairwise.filter _ List.nodup_range
    · intro w
      simp only [List.mem_map, List.mem_filter, List.mem_range, decide_eq_true_eq]
      constructor
      · intro hw
        obtain ⟨h0, h4⟩ := hall w hw
        have e : ((w.toNat : Nat) : Int) = w := by omega
        refine ⟨w.toNat, ⟨by omega, ?_⟩, e⟩
        rw [e]; exact (hiff w h0 h4).mp hw
      · rintro ⟨i, ⟨h4, hc⟩, rfl⟩
        exact (hiff _ (by omega) (by omega)).mpr hc
  rw [hP.length_eq, List.length_map]; rfl
/-- how many of the paths go through a folder -/
noncomputable def mK (p : Int → Row) (q : Row) : Nat := ((List.range 4).filter fun i : Nat => decide ((p (i : Int)).take q.length = q)).length
/-- what one pays for the folders of its own from depth c on -/
noncomputable def sumK (prices : List Int) (k : Int) (p : Int → Row) (w : Int) (c : Nat) : Int :=
  ((List.range (p w).length).map fun d => if c ≤ d then shareK prices k ((p w).take (d + 1)) (mK p ((p w).take (d + 1))) else 0).sum
theorem sumK_step (prices : List Int) (k : Int) (p : Int → Row) (w : Int) (l : Nat) (h1 : 1 ≤ l) (h : l ≤ (p w).length) :
    sumK prices k p w (l - 1) = sumK prices k p w l + shareK prices k ((p w).take l) (mK p ((p w).take l)) := by
  unfold sumK
  generalize hg : (fun d : Nat => shareK prices k ((p w).take (d + 1)) (mK p ((p w).take (d + 1)))) = g
  have hg' : ∀ d : Nat, shareK prices k ((p w).take (d + 1)) (mK p ((p w).take (d + 1))) = g d := fun d => by rw [← hg]
  simp only [hg']
  have e : shareK prices k ((p w).take l) (mK p ((p w).take l)) = g (l - 1) := by
    rw [← hg]; simp only; rw [show l - 1 + 1 = l by omega]
  rw [e]
  have key : ∀ (n c : Nat), c < n → ((List.range n).map fun d => if c ≤ d then g d else 0).sum = ((List.range n).map fun d => if c + 1 ≤ d then g d else 0).sum + g c := by
    intro n
    induction n with
    | zero => intro c hc; omega
    | succ n ih =>
      intro c hc
      simp only [List.range_succ, List.map_append, List.sum_append, List.map_cons, List.map_nil, List.sum_cons, List.sum_nil]
      by_cases hcn : c < n
      · rw [ih c hcn]
        rw [if_pos (by omega), if_pos (by omega)]
        omega
      · have : c = n := by omega
        subst this
        have e2 : ((List.range c).map fun d => if c ≤ d then g d else 0) = ((List.range c).map fun d => if c + 1 ≤ d then g d else 0) := by
          apply List.map_congr_left
          intro d hd
          have := List.mem_range.mp hd
          rw [if_neg (by omega), if_neg (by omega)]
        rw [e2, if_pos (by omega), if_neg (by omega)]
        omega
  have := key (p w).length (l - 1) (by omega)
  rw [this, show l - 1 + 1 = l by omega]
structure JK (prices : List Int) (k : Int) (p : Int → Row) (cur : Int → Row) (st : List Key × List Int) : Prop where
  inv : InvK cur st.1
  pre : ∀ w, 0 ≤ w → w < 4 → cur w = (p w).take (cur w).length
  low : ∀ w w', 0 ≤ w → w < 4 → 0 ≤ w' → w' < 4 → ∀ l, l ≤ (p w).length → (p w).take l = (p w').take l → (cur w).length < l → (cur w').length < l
  len : st.2.length = 4
  fee : ∀ i : Nat, i < 4 → st.2.getD i 0 = sumK prices k p i (cur i).length
noncomputable def totK (cur : Int → Row) : Nat := (cur 0).length + (cur 1).length + (cur 2).length + (cur 3).length
theorem turn_JK {prices : List Int} {k : Int} {p cur : Int → Row} {st : List Key × List Int} (J : JK prices k p cur st) : ∃ cur', JK prices k p cur' (turnK prices k st) ∧ (totK cur' < totK cur ∨ totK cur' = 0) := by
  obtain ⟨xs, fs⟩ := st
  match xs, J with
  | [], J =>
    refine ⟨cur, J, .inr ?_⟩
    have hz : ∀ w, 0 ≤ w → w < 4 → (cur w).length = 0 := by
      intro w h0 h4
      apply Classical.byContradiction
      intro hn
      have hn' : cur w ≠ [] := fun e => hn (by rw [e]; rfl)
      exact absurd ((J.inv.mem ⟨1 - ((cur w).length : Int), cur w, w⟩).mpr ⟨h0, h4, hn', rfl, rfl⟩) List.not_mem_nil
    unfold totK
    rw [hz 0 (by omega) (by omega), hz 1 (by omega) (by omega), hz 2 (by omega) (by omega), hz 3 (by omega) (by omega)]
  | x :: r, J =>
    obtain ⟨I, hpre, hlow, hlen, hfee⟩ := J
    simp only at I hlen hfee
    obtain ⟨h0, h4, hn, hc, hh⟩ := (I.mem x).mp List.mem_cons_self
    have hf : x.p ∈ allRows := (I.good List.mem_cons_self).1
    have hfl := rows_ne _ hf
    have bf := idx_bd _ hf
    have hl : r.length ≤ 3 := by have := I.len; simp at this; omega
    have S : SepK x.p cur := by
      intro w hw0 hw4 hne
      have hm := (I.mem ⟨1 - ((cur w).length : Int), cur w, w⟩).mpr ⟨hw0, hw4, hne, rfl, rfl⟩
      have ht := heap_top hl I.heap _ hm
      have hcw := I.rows w hw0 hw4 hne
      have bw := idx_bd _ hcw
      unfold rk at ht
      simp only at ht
      rw [hh] at ht
      by_cases e : cur w = x.p
      · exact .inl e
      · right
        have hi : idx (cur w) ≠ idx x.p := fun h => e (idx_inj _ hcw _ hf h)
        omega
    have hmax : ∀ w, 0 ≤ w → w < 4 → (cur w).length ≤ x.p.length := by
      intro w hw0 hw4
      by_cases hne : cur w = []
      · rw [hne]; exact Nat.zero_le _
      · have bw := idx_bd _ (I.rows w hw0 hw4 hne)
        rcases S w hw0 hw4 hne with e | e
        · rw [e]; exact Nat.le_refl _
        · omega
    have hxp : (p x.w).take x.p.length = x.p := by
      have := hpre x.w h0 h4
      rw [hc] at this
      exact this.symm
    have hthru : ∀ w, 0 ≤ w → w < 4 → (cur w = x.p ↔ (p w).take x.p.length = x.p) := by
      intro w hw0 hw4
      constructor
      · intro e
        have := hpre w hw0 hw4
        rw [e] at this
        exact this.symm
      · intro e
        have hle : x.p.length ≤ (p w).length := by
          have := congrArg List.length e
          rw [List.length_take] at this
          omega
        have hge : ¬ (cur w).length < x.p.length := by
          intro hlt
          have := hlow w x.w hw0 hw4 h0 h4 _ hle (e.trans hxp.symm) hlt
          rw [hc] at this
          omega
        have := hmax w hw0 hw4
        rw [hpre w hw0 hw4, show (cur w).length = x.p.length by omega, e]
    obtain ⟨xs', zs', cur', hst, I', hnd, hiff, hall, hcur⟩ := turn_steps hf hh I S
    have hturn : turnK prices k (x :: r, fs) = (xs', zs'.foldl (payK prices k zs'.length) fs) := by
      simp only [turnK, hst]
    rw [hturn]
    have hcnt : zs'.length = mK p x.p := by
      have := cnt_len (cur := cur) (f := x.p) hnd (fun w hw => by obtain ⟨z, hz, rfl⟩ := List.mem_map.mp hw; exact (hall z hz).2) hiff
      rw [List.length_map] at this
      rw [this]
      unfold cntK mK
      congr 1
      apply List.filter_congr
      intro i hi
      have := List.mem_range.mp hi
      exact decide_eq_decide.mpr (hthru i (by omega) (by omega))
    obtain ⟨hpl, hpay⟩ := pays_K (prices := prices) (k := k) (n := zs'.length) (f := x.p) zs' fs hlen hnd hall
    have hlc : ∀ w, 0 ≤ w → w < 4 → (cur' w).length = if cur w = x.p then x.p.length - 1 else (cur w).length := by
      intro w hw0 hw4
      rw [hcur w hw0 hw4]
      split
      · rw [List.length_dropLast]
      · rfl
    refine ⟨cur', ⟨I', ?_, ?_, hpl, ?_⟩, .inl ?_⟩
    · intro w hw0 hw4
      rw [hlc w hw0 hw4, hcur w hw0 hw4]
      split
      · rename_i e
        have := (hthru w hw0 hw4).mp e
        have e2 : (p w).take (x.p.length - 1) = ((p w).take x.p.length).take (x.p.length - 1) := by
          rw [List.take_take]; congr 1; omega
        rw [e2, this, List.dropLast_eq_take]
      · exact hpre w hw0 hw4
    · intro w w' hw0 hw4 hw0' hw4' l hl' he hlt
      rw [hlc w hw0 hw4] at hlt
      rw [hlc w' hw0' hw4']
      by_cases hcl : (cur w).length < l
      · have := hlow w w' hw0 hw4 hw0' hw4' l hl' he hcl
        split
        · rename_i e
          rw [e] at this
          omega
        · exact this
      · by_cases e : cur w = x.p
        · rw [if_pos e] at hlt
          rw [e] at hcl
          have hll : l = x.p.length := by omega
          have e' : cur w' = x.p := by
            rw [hthru w' hw0' hw4', ← hll, ← he, hll]
            exact (hthru w hw0 hw4).mp e
          rw [if_pos e']
          omega
        · rw [if_neg e] at hlt
          exact absurd hlt hcl
    · intro i hi
      rw [hpay i hi, hfee i hi]
      have hi0 : (0 : Int) ≤ (i : Int) := by omega
      have hi4 : (i : Int) < 4 := by omega
      rw [hlc i hi0 hi4]
      by_cases e : cur i = x.p
      · have ht := (hthru i hi0 hi4).mp e
        have hle : x.p.length ≤ (p i).length := by
          have := congrArg List.length ht
          rw [List.length_take] at this
          omega
        rw [if_pos ((hiff i hi0 hi4).mpr e), if_pos e, e, sumK_step prices k p i x.p.length hfl.1 hle, ht, hcnt]
      · rw [if_neg (fun hm => e ((hiff i hi0 hi4).mp hm)), if_neg e]
        omega
    · have hle : ∀ w, 0 ≤ w → w < 4 → (cur' w).length ≤ (cur w).length ∧ (w = x.w → (cur' w).length < (cur w).length) := by
        intro w hw0 hw4
        rw [hlc w hw0 hw4]
        constructor
        · split
          · rename_i e; rw [e]; omega
          · omega
        · rintro rfl
          rw [if_pos hc, hc]
          omega
      have a0 := hle 0 (by omega) (by omega)
      have a1 := hle 1 (by omega) (by omega)
      have a2 := hle 2 (by omega) (by omega)
      have a3 := hle 3 (by omega) (by omega)
      unfold totK
      have hw : x.w = 0 ∨ x.w = 1 ∨ x.w = 2 ∨ x.w = 3 := by omega
      rcases hw with e | e | e | e
      · have := a0.2 e.symm; omega
      · have := a1.2 e.symm; omega
      · have := a2.2 e.symm; omega
      · have := a3.2 e.symm; omega
noncomputable def rowsFn (p0 p1 p2 p3 : Row) : Int → Row := fun w => if w = 0 then p0 else if w = 1 then p1 else if w = 2 then p2 else p3
theorem fees_plain {prices : List Int} {k : Int} {p0 p1 p2 p3 : Row} (h0 : p0 ∈ allRows) (h1 : p1 ∈ allRows) (h2 : p2 ∈ allRows) (h3 : p3 ∈ allRows) :
    (feesK prices k [⟨1 - p0.length, p0, 0⟩, ⟨1 - p1.length, p1, 1⟩, ⟨1 - p2.length, p2, 2⟩, ⟨1 - p3.length, p3, 3⟩]).length = 4 ∧
    ∀ i : Nat, i < 4 → (feesK prices k [⟨1 - p0.length, p0, 0⟩, ⟨1 - p1.length, p1, 1⟩, ⟨1 - p2.length, p2, 2⟩, ⟨1 - p3.length, p3, 3⟩]).getD i 0 = sumK prices k (rowsFn p0 p1 p2 p3) i 0 := by
  obtain ⟨xs0, hxs0⟩ : ∃ xs0 : List Key, xs0 = [⟨1 - p0.length, p0, 0⟩, ⟨1 - p1.length, p1, 1⟩, ⟨1 - p2.length, p2, 2⟩, ⟨1 - p3.length, p3, 3⟩] := ⟨_, rfl⟩
  rw [← hxs0]
  have l0 := rows_ne _ h0
  have l1 := rows_ne _ h1
  have l2 := rows_ne _ h2
  have l3 := rows_ne _ h3
  have hg : ∀ x ∈ xs0, GoodK x := by
    rw [hxs0]
    intro x hx
    simp only [List.mem_cons, List.not_mem_nil, or_false] at hx
    rcases hx with rfl | rfl | rfl | rfl
    · exact ⟨h0, rfl, by simp, by simp⟩
    · exact ⟨h1, rfl, by simp, by simp⟩
    · exact ⟨h2, rfl, by simp, by simp⟩
    · exact ⟨h3, rfl, by simp, by simp⟩
  have hP := (su_perm (su1K xs0)).trans (su1_perm xs0)
  have hrow : ∀ w, 0 ≤ w → w < 4 → rowsFn p0 p1 p2 p3 w ∈ allRows := by
    intro w hw0 hw4
    unfold rowsFn
    split
    · exact h0
    · split
      · exact h1
      · split
        · exact h2
        · exact h3
  have I0 : InvK (rowsFn p0 p1 p2 p3) (suK (su1K xs0)) := by
    refine ⟨?_, ?_, fun w a b _ => hrow w a b, ?_, ?_⟩
    · refine (hP.map Key.w).nodup_iff.mpr ?_
      rw [hxs0]
      simp
    · intro x
      rw [hP.mem_iff, hxs0]
      simp only [List.mem_cons, List.not_mem_nil, or_false]
      constructor
      · rintro (rfl | rfl | rfl | rfl)
        · exact ⟨by simp, by simp, fun e => by simp only at e; rw [e] at l0; simp at l0, rfl, rfl⟩
        · exact ⟨by simp, by simp, fun e => by simp only at e; rw [e] at l1; simp at l1, rfl, rfl⟩
        · exact ⟨by simp, by simp, fun e => by simp only at e; rw [e] at l2; simp at l2, rfl, rfl⟩
        · exact ⟨by simp, by simp, fun e => by simp only at e; rw [e] at l3; simp at l3, rfl, rfl⟩
      · obtain ⟨xh, xp, xw⟩ := x
        simp only
        rintro ⟨a, b, c, d, e⟩
        have hw : xw = 0 ∨ xw = 1 ∨ xw = 2 ∨ xw = 3 := by omega
        rcases hw with rfl | rfl | rfl | rfl
        · left
          have d' : p0 = xp := d
          rw [e, ← d']
        · right; left
          have d' : p1 = xp := d
          rw [e, ← d']
        · right; right; left
          have d' : p2 = xp := d
          rw [e, ← d']
        · right; right; right
          have d' : p3 = xp := d
          rw [e, ← d']
    · exact su_heap (fun x hx => hg x ((su1_perm xs0).mem_iff.mp hx)) (su1_semi hg)
    · rw [hP.length_eq, hxs0]; simp
  have J0 : JK prices k (rowsFn p0 p1 p2 p3) (rowsFn p0 p1 p2 p3) (suK (su1K xs0), [0, 0, 0, 0]) := by
    refine ⟨I0, ?_, ?_, rfl, ?_⟩
    · intro w _ _; rw [List.take_length]
    · intro w w' _ _ _ _ l hl _ hlt; omega
    · intro i hi
      have e : sumK prices k (rowsFn p0 p1 p2 p3) i (rowsFn p0 p1 p2 p3 i).length = 0 := by
        unfold sumK
        have : ((List.range (rowsFn p0 p1 p2 p3 i).length).map fun d => if (rowsFn p0 p1 p2 p3 i).length ≤ d then shareK prices k ((rowsFn p0 p1 p2 p3 i).take (d + 1)) (mK (rowsFn p0 p1 p2 p3) ((rowsFn p0 p1 p2 p3 i).take (d + 1))) else 0) = (List.range (rowsFn p0 p1 p2 p3 i).length).map fun _ => 0 := by
          apply List.map_congr_left
          intro d hd
          have := List.mem_range.mp hd
          rw [if_neg (by omega)]
        rw [this]
        generalize (rowsFn p0 p1 p2 p3 i).length = n
        induction n with
        | zero => rfl
        | succ n ih => rw [List.range_succ, List.map_append, List.sum_append, ih]; rfl
      rw [e]
      have : i = 0 ∨ i = 1 ∨ i = 2 ∨ i = 3 := by omega
      rcases this with rfl | rfl | rfl | rfl <;> rfl
  have key : ∀ n, ∃ cur', JK prices k (rowsFn p0 p1 p2 p3) cur' (iterK (turnK prices k) n (suK (su1K xs0), [0, 0, 0, 0])) ∧ (totK cur' + n ≤ 12 ∨ totK cur' = 0) := by
    intro n
    induction n with
    | zero =>
      refine ⟨_, J0, .inl ?_⟩
      show p0.length + p1.length + p2.length + p3.length + 0 ≤ 12
      omega
    | succ n ih =>
      obtain ⟨cur, J, ht⟩ := ih
      obtain ⟨cur', J', ht'⟩ := turn_JK J
      refine ⟨cur', J', ?_⟩
      omega
  obtain ⟨cur, J, ht⟩ := key 12
  have ht0 : totK cur = 0 := by omega
  refine ⟨J.len, fun i hi => ?_⟩
  have hfe := J.fee i hi
  have hz : (cur i).length = 0 := by
    unfold totK at ht0
    have : i = 0 ∨ i = 1 ∨ i = 2 ∨ i = 3 := by omega
    rcases this with rfl | rfl | rfl | rfl
    · show (cur 0).length = 0; omega
    · show (cur 1).length = 0; omega
    · show (cur 2).length = 0; omega
    · show (cur 3).length = 0; omega
  rw [hz] at hfe
  exact hfe
end Mine
end
section
open PySem PySem.W PyProof.Rows PySem.Calls
namespace Mine
theorem reset40 {M : Model} {A : Around} {E : Value → Shared → Prop} {s : Shared} {env : Env} {Q : Flow → Shared → Prop} (h : Q .next s) : wpAny M A (execs [] env) Q E s := by
  w_top off
  walk1
  w_top off
  exact h
end Mine
end
/-! Pl4 -/
section
open PySem PySem.W PyProof.Rows PySem.Calls
set_option Elab.async false
set_option maxRecDepth 100000
set_option maxHeartbeats 4000000
set_option linter.unusedVariables false
namespace Mine
/-- the folders met, in order -/
noncomputable def seenStep (S : List Row) (q : Row) : List Row := if q ∈ S then S else S ++ [q]
theorem lineStep_eq {qs : List Int} {rows : List Row} {q : Row} {S : List Row} : lineStep qs rows q (S, S.map fun q => (priceK qs q, usersK rows q)) = (seenStep S q, (seenStep S q).map fun q => (priceK qs q, usersK rows q)) := by
  unfold lineStep seenStep
  by_cases h : q ∈ S
  · rw [if_pos h, if_pos h]
  · rw [if_neg h, if_neg h]; simp
theorem seen_nd {S : List Row} {q : Row} (h : S.Nodup) : (seenStep S q).Nodup := by
  unfold seenStep
  split
  · exact h
  · rename_i hq
    rw [List.nodup_append]
    refine ⟨h, by simp, ?_⟩
    intro a ha b hb e
    rw [List.mem_singleton.mp hb] at e
    exact hq (e ▸ ha)
theorem seen_mem {S : List Row} {q x : Row} : x ∈ seenStep S q ↔ x ∈ S ∨ x = q := by
  unfold seenStep
  by_cases h : q ∈ S
  · rw [if_pos h]
    constructor
    · exact .inl
    · rintro (h1 | rfl)
      · exact h1
      · exact h
  · rw [if_neg h]; simp
theorem depthF_eq {qs : List Int} {rows : List Row} {q : Row} : ∀ (n : Nat) (S : List Row), S.Nodup → ∃ S', depthF qs rows q n (S, S.map fun q => (priceK qs q, usersK rows q)) = (S', S'.map fun q => (priceK qs q, usersK rows q)) ∧ S'.Nodup ∧ ∀ x, x ∈ S' ↔ x ∈ S ∨ ∃ d, 1 ≤ d ∧ d ≤ n ∧ x = q.take d
  | 0, S, h => ⟨S, rfl, h, fun x => ⟨.inl, fun hx => hx.elim id (fun ⟨d, h1, h2, _⟩ => by omega)⟩⟩
  | n + 1, S, h => by
    obtain ⟨S', e, hn, hm⟩ := depthF_eq (qs := qs) (rows := rows) (q := q) n S h
    refine ⟨seenStep S' (q.take (n + 1)), ?_, seen_nd hn, fun x => ?_⟩
    · show lineStep qs rows (q.take (n + 1)) (depthF qs rows q n _) = _
      rw [e, lineStep_eq]
    · rw [seen_mem, hm]
      constructor
      · rintro ((h1 | ⟨d, h1, h2, h3⟩) | h1)
        · exact .inl h1
        · exact .inr ⟨d, h1, by omega, h3⟩
        · exact .inr ⟨n + 1, by omega, Nat.le_refl _, h1⟩
      · rintro (h1 | ⟨d, h1, h2, h3⟩)
        · exact .inl (.inl h1)
        · by_cases hd : d = n + 1
          · right; rw [h3, hd]
          · exact .inl (.inr ⟨d, h1, by omega, h3⟩)
theorem rowsF_eq {qs : List Int} {rows : List Row} : ∀ (l : List Row) (S : List Row), S.Nodup → ∃ S', l.foldl (fun st q => depthF qs rows q q.length st) (S, S.map fun q => (priceK qs q, usersK rows q)) = (S', S'.map fun q => (priceK qs q, usersK rows q)) ∧ S'.Nodup ∧ ∀ x, x ∈ S' ↔ x ∈ S ∨ ∃ q ∈ l, ∃ d, 1 ≤ d ∧ d ≤ q.length ∧ x = q.take d
  | [], S, h => ⟨S, rfl, h, fun x => by simp⟩
  | q :: l, S, h => by
    obtain ⟨S1, e1, h1, m1⟩ := depthF_eq (qs := qs) (rows := rows) (q := q) q.length S h
    obtain ⟨S2, e2, h2, m2⟩ := rowsF_eq (qs := qs) (rows := rows) l S1 h1
    refine ⟨S2, ?_, h2, fun x => ?_⟩
    · rw [List.foldl_cons, e1, e2]
    · rw [m2, m1]
      simp only [List.mem_cons]
      constructor
      · rintro ((h | ⟨d, a, b, c⟩) | ⟨q', hq', d, a, b, c⟩)
        · exact .inl h
        · exact .inr ⟨q, .inl rfl, d, a, b, c⟩
        · exact .inr ⟨q', .inr hq', d, a, b, c⟩
      · rintro (h | ⟨q', rfl | hq', d, a, b, c⟩)
        · exact .inl (.inl h)
        · exact .inl (.inr ⟨d, a, b, c⟩)
        · exact .inr ⟨q', hq', d, a, b, c⟩
/-- which ones go through a folder, as a number -/
noncomputable def useN (rows : List Row) (q : Row) : Nat := ((List.range 4).map fun i => if (rows.getD i []).take q.length = q then 2 ^ i else 0).sum
theorem useN_eq (rows : List Row) (q : Row) : usersK rows q = (useN rows q : Int) := by
  unfold usersK useN
  simp only [List.range_succ, List.range_zero, List.nil_append, List.map_append, List.map_cons, List.map_nil, List.sum_append, List.sum_cons, List.sum_nil]
  push_cast
  simp only [apply_ite (fun n : Nat => (n : Int))]
  push_cast
  rfl
/-- how many ones a number's four lowest signs bear -/
noncomputable def popN (n : Nat) : Nat := n % 2 + n / 2 % 2 + n / 4 % 2 + n / 8 % 2
noncomputable def bitN (n i : Nat) : Bool := n / 2 ^ i % 2 == 1
theorem use_bits : ∀ a b c d : Bool, ((if a then 1 else 0) + (if b then 2 else 0) + (if c then 4 else 0) + (if d then 8 else 0) < 16) ∧
    popN ((if a then 1 else 0) + (if b then 2 else 0) + (if c then 4 else 0) + (if d then 8 else 0)) = (if a then 1 else 0) + (if b then 1 else 0) + (if c then 1 else 0) + (if d then 1 else 0) ∧
    bitN ((if a then 1 else 0) + (if b then 2 else 0) + (if c then 4 else 0) + (if d then 8 else 0)) 0 = a ∧ bitN ((if a then 1 else 0) + (if b then 2 else 0) + (if c then 4 else 0) + (if d then 8 else 0)) 1 = b ∧
    bitN ((if a then 1 else 0) + (if b then 2 else 0) + (if c then 4 else 0) + (if d then 8 else 0)) 2 = c ∧ bitN ((if a then 1 else 0) + (if b then 2 else 0) + (if c then 4 else 0) + (if d then 8 else 0)) 3 = d := by decide
/-- the weight of a set of the others -/
noncomputable def wgtN (g : Nat) : Int := [6, 2, 2, 6].getD (popN g) 0
/-- the groups without one -/
noncomputable def othersN (who : Nat) : List Nat := (List.range 16).filter fun g => g / 2 ^ who % 2 == 0
/-- Shapley's value of one line -/
theorem shapley1 : ∀ k, k < 4 → 1 ≤ k → ∀ u, u < 16 → ∀ who, who < 4 →
    ((othersN who).map fun g => wgtN g * (((min k (popN ((g + 2 ^ who) &&& u)) : Nat) : Int) - ((min k (popN (g &&& u)) : Nat) : Int))).sum * (popN u : Int) = if bitN u who then 24 * ((min k (popN u) : Nat) : Int) else 0 := by decide +kernel
end Mine
end
section
open PySem PySem.W PyProof.Rows PySem.Calls
namespace Mine
theorem reset41 {M : Model} {A : Around} {E : Value → Shared → Prop} {s : Shared} {env : Env} {Q : Flow → Shared → Prop} (h : Q .next s) : wpAny M A (execs [] env) Q E s := by
  w_top off
  walk1
  w_top off
  exact h
end Mine
end
/-! Pl5 -/
section
open PySem PySem.W PyProof.Rows PySem.Calls
set_option Elab.async false
set_option maxRecDepth 100000
set_option maxHeartbeats 4000000
set_option linter.unusedVariables false
namespace Mine
noncomputable def costK (k : Int) (lines : List (Int × Int)) (g : Nat) : Int := (lines.map fun l => l.1 * min k ((popN (g &&& l.2.toNat) : Nat) : Int)).sum
noncomputable def addsL (k : Int) (lines : List (Int × Int)) (who : Nat) : List Int := (othersN who).map fun g => costK k lines (g + 2 ^ who) - costK k lines g
theorem preMul_range (A B : Nat → Int) : ∀ n, preMul A B n = ((List.range n).map fun i => A i * B i).sum
  | 0 => rfl
  | n + 1 => by rw [preMul, preMul_range A B n, List.range_succ, List.map_append, List.sum_append]; simp
theorem preMul_map {α : Type} (f w : α → Int) (l : List α) : preMul (fun i => (l.map f).getD i 0) (fun i => (l.map w).getD i 0) l.length = (l.map fun x => f x * w x).sum := by
  rw [preMul_range]
  congr 1
  apply List.ext_getElem
  · simp
  · intro i h1 h2
    have hi : i < l.length := by simpa using h1
    simp [List.getElem?_eq_getElem hi]
theorem sum_add {α : Type} (f g : α → Int) : ∀ l : List α, (l.map fun x => f x + g x).sum = (l.map f).sum + (l.map g).sum
  | [] => rfl
  | x :: r => by simp only [List.map_cons, List.sum_cons, sum_add f g r]; omega
theorem sum_mul {α : Type} (c : Int) (f : α → Int) : ∀ l : List α, (l.map fun x => c * f x).sum = c * (l.map f).sum
  | [] => by simp
  | x :: r => by simp only [List.map_cons, List.sum_cons, sum_mul c f r, Int.mul_add]
theorem sum_zero {α : Type} : ∀ l : List α, (l.map fun _ => (0 : Int)).sum = 0
  | [] => rfl
  | x :: r => by simp only [List.map_cons, List.sum_cons, sum_zero r]; rfl
/-- what a line adds for one, weighted -/
noncomputable def tK (k : Int) (u who : Nat) : Int := ((othersN who).map fun g => (min k ((popN ((g + 2 ^ who) &&& u) : Nat) : Int) - min k ((popN (g &&& u) : Nat) : Int)) * wgtN g).sum
theorem adds_lines (k : Int) (who : Nat) : ∀ lines : List (Int × Int), ((othersN who).map fun g => (costK k lines (g + 2 ^ who) - costK k lines g) * wgtN g).sum = (lines.map fun l => l.1 * tK k l.2.toNat who).sum
  | [] => by simp only [costK, List.map_nil, List.sum_nil, Int.sub_self, Int.zero_mul]; exact sum_zero _
  | l :: r => by
    rw [List.map_cons, List.sum_cons, ← adds_lines k who r]
    unfold tK
    rw [← sum_mul, ← sum_add]
    congr 1
    apply List.map_congr_left
    intro g _
    simp only [costK, List.map_cons, List.sum_cons]
    generalize (List.map (fun l => l.1 * min k ((popN ((g + 2 ^ who) &&& l.2.toNat) : Nat) : Int)) r).sum = X
    generalize (List.map (fun l => l.1 * min k ((popN (g &&& l.2.toNat) : Nat) : Int)) r).sum = Y
    generalize min k ((popN ((g + 2 ^ who) &&& l.2.toNat) : Nat) : Int) = a
    generalize min k ((popN (g &&& l.2.toNat) : Nat) : Int) = b
    rw [← Int.mul_assoc, ← Int.add_mul, Int.mul_sub]
    congr 1
    omega
theorem ws_others : ∀ who, who < 4 → (othersN who).map wgtN = wsL ∧ (othersN who).length = 8 := by decide +kernel
theorem adds_len {k : Int} {lines : List (Int × Int)} {who : Nat} (h : who < 4) : (addsL k lines who).length = 8 := by unfold addsL; rw [List.length_map]; exact (ws_others who h).2
theorem num_lines {k : Int} {lines : List (Int × Int)} {who : Nat} (h : who < 4) : preMul (fun i => (addsL k lines who).getD i 0) wsF 8 = (lines.map fun l => l.1 * tK k l.2.toNat who).sum := by
  obtain ⟨h1, h2⟩ := ws_others who h
  rw [← adds_lines, ← preMul_map, h2]
  have e : (fun i => ((othersN who).map wgtN).getD i 0) = wsF := by rw [h1]; rfl
  rw [e]
  rfl
theorem tK_eq {k : Int} {u who : Nat} (hk1 : 1 ≤ k) (hk3 : k ≤ 3) (hu : u < 16) (hw : who < 4) : tK k u who * (popN u : Int) = if bitN u who then 24 * min k (popN u : Int) else 0 := by
  obtain ⟨n, rfl⟩ : ∃ n : Nat, k = (n : Int) := ⟨k.toNat, by omega⟩
  have h := shapley1 n (by omega) (by omega) u hu who hw
  have e : ∀ m : Nat, min (n : Int) (m : Int) = ((min n m : Nat) : Int) := fun m => by omega
  unfold tK
  simp only [e]
  rw [← h]
  congr 2
  apply List.map_congr_left
  intro g _
  exact Int.mul_comm _ _
/-- what the folder's number tells -/
theorem useN_facts (p0 p1 p2 p3 q : Row) : useN [p0, p1, p2, p3] q < 16 ∧ popN (useN [p0, p1, p2, p3] q) = mK (rowsFn p0 p1 p2 p3) q ∧ ∀ who, who < 4 → bitN (useN [p0, p1, p2, p3] q) who = decide ((rowsFn p0 p1 p2 p3 who).take q.length = q) := by
  have hb := use_bits (decide (p0.take q.length = q)) (decide (p1.take q.length = q)) (decide (p2.take q.length = q)) (decide (p3.take q.length = q))
  have e : useN [p0, p1, p2, p3] q = (if decide (p0.take q.length = q) = true then 1 else 0) + (if decide (p1.take q.length = q) = true then 2 else 0) + (if decide (p2.take q.length = q) = true then 4 else 0) + (if decide (p3.take q.length = q) = true then 8 else 0) := by
    unfold useN
    simp only [List.range_succ, List.range_zero, List.nil_append, List.map_append, List.map_cons, List.map_nil, List.sum_append, List.sum_cons, List.sum_nil, decide_eq_true_eq]
    simp [List.getD]
  have em : mK (rowsFn p0 p1 p2 p3) q = (if decide (p0.take q.length = q) = true then 1 else 0) + (if decide (p1.take q.length = q) = true then 1 else 0) + (if decide (p2.take q.length = q) = true then 1 else 0) + (if decide (p3.take q.length = q) = true then 1 else 0) := by
    unfold mK
    have e0 : rowsFn p0 p1 p2 p3 ((0 : Nat) : Int) = p0 := rfl
    have e1 : rowsFn p0 p1 p2 p3 ((1 : Nat) : Int) = p1 := rfl
    have e2 : rowsFn p0 p1 p2 p3 ((2 : Nat) : Int) = p2 := rfl
    have e3 : rowsFn p0 p1 p2 p3 ((3 : Nat) : Int) = p3 := rfl
    simp only [List.range_succ, List.range_zero, List.nil_append, List.filter_append, List.filter_cons, List.filter_nil, e0, e1, e2, e3]
    by_cases c0 : p0.take q.length = q <;> by_cases c1 : p1.take q.length = q <;> by_cases c2 : p2.take q.length = q <;> by_cases c3 : p3.take q.length = q <;> simp [c0, c1, c2, c3]
  rw [← e] at hb
  refine ⟨hb.1, by rw [hb.2.1, em], fun who hw => ?_⟩
  have : who = 0 ∨ who = 1 ∨ who = 2 ∨ who = 3 := by omega
  rcases this with rfl | rfl | rfl | rfl
  · exact hb.2.2.1
  · exact hb.2.2.2.1
  · exact hb.2.2.2.2.1
  · exact hb.2.2.2.2.2
theorem share_mul {qs : List Int} {k : Int} {q : Row} {m : Nat} (h12 : ∃ r, priceK qs q = 12 * r) (h1 : 1 ≤ m) (h4 : m ≤ 4) : shareK qs k q m * (m : Int) = priceK qs q * min k m := by
  obtain ⟨r, hr⟩ := h12
  have hr' : qs.getD ((pathCps q).length - 1) 0 = 12 * r := hr
  unfold shareK
  rw [hr, hr']
  have hm : (m : Int) ∣ 12 := by
    have : m = 1 ∨ m = 2 ∨ m = 3 ∨ m = 4 := by omega
    rcases this with rfl | rfl | rfl | rfl <;> decide
  obtain ⟨c, hc⟩ := hm
  have e : 12 * r * min k (m : Int) = (m : Int) * (c * r * min k (m : Int)) := by
    rw [hc]
    simp only [Int.mul_assoc]
  rw [e, Int.mul_fdiv_cancel_left _ (by omega), Int.mul_comm]
theorem line_eq {qs : List Int} {k : Int} {p0 p1 p2 p3 q : Row} {who : Nat} (hk1 : 1 ≤ k) (hk3 : k ≤ 3) (hw : who < 4) (h12 : ∃ r, priceK qs q = 12 * r) :
    priceK qs q * tK k (useN [p0, p1, p2, p3] q) who = if (rowsFn p0 p1 p2 p3 who).take q.length = q then 24 * shareK qs k q (mK (rowsFn p0 p1 p2 p3) q) else 0 := by
  obtain ⟨hu, hpop, hbit⟩ := useN_facts p0 p1 p2 p3 q
  have ht := tK_eq hk1 hk3 hu hw
  rw [hbit who hw, hpop] at ht
  have hm4 : mK (rowsFn p0 p1 p2 p3) q ≤ 4 := by
    unfold mK
    exact Nat.le_trans (List.length_filter_le _ _) (by simp)
  by_cases hc : (rowsFn p0 p1 p2 p3 who).take q.length = q
  · rw [if_pos hc]
    rw [decide_eq_true hc, if_pos rfl] at ht
    have hm1 : 1 ≤ mK (rowsFn p0 p1 p2 p3) q := by
      unfold mK
      have : who ∈ (List.range 4).filter fun i : Nat => decide ((rowsFn p0 p1 p2 p3 (i : Int)).take q.length = q) := List.mem_filter.mpr ⟨List.mem_range.mpr hw, decide_eq_true hc⟩
      exact List.length_pos_of_mem this
    have hs := share_mul (qs := qs) (k := k) (q := q) h12 hm1 hm4
    have hpos : (mK (rowsFn p0 p1 p2 p3) q : Int) ≠ 0 := by omega
    apply Int.eq_of_mul_eq_mul_right hpos
    rw [Int.mul_assoc, ht, Int.mul_assoc, hs]
    simp only [Int.mul_left_comm]
  · rw [if_neg hc]
    rw [decide_eq_false hc] at ht
    simp only [Bool.false_eq_true, if_false] at ht
    by_cases hz : mK (rowsFn p0 p1 p2 p3) q = 0
    · have hu0 : useN [p0, p1, p2, p3] q = 0 := by
        rw [← hpop] at hz
        have h : ∀ n, n < 16 → popN n = 0 → n = 0 := by decide
        exact h _ hu hz
      rw [hu0]
      have h0 : tK k 0 who = 0 := by
        unfold tK
        simp only [Nat.and_zero, Int.sub_self, Int.zero_mul]
        exact sum_zero _
      rw [h0, Int.mul_zero]
    · have hne : (mK (rowsFn p0 p1 p2 p3) q : Int) ≠ 0 := by omega
      rcases Int.mul_eq_zero.mp ht with h | h
      · rw [h, Int.mul_zero]
      · exact absurd h hne
theorem perm_sum {l l' : List Int} (h : l.Perm l') : l.sum = l'.sum := by
  induction h with
  | nil => rfl
  | cons x _ ih => simp [ih]
  | swap x y l => simp only [List.sum_cons]; omega
  | trans _ _ a b => exact a.trans b
theorem sum_perm {l l' : List Row} (f : Row → Int) (h : l.Perm l') : (l.map f).sum = (l'.map f).sum := perm_sum (h.map f)
theorem sum_filter (f : Row → Int) (c : Row → Bool) : ∀ l : List Row, (l.map fun q => if c q = true then f q else 0).sum = ((l.filter c).map f).sum
  | [] => rfl
  | q :: r => by
    rw [List.map_cons, List.sum_cons, sum_filter f c r, List.filter_cons]
    by_cases h : c q = true
    · rw [if_pos h, if_pos h]; rfl
    · rw [if_neg h, if_neg h]; omega
theorem main_plain {qs : List Int} {k : Int} {p0 p1 p2 p3 : Row} {who : Nat} (hk1 : 1 ≤ k) (hk3 : k ≤ 3) (h12 : ∀ q, ∃ r, priceK qs q = 12 * r) (hw : who < 4) :
    preMul (fun i => (addsL k (rowsF qs [p0, p1, p2, p3] 4).2 who).getD i 0) wsF 8 = 24 * sumK qs k (rowsFn p0 p1 p2 p3) who 0 := by
  rw [num_lines hw]
  obtain ⟨S, hS, hnd, hmem⟩ := rowsF_eq (qs := qs) (rows := [p0, p1, p2, p3]) [p0, p1, p2, p3] [] (by simp)
  have hS' : rowsF qs [p0, p1, p2, p3] 4 = (S, S.map fun q => (priceK qs q, usersK [p0, p1, p2, p3] q)) := hS
  rw [hS']
  simp only [List.map_map]
  have e1 : S.map ((fun l : Int × Int => l.1 * tK k l.2.toNat who) ∘ fun q => (priceK qs q, usersK [p0, p1, p2, p3] q)) = S.map fun q => if (decide ((rowsFn p0 p1 p2 p3 who).take q.length = q)) = true then 24 * shareK qs k q (mK (rowsFn p0 p1 p2 p3) q) else 0 := by
    apply List.map_congr_left
    intro q _
    show priceK qs q * tK k (usersK [p0, p1, p2, p3] q).toNat who = _
    rw [useN_eq, Int.toNat_natCast, line_eq hk1 hk3 hw (h12 q)]
    simp only [decide_eq_true_eq]
  rw [e1, sum_filter]
  obtain ⟨p, hp⟩ : ∃ p, p = rowsFn p0 p1 p2 p3 who := ⟨_, rfl⟩
  have hpin : p ∈ [p0, p1, p2, p3] := by
    have : who = 0 ∨ who = 1 ∨ who = 2 ∨ who = 3 := by omega
    rcases this with rfl | rfl | rfl | rfl <;> (rw [hp]; simp [rowsFn])
  have hperm : (S.filter fun q => decide ((rowsFn p0 p1 p2 p3 who).take q.length = q)).Perm ((List.range p.length).map fun d => p.take (d + 1)) := by
    rw [← hp]
    refine (List.perm_ext_iff_of_nodup (List.Pairwise.filter _ hnd) ?_).mpr ?_
    · refine List.Pairwise.imp_of_mem ?_ (List.nodup_range (n := p.length)) |>.map _ (fun a b h => h)
      intro a b ha hb hab e
      have ha' := List.mem_range.mp ha
      have hb' := List.mem_range.mp hb
      have := congrArg List.length e
      rw [List.length_take, List.length_take] at this
      omega
    · intro q
      simp only [List.mem_filter, hmem, List.not_mem_nil, false_or, decide_eq_true_eq, List.mem_map, List.mem_range]
      constructor
      · rintro ⟨⟨p', hp', d, h1, h2, rfl⟩, hq⟩
        rw [List.length_take, Nat.min_eq_left h2] at hq
        have hl := congrArg List.length hq
        rw [List.length_take, List.length_take] at hl
        refine ⟨d - 1, by omega, ?_⟩
        rw [show d - 1 + 1 = d by omega, hq]
      · rintro ⟨d, hd, rfl⟩
        refine ⟨⟨p, hpin, d + 1, by omega, by omega, rfl⟩, ?_⟩
        rw [List.length_take, Nat.min_eq_left (by omega)]
  rw [sum_perm _ hperm, List.map_map]
  unfold sumK
  rw [← hp]
  have e2 : (List.range p.length).map ((fun q => 24 * shareK qs k q (mK (rowsFn p0 p1 p2 p3) q)) ∘ fun d => p.take (d + 1)) = (List.range p.length).map fun d => 24 * (if 0 ≤ d then shareK qs k (p.take (d + 1)) (mK (rowsFn p0 p1 p2 p3) (p.take (d + 1))) else 0) := by
    apply List.map_congr_left
    intro d _
    show 24 * _ = 24 * _
    rw [if_pos (Nat.zero_le d)]
  rw [e2, sum_mul]
end Mine
end
section
open PySem PySem.W PyProof.Rows PySem.Calls
namespace Mine
theorem reset42 {M : Model} {A : Around} {E : Value → Shared → Prop} {s : Shared} {env : Env} {Q : Flow → Shared → Prop} (h : Q .next s) : wpAny M A (execs [] env) Q E s := by
  w_top off
  walk1
  w_top off
  exact h
end Mine
end
/-! Pl6 -/
section
open PySem PySem.W PyProof.Rows PySem.Calls
set_option Elab.async false
set_option maxRecDepth 100000
set_option maxHeartbeats 4000000
set_option linter.unusedVariables false
namespace Mine
/-- what the lines are -/
theorem users_small (rows : List Row) (q : Row) : 0 ≤ usersK rows q ∧ usersK rows q < 16 := by
  unfold usersK
  simp only [List.range, List.range.loop, List.map_cons, List.map_nil, List.sum_cons, List.sum_nil]
  repeat' split
  all_goals decide
theorem lines_are {qs : List Int} {p0 p1 p2 p3 : Row} (hqs : ∀ q ∈ qs, ∃ r : Int, q = 12 * r ∧ -2 ^ 30 < r ∧ r < 2 ^ 30) : ∀ l ∈ (rowsF qs [p0, p1, p2, p3] 4).2, (0 ≤ l.2 ∧ l.2 < 16) ∧ -2 ^ 34 < l.1 ∧ l.1 < 2 ^ 34 := by
  obtain ⟨S, hS, hnd, hmem⟩ := rowsF_eq (qs := qs) (rows := [p0, p1, p2, p3]) [p0, p1, p2, p3] [] (by simp)
  have hS' : rowsF qs [p0, p1, p2, p3] 4 = (S, S.map fun q => (priceK qs q, usersK [p0, p1, p2, p3] q)) := hS
  rw [hS']
  intro l hl
  obtain ⟨q, hq, rfl⟩ := List.mem_map.mp hl
  refine ⟨users_small _ _, ?_⟩
  show -2 ^ 34 < priceK qs q ∧ priceK qs q < 2 ^ 34
  unfold priceK
  rw [List.getD_eq_getElem?_getD]
  by_cases h : (pathCps q).length - 1 < qs.length
  · rw [List.getElem?_eq_getElem h]
    obtain ⟨r, hr, h1, h2⟩ := hqs _ (List.getElem_mem h)
    show -2 ^ 34 < qs[(pathCps q).length - 1] ∧ qs[(pathCps q).length - 1] < 2 ^ 34
    rw [hr]
    omega
  · rw [List.getElem?_eq_none (by omega)]
    decide
theorem price12 {qs : List Int} (hqs : ∀ q ∈ qs, ∃ r : Int, q = 12 * r ∧ -2 ^ 30 < r ∧ r < 2 ^ 30) (q : Row) : ∃ r, priceK qs q = 12 * r := by
  unfold priceK
  rw [List.getD_eq_getElem?_getD]
  by_cases h : (pathCps q).length - 1 < qs.length
  · rw [List.getElem?_eq_getElem h]
    obtain ⟨r, hr, _, _⟩ := hqs _ (List.getElem_mem h)
    exact ⟨r, hr⟩
  · rw [List.getElem?_eq_none (by omega)]
    exact ⟨0, rfl⟩
theorem pop_small (g : Nat) : popN g ≤ 4 := by unfold popN; omega
theorem cost_small {k : Int} (hk1 : 1 ≤ k) (hk3 : k ≤ 3) (g : Nat) : ∀ (lines : List (Int × Int)), (∀ l ∈ lines, -2 ^ 34 < l.1 ∧ l.1 < 2 ^ 34) → (costK k lines g).natAbs ≤ lines.length * (3 * 2 ^ 34)
  | [], _ => by simp [costK]
  | l :: r, h => by
    have ih := cost_small hk1 hk3 g r fun x hx => h x (List.mem_cons_of_mem _ hx)
    have hl := h l List.mem_cons_self
    have e : costK k (l :: r) g = l.1 * min k ((popN (g &&& l.2.toNat) : Nat) : Int) + costK k r g := by simp [costK]
    rw [e, List.length_cons]
    have hm : 0 ≤ min k ((popN (g &&& l.2.toNat) : Nat) : Int) ∧ min k ((popN (g &&& l.2.toNat) : Nat) : Int) ≤ 3 := by omega
    generalize min k ((popN (g &&& l.2.toNat) : Nat) : Int) = mm at *
    have h3 : (l.1 * mm).natAbs ≤ 3 * 2 ^ 34 := by
      rw [Int.natAbs_mul]
      have a1 : l.1.natAbs ≤ 2 ^ 34 := by omega
      have a2 : mm.natAbs ≤ 3 := by omega
      calc l.1.natAbs * mm.natAbs ≤ 2 ^ 34 * 3 := Nat.mul_le_mul a1 a2
        _ = 3 * 2 ^ 34 := by decide
    omega
theorem adds_small {k : Int} (hk1 : 1 ≤ k) (hk3 : k ≤ 3) {lines : List (Int × Int)} (hl : lines.length ≤ 12) (h : ∀ l ∈ lines, -2 ^ 34 < l.1 ∧ l.1 < 2 ^ 34) (who i : Nat) : ((addsL k lines who).getD i 0).natAbs < 2 ^ 42 := by
  rw [List.getD_eq_getElem?_getD]
  by_cases hi : i < (addsL k lines who).length
  · rw [List.getElem?_eq_getElem hi]
    obtain ⟨g, hg, he⟩ := List.mem_map.mp (List.getElem_mem hi)
    show ((addsL k lines who)[i]).natAbs < 2 ^ 42
    rw [← he]
    have c1 := cost_small hk1 hk3 (g + 2 ^ who) lines h
    have c2 := cost_small hk1 hk3 g lines h
    generalize costK k lines (g + 2 ^ who) = x at *
    generalize costK k lines g = y at *
    omega
  · rw [List.getElem?_eq_none (by omega)]
    decide
theorem mul_add_bd {a b w : Int} {m n : Nat} (ha : a.natAbs ≤ m) (hb : b.natAbs ≤ n) : (a + b * w).natAbs ≤ m + n * w.natAbs :=
  Nat.le_trans (Int.natAbs_add_le _ _) (Nat.add_le_add ha (by rw [Int.natAbs_mul]; exact Nat.mul_le_mul_right _ hb))
theorem fee_small {f : Nat → Int} {x : Int} (h : ∀ i, i < 8 → (f i).natAbs < 2 ^ 42) (e : preMul f wsF 8 = 24 * x) : x.natAbs < 2 ^ 45 := by
  have g : ∀ i, i < 8 → (f i).natAbs ≤ 2 ^ 42 := fun i hi => Nat.le_of_lt (h i hi)
  have b : (0 + f 0 * 6 + f 1 * 2 + f 2 * 2 + f 3 * 2 + f 4 * 2 + f 5 * 2 + f 6 * 2 + f 7 * 6).natAbs ≤ 2 ^ 42 * 24 :=
    Nat.le_trans (mul_add_bd (mul_add_bd (mul_add_bd (mul_add_bd (mul_add_bd (mul_add_bd (mul_add_bd (mul_add_bd (Nat.le_refl 0) (g 0 (by decide))) (g 1 (by decide))) (g 2 (by decide))) (g 3 (by decide))) (g 4 (by decide))) (g 5 (by decide))) (g 6 (by decide))) (g 7 (by decide))) (by decide +kernel)
  rw [show 0 + f 0 * 6 + f 1 * 2 + f 2 * 2 + f 3 * 2 + f 4 * 2 + f 5 * 2 + f 6 * 2 + f 7 * 6 = preMul f wsF 8 from rfl, e, Int.natAbs_mul] at b
  have b2 : 24 * x.natAbs ≤ 2 ^ 42 * 24 := b
  clear b e g h
  omega
/-- all that the last loop wants to know -/
theorem all_plain {qs : List Int} {k : Int} {p0 p1 p2 p3 : Row} {lines : List (Int × Int)} (hk1 : 1 ≤ k) (hk3 : k ≤ 3) (h0 : p0 ∈ allRows) (h1 : p1 ∈ allRows) (h2 : p2 ∈ allRows) (h3 : p3 ∈ allRows)
    (hqs : ∀ q ∈ qs, ∃ r : Int, q = 12 * r ∧ -2 ^ 30 < r ∧ r < 2 ^ 30) (hl : lines.length ≤ 12) (he : lines = (rowsF qs [p0, p1, p2, p3] 4).2) {ff : List Int} (hff : ff = feesK qs k [⟨1 - p0.length, p0, 0⟩, ⟨1 - p1.length, p1, 1⟩, ⟨1 - p2.length, p2, 2⟩, ⟨1 - p3.length, p3, 3⟩]) :
    ff.length = 4 ∧ (∀ who, who < 4 → (ff.getD who 0).natAbs < 2 ^ 45) ∧ (∀ who, who < 4 → ∀ i, i < 8 → ((addsL k lines who).getD i 0).natAbs < 2 ^ 45) ∧ ∀ who, who < 4 → preMul (fun i => (addsL k lines who).getD i 0) wsF 8 = 24 * ff.getD who 0 := by
  have hp := fees_plain (prices := qs) (k := k) h0 h1 h2 h3
  rw [← hff] at hp
  have hb : ∀ l ∈ lines, -2 ^ 34 < l.1 ∧ l.1 < 2 ^ 34 := by rw [he]; exact fun l hl => (lines_are hqs l hl).2
  have hs := fun who i => adds_small hk1 hk3 hl hb who i
  have hm : ∀ who, who < 4 → preMul (fun i => (addsL k lines who).getD i 0) wsF 8 = 24 * ff.getD who 0 := by
    intro who hw
    rw [hp.2 who hw, he]
    exact main_plain hk1 hk3 (price12 hqs) hw
  exact ⟨hp.1, fun who hw => fee_small (fun i _ => hs who i) (hm who hw), fun who _ i _ => Nat.lt_trans (hs who i) (by decide), hm⟩
end Mine
end
section
open PySem PySem.W PyProof.Rows PySem.Calls
set_option maxRecDepth 100000
set_option maxHeartbeats 8000000
set_option linter.unusedVariables false
namespace Mine
/-! gS -/
section
local macro_rules | `(tactic| k_all) => `(tactic| assumption)
local macro_rules | `(tactic| k_mem) => `(tactic| first | assumption | exact .tail _ (by assumption) | exact .tail _ (.tail _ (by assumption)) | exact .tail _ (.tail _ (.tail _ (by assumption))) | exact .tail _ (.tail _ (.tail _ (.tail _ (by assumption)))) | exact .tail _ (.tail _ (.tail _ (.tail _ (.tail _ (by assumption))))) | exact .tail _ (.tail _ (.tail _ (.tail _ (.tail _ (.tail _ (by assumption)))))) | exact .tail _ (.tail _ (.tail _ (.tail _ (.tail _ (.tail _ (.tail _ (by assumption))))))) | exact .tail _ (.tail _ (.tail _ (.tail _ (.tail _ (.tail _ (.tail _ (.tail _ (by assumption)))))))) | exact .tail _ (.tail _ (.tail _ (.tail _ (.tail _ (.tail _ (.tail _ (.tail _ (.tail _ (by assumption))))))))) | exact .tail _ (.tail _ (.tail _ (.tail _ (.tail _ (.tail _ (.tail _ (.tail _ (.tail _ (.tail _ (by assumption)))))))))) | exact .head _ | exact .tail _ (.head _) | exact .tail _ (.tail _ (.head _)) | exact .tail _ (.tail _ (.tail _ (.head _))) | exact .tail _ (.tail _ (.tail _ (.tail _ (.head _)))) | exact .tail _ (.tail _ (.tail _ (.tail _ (.tail _ (.head _))))))
local macro_rules | `(tactic| ktr_unf) => `(tactic| repeat' (first | (k_unfold; (try dsimp only)) | ((fail_if_success (with_reducible tb_start)); (first | walk1 | (dsimp only; walk1) | (leave1; (try dsimp only))))))
local macro_rules | `(tactic| tb_start) => `(tactic| first | (show wpAny _ _ (pyIter _) _ _ _) | (show wpAny _ _ (eval (Expr.ListComp _ _ _ _) _) _ _ _) | (show wpAny _ _ (exec (Stmt.Assign _ (Expr.ListComp _ _ _ _) _) _) _ _ _) | (show wpAny _ _ (exec (Stmt.For _ _ _ _ _) _) _ _ _) | (show wpAny _ _ (subscriptTail _ (Expr.Slice _ _ _ _) _ _) _ _ _) | (show LCt.CompSrcT _ _ _ _ _ _ _ _ _ _ _ _ _ _ _) | (show LCg.CompSrc _ _ _ _ _ _ _ _ _ _ _ _ _ _))
local macro_rules | `(tactic| walk_at "subscriptTail Name Name ref int") => `(tactic| (k_here; k_dflt (refine' sub_list ?n ?m ?a ?b ?c ?_ ?hs; (case n => k_asm); (case m => k_mem); (case a => first | omega | decide); (case b => first | omega | decide); (case c => first | assumption | rfl); (case hs => with_unfolding_all rfl))))
local macro_rules | `(tactic| walk_at "subscriptTail Name BinOp ref int") => `(tactic| (k_here; k_dflt (refine' sub_list ?n ?m ?a ?b ?c ?_ ?hs; (case n => k_asm); (case m => k_mem); (case a => first | omega | decide); (case b => first | omega | decide); (case c => first | assumption | rfl); (case hs => with_unfolding_all rfl))))
local macro_rules | `(tactic| walk_at "subscriptTail Name Constant ref int") => `(tactic| (k_here; k_dflt (refine' sub_list ?n ?m ?a ?b ?c ?_ ?hs; (case n => k_asm); (case m => k_mem); (case a => first | omega | decide); (case b => first | omega | decide); (case c => first | assumption | rfl); (case hs => with_unfolding_all rfl))))
theorem reset43 {M : Model} {A : Around} {E : Value → Shared → Prop} {s : Shared} {env : Env} {Q : Flow → Shared → Prop} (h : Q .next s) : wpAny M A (execs [] env) Q E s := by
  w_top off
  walk1
  w_top off
  exact h
/-! S1 -/
section
open PySem PySem.W PyProof.Rows PySem.Calls
set_option Elab.async false
set_option maxRecDepth 100000
set_option maxHeartbeats 8000000
set_option linter.unusedVariables false
theorem fill31 : Challenge.rw_op0038_01 = Challenge.rw_op0038_01 ∧ hd.heap_39 = hd.heap_39 := by
  k_fill
  exact ⟨rfl, rfl⟩

noncomputable def lawF : Stmt := nth 15 Prg.main.body
noncomputable def lawB : List Stmt := defB lawF
noncomputable def lawEnv (L fa : Addr) (cd : Value) : Env := envOfC (Str.ofString "law") (defS lawF) L fa cd
theorem of_assign {st : Stmt} {ts : List Expr} {v : Expr} {p : Pos} (P : Stmt → Prop) (e : st = .Assign ts v p) (h : P (.Assign ts v p)) : P st := by rw [e]; exact h
theorem of_if {st : Stmt} {t : Expr} {b o : List Stmt} {p : Pos} (P : Stmt → Prop) (e : st = .If t b o p) (h : P (.If t b o p)) : P st := by rw [e]; exact h
theorem of_forS {st : Stmt} {t i : Expr} {b o : List Stmt} {p : Pos} (P : Stmt → Prop) (e : st = .For t i b o p) (h : P (.For t i b o p)) : P st := by rw [e]; exact h

theorem small13 : ∀ n : Nat, n < 13 → Builtin.Range.small 0 (n : Int) 1 = true := by decide +kernel
theorem size13 : ∀ n : Nat, n < 13 → Builtin.Range.rangeSize 0 (n : Int) 1 = (n : Int) := by decide +kernel
theorem law0 {w : World} {L fa sl : Addr} {cd : Value} {vs : List Value} {ns : List Int} {tl : List (Addr × Obj)} {m mg mb : Str → Option Value} {mean : ExcName → Option Value} {base g : Heap} {s : Shared} {oS : Obj} {Q : Flow → Shared → Prop} {E : Value → Shared → Prop}
  (hsl : g.IsList sl vs.toArray) (hi : IntsAre vs ns) (hn : ns.length ≤ 63)
  (B : Below callerA base [] g) (X : (hd.heap_39 w.params).In g) (T : Top topProg looseT mean mg mb g)
  (F : Fr g L s.heap m) (N : News g L s.heap tl) (hcS : (L + 1, oS) ∈ tl) (dS : oS.data = .cell (some (.ref sl)))
  (post : ∀ h' tk' D ys n hs, hs.length = min 12 ns.length → IntsAre ys hs → Fr g L h' (fun z => if z = Str.ofString "hands" then some (.ref D) else m z) → News g L h' ((D, listOf ys.toArray n) :: tl) → (∀ q ∈ tl, q.1 ≠ D) → Q .next { s with heap := h', toks := tk' }) :
    wpAny (model Prg w) (callerA.deeper (lawEnv L fa cd)) (exec (nth 0 lawB) (lawEnv L fa cd)) Q E s := by
  refine of_assign (st := (nth 0 lawB)) (fun st => wpAny (model Prg w) (callerA.deeper (lawEnv L fa cd)) (exec st (lawEnv L fa cd)) Q E s) rfl ?_
  try dsimp only
  unfold lawEnv
  refine of_defS (st := lawF) (fun sc => wpAny (model Prg w) (callerA.deeper (envOfC (Str.ofString "law") sc L fa cd)) (exec _ (envOfC (Str.ofString "law") sc L fa cd)) Q E s) rfl ?_
  try dsimp only
  k_dflt (refine LCg.Assign_ListComp_U (F₀ := F) (by rfl) (by with_unfolding_all rfl) (by with_unfolding_all rfl) (by decide) (by rfl) (by decide) (by rfl) (by rfl) (by rfl) ?_)
  try dsimp only
  ktr_unf
  rename IsRange _ _ _ _ _ _ _ _ => R5
  rename Fr _ _ _ _ => F5
  rename News _ _ _ _ => N5
  have hb : (if (ns.length : Int) < 12 then (ns.length : Int) else 12) = ((min 12 ns.length : Nat) : Int) := by split <;> omega
  rw [hb] at R5
  have hn12 : min 12 ns.length < 13 := by omega
  have sl1 : s.heap.objs.size = s.heap.objs.size := rfl
  have hlen := hi.length
  refine LCg.CompSrc.range (n := min 12 ns.length) (news := tl) (by rfl) F5 N5 R5 (small13 _ hn12) (size13 _ hn12) (by rw [sizeLine_eq]; omega) (fun g' => rest_inv (fun i ys nx => nx = tl ∧ ∃ hs, hs.length = i ∧ IntsAre ys hs) ?turn ?fin _ 0 [] tl (Nat.zero_add _) ⟨rfl, [], rfl, .nil⟩)
  case turn =>
    rintro i zs nx v I oI C oC D m₂ h tk E' hi2 ⟨t, rfl⟩ ⟨rfl, hs, hl2, hys⟩ hoC hm F6 N6 off ne
    ktr_unf
    have hls : h.IsList sl vs.toArray := hsl.at fun o e => F6.keep sl o e
    refine' slice_ints3 F6 N6 hls hi (by omega) (.int _ _) (.int _ _) (.int _ _) (by decide) ?_ ?c1 (fun r => ?c2)
    case c1 => with_unfolding_all rfl
    case c2 => with_unfolding_all rfl
    intro D8 its8 h8 F8 N8 hi8 l8
    try dsimp only
    walk1
    try dsimp only
    refine sum_are rfl F8 N8 ⟨_, N8.get (.head _), rfl, 0, rfl⟩ hi8 (fun h9 tk9 t9 F9 N9 => ?_)
    try dsimp only
    refine LCg.CompEnd.intro F9 N9 nx (fun p hp => .tail _ hp) off trivial ⟨rfl, hs ++ [(pickNums ns (some (0 + (i : Int))) (some 24) (some 12)).sum], ?_, ?_⟩
    · rw [List.length_append, hl2]; rfl
    · exact hys.append (.cons _ _ .nil)
  case fin =>
    rintro ys nx ⟨rfl, hs, hl2, hys⟩
    intro D h7 tk7 F7 N7 o7
    exact post _ _ D ys _ hs hl2 hys F7 N7 (fun q hq => (off1_all o7 q hq))
end
theorem reset44 {M : Model} {A : Around} {E : Value → Shared → Prop} {s : Shared} {env : Env} {Q : Flow → Shared → Prop} (h : Q .next s) : wpAny M A (execs [] env) Q E s := by
  w_top off
  walk1
  w_top off
  exact h
/-! S2 -/
section
open PySem PySem.W PyProof.Rows PySem.Calls
set_option Elab.async false
set_option maxRecDepth 100000
set_option maxHeartbeats 8000000
set_option linter.unusedVariables false
theorem fill32 : Challenge.rw_op0038_01 = Challenge.rw_op0038_01 ∧ hd.heap_39 = hd.heap_39 := by
  k_fill
  exact ⟨rfl, rfl⟩
local macro_rules | `(tactic| tb_start) => `(tactic| first | (show wpAny _ _ (binaryOp Operator.Add (Value.ref _) (Value.ref _)) _ _ _))

theorem pick_len_upto (ns : List Int) (b : Nat) : (pickNums ns none (some (b : Int)) none).length = min b ns.length := by
  have h := ((of_ints ns (fun _ => 0)).pick none (some (b : Int)) none).length
  rw [← h, slicePick_upto', List.toList_toArray, List.length_take, List.toList_toArray, (of_ints ns _).length]
theorem pick_len_from (ns : List Int) (b : Nat) : (pickNums ns (some (b : Int)) none none).length = ns.length - b := by
  have h := ((of_ints ns (fun _ => 0)).pick (some (b : Int)) none none).length
  rw [← h, slicePick_from', List.toList_toArray, List.length_drop, List.toList_toArray, (of_ints ns _).length]
theorem law1 {w : World} {L fa sl : Addr} {cd : Value} {tl : List (Addr × Obj)} {m mg mb : Str → Option Value} {mean : ExcName → Option Value} {base g : Heap} {s : Shared} {Q : Flow → Shared → Prop} {E : Value → Shared → Prop}
  (B : Below callerA base [] g) (X : (hd.heap_39 w.params).In g) (T : Top topProg looseT mean mg mb g) {D : Addr} {ys : List Value} {hs : List Int} {n : Nat} (hh : hs.length ≤ 12) (hys : IntsAre ys hs)
  (F : Fr g L s.heap m) (hmD : m (Str.ofString "hands") = some (.ref D)) (N : News g L s.heap ((D, listOf ys.toArray n) :: tl)) (off : ∀ q ∈ tl, q.1 ≠ D)
  (post : ∀ h' tk' D2 hs2 ts2 n2 m2, hs2.length = 12 → m2 (Str.ofString "hands") = some (.ref D2) → Fr g L h' m2 → News g L h' ((D2, listOf (intArr hs2 ts2) n2) :: tl) → (∀ q ∈ tl, q.1 < D2) → Q .next { s with heap := h', toks := tk' }) :
    wpAny (model Prg w) (callerA.deeper (lawEnv L fa cd)) (exec (nth 1 lawB) (lawEnv L fa cd)) Q E s := by
  refine of_assign (st := (nth 1 lawB)) (fun st => wpAny (model Prg w) (callerA.deeper (lawEnv L fa cd)) (exec st (lawEnv L fa cd)) Q E s) rfl ?_
  try dsimp only
  unfold lawEnv
  refine of_defS (st := lawF) (fun sc => wpAny (model Prg w) (callerA.deeper (envOfC (Str.ofString "law") sc L fa cd)) (exec _ (envOfC (Str.ofString "law") sc L fa cd)) Q E s) rfl ?_
  try dsimp only
  have hkst := has_eq (m := m) (ps := [(Str.ofString "hands", Value.ref D)]) (by intro p hp; rw [List.mem_singleton.mp hp]; exact hmD)
  rw [hkst] at F
  dsimp only [kstB] at F
  ktr_unf
  rename Fr _ _ _ _ => F5
  rename News _ _ _ _ => N5
  refine kmk_add_ints F5 N5 ⟨_, N5.get (.tail _ (.head _)), rfl, _, rfl⟩ ⟨_, N5.get (.head _), rfl, _, rfl⟩ hys (.cons _ _ (.cons _ _ (.cons _ _ (.cons _ _ (.cons _ _ (.cons _ _ (.cons _ _ (.cons _ _ (.cons _ _ (.cons _ _ (.cons _ _ (.cons _ _ .nil)))))))))))) (fun D6 us h6 F6 N6 l6 hi6 => ?_) ?_
  rotate_left
  · rw [sizeLine_eq]; simp only [List.length_cons, List.length_nil]; omega
  try dsimp only
  ktr_unf
  refine kba_turn (value' := PySem.Expr.Name (PySem.Str.ofString "_") ⟨0, 0, 0, 0⟩) (fun _ => rfl) ?_
  refine' slice_ints3 F6 N6 ⟨_, N6.get (.head _), rfl, _, rfl⟩ hi6 (by simp only [List.length_append, List.length_cons, List.length_nil]; omega) .none (.int _ _) .none (by decide) ?_ ?c1 (fun r => ?c2)
  case c1 => with_unfolding_all rfl
  case c2 => with_unfolding_all rfl
  intro D8 its8 h8 F8 N8 hi8 l8
  obtain ⟨ts9, e9⟩ := ints_of hi8
  rw [Array.toArray_toList] at e9
  subst e9
  have hl9 := pick_len_upto (hs ++ [5, 4, 17, 10, 4, 7, 2, 9, 3, 8, 5, 6]) 12
  rw [show ((12 : Nat) : Int) = 12 from rfl] at hl9
  generalize pickNums (hs ++ [5, 4, 17, 10, 4, 7, 2, 9, 3, 8, 5, 6]) none (some 12) none = hs9 at *
  simp only [List.length_append, List.length_cons, List.length_nil] at hl9
  try dsimp only
  ktr_unf
  rename Fr _ _ _ _ => F9
  rename News _ _ _ _ => N9
  exact post _ _ D8 hs9 ts9 0 _ (by omega) (by first | rfl | simp) F9 (fun p hp => by
    rcases List.mem_cons.mp hp with h | h
    · rw [h]; exact N9 _ (.head _)
    · exact N9 _ (.tail _ (.tail _ (.tail _ (.tail _ h))))) (fun q hq => l8 q (.tail _ (.tail _ (.tail _ hq))))

theorem law2 {w : World} {L fa sl : Addr} {cd : Value} {tl : List (Addr × Obj)} {m mg mb : Str → Option Value} {mean : ExcName → Option Value} {base g : Heap} {s : Shared} {Q : Flow → Shared → Prop} {E : Value → Shared → Prop}
  (B : Below callerA base [] g) (X : (hd.heap_39 w.params).In g) (T : Top topProg looseT mean mg mb g) {vs : List Value} {ns : List Int} {oS oK : Obj} {v₀ : Option Value} {D : Addr} {hs : List Int} {ts : Nat → Tok} {n : Nat}
  (hsl : g.IsList sl vs.toArray) (hi : IntsAre vs ns) (hn : ns.length ≤ 63)
  (F : Fr g L s.heap m) (N : News g L s.heap ((L + 2, oK) :: tl)) (hcS : (L + 1, oS) ∈ tl) (dS : oS.data = .cell (some (.ref sl))) (dK : oK.data = .cell v₀) (off : ∀ q ∈ tl, q.1 ≠ L + 2)
  (post : ∀ h' tk' oK' k t, 1 ≤ k → k ≤ 3 → oK'.data = .cell (some (.int k t)) → Fr g L h' m → News g L h' ((L + 2, oK') :: tl) → Q .next { s with heap := h', toks := tk' }) :
    wpAny (model Prg w) (callerA.deeper (lawEnv L fa cd)) (exec (nth 2 lawB) (lawEnv L fa cd)) Q E s := by
  refine of_assign (st := (nth 2 lawB)) (fun st => wpAny (model Prg w) (callerA.deeper (lawEnv L fa cd)) (exec st (lawEnv L fa cd)) Q E s) rfl ?_
  try dsimp only
  unfold lawEnv
  refine of_defS (st := lawF) (fun sc => wpAny (model Prg w) (callerA.deeper (envOfC (Str.ofString "law") sc L fa cd)) (exec _ (envOfC (Str.ofString "law") sc L fa cd)) Q E s) rfl ?_
  try dsimp only
  ktr_unf
  have hls : s.heap.IsList sl vs.toArray := hsl.at fun o e => F.keep sl o e
  refine' slice_ints3 F N hls hi (by omega) .none (.int _ _) .none (by decide) ?_ ?c1 (fun r => ?c2)
  case c1 => with_unfolding_all rfl
  case c2 => with_unfolding_all rfl
  intro D8 its8 h8 F8 N8 hi8 l8
  try dsimp only
  walk1
  try dsimp only
  refine sum_are rfl F8 N8 ⟨_, N8.get (.head _), rfl, 0, rfl⟩ hi8 (fun h9 tk9 t9 F9 N9 => ?_)
  try dsimp only
  ktr_unf
  try dsimp only
  refine store_cell (rest := tl) (by rfl) (by rfl) (by rfl) F9 (fun p hp => N9 p (.tail _ hp)) dK off (fun h10 o10 d10 F10 N10 => ?_)
  have hm := Int.fmod_eq_emod_of_nonneg ((pickNums ns none (some 24) none).sum + 1) (show (0 : Int) ≤ 3 by decide)
  exact post _ _ o10 _ _ (by rw [hm]; omega) (by rw [hm]; omega) d10 F10 N10
end
theorem reset45 {M : Model} {A : Around} {E : Value → Shared → Prop} {s : Shared} {env : Env} {Q : Flow → Shared → Prop} (h : Q .next s) : wpAny M A (execs [] env) Q E s := by
  w_top off
  walk1
  w_top off
  exact h
/-! S3 -/
section
open PySem PySem.W PyProof.Rows PySem.Calls
set_option Elab.async false
set_option maxRecDepth 100000
set_option maxHeartbeats 8000000
set_option linter.unusedVariables false
theorem fill33 : Challenge.rw_op0038_01 = Challenge.rw_op0038_01 ∧ hd.heap_39 = hd.heap_39 := by
  k_fill
  exact ⟨rfl, rfl⟩
local macro_rules | `(tactic| tb_start) => `(tactic| first | (show wpAny _ _ (subscriptTail (Expr.List _ _) _ _ _) _ _ _))

theorem rowArr_snoc {zs : List Value} {p : Row} {ts : Nat → Tok} {b : Bool} {t : Tok} (h : zs.toArray = rowArr p ts) : ∃ ts', (zs ++ [nmV b t]).toArray = rowArr (p ++ [b]) ts' := by
  refine ⟨fun i => if i = p.length then t else ts i, ?_⟩
  apply Array.ext_getElem?
  intro i
  have hl : zs.length = p.length := by rw [← List.size_toArray, h, rowArr_size]
  by_cases hi : i < p.length
  · rw [rowArr_get (by rw [List.length_append]; omega), List.getElem_append_left hi, List.getElem?_toArray, List.getElem?_append_left (by omega)]
    have := rowArr_get (ts := ts) hi
    rw [← h, List.getElem?_toArray] at this
    rw [this, if_neg (by omega)]
  · by_cases he : i = p.length
    · subst he
      rw [rowArr_get (by rw [List.length_append]; simp), List.getElem?_toArray, List.getElem?_append_right (by omega)]
      simp [hl]
    · rw [List.getElem?_toArray, List.getElem?_eq_none (by simp; omega), Array.getElem?_eq_none (by rw [rowArr_size, List.length_append]; simp; omega)]
theorem rows_all : ∀ p : Row, 1 ≤ p.length → p.length ≤ 3 → p ∈ allRows
  | [], h, _ => absurd h (by decide)
  | [a], _, _ => by cases a <;> decide
  | [a, b], _, _ => by cases a <;> cases b <;> decide
  | [a, b, c], _, _ => by cases a <;> cases b <;> cases c <;> decide
  | _ :: _ :: _ :: _ :: _, _, h => by simp only [List.length_cons] at h; omega
theorem fr_same {h₀ h : Heap} {L : Addr} {m m' : Str → Option Value} (e : ∀ z, m z = m' z) (F : Fr h₀ L h m) : Fr h₀ L h m' := by rw [← funext e]; exact F
theorem law3 {w : World} {L fa sl : Addr} {cd : Value} {tl : List (Addr × Obj)} {m mg mb : Str → Option Value} {mean : ExcName → Option Value} {base g : Heap} {s : Shared} {Q : Flow → Shared → Prop} {E : Value → Shared → Prop}
  (B : Below callerA base [] g) (X : (hd.heap_39 w.params).In g) (T : Top topProg looseT mean mg mb g) {D : Addr} {hs : List Int} {ts : Nat → Tok} {n : Nat} (hh : hs.length = 12)
  (F : Fr g L s.heap m) (hmD : m (Str.ofString "hands") = some (.ref D)) (N : News g L s.heap tl) (hD : (D, listOf (intArr hs ts) n) ∈ tl)
  (post : ∀ h' tk' lr rr er tl', rr.length = 4 → (∀ x ∈ rr, x.q ∈ allRows) → Fr g L h' (fun z => if z = Str.ofString "rows" then some (.ref lr) else m z) → News g L h' ((lr, listOf (svals rr) er) :: tl') → (∀ x ∈ rr, (x.a, x.o) ∈ tl') → (∀ q ∈ tl, q ∈ tl') → (∀ q ∈ tl', q.1 ≠ lr) → Q .next { s with heap := h', toks := tk' }) :
    wpAny (model Prg w) (callerA.deeper (lawEnv L fa cd)) (exec (nth 3 lawB) (lawEnv L fa cd)) Q E s := by
  refine of_assign (st := (nth 3 lawB)) (fun st => wpAny (model Prg w) (callerA.deeper (lawEnv L fa cd)) (exec st (lawEnv L fa cd)) Q E s) rfl ?_
  try dsimp only
  unfold lawEnv
  refine of_defS (st := lawF) (fun sc => wpAny (model Prg w) (callerA.deeper (envOfC (Str.ofString "law") sc L fa cd)) (exec _ (envOfC (Str.ofString "law") sc L fa cd)) Q E s) rfl ?_
  try dsimp only
  have hkst := has_eq (m := m) (ps := [(Str.ofString "hands", Value.ref D)]) (by intro p hp; rw [List.mem_singleton.mp hp]; exact hmD)
  rw [hkst] at F
  dsimp only [kstB] at F
  k_dflt (refine Assign_ListComp_cell (F₀ := F) (by rfl) (by with_unfolding_all rfl) (by with_unfolding_all rfl) (fun _ _ => by rfl) (fun _ => by rfl) (by rfl) (by decide) (by rfl) (by rfl) (by rfl) ?_)
  try dsimp only
  ktr_unf
  refine' slice_ints3 F N (vs := (intArr hs ts).toList) ⟨_, N.get hD, rfl, n, (by rw [Array.toArray_toList])⟩ (of_ints hs ts) (by omega) .none (.int _ _) .none (by decide) ?_ ?c1 (fun r => ?c2)
  case c1 => with_unfolding_all rfl
  case c2 => with_unfolding_all rfl
  intro D8 its8 h8 F8 N8 hi8 l8
  obtain ⟨ts9, e9⟩ := ints_of hi8
  rw [Array.toArray_toList] at e9
  subst e9
  have hl9 := pick_len_upto hs 4
  rw [show ((4 : Nat) : Int) = 4 from rfl] at hl9
  generalize pickNums hs none (some 4) none = hs9 at *
  have hl4 : hs9.length = 4 := by omega
  clear hl9
  try dsimp only
  refine cell_list (nn := 0) (its := intArr hs9 ts9) (news := (D8, listOf (intArr hs9 ts9) 0) :: tl) (fun i ys nx => ∃ rr : List SIt, rr.length = i ∧ ys.toArray = svals rr ∧ (∀ x ∈ rr, x.q ∈ allRows) ∧ (∀ x ∈ rr, (x.a, x.o) ∈ nx) ∧ (∀ q ∈ tl, q ∈ nx)) (by rfl) (.head _) (by rw [intArr_size, sizeLine_eq]; omega) F8 N8 ⟨[], rfl, rfl, (fun _ h => nomatch h), (fun _ h => nomatch h), fun q hq => .tail _ hq⟩ ?turn ?fin
  case fin =>
    rintro g7 ys nx hk ⟨rr, hrl, hys, hrq, hro, hsub⟩
    intro D7 h7 tk7 F7 N7 o7
    rw [intArr_size, hl4] at hrl
    have elst : LCg.lst ys = listOf (svals rr) ys.length := by
      show listOf ys.toArray _ = _
      rw [hys]
    rw [elst] at N7
    exact post _ _ D7 rr _ nx hrl hrq (fr_same (fun z => congrArg (fun q => if z = Str.ofString "rows" then some (Value.ref D7) else q) (congrFun hkst z).symm) F7) N7 hro hsub (off1_all o7)
  case turn =>
    clear post
    rintro g1 i ys nx v I oI C oC X oX D9 h tk E' hi hv ⟨rr, hrl, hys, hrq, hro, hsub⟩ hk hoX F6 N6 off ne
    rw [intArr_size] at hi
    rw [intArr_get hi] at hv
    have hv2 := Option.some.inj hv
    subst hv2
    generalize hs9.getD i 0 = num at *
    clear F N F8 N8 hD hv
    k_dflt (refine LCg.ListComp_U (F₀ := F6) (by with_unfolding_all rfl) (by decide) (by rfl) (by decide) (by rfl) ?_)
    try dsimp only
    ktr_unf
    rename Fr _ _ _ _ => F7
    rename News _ _ _ _ => N7
    rename IsRange _ _ _ _ _ _ _ _ => R7
    have hmod := Int.fmod_eq_emod_of_nonneg num (show (0 : Int) ≤ 3 by decide)
    obtain ⟨k3, hk3, hk31, hk33⟩ : ∃ k3 : Nat, (1 + num.fmod 3 : Int) = (k3 : Int) ∧ 1 ≤ k3 ∧ k3 ≤ 3 := ⟨(1 + num.fmod 3).toNat, by omega, by omega, by omega⟩
    rw [hk3] at R7
    obtain ⟨N1, hN1⟩ : ∃ N1, N1 = (I, oI) :: (C, oC) :: (X, oX) :: (D9, LCg.lst ys) :: nx := ⟨_, rfl⟩
    rw [← hN1] at N7
    have gX : (X, oX) ∈ N1 := by rw [hN1]; exact .tail _ (.tail _ (.head _))
    refine LCg.CompSrc.range (n := k3) (news := N1) (by rfl) F7 N7 R7 (small13 _ (by omega)) (size13 _ (by omega)) (by rw [sizeLine_eq]; omega) (fun g' => rest_inv (fun j zs nx2 => nx2 = N1 ∧ ∃ p : Row, p.length = j ∧ ∃ ts, zs.toArray = rowArr p ts) ?turn2 ?fin2 _ 0 [] N1 (Nat.zero_add _) ⟨rfl, [], rfl, fun _ => 0, rfl⟩)
    case fin2 =>
      rintro zs nx2 ⟨rfl, p, hp, ts3, hzs⟩
      intro D3 h5 tk5 F9 N9 o9
      have elst : LCg.lst zs = listOf (rowArr p ts3) zs.length := by
        show listOf zs.toArray _ = _
        rw [hzs]
      rw [elst] at N9
      subst hN1
      have o9' := off1_all o9
      refine ⟨_, _, (D3, listOf (rowArr p ts3) zs.length) :: nx, rfl, F9, ?_, ?_, fun q hq => .tail _ (hk q hq), rr ++ [⟨D3, p, ts3, zs.length⟩], by simp [hrl], ?_, ?_, ?_, fun q hq => .tail _ (hsub q hq)⟩
      · intro q hq
        simp only [List.mem_cons] at hq
        rcases hq with h | h | h | h | h | h
        · rw [h]; exact N9 _ (.tail _ (.head _))
        · rw [h]; exact N9 _ (.tail _ (.tail _ (.head _)))
        · rw [h]; exact N9 _ (.tail _ (.tail _ (.tail _ (.head _))))
        · rw [h]; exact N9 _ (.tail _ (.tail _ (.tail _ (.tail _ (.head _)))))
        · rw [h]; exact N9 _ (.head _)
        · exact N9 _ (.tail _ (.tail _ (.tail _ (.tail _ (.tail _ h)))))
      · intro q hq
        rcases List.mem_cons.mp hq with h | h
        · rw [h]
          exact ⟨fun e => o9' _ (.head _) e.symm, fun e => o9' _ (.tail _ (.head _)) e.symm, fun e => o9' _ (.tail _ (.tail _ (.head _))) e.symm, fun e => o9' _ (.tail _ (.tail _ (.tail _ (.head _)))) e.symm⟩
        · exact off q h
      · have := svals_push rr ⟨D3, p, ts3, zs.length⟩
        rw [← this, ← hys]
        simp
      · intro x hx
        rcases List.mem_append.mp hx with h | h
        · exact hrq x h
        · rw [List.mem_singleton.mp h]; exact rows_all p (by omega) (by omega)
      · intro x hx
        rcases List.mem_append.mp hx with h | h
        · exact .tail _ (hro x h)
        · rw [List.mem_singleton.mp h]; exact .head _
    case turn2 =>
      clear hk hro hsub off
      rintro j zs nx2 v2 I2 oI2 C2 oC2 D2 m₂ h3 tk3 E3 hj ⟨t2, rfl⟩ ⟨hnx, p, hp, ts3, hzs⟩ hoC hm F8 N8 off2 ne2
      subst hnx
      clear F7 N7 R7
      ktr_unf
      try dsimp only
      rename Fr _ _ _ _ => F9
      rename News _ _ _ _ => N9
      have hx := Int.fmod_eq_emod_of_nonneg ((num.fdiv 3).fdiv (2 ^ (0 + (j : Int)).toNat)) (show (0 : Int) ≤ 2 by decide)
      generalize ((num.fdiv 3).fdiv (2 ^ (0 + (j : Int)).toNat)).fmod 2 = x at *
      have hx2 : x = 0 ∨ x = 1 := by omega
      clear hx
      rcases hx2 with rfl | rfl
      · refine kba_turn (value' := PySem.Expr.Name (PySem.Str.ofString "_") ⟨0, 0, 0, 0⟩) (fun _ => rfl) ?_
        refine sub_list (v := nmV false tk3) N9 (.head _) (by decide) (by decide) rfl ?_ (by with_unfolding_all rfl)
        exact LCg.CompEnd.intro F9 N9 nx2 (fun q hq => .tail _ hq) off2 trivial ⟨rfl, p ++ [false], (by rw [List.length_append, hp]; rfl), rowArr_snoc hzs⟩
      · refine kba_turn (value' := PySem.Expr.Name (PySem.Str.ofString "_") ⟨0, 0, 0, 0⟩) (fun _ => rfl) ?_
        refine sub_list (v := nmV true (tk3 + 1)) N9 (.head _) (by decide) (by decide) rfl ?_ (by with_unfolding_all rfl)
        exact LCg.CompEnd.intro F9 N9 nx2 (fun q hq => .tail _ hq) off2 trivial ⟨rfl, p ++ [true], (by rw [List.length_append, hp]; rfl), rowArr_snoc hzs⟩
end
theorem reset46 {M : Model} {A : Around} {E : Value → Shared → Prop} {s : Shared} {env : Env} {Q : Flow → Shared → Prop} (h : Q .next s) : wpAny M A (execs [] env) Q E s := by
  w_top off
  walk1
  w_top off
  exact h
/-! S4 -/
section
open PySem PySem.W PyProof.Rows PySem.Calls
set_option Elab.async false
set_option maxRecDepth 100000
set_option maxHeartbeats 8000000
set_option linter.unusedVariables false
theorem fill34 : Challenge.rw_op0038_01 = Challenge.rw_op0038_01 ∧ hd.heap_39 = hd.heap_39 := by
  k_fill
  exact ⟨rfl, rfl⟩

theorem law4 {w : World} {L fa sl : Addr} {cd : Value} {tl : List (Addr × Obj)} {m mg mb : Str → Option Value} {mean : ExcName → Option Value} {base g : Heap} {s : Shared} {Q : Flow → Shared → Prop} {E : Value → Shared → Prop}
  (B : Below callerA base [] g) (X : (hd.heap_39 w.params).In g) (T : Top topProg looseT mean mg mb g) {D : Addr} {hs : List Int} {ts : Nat → Tok} {n : Nat} (hh : hs.length = 12)
  (F : Fr g L s.heap m) (hmD : m (Str.ofString "hands") = some (.ref D)) (N : News g L s.heap tl) (hD : (D, listOf (intArr hs ts) n) ∈ tl)
  (post : ∀ h' tk' lq qs us e, qs.length = 8 → (∀ q ∈ qs, ∃ r : Int, q = 12 * r ∧ -2 ^ 30 < r ∧ r < 2 ^ 30) → Fr g L h' (fun z => if z = Str.ofString "prices" then some (.ref lq) else m z) → News g L h' ((lq, listOf (intArr qs us) e) :: tl) → (∀ q ∈ tl, q.1 ≠ lq) → Q .next { s with heap := h', toks := tk' }) :
    wpAny (model Prg w) (callerA.deeper (lawEnv L fa cd)) (exec (nth 4 lawB) (lawEnv L fa cd)) Q E s := by
  refine of_assign (st := (nth 4 lawB)) (fun st => wpAny (model Prg w) (callerA.deeper (lawEnv L fa cd)) (exec st (lawEnv L fa cd)) Q E s) rfl ?_
  try dsimp only
  unfold lawEnv
  refine of_defS (st := lawF) (fun sc => wpAny (model Prg w) (callerA.deeper (envOfC (Str.ofString "law") sc L fa cd)) (exec _ (envOfC (Str.ofString "law") sc L fa cd)) Q E s) rfl ?_
  try dsimp only
  have hkst := has_eq (m := m) (ps := [(Str.ofString "hands", Value.ref D)]) (by intro p hp; rw [List.mem_singleton.mp hp]; exact hmD)
  rw [hkst] at F
  dsimp only [kstB] at F
  k_dflt (refine LCg.Assign_ListComp_U (F₀ := F) (by rfl) (by with_unfolding_all rfl) (by with_unfolding_all rfl) (by decide) (by rfl) (by decide) (by rfl) (by rfl) (by rfl) ?_)
  try dsimp only
  ktr_unf
  refine' slice_ints3 F N (vs := (intArr hs ts).toList) ⟨_, N.get hD, rfl, n, (by rw [Array.toArray_toList])⟩ (of_ints hs ts) (by omega) (.int _ _) .none .none (by decide) ?_ ?c1 (fun r => ?c2)
  case c1 => with_unfolding_all rfl
  case c2 => with_unfolding_all rfl
  intro D8 its8 h8 F8 N8 hi8 l8
  obtain ⟨ts9, e9⟩ := ints_of hi8
  rw [Array.toArray_toList] at e9
  subst e9
  have hl9 := pick_len_from hs 4
  rw [show ((4 : Nat) : Int) = 4 from rfl] at hl9
  generalize pickNums hs (some 4) none none = hs9 at *
  have hl4 : hs9.length = 8 := by omega
  clear hl9
  try dsimp only
  have hm8 : (D8, listOf (intArr hs9 ts9) 0) ∈ (D8, listOf (intArr hs9 ts9) 0) :: tl := .head _
  refine LCg.CompSrc.ledger (news := (D8, listOf (intArr hs9 ts9) 0) :: tl) (k := 0) (its := intArr hs9 ts9) rfl F8 N8 hm8 (by rw [intArr_size, sizeLine_eq]; omega) (fun g' => rest_inv (fun i ys nx => nx = (D8, listOf (intArr hs9 ts9) 0) :: tl ∧ ∃ (qs : List Int) (us : Nat → Tok), qs.length = i ∧ ys.toArray = intArr qs us ∧ ∀ q ∈ qs, ∃ r : Int, q = 12 * r ∧ -2 ^ 30 < r ∧ r < 2 ^ 30) ?turn ?fin _ 0 [] _ (Nat.zero_add _) ⟨rfl, [], fun _ => 0, rfl, rfl, fun _ h => nomatch h⟩)
  case fin =>
    rintro ys nx ⟨rfl, qs, us, hql, hys, hqs⟩
    intro D7 h7 tk7 F7 N7 o7
    rw [intArr_size, hl4] at hql
    have elst : LCg.lst ys = listOf (intArr qs us) ys.length := by
      show listOf ys.toArray _ = _
      rw [hys]
    rw [elst] at N7
    have o7' := off1_all o7
    refine post _ _ D7 qs us ys.length hql hqs (fr_same (fun z => congrArg (fun q => if z = Str.ofString "prices" then some (Value.ref D7) else q) (congrFun hkst z).symm) F7) (fun p hp => ?_) (fun q hq => o7' q (.tail _ hq))
    rcases List.mem_cons.mp hp with h | h
    · rw [h]; exact N7 _ (.head _)
    · exact N7 _ (.tail _ (.tail _ h))
  case turn =>
    clear post
    rintro i ys nx v I oI C oC D2 m₂ h tk E' hi hP ⟨hnx, qs, us, hql, hys, hqs⟩ hoC hm F6 N6 off ne
    rw [intArr_size] at hi
    rw [intArr_get hi] at hP
    have hv := Option.some.inj hP
    subst hv
    generalize hs9.getD i 0 = num at *
    clear F N F8 N8 hD
    ktr_unf
    all_goals try dsimp only
    · rename_i hc
      rw [show (2 : Int) ^ Int.toNat 30 = 2 ^ 30 from rfl] at hc
      refine LCg.CompEnd.intro F6 N6 nx (fun q hq => hq) off (.inr ⟨_, (by rw [hnx]; exact .head _), rfl, _, rfl⟩) ⟨hnx, qs ++ [12 * num], _, (by rw [List.length_append, hql]; rfl), intArr_snoc hys, fun q hq => ?_⟩
      rcases List.mem_append.mp hq with h | h
      · exact hqs q h
      · refine ⟨num, List.mem_singleton.mp h, ?_, ?_⟩ <;> (split at hc <;> omega)
    · rename_i hc
      have hmod := Int.fmod_eq_emod_of_nonneg num (show (0 : Int) ≤ 2 ^ Int.toNat 30 by decide)
      rw [show (2 : Int) ^ Int.toNat 30 = 2 ^ 30 from rfl] at *
      refine LCg.CompEnd.intro F6 N6 nx (fun q hq => hq) off (.inr ⟨_, (by rw [hnx]; exact .head _), rfl, _, rfl⟩) ⟨hnx, qs ++ [12 * num.fmod (2 ^ 30)], _, (by rw [List.length_append, hql]; rfl), intArr_snoc hys, fun q hq => ?_⟩
      rcases List.mem_append.mp hq with h | h
      · exact hqs q h
      · exact ⟨num.fmod (2 ^ 30), List.mem_singleton.mp h, by omega, by omega⟩
end
theorem reset47 {M : Model} {A : Around} {E : Value → Shared → Prop} {s : Shared} {env : Env} {Q : Flow → Shared → Prop} (h : Q .next s) : wpAny M A (execs [] env) Q E s := by
  w_top off
  walk1
  w_top off
  exact h
/-! S5 -/
section
open PySem PySem.W PyProof.Rows PySem.Calls
set_option Elab.async false
set_option maxRecDepth 100000
set_option maxHeartbeats 8000000
set_option linter.unusedVariables false
theorem fill35 : Challenge.rw_op0038_01 = Challenge.rw_op0038_01 ∧ hd.heap_39 = hd.heap_39 := by
  k_fill
  exact ⟨rfl, rfl⟩
local macro_rules | `(tactic| tb_start) => `(tactic| first | (show wpAny _ _ (call (Value.builtin "str.join") _) _ _ _))

theorem join_row : ∀ p ∈ allRows, JoinOk (Str.ofString "/") (p.map nmStr) = true ∧ Txt.join (Str.ofString "/") (p.map nmStr) = pathStr p := by
  refine rows_ind ?_ ?_ ?_
  · intro a; cases a <;> exact ⟨by decide +kernel, by decide +kernel⟩
  · intro a b; cases a <;> cases b <;> exact ⟨by decide +kernel, by decide +kernel⟩
  · intro a b c; cases a <;> cases b <;> cases c <;> exact ⟨by decide +kernel, by decide +kernel⟩
theorem row_strs (p : Row) (ts : Nat → Tok) : rowArr p ts = (strValues (p.zipIdx.map fun x => (nmStr x.1, ts x.2))).toArray := by
  unfold rowArr strValues
  rw [List.map_map]
  rfl
theorem row_fst (p : Row) (ts : Nat → Tok) : (p.zipIdx.map fun x => (nmStr x.1, ts x.2)).map (·.1) = p.map nmStr := by
  rw [List.map_map]
  have : p.map nmStr = (p.zipIdx.map Prod.fst).map nmStr := by rw [List.zipIdx_map_fst]
  rw [this, List.map_map]
  rfl
theorem join_pv {prog : Program} {w : World} {A : Around} {E : Value → Shared → Prop} {s : Shared} {t : Tok} {D : Addr} {p : Row} {ts : Nat → Tok} {Q : Value → Shared → Prop} (hp : p ∈ allRows) (hl : s.heap.IsList D (rowArr p ts))
    (hq : ∀ t' k, Q (PV false p t') { s with toks := k }) : wpAny (model prog w) A (call (.builtin "str.join") [.str (Str.ofString "/") t, .ref D]) Q E s := by
  refine SC.join (texts := p.map nmStr) (by rw [← row_strs]; exact hl) (row_fst p ts) (join_row p hp).1 (fun t' k => ?_)
  rw [(join_row p hp).2]
  exact hq t' k
theorem four {ys : List Value} {P : Nat → Value → Prop} (hl : ys.length = 4) (h : ∀ j, j < 4 → ∃ v, ys[j]? = some v ∧ P j v) : ∃ a b c d, ys = [a, b, c, d] ∧ P 0 a ∧ P 1 b ∧ P 2 c ∧ P 3 d := by
  match ys, hl with
  | [a, b, c, d], _ =>
    refine ⟨a, b, c, d, rfl, ?_, ?_, ?_, ?_⟩
    · obtain ⟨v, e, p⟩ := h 0 (by decide); exact Option.some.inj e ▸ p
    · obtain ⟨v, e, p⟩ := h 1 (by decide); exact Option.some.inj e ▸ p
    · obtain ⟨v, e, p⟩ := h 2 (by decide); exact Option.some.inj e ▸ p
    · obtain ⟨v, e, p⟩ := h 3 (by decide); exact Option.some.inj e ▸ p
theorem law5 {w : World} {L fa sl : Addr} {cd : Value} {tl : List (Addr × Obj)} {m mg mb : Str → Option Value} {mean : ExcName → Option Value} {base g : Heap} {s : Shared} {Q : Flow → Shared → Prop} {E : Value → Shared → Prop}
  (B : Below callerA base [] g) (X : (hd.heap_39 w.params).In g) (T : Top topProg looseT mean mg mb g) {lr : Addr} {rr : List SIt} {er : Nat} (hrl : rr.length = 4) (hrq : ∀ x ∈ rr, x.q ∈ allRows) (hro : ∀ x ∈ rr, (x.a, x.o) ∈ tl)
  (F : Fr g L s.heap m) (hmR : m (Str.ofString "rows") = some (.ref lr)) (N : News g L s.heap tl) (hR : (lr, listOf (svals rr) er) ∈ tl)
  (post : ∀ h' tk' lt e t0 t1 t2 t3, Fr g L h' (fun z => if z = Str.ofString "texts" then some (.ref lt) else m z) →
    News g L h' ((lt, listOf #[PV false (rr.map SIt.q)[0]! t0, PV false (rr.map SIt.q)[1]! t1, PV false (rr.map SIt.q)[2]! t2, PV false (rr.map SIt.q)[3]! t3] e) :: tl) → (∀ q ∈ tl, q.1 ≠ lt) → Q .next { s with heap := h', toks := tk' }) :
    wpAny (model Prg w) (callerA.deeper (lawEnv L fa cd)) (exec (nth 5 lawB) (lawEnv L fa cd)) Q E s := by
  refine of_assign (st := (nth 5 lawB)) (fun st => wpAny (model Prg w) (callerA.deeper (lawEnv L fa cd)) (exec st (lawEnv L fa cd)) Q E s) rfl ?_
  try dsimp only
  unfold lawEnv
  refine of_defS (st := lawF) (fun sc => wpAny (model Prg w) (callerA.deeper (envOfC (Str.ofString "law") sc L fa cd)) (exec _ (envOfC (Str.ofString "law") sc L fa cd)) Q E s) rfl ?_
  try dsimp only
  have hkst := has_eq (m := m) (ps := [(Str.ofString "rows", Value.ref lr)]) (by intro p hp; rw [List.mem_singleton.mp hp]; exact hmR)
  rw [hkst] at F
  dsimp only [kstB] at F
  k_dflt (refine LCg.Assign_ListComp_U (F₀ := F) (by rfl) (by with_unfolding_all rfl) (by with_unfolding_all rfl) (by decide) (by rfl) (by decide) (by rfl) (by rfl) (by rfl) ?_)
  try dsimp only
  ktr_unf
  refine LCg.CompSrc.ledger (news := tl) (k := er) (its := svals rr) rfl F N hR (by rw [svals_size, sizeLine_eq]; omega) (fun g' => rest_inv (fun i ys nx => nx = tl ∧ ys.length = i ∧ ∀ j, j < i → ∃ v, ys[j]? = some v ∧ ∃ t, v = PV false (rr.map SIt.q)[j]! t) ?turn ?fin _ 0 [] _ (Nat.zero_add _) ⟨rfl, rfl, fun _ h => absurd h (Nat.not_lt_zero _)⟩)
  case fin =>
    rintro ys nx ⟨rfl, hyl, hys⟩
    intro D7 h7 tk7 F7 N7 o7
    rw [svals_size, hrl] at hyl hys
    obtain ⟨a, b, c, d, rfl, ⟨t0, rfl⟩, ⟨t1, rfl⟩, ⟨t2, rfl⟩, ⟨t3, rfl⟩⟩ := four hyl hys
    exact post _ _ D7 _ t0 t1 t2 t3 (fr_same (fun z => congrArg (fun q => if z = Str.ofString "texts" then some (Value.ref D7) else q) (congrFun hkst z).symm) F7) N7 (off1_all o7)
  case turn =>
    clear post
    rintro i ys nx v I oI C oC D2 m₂ h tk E' hi hP ⟨hnx, hyl, hys⟩ hoC hm F6 N6 off ne
    rw [svals_size] at hi
    rw [svals_get hi] at hP
    have hv := Option.some.inj hP
    subst hv
    clear F N
    ktr_unf
    refine join_pv (p := rr[i].q) (ts := rr[i].ts) (hrq _ (List.getElem_mem hi)) ⟨_, N6.get (.tail _ (.tail _ (.tail _ (by rw [hnx]; exact hro _ (List.getElem_mem hi))))), rfl, _, rfl⟩ (fun t' k' => ?_)
    try dsimp only
    refine LCg.CompEnd.intro F6 N6 nx (fun q hq => hq) off (.inr ⟨_, (by rw [hnx]; exact hR), rfl, _, rfl⟩) ⟨hnx, (by rw [List.length_append, hyl]; rfl), fun j hj => ?_⟩
    by_cases hji : j < i
    · rw [List.getElem?_append_left (by omega)]
      exact hys j hji
    · have hje : j = ys.length := by omega
      refine ⟨_, by rw [hje, List.getElem?_append_right (Nat.le_refl _), Nat.sub_self]; rfl, t', ?_⟩
      rw [hje, hyl, getElem!_pos _ i (by rw [List.length_map]; exact hi), List.getElem_map]
end
theorem reset48 {M : Model} {A : Around} {E : Value → Shared → Prop} {s : Shared} {env : Env} {Q : Flow → Shared → Prop} (h : Q .next s) : wpAny M A (execs [] env) Q E s := by
  w_top off
  walk1
  w_top off
  exact h
/-! S6 -/
section
open PySem PySem.W PyProof.Rows PySem.Calls
set_option Elab.async false
set_option maxRecDepth 100000
set_option maxHeartbeats 8000000
set_option linter.unusedVariables false
theorem fill36 : Challenge.rw_op0038_01 = Challenge.rw_op0038_01 ∧ hd.heap_39 = hd.heap_39 := by
  k_fill
  exact ⟨rfl, rfl⟩
local macro_rules | `(tactic| tb_start) => `(tactic| first | (show wpAny _ _ (call (Value.ref _) _) _ _ _))

theorem law6 {w : World} {L fa sl : Addr} {cd : Value} {tl : List (Addr × Obj)} {m mg mb : Str → Option Value} {mean : ExcName → Option Value} {base g : Heap} {s : Shared} {Q : Flow → Shared → Prop} {E : Value → Shared → Prop}
  (B : Below callerA base [] g) (X : (hd.heap_39 w.params).In g) (T : Top topProg looseT mean mg mb g) {lt lq : Addr} {p0 p1 p2 p3 : Row} {t0 t1 t2 t3 : Tok} {e1 e2 : Nat} {qs : List Int} {us : Nat → Tok} {k : Int} {tK : Tok} {oK : Obj}
  (hp0 : p0 ∈ allRows) (hp1 : p1 ∈ allRows) (hp2 : p2 ∈ allRows) (hp3 : p3 ∈ allRows) (hq : qs.length = 8) (hk1 : 1 ≤ k) (hk3 : k ≤ 3)
  (F : Fr g L s.heap m) (hm : ∀ p ∈ [(Str.ofString "prices", Value.ref lq), (Str.ofString "texts", .ref lt)], m p.1 = some p.2)
  (N : News g L s.heap ((lt, listOf #[PV false p0 t0, PV false p1 t1, PV false p2 t2, PV false p3 t3] e1) :: (lq, listOf (intArr qs us) e2) :: tl)) (hcK : (L + 2, oK) ∈ tl) (dK : oK.data = .cell (some (.int k tK)))
  (post : ∀ h' tk' lf e ts, Fr g L h' (fun z => if z = Str.ofString "fees" then some (.ref lf) else m z) →
    News g L h' ((lf, listOf (intArr (feesK qs k [⟨1 - p0.length, p0, 0⟩, ⟨1 - p1.length, p1, 1⟩, ⟨1 - p2.length, p2, 2⟩, ⟨1 - p3.length, p3, 3⟩]) ts) e) :: (lt, listOf #[PV false p0 t0, PV false p1 t1, PV false p2 t2, PV false p3 t3] e1) :: (lq, listOf (intArr qs us) e2) :: tl) → Q .next { s with heap := h', toks := tk' }) :
    wpAny (model Prg w) (callerA.deeper (lawEnv L fa cd)) (exec (nth 6 lawB) (lawEnv L fa cd)) Q E s := by
  refine of_assign (st := (nth 6 lawB)) (fun st => wpAny (model Prg w) (callerA.deeper (lawEnv L fa cd)) (exec st (lawEnv L fa cd)) Q E s) rfl ?_
  try dsimp only
  unfold lawEnv
  refine of_defS (st := lawF) (fun sc => wpAny (model Prg w) (callerA.deeper (envOfC (Str.ofString "law") sc L fa cd)) (exec _ (envOfC (Str.ofString "law") sc L fa cd)) Q E s) rfl ?_
  try dsimp only
  have hkst := has_eq (m := m) (ps := [(Str.ofString "prices", Value.ref lq), (Str.ofString "texts", .ref lt)]) hm
  rw [hkst] at F
  dsimp only [kstB] at F
  ktr_unf
  refine fees_ok hp0 hp1 hp2 hp3 hq hk1 hk3 mean mg mb _ _ _ _ _ _ _ _ [] callerA base g L _ _ _ _ B F X N T (by rfl) (by decide +kernel) (by decide +kernel) ?_
  intro h2 tk2 lf e ts F2 N2 hlt
  try dsimp only
  ktr_unf
  rename Fr _ _ _ _ => F5
  rename News _ _ _ _ => N5
  exact post _ _ lf e ts (fr_same (fun z => congrArg (fun q => if z = Str.ofString "fees" then some (Value.ref lf) else q) (congrFun hkst z).symm) F5) N5
end
theorem reset49 {M : Model} {A : Around} {E : Value → Shared → Prop} {s : Shared} {env : Env} {Q : Flow → Shared → Prop} (h : Q .next s) : wpAny M A (execs [] env) Q E s := by
  w_top off
  walk1
  w_top off
  exact h
/-! S7 -/
section
open PySem PySem.W PyProof.Rows PySem.Calls
set_option Elab.async false
set_option maxRecDepth 100000
set_option maxHeartbeats 8000000
set_option linter.unusedVariables false
theorem fill37 : Challenge.rw_op0038_01 = Challenge.rw_op0038_01 ∧ hd.heap_39 = hd.heap_39 := by
  k_fill
  exact ⟨rfl, rfl⟩
local macro_rules | `(tactic| tb_start) => `(tactic| first | (show wpAny _ _ (call (Value.builtin "str.encode") _) _ _ _) | (show wpAny _ _ (call (Value.ref _) _) _ _ _) | (show wpAny _ _ (compareOp _ _ _) _ _ _))

open Builtin in
theorem gives_enc : ∀ p ∈ allRows, ∀ t u, Gives («str.encode» ⟨[.str (pathStr p) t, .str (Str.ofString "ascii") u], []⟩) (.bytes (pathB p)) := by
  refine rows_ind ?_ ?_ ?_
  · intro a; cases a <;> exact fun t u => .of_eq (by kernel_rfl)
  · intro a b; cases a <;> cases b <;> exact fun t u => .of_eq (by kernel_rfl)
  · intro a b c; cases a <;> cases b <;> cases c <;> exact fun t u => .of_eq (by kernel_rfl)
theorem size_pathB : ∀ p ∈ allRows, (pathB p).size ≤ 16 := by
  refine rows_ind ?_ ?_ ?_
  · intro a; cases a <;> decide +kernel
  · intro a b; cases a <;> cases b <;> decide +kernel
  · intro a b c; cases a <;> cases b <;> cases c <;> decide +kernel
theorem enc_pv {prog : Program} {w : World} {A : Around} {E : Value → Shared → Prop} {s : Shared} {t u : Tok} {p : Row} {Q : Value → Shared → Prop} (hp : p ∈ allRows)
    (hq : ∀ t' k, Q (PV true p t') { s with toks := k }) : wpAny (model prog w) A (call (.builtin "str.encode") [PV false p t, .str (Str.ofString "ascii") u]) Q E s := by
  refine call_gives F.slot_str_encode (typeIs_str _ _ _) F.entry_str_encode (F.args_str_encode_2 _ _) (gives_enc p hp t u) ?_
  have h16 := size_pathB p hp
  exact ⟨by first | (rw [sizeLine_eq]; omega) | omega, hq _ _⟩
theorem eql_ints {H : Heap} {K : Around → Prop} (ns : List Int) (ts us : Nat → Tok) : EqL H K (intArr ns ts).toList (intArr ns us).toList true := by
  have h : ∀ (l : List Int) (k : Nat), EqL H K ((l.zipIdx k).map fun x => Value.int x.1 (ts x.2)) ((l.zipIdx k).map fun x => Value.int x.1 (us x.2)) true := by
    intro l
    induction l with
    | nil => intro k; exact .nil
    | cons n r ih => intro k; exact EqL.cons (e := true) (r := true) (fun prog w A E s Q _ _ hq => wpAny_eqBool_int (by rw [beq_self_eq_true]; exact hq)) (ih (k + 1))
  unfold intArr
  simp only [List.toList_toArray]
  exact h ns 0
theorem law7 {w : World} {L fa sl : Addr} {cd : Value} {tl : List (Addr × Obj)} {m mg mb : Str → Option Value} {mean : ExcName → Option Value} {base g : Heap} {s : Shared} {Q : Flow → Shared → Prop} {E : Value → Shared → Prop}
  (B : Below callerA base [] g) (X : (hd.heap_39 w.params).In g) (T : Top topProg looseT mean mg mb g) {lt lq lf : Addr} {p0 p1 p2 p3 : Row} {t0 t1 t2 t3 : Tok} {e1 e2 ef : Nat} {qs : List Int} {us tf : Nat → Tok} {k : Int} {tK : Tok} {oK : Obj}
  (hp0 : p0 ∈ allRows) (hp1 : p1 ∈ allRows) (hp2 : p2 ∈ allRows) (hp3 : p3 ∈ allRows) (hq : qs.length = 8) (hk1 : 1 ≤ k) (hk3 : k ≤ 3)
  (F : Fr g L s.heap m) (hm : ∀ p ∈ [(Str.ofString "prices", Value.ref lq), (Str.ofString "texts", .ref lt), (Str.ofString "fees", .ref lf)], m p.1 = some p.2)
  (N : News g L s.heap ((lf, listOf (intArr (feesK qs k [⟨1 - p0.length, p0, 0⟩, ⟨1 - p1.length, p1, 1⟩, ⟨1 - p2.length, p2, 2⟩, ⟨1 - p3.length, p3, 3⟩]) tf) ef) :: (lt, listOf #[PV false p0 t0, PV false p1 t1, PV false p2 t2, PV false p3 t3] e1) :: (lq, listOf (intArr qs us) e2) :: tl)) (hcK : (L + 2, oK) ∈ tl) (dK : oK.data = .cell (some (.int k tK)))
  (post : ∀ h' tk', Fr g L h' m →
    News g L h' ((lf, listOf (intArr (feesK qs k [⟨1 - p0.length, p0, 0⟩, ⟨1 - p1.length, p1, 1⟩, ⟨1 - p2.length, p2, 2⟩, ⟨1 - p3.length, p3, 3⟩]) tf) ef) :: (lq, listOf (intArr qs us) e2) :: tl) → Q .next { s with heap := h', toks := tk' }) :
    wpAny (model Prg w) (callerA.deeper (lawEnv L fa cd)) (exec (nth 7 lawB) (lawEnv L fa cd)) Q E s := by
  refine of_if (st := (nth 7 lawB)) (fun st => wpAny (model Prg w) (callerA.deeper (lawEnv L fa cd)) (exec st (lawEnv L fa cd)) Q E s) rfl ?_
  try dsimp only
  unfold lawEnv
  refine of_defS (st := lawF) (fun sc => wpAny (model Prg w) (callerA.deeper (envOfC (Str.ofString "law") sc L fa cd)) (exec _ (envOfC (Str.ofString "law") sc L fa cd)) Q E s) rfl ?_
  try dsimp only
  have hkst := has_eq (m := m) (ps := [(Str.ofString "prices", Value.ref lq), (Str.ofString "texts", .ref lt), (Str.ofString "fees", .ref lf)]) hm
  rw [hkst] at F
  dsimp only [kstB] at F
  generalize hff : feesK qs k [⟨1 - p0.length, p0, 0⟩, ⟨1 - p1.length, p1, 1⟩, ⟨1 - p2.length, p2, 2⟩, ⟨1 - p3.length, p3, 3⟩] = ff at *
  ktr_unf
  k_dflt (refine LCg.ListComp_U (F₀ := F) (by with_unfolding_all rfl) (by decide) (by rfl) (by decide) (by rfl) ?_)
  try dsimp only
  ktr_unf
  obtain ⟨N1, hN1⟩ : ∃ N1, N1 = (lf, listOf (intArr ff tf) ef) :: (lt, listOf #[PV false p0 t0, PV false p1 t1, PV false p2 t2, PV false p3 t3] e1) :: (lq, listOf (intArr qs us) e2) :: tl := ⟨_, rfl⟩
  rw [← hN1] at N
  have hT1 : (lt, listOf #[PV false p0 t0, PV false p1 t1, PV false p2 t2, PV false p3 t3] e1) ∈ N1 := by rw [hN1]; exact .tail _ (.head _)
  have hpq : ∀ j, j < 4 → ∃ p t, p ∈ allRows ∧ p = [p0, p1, p2, p3][j]! ∧ (#[PV false p0 t0, PV false p1 t1, PV false p2 t2, PV false p3 t3] : Array Value)[j]? = some (PV false p t) := by
    intro j hj
    match j, hj with
    | 0, _ => exact ⟨p0, t0, hp0, rfl, rfl⟩
    | 1, _ => exact ⟨p1, t1, hp1, rfl, rfl⟩
    | 2, _ => exact ⟨p2, t2, hp2, rfl, rfl⟩
    | 3, _ => exact ⟨p3, t3, hp3, rfl, rfl⟩
  refine LCg.CompSrc.ledger (news := N1) (k := e1) (its := #[PV false p0 t0, PV false p1 t1, PV false p2 t2, PV false p3 t3]) rfl F N hT1 (by rw [sizeLine_eq]; exact Nat.le_of_ble_eq_true rfl) (fun g' => rest_inv (fun i ys nx => nx = N1 ∧ ys.length = i ∧ ∀ j, j < i → ∃ v, ys[j]? = some v ∧ ∃ t, v = PV true [p0, p1, p2, p3][j]! t) ?turn ?fin _ 0 [] _ (Nat.zero_add _) ⟨rfl, rfl, fun _ h => absurd h (Nat.not_lt_zero _)⟩)
  case turn =>
    clear post
    rintro i ys nx v I oI C oC D2 m₂ h tk E' hi hP ⟨hnx, hyl, hys⟩ hoC hm F6 N6 off ne
    obtain ⟨pp, tt, hpp, hpe, hpv⟩ := hpq i hi
    rw [hpv] at hP
    have hv := Option.some.inj hP
    subst hv
    clear F N
    unfold PV at hm
    dsimp only at hm
    ktr_unf
    refine getMethod_builtin (T := "str") (typeIs_str _ _ _) F.plainAttrs_str F.slot_str_encode F.type_str_encode (fun a h => nomatch h) ?_
    try dsimp only
    ktr_unf
    refine enc_pv (p := pp) (t := tt) hpp (fun t' k' => ?_)
    try dsimp only
    refine LCg.CompEnd.intro F6 N6 nx (fun q hq => hq) off (.inr ⟨_, (by rw [hnx]; exact hT1), rfl, _, rfl⟩) ⟨hnx, (by rw [List.length_append, hyl]; rfl), fun j hj => ?_⟩
    by_cases hji : j < i
    · rw [List.getElem?_append_left (by omega)]
      exact hys j hji
    · have hje : j = ys.length := by omega
      refine ⟨_, by rw [hje, List.getElem?_append_right (Nat.le_refl _), Nat.sub_self]; rfl, t', ?_⟩
      rw [hje, hyl, ← hpe]
  case fin =>
    rintro ys nx ⟨hnx, hyl, hys⟩
    intro D7 h7 tk7 F7 N7 o7
    obtain ⟨a, b, c, d, rfl, ⟨u0, rfl⟩, ⟨u1, rfl⟩, ⟨u2, rfl⟩, ⟨u3, rfl⟩⟩ := four hyl hys
    rw [hnx, hN1] at N7
    clear F N
    try dsimp only
    ktr_unf
    have N8 : News g L h7 ((D7, listOf #[PV true p0 u0, PV true p1 u1, PV true p2 u2, PV true p3 u3] 4) :: (lq, listOf (intArr qs us) e2) :: (lf, listOf (intArr ff tf) ef) :: tl) := by
      intro q hq
      simp only [List.mem_cons] at hq
      rcases hq with h | h | h | h
      · rw [h]; exact N7 _ (.head _)
      · rw [h]; exact N7 _ (.tail _ (.tail _ (.tail _ (.head _))))
      · rw [h]; exact N7 _ (.tail _ (.head _))
      · exact N7 _ (.tail _ (.tail _ (.tail _ (.tail _ h))))
    refine fees_ok hp0 hp1 hp2 hp3 hq hk1 hk3 mean mg mb _ _ _ _ _ _ _ _ [] callerA base g L _ _ _ _ B F7 X N8 T (by rfl) (by decide +kernel) (by decide +kernel) ?_
    intro h2 tk2 l2 e5 ts5 F2 N2 hlt
    rw [hff] at N2
    try dsimp only
    ktr_unf
    rename Fr _ _ _ _ => F9
    rename News _ _ _ _ => N9
    refine list_ne (r := true) (N9 _ (.head _)).1 (N9 _ (.tail _ (.tail _ (.tail _ (.head _))))).1 (eql_ints ff ts5 tf) (K := fun _ => True) (fun _ _ => trivial) (by ktr_units) (by rw [intArr_size, intArr_size]) ?_
    try dsimp only
    ktr_unf
    refine post _ _ (fr_same (fun z => (congrFun hkst z).symm) F9) (fun q hq => ?_)
    simp only [List.mem_cons] at hq
    rcases hq with h | h | h
    · rw [h]; exact N9 _ (.tail _ (.tail _ (.tail _ (.head _))))
    · rw [h]; exact N9 _ (.tail _ (.tail _ (.head _)))
    · exact N9 _ (.tail _ (.tail _ (.tail _ (.tail _ h))))
end
theorem reset50 {M : Model} {A : Around} {E : Value → Shared → Prop} {s : Shared} {env : Env} {Q : Flow → Shared → Prop} (h : Q .next s) : wpAny M A (execs [] env) Q E s := by
  w_top off
  walk1
  w_top off
  exact h
/-! S8 -/
section
open PySem PySem.W PyProof.Rows PySem.Calls
set_option Elab.async false
set_option maxRecDepth 100000
set_option maxHeartbeats 8000000
set_option linter.unusedVariables false
theorem fill38 : Challenge.rw_op0038_01 = Challenge.rw_op0038_01 ∧ hd.heap_39 = hd.heap_39 := by
  k_fill
  exact ⟨rfl, rfl⟩
local macro_rules | `(tactic| tb_start) => `(tactic| first | (show wpAny _ _ (storeName _ (Str.ofString "sizes") _) _ _ _) | (show wpAny _ _ (binaryOp Operator.Add (Value.ref _) (Value.ref _)) _ _ _))

/-- how many there are, as the law builds it -/
noncomputable def dblL : Nat → List Int
  | 0 => [0]
  | n + 1 => dblL n ++ (dblL n).map (· + 1)
theorem dblL_len : ∀ n, (dblL n).length = 2 ^ n
  | 0 => rfl
  | n + 1 => by rw [dblL, List.length_append, List.length_map, dblL_len n, Nat.pow_succ]; omega
theorem law8 {w : World} {L fa sl : Addr} {cd : Value} {tl : List (Addr × Obj)} {m mg mb : Str → Option Value} {mean : ExcName → Option Value} {base g : Heap} {s : Shared} {Q : Flow → Shared → Prop} {E : Value → Shared → Prop}
  (B : Below callerA base [] g) (X : (hd.heap_39 w.params).In g) (T : Top topProg looseT mean mg mb g) {oZ : Obj} {v₀ : Option Value}
  (F : Fr g L s.heap m) (N : News g L s.heap ((L + 3, oZ) :: tl)) (dZ : oZ.data = .cell v₀) (off : ∀ q ∈ tl, q.1 ≠ L + 3)
  (post : ∀ h' tk' oZ' lS ts, oZ'.data = .cell (some (.ref lS)) → Fr g L h' m → News g L h' ((L + 3, oZ') :: (lS, listOf (intArr [0] ts) 0) :: tl) → (∀ q ∈ (L + 3, oZ) :: tl, q.1 < lS) → Q .next { s with heap := h', toks := tk' }) :
    wpAny (model Prg w) (callerA.deeper (lawEnv L fa cd)) (exec (nth 8 lawB) (lawEnv L fa cd)) Q E s := by
  refine of_assign (st := (nth 8 lawB)) (fun st => wpAny (model Prg w) (callerA.deeper (lawEnv L fa cd)) (exec st (lawEnv L fa cd)) Q E s) rfl ?_
  try dsimp only
  unfold lawEnv
  refine of_defS (st := lawF) (fun sc => wpAny (model Prg w) (callerA.deeper (envOfC (Str.ofString "law") sc L fa cd)) (exec _ (envOfC (Str.ofString "law") sc L fa cd)) Q E s) rfl ?_
  try dsimp only
  ktr_unf
  rename Fr _ _ _ _ => F5
  rename News _ _ _ _ => N5
  rename_i D5 h5 l5
  have N6 : News g L h5 ((L + 3, oZ) :: (D5, listOf (intArr [0] fun _ => s.toks) 0) :: tl) := by
    intro q hq
    simp only [List.mem_cons] at hq
    rcases hq with h | h | h
    · rw [h]; exact N5 _ (.tail _ (.head _))
    · rw [h]; exact N5 _ (.head _)
    · exact N5 _ (.tail _ (.tail _ h))
  refine store_cell (rest := (D5, listOf (intArr [0] fun _ => s.toks) 0) :: tl) (by rfl) (by rfl) (by rfl) F5 N6 dZ ?_ (fun h10 o10 d10 F10 N10 => ?_)
  · intro q hq
    rcases List.mem_cons.mp hq with h | h
    · rw [h]; exact (Nat.ne_of_lt l5.1).symm
    · exact off q h
  · exact post _ _ o10 D5 _ d10 F10 N10 (all_lt l5)
theorem law9 {w : World} {L fa sl : Addr} {cd : Value} {tl : List (Addr × Obj)} {m mg mb : Str → Option Value} {mean : ExcName → Option Value} {base g : Heap} {s : Shared} {Q : Flow → Shared → Prop} {E : Value → Shared → Prop}
  (B : Below callerA base [] g) (X : (hd.heap_39 w.params).In g) (T : Top topProg looseT mean mg mb g) {oZ oW : Obj} {v₀ : Option Value} {lS : Addr} {ts : Nat → Tok} {e : Nat} (hE : PassesOwn (model Prg w) (callerA.deeper (lawEnv L fa cd)) (lawEnv L fa cd) E)
  (F : Fr g L s.heap m) (N : News g L s.heap ((L + 3, oZ) :: (L + 4, oW) :: (lS, listOf (intArr [0] ts) e) :: tl)) (dZ : oZ.data = .cell (some (.ref lS))) (dW : oW.data = .cell v₀) (off : ∀ q ∈ tl, q.1 ≠ L + 3 ∧ q.1 ≠ L + 4) (hS3 : @Ne Nat lS (L + 3)) (hS4 : @Ne Nat lS (L + 4))
  (post : ∀ h' tk' oZ' oW' v' lS' ts' e', oZ'.data = .cell (some (.ref lS')) → oW'.data = .cell v' → Fr g L h' m → News g L h' ((L + 3, oZ') :: (L + 4, oW') :: (lS', listOf (intArr (dblL 4) ts') e') :: tl) → Q .next { s with heap := h', toks := tk' }) :
    wpAny (model Prg w) (callerA.deeper (lawEnv L fa cd)) (exec (nth 9 lawB) (lawEnv L fa cd)) Q E s := by
  refine of_forS (st := (nth 9 lawB)) (fun st => wpAny (model Prg w) (callerA.deeper (lawEnv L fa cd)) (exec st (lawEnv L fa cd)) Q E s) rfl ?_
  try dsimp only
  revert hE
  unfold lawEnv
  refine of_defS (st := lawF) (fun sc => PassesOwn (model Prg w) (callerA.deeper (envOfC (Str.ofString "law") sc L fa cd)) (envOfC (Str.ofString "law") sc L fa cd) E → wpAny (model Prg w) (callerA.deeper (envOfC (Str.ofString "law") sc L fa cd)) (exec _ (envOfC (Str.ofString "law") sc L fa cd)) Q E s) rfl ?_
  intro hE
  try dsimp only
  with_unfolding_all refine' For_turns F ?_ ?k3 ?k4
  case k3 => intro _; with_unfolding_all rfl
  case k4 => exact hE
  try dsimp only
  ktr_unf
  rename IsRange _ _ _ _ _ _ _ _ => R5
  rename Fr _ _ _ _ => F5
  rename News _ _ _ _ => N5
  refine turns_range (n := 4) (m₀ := m) (news := (L + 3, oZ) :: (L + 4, oW) :: (lS, listOf (intArr [0] ts) e) :: tl)
    (fun i m' nx => m = m' ∧ ∃ oZ' oW' v' lS' ts' e', nx = (L + 3, oZ') :: (L + 4, oW') :: (lS', listOf (intArr (dblL i) ts') e') :: tl ∧ oZ'.data = .cell (some (.ref lS')) ∧ oW'.data = .cell v' ∧ @Ne Nat lS' (L + 3) ∧ @Ne Nat lS' (L + 4)) rfl R5 (by decide) (by decide) F5 N5
    ⟨rfl, oZ, oW, v₀, lS, ts, e, rfl, dZ, dW, hS3, hS4⟩ ?turn ?done
  case done =>
    rintro m' nx h tk ⟨rfl, oZ', oW', v', lS', ts', e', rfl, dZ', dW', -, -⟩ F6 N6
    exact post _ _ oZ' oW' v' lS' ts' e' dZ' dW' F6 N6
  case turn =>
    clear post N5 F5 R5 hE
    rintro i I o t m' nx h tk hi hoc hof ⟨rfl, oZ', oW', v', lS', ts', e', rfl, dZ', dW', h3, h4⟩ F6 N6
    have hI3 : L + 3 ≠ I := hof _ (.head _)
    have hI4 : L + 4 ≠ I := hof _ (.tail _ (.head _))
    have hIS : lS' ≠ I := hof _ (.tail _ (.tail _ (.head _)))
    have N7 : News g L h ((L + 4, oW') :: (I, o) :: (L + 3, oZ') :: (lS', listOf (intArr (dblL i) ts') e') :: tl) := by
      intro q hq
      simp only [List.mem_cons] at hq
      rcases hq with h | h | h | h | h
      · rw [h]; exact N6 _ (.tail _ (.tail _ (.head _)))
      · rw [h]; exact N6 _ (.head _)
      · rw [h]; exact N6 _ (.tail _ (.head _))
      · rw [h]; exact N6 _ (.tail _ (.tail _ (.tail _ (.head _))))
      · exact N6 _ (.tail _ (.tail _ (.tail _ (.tail _ h))))
    refine assign_cell (by rfl) (by rfl) (by rfl) F6 N7 dW' ?_ (fun h2 oW2 dW2 F2 N2 => ?_)
    · intro q hq
      simp only [List.mem_cons] at hq
      rcases hq with h | h | h | h
      · rw [h]; exact hI4.symm
      · rw [h]; exact (show @Ne Nat (L + 3) (L + 4) by omega)
      · rw [h]; exact h4
      · exact (off q h).2
    obtain ⟨N0, hN0⟩ : ∃ N0, N0 = (L + 4, oW2) :: (I, o) :: (L + 3, oZ') :: (lS', listOf (intArr (dblL i) ts') e') :: tl := ⟨_, rfl⟩
    rw [← hN0] at N2
    have gZ : (L + 3, oZ') ∈ N0 := by rw [hN0]; exact .tail _ (.tail _ (.head _))
    have gS : (lS', listOf (intArr (dblL i) ts') e') ∈ N0 := by rw [hN0]; exact .tail _ (.tail _ (.tail _ (.head _)))
    have hplen : (dblL i).length ≤ 16 := by
      rw [dblL_len]
      exact Nat.le_trans (Nat.pow_le_pow_right (by decide) (show i ≤ 4 by omega)) (by decide)
    clear N6 N7 F6
    try dsimp only
    change Fr g L h2 m at F2
    change News g L h2 N0 at N2
    ktr_unf
    k_dflt (refine LCg.ListComp_U (F₀ := F2) (by with_unfolding_all rfl) (by decide) (by rfl) (by decide) (by rfl) ?_)
    try dsimp only
    ktr_unf
    refine LCg.CompSrc.ledger (news := N0) (k := e') (its := intArr (dblL i) ts') rfl F2 N2 gS (by rw [intArr_size, sizeLine_eq]; omega) (fun g' => rest_inv (fun j ys nx => nx = N0 ∧ ∃ us, ys.toArray = intArr (((dblL i).take j).map (· + 1)) us) ?turn2 ?fin2 _ 0 [] _ (Nat.zero_add _) ⟨rfl, fun _ => 0, rfl⟩)
    case turn2 =>
      rintro j ys nx v I2 oI2 C2 oC2 D2 m₂ h3 tk3 E3 hj hP ⟨hnx, us, hys⟩ hoC hm F8 N8 off2 ne2
      rw [intArr_size] at hj
      rw [intArr_get hj] at hP
      have hv := Option.some.inj hP
      subst hv
      clear F2 N2
      ktr_unf
      try dsimp only
      refine LCg.CompEnd.intro F8 N8 nx (fun q hq => hq) off2 (.inr ⟨_, (by rw [hnx]; exact gS), rfl, _, rfl⟩) ⟨hnx, ?_⟩
      rw [List.take_succ_eq_append_getElem hj, List.map_append]
      have : (dblL i).getD j 0 = (dblL i)[j] := by rw [List.getD_eq_getElem?_getD, List.getElem?_eq_getElem hj]; rfl
      rw [this]
      exact ⟨_, intArr_snoc hys⟩
    case fin2 =>
      rintro ys nx ⟨hnx, us, hys⟩
      intro D7 h7 tk7 F7 N7 o7
      rw [intArr_size, List.take_length] at hys
      have elst : LCg.lst ys = listOf (intArr ((dblL i).map (· + 1)) us) ys.length := by
        show listOf ys.toArray _ = _
        rw [hys]
      rw [elst, hnx] at N7
      clear F2 N2
      try dsimp only
      ktr_unf
      refine kmk_add_ints (vs := (intArr (dblL i) ts').toList) (ws := (intArr ((dblL i).map (· + 1)) us).toList) F7 N7 (by rw [Array.toArray_toList]; exact ⟨_, N7.get (.tail _ gS), rfl, _, rfl⟩) (by rw [Array.toArray_toList]; exact ⟨_, N7.get (.head _), rfl, _, rfl⟩) (of_ints _ _) (of_ints _ _) (fun D8 ws h8 F8 N8 l8 hi8 => ?_) ?_
      rotate_left
      · rw [sizeLine_eq, List.length_map]; omega
      obtain ⟨t8, e8⟩ := ints_of hi8
      rw [e8] at N8
      try dsimp only
      ktr_unf
      have hd3 : L + 3 < D8 := l8 _ (.tail _ gZ)
      have hd4 : L + 4 < D8 := l8 (L + 4, oW2) (.tail _ (by rw [hN0]; exact .head _))
      have hdI : I < D8 := l8 (I, o) (.tail _ (by rw [hN0]; exact .tail _ (.head _)))
      have N9 : News g L h8 ((L + 3, oZ') :: (D8, listOf (intArr (dblL (i + 1)) t8) 0) :: (L + 4, oW2) :: (I, o) :: tl) := by
        intro q hq
        subst hN0
        simp only [List.mem_cons] at hq
        rcases hq with h | h | h | h | h
        · rw [h]; exact N8 _ (.tail _ (.tail _ gZ))
        · rw [h]; exact N8 _ (.head _)
        · rw [h]; exact N8 _ (.tail _ (.tail _ (.head _)))
        · rw [h]; exact N8 _ (.tail _ (.tail _ (.tail _ (.head _))))
        · exact N8 _ (.tail _ (.tail _ (.tail _ (.tail _ (.tail _ (.tail _ h))))))
      refine store_cell (rest := (D8, listOf (intArr (dblL (i + 1)) t8) 0) :: (L + 4, oW2) :: (I, o) :: tl) (by rfl) (by rfl) (by rfl) F8 N9 dZ' ?_ (fun h10 o10 d10 F10 N10 => ?_)
      · intro q hq
        simp only [List.mem_cons] at hq
        rcases hq with h | h | h | h
        · rw [h]; exact (Nat.ne_of_lt hd3).symm
        · rw [h]; exact (show @Ne Nat (L + 4) (L + 3) by omega)
        · rw [h]; exact hI3.symm
        · exact (off q h).1
      · try dsimp only
        ktr_unf
        refine turn_next ((L + 3, o10) :: (L + 4, oW2) :: (D8, listOf (intArr (dblL (i + 1)) t8) 0) :: tl) F10 ?_ ?_ ⟨rfl, o10, oW2, _, D8, t8, 0, rfl, d10, dW2, (Nat.ne_of_lt hd3).symm, (Nat.ne_of_lt hd4).symm⟩
        · intro q hq
          simp only [List.mem_cons] at hq
          rcases hq with h | h | h | h | h
          · rw [h]; exact N10 _ (.tail _ (.tail _ (.tail _ (.head _))))
          · rw [h]; exact N10 _ (.head _)
          · rw [h]; exact N10 _ (.tail _ (.tail _ (.head _)))
          · rw [h]; exact N10 _ (.tail _ (.head _))
          · exact N10 _ (.tail _ (.tail _ (.tail _ (.tail _ h))))
        · intro q hq
          refine .inr ?_
          simp only [List.mem_cons] at hq
          rcases hq with h | h | h | h
          · rw [h]; exact hI3
          · rw [h]; exact hI4
          · rw [h]; exact (Nat.ne_of_lt hdI).symm
          · exact hof q (.tail _ (.tail _ (.tail _ h)))
end
theorem reset51 {M : Model} {A : Around} {E : Value → Shared → Prop} {s : Shared} {env : Env} {Q : Flow → Shared → Prop} (h : Q .next s) : wpAny M A (execs [] env) Q E s := by
  w_top off
  walk1
  w_top off
  exact h
/-! S9 -/
section
open PySem PySem.W PyProof.Rows PySem.Calls
set_option Elab.async false
set_option maxRecDepth 100000
set_option maxHeartbeats 8000000
set_option linter.unusedVariables false
theorem fill39 : Challenge.rw_op0038_01 = Challenge.rw_op0038_01 ∧ hd.heap_39 = hd.heap_39 := by
  k_fill
  exact ⟨rfl, rfl⟩
local macro_rules | `(tactic| tb_start) => `(tactic| first | (show wpAny _ _ (storeName _ (Str.ofString "lines") _) _ _ _) | (show wpAny _ _ (call (Value.ref _) _) _ _ _))

theorem ne_cell {h₀ h : Heap} {L : Addr} {nx : List (Addr × Obj)} {b c : Addr} {ob o : Obj} {v : Option Value} (N : News h₀ L h nx) (hb : (b, ob) ∈ nx) (hc : (c, o) ∈ nx) (hd : o.data = .cell v) (hn : ∀ z, ob.data ≠ .cell z) : b ≠ c := by
  intro e
  have h1 := (N _ hb).1
  have h2 := (N _ hc).1
  dsimp only at h1 h2
  rw [e, h2] at h1
  rw [← Option.some.inj h1] at hn
  exact hn _ hd
/-- a cell is stored, the ledger as it stands -/
theorem store_cellF {prog : Program} {w : World} {A : Around} {E : Value → Shared → Prop} {s : Shared} {env : Env} {h₀ : Heap} {m : Str → Option Value} {x : Str} {c : Addr} {o : Obj} {v₀ : Option Value} {v : Value} {nx : List (Addr × Obj)} {Q : Unit → Shared → Prop}
    (hk : env.scope.kind = .function) (hx : env.kindOf x = some .cell) (hc : env.cells.lookup x = some c) (F : Fr h₀ env.locals s.heap m) (N : News h₀ env.locals s.heap nx) (hm : (c, o) ∈ nx) (hd : o.data = .cell v₀)
    (h : ∀ h' o', o'.data = .cell (some v) → Fr h₀ env.locals h' m → News h₀ env.locals h' ((c, o') :: nx.filter fun q => decide (q.1 ≠ c)) → (∀ b ob, (b, ob) ∈ nx → b ≠ c → (b, ob) ∈ nx.filter fun q => decide (q.1 ≠ c)) → Q () { s with heap := h' }) :
    wpAny (model prog w) A (storeName env x v) Q E s := by
  refine store_cell (o := o) (rest := nx.filter fun q => decide (q.1 ≠ c)) hk hx hc F (fun p hp => ?_) hd (fun p hp => of_decide_eq_true (List.mem_filter.mp hp).2) (fun h' o' d' F' N' => h h' o' d' F' N' fun b ob hb hn => List.mem_filter.mpr ⟨hb, decide_eq_true hn⟩)
  rcases List.mem_cons.mp hp with rfl | hp
  · exact N _ hm
  · exact N _ (List.mem_filter.mp hp).1
theorem law10 {w : World} {L fa sl : Addr} {cd : Value} {tl : List (Addr × Obj)} {m mg mb : Str → Option Value} {mean : ExcName → Option Value} {base g : Heap} {s : Shared} {Q : Flow → Shared → Prop} {E : Value → Shared → Prop}
  (B : Below callerA base [] g) (X : (hd.heap_39 w.params).In g) (T : Top topProg looseT mean mg mb g) {lr lq : Addr} {er eq : Nat} {rr : List SIt} {qs : List Int} {us : Nat → Tok} {oN : Obj} {v₀ : Option Value} (hq : qs.length = 8) (hrl : rr.length = 4) (hrq : ∀ x ∈ rr, x.q ∈ allRows)
  (F : Fr g L s.heap m) (hm : ∀ p ∈ [(Str.ofString "rows", Value.ref lr), (Str.ofString "prices", .ref lq)], m p.1 = some p.2) (N : News g L s.heap tl) (hcN : (L + 5, oN) ∈ tl) (dN : oN.data = .cell v₀) (hR : (lr, listOf (svals rr) er) ∈ tl) (hro : ∀ x ∈ rr, (x.a, x.o) ∈ tl) (hqm : (lq, listOf (intArr qs us) eq) ∈ tl)
  (post : ∀ h' tk' oN' lL ys e tl', oN'.data = .cell (some (.ref lL)) → Fr g L h' m → News g L h' tl' → (L + 5, oN') ∈ tl' → (lL, listOf (lvals ys) e) ∈ tl' → (∀ q ∈ tl, q.1 ≠ L + 5 → q ∈ tl') → (∀ y ∈ ys, (y.a, y.o) ∈ tl') → ys.length ≤ 12 → (ys.map fun y => (y.c, y.u)) = (rowsF qs (rr.map SIt.q) 4).2 → Q .next { s with heap := h', toks := tk' }) :
    wpAny (model Prg w) (callerA.deeper (lawEnv L fa cd)) (exec (nth 10 lawB) (lawEnv L fa cd)) Q E s := by
  refine of_assign (st := (nth 10 lawB)) (fun st => wpAny (model Prg w) (callerA.deeper (lawEnv L fa cd)) (exec st (lawEnv L fa cd)) Q E s) rfl ?_
  try dsimp only
  unfold lawEnv
  refine of_defS (st := lawF) (fun sc => wpAny (model Prg w) (callerA.deeper (envOfC (Str.ofString "law") sc L fa cd)) (exec _ (envOfC (Str.ofString "law") sc L fa cd)) Q E s) rfl ?_
  try dsimp only
  have hkst := has_eq (m := m) (ps := [(Str.ofString "rows", Value.ref lr), (Str.ofString "prices", .ref lq)]) hm
  rw [hkst] at F
  dsimp only [kstB] at F
  ktr_unf
  refine lines_ok hq hrl hrq mean mg mb _ _ _ _ _ _ _ _ [] callerA base g L _ _ _ _ B F X N hR hro hqm T (by rfl) (by decide +kernel) (by decide +kernel) ?_
  intro h2 tk2 lL ys e tl2 F2 N2 hsub hys hyl hye
  try dsimp only
  ktr_unf
  have hcN2 : (L + 5, oN) ∈ (lL, listOf (lvals ys) e) :: tl2 := .tail _ (hsub _ hcN)
  refine store_cellF (by rfl) (by rfl) (by rfl) F2 N2 hcN2 dN (fun h3 o3 d3 F3 N3 kp => ?_)
  refine post _ _ o3 lL ys e _ d3 (fr_same (fun z => (congrFun hkst z).symm) F3) N3 (.head _) (.tail _ (kp _ _ (.head _) ?_)) (fun q hq hn => .tail _ (kp q.1 q.2 (.tail _ (hsub q hq)) hn)) (fun y hy => .tail _ (kp _ _ (.tail _ (hys y hy)) ?_)) hyl hye
  · exact ne_cell N2 (.head _) hcN2 dN (fun z h => nomatch h)
  · exact ne_cell N2 (.tail _ (hys y hy)) hcN2 dN (fun z h => nomatch h)
end
theorem reset52 {M : Model} {A : Around} {E : Value → Shared → Prop} {s : Shared} {env : Env} {Q : Flow → Shared → Prop} (h : Q .next s) : wpAny M A (execs [] env) Q E s := by
  w_top off
  walk1
  w_top off
  exact h
/-! S10 -/
section
open PySem PySem.W PyProof.Rows PySem.Calls
set_option Elab.async false
set_option maxRecDepth 100000
set_option maxHeartbeats 8000000
set_option linter.unusedVariables false
theorem fill40 : Challenge.rw_op0038_01 = Challenge.rw_op0038_01 ∧ hd.heap_39 = hd.heap_39 := by
  k_fill
  exact ⟨rfl, rfl⟩
local macro_rules | `(tactic| tb_start) => `(tactic| first | (show wpAny _ _ (storeName _ (Str.ofString "costs") _) _ _ _) | (show wpAny _ _ (call (Value.ref _) _) _ _ _) | (show LCp.SrcLP _ _ _ _ _ _ _ _ _ _ _ _ _ _ _) | (show wpAny _ _ (call (Value.builtin "sum") _) _ _ _) | (show wpAny _ _ (subscriptTail (Expr.Name _ _) _ _ _) _ _ _) | (show wpAny _ _ (binaryOp Operator.Mult (Value.int _ _) (Value.int (ite _ _ _) _)) _ _ _))

theorem bitAnd_small : ∀ i, i < 16 → ∀ u, u < 16 → Builtin.bitAnd (0 + ((i : Nat) : Int)) ((u : Nat) : Int) = ((i &&& u : Nat) : Int) := by decide +kernel
theorem and_lt16 : ∀ i, i < 16 → ∀ u, u < 16 → (i &&& u) < 16 := by decide +kernel
theorem dbl_pop : dblL 4 = (List.range 16).map fun x => ((popN x : Nat) : Int) := by decide +kernel
theorem dbl_get {x : Nat} (h : x < 16) (ts : Nat → Tok) : (intArr (dblL 4) ts)[x]? = some (.int ((popN x : Nat) : Int) (ts x)) := by
  rw [intArr_get (by rw [dblL_len]; exact h), dbl_pop, List.getD_eq_getElem?_getD, List.getElem?_map, List.getElem?_range h]
  rfl
theorem law11 {w : World} {L fa sl : Addr} {cd : Value} {tl : List (Addr × Obj)} {m mg mb : Str → Option Value} {mean : ExcName → Option Value} {base g : Heap} {s : Shared} {Q : Flow → Shared → Prop} {E : Value → Shared → Prop}
  (B : Below callerA base [] g) (X : (hd.heap_39 w.params).In g) (T : Top topProg looseT mean mg mb g) {lL lS : Addr} {eL eS : Nat} {ys : List LIt} {tS : Nat → Tok} {k : Int} {tK : Tok} {oK oZ oN oC : Obj} {v₀ : Option Value} (hyl : ys.length ≤ 12) (hyu : ∀ y ∈ ys, 0 ≤ y.u ∧ y.u < 16) (hyc : ∀ y ∈ ys, -2 ^ 40 < y.c ∧ y.c < 2 ^ 40) (hk1 : 1 ≤ k) (hk3 : k ≤ 3)
  (F : Fr g L s.heap m) (N : News g L s.heap tl) (hcK : (L + 2, oK) ∈ tl) (dK : oK.data = .cell (some (.int k tK))) (hcZ : (L + 3, oZ) ∈ tl) (dZ : oZ.data = .cell (some (.ref lS))) (hcN : (L + 5, oN) ∈ tl) (dN : oN.data = .cell (some (.ref lL))) (hcC : (L + 6, oC) ∈ tl) (dC : oC.data = .cell v₀)
  (hS : (lS, listOf (intArr (dblL 4) tS) eS) ∈ tl) (hL : (lL, listOf (lvals ys) eL) ∈ tl) (hyo : ∀ y ∈ ys, (y.a, y.o) ∈ tl)
  (post : ∀ h' tk' oC' lC tC e tl', oC'.data = .cell (some (.ref lC)) → Fr g L h' m → News g L h' tl' → (L + 6, oC') ∈ tl' → (lC, listOf (intArr ((List.range 16).map fun i => costK k (ys.map fun y => (y.c, y.u)) i) tC) e) ∈ tl' → (∀ q ∈ tl, q.1 ≠ L + 6 → q ∈ tl') → Q .next { s with heap := h', toks := tk' }) :
    wpAny (model Prg w) (callerA.deeper (lawEnv L fa cd)) (exec (nth 11 lawB) (lawEnv L fa cd)) Q E s := by
  refine of_assign (st := (nth 11 lawB)) (fun st => wpAny (model Prg w) (callerA.deeper (lawEnv L fa cd)) (exec st (lawEnv L fa cd)) Q E s) rfl ?_
  try dsimp only
  unfold lawEnv
  refine of_defS (st := lawF) (fun sc => wpAny (model Prg w) (callerA.deeper (envOfC (Str.ofString "law") sc L fa cd)) (exec _ (envOfC (Str.ofString "law") sc L fa cd)) Q E s) rfl ?_
  try dsimp only
  walk1
  k_dflt (refine ListComp_cell (F₀ := F) (by with_unfolding_all rfl) (fun _ _ => by rfl) (fun _ => by rfl) (by rfl) (by decide) (by rfl) ?_)
  try dsimp only
  ktr_unf
  rename IsRange _ _ _ _ _ _ _ _ => R5
  rename Fr _ _ _ _ => F5
  rename News _ _ _ _ => N5
  refine cell_range (n := 16) (news := tl) (fun i zs nx => nx = tl ∧ ∃ us, zs.toArray = intArr ((List.range i).map fun j => costK k (ys.map fun y => (y.c, y.u)) j) us) (by rfl) R5 (by decide) (by decide) (by rw [sizeLine_eq]; decide) F5 N5 ⟨rfl, fun _ => 0, rfl⟩ ?turn ?fin
  case fin =>
    rintro g7 zs nx ⟨rfl, us, hzs⟩
    intro D7 h7 tk7 F7 N7 o7
    have elst : LCg.lst zs = listOf (intArr ((List.range 16).map fun j => costK k (ys.map fun y => (y.c, y.u)) j) us) zs.length := by
      show listOf zs.toArray _ = _
      rw [hzs]
    rw [elst] at N7
    try dsimp only
    ktr_unf
    have hcC2 : (L + 6, oC) ∈ (D7, listOf (intArr ((List.range 16).map fun j => costK k (ys.map fun y => (y.c, y.u)) j) us) zs.length) :: nx := .tail _ hcC
    refine store_cellF (by rfl) (by rfl) (by rfl) F7 N7 hcC2 dC (fun h3 o3 d3 F3 N3 kp => ?_)
    refine post _ _ o3 D7 us zs.length _ d3 F3 N3 (.head _) (.tail _ (kp _ _ (.head _) ?_)) (fun q hq hn => .tail _ (kp q.1 q.2 (.tail _ hq) hn))
    exact ne_cell N7 (.head _) hcC2 dC (fun z h => nomatch h)
  case turn =>
    clear post
    rintro g1 i zs nx v I oI C oC2 X2 oX D9 h tk E' hi ⟨t, rfl⟩ ⟨rfl, us, hzs⟩ - hoX F6 N6 off ne
    obtain ⟨N1, hN1⟩ : ∃ N1, N1 = (I, oI) :: (C, oC2) :: (X2, oX) :: (D9, LCg.lst zs) :: nx := ⟨_, rfl⟩
    rw [← hN1] at N6
    have hsub : ∀ p ∈ nx, p ∈ N1 := fun p hp => by rw [hN1]; exact .tail _ (.tail _ (.tail _ (.tail _ hp)))
    have gX : (X2, oX) ∈ N1 := by rw [hN1]; exact .tail _ (.tail _ (.head _))
    have g1 := hsub _ hcK
    have g2 := hsub _ hcZ
    have g3 := hsub _ hcN
    have g4 := hsub _ hS
    have g5 := hsub _ hL
    have g6 := fun y hy => hsub _ (hyo y hy)
    clear F5 N5 R5 hcK hcZ hcN hS hL hcC dC
    ktr_unf
    k_dflt (refine LCp.ListComp_P (F₀ := F6) (by with_unfolding_all rfl) (by decide) (by rfl) (by decide) (by rfl) (by rfl) (by decide) ?_)
    try dsimp only
    ktr_unf
    refine LCp.SrcLP.ledger (news := N1) (k := eL) (its := lvals ys) (by rfl) F6 N6 g5 (by rw [lvals_size, sizeLine_eq]; omega) (fun g' => restP_inv (fun j ws nx2 => nx2 = N1 ∧ ∃ us2, ws.toArray = intArr ((ys.take j).map fun y => y.c * min k ((popN (i &&& y.u.toNat) : Nat) : Int)) us2) ?turn2 ?fin2 _ 0 [] N1 (Nat.zero_add _) ⟨rfl, fun _ => 0, rfl⟩)
    case turn2 =>
      rintro j ws nx2 v hj hP ⟨hnx2, us2, hws⟩
      rw [lvals_size] at hj
      have hP2 : v = .ref ys[j].a := by
        have : (lvals ys)[j]? = some (.ref ys[j].a) := by simp [lvals, List.getElem?_eq_getElem hj]
        rw [this] at hP
        exact (Option.some.inj hP).symm
      subst hP2
      have hyj := hyu ys[j] (List.getElem_mem hj)
      refine ⟨ys[j].a, ys[j].o, .int ys[j].c ys[j].t1, .int ys[j].u ys[j].t2, ys[j].n, rfl, (by rw [hnx2]; exact g6 _ (List.getElem_mem hj)), rfl, rfl, ?_⟩
      rintro I2 oI2 C2 oC3 D2 m₂ h3 tk3 E3 hoC hm1 hm2 F8 N8 off2 ne2
      subst hnx2
      clear F6 N6 hP
      obtain ⟨cc, hcc⟩ : ∃ cc : Int, ys[j].c = cc := ⟨_, rfl⟩
      rw [hcc] at hm1
      obtain ⟨uu, huu⟩ : ∃ uu : Nat, ys[j].u = (uu : Int) := ⟨ys[j].u.toNat, by omega⟩
      rw [huu] at hm2
      have hu16 : uu < 16 := by omega
      ktr_unf
      try dsimp only
      rw [bitAnd_small i hi uu hu16]
      refine sub_list (v := .int ((popN (i &&& uu) : Nat) : Int) (tS (i &&& uu))) N8 (.tail _ (.tail _ (.tail _ g4))) (by omega) (by have := and_lt16 i hi uu hu16; omega) (by rw [Int.toNat_natCast]; exact dbl_get (and_lt16 i hi uu hu16) tS) ?_ (by with_unfolding_all rfl)
      have hpp0 : (0 : Int) ≤ ((popN (i &&& uu) : Nat) : Int) := Int.natCast_nonneg _
      obtain ⟨pp, hpp⟩ : ∃ pp : Int, ((popN (i &&& uu) : Nat) : Int) = pp := ⟨_, rfl⟩
      rw [hpp]
      try dsimp only
      ktr_unf
      obtain ⟨mn, hmn⟩ : ∃ mn : Int, (if pp < k then pp else k) = mn := ⟨_, rfl⟩
      rw [hmn]
      generalize (if pp < k then tS (i &&& uu) else tK) = tmn
      have hmn0 : 0 ≤ mn ∧ mn ≤ 3 := by rw [← hmn]; rw [hpp] at hpp0; split <;> omega
      have hccb : -2 ^ 40 < cc ∧ cc < 2 ^ 40 := hcc ▸ hyc ys[j] (List.getElem_mem hj)
      refine mul_int ?_
      try dsimp only
      rename Fr _ _ _ _ => F9
      rename News _ _ _ _ => N9
      refine LCg.CompEnd.intro F9 N9 nx2 (fun q hq => hq) off2 (.inr ⟨_, g5, rfl, _, rfl⟩) ⟨rfl, ?_⟩
      have hmin : mn = min k pp := by rw [← hmn]; split <;> omega
      have hfull : cc * mn = ys[j].c * min k ((popN (i &&& ys[j].u.toNat) : Nat) : Int) := by rw [hmin, ← hpp, huu, Int.toNat_natCast, ← hcc]
      rw [hfull, List.take_succ_eq_append_getElem hj, List.map_append]
      exact ⟨_, intArr_snoc hws⟩
    case fin2 =>
      rintro ws nx2 ⟨hnx2, us2, hws⟩
      intro D3 h5 tk5 F9 N9 o9
      rw [lvals_size, List.take_length] at hws
      have elst : LCg.lst ws = listOf (intArr (ys.map fun y => y.c * min k ((popN (i &&& y.u.toNat) : Nat) : Int)) us2) ws.length := by
        show listOf ws.toArray _ = _
        rw [hws]
      rw [elst] at N9
      try dsimp only
      ktr_unf
      refine sum_are rfl F9 N9 ⟨_, N9.get (.head _), rfl, _, rfl⟩ (of_ints _ us2) (fun h9 tk9 t9 F10 N10 => ?_)
      refine ⟨h9, tk9, nx, rfl, F10, (fun q hq => N10 q (.tail _ (by rw [hnx2, hN1]; exact hq))), off, (fun _ h => nomatch h), rfl, ?_⟩
      have hc : (ys.map fun y => y.c * min k ((popN (i &&& y.u.toNat) : Nat) : Int)).sum = costK k (ys.map fun y => (y.c, y.u)) i := by
        unfold costK
        rw [List.map_map]
        rfl
      rw [hc, List.range_succ, List.map_append]
      exact ⟨_, intArr_snoc hzs⟩
end
theorem reset53 {M : Model} {A : Around} {E : Value → Shared → Prop} {s : Shared} {env : Env} {Q : Flow → Shared → Prop} (h : Q .next s) : wpAny M A (execs [] env) Q E s := by
  w_top off
  walk1
  w_top off
  exact h
/-! S11 -/
section
open PySem PySem.W PyProof.Rows PySem.Calls
set_option Elab.async false
set_option maxRecDepth 100000
set_option maxHeartbeats 8000000
set_option linter.unusedVariables false
theorem fill41 : Challenge.rw_op0038_01 = Challenge.rw_op0038_01 ∧ hd.heap_39 = hd.heap_39 := by
  k_fill
  exact ⟨rfl, rfl⟩
local macro_rules | `(tactic| tb_start) => `(tactic| first | (show wpAny _ _ (subscriptTail (Expr.Name _ _) _ _ _) _ _ _))

noncomputable def lawT : List Stmt := forB (nth 12 lawB)
theorem bit_test : ∀ i, i < 16 → ∀ who, who < 4 → ((((0 + ((i : Nat) : Int)).fdiv (2 ^ (0 + ((who : Nat) : Int)).toNat)).fmod 2 = 0) ↔ (i / 2 ^ who % 2 == 0) = true) := by decide +kernel
theorem oth_small : ∀ who, who < 4 → ∀ g ∈ othersN who, g < 16 ∧ g + 2 ^ who < 16 ∧ popN g < 4 := by decide +kernel
theorem oth0 {w : World} {L fa sl : Addr} {cd : Value} {tl : List (Addr × Obj)} {m mg mb : Str → Option Value} {mean : ExcName → Option Value} {base g : Heap} {s : Shared} {Q : Flow → Shared → Prop} {E : Value → Shared → Prop}
  (B : Below callerA base [] g) (X : (hd.heap_39 w.params).In g) (T : Top topProg looseT mean mg mb g) {who : Nat} {tW : Tok} {oW : Obj} (hw : who < 4)
  (F : Fr g L s.heap m) (N : News g L s.heap tl) (hcW : (L + 4, oW) ∈ tl) (dW : oW.data = .cell (some (.int (0 + (who : Int)) tW)))
  (post : ∀ h' tk' lO tO e, Fr g L h' (fun z => if z = Str.ofString "others" then some (.ref lO) else m z) → News g L h' ((lO, listOf (intArr ((othersN who).map fun (g : Nat) => (g : Int)) tO) e) :: tl) → (∀ q ∈ tl, q.1 ≠ lO) → Q .next { s with heap := h', toks := tk' }) :
    wpAny (model Prg w) (callerA.deeper (lawEnv L fa cd)) (exec (nth 0 lawT) (lawEnv L fa cd)) Q E s := by
  refine of_assign (st := (nth 0 lawT)) (fun st => wpAny (model Prg w) (callerA.deeper (lawEnv L fa cd)) (exec st (lawEnv L fa cd)) Q E s) rfl ?_
  try dsimp only
  unfold lawEnv
  refine of_defS (st := lawF) (fun sc => wpAny (model Prg w) (callerA.deeper (envOfC (Str.ofString "law") sc L fa cd)) (exec _ (envOfC (Str.ofString "law") sc L fa cd)) Q E s) rfl ?_
  try dsimp only
  k_dflt (refine LCt.Assign_ListComp_T (F₀ := F) (by rfl) (by with_unfolding_all rfl) (by with_unfolding_all rfl) (by decide) (by rfl) (by decide) (by rfl) (by rfl) (by rfl) ?_)
  try dsimp only
  ktr_unf
  rename IsRange _ _ _ _ _ _ _ _ => R5
  rename Fr _ _ _ _ => F5
  rename News _ _ _ _ => N5
  refine LCt.CompSrcT.range (n := 16) (news := tl) (by rfl) F5 N5 R5 (by decide) (by decide) (by rw [sizeLine_eq]; decide) (fun g' => restT_inv (fun i ys nx => nx = tl ∧ ∃ ts, ys.toArray = intArr (((List.range i).filter fun g => g / 2 ^ who % 2 == 0).map fun (g : Nat) => (g : Int)) ts) ?turn ?fin 16 0 [] tl rfl ⟨rfl, fun _ => 0, rfl⟩)
  case fin =>
    rintro zs nx ⟨rfl, ts, hys⟩
    intro D3 h7 tk7 F7 N7 o7
    have elst : LCg.lst zs = listOf (intArr ((othersN who).map fun (g : Nat) => (g : Int)) ts) zs.length := by
      show listOf zs.toArray _ = _
      rw [hys]
      rfl
    rw [elst] at N7
    exact post _ _ D3 ts _ F7 N7 (off1_all o7)
  case turn =>
    clear post N5 F5 R5
    rintro i zs nx v I oI C oC D m₂ h tk E' hi ⟨t, rfl⟩ ⟨hnx, ts, hys⟩ hoC hm F6 N6 off ne
    subst hnx
    ktr_unf
    · rename_i hc
      try dsimp only
      refine LCg.CompEnd.intro F6 N6 nx (fun p hp => hp) off trivial ⟨rfl, ?_⟩
      have hcond := (bit_test i hi who hw).mp hc
      have hf : List.filter (fun g => g / 2 ^ who % 2 == 0) [i] = [i] := List.filter_cons_of_pos (p := fun g => g / 2 ^ who % 2 == 0) hcond
      rw [List.range_succ, List.filter_append, List.map_append, hf, Int.zero_add]
      exact ⟨_, intArr_snoc hys⟩
    · rename_i hc
      try dsimp only
      refine LCg.CompEnd.intro F6 N6 nx (fun p hp => hp) off trivial ⟨rfl, ?_⟩
      have hcond : ¬ (i / 2 ^ who % 2 == 0) = true := fun h => hc ((bit_test i hi who hw).mpr h)
      have hf : List.filter (fun g => g / 2 ^ who % 2 == 0) [i] = [] := List.filter_cons_of_neg (p := fun g => g / 2 ^ who % 2 == 0) hcond
      rw [List.range_succ, List.filter_append, hf, List.append_nil]
      exact ⟨ts, hys⟩
theorem add1 {w : World} {L fa sl : Addr} {cd : Value} {tl : List (Addr × Obj)} {m mg mb : Str → Option Value} {mean : ExcName → Option Value} {base g : Heap} {s : Shared} {Q : Flow → Shared → Prop} {E : Value → Shared → Prop}
  (B : Below callerA base [] g) (X : (hd.heap_39 w.params).In g) (T : Top topProg looseT mean mg mb g) {who : Nat} {tW : Tok} {oW oC : Obj} {lO lC : Addr} {eO eC : Nat} {tO tC : Nat → Tok} {cs : Nat → Int} (hw : who < 4)
  (F : Fr g L s.heap m) (hmO : m (Str.ofString "others") = some (.ref lO)) (N : News g L s.heap tl) (hcW : (L + 4, oW) ∈ tl) (dW : oW.data = .cell (some (.int (0 + (who : Int)) tW))) (hcC : (L + 6, oC) ∈ tl) (dC : oC.data = .cell (some (.ref lC)))
  (hO : (lO, listOf (intArr ((othersN who).map fun (g : Nat) => (g : Int)) tO) eO) ∈ tl) (hC : (lC, listOf (intArr ((List.range 16).map cs) tC) eC) ∈ tl)
  (post : ∀ h' tk' lA tA e, Fr g L h' (fun z => if z = Str.ofString "adds" then some (.ref lA) else m z) → News g L h' ((lA, listOf (intArr ((othersN who).map fun g => cs (g + 2 ^ who) - cs g) tA) e) :: tl) → (∀ q ∈ tl, q.1 ≠ lA) → Q .next { s with heap := h', toks := tk' }) :
    wpAny (model Prg w) (callerA.deeper (lawEnv L fa cd)) (exec (nth 1 lawT) (lawEnv L fa cd)) Q E s := by
  refine of_assign (st := (nth 1 lawT)) (fun st => wpAny (model Prg w) (callerA.deeper (lawEnv L fa cd)) (exec st (lawEnv L fa cd)) Q E s) rfl ?_
  try dsimp only
  unfold lawEnv
  refine of_defS (st := lawF) (fun sc => wpAny (model Prg w) (callerA.deeper (envOfC (Str.ofString "law") sc L fa cd)) (exec _ (envOfC (Str.ofString "law") sc L fa cd)) Q E s) rfl ?_
  try dsimp only
  have hkst := has_eq (m := m) (ps := [(Str.ofString "others", Value.ref lO)]) (by intro p hp; rw [List.mem_singleton.mp hp]; exact hmO)
  rw [hkst] at F
  dsimp only [kstB] at F
  k_dflt (refine LCg.Assign_ListComp_U (F₀ := F) (by rfl) (by with_unfolding_all rfl) (by with_unfolding_all rfl) (by decide) (by rfl) (by decide) (by rfl) (by rfl) (by rfl) ?_)
  try dsimp only
  ktr_unf
  have hol := (ws_others who hw).2
  refine LCg.CompSrc.ledger (news := tl) (k := eO) (its := intArr ((othersN who).map fun (g : Nat) => (g : Int)) tO) rfl F N hO (by rw [intArr_size, List.length_map, hol, sizeLine_eq]; decide) (fun g' => rest_inv (fun i ys nx => nx = tl ∧ ∃ us, ys.toArray = intArr (((othersN who).take i).map fun g => cs (g + 2 ^ who) - cs g) us) ?turn ?fin _ 0 [] _ (Nat.zero_add _) ⟨rfl, fun _ => 0, rfl⟩)
  case fin =>
    rintro zs nx ⟨rfl, us, hys⟩
    intro D7 h7 tk7 F7 N7 o7
    rw [intArr_size, List.length_map, List.take_length] at hys
    have elst : LCg.lst zs = listOf (intArr ((othersN who).map fun g => cs (g + 2 ^ who) - cs g) us) zs.length := by
      show listOf zs.toArray _ = _
      rw [hys]
    rw [elst] at N7
    exact post _ _ D7 us _ (fr_same (fun z => congrArg (fun q => if z = Str.ofString "adds" then some (Value.ref D7) else q) (congrFun hkst z).symm) F7) N7 (off1_all o7)
  case turn =>
    clear post
    rintro j ys nx v I2 oI2 C2 oC2 D2 m₂ h3 tk3 E3 hj hP ⟨hnx, us, hys⟩ hoC hm F8 N8 off2 ne2
    rw [intArr_size, List.length_map] at hj
    rw [intArr_get (by rw [List.length_map]; exact hj)] at hP
    have hv := Option.some.inj hP
    subst hv
    have hge : ((othersN who).map fun (g : Nat) => (g : Int)).getD j 0 = (((othersN who)[j] : Nat) : Int) := by
      rw [List.getD_eq_getElem?_getD, List.getElem?_map, List.getElem?_eq_getElem hj]; rfl
    rw [hge] at hm
    obtain ⟨hg1, hg2, hg3⟩ := oth_small who hw _ (List.getElem_mem hj)
    obtain ⟨gg, hgg⟩ : ∃ gg : Nat, (othersN who)[j] = gg := ⟨_, rfl⟩
    rw [hgg] at hm hg1 hg2
    subst hnx
    clear F N hP
    have hcg : ∀ x, x < 16 → (intArr ((List.range 16).map cs) tC)[x]? = some (.int (cs x) (tC x)) := by
      intro x hx
      rw [intArr_get (by rw [List.length_map, List.length_range]; exact hx), List.getD_eq_getElem?_getD, List.getElem?_map, List.getElem?_range hx]
      rfl
    ktr_unf
    try dsimp only
    rw [show (gg : Int) + 2 ^ (0 + (who : Int)).toNat = ((gg + 2 ^ who : Nat) : Int) by rw [Int.zero_add, Int.toNat_natCast]; simp]
    rename Fr _ _ _ _ => F9
    rename News _ _ _ _ => N9
    refine sub_list (v := .int (cs (gg + 2 ^ who)) (tC (gg + 2 ^ who))) N9 (.tail _ (.tail _ (.tail _ hC))) (Int.natCast_nonneg _) (Int.lt_of_lt_of_le (Int.ofNat_lt.mpr hg2) (by decide)) (by rw [Int.toNat_natCast]; exact hcg _ hg2) ?_ (by with_unfolding_all rfl)
    try dsimp only
    ktr_unf
    refine sub_list (v := .int (cs gg) (tC gg)) N9 (.tail _ (.tail _ (.tail _ hC))) (by omega) (by omega) (by rw [Int.toNat_natCast]; exact hcg _ hg1) ?_ (by with_unfolding_all rfl)
    try dsimp only
    ktr_unf
    try dsimp only
    refine LCg.CompEnd.intro F9 N9 nx (fun q hq => hq) off2 (.inr ⟨_, hO, rfl, _, rfl⟩) ⟨rfl, ?_⟩
    rw [List.take_succ_eq_append_getElem hj, List.map_append]
    have hlast : List.map (fun g => cs (g + 2 ^ who) - cs g) [(othersN who)[j]] = [cs (gg + 2 ^ who) - cs gg] := by rw [hgg]; rfl
    rw [hlast]
    exact ⟨_, intArr_snoc hys⟩
end
theorem reset54 {M : Model} {A : Around} {E : Value → Shared → Prop} {s : Shared} {env : Env} {Q : Flow → Shared → Prop} (h : Q .next s) : wpAny M A (execs [] env) Q E s := by
  w_top off
  walk1
  w_top off
  exact h
/-! S12 -/
section
open PySem PySem.W PyProof.Rows PySem.Calls
set_option Elab.async false
set_option maxRecDepth 100000
set_option maxHeartbeats 8000000
set_option linter.unusedVariables false
theorem fill42 : Challenge.rw_op0038_01 = Challenge.rw_op0038_01 ∧ hd.heap_39 = hd.heap_39 := by
  k_fill
  exact ⟨rfl, rfl⟩
local macro_rules | `(tactic| tb_start) => `(tactic| first | (show wpAny _ _ (subscriptTail (Expr.Name _ _) _ _ _) _ _ _) | (show wpAny _ _ (subscriptTail (Expr.List _ _) _ _ _) _ _ _) | (show wpAny _ _ (call (Value.ref _) _) _ _ _) | (show wpAny _ _ (compareOp _ _ _) _ _ _))

theorem pick4 (p : Nat) (h : p < 4) (a b c d : Tok) : ∃ t, (#[Value.int 6 a, .int 2 b, .int 2 c, .int 6 d] : Array Value)[p]? = some (.int ([6, 2, 2, 6].getD p 0) t) := by
  match p, h with
  | 0, _ => exact ⟨a, rfl⟩
  | 1, _ => exact ⟨b, rfl⟩
  | 2, _ => exact ⟨c, rfl⟩
  | 3, _ => exact ⟨d, rfl⟩
theorem chk2 {w : World} {L fa sl : Addr} {cd : Value} {tl : List (Addr × Obj)} {m mg mb : Str → Option Value} {mean : ExcName → Option Value} {base g : Heap} {s : Shared} {Q : Flow → Shared → Prop} {E : Value → Shared → Prop}
  (B : Below callerA base [] g) (X : (hd.heap_39 w.params).In g) (T : Top topProg looseT mean mg mb g) {who : Nat} {tW : Tok} {oW oZ : Obj} {lO lA lS lf : Addr} {eO eA eS ef : Nat} {tO tA tS tf : Nat → Tok} {as ff : List Int} (hw : who < 4) (h8 : as.length = 8) (hb : ∀ i, i < 8 → (as.getD i 0).natAbs < 2 ^ 45) (hf4 : ff.length = 4) (hfb : (ff.getD who 0).natAbs < 2 ^ 45)
  (heq : preMul (fun i => as.getD i 0) wsF 8 = 24 * ff.getD who 0)
  (F : Fr g L s.heap m) (hm : ∀ p ∈ [(Str.ofString "others", Value.ref lO), (Str.ofString "adds", .ref lA), (Str.ofString "fees", .ref lf)], m p.1 = some p.2) (N : News g L s.heap tl) (hcW : (L + 4, oW) ∈ tl) (dW : oW.data = .cell (some (.int (0 + (who : Int)) tW))) (hcZ : (L + 3, oZ) ∈ tl) (dZ : oZ.data = .cell (some (.ref lS)))
  (hO : (lO, listOf (intArr ((othersN who).map fun (g : Nat) => (g : Int)) tO) eO) ∈ tl) (hA : (lA, listOf (intArr as tA) eA) ∈ tl) (hS : (lS, listOf (intArr (dblL 4) tS) eS) ∈ tl) (hF : (lf, listOf (intArr ff tf) ef) ∈ tl)
  (post : ∀ h' tk', Fr g L h' m → News g L h' tl → Q .next { s with heap := h', toks := tk' }) :
    wpAny (model Prg w) (callerA.deeper (lawEnv L fa cd)) (exec (nth 2 lawT) (lawEnv L fa cd)) Q E s := by
  refine of_if (st := (nth 2 lawT)) (fun st => wpAny (model Prg w) (callerA.deeper (lawEnv L fa cd)) (exec st (lawEnv L fa cd)) Q E s) rfl ?_
  try dsimp only
  unfold lawEnv
  refine of_defS (st := lawF) (fun sc => wpAny (model Prg w) (callerA.deeper (envOfC (Str.ofString "law") sc L fa cd)) (exec _ (envOfC (Str.ofString "law") sc L fa cd)) Q E s) rfl ?_
  try dsimp only
  have hkst := has_eq (m := m) (ps := [(Str.ofString "others", Value.ref lO), (Str.ofString "adds", .ref lA), (Str.ofString "fees", .ref lf)]) hm
  rw [hkst] at F
  dsimp only [kstB] at F
  ktr_unf
  k_dflt (refine LCg.ListComp_U (F₀ := F) (by with_unfolding_all rfl) (by decide) (by rfl) (by decide) (by rfl) ?_)
  try dsimp only
  ktr_unf
  have hol := (ws_others who hw).2
  refine LCg.CompSrc.ledger (news := tl) (k := eO) (its := intArr ((othersN who).map fun (g : Nat) => (g : Int)) tO) rfl F N hO (by rw [intArr_size, List.length_map, hol, sizeLine_eq]; decide) (fun g' => rest_inv (fun i ys nx => nx = tl ∧ ∃ us, ys.toArray = intArr (((othersN who).take i).map wgtN) us) ?turn ?fin _ 0 [] _ (Nat.zero_add _) ⟨rfl, fun _ => 0, rfl⟩)
  case turn =>
    clear post
    rintro j ys nx v I2 oI2 C2 oC2 D2 m₂ h3 tk3 E3 hj hP ⟨hnx, us, hys⟩ hoC hm2 F8 N8 off2 ne2
    rw [intArr_size, List.length_map] at hj
    rw [intArr_get (by rw [List.length_map]; exact hj)] at hP
    have hv := Option.some.inj hP
    subst hv
    have hge : ((othersN who).map fun (g : Nat) => (g : Int)).getD j 0 = (((othersN who)[j] : Nat) : Int) := by
      rw [List.getD_eq_getElem?_getD, List.getElem?_map, List.getElem?_eq_getElem hj]; rfl
    rw [hge] at hm2
    obtain ⟨hg1, hg2, hg3⟩ := oth_small who hw _ (List.getElem_mem hj)
    obtain ⟨gg, hgg⟩ : ∃ gg : Nat, (othersN who)[j] = gg := ⟨_, rfl⟩
    rw [hgg] at hm2 hg1 hg3
    subst hnx
    clear F N hP
    ktr_unf
    try dsimp only
    rename Fr _ _ _ _ => F9
    rename News _ _ _ _ => N9
    refine sub_list (v := .int ((popN gg : Nat) : Int) (tS gg)) N9 (.tail _ (.tail _ (.tail _ (.tail _ hS)))) (Int.natCast_nonneg _) (by omega) (by rw [Int.toNat_natCast]; exact dbl_get hg1 tS) ?_ (by with_unfolding_all rfl)
    try dsimp only
    ktr_unf
    refine kba_turn (value' := PySem.Expr.Name (PySem.Str.ofString "_") ⟨0, 0, 0, 0⟩) (fun _ => rfl) ?_
    refine sub_list N9 (.head _) (Int.natCast_nonneg _) (by omega) (Classical.choose_spec (pick4 (popN gg) hg3 _ _ _ _)) ?_ (by with_unfolding_all rfl)
    try dsimp only
    refine LCg.CompEnd.intro F9 N9 nx (fun q hq => .tail _ hq) off2 (.inr ⟨_, hO, rfl, _, rfl⟩) ⟨rfl, ?_⟩
    rw [List.take_succ_eq_append_getElem hj, List.map_append]
    have hlast : List.map wgtN [(othersN who)[j]] = [[6, 2, 2, 6].getD (popN gg) 0] := by rw [hgg]; rfl
    rw [hlast]
    exact ⟨_, intArr_snoc hys⟩
  case fin =>
    rintro zs nx ⟨hnx, us, hys⟩
    intro D7 h7 tk7 F7 N7 o7
    subst hnx
    rw [intArr_size, List.length_map, List.take_length, (ws_others who hw).1] at hys
    have elst : LCg.lst zs = listOf (intArr wsL us) zs.length := by
      show listOf zs.toArray _ = _
      rw [hys]
    rw [elst] at N7
    clear F N
    try dsimp only
    ktr_unf
    have N8 : News g L h7 ((lA, listOf (intArr as tA) eA) :: (D7, listOf (intArr wsL us) zs.length) :: nx) := by
      intro q hq
      simp only [List.mem_cons] at hq
      rcases hq with h | h | h
      · rw [h]; exact N7 _ (.tail _ hA)
      · rw [h]; exact N7 _ (.head _)
      · exact N7 _ (.tail _ h)
    refine mean_ok h8 hb mean mg mb _ _ _ _ _ _ _ _ [] callerA base g L _ _ _ _ B F7 X N8 T (by rfl) (by decide +kernel) (by decide +kernel) ?_
    intro h9 tk9 t9 F9 N9
    have hex := mean_exact hfb
    rw [← heq] at hex
    generalize Float64.div (Float64.ofInt (preMul (fun i => as.getD i 0) wsF 8)) (Float64.ofInt 24) = fv at *
    try dsimp only
    ktr_unf
    refine sub_list (v := .int (ff.getD who 0) (tf who)) N9 (.tail _ (.tail _ hF)) (by omega) (by omega) (by rw [show (0 + (who : Int)).toNat = who by omega]; exact intArr_get (by omega)) ?_ (by with_unfolding_all rfl)
    try dsimp only
    refine ne_fi ?_
    rw [hex]
    rw [show (some Ordering.eq != some Ordering.eq) = false from rfl]
    try dsimp only
    ktr_unf
    exact post _ _ (fr_same (fun z => (congrFun hkst z).symm) F9) (fun q hq => N9 q (.tail _ (.tail _ hq)))
end
/-! gSa -/
section
theorem reset55 {M : Model} {A : Around} {E : Value → Shared → Prop} {s : Shared} {env : Env} {Q : Flow → Shared → Prop} (h : Q .next s) : wpAny M A (execs [] env) Q E s := by
  w_top off
  walk1
  w_top off
  exact h
/-! S13 -/
section
open PySem PySem.W PyProof.Rows PySem.Calls
set_option Elab.async false
set_option maxRecDepth 100000
set_option maxHeartbeats 8000000
set_option linter.unusedVariables false
theorem fill43 : Challenge.rw_op0038_01 = Challenge.rw_op0038_01 ∧ hd.heap_39 = hd.heap_39 := by
  k_fill
  exact ⟨rfl, rfl⟩

theorem lawT_eq : lawT = [nth 0 lawT, nth 1 lawT, nth 2 lawT] := rfl
theorem wk (L fa : Addr) (cd : Value) : (lawEnv L fa cd).scope.kind = .function := by
  unfold lawEnv
  exact of_defS (st := lawF) (fun sc => (envOfC (Str.ofString "law") sc L fa cd).scope.kind = .function) rfl rfl
theorem wk2 (L fa : Addr) (cd : Value) : (lawEnv L fa cd).kindOf (Str.ofString "who") = some .cell := by
  unfold lawEnv
  exact of_defS (st := lawF) (fun sc => (envOfC (Str.ofString "law") sc L fa cd).kindOf (Str.ofString "who") = some .cell) rfl rfl
theorem wk3 (L fa : Addr) (cd : Value) : (lawEnv L fa cd).cells.lookup (Str.ofString "who") = some (L + 4) := by
  unfold lawEnv
  exact of_defS (st := lawF) (fun sc => (envOfC (Str.ofString "law") sc L fa cd).cells.lookup (Str.ofString "who") = some (L + 4)) rfl rfl
theorem who_loop {w : World} {L fa sl : Addr} {cd : Value} {tl : List (Addr × Obj)} {m mg mb : Str → Option Value} {mean : ExcName → Option Value} {base g : Heap} {s : Shared} {Q : Flow → Shared → Prop} {E : Value → Shared → Prop}
  (B : Below callerA base [] g) (X : (hd.heap_39 w.params).In g) (T : Top topProg looseT mean mg mb g) {px : Pos} {r : Addr} {t1 t2 t3 : Tok} (R5 : IsRange s.heap r 0 4 1 t1 t2 t3) {oZ oW oC : Obj} {v₀ : Option Value} {lS lf lC : Addr} {eS ef eC : Nat} {tS tf tC : Nat → Tok} {ff : List Int} {k : Int} {lines : List (Int × Int)} (hf4 : ff.length = 4) (hfb : ∀ who, who < 4 → (ff.getD who 0).natAbs < 2 ^ 45)
  (hb : ∀ who, who < 4 → ∀ i, i < 8 → ((addsL k lines who).getD i 0).natAbs < 2 ^ 45)
  (heq : ∀ who, who < 4 → preMul (fun i => (addsL k lines who).getD i 0) wsF 8 = 24 * ff.getD who 0)
  (F : Fr g L s.heap m) (hm : m (Str.ofString "fees") = some (.ref lf)) (N : News g L s.heap ((L + 4, oW) :: tl)) (dW : oW.data = .cell v₀) (off : ∀ q ∈ tl, q.1 ≠ L + 4) (hcZ : (L + 3, oZ) ∈ tl) (dZ : oZ.data = .cell (some (.ref lS)))
  (hcC : (L + 6, oC) ∈ tl) (dC : oC.data = .cell (some (.ref lC))) (hS : (lS, listOf (intArr (dblL 4) tS) eS) ∈ tl) (hF : (lf, listOf (intArr ff tf) ef) ∈ tl) (hC : (lC, listOf (intArr ((List.range 16).map fun i => costK k lines i) tC) eC) ∈ tl)
  (post : ∀ h' tk' m', Fr g L h' m' → (∀ q ∈ tl, h'.get? q.1 = some q.2) → Q .next { s with heap := h', toks := tk' }) :
    wpAny (model Prg w) (callerA.deeper (lawEnv L fa cd)) (pyIter (.ref r)) (fun it s₂ => TurnsAt Prg w (callerA.deeper (lawEnv L fa cd)) g (lawEnv L fa cd) (.Name (Str.ofString "who") px) lawT Q E it s₂) E s := by
  refine turns_range (n := 4) (m₀ := m) (news := (L + 4, oW) :: tl)
    (fun i m' nx => m' (Str.ofString "fees") = some (.ref lf) ∧ ∃ oW' v', nx = (L + 4, oW') :: tl ∧ oW'.data = .cell v') rfl R5 (by decide) (by decide) F N ⟨hm, oW, v₀, rfl, dW⟩ ?turn ?done
  case done =>
    rintro m' nx h tk ⟨_, oW', v', rfl, _⟩ F6 N6
    exact post h tk m' F6 (fun q hq => (N6 q (.tail _ hq)).1)
  clear post
  rintro i I o t m' nx h tk hi hoc hof ⟨hm1, oW', v', rfl, dW'⟩ F6 N6
  have hI4 : L + 4 ≠ I := hof _ (.head _)
  have N7 : News g L h ((L + 4, oW') :: (I, o) :: tl) := by
    intro q hq
    simp only [List.mem_cons] at hq
    rcases hq with h | h | h
    · rw [h]; exact N6 _ (.tail _ (.head _))
    · rw [h]; exact N6 _ (.head _)
    · exact N6 _ (.tail _ (.tail _ h))
  refine assign_cell (wk L fa cd) (wk2 L fa cd) (wk3 L fa cd) F6 N7 dW' ?_ (fun h2 oW2 dW2 F2 N2 => ?_)
  · intro q hq
    rcases List.mem_cons.mp hq with h | h
    · rw [h]; exact hI4.symm
    · exact off q h
  have hsub : ∀ q ∈ tl, q ∈ (L + 4, oW2) :: (I, o) :: tl := fun q hq => .tail _ (.tail _ hq)
  rw [lawT_eq]
  refine wpAny_execs_cons ?_
  refine oth0 (sl := fa) (who := i) B X T hi F2 N2 (.head _) dW2 (fun h3 tk3 lO tO eO F3 N3 o3 => ?_)
  refine wpAny_execs_cons ?_
  refine add1 (sl := fa) (who := i) (cs := fun i => costK k lines i) B X T hi F3 (if_pos rfl) N3 (.tail _ (.head _)) dW2 (.tail _ (hsub _ hcC)) dC (.head _) (.tail _ (hsub _ hC)) (fun h4 tk4 lA tA eA F4 N4 o4 => ?_)
  refine wpAny_execs_cons ?_
  refine chk2 (sl := fa) (who := i) (as := addsL k lines i) B X T hi (adds_len hi) (hb i hi) hf4 (hfb i hi) (heq i hi) F4 ?_ N4 (.tail _ (.tail _ (.head _))) dW2 (.tail _ (.tail _ (hsub _ hcZ))) dZ (.tail _ (.head _)) (.head _) (.tail _ (.tail _ (hsub _ hS))) (.tail _ (.tail _ (hsub _ hF))) (fun h5 tk5 F5 N5 => ?_)
  · intro p hp
    simp only [List.mem_cons, List.not_mem_nil, or_false] at hp
    have n1 : ¬ Str.ofString "others" = Str.ofString "adds" := by decide
    have n2 : ¬ Str.ofString "fees" = Str.ofString "adds" := by decide
    have n3 : ¬ Str.ofString "fees" = Str.ofString "others" := by decide
    rcases hp with rfl | rfl | rfl
    · exact (if_neg n1).trans (if_pos rfl)
    · exact if_pos rfl
    · exact (if_neg n2).trans ((if_neg n3).trans hm1)
  · refine wpAny_execs_nil ?_
    refine turn_next ((L + 4, oW2) :: tl) F5 ?_ ?_ ⟨(if_neg (by decide)).trans ((if_neg (by decide)).trans hm1), oW2, _, rfl, dW2⟩
    · intro q hq
      simp only [List.mem_cons] at hq
      rcases hq with h | h | h
      · rw [h]; exact N5 _ (.tail _ (.tail _ (.tail _ (.head _))))
      · rw [h]; exact N5 _ (.tail _ (.tail _ (.head _)))
      · exact N5 _ (.tail _ (.tail _ (.tail _ (.tail _ h))))
    · intro q hq
      rcases List.mem_cons.mp hq with h | h
      · rw [h]; exact .inr hI4
      · exact .inr (hof q (.tail _ h))
theorem law12 {w : World} {L fa sl : Addr} {cd : Value} {tl : List (Addr × Obj)} {m mg mb : Str → Option Value} {mean : ExcName → Option Value} {base g : Heap} {s : Shared} {Q : Flow → Shared → Prop} {E : Value → Shared → Prop}
  (B : Below callerA base [] g) (X : (hd.heap_39 w.params).In g) (T : Top topProg looseT mean mg mb g) (hE : PassesOwn (model Prg w) (callerA.deeper (lawEnv L fa cd)) (lawEnv L fa cd) E) {oZ oW oC : Obj} {v₀ : Option Value} {lS lf lC : Addr} {eS ef eC : Nat} {tS tf tC : Nat → Tok} {ff : List Int} {k : Int} {lines : List (Int × Int)} (hf4 : ff.length = 4) (hfb : ∀ who, who < 4 → (ff.getD who 0).natAbs < 2 ^ 45)
  (hb : ∀ who, who < 4 → ∀ i, i < 8 → ((addsL k lines who).getD i 0).natAbs < 2 ^ 45)
  (heq : ∀ who, who < 4 → preMul (fun i => (addsL k lines who).getD i 0) wsF 8 = 24 * ff.getD who 0)
  (F : Fr g L s.heap m) (hm : m (Str.ofString "fees") = some (.ref lf)) (N : News g L s.heap ((L + 4, oW) :: tl)) (dW : oW.data = .cell v₀) (off : ∀ q ∈ tl, q.1 ≠ L + 4) (hcZ : (L + 3, oZ) ∈ tl) (dZ : oZ.data = .cell (some (.ref lS)))
  (hcC : (L + 6, oC) ∈ tl) (dC : oC.data = .cell (some (.ref lC))) (hS : (lS, listOf (intArr (dblL 4) tS) eS) ∈ tl) (hF : (lf, listOf (intArr ff tf) ef) ∈ tl) (hC : (lC, listOf (intArr ((List.range 16).map fun i => costK k lines i) tC) eC) ∈ tl)
  (post : ∀ h' tk' m', Fr g L h' m' → (∀ q ∈ tl, h'.get? q.1 = some q.2) → Q .next { s with heap := h', toks := tk' }) :
    wpAny (model Prg w) (callerA.deeper (lawEnv L fa cd)) (exec (nth 12 lawB) (lawEnv L fa cd)) Q E s := by
  refine of_forS (st := (nth 12 lawB)) (fun st => wpAny (model Prg w) (callerA.deeper (lawEnv L fa cd)) (exec st (lawEnv L fa cd)) Q E s) rfl ?_
  try dsimp only
  revert hE
  unfold lawEnv
  refine of_defS (st := lawF) (fun sc => PassesOwn (model Prg w) (callerA.deeper (envOfC (Str.ofString "law") sc L fa cd)) (envOfC (Str.ofString "law") sc L fa cd) E → wpAny (model Prg w) (callerA.deeper (envOfC (Str.ofString "law") sc L fa cd)) (exec _ (envOfC (Str.ofString "law") sc L fa cd)) Q E s) rfl ?_
  intro hE
  try dsimp only
  with_unfolding_all refine' For_turns F ?_ ?k3 ?k4
  case k3 => intro _; with_unfolding_all rfl
  case k4 => exact hE
  try dsimp only
  ktr_unf
  rename IsRange _ _ _ _ _ _ _ _ => R5
  rename Fr _ _ _ _ => F5
  rename News _ _ _ _ => N5
  exact who_loop (sl := fa) B X T R5 hf4 hfb hb heq F5 hm N5 dW off hcZ dZ hcC dC hS hF hC post
end
theorem reset56 {M : Model} {A : Around} {E : Value → Shared → Prop} {s : Shared} {env : Env} {Q : Flow → Shared → Prop} (h : Q .next s) : wpAny M A (execs [] env) Q E s := by
  w_top off
  walk1
  w_top off
  exact h
/-! S14 -/
section
open PySem PySem.W PyProof.Rows PySem.Calls
set_option Elab.async false
set_option maxRecDepth 100000
set_option maxHeartbeats 8000000
set_option linter.unusedVariables false
theorem fill44 : Challenge.rw_op0038_01 = Challenge.rw_op0038_01 ∧ hd.heap_39 = hd.heap_39 := by
  k_fill
  exact ⟨rfl, rfl⟩

theorem of_ret {st : Stmt} {v : Option Expr} {p : Pos} (P : Stmt → Prop) (e : st = .Return v p) (h : P (.Return v p)) : P st := by rw [e]; exact h
theorem law13 {w : World} {L fa : Addr} {cd : Value} {s : Shared} {Q : Flow → Shared → Prop} {E : Value → Shared → Prop} (post : Q (.ret (.bool true)) s) :
    wpAny (model Prg w) (callerA.deeper (lawEnv L fa cd)) (exec (nth 13 lawB) (lawEnv L fa cd)) Q E s := by
  refine of_ret (st := (nth 13 lawB)) (fun st => wpAny (model Prg w) (callerA.deeper (lawEnv L fa cd)) (exec st (lawEnv L fa cd)) Q E s) rfl ?_
  try dsimp only
  unfold lawEnv
  refine of_defS (st := lawF) (fun sc => wpAny (model Prg w) (callerA.deeper (envOfC (Str.ofString "law") sc L fa cd)) (exec _ (envOfC (Str.ofString "law") sc L fa cd)) Q E s) rfl ?_
  try dsimp only
  ktr_unf
  exact post
theorem lawB_eq : lawB = [nth 0 lawB, nth 1 lawB, nth 2 lawB, nth 3 lawB, nth 4 lawB, nth 5 lawB, nth 6 lawB, nth 7 lawB, nth 8 lawB, nth 9 lawB, nth 10 lawB, nth 11 lawB, nth 12 lawB, nth 13 lawB] := rfl
noncomputable def offc (c : Addr) (nx : List (Addr × Obj)) : List (Addr × Obj) := nx.filter fun q => decide (q.1 ≠ c)
theorem offc_ne {c : Addr} {nx : List (Addr × Obj)} : ∀ q ∈ offc c nx, q.1 ≠ c := fun q hq => of_decide_eq_true (List.mem_filter.mp hq).2
theorem offc_sub {c : Addr} {nx : List (Addr × Obj)} : ∀ q ∈ offc c nx, q ∈ nx := fun q hq => (List.mem_filter.mp hq).1
theorem in_offc {c : Addr} {nx : List (Addr × Obj)} {b : Addr} {ob : Obj} (h : (b, ob) ∈ nx) (n : b ≠ c) : (b, ob) ∈ offc c nx := List.mem_filter.mpr ⟨h, decide_eq_true n⟩
theorem iso {g h : Heap} {L c : Addr} {o : Obj} {nx : List (Addr × Obj)} (N : News g L h nx) (hm : (c, o) ∈ nx) : News g L h ((c, o) :: offc c nx) := by
  intro p hp
  rcases List.mem_cons.mp hp with rfl | hp
  · exact N _ hm
  · exact N _ (offc_sub p hp)
theorem addne (L a b : Nat) (h : a ≠ b) : L + a ≠ L + b := by omega
theorem law_walk {w : World} {L fa sl : Addr} {cd : Value} {tl : List (Addr × Obj)} {m mg mb : Str → Option Value} {mean : ExcName → Option Value} {base g : Heap} {s : Shared} {Q : Flow → Shared → Prop} {E : Value → Shared → Prop}
  (B : Below callerA base [] g) (X : (hd.heap_39 w.params).In g) (T : Top topProg looseT mean mg mb g) {vs : List Value} {ns : List Int} {o1 o2 o3 o4 o5 o6 : Obj} {nx0 : List (Addr × Obj)} (hE : PassesOwn (model Prg w) (callerA.deeper (lawEnv L fa cd)) (lawEnv L fa cd) E)
  (hsl : g.IsList sl vs.toArray) (hi : IntsAre vs ns) (hn : ns.length ≤ 63) (F : Fr g L s.heap m) (N : News g L s.heap nx0)
  (c1 : (L + 1, o1) ∈ nx0) (c2 : (L + 2, o2) ∈ nx0) (c3 : (L + 3, o3) ∈ nx0) (c4 : (L + 4, o4) ∈ nx0) (c5 : (L + 5, o5) ∈ nx0) (c6 : (L + 6, o6) ∈ nx0)
  (d1 : o1.data = .cell (some (.ref sl))) (d2 : o2.data = .cell none) (d3 : o3.data = .cell none) (d4 : o4.data = .cell none) (d5 : o5.data = .cell none) (d6 : o6.data = .cell none)
  {P : Addr} {oT : Obj} (cT : (P, oT) ∈ nx0) (dT : ∀ z, oT.data ≠ .cell z)
  (post : ∀ h' tk' m', Fr g L h' m' → h'.get? P = some oT → Q (.ret (.bool true)) { s with heap := h', toks := tk' }) :
    wpAny (model Prg w) (callerA.deeper (lawEnv L fa cd)) (execs lawB (lawEnv L fa cd)) Q E s := by
  have nc : ∀ {its : Array Value} {n : Nat} (z : Option Value), (listOf its n).data ≠ .cell z := fun z h => nomatch h
  have S1 : ∀ {x y : Str}, x ≠ y → ¬ x = y := fun h => h
  rw [lawB_eq]
  refine wpAny_execs_cons ?_
  refine law0 hsl hi hn B X T F N c1 d1 (fun h1 tk1 D ys n hs hl hys F1 N1 of1 => ?_)
  refine wpAny_execs_cons ?_
  refine law1 (sl := sl) B X T (by omega) hys F1 (if_pos rfl) N1 of1 (fun h2 tk2 D2 hs2 ts2 n2 m2 hl2 hm2 F2 N2 of2 => ?_)
  refine wpAny_execs_cons ?_
  have cD2 : (L + 2, o2) ∈ (D2, listOf (intArr hs2 ts2) n2) :: nx0 := .tail _ c2
  have nD2 : D2 ≠ L + 2 := ne_cell N2 (.head _) cD2 d2 nc
  refine law2 (D := D2) (hs := hs2) (ts := ts2) (n := n2) (sl := sl) B X T hsl hi hn F2 (iso N2 cD2) (in_offc (.tail _ c1) (addne L 1 2 (by decide))) d1 d2 offc_ne (fun h3 tk3 oK k tK hk1 hk3 dK F3 N3 => ?_)
  obtain ⟨nx2, hx2⟩ : ∃ nx2, nx2 = (L + 2, oK) :: offc (L + 2) ((D2, listOf (intArr hs2 ts2) n2) :: nx0) := ⟨_, rfl⟩
  rw [← hx2] at N3
  have k2 : (L + 2, oK) ∈ nx2 := by rw [hx2]; exact .head _
  have k3 : (L + 3, o3) ∈ nx2 := by rw [hx2]; exact .tail _ (in_offc (.tail _ c3) (addne L 3 2 (by decide)))
  have k4 : (L + 4, o4) ∈ nx2 := by rw [hx2]; exact .tail _ (in_offc (.tail _ c4) (addne L 4 2 (by decide)))
  have k5 : (L + 5, o5) ∈ nx2 := by rw [hx2]; exact .tail _ (in_offc (.tail _ c5) (addne L 5 2 (by decide)))
  have k6 : (L + 6, o6) ∈ nx2 := by rw [hx2]; exact .tail _ (in_offc (.tail _ c6) (addne L 6 2 (by decide)))
  have kT : (P, oT) ∈ nx2 := by rw [hx2]; exact .tail _ (in_offc (.tail _ cT) (ne_cell N2 (.tail _ cT) cD2 d2 dT))
  have kD : (D2, listOf (intArr hs2 ts2) n2) ∈ nx2 := by rw [hx2]; exact .tail _ (in_offc (.head _) nD2)
  clear hx2 N N1 N2 c1 c2 c3 c4 c5 c6 cT cD2 of1 of2
  refine wpAny_execs_cons ?_
  refine law3 (sl := sl) B X T hl2 F3 hm2 N3 kD (fun h4 tk4 lr rr er tl4 hrl hrq F4 N4 hro hsub4 of4 => ?_)
  refine wpAny_execs_cons ?_
  have z1 : ¬ Str.ofString "hands" = Str.ofString "rows" := by decide
  have z2 : ¬ Str.ofString "rows" = Str.ofString "prices" := by decide
  have z3 : ¬ Str.ofString "prices" = Str.ofString "texts" := by decide
  have z4 : ¬ Str.ofString "prices" = Str.ofString "fees" := by decide
  have z5 : ¬ Str.ofString "texts" = Str.ofString "fees" := by decide
  have z6 : ¬ Str.ofString "rows" = Str.ofString "fees" := by decide
  have z7 : ¬ Str.ofString "rows" = Str.ofString "texts" := by decide
  refine law4 (sl := sl) B X T hl2 F4 ((if_neg z1).trans hm2) N4 (.tail _ (hsub4 _ kD)) (fun h5 tk5 lq qs us eq hql hqs F5 N5 of5 => ?_)
  refine wpAny_execs_cons ?_
  refine law5 (sl := sl) B X T hrl hrq (fun x hx => .tail _ (.tail _ (hro x hx))) F5 ((if_neg z2).trans (if_pos rfl)) N5 (.tail _ (.head _)) (fun h6 tk6 lt e6 t0 t1 t2 t3 F6 N6 of6 => ?_)
  obtain ⟨p0, p1, p2, p3, hpp⟩ : ∃ p0 p1 p2 p3, rr.map SIt.q = [p0, p1, p2, p3] := by
    match rr, hrl with
    | [a, b, c, d], _ => exact ⟨_, _, _, _, rfl⟩
  have hpin : ∀ p ∈ rr.map SIt.q, p ∈ allRows := fun p hp => by
    obtain ⟨x, hx, rfl⟩ := List.mem_map.mp hp
    exact hrq x hx
  have q0 : p0 ∈ allRows := hpin _ (by rw [hpp]; simp)
  have q1 : p1 ∈ allRows := hpin _ (by rw [hpp]; simp)
  have q2 : p2 ∈ allRows := hpin _ (by rw [hpp]; simp)
  have q3 : p3 ∈ allRows := hpin _ (by rw [hpp]; simp)
  rw [hpp] at N6
  refine wpAny_execs_cons ?_
  refine law6 (sl := sl) (p0 := p0) (p1 := p1) (p2 := p2) (p3 := p3) B X T q0 q1 q2 q3 hql hk1 hk3 F6 ?_ N6 (.tail _ (hsub4 _ k2)) dK (fun h7 tk7 lf ef tf F7 N7 => ?_)
  · intro p hp
    simp only [List.mem_cons, List.not_mem_nil, or_false] at hp
    rcases hp with rfl | rfl
    · exact (if_neg z3).trans (if_pos rfl)
    · exact if_pos rfl
  refine wpAny_execs_cons ?_
  refine law7 (sl := sl) (p0 := p0) (p1 := p1) (p2 := p2) (p3 := p3) B X T q0 q1 q2 q3 hql hk1 hk3 F7 ?_ N7 (.tail _ (hsub4 _ k2)) dK (fun h8 tk8 F8 N8 => ?_)
  · intro p hp
    simp only [List.mem_cons, List.not_mem_nil, or_false] at hp
    rcases hp with rfl | rfl | rfl
    · exact (if_neg z4).trans ((if_neg z3).trans (if_pos rfl))
    · exact (if_neg z5).trans (if_pos rfl)
    · exact if_pos rfl
  obtain ⟨ff, hff⟩ : ∃ ff, ff = feesK qs k [⟨1 - p0.length, p0, 0⟩, ⟨1 - p1.length, p1, 1⟩, ⟨1 - p2.length, p2, 2⟩, ⟨1 - p3.length, p3, 3⟩] := ⟨_, rfl⟩
  rw [← hff] at N8
  have hmF := (show (fun z => if z = Str.ofString "fees" then some (Value.ref lf) else if z = Str.ofString "texts" then some (Value.ref lt) else if z = Str.ofString "prices" then some (Value.ref lq) else if z = Str.ofString "rows" then some (Value.ref lr) else m2 z) (Str.ofString "fees") = some (Value.ref lf) from if_pos rfl)
  obtain ⟨nx8, hx8⟩ : ∃ nx8, nx8 = (lf, listOf (intArr ff tf) ef) :: (lq, listOf (intArr qs us) eq) :: (lr, listOf (svals rr) er) :: tl4 := ⟨_, rfl⟩
  rw [← hx8] at N8
  have s8 : ∀ q ∈ nx2, q ∈ nx8 := fun q hq => by rw [hx8]; exact .tail _ (.tail _ (.tail _ (hsub4 q hq)))
  have e2 := s8 _ k2
  have e3 := s8 _ k3
  have e4 := s8 _ k4
  have e5 := s8 _ k5
  have e6 := s8 _ k6
  have eT := s8 _ kT
  have eF : (lf, listOf (intArr ff tf) ef) ∈ nx8 := by rw [hx8]; exact .head _
  have eQ : (lq, listOf (intArr qs us) eq) ∈ nx8 := by rw [hx8]; exact .tail _ (.head _)
  have eR : (lr, listOf (svals rr) er) ∈ nx8 := by rw [hx8]; exact .tail _ (.tail _ (.head _))
  have eO : ∀ x ∈ rr, (x.a, x.o) ∈ nx8 := fun x hx => by rw [hx8]; exact .tail _ (.tail _ (.tail _ (hro x hx)))
  clear hx8 s8 k2 k3 k4 k5 k6 kT kD N3 N4 N5 N6 N7
  refine wpAny_execs_cons ?_
  refine law8 (sl := sl) B X T F8 (iso N8 e3) d3 offc_ne (fun h9 tk9 oZ lS tS dZ F9 N9 lt9 => ?_)
  have hl3 : L + 3 < lS := lt9 _ (.head _)
  have e48 : (L + 4, o4) ∈ offc (L + 3) nx8 := in_offc e4 (addne L 4 3 (by decide))
  have hl4 : L + 4 < lS := lt9 _ (.tail _ e48)
  have in2 : ∀ {b : Addr} {ob : Obj}, (b, ob) ∈ nx8 → b ≠ L + 3 → b ≠ L + 4 → (b, ob) ∈ offc (L + 4) (offc (L + 3) nx8) := fun h n1 n2 => in_offc (in_offc h n1) n2
  have in3 : ∀ {b : Addr} {ob : Obj}, (b, ob) ∈ nx8 → (∀ z, ob.data ≠ .cell z) → (b, ob) ∈ offc (L + 4) (offc (L + 3) nx8) := fun h n => in2 h (ne_cell N8 h e3 d3 n) (ne_cell N8 h e4 d4 n)
  have f2 := in2 e2 (addne L 2 3 (by decide)) (addne L 2 4 (by decide))
  have f5 := in2 e5 (addne L 5 3 (by decide)) (addne L 5 4 (by decide))
  have f6 := in2 e6 (addne L 6 3 (by decide)) (addne L 6 4 (by decide))
  have fF := in3 eF nc
  have fT := in3 eT dT
  have fQ := in3 eQ nc
  have fR := in3 eR nc
  have fO : ∀ x ∈ rr, (x.a, x.o) ∈ offc (L + 4) (offc (L + 3) nx8) := fun x hx => in3 (eO x hx) nc
  have off9 : ∀ q ∈ offc (L + 4) (offc (L + 3) nx8), q.1 ≠ L + 3 ∧ q.1 ≠ L + 4 := fun q hq => ⟨offc_ne q (offc_sub q hq), offc_ne q hq⟩
  have N9' : News g L h9 ((L + 3, oZ) :: (L + 4, o4) :: (lS, listOf (intArr [0] tS) 0) :: offc (L + 4) (offc (L + 3) nx8)) := by
    intro q hq
    simp only [List.mem_cons] at hq
    rcases hq with h | h | h | h
    · rw [h]; exact N9 _ (.head _)
    · rw [h]; exact N9 _ (.tail _ (.tail _ e48))
    · rw [h]; exact N9 _ (.tail _ (.head _))
    · exact N9 _ (.tail _ (.tail _ (offc_sub q h)))
  refine wpAny_execs_cons ?_
  refine law9 (sl := sl) B X T hE F9 N9' dZ d4 off9 (Nat.ne_of_gt hl3) (Nat.ne_of_gt hl4) (fun h10 tk10 oZ2 oW2 v2 lS2 tS2 eS2 dZ2 dW2 F10 N10 => ?_)
  generalize offc (L + 4) (offc (L + 3) nx8) = tl9 at *
  obtain ⟨nx10, hx10⟩ : ∃ nx10, nx10 = (L + 3, oZ2) :: (L + 4, oW2) :: (lS2, listOf (intArr (dblL 4) tS2) eS2) :: tl9 := ⟨_, rfl⟩
  rw [← hx10] at N10
  have s10 : ∀ q ∈ tl9, q ∈ nx10 := fun q hq => by rw [hx10]; exact .tail _ (.tail _ (.tail _ hq))
  have g3 : (L + 3, oZ2) ∈ nx10 := by rw [hx10]; exact .head _
  have g4 : (L + 4, oW2) ∈ nx10 := by rw [hx10]; exact .tail _ (.head _)
  have gS : (lS2, listOf (intArr (dblL 4) tS2) eS2) ∈ nx10 := by rw [hx10]; exact .tail _ (.tail _ (.head _))
  have g2 := s10 _ f2
  have g5 := s10 _ f5
  have g6 := s10 _ f6
  have gF := s10 _ fF
  have gT := s10 _ fT
  have gQ := s10 _ fQ
  have gR := s10 _ fR
  have gO : ∀ x ∈ rr, (x.a, x.o) ∈ nx10 := fun x hx => s10 _ (fO x hx)
  clear hx10 s10 N9 N9' in2 in3 lt9 N8 e2 e3 e4 e5 e6 eT fT eF eQ eR eO f2 f5 f6 fF fQ fR fO off9 e48
  refine wpAny_execs_cons ?_
  refine law10 (sl := sl) (eq := eq) (us := us) (lq := lq) (lr := lr) B X T hql hrl hrq F10 ?_ N10 g5 d5 gR gO gQ (fun h11 tk11 oN lL ys eL tl11 dN F11 N11 cN hL sub11 hyo hyl hye => ?_)
  · intro p hp
    simp only [List.mem_cons, List.not_mem_nil, or_false] at hp
    rcases hp with rfl | rfl
    · exact (if_neg z6).trans ((if_neg z7).trans ((if_neg z2).trans (if_pos rfl)))
    · exact (if_neg z4).trans ((if_neg z3).trans (if_pos rfl))
  rw [hpp] at hye
  have hli := lines_are (p0 := p0) (p1 := p1) (p2 := p2) (p3 := p3) hqs
  rw [← hye] at hli
  have hyu : ∀ y ∈ ys, 0 ≤ y.u ∧ y.u < 16 := fun y hy => (hli _ (List.mem_map.mpr ⟨y, hy, rfl⟩)).1
  have hyc : ∀ y ∈ ys, -2 ^ 40 < y.c ∧ y.c < 2 ^ 40 := fun y hy => by
    have := (hli _ (List.mem_map.mpr ⟨y, hy, rfl⟩)).2
    dsimp only at this
    omega
  have i2 := sub11 _ g2 (addne L 2 5 (by decide))
  have i3 := sub11 _ g3 (addne L 3 5 (by decide))
  have i4 := sub11 _ g4 (addne L 4 5 (by decide))
  have i6 := sub11 _ g6 (addne L 6 5 (by decide))
  have iS := sub11 _ gS (ne_cell N10 gS g5 d5 nc)
  have iF := sub11 _ gF (ne_cell N10 gF g5 d5 nc)
  have iT := sub11 _ gT (ne_cell N10 gT g5 d5 dT)
  refine wpAny_execs_cons ?_
  refine law11 (sl := sl) B X T hyl hyu hyc hk1 hk3 F11 N11 i2 dK i3 dZ2 cN dN i6 d6 iS hL hyo (fun h12 tk12 oC lC tC eC tl12 dC F12 N12 cC hC sub12 => ?_)
  have j3 := sub12 _ i3 (addne L 3 6 (by decide))
  have j4 := sub12 _ i4 (addne L 4 6 (by decide))
  have jS := sub12 _ iS (ne_cell N11 iS i6 d6 nc)
  have jF := sub12 _ iF (ne_cell N11 iF i6 d6 nc)
  have jT := sub12 _ iT (ne_cell N11 iT i6 d6 dT)
  obtain ⟨a1, a2, a3, a4⟩ := all_plain hk1 hk3 q0 q1 q2 q3 hqs (by rw [List.length_map]; exact hyl) hye hff
  refine wpAny_execs_cons ?_
  refine law12 (sl := sl) (lf := lf) B X T hE a1 a2 a3 a4 F12 hmF (iso N12 j4) dW2 offc_ne (in_offc j3 (addne L 3 4 (by decide))) dZ2 (in_offc cC (addne L 6 4 (by decide))) dC (in_offc jS (ne_cell N12 jS j4 dW2 nc)) (in_offc jF (ne_cell N12 jF j4 dW2 nc)) (in_offc hC (ne_cell N12 hC j4 dW2 nc)) (fun h13 tk13 m13 F13 keep13 => ?_)
  refine wpAny_execs_cons ?_
  exact law13 (post _ _ m13 F13 (keep13 _ (in_offc jT (ne_cell N12 jT j4 dW2 dT))))
end
end
end
end Mine
end
section
open PySem PySem.W PyProof.Rows PySem.Calls
namespace Mine
theorem reset57 {M : Model} {A : Around} {E : Value → Shared → Prop} {s : Shared} {env : Env} {Q : Flow → Shared → Prop} (h : Q .next s) : wpAny M A (execs [] env) Q E s := by
  w_top off
  walk1
  w_top off
  exact h
end Mine
end
/-! Z1 -/
open PySem PySem.W PyProof.Rows PySem.Calls
set_option Elab.async false
set_option maxRecDepth 100000
set_option linter.unusedVariables false
set_option maxHeartbeats 8000000 in
theorem PySem.Challenge.cw_op0038_01_holds : PySem.Challenge.rw_op0038_01.Holds := by
  refine Mine.hd ?_
  k_go0
  rename IntsAre _ _ => hI
  rename_i hcond1 hcond2 hD h₁ tk₁ o6 o5 o4 o3 o2 o1 d6 d5 d4 d3 d2 d1 X0 X' T' K' F' N' l0
  refine Mine.law_walk (m := _) (tl := []) (P := 100) (oT := tabObj #[]) (o1 := o1) (o2 := o2) (o3 := o3) (o4 := o4) (o5 := o5) (o6 := o6) K' X' T' ?hE lifted hI (by omega) F' N' (.tail _ (.tail _ (.tail _ (.tail _ (.tail _ (.head _)))))) (.tail _ (.tail _ (.tail _ (.tail _ (.head _))))) (.tail _ (.tail _ (.tail _ (.head _)))) (.tail _ (.tail _ (.head _))) (.tail _ (.head _)) (.head _)
    (d1.trans (show _ = Data.cell (some (Value.ref _)) from rfl)) (d2.trans (show _ = Data.cell none from rfl)) (d3.trans (show _ = Data.cell none from rfl)) (d4.trans (show _ = Data.cell none from rfl)) (d5.trans (show _ = Data.cell none from rfl)) (d6.trans (show _ = Data.cell none from rfl)) (.tail _ (.tail _ (.tail _ (.tail _ (.tail _ (.tail _ (.head _))))))) (fun z h => nomatch h) (fun h9 tk9 m9 F9 hT9 => ?hP)
  case hE =>
    unfold Mine.lawEnv
    refine Mine.of_defS (st := Mine.lawF) (fun sc => PassesOwn _ (callerA.deeper (envOfC (Str.ofString "law") sc _ _ _)) (envOfC (Str.ofString "law") sc _ _ _) _) rfl ?_
    passes_own
  case hP =>
    refine ⟨?_, ⟨_, hT9⟩, trivial⟩
    dsimp only
    refine goodW_bool F9 (by assumption) (raisesW_false ?_) ?_
    · wrow_none_raised
    · wrow_post
