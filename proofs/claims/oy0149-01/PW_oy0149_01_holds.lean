import PyProof.Rows.All
import Wide.All
import OpenK.AllK
import Wide.FinOn
import PySem.Challenge.RW_oy0149_01
set_option Elab.async false
section
open PySem PySem.W PyProof.Rows
set_option Elab.async false
namespace Mine
set_option maxRecDepth 100000 in
set_option maxHeartbeats 8000000 in
open_top hd for PySem.Challenge.rw_oy0149_01
end Mine

end
section
open PySem PySem.W PyProof.Rows
set_option Elab.async false
set_option maxRecDepth 100000
namespace Mine
noncomputable abbrev PR : Program := PySem.Challenge.rw_oy0149_01.row.prog
noncomputable abbrev Led := List (Addr × Obj)
/-- A mark at which the walk stands still. -/
structure Stop (P : Prop) : Prop where
  out : P
/-- the goal behind a letter: what is taken apart meanwhile does not copy it -/
theorem b63 {a n : Nat} (h : a < n) (hn : n < 1000) : (a : Int) < 2 ^ 63 := Int.lt_trans (Int.ofNat_lt.mpr (Nat.lt_trans h hn)) (by decide)
theorem droom3 {a b N : Nat} (h : a + 650 < N) (hb : b ≤ 600) : a + 1 + b < N :=
  Nat.lt_of_le_of_lt (by rw [Nat.add_assoc]; exact Nat.add_le_add_left (Nat.le_trans (Nat.add_le_add_left hb 1) (by decide)) a) h
theorem uroom3 {a b N : Nat} (h : a + 8 * 650 < N) (hb : b ≤ 600) : a + 3 + 8 * b < N :=
  Nat.lt_of_le_of_lt (by rw [Nat.add_assoc]; exact Nat.add_le_add_left (Nat.le_trans (Nat.add_le_add_left (Nat.mul_le_mul_left 8 hb) 3) (by decide)) a) h
theorem droom0 {a c N : Nat} (h : a + c < N) : a < N := Nat.lt_of_le_of_lt (Nat.le_add_right a c) h
theorem droom {a b c N : Nat} (h : a + c < N) (e : Nat.ble (1 + b) c = true) : a + 1 + b < N :=
  Nat.lt_of_le_of_lt (by rw [Nat.add_assoc]; exact Nat.add_le_add_left (Nat.le_of_ble_eq_true e) a) h
theorem uroom {a b c N : Nat} (h : a + c < N) (e : Nat.ble (3 + b) c = true) : a + 3 + b < N :=
  Nat.lt_of_le_of_lt (by rw [Nat.add_assoc]; exact Nat.add_le_add_left (Nat.le_of_ble_eq_true e) a) h
theorem hide {G : Prop} (h : ¬ G → False) : G := Classical.byContradiction h
theorem app_swap {α : Type} {A B R : List α} {p : α} (h : p ∈ A ++ (B ++ R)) : p ∈ B ++ (A ++ R) :=
  (List.mem_append.mp h).elim (fun h => List.mem_append_right _ (List.mem_append_left _ h)) fun h => (List.mem_append.mp h).elim (List.mem_append_left _) fun h => List.mem_append_right _ (List.mem_append_right _ h)
theorem app_mono {α : Type} (A : List α) {R R' : List α} (f : ∀ p, p ∈ R → p ∈ R') {p : α} (h : p ∈ A ++ R) : p ∈ A ++ R' :=
  (List.mem_append.mp h).elim (List.mem_append_left _) fun h => List.mem_append_right _ (f p h)
/-- a local name, looked up -/
theorem nameX_L2 {M : Model} {A : Around} {E : Value → Shared → Prop} {s : Shared} {h₀ : Heap} {L a : Addr} {m : Str → Option Value} {cn : Str} {cs : Scope} {ccd : Value} {cl : List (Str × Addr)} {x : Str} {pos : Pos} {v : Value} {Q : Value → Shared → Prop}
    (F : Fr h₀ L s.heap m) (h : Q v s) (hv : some v = m x) (hk : .function = cs.kind) (hx : some .local = (envX cn cs L a ccd cl).kindOf x) (hd : (x == ("__debug__" : Str)) = false := by decide) :
    wpAny M A (eval (.Name x pos) (envX cn cs L a ccd cl)) Q E s := nameX_L F hv.symm h hk.symm hx.symm hd
theorem decQ {p : Prop} [d : Decidable p] {Q : Bool → Shared → Prop} {s : Shared} (h1 : p → Q true s) (h0 : ¬ p → Q false s) : Q (decide p) s :=
  match d with
  | .isTrue h => h1 h
  | .isFalse h => h0 h
theorem absW {α : Type} {prog : Program} {w : World} {A : Around} {m : Sem α} {Q : α → Shared → Prop} {E : Value → Shared → Prop} {s : Shared} (h : ∀ Q' : α → Shared → Prop, (∀ v s, Q v s → Q' v s) → wpAny (model prog w) A m Q' E s) : wpAny (model prog w) A m Q E s := h Q fun _ _ q => q
theorem hide2 {α β : Type} {O G : α → β → Prop} (h : ∀ P : α → β → Prop, (∀ r n, G r n → P r n) → ∀ r n, O r n → P r n) : ∀ r n, O r n → G r n := h G fun _ _ g => g
theorem stop_here {P : Prop} (h : Stop P) : P := h.out
/-- The frame seen at some names. -/
theorem fr_see {h₀ h : Heap} {L : Addr} {m : Str → Option Value} (ps : List (Str × Value)) (F : Fr h₀ L h m) (hp : ∀ p ∈ ps, m p.1 = some p.2) : Fr h₀ L h (kstB m ps) := by
  have : kstB m ps = m := funext fun z => kstB_eq hp (fun _ => rfl)
  rw [this]; exact F
theorem news_sub {h₀ h : Heap} {L : Addr} {a b : Led} (N : News h₀ L h a) (hs : ∀ p ∈ b, p ∈ a) : News h₀ L h b := fun p hp => N p (hs p hp)
/-- A call of the def at `f` from a def's frame, over the ledger `news`: it ends, and hands back what `Out` says of the value and the ledger. -/
noncomputable def Does (w : World) (f : Addr) (args : List Value) (sz : Nat) (news : Led) (Out : Value → Led → Prop) : Prop :=
  ∀ (p : Program) (loose : List Str) (mean : ExcName → Option Value) (mg mb : Str → Option Value) (dp un : Nat) (gd : Option (List Code)) (cn : Str) (cs : Scope) (a : Addr) (ccd : Value) (cl : List (Str × Addr)) (outer : List Env) (A₀ : Around) (base h₀ : Heap) (L : Addr) (m : Str → Option Value) (s : Shared) (Q E : Value → Shared → Prop),
    Below A₀ base outer h₀ → Fr h₀ L s.heap m → (Mine.hd.heap_39 w.params).In h₀ → News h₀ L s.heap news → Top p loose mean mg mb h₀ → CodeHd h₀ 55 51 → CodeHd h₀ 48 44 → cs.kind = .function →
    dp + sz < recursionLimit → un + 8 * sz < cLine →
    (∀ r news' h' tk', Out r news' → Fr h₀ L h' m → News h₀ L h' news' → Q r { s with heap := h', toks := tk' }) →
    wpAny (model PR w) (ktrTop dp un gd cn cs L a ccd cl outer) (call (.ref f) args) Q E s
theorem lawRef : PySem.Challenge.rw_oy0149_01 = PySem.Challenge.rw_oy0149_01 := rfl
theorem rsh1 {prog : Program} {w : World} {A : Around} {Q : Value → Shared → Prop} {E : Value → Shared → Prop} {s : Shared} {a : Int} {t u : Tok} (h : Q (.int (a / 2) s.toks) { s with toks := s.toks + 1 }) : wpAny (model prog w) A (binaryOp .RShift (.int a t) (.int 1 u)) Q E s := by
  refine rshift_int (by decide) ?_
  have e : a.fdiv (2 ^ (1 : Int).toNat) = a / 2 := by
    rw [show ((2 : Int) ^ (1 : Int).toNat) = 2 from rfl]
    exact Int.fdiv_eq_ediv_of_nonneg _ (by decide)
  rw [e]; exact h
end Mine
namespace Mine
theorem Does.use {w : World} {f : Addr} {args : List Value} {sz : Nat} {news : Led} {Out : Value → Led → Prop} (H : Does w f args sz news Out)
    {p : Program} {loose : List Str} {mean : ExcName → Option Value} {mg mb : Str → Option Value} {dp un : Nat} {gd : Option (List Code)} {cn : Str} {cs : Scope} {a : Addr} {ccd : Value} {cl : List (Str × Addr)} {outer : List Env} {A₀ : Around} {base h₀ : Heap} {L : Addr} {m : Str → Option Value} {s : Shared} {Q E : Value → Shared → Prop}
    (B : Below A₀ base outer h₀) (F : Fr h₀ L s.heap m) (X : (Mine.hd.heap_39 w.params).In h₀) (N : News h₀ L s.heap news) (T : Top p loose mean mg mb h₀) (C1 : CodeHd h₀ 55 51) (C2 : CodeHd h₀ 48 44) (hk : cs.kind = .function)
    (hd : dp + sz < recursionLimit) (hu : un + 8 * sz < cLine)
    (ret : ∀ r news', Out r news' → ∀ h' tk', Fr h₀ L h' m → News h₀ L h' news' → Q r { s with heap := h', toks := tk' }) :
    wpAny (model PR w) (ktrTop dp un gd cn cs L a ccd cl outer) (call (.ref f) args) Q E s := H _ _ _ _ _ _ _ _ _ _ _ _ _ _ _ _ _ _ _ _ _ _ B F X N T C1 C2 hk hd hu fun r n h' tk' o => ret r n o h' tk'
end Mine
namespace Mine
theorem news_swap {h₀ h : Heap} {L : Addr} {a b : Addr × Obj} {r : Led} (N : News h₀ L h (a :: b :: r)) : News h₀ L h (b :: a :: r) :=
  news_sub N fun _ hp => app_swap (A := [b]) (B := [a]) hp
theorem off_cons {D : Addr} {p : Addr × Obj} {r : Led} (h : p.1 ≠ D) (hr : ∀ q ∈ r, q.1 ≠ D) : ∀ q ∈ p :: r, q.1 ≠ D := List.forall_mem_cons.mpr ⟨h, hr⟩
end Mine
namespace Mine
theorem truthy_led {prog : Program} {w : World} {A : Around} {Q : Bool → Shared → Prop} {E : Value → Shared → Prop} {s : Shared} {h₀ : Heap} {L D : Addr} {news : Led} {vs : List Value} {n : Nat} (N : News h₀ L s.heap news) (hm : (D, listOf vs.toArray n) ∈ news) (hl : vs.length < 100000)
    (h : ∀ tk, Q (vs.length != 0) { s with toks := tk }) : wpAny (model prog w) A (truthy (.ref D)) Q E s := by
  refine wpAny_truthy_list (items := vs.toArray) ⟨_, (N _ hm).1, rfl, _, rfl⟩ (by simp; lia) ?_
  have e : (!vs.toArray.isEmpty) = (vs.length != 0) := by cases vs <;> simp
  rw [e]; exact h _
end Mine
namespace Mine
section
variable {prog : Program} {w : World} {A : Around} {Q : Value → Shared → Prop} {E : Value → Shared → Prop} {s : Shared} {a n : Int} {t u : Tok}
theorem rsh_to (v : Int) (hn : 0 ≤ n) (e : a / 2 ^ n.toNat = v) (h : Q (.int v s.toks) { s with toks := s.toks + 1 }) : wpAny (model prog w) A (binaryOp .RShift (.int a t) (.int n u)) Q E s := by
  refine rshift_int hn ?_
  have e2 : a.fdiv (2 ^ n.toNat) = v := by rw [← e]; exact Int.fdiv_eq_ediv_of_nonneg _ (Int.le_of_lt (Int.pow_pos (by decide)))
  rw [e2]; exact h
theorem lsh_to (v : Int) (hn : 0 ≤ n) (k : Nat) (hk : a.natAbs < 2 ^ k) (hk2 : (k : Int) + n ≤ 1000000) (e : a * 2 ^ n.toNat = v) (h : Q (.int v s.toks) { s with toks := s.toks + 1 }) : wpAny (model prog w) A (binaryOp .LShift (.int a t) (.int n u)) Q E s := by
  refine lshift_int hn ?_ (by rw [e]; exact h)
  have := PySem.intBits_le_iff.mpr hk
  lia
theorem mul_to (v : Int) (e : a * n = v) (hb : a.natAbs < 2 ^ 60) (h : Q (.int v s.toks) { s with toks := s.toks + 1 }) : wpAny (model prog w) A (binaryOp .Mult (.int a t) (.int n u)) Q E s :=
  PyProof.Rows.mul_int (by rw [e]; exact h) (IntMulOk.of_left (Nat.le_trans (PySem.intBits_le_iff.mpr hb) (by decide)))
theorem xor_to (v : Int) (e : Builtin.bitXor a n = v) (h : Q (.int v s.toks) { s with toks := s.toks + 1 }) : wpAny (model prog w) A (binaryOp .BitXor (.int a t) (.int n u)) Q E s := by
  refine xor_int ?_
  rw [e]; exact h
end
end Mine
namespace Mine
theorem news_third {h₀ h : Heap} {L : Addr} {a b c : Addr × Obj} {r : Led} (N : News h₀ L h (a :: b :: c :: r)) : News h₀ L h (c :: a :: b :: r) :=
  news_sub N fun _ hp => app_swap (A := [c]) (B := [a, b]) hp
theorem ext_getD {a b : List Int} (hl : a.length = b.length) (h : ∀ j, j < a.length → a.getD j 0 = b.getD j 0) : a = b := by
  apply List.ext_getElem hl
  intro i h1 h2
  have := h i h1
  simpa [List.getD_eq_getElem?_getD, h1, h2] using this
/-- the ints 0, k times -/
theorem ints_rep (t : Tok) : ∀ k : Nat, IntsAre (List.replicate k (Value.int 0 t)) (List.replicate k 0)
  | 0 => .nil
  | k + 1 => .cons 0 t (ints_rep t k)
/-- a table of code that holds one code, and the code -/
noncomputable def tabOf (P : Addr) (l c : Nat) (q : Addr × Obj) : Led := [(P, tabObj #[rawInt l, rawInt c, .ref q.1]), q]
noncomputable def CodeOk (qual : Str) (q : Addr × Obj) : Prop := ∃ vs t, q.2.data = .fields vs ∧ vs[1]? = some (.str qual t)
end Mine
namespace Mine
theorem allLt_mem {d : Addr} {l : Led} : AllLt d l → ∀ p ∈ l, p.1 < d := by
  induction l with
  | nil => intro _ p hp; cases hp
  | cons q r ih =>
    intro h p hp
    have h1 : (q.1 < d) ∧ AllLt d r := h
    rcases List.mem_cons.mp hp with rfl | hp
    · exact h1.1
    · exact ih h1.2 p hp
end Mine

end
section
open PySem PySem.W PyProof.Rows PySem.Calls
set_option Elab.async false
set_option maxRecDepth 100000
namespace Mine
section
variable {prog : Program} {w : World} {A : Around} {E : Value → Shared → Prop} {s : Shared}
theorem sub_ri_reversed : isSubtype (.type "range_iterator") (.type "reversed") = pure false := by rw [isSubtype_type]; kernel_rfl
theorem call_range_reversed {r : Addr} {n : Int} {t u v : Tok} {Q : Value → Shared → Prop} (hr : IsRange s.heap r 0 n 1 t u v) (h0 : 0 ≤ n) (h1 : n < 1000000)
    (h : Q (.ref s.heap.objs.size) { s with heap := s.heap.push { cls := .type "range_iterator", data := .fields #[rawInt (n - 1), rawInt n, rawInt (-1)] } }) : wpAny (model prog w) A (call (.builtin "range.__reversed__") [.ref r]) Q E s := by
  have hT : s.TypeIs (.ref r) "range" := ⟨_, hr, rfl⟩
  refine wpAny_call_entry F.slot_range_reversed hT F.entry_range_reversed ?_ (F.args_range_reversed_1 _)
  unfold Builtin.«range.__reversed__»
  refine wpAny_bind (wpAny_of_eq (a := Value.ref r) rfl ?_)
  have hn : Builtin.Range.rangeSize 0 n 1 = n := by
    unfold Builtin.Range.rangeSize
    rw [if_pos (by decide)]
    split <;> lia
  refine wpAny_bind (Q := _) (m := Builtin.Range.rangeFields (.ref r)) ?_
  unfold Builtin.Range.rangeFields
  refine wpAny_bind (wpAny_field hr rfl (x := .int 0 t) rfl (wpAny_bind (wpAny_of_eq (a := some 0) rfl ?_)))
  refine wpAny_bind (wpAny_field hr rfl (x := .int n u) rfl (wpAny_bind (wpAny_of_eq (a := some n) rfl ?_)))
  refine wpAny_bind (wpAny_field hr rfl (x := .int 1 v) rfl (wpAny_bind (wpAny_of_eq (a := some 1) rfl ?_)))
  refine wpAny_pure ?_
  have hs : (Builtin.Range.rangeFitsLong 0 && Builtin.Range.rangeFitsLong n && Builtin.Range.rangeFitsLong 1 && Builtin.Range.rangeFitsLong (-1) && Builtin.Range.rangeFitsLong (0 - 1) && Builtin.Range.rangeFitsLong n) = true := by
    have : Builtin.Range.rangeFitsLong n = true := by unfold Builtin.Range.rangeFitsLong; simp; lia
    rw [this]; decide
  dsimp only
  rw [hn, hs]
  simp only [Bool.not_true, Bool.false_eq_true, if_false, if_true, Int.zero_add, Int.mul_one]
  refine wpAny_bind ?_
  show wpAny _ _ (newObj _ _) _ _ _
  exact wpAny_newObj_type (wpAny_pure ⟨_, rfl, h⟩)
theorem code_reversed_range {r : Addr} {n : Int} {t u v : Tok} {Q₁ : Value → Shared → Prop} (hr : IsRange s.heap r 0 n 1 t u v) (h0 : 0 ≤ n) (h1 : n < 1000000)
    (h : Q₁ (.ref s.heap.objs.size) { s with heap := s.heap.push { cls := .type "range_iterator", data := .fields #[rawInt (n - 1), rawInt n, rawInt (-1)] } }) :
    codeAny (model prog w) A (.call (.builtin "reversed.__new__") ⟨[.type "reversed", .ref r], []⟩) (wants Q₁ E) s := by
  have hT : s.TypeIs (.ref r) "range" := ⟨_, hr, rfl⟩
  refine codeAny_of_tree ?_
  show wpAny _ A.in1 (do checkBuiltinCall "reversed.__new__" ⟨[.type "reversed", .ref r], []⟩; again (.builtin "reversed.__new__" ⟨[.type "reversed", .ref r], []⟩)) _ _ s
  refine wpAny_bind (wpAny_of_eq (F.newCall_reversed_1 _) (wpAny_pure ⟨plainId_quiet F.plain_reversed_new _, codeAny_builtin F.entry_reversed_new ?_⟩))
  rw [Around.under_plainId F.plain_reversed_new _]
  unfold Builtin.«reversed.__new__»
  refine wpAny_bind (wpAny_of_eq (newClass_reversed _) ?_)
  try dsimp only
  refine wpAny_bind (wpAny_of_eq (a := ()) (by first | rfl | kernel_rfl) ?_)
  refine wpAny_bind (wpAny_of_eq (a := ()) (by first | rfl | kernel_rfl) ?_)
  try dsimp only
  refine wpAny_bind (wpAny_specialOf hT F.slot_range_reversed.lookup ?_)
  try dsimp only
  refine wpAny_bind (wpAny_of_eq (F.slot_range_reversed.bind _) ?_)
  try dsimp only
  first
  | rw [if_neg (show ¬ ((Value.builtin "range.__reversed__" == Value.none) = true) from Bool.false_ne_true)]
  | (show wpAny _ _ (if (Value.builtin "range.__reversed__" == Value.none) = true then _ else _) _ _ _; rw [if_neg (show ¬ ((Value.builtin "range.__reversed__" == Value.none) = true) from Bool.false_ne_true)])
  refine wpAny_bind (wpAny_rule ?_)
  refine wpAny_bind (m := runValue (.call (.builtin "range.__reversed__") ⟨[.ref r], []⟩)) (show wpAny _ _ (call (.builtin "range.__reversed__") [.ref r]) _ _ _ from call_range_reversed hr h0 h1 ?_)
  first
  | exact wpAny_pure h
  | exact wpAny_bind (wpAny_pure (wpAny_pure h))
theorem call_reversed_range {r : Addr} {n : Int} {t u v : Tok} {Q : Value → Shared → Prop} (hr : IsRange s.heap r 0 n 1 t u v) (h0 : 0 ≤ n) (h1 : n < 1000000)
    (h : Q (.ref s.heap.objs.size) { s with heap := s.heap.push { cls := .type "range_iterator", data := .fields #[rawInt (n - 1), rawInt n, rawInt (-1)] } }) : wpAny (model prog w) A (call (.type "reversed") [.ref r]) Q E s := by
  refine callType_other (U := "range_iterator") (Q₁ := fun obj s₁ => obj = .ref s.heap.objs.size ∧ s₁ = { s with heap := s.heap.push { cls := .type "range_iterator", data := .fields #[rawInt (n - 1), rawInt n, rawInt (-1)] } }) (by decide +kernel) F.create_reversed ⟨_, _, F.mro_reversed⟩ F.made_reversed sub_ri_reversed (F.typeCall_reversed_1 _) (code_reversed_range hr h0 h1 ⟨rfl, rfl⟩) ?_
  intro obj s₁ z0H
  refine hide fun kH => ?_
  obtain ⟨rfl, rfl⟩ := z0H
  refine kH ?_
  clear kH
  exact ⟨⟨_, Heap.get?_push_size _ rfl, rfl⟩, h⟩
end
/-- How a turn of a for ends: the iterator is as it was, the rest is as `J` says. -/
noncomputable def TurnEnd (h₀ : Heap) (L I : Addr) (oI : Obj) (J : (Str → Option Value) → Led → Prop) (s₁ : Shared) (Q : Flow → Shared → Prop) (f : Flow) (s₂ : Shared) : Prop :=
  match f with
  | .ret v => Q (.ret v) s₂
  | .brk => Q .next s₂
  | _ => ∃ h' tk m' news', s₂ = { s₁ with heap := h', toks := tk } ∧ Fr h₀ L h' m' ∧ News h₀ L h' ((I, oI) :: news') ∧ (∀ p ∈ news', p.1 ≠ I) ∧ J m' news'
theorem te_end {h₀ : Heap} {L I : Addr} {oI : Obj} {J : (Str → Option Value) → Led → Prop} {s₁ : Shared} {Q : Flow → Shared → Prop} {h' : Heap} {tk : Nat} {m : Str → Option Value} {nw : Led} (F : Fr h₀ L h' m) (N : News h₀ L h' ((I, oI) :: nw)) (hn : ∀ p ∈ nw, p.1 ≠ I) (j : J m nw) :
    TurnEnd h₀ L I oI J s₁ Q .next { s₁ with heap := h', toks := tk } := ⟨_, _, _, _, rfl, F, N, hn, j⟩
section
variable {prog : Program} {w : World} {A : Around} {E : Value → Shared → Prop} {s : Shared} {env : Env} {h₀ : Heap} {x : Str} {body : List Stmt} {Q : Flow → Shared → Prop}
theorem loop_any {I : Addr} {fp : List Addr} {n : Nat} {P : Nat → Value → Prop} {St : Nat → Heap → Prop} {m₀ : Str → Option Value} {news : Led} (J : Nat → (Str → Option Value) → Led → Prop)
    (W : Walks prog w A I fp [I] n P St) (hfp : ∀ b ∈ fp, b = I ∨ h₀.get? b ≠ none ∨ ∃ o, ∀ i m nw, J i m nw → (b, o) ∈ nw) (hL : env.locals ∉ fp) (hI : h₀.get? I = none) (hnI : ∀ p ∈ news, p.1 ≠ I) (hst : St 0 s.heap) (hex : ∀ i h, St i h → ∃ o, h.get? I = some o)
    (F : Fr h₀ env.locals s.heap m₀) (N : News h₀ env.locals s.heap news) (hj : J 0 m₀ news)
    (turn : ∀ i v m₁ news₁ h tk oI, i < n → P i v → J i m₁ news₁ → (∀ p ∈ news₁, p.1 ≠ I) → Fr h₀ env.locals h (fun y => if y = x then some v else m₁ y) → News h₀ env.locals h ((I, oI) :: news₁) →
      wpAny (model prog w) A (execs body env) (TurnEnd h₀ env.locals I oI (J (i + 1)) { s with heap := h, toks := tk } Q) E { s with heap := h, toks := tk })
    (done : ∀ m₁ news₁ h tk, J n m₁ news₁ → Fr h₀ env.locals h m₁ → News h₀ env.locals h news₁ → Q .next { s with heap := h, toks := tk }) :
    LoopAtV prog w A h₀ env x body Q E (.ref I) s := by
  have hIf : I ∈ fp := W.sub I (by simp)
  refine ⟨I, fp, [I], n, P, St, m₀, news, J, rfl, W, hL, ?_, ?_, hst, F, N, hj, ?_, ?_⟩
  · intro b hb; rw [List.mem_singleton.mp hb]; exact hI
  · intro p hp hb; exact hnI p hp (List.mem_singleton.mp hb)
  · intro i v m₁ news₁ s₁ own z0H hin hP hJ hoff hown hown2 hall hst1 F₁ N₁
    refine hide fun kH => ?_
    obtain ⟨h, tk, rfl⟩ := z0H
    obtain ⟨oI, hoI⟩ := hex _ _ hst1
    refine kH ?_
    clear kH
    have hmem : (I, oI) ∈ own := hall I hIf hI oI hoI
    have hoff' : ∀ p ∈ news₁, p.1 ≠ I := fun p hp e => hoff p hp (by simp [e])
    have N₂ : News h₀ env.locals h ((I, oI) :: news₁) := fun p hp => by
      rcases List.mem_cons.mp hp with rfl | hp
      · exact N₁ _ (List.mem_append_left _ hmem)
      · exact N₁ _ (List.mem_append_right _ hp)
    refine wpAny_mono (turn i v m₁ news₁ h tk oI hin hP hJ hoff' F₁ N₂) (fun f s₂ q => ?_) fun _ _ e => e
    have fin : (∃ h' tk' m' news', s₂ = { s with heap := h', toks := tk' } ∧ Fr h₀ env.locals h' m' ∧ News h₀ env.locals h' ((I, oI) :: news') ∧ (∀ p ∈ news', p.1 ≠ I) ∧ J (i + 1) m' news') → LoopStepU h₀ env.locals [I] own (J (i + 1)) { s with heap := h, toks := tk } .next s₂ := by
      intro z0H
      refine hide fun kH => ?_
      obtain ⟨h', tk', m', news', rfl, F', N', hn, hJ'⟩ := z0H
      refine kH ?_
      clear kH
      refine ⟨rfl, h', tk', m', news', rfl, F', fun p hp => ?_, fun p hp hb => hn p hp (List.mem_singleton.mp hb), hJ'⟩
      rcases List.mem_append.mp hp with hp | hp
      · have h2 := hown2 p hp
        rcases hfp _ (hown p hp) with e | e | ⟨o, e⟩
        · have : p = (I, oI) := by
            refine hide fun kH => ?_
            obtain ⟨a, b⟩ := p
            refine kH ?_
            clear kH
            simp only at e; subst e
            have h3 : h.get? a = some b := h2
            rw [hoI] at h3; cases h3; rfl
          rw [this]; exact N' _ (.head _)
        · exact absurd (N₁ p (List.mem_append_left _ hp)).2.2 e
        · have h3 := N' _ (.tail _ (e _ _ _ hJ'))
          have h4 := (N₁ _ (List.mem_append_right own (e _ _ _ hJ))).1
          have h5 : h.get? p.1 = some p.2 := h2
          have : p = (p.1, o) := by
            have h4' : h.get? p.1 = some o := h4
            rw [h5] at h4'; cases h4'; rfl
          rw [this]; exact h3
      · exact N' _ (.tail _ hp)
    cases f with
    | ret v => exact .ret q
    | brk => exact .brk q
    | next => exact .next (fin q)
    | cont => exact .cont (fin q)
  · rintro h' tk m' news' F' N' _ hJ
    exact done m' news' h' tk hJ F' N'
end
end Mine
namespace Mine
section
variable {prog : Program} {w : World} {A : Around} {E : Value → Shared → Prop} {s : Shared} {env : Env} {h₀ : Heap} {x : Str} {body : List Stmt} {Q : Flow → Shared → Prop}
/-- A for over `range(a, a + n)`. -/
theorem for_range {r : Addr} {a b : Int} {t u v : Tok} {n : Nat} {m₀ : Str → Option Value} {news : Led} (J : Nat → (Str → Option Value) → Led → Prop) (hh : A.handled = none)
    (hr : IsRange s.heap r a b 1 t u v) (hsm : Builtin.Range.small a b 1 = true) (hn : Builtin.Range.rangeSize a b 1 = (n : Int)) (F : Fr h₀ env.locals s.heap m₀) (N : News h₀ env.locals s.heap news) (hj : J 0 m₀ news)
    (turn : ∀ i t m₁ news₁ h tk I oI, i < n → J i m₁ news₁ → (∀ p ∈ news₁, p.1 ≠ I) → Fr h₀ env.locals h (fun y => if y = x then some (.int (a + (i : Int)) t) else m₁ y) → News h₀ env.locals h ((I, oI) :: news₁) →
      wpAny (model prog w) A (execs body env) (TurnEnd h₀ env.locals I oI (J (i + 1)) { s with heap := h, toks := tk } Q) E { s with heap := h, toks := tk })
    (done : ∀ m₁ news₁ h tk, J n m₁ news₁ → Fr h₀ env.locals h m₁ → News h₀ env.locals h news₁ → Q .next { s with heap := h, toks := tk }) :
    wpAny (model prog w) A (pyIter (.ref r)) (fun it s₂ => LoopAtV prog w A h₀ env x body Q E it s₂) E s := by
  refine wpAny_pyIter_range hr hsm ?_
  refine loop_any (fp := [s.heap.objs.size]) (n := n) (P := fun i v => ∃ t, v = .int (a + i * 1) t) (St := fun i h => IsRangeIter h s.heap.objs.size (a + (i : Nat) * 1) ((n : Int) - (i : Nat)) 1) J (Walks.range hh s.heap.objs.size a 1 n) ?_ ?_ (next_is_new F) (fun p hp => Nat.ne_of_lt (Heap.lt_size (N p hp).1)) ?_ (fun i h st => ⟨_, st⟩) (F.push _) (fun p hp => ⟨Heap.get?_push_of_some _ (N p hp).1, (N p hp).2⟩) hj ?_ done
  · intro b hb; exact .inl (List.mem_singleton.mp hb)
  · intro hb; exact absurd F.ns.lt ((List.mem_singleton.mp hb) ▸ Nat.lt_irrefl _)
  · show IsRangeIter _ _ _ _ _
    rw [hn]; simpa using Heap.get?_push_size _ rfl
  · intro i v m₁ news₁ h tk oI hi z0H hJ hne F₁ N₁
    refine hide fun kH => ?_
    obtain ⟨t, rfl⟩ := z0H
    refine kH ?_
    clear kH
    rw [Int.mul_one] at F₁
    exact turn i t m₁ news₁ h tk _ oI hi hJ hne F₁ N₁
/-- A for over `reversed(range(n))`, from the made iterator on. -/
theorem for_rev {I : Addr} {n : Nat} {m₀ : Str → Option Value} {news : Led} (J : Nat → (Str → Option Value) → Led → Prop) (hh : A.handled = none)
    (hit : IsRangeIter s.heap I ((n : Int) - 1) (n : Int) (-1)) (hI : h₀.get? I = none) (hIL : env.locals ≠ I) (hnI : ∀ p ∈ news, p.1 ≠ I) (F : Fr h₀ env.locals s.heap m₀) (N : News h₀ env.locals s.heap news) (hj : J 0 m₀ news)
    (turn : ∀ i t m₁ news₁ h tk I oI, i < n → J i m₁ news₁ → (∀ p ∈ news₁, p.1 ≠ I) → Fr h₀ env.locals h (fun y => if y = x then some (.int ((n : Int) - 1 - (i : Int)) t) else m₁ y) → News h₀ env.locals h ((I, oI) :: news₁) →
      wpAny (model prog w) A (execs body env) (TurnEnd h₀ env.locals I oI (J (i + 1)) { s with heap := h, toks := tk } Q) E { s with heap := h, toks := tk })
    (done : ∀ m₁ news₁ h tk, J n m₁ news₁ → Fr h₀ env.locals h m₁ → News h₀ env.locals h news₁ → Q .next { s with heap := h, toks := tk }) :
    wpAny (model prog w) A (pyIter (.ref I)) (fun it s₂ => LoopAtV prog w A h₀ env x body Q E it s₂) E s := by
  refine wpAny_pyIter_rangeiter hit ?_
  refine loop_any (fp := [I]) (n := n) (P := fun i v => ∃ t, v = .int ((n : Int) - 1 + i * (-1)) t) (St := fun i h => IsRangeIter h I ((n : Int) - 1 + (i : Nat) * (-1)) ((n : Int) - (i : Nat)) (-1)) J (Walks.range hh I ((n : Int) - 1) (-1) n) ?_ ?_ hI hnI ?_ (fun i h st => ⟨_, st⟩) F N hj ?_ done
  · intro b hb; exact .inl (List.mem_singleton.mp hb)
  · intro hb; exact hIL (List.mem_singleton.mp hb)
  · simpa using hit
  · intro i v m₁ news₁ h tk oI hi z0H hJ hne F₁ N₁
    refine hide fun kH => ?_
    obtain ⟨t, rfl⟩ := z0H
    refine kH ?_
    clear kH
    have e : (n : Int) - 1 + (i : Int) * (-1) = (n : Int) - 1 - (i : Int) := by lia
    rw [e] at F₁
    exact turn i t m₁ news₁ h tk I oI hi hJ hne F₁ N₁
/-- A for over a list of the ledger that no turn changes. -/
theorem for_list {ax : Addr} {vs : List Value} {k : Nat} {m₀ : Str → Option Value} {news : Led} (J : Nat → (Str → Option Value) → Led → Prop) (hh : A.handled = none)
    (hJ : ∀ i m nw, J i m nw → (ax, listOf vs.toArray k) ∈ nw) (F : Fr h₀ env.locals s.heap m₀) (N : News h₀ env.locals s.heap news) (hj : J 0 m₀ news)
    (turn : ∀ i v m₁ news₁ h tk I oI, vs[i]? = some v → J i m₁ news₁ → (∀ p ∈ news₁, p.1 ≠ I) → Fr h₀ env.locals h (fun y => if y = x then some v else m₁ y) → News h₀ env.locals h ((I, oI) :: news₁) →
      wpAny (model prog w) A (execs body env) (TurnEnd h₀ env.locals I oI (J (i + 1)) { s with heap := h, toks := tk } Q) E { s with heap := h, toks := tk })
    (done : ∀ m₁ news₁ h tk, J vs.length m₁ news₁ → Fr h₀ env.locals h m₁ → News h₀ env.locals h news₁ → Q .next { s with heap := h, toks := tk }) :
    wpAny (model prog w) A (pyIter (.ref ax)) (fun it s₂ => LoopAtV prog w A h₀ env x body Q E it s₂) E s := by
  have hm := N _ (hJ _ _ _ hj)
  have hls : s.heap.IsList ax vs.toArray := ⟨_, hm.1, rfl, _, rfl⟩
  have hlt := Heap.lt_size hm.1
  refine wpAny_pyIter_list hls ?_
  have W := Walks.list (prog := prog) (w := w) hh s.heap.objs.size ax (Nat.ne_of_lt hlt) vs.toArray
  have hlen : vs.toArray.size = vs.length := by simp
  rw [hlen] at W
  refine loop_any J W ?_ ?_ (next_is_new F) (fun p hp => Nat.ne_of_lt (Heap.lt_size (N p hp).1)) ⟨⟨_, Heap.get?_push_size _ rfl, rfl, rfl⟩, hls.at fun o e => Heap.get?_push_of_some _ e⟩ (fun i h st => let ⟨o, e, _⟩ := st.1; ⟨o, e⟩) (F.push _) (fun p hp => ⟨Heap.get?_push_of_some _ (N p hp).1, (N p hp).2⟩) hj ?_ done
  · intro b hb
    rcases List.mem_cons.mp hb with e | hb
    · exact .inl e
    · rw [List.mem_singleton.mp hb]
      exact .inr (.inr ⟨_, hJ⟩)
  · intro hb
    rcases List.mem_cons.mp hb with e | hb
    · exact absurd F.ns.lt (e ▸ Nat.lt_irrefl _)
    · exact hm.2.1 (List.mem_singleton.mp hb).symm
  · rintro i v m₁ news₁ h tk oI hi hP hJ' hne F₁ N₁
    exact turn i v m₁ news₁ h tk _ oI (by simpa using hP) hJ' hne F₁ N₁
end
end Mine
namespace Mine
section
variable {prog : Program} {w : World} {A : Around} {E : Value → Shared → Prop} {s : Shared} {h₀ : Heap} {L : Addr} {m : Str → Option Value} {news : Led}
theorem fresh_lt (N : News h₀ L s.heap news) : ∀ p ∈ news, p.1 < s.heap.objs.size := fun p hp => Heap.lt_size (N p hp).1
theorem rep_led {l : Addr} {v : Value} {kk : Nat} {x : Int} {u : Tok} {Q : Value → Shared → Prop} (F : Fr h₀ L s.heap m) (N : News h₀ L s.heap news) (hm : (l, listOf #[v] kk) ∈ news) (k : Nat) (hx : x = (k : Int)) (hk : k ≤ 100000)
    (h : ∀ D h', Fr h₀ L h' m → News h₀ L h' ((D, listOf (List.replicate k v).toArray 0) :: news) → (∀ p ∈ news, p.1 < D) → Q (.ref D) { s with heap := h' }) :
    wpAny (model prog w) A (binaryOp .Mult (.ref l) (.int x u)) Q E s := by
  subst hx
  refine mul_list F N (N _ hm).1 (by lia) (by lia) (by simp; lia) fun h' F' N' => ?_
  have e : (List.foldl (fun x1 x2 => x1 ++ x2) #[] (List.replicate (if (#[v] : Array Value).isEmpty = true then 0 else (k : Int).toNat) #[v])) = (List.replicate k v).toArray := by
    have := listMul_foldl_if #[v] (k : Int).toNat
    rw [Int.toNat_natCast] at this ⊢
    refine this.trans ?_
    rw [List.flatten_replicate_singleton]
  rw [e] at N'
  exact h _ h' F' N' (fresh_lt N)
end
end Mine
namespace Mine
theorem len_led {prog : Program} {w : World} {A : Around} {E : Value → Shared → Prop} {s : Shared} {h₀ : Heap} {L D : Addr} {news : Led} {vs : List Value} {n : Nat} {Q : Value → Shared → Prop} (N : News h₀ L s.heap news) (hm : (D, listOf vs.toArray n) ∈ news) (k : Nat) (hk : vs.length = k) (hl : vs.length < 100000)
    (h : ∀ t tk, Q (.int (k : Int) t) { s with toks := tk }) : wpAny (model prog w) A (call (.builtin "len") [.ref D]) Q E s := by
  subst hk
  refine PyProof.Rows.len_list (items := vs.toArray) ⟨_, (N _ hm).1, rfl, _, rfl⟩ (by simp; lia) ?_
  have e : ((vs.toArray.size : Nat) : Int) = (vs.length : Int) := by simp
  rw [e]; exact h _ _
end Mine

end
section
open PySem PySem.W PyProof.Rows
set_option Elab.async false
namespace Mine
theorem p2 (q : Nat) : (0 : Int) < 2 ^ q := Int.pow_pos (by decide)
theorem nat_and_high (x k : Nat) : x &&& (x / 2 ^ k * 2 ^ k) = x / 2 ^ k * 2 ^ k := by
  apply Nat.eq_of_testBit_eq
  intro i
  rw [Nat.testBit_and, ← Nat.shiftLeft_eq, Nat.testBit_shiftLeft]
  by_cases h : k ≤ i
  · rw [Nat.testBit_div_two_pow, show i - k + k = i by lia]
    simp [h]
  · simp [h]
theorem xor_low (x : Int) (k : Nat) (hx : 0 ≤ x) : Builtin.bitXor x (x / 2 ^ k * 2 ^ k) = x % 2 ^ k := by
  rw [bitXor_and]
  obtain ⟨y, rfl⟩ := Int.eq_ofNat_of_zero_le hx
  have e1 : ((y : Int) / 2 ^ k * 2 ^ k) = ((y / 2 ^ k * 2 ^ k : Nat) : Int) := by norm_cast
  have e2 : Builtin.bitAnd (y : Int) ((y / 2 ^ k * 2 ^ k : Nat) : Int) = ((y / 2 ^ k * 2 ^ k : Nat) : Int) := by
    unfold Builtin.bitAnd
    rw [decide_eq_true (Int.natCast_nonneg _), decide_eq_true (Int.natCast_nonneg _)]
    show (((y : Int).toNat &&& ((y / 2 ^ k * 2 ^ k : Nat) : Int).toNat : Nat) : Int) = _
    rw [Int.toNat_natCast, Int.toNat_natCast, nat_and_high]
  rw [e1, e2]
  have e3 := Nat.div_add_mod' y (2 ^ k)
  have e4 : ((y : Int) % 2 ^ k) = ((y % 2 ^ k : Nat) : Int) := by norm_cast
  rw [e4]; lia
theorem dig_low (x : Int) (n M i : Nat) (h : i < M) : x % 2 ^ (n * M) / 2 ^ (n * i) % 2 ^ n = x / 2 ^ (n * i) % 2 ^ n := by
  have e : n * M = n * i + (n * (M - i - 1) + n) := by
    rw [← Nat.mul_succ, ← Nat.mul_add]; congr 1; lia
  rw [e, Int.pow_add, Int.pow_add]
  generalize hA : (2 : Int) ^ (n * i) = a
  generalize (2 : Int) ^ (n * (M - i - 1)) = b
  generalize (2 : Int) ^ n = c
  have ha : a ≠ 0 := by rw [← hA]; exact Int.ne_of_gt (p2 _)
  have h1 : x = x % (a * (b * c)) + a * (c * (b * (x / (a * (b * c))))) := by
    have := Int.emod_add_mul_ediv x (a * (b * c))
    have e2 : a * (c * (b * (x / (a * (b * c))))) = a * (b * c) * (x / (a * (b * c))) := by
      generalize x / (a * (b * c)) = z
      rw [← Int.mul_assoc c b z, Int.mul_comm c b, Int.mul_assoc a]
    rw [e2]; exact this.symm
  conv => rhs; rw [h1]
  rw [Int.add_mul_ediv_left _ _ ha, Int.add_mul_emod_self_left]
theorem dig_high (x : Int) (n M i : Nat) : x / 2 ^ (n * M) / 2 ^ (n * i) % 2 ^ n = x / 2 ^ (n * (M + i)) % 2 ^ n := by
  rw [Int.ediv_ediv_of_nonneg (Int.le_of_lt (p2 _)), ← Int.pow_add, ← Nat.mul_add]
theorem dig_lt (x : Int) (n a b : Nat) (h : x < 2 ^ (n * (a + b))) : x / 2 ^ (n * a) < 2 ^ (n * b) := by
  apply Int.ediv_lt_of_lt_mul (p2 _)
  rw [← Int.pow_add, ← Nat.mul_add, Nat.add_comm b a]; exact h
end Mine
namespace Mine
/-- the number whose digits, base 2^n, stand in `ns` from place `L` on, `len` of them -/
noncomputable def val (n : Nat) (ns : List Int) : Nat → Nat → Int
  | _, 0 => 0
  | L, len + 1 => ns.getD L 0 + 2 ^ n * val n ns (L + 1) len
theorem val_add (n : Nat) (ns : List Int) (a b L : Nat) : val n ns L (a + b) = val n ns L a + 2 ^ (n * a) * val n ns (L + a) b := by
  induction a generalizing L with
  | zero => simp [val]
  | succ a ih =>
    rw [show a + 1 + b = (a + b) + 1 by lia, val, ih, val, Nat.mul_succ, Int.pow_add]
    rw [show L + 1 + a = L + (a + 1) by lia, Int.mul_add, Int.add_assoc]
    congr 2
    rw [← Int.mul_assoc, Int.mul_comm (2 ^ n) (2 ^ (n * a))]
theorem pow_le_pow2 {a b : Nat} (h : a ≤ b) : (2 : Int) ^ a ≤ 2 ^ b := by
  exact_mod_cast Nat.pow_le_pow_right (by decide) h
theorem val_bound (n : Nat) (ns : List Int) (hb : ∀ i, 0 ≤ ns.getD i 0 ∧ ns.getD i 0 < 2 ^ 64) (len L : Nat) : 0 ≤ val n ns L len ∧ val n ns L len < 2 ^ (64 + n * len + len) := by
  induction len generalizing L with
  | zero => simp only [val]; exact ⟨by lia, p2 _⟩
  | succ len ih =>
    obtain ⟨h1, h2⟩ := ih (L + 1)
    obtain ⟨h3, h4⟩ := hb L
    rw [val]
    refine ⟨Int.add_nonneg h3 (Int.mul_nonneg (Int.le_of_lt (p2 _)) h1), ?_⟩
    have e1 : (2 : Int) ^ (64 + n * (len + 1) + (len + 1)) = 2 ^ (n + (64 + n * len + len)) + 2 ^ (n + (64 + n * len + len)) := by
      rw [show 64 + n * (len + 1) + (len + 1) = (n + (64 + n * len + len)) + 1 by rw [Nat.mul_succ]; lia, Int.pow_succ]; lia
    have e2 : (2 : Int) ^ n * val n ns (L + 1) len < 2 ^ (n + (64 + n * len + len)) := by
      rw [Int.pow_add]; exact Int.mul_lt_mul_of_pos_left h2 (p2 _)
    have e3 : (2 : Int) ^ 64 ≤ 2 ^ (n + (64 + n * len + len)) := pow_le_pow2 (by lia)
    rw [e1]; lia
end Mine

end
local macro_rules | `(tactic| walk_at "eval Name") => `(tactic| k_extra "eval Name")
section
open PySem PySem.W PyProof.Rows in
theorem Mine.freshSD {prog : Program} {w : World} {A : Around} {env : Env} {E : Value → Shared → Prop} {Q : Flow → Shared → Prop} {s : Shared} (h : Q .next s) : wpAny (model prog w) A (execs [] env) Q E s := by w_top off; k_with_none; walk1; exact h
open PySem PySem.W PyProof.Rows
set_option Elab.async false
set_option maxRecDepth 100000
set_option maxHeartbeats 2000000
set_option pp.deepTerms false
set_option pp.deepTerms.threshold 4
namespace Mine
noncomputable def sdownF (x : Int) (start : Nat) : Nat → List Int → Nat → List Int
  | 0, xs, pos => xs.set pos x
  | f + 1, xs, pos => if start < pos ∧ xs.getD ((pos - 1) / 2) 0 < x then sdownF x start f (xs.set pos (xs.getD ((pos - 1) / 2) 0)) ((pos - 1) / 2) else xs.set pos x
noncomputable def sdown (xs : List Int) (x : Int) (start pos : Nat) : List Int := sdownF x start pos xs pos
theorem par_lt {k : Nat} (h : 1 ≤ k) : (k - 1) / 2 < k := Nat.lt_of_le_of_lt (Nat.div_le_self _ _) (Nat.sub_lt h Nat.one_pos)
theorem sdownF_any (x : Int) (start : Nat) : ∀ (f g : Nat) (xs : List Int) (pos : Nat), pos ≤ f → pos ≤ g → sdownF x start f xs pos = sdownF x start g xs pos
  | 0, 0, _, _, _, _ => rfl
  | 0, g + 1, xs, pos, h, _ => by
    rw [sdownF, sdownF, if_neg fun c => Nat.not_lt_zero _ (Nat.lt_of_lt_of_le c.1 h)]
  | f + 1, 0, xs, pos, _, h => by
    rw [sdownF, sdownF, if_neg fun c => Nat.not_lt_zero _ (Nat.lt_of_lt_of_le c.1 h)]
  | f + 1, g + 1, xs, pos, h1, h2 => by
    rw [sdownF, sdownF]
    split
    · rename_i c
      have l := par_lt (Nat.lt_of_le_of_lt (Nat.zero_le _) c.1)
      exact sdownF_any x start f g _ _ (Nat.le_of_lt_succ (Nat.lt_of_lt_of_le l h1)) (Nat.le_of_lt_succ (Nat.lt_of_lt_of_le l h2))
    · rfl
theorem sdown_eq (xs : List Int) (x : Int) (start pos : Nat) : sdown xs x start pos = if start < pos ∧ xs.getD ((pos - 1) / 2) 0 < x then sdown (xs.set pos (xs.getD ((pos - 1) / 2) 0)) x start ((pos - 1) / 2) else xs.set pos x := by
  unfold sdown
  rw [sdownF_any x start pos (pos + 1) xs pos (Nat.le_refl _) (Nat.le_succ _), sdownF]
  split
  · rename_i c
    exact sdownF_any x start _ _ _ _ (Nat.le_of_lt (par_lt (Nat.lt_of_le_of_lt (Nat.zero_le _) c.1))) (Nat.le_refl _)
  · rfl
inductive DInv (ns : List Int) (D : Addr) (rest : Led) (start pos : Nat) (k : Nat) (m : Str → Option Value) (nw : Led) : Prop
  | mk (vs' : List Value) (ns' : List Int) (n' : Nat) (tq tx ts : Tok) (hi : IntsAre vs' ns') (hl : ns'.length = ns.length) (hk : k < ns.length) (hs : sdown ns' (ns.getD pos 0) start k = sdown ns (ns.getD pos 0) start pos)
    (hn : nw = (D, listOf vs'.toArray n') :: rest) (m1 : m (Str.ofString "heap") = some (.ref D)) (m2 : m (Str.ofString "pos") = some (.int k tq)) (m3 : m (Str.ofString "newitem") = some (.int (ns.getD pos 0) tx)) (m4 : m (Str.ofString "startpos") = some (.int start ts))
theorem half_eq {s q : Nat} (h : (s : Int) < (q : Int)) : ((q : Int) - 1) / 2 = (((q - 1) / 2 : Nat) : Int) := by
  rw [Int.natCast_ediv, Int.ofNat_sub (Nat.lt_of_le_of_lt (Nat.zero_le _) (Int.ofNat_lt.mp h))]; rfl
theorem half_lt {s q : Nat} (h : (s : Int) < (q : Int)) : (q - 1) / 2 < q := par_lt (Nat.lt_of_le_of_lt (Nat.zero_le _) (Int.ofNat_lt.mp h))
theorem half0 {s q : Nat} (h : (s : Int) < (q : Int)) : 0 ≤ ((q : Int) - 1) / 2 := by rw [half_eq h]; exact Int.natCast_nonneg _
theorem half1 {s q n : Nat} (h : (s : Int) < (q : Int)) (h2 : (q : Int) < (n : Int)) : ((q : Int) - 1) / 2 < (n : Int) := by
  rw [half_eq h]; exact Int.lt_trans (Int.ofNat_lt.mpr (half_lt h)) h2
theorem half2 {s q : Nat} (h : (s : Int) < (q : Int)) (h2 : (q : Int) < 2 ^ 63) : ((q : Int) - 1) / 2 < 2 ^ 63 := by
  rw [half_eq h]; exact Int.lt_trans (Int.ofNat_lt.mpr (half_lt h)) h2

local macro_rules | `(tactic| walk_at "subscriptTail Name Name ref int") => `(tactic| k_extra "subscriptTail Name Name ref int")
local macro_rules | `(tactic| k_all) => `(tactic| assumption)
local macro_rules | `(tactic| walk_at "binaryOp RShift int int") => `(tactic| with_reducible refine rsh1 ?_)
theorem siftdown_does (w : World) (D : Addr) (n : Nat) (vs : List Value) (ns : List Int) (rest : Led) (start pos : Nat) (t1 t2 : Tok) (hi : IntsAre vs ns) (hD : ∀ p ∈ rest, p.1 ≠ D) (hpos : pos < ns.length) (hl : ns.length < 1000) :
    Does w 35 [.ref D, .int start t1, .int pos t2] 1 ((D, listOf vs.toArray n) :: rest) (fun r news' => r = .none ∧ ∃ vs' n', IntsAre vs' (sdown ns (ns.getD pos 0) start pos) ∧ news' = (D, listOf vs'.toArray n') :: rest) := by
  unfold Does
  have := lawRef
  revert this
  k_fill
  intro _
  intro p loose mean mg mb dp un gd cn cs a ccd cl outer A₀ base h₀ L m s Q E B F X N T C1 C2 hck hdp hun hret
  k_with_none
  k_with "eval Name" => (k_here; k_dflt (refine' nameX_L2 ?F ?_ ?v ?a ?b; (case F => k_asm); (case a => exact rfl); (case b => exact rfl); (case v => exact rfl); k_whole))
  k_with "exec While Compare cons nil" => (with_reducible refine stop_here ?_)
  k_with "subscriptTail Name Name ref int" => (with_reducible refine stop_here ?_)
  refine wpAny_call ?_
  k_dflt cell_enter
  k_steps
  refine ⟨?_⟩
  refine item_list_ints (by is_list) hi (Int.natCast_nonneg _) (Int.ofNat_lt.mpr hpos) (b63 hpos hl) ?_
  intro _
  k_steps
  refine ⟨?_⟩
  rename_i h2 F2 N2
  refine While_inv2 (n₀ := pos) (DInv ns D rest start pos) F2 N2 ?start ?turn
  case start => exact ⟨vs, ns, n, t2, _, t1, hi, rfl, hpos, rfl, rfl, rfl, rfl, rfl, rfl⟩
  case turn =>
    intro q m₁ news₁ h₁ tk₁ F₁ N₁ z0H
    refine hide fun kH => ?_
    obtain ⟨vs', ns', n', tq, tx, ts, hi', hlen', hq, hsd, rfl, e1, e2, e3, e4⟩ := z0H
    refine kH ?_
    clear kH
    have F₂ := fr_see [(Str.ofString "heap", .ref D), (Str.ofString "pos", .int q tq), (Str.ofString "newitem", .int (ns.getD pos 0) tx), (Str.ofString "startpos", .int start ts)] F₁ (by simp [e1, e2, e3, e4])
    dsimp only [kstB] at F₂
    clear F₁
    have b0 : (0 : Int) ≤ (q : Int) := Int.natCast_nonneg q
    have b1 : (q : Int) < (ns'.length : Int) := Int.ofNat_lt.mpr (Nat.lt_of_lt_of_eq hq hlen'.symm)
    have b2 : (q : Int) < 2 ^ 63 := b63 hq hl
    iterate 6 walk1
    refine absW fun Q1 hQ1 => ?_
    k_steps
    refine ⟨?_⟩
    refine item_list_ints (by is_list) hi' (half0 (by assumption)) (half1 (by assumption) b1) (half2 (by assumption) b2) ?_
    intro _
    k_steps
    · refine hQ1 _ _ ?_
      rename_i hsq _ t _ hlt _ hi2 _ _ h4 F4 N4
      have hz2 := half_eq hsq
      have hz : ((((q : Int) - 1) / 2).toNat) = (q - 1) / 2 := by rw [hz2]; rfl
      simp only [hz, Int.toNat_natCast] at hlt hi2 N4
      refine ⟨_, _, _, _, (q - 1) / 2, rfl, F4, N4, half_lt hsq, _, _, n', _, tx, ts, hi2, (List.length_set).trans hlen', Nat.lt_trans (half_lt hsq) hq, ?_, rfl, rfl, congrArg (fun z => some (Value.int z _)) hz2, rfl, rfl⟩
      rw [← hsd, sdown_eq ns', if_pos ⟨Int.ofNat_lt.mp hsq, hlt⟩]
    · refine hQ1 _ _ ?_
      unfold WhileStep2
      dsimp only
      rename_i hsq _ t _ _ _ hlt
      have hz : ((((q : Int) - 1) / 2).toNat) = (q - 1) / 2 := by rw [half_eq hsq]; rfl
      rw [hz] at hlt
      k_steps
      rename_i hi2 _ _ F4 N4 _ _
      simp only [Int.toNat_natCast] at hi2
      refine hret _ _ _ _ ⟨rfl, _, _, ?_, rfl⟩ F4 N4
      rw [← hsd, sdown_eq ns', if_neg fun c => hlt c.2]
      exact hi2
    k_steps
    · rename_i hlt _ _ _ hi2 _ _ F4 N4 _ _
      simp only [Int.toNat_natCast] at hi2
      refine hret _ _ _ _ ⟨rfl, _, _, ?_, rfl⟩ F4 N4
      rw [← hsd, sdown_eq ns', if_neg fun c => hlt (Int.ofNat_lt.mpr c.1)]
      exact hi2
end Mine

end
section
open PySem PySem.W PyProof.Rows in
theorem Mine.freshSU {prog : Program} {w : World} {A : Around} {env : Env} {E : Value → Shared → Prop} {Q : Flow → Shared → Prop} {s : Shared} (h : Q .next s) : wpAny (model prog w) A (execs [] env) Q E s := by w_top off; k_with_none; walk1; exact h
open PySem PySem.W PyProof.Rows
set_option Elab.async false
set_option maxRecDepth 100000
set_option maxHeartbeats 2000000
set_option pp.deepTerms false
set_option pp.deepTerms.threshold 4
namespace Mine
noncomputable def big (xs : List Int) (c : Nat) : Nat := if c + 1 < xs.length ∧ ¬ xs.getD (c + 1) 0 < xs.getD c 0 then c + 1 else c
theorem big_ge (xs : List Int) (c : Nat) : c ≤ big xs c := by
  unfold big; split
  · exact Nat.le_succ _
  · exact Nat.le_refl _
theorem big_lt (xs : List Int) (c : Nat) (h : c < xs.length) : big xs c < xs.length := by
  unfold big; split
  · rename_i h; exact h.1
  · exact h
theorem ch_gt (q : Nat) : q < 2 * q + 1 := Nat.lt_succ_of_le (Nat.le_mul_of_pos_left q (by decide))
theorem big_gt (xs : List Int) (q : Nat) : q < big xs (2 * q + 1) := Nat.lt_of_lt_of_le (ch_gt q) (big_ge _ _)
theorem up_lt {q c n : Nat} (h : q < c) (h2 : c < n) : n - c < n - q := Nat.sub_lt_sub_left (Nat.lt_trans h h2) h
noncomputable def sgoF : Nat → List Int → Nat → List Int × Nat
  | 0, xs, pos => (xs, pos)
  | f + 1, xs, pos => if 2 * pos + 1 < xs.length then sgoF f (xs.set pos (xs.getD (big xs (2 * pos + 1)) 0)) (big xs (2 * pos + 1)) else (xs, pos)
noncomputable def sgo (xs : List Int) (pos : Nat) : List Int × Nat := sgoF (xs.length - pos) xs pos
theorem sgo_no {xs : List Int} {pos : Nat} (h : xs.length - pos ≤ 0) : ¬ 2 * pos + 1 < xs.length := fun c =>
  Nat.lt_irrefl _ (Nat.lt_of_lt_of_le (Nat.lt_trans (ch_gt pos) c) (Nat.sub_eq_zero_iff_le.mp (Nat.le_zero.mp h)))
theorem sgo_less {xs : List Int} {pos f : Nat} (c : 2 * pos + 1 < xs.length) (h : xs.length - pos ≤ f + 1) (a : Int) : (xs.set pos a).length - big xs (2 * pos + 1) ≤ f := by
  rw [List.length_set]
  exact Nat.le_of_lt_succ (Nat.lt_of_lt_of_le (up_lt (big_gt xs pos) (big_lt _ _ c)) h)
theorem sgoF_any : ∀ (f g : Nat) (xs : List Int) (pos : Nat), xs.length - pos ≤ f → xs.length - pos ≤ g → sgoF f xs pos = sgoF g xs pos
  | 0, 0, _, _, _, _ => rfl
  | 0, g + 1, xs, pos, h, _ => by rw [sgoF, sgoF, if_neg (sgo_no h)]
  | f + 1, 0, xs, pos, _, h => by rw [sgoF, sgoF, if_neg (sgo_no h)]
  | f + 1, g + 1, xs, pos, h1, h2 => by
    rw [sgoF, sgoF]
    split
    · rename_i c
      exact sgoF_any f g _ _ (sgo_less c h1 _) (sgo_less c h2 _)
    · rfl
theorem sgo_eq (xs : List Int) (pos : Nat) : sgo xs pos = if 2 * pos + 1 < xs.length then sgo (xs.set pos (xs.getD (big xs (2 * pos + 1)) 0)) (big xs (2 * pos + 1)) else (xs, pos) := by
  unfold sgo
  rw [sgoF_any _ (xs.length - pos + 1) xs pos (Nat.le_refl _) (Nat.le_succ _), sgoF]
  split
  · rename_i c
    exact sgoF_any _ _ _ _ (Nat.le_trans (Nat.le_of_lt (by rw [List.length_set]; exact up_lt (big_gt xs pos) (big_lt _ _ c))) (Nat.le_refl _)) (Nat.le_refl _)
  · rfl
noncomputable def sup (xs : List Int) (pos : Nat) : List Int := sdown ((sgo xs pos).1.set (sgo xs pos).2 (xs.getD pos 0)) (xs.getD pos 0) pos (sgo xs pos).2

inductive UInv (ns : List Int) (D : Addr) (rest : Led) (pos : Nat) (k : Nat) (m : Str → Option Value) (nw : Led) : Prop
  | mk (vs' : List Value) (ns' : List Int) (n' q : Nat) (tq tx ts tc te : Tok) (hk : k = ns.length - q) (hi : IntsAre vs' ns') (hl : ns'.length = ns.length) (hq : q < ns.length) (hs : sgo ns' q = sgo ns pos)
    (hn : nw = (D, listOf vs'.toArray n') :: rest) (m1 : m (Str.ofString "heap") = some (.ref D)) (m2 : m (Str.ofString "pos") = some (.int q tq)) (m3 : m (Str.ofString "newitem") = some (.int (ns.getD pos 0) tx)) (m4 : m (Str.ofString "startpos") = some (.int pos ts))
    (m5 : m (Str.ofString "childpos") = some (.int (2 * (q : Int) + 1) tc)) (m6 : m (Str.ofString "endpos") = some (.int ns.length te))
theorem ix63 {k : Int} {n : Nat} (h : k < (n : Int)) (hn : n < 1000) : k < 2 ^ 63 := Int.lt_trans h (Int.lt_trans (Int.ofNat_lt.mpr hn) (by decide))
theorem ws_end {h₀ : Heap} {L : Addr} {s : Shared} {J : Nat → (Str → Option Value) → Led → Prop} {Q : Flow → Shared → Prop} {n k : Nat} {h' : Heap} {tk : Nat} {m : Str → Option Value} {nw : Led} (F : Fr h₀ L h' m) (N : News h₀ L h' nw) (l : k < n) (j : J k m nw) :
    WhileStep2 h₀ L s J Q n .next { s with heap := h', toks := tk } := ⟨_, _, _, _, k, rfl, F, N, l, j⟩
local macro_rules | `(tactic| walk_at "subscriptTail Name Name ref int") => `(tactic| k_extra "subscriptTail Name Name ref int")
local macro_rules | `(tactic| k_all) => `(tactic| assumption)
local macro_rules | `(tactic| walk_at "binaryOp RShift int int") => `(tactic| with_reducible refine rsh1 ?_)
theorem siftup_does (w : World) (D : Addr) (n : Nat) (vs : List Value) (ns : List Int) (rest : Led) (pos : Nat) (t2 : Tok) (hi : IntsAre vs ns) (hD : ∀ p ∈ rest, p.1 ≠ D) (hpos : pos < ns.length) (hl : ns.length < 1000) :
    Does w 42 [.ref D, .int pos t2] 2 ((D, listOf vs.toArray n) :: rest) (fun r news' => r = .none ∧ ∃ vs' n', IntsAre vs' (sup ns pos) ∧ news' = (D, listOf vs'.toArray n') :: rest) := by
  unfold Does
  have := lawRef
  revert this
  k_fill
  intro _
  intro p loose mean mg mb dp un gd cn cs a ccd cl outer A₀ base h₀ L m s Q E B F X N T C1 C2 hck hdp hun hret
  k_with_none
  k_with "eval Name" => (k_here; k_dflt (refine' nameX_L2 ?F ?_ ?v ?a ?b; (case F => k_asm); (case a => exact rfl); (case b => exact rfl); (case v => exact rfl); k_whole))
  k_with "exec While Compare cons nil" => (with_reducible refine stop_here ?_)
  k_with "call ref" => (with_reducible refine stop_here ?_)
  k_with "subscriptTail Name Name ref int" => (with_reducible refine stop_here ?_)
  refine wpAny_call ?_
  k_dflt cell_enter
  k_steps
  refine ⟨?_⟩
  refine item_list_ints (by is_list) hi (Int.natCast_nonneg _) (Int.ofNat_lt.mpr hpos) (b63 hpos hl) ?_
  intro _
  k_steps
  refine ⟨?_⟩
  rename_i h2 F2 N2
  refine While_inv2 (n₀ := ns.length - pos) (UInv ns D rest pos) F2 N2 ?start ?turn
  case start =>
    exact ⟨vs, ns, n, pos, _, _, _, _, _, rfl, hi, rfl, hpos, rfl, rfl, rfl, rfl, rfl, rfl, rfl, rfl⟩
  case turn =>
    intro k m₁ news₁ h₁ tk₁ F₁ N₁ z0H
    refine hide fun kH => ?_
    obtain ⟨vs', ns', n', q, tq, tx, ts, tc, te, rfl, hi', hlen', hq, hsd, rfl, e1, e2, e3, e4, e5, e6⟩ := z0H
    refine kH ?_
    clear kH
    have F₂ := fr_see [(Str.ofString "heap", .ref D), (Str.ofString "pos", .int q tq), (Str.ofString "newitem", .int (ns.getD pos 0) tx), (Str.ofString "startpos", .int pos ts), (Str.ofString "childpos", .int (2 * (q : Int) + 1) tc), (Str.ofString "endpos", .int ns.length te)] F₁ (by simp [e1, e2, e3, e4, e5, e6])
    dsimp only [kstB] at F₂
    clear F₁
    have b0 : (0 : Int) ≤ (q : Int) := Int.natCast_nonneg q
    have b1 : (q : Int) < (ns'.length : Int) := Int.ofNat_lt.mpr (Nat.lt_of_lt_of_eq hq hlen'.symm)
    have b2 : (q : Int) < 2 ^ 63 := b63 hq hl
    have nx : ∀ {k : Int}, k < (ns.length : Int) → k < (ns'.length : Int) := fun h => by rw [hlen']; exact h
    have go : ∀ {c : Nat} {ns2 : List Int}, 2 * q + 1 < ns.length → big ns' (2 * q + 1) = c → ns2 = ns'.set q (ns'.getD c 0) → c < ns.length ∧ ns.length - c < ns.length - q ∧ ns2.length = ns.length ∧ sgo ns2 c = sgo ns pos := by
      intro c ns2 h1 h2 h3
      have l1 : 2 * q + 1 < ns'.length := Nat.lt_of_lt_of_eq h1 hlen'.symm
      have l2 := Nat.lt_of_lt_of_eq (big_lt ns' _ l1) hlen'
      rw [h2] at l2
      refine ⟨l2, up_lt (h2 ▸ big_gt ns' q) l2, by rw [h3, List.length_set, hlen'], ?_⟩
      rw [h3, ← hsd, sgo_eq ns' q, if_pos l1, h2]
    iterate 6 walk1
    refine absW fun Q1 hQ1 => ?_
    k_steps
    · refine ⟨?_⟩
      rename (2 * (q : Int) + 1 < (ns.length : Int)) => hc
      rename (2 * (q : Int) + 1 + 1 < (ns.length : Int)) => hr
      refine item_list_ints (by is_list) hi' (Int.natCast_nonneg (2 * q + 1 + 1)) (nx hr) (ix63 hr hl) ?_
      intro _
      k_steps
      refine ⟨?_⟩
      refine item_list_ints (by is_list) hi' (Int.natCast_nonneg (2 * q + 1)) (nx hc) (ix63 hc hl) ?_
      intro _
      k_steps
      · refine ⟨?_⟩
        rename (ns'.getD (2 * (q : Int) + 1 + 1).toNat 0 < ns'.getD (2 * (q : Int) + 1).toNat 0) => hlt
        refine item_list_ints (by is_list) hi' (Int.natCast_nonneg (2 * q + 1)) (nx hc) (ix63 hc hl) ?_
        intro _
        k_steps
        rename IntsAre (vs'.set _ _) _ => hi2
        rename Fr _ _ _ _ => F4
        rename News _ _ _ _ => N4
        have hb : big ns' (2 * q + 1) = 2 * q + 1 := by unfold big; rw [if_neg fun h => h.2 hlt]
        have g := go (ns2 := ns'.set q (ns'.getD (2 * q + 1) 0)) (Int.ofNat_lt.mp hc) hb rfl
        exact hQ1 _ _ (ws_end F4 N4 g.2.1 ⟨_, _, n', 2 * q + 1, _, tx, ts, _, te, rfl, hi2, g.2.2.1, g.1, g.2.2.2, rfl, rfl, rfl, rfl, rfl, rfl, rfl⟩)
      · refine ⟨?_⟩
        rename (¬ ns'.getD (2 * (q : Int) + 1 + 1).toNat 0 < ns'.getD (2 * (q : Int) + 1).toNat 0) => hlt
        refine item_list_ints (by is_list) hi' (Int.natCast_nonneg (2 * q + 1 + 1)) (nx hr) (ix63 hr hl) ?_
        intro _
        k_steps
        rename IntsAre (vs'.set _ _) _ => hi2
        rename Fr _ _ _ _ => F4
        rename News _ _ _ _ => N4
        have hb : big ns' (2 * q + 1) = 2 * q + 1 + 1 := by unfold big; rw [if_pos ⟨Int.ofNat_lt.mp (nx hr), hlt⟩]
        have g := go (ns2 := ns'.set q (ns'.getD (2 * q + 1 + 1) 0)) (Int.ofNat_lt.mp hc) hb rfl
        exact hQ1 _ _ (ws_end F4 N4 g.2.1 ⟨_, _, n', 2 * q + 1 + 1, _, tx, ts, _, te, rfl, hi2, g.2.2.1, g.1, g.2.2.2, rfl, rfl, rfl, rfl, rfl, rfl, rfl⟩)
    · refine ⟨?_⟩
      rename (2 * (q : Int) + 1 < (ns.length : Int)) => hc
      rename (¬ 2 * (q : Int) + 1 + 1 < (ns.length : Int)) => hr
      refine item_list_ints (by is_list) hi' (Int.natCast_nonneg (2 * q + 1)) (nx hc) (ix63 hc hl) ?_
      intro _
      k_steps
      rename IntsAre (vs'.set _ _) _ => hi2
      rename Fr _ _ _ _ => F4
      rename News _ _ _ _ => N4
      have hb : big ns' (2 * q + 1) = 2 * q + 1 := by unfold big; rw [if_neg fun h => hr (by rw [← hlen']; exact Int.ofNat_lt.mpr h.1)]
      have g := go (ns2 := ns'.set q (ns'.getD (2 * q + 1) 0)) (Int.ofNat_lt.mp hc) hb rfl
      exact hQ1 _ _ (ws_end F4 N4 g.2.1 ⟨_, _, n', 2 * q + 1, _, tx, ts, _, te, rfl, hi2, g.2.2.1, g.1, g.2.2.2, rfl, rfl, rfl, rfl, rfl, rfl, rfl⟩)
    k_steps
    · refine ⟨?_⟩
      rename_i hc _ F4 N4 hi2 _ _
      have z0 : ((q : Int)).toNat = q := rfl
      simp only [z0] at hi2 N4
      have hg : sgo ns pos = (ns', q) := by rw [← hsd, sgo_eq ns' q, if_neg fun c => hc (Int.ofNat_lt.mpr (Nat.lt_of_lt_of_eq c hlen'))]
      k_dflt (refine' Does.use (siftdown_does w D _ _ _ rest pos q _ _ hi2 hD (Nat.lt_of_lt_of_eq hq (List.length_set.trans hlen').symm) (by rw [List.length_set, hlen']; exact hl)) ?B ?F ?X ?N ?T ?C1 ?C2 ?hk ?hd ?hu ?_)
      case B => k_asm
      case F => k_asm
      case X => k_asm
      case N => k_asm
      case T => k_asm
      case C1 => exact CodeHd.keeps (by assumption) (Fr.keep (by assumption))
      case C2 => exact CodeHd.keeps (by assumption) (Fr.keep (by assumption))
      case hk => rfl
      case hd => first | exact droom (by with_reducible assumption) rfl | exact Nat.le_of_ble_eq_true rfl | ktr_room
      case hu => first | exact uroom (by with_reducible assumption) rfl | exact Nat.le_of_ble_eq_true rfl | ktr_units
      refine hide2 ?_
      rintro PH kH r news' ⟨rfl, vs2, n2, hi3, rfl⟩
      refine kH _ _ ?_
      clear kH PH
      intro h' tk' F5 N5
      k_steps
      rename_i F6 N6 _ _
      refine hret _ _ _ _ ⟨rfl, _, _, ?_, rfl⟩ F6 N6
      unfold sup
      rw [hg]
      have : (ns'.set q (ns.getD pos 0)).getD q 0 = ns.getD pos 0 := by simp [List.getD_eq_getElem?_getD, List.getElem?_set, hlen', hq]
      rw [this] at hi3
      exact hi3
end Mine

end
section
open PySem PySem.W PyProof.Rows in
theorem Mine.freshIN {prog : Program} {w : World} {A : Around} {env : Env} {E : Value → Shared → Prop} {Q : Flow → Shared → Prop} {s : Shared} (h : Q .next s) : wpAny (model prog w) A (execs [] env) Q E s := by w_top off; k_with_none; walk1; exact h
open PySem PySem.W PyProof.Rows
set_option Elab.async false
set_option maxRecDepth 100000
set_option maxHeartbeats 2000000
set_option pp.deepTerms false
set_option pp.deepTerms.threshold 4
namespace Mine
local macro_rules | `(tactic| k_all) => `(tactic| assumption)
/-- the def that stands second in the body of the def that stands at place `k` of the text -/
noncomputable def innerStmt (k : Nat) : Stmt := match PySem.Challenge.pw_oy0149_01.main.body[k]? with
  | some (.FunctionDef _ _ body _ _ _ _ _ _ _) => (match body with
    | _ :: (.FunctionDef a b c d e f g h i j) :: _ => .FunctionDef a b c d e f g h i j
    | (.FunctionDef a b c d e f g h i j) :: _ => .FunctionDef a b c d e f g h i j
    | _ => .Pass ⟨0, 0, 0, 0⟩)
  | _ => .Pass ⟨0, 0, 0, 0⟩
noncomputable def dParams : Stmt → Arguments
  | .FunctionDef _ p _ _ _ _ _ _ _ _ => p
  | _ => ⟨[], [], none, [], [], none, []⟩
noncomputable def dBody : Stmt → List Stmt
  | .FunctionDef _ _ b _ _ _ _ _ _ _ => b
  | _ => []
noncomputable def dScope : Stmt → Scope
  | .FunctionDef _ _ _ _ _ _ s _ _ _ => s
  | _ => default
noncomputable def i2dS : Stmt := innerStmt 6
noncomputable def d2iS : Stmt := innerStmt 7

local macro_rules | `(tactic| walk_at "subscriptTail Name Name ref int") => `(tactic| k_extra "subscriptTail Name Name ref int")
local macro_rules | `(tactic| k_mem) => `(tactic| assumption)
local macro_rules | `(tactic| walk_at "binaryOp RShift int int") => `(tactic| k_extra "binaryOp RShift int int")
theorem droom2 {a b c N : Nat} (h : a + c < N) (hb : b < c) : a + 1 + b < N :=
  Nat.lt_of_le_of_lt (by rw [Nat.add_assoc, Nat.add_comm 1 b]; exact Nat.add_le_add_left hb a) h
theorem uroom2 {a b c N : Nat} (h : a + 8 * c < N) (hb : b < c) : a + 3 + 8 * b < N :=
  Nat.lt_of_le_of_lt (by rw [Nat.add_assoc]; exact Nat.add_le_add_left (by lia) a) h
structure Mid (Lq R len M : Nat) : Prop where
  m1 : Lq < M
  m2 : M < R
  d1 : M - Lq < len
  d2 : R - M < len
  p1 : 0 < M - Lq
  p2 : 0 < R - M
  e1 : M = Lq + (M - Lq)
  e2 : R = M + (R - M)
  e3 : M - Lq + (R - M) = len
theorem mid_of {Lq R len M : Nat} (hR : R = Lq + len) (hlen : 0 < len) (hne : (Lq : Int) + 1 ≠ (R : Int)) (hM : M = (Lq + R) / 2) : Mid Lq R len M := by
  have m1 : Lq < M := by lia
  have m2 : M < R := by lia
  have e1 : M = Lq + (M - Lq) := (Nat.add_sub_cancel' (Nat.le_of_lt m1)).symm
  have e2 : R = M + (R - M) := (Nat.add_sub_cancel' (Nat.le_of_lt m2)).symm
  have p1 := Nat.sub_pos_of_lt m1
  have p2 := Nat.sub_pos_of_lt m2
  have e3 : M - Lq + (R - M) = len := by
    apply Nat.add_left_cancel (n := Lq)
    rw [← Nat.add_assoc, ← e1, ← e2, hR]
  exact ⟨m1, m2, Nat.lt_of_lt_of_eq (Nat.lt_add_of_pos_right p2) e3, Nat.lt_of_lt_of_eq (Nat.lt_add_of_pos_left p1) e3, p1, p2, e1, e2, e3⟩
theorem mid_mul {Lq M : Nat} (n : Nat) (h : Lq < M) : ((M : Int) - (Lq : Int)) * (n : Int) = ((n * (M - Lq) : Nat) : Int) := by
  rw [Int.mul_comm, ← Int.ofNat_sub (Nat.le_of_lt h)]; norm_cast
theorem mid_abs {Lq M : Nat} (h : Lq < M) (h2 : M - Lq < 1000) : ((M : Int) - (Lq : Int)).natAbs < 2 ^ 60 := by
  rw [← Int.ofNat_sub (Nat.le_of_lt h), Int.natAbs_natCast]
  exact Nat.lt_trans h2 (by decide)
theorem len_one {Lq R len : Nat} (hR : R = Lq + len) (h : (Lq : Int) + 1 = (R : Int)) : R = Lq + 1 ∧ len = 1 := by
  have h1 : Lq + 1 = R := by exact_mod_cast h
  exact ⟨h1.symm, (Nat.add_left_cancel (h1.trans hR)).symm⟩
theorem in_l {Lq M R j : Nat} (h2 : M < R) (h : Lq ≤ j ∧ j < M) : Lq ≤ j ∧ j < R := ⟨h.1, Nat.lt_trans h.2 h2⟩
theorem in_r {Lq M R j : Nat} (h2 : Lq < M) (h : M ≤ j ∧ j < R) : Lq ≤ j ∧ j < R := ⟨Nat.le_trans (Nat.le_of_lt h2) h.1, h.2⟩
theorem in_no {Lq M R j : Nat} (h1 : ¬ (M ≤ j ∧ j < R)) (h2 : ¬ (Lq ≤ j ∧ j < M)) : ¬ (Lq ≤ j ∧ j < R) := fun h =>
  (Nat.lt_or_ge j M).elim (fun g => h2 ⟨h.1, g⟩) fun g => h1 ⟨g, h.2⟩
theorem sub_add_sub {Lq M j : Nat} (h1 : Lq < M) (h2 : M ≤ j) : M - Lq + (j - M) = j - Lq := by
  rw [Nat.add_comm]; exact Nat.sub_add_sub_cancel h2 (Nat.le_of_lt h1)
theorem abs_pow {U : Int} {k : Nat} (h0 : 0 ≤ U) (h : U < 2 ^ k) : U.natAbs < 2 ^ k := by
  have h1 : ((U.natAbs : Nat) : Int) < ((2 ^ k : Nat) : Int) := by
    rw [Int.natAbs_of_nonneg h0]; push_cast; exact h
  exact_mod_cast h1
theorem i2d_inner (w : World) (n : Nat) (hn : 0 < n) (hn2 : n < 64) (f c' D cN cI cA : Addr) (qual : Str) (doc pm ctv : Value) (oc oN oI oA : Obj) (vs9 : Array Value) (t9 tn : Tok) (rest : Led) (hD : ∀ p ∈ rest, p.1 ≠ D)
    (hf : (f, fnMade (Str.ofString "inner") qual (dParams i2dS) (dBody i2dS) (dScope i2dS) [(Str.ofString "n", cN), (Str.ofString "inner", cI), (Str.ofString "a_digits", cA)] doc pm c' ctv) ∈ rest)
    (hc : (c', oc) ∈ rest) (hcd : oc.data = .fields vs9) (hcv : vs9[1]? = some (.str qual t9))
    (hN : (cN, oN) ∈ rest) (hNd : oN.data = .cell (some (.int n tn))) (hI : (cI, oI) ∈ rest) (hId : oI.data = .cell (some (.ref f))) (hA : (cA, oA) ∈ rest) (hAd : oA.data = .cell (some (.ref D))) :
    ∀ (len Lq R : Nat) (x : Int) (t1 t2 t3 : Tok) (vs : List Value) (ns : List Int) (k : Nat), R = Lq + len → 0 < len → R ≤ ns.length → ns.length < 1000 → IntsAre vs ns → 0 ≤ x → x < 2 ^ (n * len) →
      Does w f [.int x t1, .int Lq t2, .int R t3] len ((D, listOf vs.toArray k) :: rest) (fun r news' => r = .none ∧ ∃ (vs' : List Value) (ns' : List Int) (k' : Nat), IntsAre vs' ns' ∧ ns'.length = ns.length ∧ (∀ j, ns'.getD j 0 = if Lq ≤ j ∧ j < R then x / 2 ^ (n * (j - Lq)) % 2 ^ n else ns.getD j 0) ∧ news' = (D, listOf vs'.toArray k') :: rest) := by
  intro len
  induction len using Nat.strongRecOn with
  | _ len ih =>
  intro Lq R x t1 t2 t3 vs ns k hR hlen hRl hnl hi hx0 hx1
  unfold Does
  have := lawRef
  revert this
  k_fill
  intro _
  intro p loose mean mg mb dp un gd cn cs a ccd cl outer A₀ base h₀ L m s Q E B F X N T C1 C2 hck hdp hun hret
  k_with_none
  k_with "eval Name" => (k_here; k_dflt (refine' nameX_L2 ?F ?_ ?v ?a ?b; (case F => k_asm); (case a => exact rfl); (case b => exact rfl); (case v => exact rfl); k_whole))
  k_with "call ref" => (with_reducible refine stop_here ?_)
  k_with "binaryOp RShift int int" => (with_reducible refine stop_here ?_)
  k_with "binaryOp LShift int int" => (with_reducible refine stop_here ?_)
  k_with "binaryOp BitXor int int" => (with_reducible refine stop_here ?_)
  k_with "binaryOp Mult int int" => (with_reducible refine stop_here ?_)
  refine wpAny_call ?_
  k_dflt (refine' code_nest ?k1 ?k2 ?k3 ?k4 ?k5 ?kA ?kF ?kK (.tail _ hf) ?k7 ?k8 ?k9 ?kB ?_ ?c2 ?c3 ?c4 ?c5; (case kA => exact rfl); (case kF => exact rfl); (case kK => assumption); (case k1 => k_asm); (case k2 => k_asm); (case k3 => k_asm); (case k4 => k_asm); (case k5 => k_asm); (case k7 => exact codeRec_news N (.tail _ hc) hcd hcv); (case k8 => first | exact droom0 hdp | ktr_room); (case k9 => exact BindsTo.of_eq rfl); (case c5 => decide); (case kB => exact locs rfl); (case c2 => exact rfl); (case c3 => exact rfl); (case c4 => exact rfl))
  intro g' L' h' FG' F' N' B' X' T'
  conv in (dBody i2dS) => whnf
  conv in (dScope i2dS) => whnf
  conv in (dScope i2dS) => whnf
  dsimp only
  k_fold
  have hp1 : ∀ q : Nat, (0 : Int) < 2 ^ q := fun q => Int.pow_pos (by decide)
  have hLn : Lq < ns.length := Nat.lt_of_lt_of_le (hR ▸ Nat.lt_add_of_pos_right hlen) hRl
  have b0 : (0 : Int) ≤ (Lq : Int) := Int.natCast_nonneg _
  have b1 : (Lq : Int) < (ns.length : Int) := Int.ofNat_lt.mpr hLn
  have b2 : (Lq : Int) < 2 ^ 63 := b63 hLn hnl
  k_steps
  · rename_i heq _ F4 N4 hi4 hl4 _ F6 N6 _ _
    have z0 : ((Lq : Int)).toNat = Lq := rfl
    simp only [z0] at hi4 hl4 N6
    refine hret _ _ _ _ ⟨rfl, _, _, _, hi4, hl4, ?_, rfl⟩ F6 N6
    have one := len_one hR heq
    have hLl : Lq < ns.length := Nat.lt_of_lt_of_le (Nat.lt_of_lt_of_eq (Nat.lt_succ_self Lq) one.1.symm) hRl
    intro j
    rw [List.getD_eq_getElem?_getD, List.getElem?_set]
    by_cases hj : Lq ≤ j ∧ j < R
    · have : Lq = j := Nat.le_antisymm hj.1 (Nat.le_of_lt_succ (Nat.lt_of_lt_of_eq hj.2 one.1))
      rw [if_pos hj, if_pos this, if_pos hLl, ← this, Nat.sub_self, Nat.mul_zero, Int.pow_zero, Int.ediv_one, Int.emod_eq_of_lt hx0 (by rw [one.2, Nat.mul_one] at hx1; exact hx1)]
      rfl
    · rw [if_neg hj, if_neg fun e => hj ⟨Nat.le_of_eq e, by rw [← e, one.1]; exact Nat.lt_succ_self _⟩, List.getD_eq_getElem?_getD]
  · refine ⟨?_⟩
    rename_i hne
    refine hide fun kH => ?_
    obtain ⟨M, hM⟩ : ∃ M : Nat, M = (Lq + R) / 2 := ⟨_, rfl⟩
    refine kH ?_
    clear kH
    have md := mid_of hR hlen hne hM
    have hM1 := md.m1
    have l1000 : len < 1000 := Nat.lt_of_le_of_lt (Nat.le_trans (hR ▸ Nat.le_add_left _ _) hRl) hnl
    have d1000 := Nat.lt_trans md.d1 l1000
    have hMl := Nat.le_trans (Nat.le_of_lt md.m2) hRl
    refine hide fun kH => ?_
    obtain ⟨U, hU⟩ : ∃ U : Int, U = x / 2 ^ (n * (M - Lq)) := ⟨_, rfl⟩
    obtain ⟨Y, hY⟩ : ∃ Y : Int, Y = x % 2 ^ (n * (M - Lq)) := ⟨_, rfl⟩
    refine kH ?_
    clear kH
    have hmul := mid_mul n hM1
    have hU0 : 0 ≤ U := by rw [hU]; exact Int.ediv_nonneg hx0 (Int.le_of_lt (hp1 _))
    have hUx : U ≤ x := by rw [hU]; exact Int.ediv_le_self _ hx0
    have hsh : n * (M - Lq) < 64 * 1000 := Nat.mul_lt_mul'' hn2 d1000
    have hlen2 : n * len < 64 * 1000 := Nat.mul_lt_mul'' hn2 l1000
    refine rsh_to (M : Int) (by decide) ?_ ?_
    · rw [hM]; rfl
    k_steps
    refine ⟨?_⟩
    refine mul_to ((n * (M - Lq) : Nat) : Int) hmul ?_ ?_
    · exact mid_abs hM1 d1000
    k_steps
    refine ⟨?_⟩
    refine rsh_to U (Int.natCast_nonneg _) (by rw [hU]; rfl) ?_
    k_steps
    refine ⟨?_⟩
    refine lsh_to (U * 2 ^ (n * (M - Lq))) (Int.natCast_nonneg _) (n * len) ?_ ?_ rfl ?_
    · exact abs_pow hU0 (Int.lt_of_le_of_lt hUx hx1)
    · exact Int.le_of_lt (Int.ofNat_lt.mpr (Nat.lt_of_lt_of_le (Nat.add_lt_add hlen2 hsh) (by decide)))
    k_steps
    refine ⟨?_⟩
    refine xor_to Y ?_ ?_
    · rw [hU, hY]; exact xor_low x _ hx0
    k_steps
    refine ⟨?_⟩
    rename_i N9
    k_dflt (refine' Does.use (ih (M - Lq) md.d1 Lq M Y _ _ _ vs ns k md.e1 md.p1 hMl hnl hi (by rw [hY]; exact Int.emod_nonneg _ (Int.ne_of_gt (hp1 _))) (by rw [hY]; exact Int.emod_lt_of_pos _ (hp1 _))) ?_ ?_ ?_ ?_ ?_ ?_ ?_ ?_ (by exact droom2 hdp md.d1) (by exact uroom2 hun md.d1) ?_)
    all_goals try (first | ((with_reducible show Below _ _ _ _); k_asm) | ((with_reducible show Fr _ _ _ _); k_asm) | ((with_reducible show Frag.In _ _); k_asm) | ((with_reducible show News _ _ _ _); k_asm) | ((with_reducible show Top _ _ _ _ _ _); k_asm) | ((with_reducible show CodeHd _ _ _); first | assumption | exact CodeHd.keeps (by assumption) (Fr.keep (by assumption))) | ((with_reducible show Scope.kind _ = _); exact rfl) | ((with_reducible show _ < recursionLimit); first | exact droom (by with_reducible assumption) rfl | exact Nat.le_of_ble_eq_true rfl | ktr_room) | ((with_reducible show _ < cLine); first | exact uroom (by with_reducible assumption) rfl | exact Nat.le_of_ble_eq_true rfl | ktr_units))
    refine hide2 ?_
    rintro PH kH r news' ⟨rfl, vs2, ns2, k2, hi2, hl2, hp2, rfl⟩
    refine kH _ _ ?_
    clear kH PH
    intro h5 tk5 F5 N5
    k_steps
    refine ⟨?_⟩
    k_dflt (refine' Does.use (ih (R - M) md.d2 M R U _ _ _ vs2 ns2 k2 md.e2 md.p2 (by rw [hl2]; exact hRl) (by rw [hl2]; exact hnl) hi2 hU0 (by rw [hU]; exact dig_lt x n (M - Lq) (R - M) (by rw [md.e3]; exact hx1))) ?_ ?_ ?_ ?_ ?_ ?_ ?_ ?_ (by exact droom2 hdp md.d2) (by exact uroom2 hun md.d2) ?_)
    all_goals try (first | ((with_reducible show Below _ _ _ _); k_asm) | ((with_reducible show Fr _ _ _ _); k_asm) | ((with_reducible show Frag.In _ _); k_asm) | ((with_reducible show News _ _ _ _); k_asm) | ((with_reducible show Top _ _ _ _ _ _); k_asm) | ((with_reducible show CodeHd _ _ _); first | assumption | exact CodeHd.keeps (by assumption) (Fr.keep (by assumption))) | ((with_reducible show Scope.kind _ = _); exact rfl) | ((with_reducible show _ < recursionLimit); first | exact droom (by with_reducible assumption) rfl | exact Nat.le_of_ble_eq_true rfl | ktr_room) | ((with_reducible show _ < cLine); first | exact uroom (by with_reducible assumption) rfl | exact Nat.le_of_ble_eq_true rfl | ktr_units))
    refine hide2 ?_
    rintro PH kH r news' ⟨rfl, vs3, ns3, k3, hi3, hl3, hp3, rfl⟩
    refine kH _ _ ?_
    clear kH PH
    intro h6 tk6 F6 N6
    k_steps
    rename_i F7 N7 _ _
    refine hret _ _ _ _ ⟨rfl, vs3, ns3, k3, hi3, hl3.trans hl2, ?_, rfl⟩ F7 N7
    intro j
    rw [hp3, hp2]
    by_cases h1 : M ≤ j ∧ j < R
    · rw [if_pos h1, if_pos (in_r hM1 h1), hU, dig_high, sub_add_sub hM1 h1.1]
    · rw [if_neg h1]
      by_cases h2 : Lq ≤ j ∧ j < M
      · rw [if_pos h2, if_pos (in_l md.m2 h2), hY, dig_low _ _ _ _ (Nat.sub_lt_sub_right h2.1 h2.2)]
      · rw [if_neg h2, if_neg (in_no h1 h2)]

theorem d2i_inner (w : World) (n : Nat) (hn : 0 < n) (hn2 : n < 64) (f c' D cN cI cA : Addr) (qual : Str) (doc pm ctv : Value) (oc oN oI oA : Obj) (vs9 : Array Value) (t9 tn : Tok) (rest : Led)
    (hf : (f, fnMade (Str.ofString "inner") qual (dParams d2iS) (dBody d2iS) (dScope d2iS) [(Str.ofString "n", cN), (Str.ofString "inner", cI), (Str.ofString "digits", cA)] doc pm c' ctv) ∈ rest)
    (hc : (c', oc) ∈ rest) (hcd : oc.data = .fields vs9) (hcv : vs9[1]? = some (.str qual t9))
    (hN : (cN, oN) ∈ rest) (hNd : oN.data = .cell (some (.int n tn))) (hI : (cI, oI) ∈ rest) (hId : oI.data = .cell (some (.ref f))) (hA : (cA, oA) ∈ rest) (hAd : oA.data = .cell (some (.ref D)))
    (vs : List Value) (ns : List Int) (k : Nat) (hi : IntsAre vs ns) (hDm : (D, listOf vs.toArray k) ∈ rest) (hnl : ns.length < 1000) (hb : ∀ i, 0 ≤ ns.getD i 0 ∧ ns.getD i 0 < 2 ^ 64) :
    ∀ (len Lq R : Nat) (t1 t2 : Tok), R = Lq + len → 0 < len → R ≤ ns.length →
      Does w f [.int Lq t1, .int R t2] len rest (fun r news' => (∃ t, r = .int (val n ns Lq len) t) ∧ news' = rest) := by
  intro len
  induction len using Nat.strongRecOn with
  | _ len ih =>
  intro Lq R t1 t2 hR hlen hRl
  unfold Does
  have := lawRef
  revert this
  k_fill
  intro _
  intro p loose mean mg mb dp un gd cn cs a ccd cl outer A₀ base h₀ L m s Q E B F X N T C1 C2 hck hdp hun hret
  k_with_none
  k_with "eval Name" => (k_here; k_dflt (refine' nameX_L2 ?F ?_ ?v ?a ?b; (case F => k_asm); (case a => exact rfl); (case b => exact rfl); (case v => exact rfl); k_whole))
  k_with "call ref" => (with_reducible refine stop_here ?_)
  k_with "subscriptTail Name Name ref int" => (with_reducible refine stop_here ?_)
  k_with "binaryOp RShift int int" => (with_reducible refine stop_here ?_)
  k_with "binaryOp LShift int int" => (with_reducible refine stop_here ?_)
  k_with "binaryOp Mult int int" => (with_reducible refine stop_here ?_)
  refine wpAny_call ?_
  k_dflt (refine' code_nest ?k1 ?k2 ?k3 ?k4 ?k5 ?kA ?kF ?kK hf ?k7 ?k8 ?k9 ?kB ?_ ?c2 ?c3 ?c4 ?c5; (case kA => exact rfl); (case kF => exact rfl); (case kK => assumption); (case k1 => k_asm); (case k2 => k_asm); (case k3 => k_asm); (case k4 => k_asm); (case k5 => k_asm); (case k7 => exact codeRec_news N hc hcd hcv); (case k8 => first | exact droom0 hdp | ktr_room); (case k9 => exact BindsTo.of_eq rfl); (case c5 => decide); (case kB => exact locs rfl); (case c2 => exact rfl); (case c3 => exact rfl); (case c4 => exact rfl))
  intro g' L' h' FG' F' N' B' X' T'
  conv in (dBody d2iS) => whnf
  conv in (dScope d2iS) => whnf
  conv in (dScope d2iS) => whnf
  dsimp only
  k_fold
  have hLn : Lq < ns.length := Nat.lt_of_lt_of_le (hR ▸ Nat.lt_add_of_pos_right hlen) hRl
  k_steps
  · refine ⟨?_⟩
    rename ((Lq : Int) + 1 = (R : Int)) => heq
    refine item_list_ints (News.isList (by assumption) hDm) hi (Int.natCast_nonneg _) (Int.ofNat_lt.mpr hLn) (b63 hLn hnl) ?_
    intro _
    k_steps
    rename_i F6 N6 _ _
    have h1 : len = 1 := (len_one hR heq).2
    subst h1
    refine hret _ _ _ _ ⟨⟨_, congrArg (fun z => Value.int z _) ?_⟩, rfl⟩ F6 N6
    rw [val, val, Int.mul_zero, Int.add_zero, Int.toNat_natCast]
  · refine ⟨?_⟩
    rename_i hne
    refine hide fun kH => ?_
    obtain ⟨M, hM⟩ : ∃ M : Nat, M = (Lq + R) / 2 := ⟨_, rfl⟩
    refine kH ?_
    clear kH
    have md := mid_of hR hlen hne hM
    have hM1 := md.m1
    have l1000 : len < 1000 := Nat.lt_of_le_of_lt (Nat.le_trans (hR ▸ Nat.le_add_left _ _) hRl) hnl
    have d1000 := Nat.lt_trans md.d1 l1000
    have hMl := Nat.le_trans (Nat.le_of_lt md.m2) hRl
    have hmul := mid_mul n hM1
    have hsh : n * (M - Lq) < 64 * 1000 := Nat.mul_lt_mul'' hn2 d1000
    have hsh2 : n * (R - M) < 64 * 1000 := Nat.mul_lt_mul'' hn2 (Nat.lt_trans md.d2 l1000)
    refine rsh_to (M : Int) (by decide) ?_ ?_
    · rw [hM]; rfl
    k_steps
    refine ⟨?_⟩
    refine mul_to ((n * (M - Lq) : Nat) : Int) hmul ?_ ?_
    · exact mid_abs hM1 d1000
    k_steps
    refine ⟨?_⟩
    k_dflt (refine' Does.use (ih (R - M) md.d2 M R _ _ md.e2 md.p2 hRl) ?_ ?_ ?_ ?_ ?_ ?_ ?_ ?_ (by exact droom2 hdp md.d2) (by exact uroom2 hun md.d2) ?_)
    all_goals try (first | ((with_reducible show Below _ _ _ _); k_asm) | ((with_reducible show Fr _ _ _ _); k_asm) | ((with_reducible show Frag.In _ _); k_asm) | ((with_reducible show News _ _ _ _); k_asm) | ((with_reducible show Top _ _ _ _ _ _); k_asm) | ((with_reducible show CodeHd _ _ _); first | assumption | exact CodeHd.keeps (by assumption) (Fr.keep (by assumption))) | ((with_reducible show Scope.kind _ = _); exact rfl) | ((with_reducible show _ < recursionLimit); first | exact droom (by with_reducible assumption) rfl | exact Nat.le_of_ble_eq_true rfl | ktr_room) | ((with_reducible show _ < cLine); first | exact uroom (by with_reducible assumption) rfl | exact Nat.le_of_ble_eq_true rfl | ktr_units))
    refine hide2 ?_
    rintro PH kH r news' ⟨⟨t5, rfl⟩, rfl⟩
    refine kH _ _ ?_
    clear kH PH
    intro h5 tk5 F5 N5
    k_steps
    refine ⟨?_⟩
    refine hide fun kH => ?_
    obtain ⟨b1, b2⟩ := val_bound n ns hb (R - M) M
    refine kH ?_
    clear kH
    refine lsh_to (val n ns M (R - M) * 2 ^ (n * (M - Lq))) (Int.natCast_nonneg _) (64 + n * (R - M) + (R - M)) (abs_pow b1 b2) ?_ rfl ?_
    · exact Int.le_of_lt (Int.ofNat_lt.mpr (Nat.lt_of_lt_of_le (Nat.add_lt_add (Nat.add_lt_add (Nat.add_lt_add_left hsh2 64) (Nat.lt_trans md.d2 l1000)) hsh) (by decide)))
    k_steps
    refine ⟨?_⟩
    k_dflt (refine' Does.use (ih (M - Lq) md.d1 Lq M _ _ md.e1 md.p1 hMl) ?_ ?_ ?_ ?_ ?_ ?_ ?_ ?_ (by exact droom2 hdp md.d1) (by exact uroom2 hun md.d1) ?_)
    all_goals try (first | ((with_reducible show Below _ _ _ _); k_asm) | ((with_reducible show Fr _ _ _ _); k_asm) | ((with_reducible show Frag.In _ _); k_asm) | ((with_reducible show News _ _ _ _); k_asm) | ((with_reducible show Top _ _ _ _ _ _); k_asm) | ((with_reducible show CodeHd _ _ _); first | assumption | exact CodeHd.keeps (by assumption) (Fr.keep (by assumption))) | ((with_reducible show Scope.kind _ = _); exact rfl) | ((with_reducible show _ < recursionLimit); first | exact droom (by with_reducible assumption) rfl | exact Nat.le_of_ble_eq_true rfl | ktr_room) | ((with_reducible show _ < cLine); first | exact uroom (by with_reducible assumption) rfl | exact Nat.le_of_ble_eq_true rfl | ktr_units))
    refine hide2 ?_
    rintro PH kH r news' ⟨⟨t6, rfl⟩, rfl⟩
    refine kH _ _ ?_
    clear kH PH
    intro h6 tk6 F6 N6
    k_steps
    rename_i F7 N7 _ _
    refine hret _ _ _ _ ⟨⟨_, congrArg (fun z => Value.int z _) ?_⟩, rfl⟩ F7 N7
    have := val_add n ns (M - Lq) (R - M) Lq
    rw [md.e3, ← md.e1] at this
    rw [this, Int.mul_comm (2 ^ (n * (M - Lq)))]
    exact Int.add_comm _ _
end Mine

end
section
open PySem PySem.W PyProof.Rows PySem.Calls
open AutoSeq1 (wpAny_loadPart')
set_option Elab.async false
set_option maxRecDepth 100000
namespace Mine
theorem pure_any {α : Type} {prog : Program} {w : World} {A : Around} {b : α} {Q : α → Shared → Prop} {E : Value → Shared → Prop} {s : Shared} (h : ∀ b, Q b s) : wpAny (model prog w) A (pure b) Q E s := wpAny_pure (h b)
set_option maxHeartbeats 1000000 in
theorem meets_enum_tup (l : Addr) (items : Array Value) (n : Nat) (dct : Option Addr) (sl : Array (Option Value)) :
    Meets (Builtin.«enumerate.__new__» ⟨[.type "enumerate", .ref l], []⟩) (fun _ R s => s.heap.get? l = some { cls := .type "tuple", dict := dct, data := .seq items n, slots := sl } ∧
      R (.ok (.ret (.ref (s.heap.push { cls := .type "tuple_iterator", data := .fields #[.ref l, .int 0 0] }).objs.size)))
        { s with heap := (s.heap.push { cls := .type "tuple_iterator", data := .fields #[.ref l, .int 0 0] }).push { cls := .type "enumerate", data := .fields #[.none, .bool false, .ref s.heap.objs.size, rawInt 0, .none, .none] } }) :=
  .of_wp fun prog w A R s h => by
    obtain ⟨hp, g, d, tk, os⟩ := s; obtain ⟨hl, h⟩ := h
    have hsub := sub_enumerate
    have hL : Heap.IsTuple (Shared.heap ⟨hp, g, d, tk, os⟩) l items := ⟨_, hl, rfl, n, rfl⟩
    wp_walk using wpAny_loadPart' hl
    refine wpAny_stack_any fun st => pure_any fun b => ?_
    cases b
    · wp_walk using wpAny_loadPart' hl, wpAny_pyIter_tuple hL
      exact ⟨_, rfl, h⟩
    · wp_walk using wpAny_loadPart' hl, wpAny_pyIter_tuple hL
      exact ⟨_, rfl, h⟩
section
variable {prog : Program} {w : World} {A : Around} {E : Value → Shared → Prop} {s : Shared}
theorem call_enum_tup {l : Addr} {items : Array Value} {Q : Value → Shared → Prop} (hL : s.heap.IsTuple l items)
    (h : ∀ h', IsEnum h' (s.heap.objs.size + 1) s.heap.objs.size 0 .none → h'.IsTupleIter s.heap.objs.size l 0 → h'.objs.size = s.heap.objs.size + 2 →
      (∀ b o, s.heap.get? b = some o → h'.get? b = some o) → Q (.ref (s.heap.objs.size + 1)) { s with heap := h' }) :
    wpAny (model prog w) A (call (.type "enumerate") [.ref l]) Q E s := by
  refine hide fun kH => ?_
  obtain ⟨⟨c, dct, dt, sl⟩, hl, hc, n, hd⟩ := hL
  refine kH ?_
  clear kH
  replace hc : c = .type "tuple" := hc
  replace hd : dt = .seq items n := hd
  subst hc hd
  refine callType_new F.called_enumerate (by decide) (F.typeCall_enumerate_1 _) (F.newCall_enumerate_1 _) (fun obj => F.args_object_init_2 obj _) F.entry_enumerate_new
    (meets_enum_tup l items n dct sl) ⟨hl, ?_⟩
  have hz : (s.heap.push { cls := .type "tuple_iterator", data := .fields #[.ref l, .int 0 0] }).objs.size = s.heap.objs.size + 1 := Heap.size_push ..
  show _ ∧ _
  rw [hz]
  have he : IsEnum ((s.heap.push { cls := .type "tuple_iterator", data := .fields #[.ref l, .int 0 0] }).push
      { cls := .type "enumerate", data := .fields #[.none, .bool false, .ref s.heap.objs.size, rawInt 0, .none, .none] }) (s.heap.objs.size + 1) s.heap.objs.size 0 .none := by
    have := Heap.get?_push_size (s.heap.push { cls := .type "tuple_iterator", data := .fields #[.ref l, .int 0 0] })
      (o := { cls := .type "enumerate", data := .fields #[.none, .bool false, .ref s.heap.objs.size, rawInt 0, .none, .none] }) rfl
    rw [hz] at this; exact this
  exact ⟨⟨_, he, rfl⟩, h _ he ⟨_, Heap.get?_push_of_some _ (Heap.get?_push_size _ rfl), rfl, rfl⟩ (by rw [Heap.size_push, hz]) fun b o x => Heap.get?_push_of_some _ (Heap.get?_push_of_some _ x)⟩
theorem nextOf_tup_item {it l : Addr} {i : Nat} {items} {x : Value} {Q : Value → Shared → Prop} (hit : s.heap.IsTupleIter it l i)
    (hl : s.heap.IsTuple l items) (hx : items[i]? = some x)
    (hQ : ∀ h', h'.IsTupleIter it l (i + 1) → Heap.SameBut it s.heap h' → Q x { s with heap := h' }) :
    wpAny (model prog w) A (Builtin.SmallTypes.nextOf (.ref it)) Q E s := by
  refine hide fun kH => ?_
  obtain ⟨o, ho, hc, hd⟩ := id hit
  obtain ⟨ol, hol, _, nl, hdl⟩ := hl
  refine kH ?_
  clear kH
  unfold Builtin.SmallTypes.nextOf
  refine wpAny_bind (wpAny_callSpecial?_slot (name := Str.ofString "__next__") hit.typeIs F.slot_tuple_iterator_next
    (wpAny_call_entry F.slot_tuple_iterator_next hit.typeIs F.entry_tuple_iterator_next ?_ (F.args_tuple_iterator_next_1 _)))
  show wpAny _ _ (field (.ref it) 0 >>= _) _ _ s
  refine wpAny_bind (wpAny_field ho hd (x := .ref l) rfl ?_)
  show wpAny _ _ (if (Value.ref l == Value.none) = true then _ else _) _ _ s
  rw [if_neg (show ¬ ((Value.ref l == Value.none) = true) from Bool.false_ne_true)]
  show wpAny _ _ (field (.ref it) 1 >>= _) _ _ s
  refine wpAny_bind (wpAny_field ho hd (x := .int i 0) rfl ?_)
  show wpAny _ _ (seqItems? (.ref l) >>= _) _ _ s
  refine wpAny_bind (wpAny_seqItems hol hdl ?_)
  simp only [Int.toNat_natCast, hx]
  refine wpAny_bind (wpAny_setField ho hd (by simp) (wpAny_pure ⟨x, rfl, wpAny_pure (hQ _ ?_ (Heap.SameBut.update ..))⟩))
  exact ⟨_, Heap.get?_update_self _ ho (Obj.isFreed_of_fields (Obj.data_mapFields hd _)), (Obj.cls_mapFields ..).trans hc, by
    rw [Obj.data_mapFields hd]; simp [rawInt]⟩
theorem nextOf_tup_end {it l : Addr} {i : Nat} {items} {Q : Value → Shared → Prop} (hh : A.handled = none)
    (hit : s.heap.IsTupleIter it l i) (hl : s.heap.IsTuple l items) (hx : items[i]? = none)
    (hE : ∀ h' e, Heap.ExtBut it s.heap h' → (∃ o, h'.get? e = some o ∧ o.cls = .type "StopIteration") → E (.ref e) { s with heap := h' }) :
    wpAny (model prog w) A (Builtin.SmallTypes.nextOf (.ref it)) Q E s := by
  refine hide fun kH => ?_
  obtain ⟨o, ho, hc, hd⟩ := id hit
  obtain ⟨ol, hol, _, nl, hdl⟩ := hl
  refine kH ?_
  clear kH
  unfold Builtin.SmallTypes.nextOf
  refine wpAny_bind (wpAny_callSpecial?_slot (name := Str.ofString "__next__") hit.typeIs F.slot_tuple_iterator_next
    (wpAny_call_entry F.slot_tuple_iterator_next hit.typeIs F.entry_tuple_iterator_next ?_ (F.args_tuple_iterator_next_1 _)))
  show wpAny _ _ (field (.ref it) 0 >>= _) _ _ s
  refine wpAny_bind (wpAny_field ho hd (x := .ref l) rfl ?_)
  show wpAny _ _ (if (Value.ref l == Value.none) = true then _ else _) _ _ s
  rw [if_neg (show ¬ ((Value.ref l == Value.none) = true) from Bool.false_ne_true)]
  show wpAny _ _ (field (.ref it) 1 >>= _) _ _ s
  refine wpAny_bind (wpAny_field ho hd (x := .int i 0) rfl ?_)
  show wpAny _ _ (seqItems? (.ref l) >>= _) _ _ s
  refine wpAny_bind (wpAny_seqItems hol hdl ?_)
  simp only [Int.toNat_natCast, hx]
  refine wpAny_bind (wpAny_rule (wpAny_bind (wpAny_setField ho hd (by simp) ?_)))
  show wpAny _ _ (newExc (.type "StopIteration") [] >>= _) _ _ _
  refine wpAny_bind ?_
  simp only [newExc, newTuple]
  refine wpAny_bind (wpAny_newObj_type ?_ (by size_fits))
  refine wpAny_bind (m := firstArgMember _ _) (wpAny_of_eq (a := Value.none) (by first | rfl | (simp only [firstArgMember]; rfl)) ?_)
  refine wpAny_newObj_type ?_ (by size_fits)
  simp only [raiseNew]
  refine wpAny_bind (wpAny_handled ?_)
  first | rw [show A.in1.handled = none from hh] | rw [hh]
  refine wpAny_bind (wpAny_pure (wpAny_throw ?_))
  exact hE _ _ (((Heap.SameBut.update ..).extBut.push _).push _) ⟨_, Heap.get?_push_size _ rfl, rfl⟩
theorem enum_tup_next {e it l : Addr} {i : Nat} {items : Array Value} {x old : Value} {Q : Value → Shared → Prop}
    (he : IsEnum s.heap e it i old) (hit : s.heap.IsTupleIter it l i) (hl : s.heap.IsTuple l items) (hx : items[i]? = some x) (hne : e ≠ it)
    (hQ : ∀ h', IsEnumOut h' e it ((i : Int) + 1) x s.heap.objs.size → h'.IsTupleIter it l (i + 1) →
      h'.get? s.heap.objs.size = some { cls := .type "tuple", data := .seq #[.int i s.toks, x] } →
      (∀ b o, b ≠ e → b ≠ it → s.heap.get? b = some o → h'.get? b = some o) → Q (.ref s.heap.objs.size) { s with heap := h', toks := s.toks + 1 }) :
    wpAny (model prog w) A (Builtin.«enumerate.__next__» ⟨[.ref e], []⟩) (fun fin s' => ∃ v, fin = .done (.ret v) ∧ Q v s') E s := by
  refine hide fun kH => ?_
  obtain ⟨hp, g, d, tk, os⟩ := s
  refine kH ?_
  clear kH
  have hel : e < hp.objs.size := Heap.lt_size he
  show wpAny _ _ (field (.ref e) 2 >>= _) _ _ _
  refine wpAny_bind (wpAny_field he rfl (x := .ref it) rfl ?_)
  refine wpAny_bind (nextOf_tup_item hit hl hx fun h₁ hit₁ hs₁ => ?_)
  replace hs₁ : Heap.SameBut it hp h₁ := hs₁
  have he₁ : IsEnum h₁ e it i old := (hs₁.2 e hne).trans he
  show wpAny _ _ (field (.ref e) 3 >>= _) _ _ ⟨h₁, g, d, tk, os⟩
  refine wpAny_bind (wpAny_field he₁ rfl (x := rawInt i) rfl ?_)
  show wpAny _ _ (field (.ref e) 4 >>= _) _ _ ⟨h₁, g, d, tk, os⟩
  refine wpAny_bind (wpAny_field he₁ rfl (x := .none) rfl ?_)
  show wpAny _ _ (mkInt i >>= _) _ _ ⟨h₁, g, d, tk, os⟩
  refine wpAny_bind (wpAny_mkInt ?_)
  show wpAny _ _ (setField (.ref e) 3 (rawInt ((i : Int) + 1)) >>= _) _ _ ⟨h₁, g, d, tk + 1, os⟩
  refine wpAny_bind (wpAny_setField_rec he₁ (by simp) fun h₂ he₂ hs₂ => ?_)
  replace hs₂ : Heap.SameBut e h₁ h₂ := hs₂
  replace he₂ : IsEnum h₂ e it ((i : Int) + 1) old := he₂
  show wpAny _ _ (setField (.ref e) 4 .none >>= _) _ _ ⟨h₂, g, d, tk + 1, os⟩
  refine wpAny_bind (wpAny_setField_rec he₂ (by simp) fun h₃ he₃ hs₃ => ?_)
  replace hs₃ : Heap.SameBut e h₂ h₃ := hs₃
  replace he₃ : IsEnum h₃ e it ((i : Int) + 1) old := he₃
  have hsz : h₃.objs.size = hp.objs.size := by rw [hs₃.1, hs₂.1, hs₁.1]
  have kp : ∀ b o, b ≠ e → b ≠ it → hp.get? b = some o → h₃.get? b = some o := fun b o hbe hbi hb => hs₃.extBut b o hbe (hs₂.extBut b o hbe (hs₁.extBut b o hbi hb))
  have hit₃ : h₃.IsTupleIter it l (i + 1) := (hit₁.extBut hs₂.extBut (Ne.symm hne)).extBut hs₃.extBut (Ne.symm hne)
  show wpAny _ _ (newTuple [.int i tk, x] >>= _) _ _ ⟨h₃, g, d, tk + 1, os⟩
  refine wpAny_bind (wpAny_newTuple ?_)
  rw [hsz]
  refine hide fun kH => ?_
  obtain ⟨h₄, hh₄⟩ : ∃ h₄, h₃.push { cls := .type "tuple", data := .seq #[.int i tk, x] } = h₄ := ⟨_, rfl⟩
  refine kH ?_
  clear kH
  have he₄ : IsEnum h₄ e it ((i : Int) + 1) old := hh₄ ▸ Heap.get?_push_of_some _ he₃
  have ht₄ : h₄.get? hp.objs.size = some { cls := .type "tuple", data := .seq #[.int i tk, x] } := by rw [← hh₄, ← hsz]; exact Heap.get?_push_size _ rfl
  have hk₄ : ∀ b o, b ≠ e → b ≠ it → hp.get? b = some o → h₄.get? b = some o := fun b o hbe hbi hb => hh₄ ▸ Heap.get?_push_of_some _ (kp b o hbe hbi hb)
  have hit₄ : h₄.IsTupleIter it l (i + 1) := by
    obtain ⟨o, ho, r⟩ := hit₃; exact ⟨o, hh₄ ▸ Heap.get?_push_of_some _ ho, r⟩
  show wpAny _ _ (Builtin.SmallTypes.ownedTupleIsFree (.ref e) >>= _) _ _ ⟨h₃.push { cls := .type "tuple", data := .seq #[.int i tk, x] }, g, d, tk + 1, os⟩
  rw [hh₄]
  refine wpAny_bind ?_
  unfold Builtin.SmallTypes.ownedTupleIsFree
  refine wpAny_bind (wpAny_field he₄ rfl (x := .none) rfl (wpAny_pure ?_))
  simp only [if_true]
  refine wpAny_bind (wpAny_rule ?_)
  refine wpAny_bind (wpAny_field he₄ rfl (x := old) rfl ?_)
  refine wpAny_bind (wpAny_setField_rec he₄ (by simp) fun h₅ he₅ hs₅ => ?_)
  replace hs₅ : Heap.SameBut e h₄ h₅ := hs₅
  replace he₅ : IsEnum h₅ e it ((i : Int) + 1) x := he₅
  show wpAny _ _ (Builtin.SmallTypes.ownedTupleHandOut (.ref e) (.ref hp.objs.size) >>= _) _ _ ⟨h₅, g, d, tk + 1, os⟩
  refine wpAny_bind ?_
  unfold Builtin.SmallTypes.ownedTupleHandOut
  refine wpAny_bind (wpAny_setField_rec he₅ (by simp) fun h₆ he₆ hs₆ => ?_)
  replace hs₆ : Heap.SameBut e h₅ h₆ := hs₆
  replace he₆ : IsEnumOut h₆ e it ((i : Int) + 1) x hp.objs.size := he₆
  refine wpAny_setField_rec he₆ (by simp) fun h₇ he₇ hs₇ => ?_
  replace hs₇ : Heap.SameBut e h₆ h₇ := hs₇
  replace he₇ : IsEnumOut h₇ e it ((i : Int) + 1) x hp.objs.size := he₇
  refine wpAny_bind (wpAny_letGo (wpAny_pure ⟨_, rfl, hQ h₇ he₇ ?_ ?_ ?_⟩))
  · exact ((hit₄.extBut hs₅.extBut (Ne.symm hne)).extBut hs₆.extBut (Ne.symm hne)).extBut hs₇.extBut (Ne.symm hne)
  · exact hs₇.extBut _ _ (Nat.ne_of_gt hel) (hs₆.extBut _ _ (Nat.ne_of_gt hel) (hs₅.extBut _ _ (Nat.ne_of_gt hel) ht₄))
  · exact fun b o hbe hbi hb => hs₇.extBut b o hbe (hs₆.extBut b o hbe (hs₅.extBut b o hbe (hk₄ b o hbe hbi hb)))
theorem enum_tup_turns (hh : A.handled = none) (e it l : Addr) (hei : e ≠ it) (hle : l ≠ e) (hli : l ≠ it) (items : Array Value) (elts : List Expr) (k : Nat) (pos : Pos) :
    KTurns prog w A (.Tuple elts k pos) e [e, it, l] [e, it] items.size
      (fun i v h => ∃ T t x, v = .ref T ∧ items[i]? = some x ∧ h.IsTuple T #[.int i t, x])
      (fun i v h => ∃ T t x, v = .ref T ∧ items[i]? = some x ∧ h.IsTuple T #[.int i t, x] ∧ IsEnumOut h e it ((i : Int) + 1) x T ∧ h.IsTupleIter it l (i + 1) ∧ h.IsTuple l items ∧ T ≠ e)
      (fun i h => (∃ old, IsEnum h e it i old) ∧ h.IsTupleIter it l i ∧ h.IsTuple l items) where
  sub := fun b hb => by
    rcases List.mem_cons.mp hb with rfl | hb
    · exact .head _
    · rw [List.mem_singleton.mp hb]; exact .tail _ (.head _)
  frame := fun i h h' hst hk => by
    refine hide fun kH => ?_
    obtain ⟨⟨old, he⟩, hit, hl⟩ := hst
    refine kH ?_
    clear kH
    exact ⟨⟨old, hk e (by simp) _ he⟩, hit.at fun o x => hk it (by simp) o x, hl.at fun o x => hk l (by simp) o x⟩
  item := fun i s Q E hi hst hQ => by
    refine hide fun kH => ?_
    obtain ⟨⟨old, he⟩, hit, hl⟩ := hst
    refine kH ?_
    clear kH
    have hx : items[i]? = some items[i] := Array.getElem?_eq_getElem hi
    have hT : s.TypeIs (.ref e) "enumerate" := ⟨_, he, rfl⟩
    have helt : e < s.heap.objs.size := Heap.lt_size he
    unfold pyNext
    refine wpAny_bind (wpAny_attempt (wpAny_callSpecial?_slot (name := Str.ofString "__next__") hT F.slot_enumerate_next
      (wpAny_call_entry F.slot_enumerate_next hT F.entry_enumerate_next
        (enum_tup_next he hit hl hx hei fun h' a b c kk => wpAny_pure ?_) (F.args_enumerate_next_1 _))))
    exact hQ _ h' _ ⟨_, _, _, rfl, hx, ⟨_, c, rfl, _, rfl⟩, a, b, hl.at fun o x => kk l o hle hli x, Nat.ne_of_gt helt⟩ fun b o hb x => kk b o (fun e' => hb (by simp [e'])) (fun e' => hb (by simp [e'])) x
  go := fun i v s Q E hm hQ => by
    refine hide fun kH => ?_
    obtain ⟨T, t, x, rfl, hx, hT, ho, hit, hl, hTe⟩ := hm
    refine kH ?_
    clear kH
    refine wpAny_letOwnedTupleGo_enum ho fun h' he' hs' => hQ h' ⟨T, t, x, rfl, hx, hT.at fun o y => (hs'.2 T hTe).trans y⟩ ⟨⟨x, by simpa using he'⟩, hit.at fun o y => (hs'.2 it hei.symm).trans y, hl.at fun o y => (hs'.2 l hle).trans y⟩ fun b o hb y => ?_
    exact (hs'.2 b fun e' => hb (by simp [e'])).trans y
  done := fun s Q E hst hQ => by
    refine hide fun kH => ?_
    obtain ⟨⟨old, he⟩, hit, hl⟩ := hst
    refine kH ?_
    clear kH
    have hT : s.TypeIs (.ref e) "enumerate" := ⟨_, he, rfl⟩
    unfold pyNext
    refine wpAny_bind (wpAny_attempt (wpAny_callSpecial?_slot (name := Str.ofString "__next__") hT F.slot_enumerate_next
      (wpAny_call_entry F.slot_enumerate_next hT F.entry_enumerate_next ?_ (F.args_enumerate_next_1 _))))
    show wpAny _ _ (field (.ref e) 2 >>= _) _ _ _
    refine wpAny_bind (wpAny_field he rfl (x := .ref it) rfl ?_)
    refine wpAny_bind (nextOf_tup_end hh hit hl (Array.getElem?_eq_none (Nat.le_refl _)) fun h' x he' hx' => ?_)
    refine hide fun kH => ?_
    obtain ⟨o, ho, hc⟩ := hx'
    refine kH ?_
    clear kH
    refine wpAny_bind (wpAny_isInstance (T := "StopIteration") (b := true) ⟨o, ho, hc⟩ isSubtype_stop ?_)
    exact wpAny_pure (hQ h' s.toks fun b o hb y => he' b o (fun e' => hb (by simp [e'])) y)
end
end Mine

end
section
open PySem PySem.W PyProof.Rows in
theorem Mine.freshHP {prog : Program} {w : World} {A : Around} {env : Env} {E : Value → Shared → Prop} {Q : Flow → Shared → Prop} {s : Shared} (h : Q .next s) : wpAny (model prog w) A (execs [] env) Q E s := by w_top off; k_with_none; walk1; exact h
open PySem PySem.W PyProof.Rows
set_option Elab.async false
set_option maxRecDepth 100000
set_option maxHeartbeats 2000000
set_option pp.deepTerms false
set_option pp.deepTerms.threshold 4
namespace Mine
local macro_rules | `(tactic| k_all) => `(tactic| assumption)
/-- what _heapify_max has done when `k` turns are left -/
noncomputable def hfyTo (xs : List Int) (k : Nat) : Nat → List Int
  | 0 => xs
  | i + 1 => sup (hfyTo xs k i) (k - 1 - i)
noncomputable def hfy (xs : List Int) : List Int := hfyTo xs (xs.length / 2) (xs.length / 2)
theorem sdown_length (xs : List Int) (x : Int) (start pos : Nat) : (sdown xs x start pos).length = xs.length := by
  induction pos using Nat.strongRecOn generalizing xs with
  | _ pos ih =>
    rw [sdown_eq]
    split
    · rename_i c
      rw [ih _ (par_lt (Nat.lt_of_le_of_lt (Nat.zero_le _) c.1)), List.length_set]
    · rw [List.length_set]
theorem sgo_length (xs : List Int) (pos : Nat) : (sgo xs pos).1.length = xs.length := by
  induction h : xs.length - pos using Nat.strongRecOn generalizing xs pos with
  | _ k ih =>
    rw [sgo_eq]
    split
    · rename_i hc
      rw [ih _ (by rw [← h, List.length_set]; exact up_lt (big_gt xs pos) (big_lt xs _ hc)) _ _ rfl, List.length_set]
    · rfl
theorem sup_length (xs : List Int) (pos : Nat) : (sup xs pos).length = xs.length := by
  unfold sup; rw [sdown_length, List.length_set, sgo_length]
theorem hfyTo_length (xs : List Int) (k i : Nat) : (hfyTo xs k i).length = xs.length := by
  induction i with
  | zero => rfl
  | succ i ih => rw [hfyTo, sup_length, ih]
inductive HInv (ns : List Int) (D : Addr) (rest : Led) (i : Nat) (m : Str → Option Value) (nw : Led) : Prop
  | mk (vs' : List Value) (n' : Nat) (hi : IntsAre vs' (hfyTo ns (ns.length / 2) i)) (hn : nw = (D, listOf vs'.toArray n') :: rest) (hm : m (Str.ofString "x") = some (.ref D))
theorem heapify_does (w : World) (D : Addr) (n : Nat) (vs : List Value) (ns : List Int) (rest : Led) (hi : IntsAre vs ns) (hD : ∀ p ∈ rest, p.1 ≠ D) (hl : ns.length < 1000) :
    Does w 28 [.ref D] 3 ((D, listOf vs.toArray n) :: rest) (fun r news' => r = .none ∧ ∃ vs' n', IntsAre vs' (hfy ns) ∧ news' = (D, listOf vs'.toArray n') :: rest) := by
  unfold Does
  have := lawRef
  revert this
  k_fill
  intro _
  intro p loose mean mg mb dp un gd cn cs a ccd cl outer A₀ base h₀ L m s Q E B F X N T C1 C2 hck hdp hun hret
  k_with_none
  k_with "eval Name" => (k_here; k_dflt (refine' nameX_L2 ?F ?_ ?v ?a ?b; (case F => k_asm); (case a => exact rfl); (case b => exact rfl); (case v => exact rfl); k_whole))
  k_with "call type:reversed" => (with_reducible refine stop_here ?_)
  k_with "call ref" => (with_reducible refine stop_here ?_)
  refine wpAny_call ?_
  k_dflt cell_enter
  k_steps
  refine ⟨?_⟩
  rename_i hR F2 N2 _
  have hk : ((ns.length : Int).fdiv 2) = ((ns.length / 2 : Nat) : Int) := by rw [Int.fdiv_eq_ediv_of_nonneg _ (by decide)]; rfl
  have hnew := next_is_new F2
  have hlt := F2.ns.lt
  rw [hk] at hR
  refine call_reversed_range hR (Int.natCast_nonneg _) (Int.ofNat_lt.mpr (Nat.lt_of_le_of_lt (Nat.div_le_self _ _) (Nat.lt_trans hl (by decide)))) ?_
  refine for_rev (n := ns.length / 2) (HInv ns D rest) rfl (Heap.get?_push_size _ rfl) hnew (Nat.ne_of_lt hlt) (fun p hp => Nat.ne_of_lt (Heap.lt_size (N2 p hp).1)) (F2.push _) (fun p hp => ⟨Heap.get?_push_of_some _ (N2 p hp).1, (N2 p hp).2⟩) ⟨vs, n, hi, rfl, rfl⟩ ?turn ?done
  case turn =>
    intro i t m₁ news₁ h tk I oI hin z0H hne F₁ N₁
    refine hide fun kH => ?_
    obtain ⟨vs', n', hi', rfl, e1⟩ := z0H
    refine kH ?_
    clear kH
    have hl' := hfyTo_length ns (ns.length / 2) i
    have F₂ := fr_see [(Str.ofString "x", .ref D), (Str.ofString "i", .int ((ns.length / 2 : Nat) - 1 - (i : Int)) t)] F₁ (List.forall_mem_cons.mpr ⟨e1, List.forall_mem_cons.mpr ⟨rfl, fun _ h => nomatch h⟩⟩)
    dsimp only [kstB] at F₂
    clear F₁
    have hD2 : ∀ p ∈ (I, oI) :: rest, p.1 ≠ D := off_cons (fun e => hne _ (.head _) e.symm) hD
    have N₂ := news_swap N₁
    clear N₁
    k_steps
    refine ⟨?_⟩
    have e2 : (((ns.length / 2 : Nat) : Int) - 1 - (i : Int)) = ((ns.length / 2 - 1 - i : Nat) : Int) := by
      rw [Int.ofNat_sub (Nat.le_sub_one_of_lt hin), Int.ofNat_sub (Nat.lt_of_le_of_lt (Nat.zero_le i) hin)]; rfl
    rw [e2]
    k_dflt (refine' Does.use (siftup_does w D _ _ _ _ (ns.length / 2 - 1 - i) _ hi' hD2 (by rw [hl']; exact Nat.lt_of_le_of_lt (Nat.sub_le _ _) (Nat.lt_of_lt_of_le (Nat.sub_lt (Nat.lt_of_le_of_lt (Nat.zero_le i) hin) Nat.one_pos) (Nat.div_le_self _ _))) (by rw [hl']; exact hl)) ?B ?F ?X ?N ?T ?C1 ?C2 ?hk ?hd ?hu ?_)
    case B => k_asm
    case F => k_asm
    case X => k_asm
    case N => k_asm
    case T => k_asm
    case C1 => exact CodeHd.keeps (by assumption) (Fr.keep (by assumption))
    case C2 => exact CodeHd.keeps (by assumption) (Fr.keep (by assumption))
    case hk => rfl
    case hd => first | exact droom (by with_reducible assumption) rfl | exact Nat.le_of_ble_eq_true rfl | ktr_room
    case hu => first | exact uroom (by with_reducible assumption) rfl | exact Nat.le_of_ble_eq_true rfl | ktr_units
    refine hide2 ?_
    rintro PH kH r news' ⟨rfl, vs2, n2, hi3, rfl⟩
    refine kH _ _ ?_
    clear kH PH
    intro h' tk' F5 N5
    k_steps
    refine te_end F5 (news_swap N5) ?_ ⟨_, _, hi3, rfl, rfl⟩
    exact off_cons (hne (D, listOf vs'.toArray n') (.head _)) fun p hp => hne p (.tail _ hp)
  case done =>
    intro m₁ news₁ h tk z0H F₁ N₁
    refine hide fun kH => ?_
    obtain ⟨vs', n', hi', rfl, e1⟩ := z0H
    refine kH ?_
    clear kH
    k_steps
    rename_i F6 N6 _ _
    exact hret _ _ _ _ ⟨rfl, _, _, hi', rfl⟩ F6 N6

noncomputable def hpop (xs : List Int) : Int × List Int :=
  if xs.length ≤ 1 then (xs.getD 0 0, []) else (xs.getD 0 0, sup ((xs.dropLast).set 0 (xs.getLastD 0)) 0)
theorem pop_hg {ns : List Int} (h1 : ns.length ≠ 1) (h0 : ns ≠ []) : ns.dropLast.getD 0 0 = ns.getD 0 0 := by
  match ns, h1, h0 with
  | _ :: _ :: _, _, _ => rfl
theorem heappop_does (w : World) (D : Addr) (n : Nat) (vs : List Value) (ns : List Int) (rest : Led) (hi : IntsAre vs ns) (hD : ∀ p ∈ rest, p.1 ≠ D) (h0 : ns ≠ []) (hl : ns.length < 1000) :
    Does w 21 [.ref D] 3 ((D, listOf vs.toArray n) :: rest) (fun r news' => (∃ t, r = .int (hpop ns).1 t) ∧ ∃ vs' n', IntsAre vs' (hpop ns).2 ∧ news' = (D, listOf vs'.toArray n') :: rest) := by
  unfold Does
  have := lawRef
  revert this
  k_fill
  intro _
  intro p loose mean mg mb dp un gd cn cs a ccd cl outer A₀ base h₀ L m s Q E B F X N T C1 C2 hck hdp hun hret
  k_with_none
  k_with "eval Name" => (k_here; k_dflt (refine' nameX_L2 ?F ?_ ?v ?a ?b; (case F => k_asm); (case a => exact rfl); (case b => exact rfl); (case v => exact rfl); k_whole))
  k_with "call ref" => (with_reducible refine stop_here ?_)
  k_with "call builtin:list.pop" => (with_reducible refine stop_here ?_)
  refine wpAny_call ?_
  k_dflt cell_enter
  k_steps
  refine ⟨?_⟩
  have h1 : 0 < ns.length := List.length_pos_iff.mpr h0
  refine kpa_pop (us := vs) (l := ns) (by k_asm) (by k_asm) (Upd.head hD) hi (by rw [hi.length]; exact h1) ?z ?_
  case z => rw [hi.length, sizeLine_eq]; exact Nat.le_of_lt (Nat.lt_of_lt_of_le hl (by decide))
  intro h' t' F' N' hI'
  k_with "truthy ref" => (with_reducible refine stop_here ?_)
  k_steps
  refine ⟨?_⟩
  have hdl : vs.dropLast.length = ns.length - 1 := by simp [hi.length]
  refine truthy_led (vs := vs.dropLast) (by k_asm) (.head _) (by rw [hdl]; exact Nat.lt_of_le_of_lt (Nat.sub_le _ _) (Nat.lt_of_lt_of_le hl (by decide))) ?_
  intro tk1
  rw [hdl]
  by_cases hone : ns.length = 1
  · have e0 : (ns.length - 1 != 0) = false := by simp [hone]
    rw [e0]
    k_steps
    rename_i F6 N6 _ _
    have hp : hpop ns = (ns.getD 0 0, []) := by unfold hpop; rw [if_pos (Nat.le_of_eq hone)]
    have hns : ∃ z, ns = [z] := List.length_eq_one_iff.mp hone
    refine hide fun kH => ?_
    obtain ⟨z, rfl⟩ := hns
    refine kH ?_
    clear kH
    exact hret _ _ _ _ ⟨⟨t', by rw [hp]; rfl⟩, vs.dropLast, n + 1, by rw [hp]; exact hI', rfl⟩ F6 N6
  · have n1 : 1 < ns.length := Nat.lt_of_le_of_ne h1 (Ne.symm hone)
    have e0 : (ns.length - 1 != 0) = true := bne_iff_ne.mpr (Nat.ne_of_gt (Nat.sub_pos_of_lt n1))
    rw [e0]
    have hlen2 : 0 < ns.dropLast.length := by rw [List.length_dropLast]; exact Nat.sub_pos_of_lt n1
    k_steps
    refine ⟨?_⟩
    rename_i t9 _ _ F4 N4 hi4 _ _
    have hz : Int.toNat 0 = 0 := rfl
    simp only [hz] at hi4 N4
    k_dflt (refine' Does.use (siftup_does w D _ _ _ rest 0 _ hi4 hD (by rw [List.length_set]; exact hlen2) (by rw [List.length_set, List.length_dropLast]; exact Nat.lt_of_le_of_lt (Nat.sub_le _ _) hl)) ?_ ?_ ?_ ?_ ?_ ?_ ?_ ?_ ?_ ?_ ?_)
    all_goals try (first | ((with_reducible show Below _ _ _ _); k_asm) | ((with_reducible show Fr _ _ _ _); k_asm) | ((with_reducible show Frag.In _ _); k_asm) | ((with_reducible show News _ _ _ _); k_asm) | ((with_reducible show Top _ _ _ _ _ _); k_asm) | ((with_reducible show CodeHd _ _ _); first | assumption | exact CodeHd.keeps (by assumption) (Fr.keep (by assumption))) | ((with_reducible show Scope.kind _ = _); exact rfl) | ((with_reducible show _ < recursionLimit); first | exact droom (by with_reducible assumption) rfl | exact Nat.le_of_ble_eq_true rfl | ktr_room) | ((with_reducible show _ < cLine); first | exact uroom (by with_reducible assumption) rfl | exact Nat.le_of_ble_eq_true rfl | ktr_units))
    refine hide2 ?_
    rintro PH kH r news' ⟨rfl, vs2, n2, hi3, rfl⟩
    refine kH _ _ ?_
    clear kH PH
    intro h' tk' F5 N5
    k_steps
    rename_i F6 N6 _ _
    have hp : hpop ns = (ns.getD 0 0, sup ((ns.dropLast).set 0 (ns.getLastD 0)) 0) := by unfold hpop; rw [if_neg (Nat.not_le.mpr n1)]
    have hg : ns.dropLast.getD (Int.toNat 0) 0 = ns.getD 0 0 := pop_hg hone h0
    exact hret _ _ _ _ ⟨⟨t9, by rw [hp, hg]⟩, vs2, n2, by rw [hp]; exact hi3, rfl⟩ F6 N6
end Mine

end
section
open PySem PySem.W PyProof.Rows in
theorem Mine.freshID {prog : Program} {w : World} {A : Around} {env : Env} {E : Value → Shared → Prop} {Q : Flow → Shared → Prop} {s : Shared} (h : Q .next s) : wpAny (model prog w) A (execs [] env) Q E s := by w_top off; k_with_none; walk1; exact h
open PySem PySem.W PyProof.Rows
set_option Elab.async false
set_option maxRecDepth 100000
set_option maxHeartbeats 2000000
set_option pp.deepTerms false
set_option pp.deepTerms.threshold 4
namespace Mine
local macro_rules | `(tactic| k_ne) => `(tactic| k_extra "ne")
local macro_rules | `(tactic| k_all) => `(tactic| assumption)
local macro_rules | `(tactic| k_mem) => `(tactic| assumption)
noncomputable def nd (x : Int) (n : Nat) : Nat := (Builtin.Int.intBits x + n - 1) / n
noncomputable def digs (x : Int) (n : Nat) : List Int := (List.range (nd x n)).map fun i => x / 2 ^ (n * i) % 2 ^ n
theorem up_div {b n N : Nat} (hn : 0 < n) (h : b ≤ n * N) : (b + n - 1) / n ≤ N :=
  Nat.le_of_lt_succ (Nat.div_lt_of_lt_mul (Nat.lt_of_lt_of_le (Nat.sub_lt (Nat.add_pos_right b hn) Nat.one_pos) (by rw [Nat.mul_succ]; exact Nat.add_le_add_right h n)))
theorem nd_cast {x : Int} {n : Nat} (hn : 0 < n) : ((Builtin.Int.intBits x : Int) + (n : Int) - 1).fdiv (n : Int) = (nd x n : Int) := by
  rw [Int.fdiv_eq_ediv_of_nonneg _ (by lia)]
  unfold nd
  rw [show ((Builtin.Int.intBits x : Int) + (n : Int) - 1) = ((Builtin.Int.intBits x + n - 1 : Nat) : Int) by lia]
  norm_cast
theorem nd_pow {x : Int} {n : Nat} (hn : 0 < n) (hx : 0 ≤ x) : x < 2 ^ (n * nd x n) := by
  have h1 : Builtin.Int.intBits x ≤ n * nd x n := by
    unfold nd
    have := Nat.div_add_mod (Builtin.Int.intBits x + n - 1) n
    have := Nat.mod_lt (Builtin.Int.intBits x + n - 1) hn
    lia
  have h2 := PySem.intBits_le_iff.mp h1
  have h3 : ((x.natAbs : Nat) : Int) < ((2 ^ (n * nd x n) : Nat) : Int) := by exact_mod_cast h2
  rw [Int.natAbs_of_nonneg hx] at h3
  exact_mod_cast h3
theorem nd_pos {x : Int} {n : Nat} (hn : 0 < n) (hx : x ≠ 0) : 0 < nd x n := by
  unfold nd
  have : 0 < Builtin.Int.intBits x := by
    rcases Nat.eq_zero_or_pos (Builtin.Int.intBits x) with h | h
    · have := PySem.intBits_le_iff.mp (Nat.le_of_eq h); simp at this; lia
    · exact h
  exact Nat.div_pos (by lia) hn
theorem nd_zero {n : Nat} (hn : 0 < n) : nd 0 n = 0 := by
  unfold nd
  rw [show Builtin.Int.intBits 0 = 0 from rfl]
  exact Nat.div_eq_of_lt (by lia)
theorem digs_of {x : Int} {n : Nat} {ns : List Int} (hl : ns.length = nd x n) (h : ∀ j, ns.getD j 0 = if 0 ≤ j ∧ j < nd x n then x / 2 ^ (n * (j - 0)) % 2 ^ n else (List.replicate (nd x n) (0 : Int)).getD j 0) : ns = digs x n := by
  apply ext_getD (by simp [digs, hl])
  intro j hj
  rw [h j, if_pos (by lia)]
  simp [digs, List.getD_eq_getElem?_getD, show j < nd x n by lia]
theorem int2digits_miss (w : World) (x : Int) (n : Nat) (t1 t2 : Tok) (rest : Led) (h44 : ∀ p ∈ rest, p.1 ≠ 44) (hx : 0 ≤ x) (hK : nd x n ≤ 600) (hn : 0 < n) (hn2 : n < 64) :
    Does w 49 [.int x t1, .int n t2] 650 ((44, tabObj #[]) :: rest) (fun r news' => ∃ D vs k q, r = .ref D ∧ IntsAre vs (digs x n) ∧ CodeOk (Str.ofString "_int2digits.<locals>.inner") q ∧ news' = (D, listOf vs.toArray k) :: (tabOf 44 43 4 q ++ rest) ∧ (∀ p ∈ rest, p.1 < D) ∧ 44 < D ∧ q.1 ≠ D ∧ ∀ p ∈ rest, p.1 < q.1) := by
  unfold Does
  have := lawRef
  revert this
  k_fill
  intro _
  intro p loose mean mg mb dp un gd cn cs a ccd cl outer A₀ base h₀ L m s Q E B F X N T C1 C2 hck hdp hun hret
  k_with_none
  k_with "eval Name" => (k_here; k_dflt (refine' nameX_L2 ?F ?_ ?v ?a ?b; (case F => k_asm); (case a => exact rfl); (case b => exact rfl); (case v => exact rfl); k_whole))
  k_with "ne" => (refine neN ?_; (try dsimp only); first | (refine Nat.ne_of_gt ?_; (repeat (first | assumption | exact Nat.lt_succ_self _ | exact Nat.lt_of_succ_lt (by assumption) | exact Nat.lt_of_succ_lt (Nat.lt_of_succ_lt (by assumption)) | exact And.left (by assumption) | exact And.left (And.right (by assumption)) | exact And.left (And.right (And.right (by assumption))) | exact And.left (And.right (And.right (And.right (by assumption)))) | refine Nat.lt_succ_of_lt ?_)); done) | (refine Nat.ne_of_lt ?_; (repeat (first | assumption | exact Nat.lt_succ_self _ | exact Nat.lt_of_succ_lt (by assumption) | exact Nat.lt_of_succ_lt (Nat.lt_of_succ_lt (by assumption)) | exact And.left (by assumption) | exact And.left (And.right (by assumption)) | exact And.left (And.right (And.right (by assumption))) | exact And.left (And.right (And.right (And.right (by assumption)))) | refine Nat.lt_succ_of_lt ?_)); done))
  k_with "call ref" => (with_reducible refine stop_here ?_)
  k_with "call builtin:len" => (with_reducible refine stop_here ?_)
  k_with "binaryOp Mult ref int" => (with_reducible refine stop_here ?_)
  refine wpAny_call ?_
  k_dflt (((refine' code_defC ?k1 ?k2 ?k3 ?k4 ?k5 ?kA ?kF ?kK ?k6 ?k7 ?k8 ?k9 ?kB ?kD ?_ ?c2 ?c3 ?c4; (case kA => exact rfl); (case kF => exact rfl); (case kK => assumption); (case k1 => k_asm); (case k2 => k_asm); (case k3 => k_asm); (case k4 => k_asm); (case k5 => k_asm); (case k6 => k_is); (case k7 => k_is); (case k8 => first | exact droom0 hdp | ktr_room); (case k9 => exact BindsTo.of_eq rfl); (case kB => exact rfl); (case kD => decide +kernel); (case c2 => exact rfl); (case c3 => exact rfl); (case c4 => exact rfl))))
  intro g' L' h' tk' cells' FG' F' N' Y' B' X' T' l1
  k_cells Y'
  rename_i o1 o2 o3 d1 d2 d3
  replace d1 : o1.data = .cell none := d1
  replace d2 : o2.data = .cell none := d2
  replace d3 : o3.data = .cell (some (.int n t2)) := d3
  simp only [List.cons_append, List.nil_append] at N'
  have l44 := ltN (l1 _ (.head _))
  dsimp only at l44
  have C2' := CodeHd.keeps C2 FG'.keep
  dsimp only
  k_steps
  refine ⟨?_⟩
  rename_i l2 h3 F3 N3 hl3
  refine rep_led F3 N3 (.head _) (nd x n) (nd_cast hn) (Nat.le_trans hK (by decide)) ?_
  intro D h4 F4 N4 hD4
  have N5 := news_sub (b := (D, listOf (List.replicate (nd x n) (Value.int 0 _)).toArray 0) :: (_, o1) :: (_, o2) :: (_, o3) :: (44, tabObj #[]) :: rest) N4 (by
    intro p hp
    rcases List.mem_cons.mp hp with h | h
    · exact h ▸ .head _
    · exact .tail _ (.tail _ h))
  have hDr : ∀ p ∈ rest, p.1 < D := fun p hp => hD4 p (.tail _ (.tail _ (.tail _ (.tail _ (.tail _ hp)))))
  have hD1 : L' + 1 + 1 + 1 < D := hD4 _ (.tail _ (.head _))
  clear N4 N3 F3 hl3
  have hr0 : ∀ p ∈ rest, p.1 < L' := fun p hp => l1 p (.tail _ hp)
  have hr1 : ∀ p ∈ rest, p.1 ≠ L' + 1 := fun p hp => neN (Nat.ne_of_lt (Nat.lt_succ_of_lt (ltN (hr0 p hp))))
  have hr2 : ∀ p ∈ rest, p.1 ≠ L' + 1 + 1 := fun p hp => neN (Nat.ne_of_lt (Nat.lt_succ_of_lt (Nat.lt_succ_of_lt (ltN (hr0 p hp)))))
  have hr3 : ∀ p ∈ rest, p.1 ≠ L' + 1 + 1 + 1 := fun p hp => neN (Nat.ne_of_lt (Nat.lt_succ_of_lt (Nat.lt_succ_of_lt (Nat.lt_succ_of_lt (ltN (hr0 p hp))))))
  have hrD : ∀ p ∈ rest, p.1 ≠ D := fun p hp => Nat.ne_of_lt (hDr p hp)
  replace hD1 := ltN hD1
  k_steps
  · refine ⟨?_⟩
    rename_i f6 c6 oc6 vs6 t6 _ _ _ _ d61 d62 l61 l62 h7 o7 F7 N7 d7 hx7
    refine len_led N7 (.tail _ (.tail _ (.head _))) (nd x n) (by simp) (by simp; lia) ?_
    intro t8 tk8
    k_steps
    refine ⟨?_⟩
    rename_i dA _ _ _ _
    have N8 := news_third N7
    have lc : D < c6 := ltN l61.1
    have lf : c6 < f6 := ltN l62
    k_dflt (refine' Does.use (i2d_inner w n hn hn2 f6 c6 D (L' + 1) (L' + 1 + 1 + 1) (L' + 1 + 1) _ _ _ _ oc6 _ _ _ vs6 t6 t2 _ ?hDR (.head _) (.tail _ (.head _)) d61 d62 (.tail _ (.tail _ (.tail _ (.tail _ (.head _))))) d3 (.tail _ (.tail _ (.head _))) d7 (.tail _ (.tail _ (.tail _ (.head _)))) dA (nd x n) 0 (nd x n) x _ _ _ _ (List.replicate (nd x n) 0) _ (by lia) (nd_pos hn hx7) (by simp) (by simp; lia) (ints_rep _ _) hx (nd_pow hn hx)) ?_ ?_ ?_ ?_ ?_ ?_ ?_ ?_ (by exact droom3 hdp hK) (by exact uroom3 hun hK) ?_)
    all_goals try (first | ((with_reducible show Below _ _ _ _); k_asm) | ((with_reducible show Fr _ _ _ _); k_asm) | ((with_reducible show Frag.In _ _); k_asm) | ((with_reducible show News _ _ _ _); k_asm) | ((with_reducible show Top _ _ _ _ _ _); k_asm) | ((with_reducible show CodeHd _ _ _); first | assumption | exact CodeHd.keeps (by assumption) (Fr.keep (by assumption))) | ((with_reducible show Scope.kind _ = _); exact rfl) | ((with_reducible show _ < recursionLimit); first | exact droom (by with_reducible assumption) rfl | exact Nat.le_of_ble_eq_true rfl | ktr_room) | ((with_reducible show _ < cLine); first | exact uroom (by with_reducible assumption) rfl | exact Nat.le_of_ble_eq_true rfl | ktr_units))
    case hDR => exact off_cons (by k_ne) (off_cons (by k_ne) (off_cons (by k_ne) (off_cons (by k_ne) (off_cons (by k_ne) (off_cons (by k_ne) hrD)))))
    refine hide2 ?_
    rintro PH kH r news' ⟨rfl, vs2, ns2, k2, hi2, hl2, hp2, rfl⟩
    refine kH _ _ ?_
    clear kH PH
    intro h5 tk5 F5 N5
    k_steps
    rename_i F9 N9 _ _
    have hdg := digs_of (by simpa using hl2) hp2
    rw [hdg] at hi2
    refine hret _ _ _ _ ⟨D, vs2, k2, (c6, oc6), rfl, hi2, ⟨vs6, t6, d61, d62⟩, rfl, hDr, ltN (by lia), (by k_ne), fun p hp => Nat.lt_trans (hDr p hp) lc⟩ F9 (news_sub N9 ?_)
    intro p hp
    rcases List.mem_cons.mp hp with h | h
    · exact h ▸ .head _
    · rcases List.mem_cons.mp h with h | h
      · exact h ▸ .tail _ (.tail _ (.tail _ (.tail _ (.tail _ (.tail _ (.head _))))))
      · rcases List.mem_cons.mp h with h | h
        · exact h ▸ .tail _ (.tail _ (.head _))
        · exact .tail _ (.tail _ (.tail _ (.tail _ (.tail _ (.tail _ (.tail _ h))))))
  · rename_i f6 c6 oc6 vs6 t6 _ _ _ _ d61 d62 l61 l62 h7 o7 F7 N7 d7 hx7 F9 N9 _ _
    subst hx7
    have lc : D < c6 := ltN l61.1
    simp only [nd_zero hn, List.replicate_zero] at N9
    refine hret _ _ _ _ ⟨D, [], 0, (c6, oc6), rfl, by simp only [digs, nd_zero hn]; exact .nil, ⟨vs6, t6, d61, d62⟩, rfl, hDr, ltN (by lia), (by k_ne), fun p hp => Nat.lt_trans (hDr p hp) lc⟩ F9 (news_sub N9 ?_)
    intro p hp
    rcases List.mem_cons.mp hp with h | h
    · exact h ▸ .tail _ (.tail _ (.head _))
    · rcases List.mem_cons.mp h with h | h
      · exact h ▸ .tail _ (.tail _ (.tail _ (.tail _ (.tail _ (.tail _ (.head _))))))
      · rcases List.mem_cons.mp h with h | h
        · exact h ▸ .tail _ (.head _)
        · exact .tail _ (.tail _ (.tail _ (.tail _ (.tail _ (.tail _ (.tail _ h))))))
theorem int2digits_hit (w : World) (x : Int) (n : Nat) (t1 t2 : Tok) (rest : Led) (q : Addr × Obj) (hq : CodeOk (Str.ofString "_int2digits.<locals>.inner") q) (hx : 0 ≤ x) (hK : nd x n ≤ 600) (hn : 0 < n) (hn2 : n < 64) :
    Does w 49 [.int x t1, .int n t2] 650 (tabOf 44 43 4 q ++ rest) (fun r news' => ∃ D vs k, r = .ref D ∧ IntsAre vs (digs x n) ∧ news' = (D, listOf vs.toArray k) :: (tabOf 44 43 4 q ++ rest) ∧ ∀ p ∈ tabOf 44 43 4 q ++ rest, p.1 < D) := by
  unfold Does
  have := lawRef
  revert this
  k_fill
  intro _
  intro p loose mean mg mb dp un gd cn cs a ccd cl outer A₀ base h₀ L m s Q E B F X N T C1 C2 hck hdp hun hret
  refine hide fun kH => ?_
  obtain ⟨c6, oc6⟩ := q
  obtain ⟨vs6, t6, d61, d62⟩ := hq
  refine kH ?_
  clear kH
  change News h₀ L s.heap ((44, tabObj #[rawInt (43 : Nat), rawInt (4 : Nat), .ref c6]) :: (c6, oc6) :: rest) at N
  k_with_none
  k_with "eval Name" => (k_here; k_dflt (refine' nameX_L2 ?F ?_ ?v ?a ?b; (case F => k_asm); (case a => exact rfl); (case b => exact rfl); (case v => exact rfl); k_whole))
  k_with "ne" => (refine neN ?_; (try dsimp only); first | (refine Nat.ne_of_gt ?_; (repeat (first | assumption | exact Nat.lt_succ_self _ | exact Nat.lt_of_succ_lt (by assumption) | exact Nat.lt_of_succ_lt (Nat.lt_of_succ_lt (by assumption)) | exact And.left (by assumption) | exact And.left (And.right (by assumption)) | exact And.left (And.right (And.right (by assumption))) | exact And.left (And.right (And.right (And.right (by assumption)))) | refine Nat.lt_succ_of_lt ?_)); done) | (refine Nat.ne_of_lt ?_; (repeat (first | assumption | exact Nat.lt_succ_self _ | exact Nat.lt_of_succ_lt (by assumption) | exact Nat.lt_of_succ_lt (Nat.lt_of_succ_lt (by assumption)) | exact And.left (by assumption) | exact And.left (And.right (by assumption)) | exact And.left (And.right (And.right (by assumption))) | exact And.left (And.right (And.right (And.right (by assumption)))) | refine Nat.lt_succ_of_lt ?_)); done))
  k_with "call ref" => (with_reducible refine stop_here ?_)
  k_with "call builtin:len" => (with_reducible refine stop_here ?_)
  k_with "binaryOp Mult ref int" => (with_reducible refine stop_here ?_)
  refine wpAny_call ?_
  k_dflt (((refine' code_defC ?k1 ?k2 ?k3 ?k4 ?k5 ?kA ?kF ?kK ?k6 ?k7 ?k8 ?k9 ?kB ?kD ?_ ?c2 ?c3 ?c4; (case kA => exact rfl); (case kF => exact rfl); (case kK => assumption); (case k1 => k_asm); (case k2 => k_asm); (case k3 => k_asm); (case k4 => k_asm); (case k5 => k_asm); (case k6 => k_is); (case k7 => k_is); (case k8 => first | exact droom0 hdp | ktr_room); (case k9 => exact BindsTo.of_eq rfl); (case kB => exact rfl); (case kD => decide +kernel); (case c2 => exact rfl); (case c3 => exact rfl); (case c4 => exact rfl))))
  intro g' L' h' tk' cells' FG' F' N' Y' B' X' T' l1
  k_cells Y'
  rename_i o1 o2 o3 d1 d2 d3
  replace d1 : o1.data = .cell none := d1
  replace d2 : o2.data = .cell none := d2
  replace d3 : o3.data = .cell (some (.int n t2)) := d3
  simp only [List.cons_append, List.nil_append] at N'
  have l44 := ltN (l1 _ (.head _))
  dsimp only at l44
  have lc6 := ltN (l1 _ (.tail _ (.head _)))
  dsimp only at lc6
  have C2' := CodeHd.keeps C2 FG'.keep
  dsimp only
  k_steps
  refine ⟨?_⟩
  rename_i l2 h3 F3 N3 hl3
  refine rep_led F3 N3 (.head _) (nd x n) (nd_cast hn) (Nat.le_trans hK (by decide)) ?_
  intro D h4 F4 N4 hD4
  have N5 := news_sub (b := (D, listOf (List.replicate (nd x n) (Value.int 0 _)).toArray 0) :: (_, o1) :: (_, o2) :: (_, o3) :: (44, _) :: (c6, oc6) :: rest) N4 (by
    intro p hp
    rcases List.mem_cons.mp hp with h | h
    · exact h ▸ .head _
    · exact .tail _ (.tail _ h))
  have hDr : ∀ p ∈ rest, p.1 < D := fun p hp => hD4 p (.tail _ (.tail _ (.tail _ (.tail _ (.tail _ (.tail _ hp))))))
  have hD1 : L' + 1 + 1 + 1 < D := hD4 _ (.tail _ (.head _))
  clear N4 N3 F3 hl3
  have hr0 : ∀ p ∈ rest, p.1 < L' := fun p hp => l1 p (.tail _ (.tail _ hp))
  have hr1 : ∀ p ∈ rest, p.1 ≠ L' + 1 := fun p hp => neN (Nat.ne_of_lt (Nat.lt_succ_of_lt (ltN (hr0 p hp))))
  have hr2 : ∀ p ∈ rest, p.1 ≠ L' + 1 + 1 := fun p hp => neN (Nat.ne_of_lt (Nat.lt_succ_of_lt (Nat.lt_succ_of_lt (ltN (hr0 p hp)))))
  have hr3 : ∀ p ∈ rest, p.1 ≠ L' + 1 + 1 + 1 := fun p hp => neN (Nat.ne_of_lt (Nat.lt_succ_of_lt (Nat.lt_succ_of_lt (Nat.lt_succ_of_lt (ltN (hr0 p hp))))))
  have hrD : ∀ p ∈ rest, p.1 ≠ D := fun p hp => Nat.ne_of_lt (hDr p hp)
  replace hD1 := ltN hD1
  k_steps
  · refine ⟨?_⟩
    rename_i f6 _ _ _ _ l61 h7 o7 F7 N7 d7 hx7
    refine len_led N7 (.tail _ (.head _)) (nd x n) (by simp) (by simp; lia) ?_
    intro t8 tk8
    k_steps
    refine ⟨?_⟩
    rename_i dA _ _ _ _
    have N8 := news_swap N7
    have lf : D < f6 := ltN l61.1
    k_dflt (refine' Does.use (i2d_inner w n hn hn2 f6 c6 D (L' + 1) (L' + 1 + 1 + 1) (L' + 1 + 1) _ _ _ _ oc6 _ _ _ vs6 t6 t2 _ ?hDR (.head _) (.tail _ (.tail _ (.tail _ (.tail _ (.tail _ (.head _)))))) d61 d62 (.tail _ (.tail _ (.tail _ (.head _)))) d3 (.tail _ (.head _)) d7 (.tail _ (.tail _ (.head _))) dA (nd x n) 0 (nd x n) x _ _ _ _ (List.replicate (nd x n) 0) _ (by lia) (nd_pos hn hx7) (by simp) (by simp; lia) (ints_rep _ _) hx (nd_pow hn hx)) ?_ ?_ ?_ ?_ ?_ ?_ ?_ ?_ (by exact droom3 hdp hK) (by exact uroom3 hun hK) ?_)
    all_goals try (first | ((with_reducible show Below _ _ _ _); k_asm) | ((with_reducible show Fr _ _ _ _); k_asm) | ((with_reducible show Frag.In _ _); k_asm) | ((with_reducible show News _ _ _ _); k_asm) | ((with_reducible show Top _ _ _ _ _ _); k_asm) | ((with_reducible show CodeHd _ _ _); first | assumption | exact CodeHd.keeps (by assumption) (Fr.keep (by assumption))) | ((with_reducible show Scope.kind _ = _); exact rfl) | ((with_reducible show _ < recursionLimit); first | exact droom (by with_reducible assumption) rfl | exact Nat.le_of_ble_eq_true rfl | ktr_room) | ((with_reducible show _ < cLine); first | exact uroom (by with_reducible assumption) rfl | exact Nat.le_of_ble_eq_true rfl | ktr_units))
    case hDR => exact off_cons (by k_ne) (off_cons (by k_ne) (off_cons (by k_ne) (off_cons (by k_ne) (off_cons (by k_ne) (off_cons (by k_ne) hrD)))))
    refine hide2 ?_
    rintro PH kH r news' ⟨rfl, vs2, ns2, k2, hi2, hl2, hp2, rfl⟩
    refine kH _ _ ?_
    clear kH PH
    intro h5 tk5 F5 N5
    k_steps
    rename_i F9 N9 _ _
    have hdg := digs_of (by simpa using hl2) hp2
    rw [hdg] at hi2
    refine hret _ _ _ _ ⟨D, vs2, k2, rfl, hi2, rfl, List.forall_mem_cons.mpr ⟨ltN (by dsimp only; lia), List.forall_mem_cons.mpr ⟨ltN (by dsimp only; lia), hDr⟩⟩⟩ F9 (news_sub N9 ?_)
    intro p hp
    rcases List.mem_cons.mp hp with h | h
    · exact h ▸ .head _
    · exact .tail _ (.tail _ (.tail _ (.tail _ (.tail _ h))))
  · rename_i f6 _ _ _ _ l61 h7 o7 F7 N7 d7 hx7 F9 N9 _ _
    subst hx7
    simp only [nd_zero hn, List.replicate_zero] at N9
    refine hret _ _ _ _ ⟨D, [], 0, rfl, by simp only [digs, nd_zero hn]; exact .nil, rfl, List.forall_mem_cons.mpr ⟨ltN (by dsimp only; lia), List.forall_mem_cons.mpr ⟨ltN (by dsimp only; lia), hDr⟩⟩⟩ F9 (news_sub N9 ?_)
    intro p hp
    rcases List.mem_cons.mp hp with h | h
    · exact h ▸ .tail _ (.head _)
    · exact .tail _ (.tail _ (.tail _ (.tail _ (.tail _ h))))
end Mine

end
section
open PySem PySem.W PyProof.Rows PySem.Calls
set_option Elab.async false
set_option maxRecDepth 100000
namespace Mine
section
variable {prog : Program} {w : World} {A : Around} {E : Value → Shared → Prop} {s : Shared} {env : Env} {h₀ : Heap} {target : Expr} {body orelse : List Stmt} {Q : Flow → Shared → Prop}
theorem go_tup {I t : Addr} {i : Nat} {v : Value} {Q : Unit → Shared → Prop} (ht : (∃ es c p, target = .Tuple es c p) ∨ ∀ it v, letOwnedTupleGo target it v = pure ()) (hit : s.heap.IsTupleIter I t i) (h : Q () s) : wpAny (model prog w) A (letOwnedTupleGo target (.ref I) v) Q E s := by
  refine hide fun kH => ?_
  rcases ht with ⟨es, c, p, rfl⟩ | ht
  · obtain ⟨o, ho, hc, hd⟩ := hit
    refine kH ?_
    clear kH
    cases v with
    | ref a =>
      show wpAny _ _ (load I >>= _) _ _ _
      refine wpAny_bind (wpAny_load ho ?_)
      rw [hc, hd]
      exact wpAny_pure h
    | _ => exact wpAny_pure h
  · refine kH ?_
    clear kH
    rw [ht]
    exact wpAny_pure h
/-- A for, with its else, over a tuple of the base heap. -/
inductive EInv (s : Shared) (h₀ : Heap) (L I ta : Addr) (items : Array Value) (J : Nat → (Str → Option Value) → Led → Prop) (k : Nat) (s' : Shared) : Prop
  | mk (h' : Heap) (tk : Nat) (m' : Str → Option Value) (news' : Led) (i : Nat) (hs : s' = { s with heap := h', toks := tk }) (hst : h'.IsTupleIter I ta i ∧ h'.IsTuple ta items) (hF : Fr h₀ L h' m') (hN : News h₀ L h' news') (hn : ∀ p ∈ news', p.1 ≠ I) (hJ : J i m' news') (hi : i ≤ items.size) (hk : k = items.size + 1 - i)
theorem for_tup {ta : Addr} {items : Array Value} {m₀ : Str → Option Value} {news : Led} (J : Nat → (Str → Option Value) → Led → Prop) (hh : A.handled = none) (ht : h₀.IsTuple ta items)
    (F : Fr h₀ env.locals s.heap m₀) (N : News h₀ env.locals s.heap news) (hj : J 0 m₀ news)
    (turn : ∀ i v m₁ news₁ h tk I oI, items[i]? = some v → J i m₁ news₁ → (∀ p ∈ news₁, p.1 ≠ I) → Fr h₀ env.locals h m₁ → News h₀ env.locals h ((I, oI) :: news₁) →
      wpAny (model prog w) A (assign target env v) (fun _ s₂ => wpAny (model prog w) A (execs body env) (TurnEnd h₀ env.locals I oI (J (i + 1)) { s with heap := h, toks := tk } Q) E s₂) E { s with heap := h, toks := tk })
    (done : ∀ m₁ news₁ h tk, J items.size m₁ news₁ → Fr h₀ env.locals h m₁ → News h₀ env.locals h news₁ → wpAny (model prog w) A (execs orelse env) Q E { s with heap := h, toks := tk })
    (hE : PassesOwn (model prog w) A env E) (htg : (∃ es c p, target = .Tuple es c p) ∨ ∀ it v, letOwnedTupleGo target it v = pure ()) :
    wpAny (model prog w) A (pyIter (.ref ta)) (fun it s₂ => codeAny (model prog w) A (.forLoop target it body orelse env) (fun r s' => match r with | .ok f => Q f s' | .error e => cameBackBy (model prog w) A env E e s') s₂) E s := by
  refine hide fun kH => ?_
  obtain ⟨ot, hot, hoc⟩ := id ht
  refine kH ?_
  clear kH
  have hts : s.heap.IsTuple ta items := ⟨ot, F.keep _ _ hot, hoc⟩
  have hlt : ta < h₀.objs.size := Heap.lt_size hot
  have hlt2 : ta < s.heap.objs.size := Heap.lt_size (F.keep _ _ hot)
  refine wpAny_pyIter_tuple hts ?_
  refine hide fun kH => ?_
  obtain ⟨I, hI⟩ : ∃ I, I = s.heap.objs.size := ⟨_, rfl⟩
  refine kH ?_
  clear kH
  rw [← hI]
  have hIn : h₀.get? I = none := hI ▸ next_is_new F
  have hIL : env.locals ≠ I := hI ▸ Nat.ne_of_lt F.ns.lt
  have hne : ta ≠ I := hI ▸ Nat.ne_of_lt hlt2
  have W := Walks.tuple (prog := prog) (w := w) hh I ta hne items
  refine codeAny_forLoop_any
    (EInv s h₀ env.locals I ta items J) ?_ (items.size + 1)
    ⟨_, s.toks, m₀, news, 0, rfl, ⟨⟨_, hI ▸ Heap.get?_push_size _ rfl, rfl, rfl⟩, hts.push _⟩, F.push _, fun p hp => ⟨Heap.get?_push_of_some _ (N p hp).1, (N p hp).2⟩, fun p hp => hI ▸ Nat.ne_of_lt (Heap.lt_size (N p hp).1), hj, Nat.zero_le _, rfl⟩
  intro k s' z0H
  refine hide fun kH => ?_
  obtain ⟨h', tk, m', news', i, rfl, hst', F', N', hnw', hJ, hi, rfl⟩ := z0H
  refine kH ?_
  clear kH
  have next : ∀ h₁ : Heap, (∀ b o, b ∉ [I] → h'.get? b = some o → h₁.get? b = some o) → Fr h₀ env.locals h₁ m' ∧ News h₀ env.locals h₁ news' := fun h₁ hk₁ =>
    ⟨⟨F'.ns.at' fun o e => hk₁ _ o (by simpa using hIL) e, fun b o e => hk₁ b o (by simp; intro q; rw [q, hIn] at e; cases e) (F'.keep b o e), F'.above⟩, fun p hp => ⟨hk₁ _ _ (by simpa using hnw' p hp) (N' p hp).1, (N' p hp).2⟩⟩
  by_cases hlt : i < items.size
  · refine W.item i _ _ _ hlt hst' fun v h₁ tk₁ hP hst₁ hk₁ => ?_
    refine hide fun kH => ?_
    obtain ⟨F₁, N₁⟩ := next h₁ hk₁
    refine kH ?_
    clear kH
    refine go_tup htg hst₁.1 ?_
    refine hide fun kH => ?_
    obtain ⟨oI, hoI, hIc⟩ := hst₁.1
    refine kH ?_
    clear kH
    have NI : News h₀ env.locals h₁ ((I, oI) :: news') := fun p hp => by
      rcases List.mem_cons.mp hp with rfl | hp
      · exact ⟨hoI, Ne.symm hIL, hIn⟩
      · exact N₁ p hp
    refine wpAny_mono (turn i v m' news' h₁ tk₁ I oI hP hJ hnw' F₁ NI) (fun _ s₂ h₂ => ?_) hE
    refine wpAny_mono h₂ (fun f s₃ h₃ => ?_) hE
    have fin : (∃ h' tk m' news', s₃ = { s with heap := h', toks := tk } ∧ Fr h₀ env.locals h' m' ∧ News h₀ env.locals h' ((I, oI) :: news') ∧ (∀ p ∈ news', p.1 ≠ I) ∧ J (i + 1) m' news') → ∃ m, m < items.size + 1 - i ∧ EInv s h₀ env.locals I ta items J m s₃ := by
      intro z0H
      refine hide fun kH => ?_
      obtain ⟨h₄, tk₄, m₄, news₄, rfl, F₄, N₄, hn₄, hJ₄⟩ := z0H
      refine kH ?_
      clear kH
      exact ⟨items.size + 1 - (i + 1), by omega, h₄, tk₄, m₄, news₄, i + 1, rfl, ⟨⟨oI, (N₄ _ (.head _)).1, hIc⟩, ⟨ot, F₄.keep _ _ hot, hoc⟩⟩, F₄, fun p hp => N₄ p (.tail _ hp), hn₄, hJ₄, hlt, rfl⟩
    cases f with
    | ret v => exact h₃
    | brk => exact h₃
    | next => exact fin h₃
    | cont => exact fin h₃
  · have hin : i = items.size := by omega
    subst hin
    refine W.done _ _ _ hst' fun h₁ tk₁ hk₁ => ?_
    refine hide fun kH => ?_
    obtain ⟨F₁, N₁⟩ := next h₁ hk₁
    refine kH ?_
    clear kH
    exact wpAny_mono (done m' news' h₁ tk₁ hJ F₁ N₁) (fun _ _ x => x) hE
/-- A for, with its else, over a tuple of the ledger. -/
theorem for_tupL {to : Obj} {ta : Addr} {items : Array Value} {m₀ : Str → Option Value} {news : Led} (J : Nat → (Str → Option Value) → Led → Prop) (hh : A.handled = none) (hoc : to.cls = .type "tuple" ∧ ∃ n, to.data = .seq items n) (hJm : ∀ i m nw, J i m nw → (ta, to) ∈ nw)
    (F : Fr h₀ env.locals s.heap m₀) (N : News h₀ env.locals s.heap news) (hj : J 0 m₀ news)
    (turn : ∀ i v m₁ news₁ h tk I oI, items[i]? = some v → J i m₁ news₁ → (∀ p ∈ news₁, p.1 ≠ I) → Fr h₀ env.locals h m₁ → News h₀ env.locals h ((I, oI) :: news₁) →
      wpAny (model prog w) A (assign target env v) (fun _ s₂ => wpAny (model prog w) A (execs body env) (TurnEnd h₀ env.locals I oI (J (i + 1)) { s with heap := h, toks := tk } Q) E s₂) E { s with heap := h, toks := tk })
    (done : ∀ m₁ news₁ h tk, J items.size m₁ news₁ → Fr h₀ env.locals h m₁ → News h₀ env.locals h news₁ → wpAny (model prog w) A (execs orelse env) Q E { s with heap := h, toks := tk })
    (hE : PassesOwn (model prog w) A env E) (htg : (∃ es c p, target = .Tuple es c p) ∨ ∀ it v, letOwnedTupleGo target it v = pure ()) :
    wpAny (model prog w) A (pyIter (.ref ta)) (fun it s₂ => codeAny (model prog w) A (.forLoop target it body orelse env) (fun r s' => match r with | .ok f => Q f s' | .error e => cameBackBy (model prog w) A env E e s') s₂) E s := by
  have hot := (N _ (hJm _ _ _ hj)).1
  have hts : s.heap.IsTuple ta items := ⟨to, hot, hoc⟩
  have hlt2 : ta < s.heap.objs.size := Heap.lt_size hot
  refine wpAny_pyIter_tuple hts ?_
  refine hide fun kH => ?_
  obtain ⟨I, hI⟩ : ∃ I, I = s.heap.objs.size := ⟨_, rfl⟩
  refine kH ?_
  clear kH
  rw [← hI]
  have hIn : h₀.get? I = none := hI ▸ next_is_new F
  have hIL : env.locals ≠ I := hI ▸ Nat.ne_of_lt F.ns.lt
  have hne : ta ≠ I := hI ▸ Nat.ne_of_lt hlt2
  have W := Walks.tuple (prog := prog) (w := w) hh I ta hne items
  refine codeAny_forLoop_any
    (EInv s h₀ env.locals I ta items J) ?_ (items.size + 1)
    ⟨_, s.toks, m₀, news, 0, rfl, ⟨⟨_, hI ▸ Heap.get?_push_size _ rfl, rfl, rfl⟩, hts.push _⟩, F.push _, fun p hp => ⟨Heap.get?_push_of_some _ (N p hp).1, (N p hp).2⟩, fun p hp => hI ▸ Nat.ne_of_lt (Heap.lt_size (N p hp).1), hj, Nat.zero_le _, rfl⟩
  intro k s' z0H
  refine hide fun kH => ?_
  obtain ⟨h', tk, m', news', i, rfl, hst', F', N', hnw', hJ, hi, rfl⟩ := z0H
  refine kH ?_
  clear kH
  have next : ∀ h₁ : Heap, (∀ b o, b ∉ [I] → h'.get? b = some o → h₁.get? b = some o) → Fr h₀ env.locals h₁ m' ∧ News h₀ env.locals h₁ news' := fun h₁ hk₁ =>
    ⟨⟨F'.ns.at' fun o e => hk₁ _ o (by simpa using hIL) e, fun b o e => hk₁ b o (by simp; intro q; rw [q, hIn] at e; cases e) (F'.keep b o e), F'.above⟩, fun p hp => ⟨hk₁ _ _ (by simpa using hnw' p hp) (N' p hp).1, (N' p hp).2⟩⟩
  by_cases hlt : i < items.size
  · refine W.item i _ _ _ hlt hst' fun v h₁ tk₁ hP hst₁ hk₁ => ?_
    refine hide fun kH => ?_
    obtain ⟨F₁, N₁⟩ := next h₁ hk₁
    refine kH ?_
    clear kH
    refine go_tup htg hst₁.1 ?_
    refine hide fun kH => ?_
    obtain ⟨oI, hoI, hIc⟩ := hst₁.1
    refine kH ?_
    clear kH
    have NI : News h₀ env.locals h₁ ((I, oI) :: news') := fun p hp => by
      rcases List.mem_cons.mp hp with rfl | hp
      · exact ⟨hoI, Ne.symm hIL, hIn⟩
      · exact N₁ p hp
    refine wpAny_mono (turn i v m' news' h₁ tk₁ I oI hP hJ hnw' F₁ NI) (fun _ s₂ h₂ => ?_) hE
    refine wpAny_mono h₂ (fun f s₃ h₃ => ?_) hE
    have fin : (∃ h' tk m' news', s₃ = { s with heap := h', toks := tk } ∧ Fr h₀ env.locals h' m' ∧ News h₀ env.locals h' ((I, oI) :: news') ∧ (∀ p ∈ news', p.1 ≠ I) ∧ J (i + 1) m' news') → ∃ m, m < items.size + 1 - i ∧ EInv s h₀ env.locals I ta items J m s₃ := by
      intro z0H
      refine hide fun kH => ?_
      obtain ⟨h₄, tk₄, m₄, news₄, rfl, F₄, N₄, hn₄, hJ₄⟩ := z0H
      refine kH ?_
      clear kH
      exact ⟨items.size + 1 - (i + 1), by omega, h₄, tk₄, m₄, news₄, i + 1, rfl, ⟨⟨oI, (N₄ _ (.head _)).1, hIc⟩, ⟨to, (N₄ _ (.tail _ (hJm _ _ _ hJ₄))).1, hoc⟩⟩, F₄, fun p hp => N₄ p (.tail _ hp), hn₄, hJ₄, hlt, rfl⟩
    cases f with
    | ret v => exact h₃
    | brk => exact h₃
    | next => exact fin h₃
    | cont => exact fin h₃
  · have hin : i = items.size := by omega
    subst hin
    refine W.done _ _ _ hst' fun h₁ tk₁ hk₁ => ?_
    refine hide fun kH => ?_
    obtain ⟨F₁, N₁⟩ := next h₁ hk₁
    refine kH ?_
    clear kH
    exact wpAny_mono (done m' news' h₁ tk₁ hJ F₁ N₁) (fun _ _ x => x) hE
/-- A for over enumerate of a tuple of the base heap. -/
theorem for_enum {elts : List Expr} {kk : Nat} {pos : Pos} {ta : Addr} {items : Array Value} {m₀ : Str → Option Value} {news : Led} (J : Nat → (Str → Option Value) → Led → Prop) (hh : A.handled = none) (ht : h₀.IsTuple ta items)
    (F : Fr h₀ env.locals s.heap m₀) (N : News h₀ env.locals s.heap news) (hj : J 0 m₀ news)
    (turn : ∀ i v m₁ news₁ h tk T t e oe it oit, items[i]? = some v → J i m₁ news₁ → e ≠ it → (∀ p ∈ news₁, p.1 ≠ e ∧ p.1 ≠ it) → Fr h₀ env.locals h m₁ → News h₀ env.locals h ((e, oe) :: (it, oit) :: news₁) → h.IsTuple T #[.int (i : Int) t, v] →
      wpAny (model prog w) A (assign (.Tuple elts kk pos) env (.ref T)) (fun _ s₂ => wpAny (model prog w) A (execs body env) (fun f s₃ => f = .next ∧ ∃ h' tk' m' news', s₃ = { s with heap := h', toks := tk' } ∧ Fr h₀ env.locals h' m' ∧ News h₀ env.locals h' ((e, oe) :: (it, oit) :: news') ∧ (∀ p ∈ news', p.1 ≠ e ∧ p.1 ≠ it) ∧ J (i + 1) m' news') E s₂) E { s with heap := h, toks := tk })
    (done : ∀ m₁ news₁ h tk, J items.size m₁ news₁ → Fr h₀ env.locals h m₁ → News h₀ env.locals h news₁ → Q .next { s with heap := h, toks := tk }) :
    wpAny (model prog w) A (call (.type "enumerate") [.ref ta]) (fun xv s₁ => wpAny (model prog w) A (pyIter xv) (fun it s₂ => TurnsAt prog w A h₀ env (.Tuple elts kk pos) body Q E it s₂) E s₁) E s := by
  refine hide fun kH => ?_
  obtain ⟨ot, hot, hoc⟩ := id ht
  refine kH ?_
  clear kH
  have hts : s.heap.IsTuple ta items := ⟨ot, F.keep _ _ hot, hoc⟩
  have hlt : ta < s.heap.objs.size := Heap.lt_size (F.keep _ _ hot)
  have hLs : env.locals < s.heap.objs.size := F.ns.lt
  refine call_enum_tup hts fun h' hE hI hsz hk => ?_
  refine wpAny_pyIter_enum hE ?_
  have hL0 : env.locals ≠ ta := fun q => by
    have := F.above; rw [q] at this; exact absurd (Heap.lt_size hot) (Nat.not_lt.mpr this)
  have new1 : h₀.get? (s.heap.objs.size + 1) = none := ktu_new F (Nat.le_add_right _ _)
  have new0 : h₀.get? s.heap.objs.size = none := ktu_new F (Nat.le_refl _)
  refine ⟨s.heap.objs.size + 1, [s.heap.objs.size + 1, s.heap.objs.size, ta], [s.heap.objs.size + 1, s.heap.objs.size], items.size, _, _, _, m₀, news, J, rfl, enum_tup_turns hh (s.heap.objs.size + 1) s.heap.objs.size ta (Nat.succ_ne_self _) (ktu_ne 1 hlt) (Nat.ne_of_lt hlt) items elts kk pos, ?_, ?_, ?_, ⟨⟨_, hE⟩, hI, hts.at fun o e => hk _ o e⟩, F.keeps hk, N.grown hk, hj, ?_, ?_⟩
  · simp only [List.mem_cons, List.not_mem_nil, or_false, not_or]
    exact ⟨ktu_ne 1 hLs, Nat.ne_of_lt hLs, hL0⟩
  · intro b hb
    rcases List.mem_cons.mp hb with rfl | hb
    · exact new1
    · rw [List.mem_singleton.mp hb]; exact new0
  · intro p hp
    simp only [List.mem_cons, List.not_mem_nil, or_false, not_or]
    exact ⟨ktu_ne 1 (Heap.lt_size (N p hp).1), Nat.ne_of_lt (Heap.lt_size (N p hp).1)⟩
  · intro i v m₁ news₁ h₁ tk₁ own hi z0H hJ hoff hown hown2 hall hst F₁ N₁
    refine hide fun kH => ?_
    obtain ⟨T, t, x, rfl, hx, hT⟩ := z0H
    obtain ⟨⟨old, he⟩, ⟨oit, hoit, hic⟩, _⟩ := hst
    refine kH ?_
    clear kH
    have he' : ∃ oe : Obj, h₁.get? (s.heap.objs.size + 1) = some oe := ⟨_, he⟩
    refine hide fun kH => ?_
    obtain ⟨oe, hoe⟩ := he'
    refine kH ?_
    clear kH
    have m1 : (s.heap.objs.size + 1, oe) ∈ own := hall _ (.head _) new1 oe hoe
    have m2 : (s.heap.objs.size, oit) ∈ own := hall _ (.tail _ (.head _)) new0 oit hoit
    have hoff' : ∀ p ∈ news₁, p.1 ≠ s.heap.objs.size + 1 ∧ p.1 ≠ s.heap.objs.size := fun p hp => by
      have := hoff p hp
      simpa [not_or] using this
    have N₂ : News h₀ env.locals h₁ ((s.heap.objs.size + 1, oe) :: (s.heap.objs.size, oit) :: news₁) := fun p hp => by
      rcases List.mem_cons.mp hp with rfl | hp
      · exact N₁ _ (List.mem_append_left _ m1)
      · rcases List.mem_cons.mp hp with rfl | hp
        · exact N₁ _ (List.mem_append_left _ m2)
        · exact N₁ _ (List.mem_append_right _ hp)
    refine wpAny_mono (turn i x m₁ news₁ h₁ tk₁ T t _ oe _ oit hx hJ (Nat.succ_ne_self _) hoff' F₁ N₂ hT) (fun _ s₂ h₂ => wpAny_mono h₂ (fun f s₃ h₃ => ?_) fun _ _ e => e) fun _ _ e => e
    refine hide fun kH => ?_
    obtain ⟨rfl, h₄, tk₄, m₄, news₄, rfl, F₄, N₄, hn₄, hJ₄⟩ := h₃
    refine kH ?_
    clear kH
    refine .next ⟨rfl, h₄, tk₄, m₄, news₄, rfl, F₄, fun p hp => ?_, fun p hp => ?_, hJ₄⟩
    · rcases List.mem_append.mp hp with hp | hp
      · have h2 := hown2 p hp
        have h3 := hown p hp
        refine hide fun kH => ?_
        obtain ⟨a, b⟩ := p
        refine kH ?_
        clear kH
        simp only [List.mem_cons, List.not_mem_nil, or_false] at h3
        rcases h3 with h3 | h3 | h3
        · subst h3; have h5 : h₁.get? (s.heap.objs.size + 1) = some b := h2; rw [hoe] at h5; cases h5; exact N₄ _ (.head _)
        · subst h3; have h5 : h₁.get? s.heap.objs.size = some b := h2; rw [hoit] at h5; cases h5; exact N₄ _ (.tail _ (.head _))
        · subst h3; have h5 := (N₁ _ (List.mem_append_left _ hp)).2.2; rw [hot] at h5; cases h5
      · exact N₄ _ (.tail _ (.tail _ hp))
    · simpa [not_or] using hn₄ p hp
  · rintro h₁ tk₁ m₁ news₁ F₁ N₁ _ hJ
    exact done m₁ news₁ h₁ tk₁ hJ F₁ N₁
end
end Mine
namespace Mine
theorem news_front {h₀ h : Heap} {L : Addr} (pre : Led) {x : Addr × Obj} {post : Led} (N : News h₀ L h (pre ++ x :: post)) : News h₀ L h (x :: (pre ++ post)) :=
  news_sub N fun _ hp => app_swap (A := [x]) (B := pre) hp
theorem news_back {h₀ h : Heap} {L : Addr} (pre : Led) {x : Addr × Obj} {post : Led} (N : News h₀ L h (x :: (pre ++ post))) : News h₀ L h (pre ++ x :: post) :=
  news_sub N fun _ hp => app_swap (A := pre) (B := [x]) hp
theorem append_led {prog : Program} {w : World} {A : Around} {E : Value → Shared → Prop} {s : Shared} {h₀ : Heap} {L : Addr} {m : Str → Option Value} {R : Led} {P : Addr} {vs : List Value} {k : Nat} {x : Value} {Q : Value → Shared → Prop}
    (F : Fr h₀ L s.heap m) (N : News h₀ L s.heap ((P, listOf vs.toArray k) :: R)) (hR : ∀ p ∈ R, p.1 ≠ P) (hl : vs.length < 100000)
    (h : ∀ h', Fr h₀ L h' m → News h₀ L h' ((P, listOf (vs ++ [x]).toArray (k + 1)) :: R) → Q .none { s with heap := h' }) :
    wpAny (model prog w) A (call (.builtin "list.append") [.ref P, x]) Q E s := by
  refine append_K F N (Upd.head hR) (fun h' F' N' => h h' F' ?_) (by simp [sizeLine_eq]; omega)
  have e : vs.toArray.push x = (vs ++ [x]).toArray := by simp
  rw [← e]; exact N'
end Mine

end
section
open PySem PySem.W PyProof.Rows in
theorem Mine.freshSm {prog : Program} {w : World} {A : Around} {env : Env} {E : Value → Shared → Prop} {Q : Flow → Shared → Prop} {s : Shared} (h : Q .next s) : wpAny (model prog w) A (execs [] env) Q E s := by w_top off; k_with_none; walk1; exact h
open PySem PySem.W PyProof.Rows
set_option Elab.async false
set_option maxRecDepth 100000
set_option maxHeartbeats 2000000
namespace Mine
theorem ifmt_does (w : World) (v : Int) (t : Tok) (rest : Led) :
    Does w 70 [.int v t] 1 rest (fun r news' => (∃ u, r = .int (Builtin.bitAnd v 61440) u) ∧ news' = rest) := by
  unfold Does
  have := lawRef
  revert this
  k_fill
  intro _
  intro p loose mean mg mb dp un gd cn cs a ccd cl outer A₀ base h₀ L m s Q E B F X N T C1 C2 hck hdp hun hret
  k_with_none
  refine wpAny_call ?_
  k_dflt cell_enter
  k_steps
  rename_i F6 N6 _ _
  exact hret _ _ _ _ ⟨⟨_, rfl⟩, rfl⟩ F6 N6
theorem imode_does (w : World) (v : Int) (t : Tok) (rest : Led) :
    Does w 63 [.int v t] 1 rest (fun r news' => (∃ u, r = .int (Builtin.bitAnd v 4095) u) ∧ news' = rest) := by
  unfold Does
  have := lawRef
  revert this
  k_fill
  intro _
  intro p loose mean mg mb dp un gd cn cs a ccd cl outer A₀ base h₀ L m s Q E B F X N T C1 C2 hck hdp hun hret
  k_with_none
  refine wpAny_call ?_
  k_dflt cell_enter
  k_steps
  rename_i F6 N6 _ _
  exact hret _ _ _ _ ⟨⟨_, rfl⟩, rfl⟩ F6 N6
end Mine

end
section
open PySem PySem.W PyProof.Rows in
theorem Mine.freshDI {prog : Program} {w : World} {A : Around} {env : Env} {E : Value → Shared → Prop} {Q : Flow → Shared → Prop} {s : Shared} (h : Q .next s) : wpAny (model prog w) A (execs [] env) Q E s := by w_top off; k_with_none; walk1; exact h
open PySem PySem.W PyProof.Rows
set_option Elab.async false
set_option maxRecDepth 100000
set_option maxHeartbeats 2000000
set_option pp.deepTerms false
set_option pp.deepTerms.threshold 4
namespace Mine
local macro_rules | `(tactic| k_ne) => `(tactic| k_extra "ne")
local macro_rules | `(tactic| k_all) => `(tactic| assumption)
local macro_rules | `(tactic| k_mem) => `(tactic| assumption)
theorem digits2int_miss (w : World) (n : Nat) (t2 : Tok) (rest : Led) (Dg : Addr) (vs : List Value) (ns : List Int) (k : Nat) (hm : (Dg, listOf vs.toArray k) ∈ rest) (hi : IntsAre vs ns) (hnl : ns.length < 600) (hb : ∀ i, 0 ≤ ns.getD i 0 ∧ ns.getD i 0 < 2 ^ 64) (h51 : ∀ p ∈ rest, p.1 ≠ 51) (hn : 0 < n) (hn2 : n < 64) :
    Does w 56 [.ref Dg, .int n t2] 650 ((51, tabObj #[]) :: rest) (fun r news' => (∃ t, r = .int (val n ns 0 ns.length) t) ∧ ∃ q, CodeOk (Str.ofString "_digits2int.<locals>.inner") q ∧ news' = tabOf 51 58 4 q ++ rest ∧ ∀ p ∈ rest, p.1 < q.1) := by
  unfold Does
  have := lawRef
  revert this
  k_fill
  intro _
  intro p loose mean mg mb dp un gd cn cs a ccd cl outer A₀ base h₀ L m s Q E B F X N T C1 C2 hck hdp hun hret
  k_with_none
  k_with "eval Name" => (k_here; k_dflt (refine' nameX_L2 ?F ?_ ?v ?a ?b; (case F => k_asm); (case a => exact rfl); (case b => exact rfl); (case v => exact rfl); k_whole))
  k_with "ne" => (refine neN ?_; (try dsimp only); first | (refine Nat.ne_of_gt ?_; (repeat (first | assumption | exact Nat.lt_succ_self _ | exact Nat.lt_of_succ_lt (by assumption) | exact Nat.lt_of_succ_lt (Nat.lt_of_succ_lt (by assumption)) | exact And.left (by assumption) | exact And.left (And.right (by assumption)) | exact And.left (And.right (And.right (by assumption))) | exact And.left (And.right (And.right (And.right (by assumption)))) | refine Nat.lt_succ_of_lt ?_)); done) | (refine Nat.ne_of_lt ?_; (repeat (first | assumption | exact Nat.lt_succ_self _ | exact Nat.lt_of_succ_lt (by assumption) | exact Nat.lt_of_succ_lt (Nat.lt_of_succ_lt (by assumption)) | exact And.left (by assumption) | exact And.left (And.right (by assumption)) | exact And.left (And.right (And.right (by assumption))) | exact And.left (And.right (And.right (And.right (by assumption)))) | refine Nat.lt_succ_of_lt ?_)); done))
  k_with "call ref" => (with_reducible refine stop_here ?_)
  k_with "call builtin:len" => (with_reducible refine stop_here ?_)
  k_with "truthy ref" => (with_reducible refine stop_here ?_)
  refine wpAny_call ?_
  k_dflt (((refine' code_defC ?k1 ?k2 ?k3 ?k4 ?k5 ?kA ?kF ?kK ?k6 ?k7 ?k8 ?k9 ?kB ?kD ?_ ?c2 ?c3 ?c4; (case kA => exact rfl); (case kF => exact rfl); (case kK => assumption); (case k1 => k_asm); (case k2 => k_asm); (case k3 => k_asm); (case k4 => k_asm); (case k5 => k_asm); (case k6 => k_is); (case k7 => k_is); (case k8 => first | exact droom0 hdp | ktr_room); (case k9 => exact BindsTo.of_eq rfl); (case kB => exact rfl); (case kD => decide +kernel); (case c2 => exact rfl); (case c3 => exact rfl); (case c4 => exact rfl))))
  intro g' L' h' tk' cells' FG' F' N' Y' B' X' T' l1
  k_cells Y'
  rename_i o1 o2 o3 d1 d2 d3
  replace d1 : o1.data = .cell none := d1
  replace d2 : o2.data = .cell (some (.int n t2)) := d2
  replace d3 : o3.data = .cell (some (.ref Dg)) := d3
  simp only [List.cons_append, List.nil_append] at N'
  have l51 := ltN (l1 _ (.head _))
  dsimp only at l51
  have C1' := CodeHd.keeps C1 FG'.keep
  have hr0 : ∀ p ∈ rest, p.1 < L' := fun p hp => l1 p (.tail _ hp)
  have hr1 : ∀ p ∈ rest, p.1 ≠ L' + 1 := fun p hp => neN (Nat.ne_of_lt (Nat.lt_succ_of_lt (ltN (hr0 p hp))))
  have hr2 : ∀ p ∈ rest, p.1 ≠ L' + 1 + 1 := fun p hp => neN (Nat.ne_of_lt (Nat.lt_succ_of_lt (Nat.lt_succ_of_lt (ltN (hr0 p hp)))))
  have hr3 : ∀ p ∈ rest, p.1 ≠ L' + 1 + 1 + 1 := fun p hp => neN (Nat.ne_of_lt (Nat.lt_succ_of_lt (Nat.lt_succ_of_lt (Nat.lt_succ_of_lt (ltN (hr0 p hp))))))
  dsimp only
  k_steps
  refine ⟨?_⟩
  rename_i f6 c6 oc6 vs6 t6 _ _ _ _ d61 d62 l61 l62 h7 o7 F7 N7 d7
  refine truthy_led N7 (.tail _ (.tail _ (.tail _ (.tail _ (.tail _ (.tail _ hm)))))) (by rw [hi.length]; lia) ?_
  intro tk8
  rw [hi.length]
  by_cases h0 : ns.length = 0
  · have e0 : (ns.length != 0) = false := by simp [h0]
    rw [e0]
    k_steps
    rename_i F9 N9 _ _
    refine hret _ _ _ _ ⟨⟨_, congrArg (fun z => Value.int z _) (by rw [h0]; rfl)⟩, (c6, oc6), ⟨vs6, t6, d61, d62⟩, rfl, allLt_mem l61.2.2.2.2⟩ F9 (news_sub N9 ?_)
    intro p hp
    rcases List.mem_cons.mp hp with h | h
    · exact h ▸ .tail _ (.tail _ (.tail _ (.tail _ (.tail _ (.head _)))))
    · rcases List.mem_cons.mp h with h | h
      · exact h ▸ .tail _ (.head _)
      · exact .tail _ (.tail _ (.tail _ (.tail _ (.tail _ (.tail _ h)))))
  · have e0 : (ns.length != 0) = true := by simp [h0]
    rw [e0]
    k_steps
    refine ⟨?_⟩
    refine len_led N7 (.tail _ (.tail _ (.tail _ (.tail _ (.tail _ (.tail _ hm)))))) ns.length hi.length (by rw [hi.length]; lia) ?_
    intro t9 tk9
    k_steps
    refine ⟨?_⟩
    k_dflt (refine' Does.use (d2i_inner w n hn hn2 f6 c6 Dg (L' + 1 + 1) (L' + 1 + 1 + 1) (L' + 1) _ _ _ _ oc6 _ _ _ vs6 t6 t2 _ (.head _) (.tail _ (.head _)) d61 d62 (.tail _ (.tail _ (.tail _ (.head _)))) d2 (.tail _ (.tail _ (.head _))) d7 (.tail _ (.tail _ (.tail _ (.tail _ (.head _))))) d3 vs ns k hi (.tail _ (.tail _ (.tail _ (.tail _ (.tail _ (.tail _ hm)))))) (by lia) hb ns.length 0 ns.length _ _ (by lia) (by lia) (by lia)) ?_ ?_ ?_ ?_ ?_ ?_ ?_ ?_ (by exact droom3 hdp (Nat.le_of_lt hnl)) (by exact uroom3 hun (Nat.le_of_lt hnl)) ?_)
    all_goals try (first | ((with_reducible show Below _ _ _ _); k_asm) | ((with_reducible show Fr _ _ _ _); k_asm) | ((with_reducible show Frag.In _ _); k_asm) | ((with_reducible show News _ _ _ _); k_asm) | ((with_reducible show Top _ _ _ _ _ _); k_asm) | ((with_reducible show CodeHd _ _ _); first | assumption | exact CodeHd.keeps (by assumption) (Fr.keep (by assumption))) | ((with_reducible show Scope.kind _ = _); exact rfl) | ((with_reducible show _ < recursionLimit); first | exact droom (by with_reducible assumption) rfl | exact Nat.le_of_ble_eq_true rfl | ktr_room) | ((with_reducible show _ < cLine); first | exact uroom (by with_reducible assumption) rfl | exact Nat.le_of_ble_eq_true rfl | ktr_units))
    refine hide2 ?_
    rintro PH kH r news' ⟨⟨t5, rfl⟩, rfl⟩
    refine kH _ _ ?_
    clear kH PH
    intro h5 tk5 F5 N5
    k_steps
    rename_i F9 N9 _ _
    refine hret _ _ _ _ ⟨⟨_, rfl⟩, (c6, oc6), ⟨vs6, t6, d61, d62⟩, rfl, allLt_mem l61.2.2.2.2⟩ F9 (news_sub N9 ?_)
    intro p hp
    rcases List.mem_cons.mp hp with h | h
    · exact h ▸ .tail _ (.tail _ (.tail _ (.tail _ (.tail _ (.head _)))))
    · rcases List.mem_cons.mp h with h | h
      · exact h ▸ .tail _ (.head _)
      · exact .tail _ (.tail _ (.tail _ (.tail _ (.tail _ (.tail _ h)))))
theorem digits2int_hit (w : World) (n : Nat) (t2 : Tok) (rest : Led) (Dg : Addr) (vs : List Value) (ns : List Int) (k : Nat) (q : Addr × Obj) (hq : CodeOk (Str.ofString "_digits2int.<locals>.inner") q) (hm : (Dg, listOf vs.toArray k) ∈ rest) (hi : IntsAre vs ns) (hnl : ns.length < 600) (hb : ∀ i, 0 ≤ ns.getD i 0 ∧ ns.getD i 0 < 2 ^ 64) (hn : 0 < n) (hn2 : n < 64) :
    Does w 56 [.ref Dg, .int n t2] 650 (tabOf 51 58 4 q ++ rest) (fun r news' => (∃ t, r = .int (val n ns 0 ns.length) t) ∧ news' = tabOf 51 58 4 q ++ rest) := by
  unfold Does
  have := lawRef
  revert this
  k_fill
  intro _
  intro p loose mean mg mb dp un gd cn cs a ccd cl outer A₀ base h₀ L m s Q E B F X N T C1 C2 hck hdp hun hret
  refine hide fun kH => ?_
  obtain ⟨c6, oc6⟩ := q
  obtain ⟨vs6, t6, d61, d62⟩ := hq
  refine kH ?_
  clear kH
  change News h₀ L s.heap ((51, tabObj #[rawInt (58 : Nat), rawInt (4 : Nat), .ref c6]) :: (c6, oc6) :: rest) at N
  k_with_none
  k_with "eval Name" => (k_here; k_dflt (refine' nameX_L2 ?F ?_ ?v ?a ?b; (case F => k_asm); (case a => exact rfl); (case b => exact rfl); (case v => exact rfl); k_whole))
  k_with "ne" => (refine neN ?_; (try dsimp only); first | (refine Nat.ne_of_gt ?_; (repeat (first | assumption | exact Nat.lt_succ_self _ | exact Nat.lt_of_succ_lt (by assumption) | exact Nat.lt_of_succ_lt (Nat.lt_of_succ_lt (by assumption)) | exact And.left (by assumption) | exact And.left (And.right (by assumption)) | exact And.left (And.right (And.right (by assumption))) | exact And.left (And.right (And.right (And.right (by assumption)))) | refine Nat.lt_succ_of_lt ?_)); done) | (refine Nat.ne_of_lt ?_; (repeat (first | assumption | exact Nat.lt_succ_self _ | exact Nat.lt_of_succ_lt (by assumption) | exact Nat.lt_of_succ_lt (Nat.lt_of_succ_lt (by assumption)) | exact And.left (by assumption) | exact And.left (And.right (by assumption)) | exact And.left (And.right (And.right (by assumption))) | exact And.left (And.right (And.right (And.right (by assumption)))) | refine Nat.lt_succ_of_lt ?_)); done))
  k_with "call ref" => (with_reducible refine stop_here ?_)
  k_with "call builtin:len" => (with_reducible refine stop_here ?_)
  k_with "truthy ref" => (with_reducible refine stop_here ?_)
  refine wpAny_call ?_
  k_dflt (((refine' code_defC ?k1 ?k2 ?k3 ?k4 ?k5 ?kA ?kF ?kK ?k6 ?k7 ?k8 ?k9 ?kB ?kD ?_ ?c2 ?c3 ?c4; (case kA => exact rfl); (case kF => exact rfl); (case kK => assumption); (case k1 => k_asm); (case k2 => k_asm); (case k3 => k_asm); (case k4 => k_asm); (case k5 => k_asm); (case k6 => k_is); (case k7 => k_is); (case k8 => first | exact droom0 hdp | ktr_room); (case k9 => exact BindsTo.of_eq rfl); (case kB => exact rfl); (case kD => decide +kernel); (case c2 => exact rfl); (case c3 => exact rfl); (case c4 => exact rfl))))
  intro g' L' h' tk' cells' FG' F' N' Y' B' X' T' l1
  k_cells Y'
  rename_i o1 o2 o3 d1 d2 d3
  replace d1 : o1.data = .cell none := d1
  replace d2 : o2.data = .cell (some (.int n t2)) := d2
  replace d3 : o3.data = .cell (some (.ref Dg)) := d3
  simp only [List.cons_append, List.nil_append] at N'
  have l51 := ltN (l1 _ (.head _))
  dsimp only at l51
  have lc6 := ltN (l1 _ (.tail _ (.head _)))
  dsimp only at lc6
  have C1' := CodeHd.keeps C1 FG'.keep
  have hr0 : ∀ p ∈ rest, p.1 < L' := fun p hp => l1 p (.tail _ (.tail _ hp))
  have hr1 : ∀ p ∈ rest, p.1 ≠ L' + 1 := fun p hp => neN (Nat.ne_of_lt (Nat.lt_succ_of_lt (ltN (hr0 p hp))))
  have hr2 : ∀ p ∈ rest, p.1 ≠ L' + 1 + 1 := fun p hp => neN (Nat.ne_of_lt (Nat.lt_succ_of_lt (Nat.lt_succ_of_lt (ltN (hr0 p hp)))))
  have hr3 : ∀ p ∈ rest, p.1 ≠ L' + 1 + 1 + 1 := fun p hp => neN (Nat.ne_of_lt (Nat.lt_succ_of_lt (Nat.lt_succ_of_lt (Nat.lt_succ_of_lt (ltN (hr0 p hp))))))
  dsimp only
  k_steps
  refine ⟨?_⟩
  rename_i f6 _ _ _ _ l61 h7 o7 F7 N7 d7
  refine truthy_led N7 (.tail _ (.tail _ (.tail _ (.tail _ (.tail _ (.tail _ hm)))))) (by rw [hi.length]; lia) ?_
  intro tk8
  rw [hi.length]
  by_cases h0 : ns.length = 0
  · have e0 : (ns.length != 0) = false := by simp [h0]
    rw [e0]
    k_steps
    rename_i F9 N9 _ _
    exact hret _ _ _ _ ⟨⟨_, congrArg (fun z => Value.int z _) (by rw [h0]; rfl)⟩, rfl⟩ F9 (news_sub N9 fun p h => .tail _ (.tail _ (.tail _ (.tail _ h))))
  · have e0 : (ns.length != 0) = true := by simp [h0]
    rw [e0]
    k_steps
    refine ⟨?_⟩
    refine len_led N7 (.tail _ (.tail _ (.tail _ (.tail _ (.tail _ (.tail _ hm)))))) ns.length hi.length (by rw [hi.length]; lia) ?_
    intro t9 tk9
    k_steps
    refine ⟨?_⟩
    k_dflt (refine' Does.use (d2i_inner w n hn hn2 f6 c6 Dg (L' + 1 + 1) (L' + 1 + 1 + 1) (L' + 1) _ _ _ _ oc6 _ _ _ vs6 t6 t2 _ (.head _) (.tail _ (.tail _ (.tail _ (.tail _ (.tail _ (.head _)))))) d61 d62 (.tail _ (.tail _ (.head _))) d2 (.tail _ (.head _)) d7 (.tail _ (.tail _ (.tail _ (.head _)))) d3 vs ns k hi (.tail _ (.tail _ (.tail _ (.tail _ (.tail _ (.tail _ hm)))))) (by lia) hb ns.length 0 ns.length _ _ (by lia) (by lia) (by lia)) ?_ ?_ ?_ ?_ ?_ ?_ ?_ ?_ (by exact droom3 hdp (Nat.le_of_lt hnl)) (by exact uroom3 hun (Nat.le_of_lt hnl)) ?_)
    all_goals try (first | ((with_reducible show Below _ _ _ _); k_asm) | ((with_reducible show Fr _ _ _ _); k_asm) | ((with_reducible show Frag.In _ _); k_asm) | ((with_reducible show News _ _ _ _); k_asm) | ((with_reducible show Top _ _ _ _ _ _); k_asm) | ((with_reducible show CodeHd _ _ _); first | assumption | exact CodeHd.keeps (by assumption) (Fr.keep (by assumption))) | ((with_reducible show Scope.kind _ = _); exact rfl) | ((with_reducible show _ < recursionLimit); first | exact droom (by with_reducible assumption) rfl | exact Nat.le_of_ble_eq_true rfl | ktr_room) | ((with_reducible show _ < cLine); first | exact uroom (by with_reducible assumption) rfl | exact Nat.le_of_ble_eq_true rfl | ktr_units))
    refine hide2 ?_
    rintro PH kH r news' ⟨⟨t5, rfl⟩, rfl⟩
    refine kH _ _ ?_
    clear kH PH
    intro h5 tk5 F5 N5
    k_steps
    rename_i F9 N9 _ _
    exact hret _ _ _ _ ⟨⟨_, rfl⟩, rfl⟩ F9 (news_sub N9 fun p h => .tail _ (.tail _ (.tail _ (.tail _ h))))
end Mine

end
section
open PySem PySem.W PyProof.Rows in
theorem Mine.freshFM {prog : Program} {w : World} {A : Around} {env : Env} {E : Value → Shared → Prop} {Q : Flow → Shared → Prop} {s : Shared} (h : Q .next s) : wpAny (model prog w) A (execs [] env) Q E s := by w_top off; k_with_none; walk1; exact h
open PySem PySem.W PyProof.Rows
set_option Elab.async false
set_option maxRecDepth 100000
set_option maxHeartbeats 2000000
set_option pp.deepTerms false
set_option pp.deepTerms.threshold 4
namespace Mine
/-- the text of one sign -/
noncomputable def one (c : Nat) : Str := Str.mk #[c]
noncomputable def fmTab : List (List (Int × Nat)) :=
  [[(40960, 108), (49152, 115), (32768, 45), (24576, 98), (16384, 100), (8192, 99), (4096, 112)],
   [(256, 114)], [(128, 119)], [(2112, 115), (2048, 83), (64, 120)],
   [(32, 114)], [(16, 119)], [(1032, 115), (1024, 83), (8, 120)],
   [(4, 114)], [(2, 119)], [(513, 116), (512, 84), (1, 120)]]
/-- does the entry hold of the mode? -/
noncomputable def hit (i : Nat) (mode : Int) (b : Int) : Bool := if i = 0 then Builtin.bitAnd mode 61440 == b else Builtin.bitAnd mode b == b
noncomputable def pick (i : Nat) (mode : Int) : List (Int × Nat) → Nat
  | [] => if i = 0 then 63 else 45
  | (b, c) :: r => if hit i mode b then c else pick i mode r
noncomputable def fmAt (mode : Int) (i : Nat) : Nat := pick i mode (fmTab.getD i [])
noncomputable def fmRow (mode : Int) : List Nat := (List.range 10).map (fmAt mode)
noncomputable def refOf? : Value → Option Addr
  | .ref a => some a
  | _ => none
noncomputable def intOf? : Value → Option Int
  | .int b _ => some b
  | _ => none
noncomputable def strOf? : Value → Option Str
  | .str x _ => some x
  | _ => none
noncomputable def seqOf? : Data → Option (Array Value)
  | .seq vs _ => some vs
  | _ => none
theorem refOf_is {v : Value} {a : Addr} (e : refOf? v = some a) : v = .ref a := by
  cases v with
  | ref b => exact congrArg _ (Option.some.inj e)
  | _ => cases e
theorem intOf_is {v : Value} {b : Int} (e : intOf? v = some b) : ∃ t, v = .int b t := by
  cases v with
  | int c t => exact ⟨t, congrArg (fun z => Value.int z t) (Option.some.inj e)⟩
  | _ => cases e
theorem strOf_is {v : Value} {x : Str} (e : strOf? v = some x) : ∃ t, v = .str x t := by
  cases v with
  | str y t => exact ⟨t, congrArg (fun z => Value.str z t) (Option.some.inj e)⟩
  | _ => cases e
theorem seqOf_is {d : Data} {vs : Array Value} (e : seqOf? d = some vs) : ∃ n, d = .seq vs n := by
  cases d with
  | seq us n => exact ⟨n, congrArg (fun z => Data.seq z n) (Option.some.inj e)⟩
  | _ => cases e
noncomputable def tupOf (o : Obj) : Option (List Value) := if o.cls = .type "tuple" then (seqOf? o.data).map fun a => a.toList else none
noncomputable def tupAt (K : Frag) (v : Value) : Option (List Value) := (refOf? v).bind fun a => (K.lookup a).bind tupOf
theorem tupAt_is {K : Frag} {h : Heap} {v : Value} {l : List Value} (X : K.In h) (e : tupAt K v = some l) : ∃ a, v = .ref a ∧ h.IsTuple a l.toArray := by
  obtain ⟨a, ha, e⟩ := Option.bind_eq_some_iff.mp e
  obtain ⟨o, ho, e⟩ := Option.bind_eq_some_iff.mp e
  have hc : o.cls = .type "tuple" := Decidable.byContradiction fun hc => by rw [tupOf, if_neg hc] at e; cases e
  rw [tupOf, if_pos hc] at e
  obtain ⟨vs, hs, e⟩ := Option.map_eq_some_iff.mp e
  obtain ⟨n, hn⟩ := seqOf_is hs
  exact ⟨a, refOf_is ha, o, X _ _ ho, hc, n, by rw [hn, ← e]⟩
theorem any_is {α : Type} {o : Option α} {f : α → Bool} (e : o.any f = true) : ∃ l, o = some l ∧ f l = true := by
  cases o with
  | none => cases e
  | some l => exact ⟨l, rfl, e⟩
theorem len_two {α : Type} : ∀ {l : List α}, l.length = 2 → ∃ x y, l = [x, y]
  | [x, y], _ => ⟨x, y, rfl⟩
noncomputable def pairOk (K : Frag) (v : Value) (p : Int × Nat) : Bool := (tupAt K v).any fun l => decide (l.length = 2 ∧ intOf? (l.getD 0 .none) = some p.1 ∧ strOf? (l.getD 1 .none) = some (one p.2))
theorem pairOk_is {K : Frag} {h : Heap} {v : Value} {p : Int × Nat} (X : K.In h) (e : pairOk K v p = true) : ∃ a t u, v = .ref a ∧ h.IsTuple a #[.int p.1 t, .str (one p.2) u] := by
  obtain ⟨l, hl, e⟩ := any_is e
  obtain ⟨h2, hi, hs⟩ := of_decide_eq_true e
  obtain ⟨a, rfl, hT⟩ := tupAt_is X hl
  obtain ⟨x, y, rfl⟩ := len_two h2
  obtain ⟨t, rfl⟩ := intOf_is hi
  obtain ⟨u, rfl⟩ := strOf_is hs
  exact ⟨a, t, u, rfl, hT⟩
noncomputable def rowOk (K : Frag) (v : Value) (row : List (Int × Nat)) : Bool := (tupAt K v).any fun l => decide (l.length = row.length) && (l.zip row).all fun x => pairOk K x.1 x.2
theorem zip_at {α β : Type} {f : α × β → Bool} {l : List α} {r : List β} (hl : l.length = r.length) (h : (l.zip r).all f = true) {i : Nat} {x : α} (hx : l[i]? = some x) : ∃ y, r[i]? = some y ∧ f (x, y) = true := by
  have hi : i < l.length := by
    rcases Nat.lt_or_ge i l.length with h | h
    · exact h
    · rw [List.getElem?_eq_none h] at hx; cases hx
  have hi2 : i < r.length := hl ▸ hi
  refine ⟨r[i], List.getElem?_eq_getElem hi2, ?_⟩
  rw [List.getElem?_eq_getElem hi] at hx
  cases hx
  have := List.all_eq_true.mp h (l[i], r[i]) (by
    have : (l.zip r)[i]? = some (l[i], r[i]) := by rw [List.getElem?_zip_eq_some]; exact ⟨List.getElem?_eq_getElem hi, List.getElem?_eq_getElem hi2⟩
    exact List.mem_of_getElem? this)
  exact this
theorem rowOk_is {K : Frag} {h : Heap} {v : Value} {row : List (Int × Nat)} (X : K.In h) (e : rowOk K v row = true) : ∃ (a : Addr) (l : List Value), v = .ref a ∧ h.IsTuple a l.toArray ∧ l.length = row.length ∧ ∀ (j : Nat) (x : Value), l[j]? = some x → ∃ p : Int × Nat, row[j]? = some p ∧ ∃ c t u, x = .ref c ∧ h.IsTuple c #[.int p.1 t, .str (one p.2) u] := by
  obtain ⟨l, q, e0⟩ := any_is e
  clear e
  obtain ⟨a, rfl, hT⟩ := tupAt_is X q
  have e1 := of_decide_eq_true (Bool.and_eq_true_iff.mp e0).1
  refine ⟨a, l, rfl, hT, e1, fun j x hx => ?_⟩
  obtain ⟨p, hp, hq⟩ := zip_at e1 (Bool.and_eq_true_iff.mp e0).2 hx
  obtain ⟨c, t, u, h1, h2⟩ := pairOk_is X hq
  exact ⟨p, hp, c, t, u, h1, h2⟩
noncomputable def tabOk (K : Frag) (v : Value) (tab : List (List (Int × Nat))) : Bool := (tupAt K v).any fun l => decide (l.length = tab.length) && (l.zip tab).all fun x => rowOk K x.1 x.2
theorem tabOk_is {K : Frag} {h : Heap} {v : Value} {tab : List (List (Int × Nat))} (X : K.In h) (e : tabOk K v tab = true) : ∃ (a : Addr) (l : List Value), v = .ref a ∧ h.IsTuple a l.toArray ∧ l.length = tab.length ∧ ∀ (j : Nat) (x : Value), l[j]? = some x → ∃ row : List (Int × Nat), tab[j]? = some row ∧ rowOk K x row = true := by
  obtain ⟨l, q, e0⟩ := any_is e
  clear e
  obtain ⟨a, rfl, hT⟩ := tupAt_is X q
  have e1 := of_decide_eq_true (Bool.and_eq_true_iff.mp e0).1
  exact ⟨a, l, rfl, hT, e1, fun j x hx => zip_at e1 (Bool.and_eq_true_iff.mp e0).2 hx⟩
theorem tab_ok (w : World) : tabOk (Mine.hd.heap_39 w.params) (.ref 103) fmTab = true := by kernel_rfl
local macro_rules | `(tactic| walk_at "call builtin:list.append") => `(tactic| k_extra "call builtin:list.append")
local macro_rules | `(tactic| k_all) => `(tactic| assumption)
local macro_rules | `(tactic| walk_at "exec For Tuple Name cons cons") => `(tactic| k_extra "exec For Tuple Name cons cons")
local macro_rules | `(tactic| walk_at "exec For Tuple Call cons nil") => `(tactic| k_extra "exec For Tuple Call cons nil")
theorem join_ones : ∀ cs : List Nat, Str.join (Str.mk #[]) (cs.map one) = Str.mk cs.toArray
  | [] => rfl
  | [_] => rfl
  | a :: b :: r => by
    have ih := join_ones (b :: r)
    simp only [List.map_cons] at ih ⊢
    rw [join_cons_cons, ih]
    apply Str.ext'
    rw [Str.cps_append, Str.cps_append]
    simp [one]
theorem strs_snoc {vs : List Value} {ys : List Str} (h : StrsAre vs ys) (y : Str) (t : Tok) : StrsAre (vs ++ [.str y t]) (ys ++ [y]) := by
  induction h with
  | nil => exact .cons y t .nil
  | cons z u _ ih => exact .cons z u ih
theorem fm_snoc {vs : List Value} {i : Nat} {v : Int} (h : StrsAre vs (((List.range i).map (fmAt v)).map one)) (c : Nat) (t : Tok) (hc : fmAt v i = c) : StrsAre (vs ++ [.str (one c) t]) (((List.range (i + 1)).map (fmAt v)).map one) := by
  rw [List.range_succ, List.map_append, List.map_append]
  show StrsAre _ (_ ++ [one (fmAt v i)])
  rw [hc]
  exact strs_snoc h _ _
inductive FInv (v : Int) (t : Tok) (P : Addr) (rest : Led) (i : Nat) (m : Str → Option Value) (nw : Led) : Prop
  | mk (vs : List Value) (k : Nat) (hv : StrsAre vs (((List.range i).map (fmAt v)).map one)) (hn : nw = (P, listOf vs.toArray k) :: rest) (m1 : m (Str.ofString "mode") = some (.int v t)) (m2 : m (Str.ofString "perm") = some (.ref P))
inductive GInv (v : Int) (t : Tok) (P : Addr) (R : Led) (i : Nat) (tt : Tok) (row : List (Int × Nat)) (j : Nat) (m : Str → Option Value) (nw : Led) : Prop
  | mk (hp : pick i v (row.drop j) = pick i v row) (hn : nw = R) (m1 : m (Str.ofString "mode") = some (.int v t)) (m2 : m (Str.ofString "perm") = some (.ref P)) (m3 : m (Str.ofString "index") = some (.int (i : Int) tt))
theorem filemode_does (w : World) (v : Int) (t : Tok) (rest : Led) :
    Does w 110 [.int v t] 3 rest (fun r news' => (∃ u, r = .str (Str.mk (fmRow v).toArray) u) ∧ news' = rest) := by
  unfold Does
  have := lawRef
  revert this
  k_fill
  intro _
  intro p loose mean mg mb dp un gd cn cs a ccd cl outer A₀ base h₀ L m s Q E B F X N T C1 C2 hck hdp hun hret
  k_with_none
  k_with "eval Name" => (k_here; k_dflt (refine' nameX_L2 ?F ?_ ?v ?a ?b; (case F => k_asm); (case a => exact rfl); (case b => exact rfl); (case v => exact rfl); k_whole))
  k_with "exec For Tuple Name cons cons" => (with_reducible refine stop_here ?_)
  k_with "exec For Tuple Call cons nil" => (with_reducible refine stop_here ?_)
  k_with "call type:enumerate" => (with_reducible refine stop_here ?_)
  k_with "call ref" => (with_reducible refine stop_here ?_)
  k_with "call builtin:list.append" => (with_reducible refine stop_here ?_)
  k_with "call builtin:str.join" => (with_reducible refine stop_here ?_)
  refine wpAny_call ?_
  k_dflt cell_enter
  k_steps
  refine ⟨?_⟩
  rename_i g' L' _ FG' B' X' T' _ P _ hP h2 F2 N2
  refine hide fun kH => ?_
  obtain ⟨ta, l, hta, hT, hlen, hrow⟩ := tabOk_is X' (tab_ok w)
  refine kH ?_
  clear kH
  cases hta
  k_dflt (refine For_turns F2 ?_)
  k_steps
  refine ⟨?_⟩
  have hrP : ∀ p ∈ rest, p.1 ≠ P := fun p hp => Nat.ne_of_lt (hP p hp)
  refine for_enum (FInv v t P rest) rfl hT F2 N2 ?start ?turn ?done
  case start => exact ⟨[], 0, .nil, rfl, rfl, rfl⟩
  case turn =>
    intro i x m₁ news₁ h tk Tt tt e oe it oit hx z0H hei hoff F₁ N₁ hTt
    refine hide fun kH => ?_
    obtain ⟨vs, k, hvs, rfl, e1, e2⟩ := z0H
    obtain ⟨row, hr, hro⟩ := hrow i x (by simpa using hx)
    obtain ⟨tb, lb, rfl, hTb, hlb, hpair⟩ := rowOk_is X' hro
    refine kH ?_
    clear kH
    have hlv : vs.length = i := by have := hvs.length; simpa using this
    have hi10 : i < 10 := by
      have : i < fmTab.length := by
        rcases Nat.lt_or_ge i fmTab.length with h | h
        · exact h
        · rw [List.getElem?_eq_none h] at hr; cases hr
      exact this
    have hpk : fmAt v i = pick i v row := by unfold fmAt; rw [List.getD_eq_getElem?_getD, hr]; rfl
    k_with "pyIter ref" => (with_reducible refine stop_here ?_)
    iterate 8 walk1
    refine absW fun Q1 hQ1 => ?_
    k_steps
    refine ⟨?_⟩
    k_dflt (refine wpAny_For ?_)
    k_steps
    refine ⟨?_⟩
    rename_i h5 F5 N5
    have F6 := fr_see [(Str.ofString "mode", .int v t), (Str.ofString "perm", .ref P)] F5 (List.forall_mem_cons.mpr ⟨e1, List.forall_mem_cons.mpr ⟨e2, fun _ h => nomatch h⟩⟩)
    dsimp only [kstB] at F6
    refine for_tup (GInv v t P ((e, oe) :: (it, oit) :: (P, listOf vs.toArray k) :: rest) i tt row) rfl hTb F6 N5 ⟨rfl, rfl, rfl, rfl, rfl⟩ ?turn2 ?done2 (by passes_own) (.inl ⟨_, _, _, rfl⟩)
    case turn2 =>
      intro j y m₂ news₂ h7 tk7 I oI hy z0H hnI F7 N7
      refine hide fun kH => ?_
      obtain ⟨hj, rfl, f1, f2, f3⟩ := z0H
      obtain ⟨pr, hpr, c, tp, up, rfl, hTc⟩ := hpair j y (by simpa using hy)
      refine kH ?_
      clear kH
      have hdrop : row.drop j = pr :: row.drop (j + 1) := by
        have hjl : j < row.length := by
          rcases Nat.lt_or_ge j row.length with h | h
          · exact h
          · rw [List.getElem?_eq_none h] at hpr; cases hpr
        rw [List.getElem?_eq_getElem hjl] at hpr
        cases hpr
        exact List.drop_eq_getElem_cons hjl
      have F8 := fr_see [(Str.ofString "mode", .int v t), (Str.ofString "perm", .ref P), (Str.ofString "index", .int (i : Int) tt)] F7 (List.forall_mem_cons.mpr ⟨f1, List.forall_mem_cons.mpr ⟨f2, List.forall_mem_cons.mpr ⟨f3, fun _ h => nomatch h⟩⟩⟩)
      dsimp only [kstB] at F8
      clear F7 F6 F5
      have hR2 : ∀ p ∈ [(I, oI), (e, oe), (it, oit)] ++ rest, p.1 ≠ P := off_cons (Ne.symm (hnI _ (.tail _ (.tail _ (.head _))))) (off_cons (Ne.symm (hoff _ (.head _)).1) (off_cons (Ne.symm (hoff _ (.head _)).2) hrP))
      have hTc' : IsTup g' c #[.int pr.1 tp, .str (one pr.2) up] := hTc
      iterate 8 walk1
      refine absW fun Q2 hQ2 => ?_
      k_steps
      · refine ⟨?_⟩
        rename_i hi0
        k_dflt (refine' Does.use (ifmt_does w v t _) ?_ ?_ ?_ ?_ ?_ ?_ ?_ ?_ ?_ ?_ ?_)
        all_goals try (first | ((with_reducible show Below _ _ _ _); k_asm) | ((with_reducible show Fr _ _ _ _); k_asm) | ((with_reducible show Frag.In _ _); k_asm) | ((with_reducible show News _ _ _ _); k_asm) | ((with_reducible show Top _ _ _ _ _ _); k_asm) | ((with_reducible show CodeHd _ _ _); first | assumption | exact CodeHd.keeps (by assumption) (Fr.keep (by assumption))) | ((with_reducible show Scope.kind _ = _); exact rfl) | ((with_reducible show _ < recursionLimit); first | exact droom (by with_reducible assumption) rfl | exact Nat.le_of_ble_eq_true rfl | ktr_room) | ((with_reducible show _ < cLine); first | exact uroom (by with_reducible assumption) rfl | exact Nat.le_of_ble_eq_true rfl | ktr_units))
        refine hide2 ?_
        rintro PH kH r news' ⟨⟨u9, rfl⟩, rfl⟩
        refine kH _ _ ?_
        clear kH PH
        intro h9 tk9 F9 N9
        k_steps
        · refine ⟨?_⟩
          rename_i hb
          have hhit : hit i v pr.1 = true := by unfold hit; rw [if_pos (by lia), hb]; simp
          have FX := F9
          have NX := N9
          refine append_led (vs := vs) FX (news_front [(I, oI), (e, oe), (it, oit)] NX) hR2 (by lia) ?_
          intro hA FA NA
          k_steps
          refine hQ2 _ _ ?_
          dsimp only [TurnEnd]
          refine wpAny_execs_nil ?_
          refine hQ1 _ _ ?_
          refine ⟨rfl, _, _, _, _, rfl, FA, news_sub (b := (e, oe) :: (it, oit) :: (P, listOf (vs ++ [Value.str (one pr.2) up]).toArray (k + 1)) :: rest) NA ?_, ?_, _, _, fm_snoc hvs pr.2 up ?_, rfl, rfl, rfl⟩
          · intro p hp
            simp only [List.mem_cons, List.mem_append, List.not_mem_nil, or_false] at hp ⊢
            rcases hp with h | h | h | h <;> simp [h]
          · exact List.forall_mem_cons.mpr ⟨hoff (P, listOf vs.toArray k) (.head _), fun p hp => hoff p (.tail _ hp)⟩
          · rw [hpk, ← hj, hdrop, pick, if_pos hhit]
        · rename_i hb
          have hhit : ¬ hit i v pr.1 = true := by unfold hit; rw [if_pos (by lia)]; simpa using hb
          have FX := F9
          have NX := N9
          refine hQ2 _ _ (te_end FX NX hnI ⟨?_, rfl, rfl, rfl, rfl⟩)
          rw [← hj, hdrop]
          conv => rhs; rw [pick, if_neg hhit]
      · refine ⟨?_⟩
        rename_i FX NX _ hi0 _ hb
        have hhit : hit i v pr.1 = true := by unfold hit; rw [if_neg (by lia), hb]; simp
        refine append_led (vs := vs) FX (news_front [(I, oI), (e, oe), (it, oit)] NX) hR2 (by lia) ?_
        intro hA FA NA
        k_steps
        refine hQ2 _ _ ?_
        dsimp only [TurnEnd]
        refine wpAny_execs_nil ?_
        refine hQ1 _ _ ?_
        refine ⟨rfl, _, _, _, _, rfl, FA, news_sub (b := (e, oe) :: (it, oit) :: (P, listOf (vs ++ [Value.str (one pr.2) up]).toArray (k + 1)) :: rest) NA ?_, ?_, _, _, fm_snoc hvs pr.2 up ?_, rfl, rfl, rfl⟩
        · intro p hp
          simp only [List.mem_cons, List.mem_append, List.not_mem_nil, or_false] at hp ⊢
          rcases hp with h | h | h | h <;> simp [h]
        · exact List.forall_mem_cons.mpr ⟨hoff (P, listOf vs.toArray k) (.head _), fun p hp => hoff p (.tail _ hp)⟩
        · rw [hpk, ← hj, hdrop, pick, if_pos hhit]
      · rename_i FX NX _ hi0 _ hb
        have hhit : ¬ hit i v pr.1 = true := by unfold hit; rw [if_neg (by lia)]; simpa using hb
        refine hQ2 _ _ (te_end FX NX hnI ⟨?_, rfl, rfl, rfl, rfl⟩)
        rw [← hj, hdrop]
        conv => rhs; rw [pick, if_neg hhit]
    case done2 =>
      intro m₂ news₂ h7 tk7 z0H F7 N7
      refine hide fun kH => ?_
      obtain ⟨hj, rfl, f1, f2, f3⟩ := z0H
      refine kH ?_
      clear kH
      have F8 := fr_see [(Str.ofString "mode", .int v t), (Str.ofString "perm", .ref P), (Str.ofString "index", .int (i : Int) tt)] F7 (List.forall_mem_cons.mpr ⟨f1, List.forall_mem_cons.mpr ⟨f2, List.forall_mem_cons.mpr ⟨f3, fun _ h => nomatch h⟩⟩⟩)
      dsimp only [kstB] at F8
      clear F7 F6 F5
      have hR2 : ∀ p ∈ [(e, oe), (it, oit)] ++ rest, p.1 ≠ P := off_cons (Ne.symm (hoff _ (.head _)).1) (off_cons (Ne.symm (hoff _ (.head _)).2) hrP)
      k_steps
      · refine ⟨?_⟩
        rename_i hi0
        refine append_led (vs := vs) F8 (news_front [(e, oe), (it, oit)] N7) hR2 (by lia) ?_
        intro hA FA NA
        repeat (first | refine wpAny_execs_nil ?_ | dsimp only)
        refine hQ1 _ _ ?_
        refine ⟨rfl, _, _, _, _, rfl, FA, news_back [(e, oe), (it, oit)] NA, ?_, _, _, fm_snoc hvs 63 _ ?_, rfl, rfl, rfl⟩
        · exact List.forall_mem_cons.mpr ⟨hoff (P, listOf vs.toArray k) (.head _), fun p hp => hoff p (.tail _ hp)⟩
        · rw [hpk, ← hj, List.drop_of_length_le (by simp [hlb]), pick, if_pos (by lia)]
      · refine ⟨?_⟩
        rename_i hi0
        refine append_led (vs := vs) F8 (news_front [(e, oe), (it, oit)] N7) hR2 (by lia) ?_
        intro hA FA NA
        repeat (first | refine wpAny_execs_nil ?_ | dsimp only)
        refine hQ1 _ _ ?_
        refine ⟨rfl, _, _, _, _, rfl, FA, news_back [(e, oe), (it, oit)] NA, ?_, _, _, fm_snoc hvs 45 _ ?_, rfl, rfl, rfl⟩
        · exact List.forall_mem_cons.mpr ⟨hoff (P, listOf vs.toArray k) (.head _), fun p hp => hoff p (.tail _ hp)⟩
        · rw [hpk, ← hj, List.drop_of_length_le (by simp [hlb]), pick, if_neg (by lia)]
  case done =>
    intro m₂ news₂ h7 tk7 z0H F7 N7
    refine hide fun kH => ?_
    obtain ⟨vs, k, hvs, rfl, f1, f2⟩ := z0H
    refine kH ?_
    clear kH
    have F8 := fr_see [(Str.ofString "perm", .ref P)] F7 (List.forall_mem_cons.mpr ⟨f2, fun _ h => nomatch h⟩)
    dsimp only [kstB] at F8
    clear F7
    k_steps
    refine ⟨?_⟩
    have hl10 : l.toArray.size = 10 := by rw [List.size_toArray, hlen]; rfl
    rw [hl10] at hvs
    refine join_list (items := vs.toArray) (ys := ((List.range 10).map (fmAt v)).map one) ⟨_, (N7 _ (.head _)).1, rfl, _, rfl⟩ hvs ?_ ?_
    · show (((List.range 10).map (fmAt v)).map one |>.map (·.length)).sum + _ * 0 ≤ _
      have : (((List.range 10).map (fmAt v)).map one |>.map (·.length)).sum = 10 := rfl
      lia
    intro t8 k8
    k_steps
    rename_i F9 N9 _ _
    refine hret _ _ _ _ ⟨⟨_, congrArg (fun z => Value.str z _) ?_⟩, rfl⟩ F9 (news_sub N9 fun p hp => .tail _ hp)
    exact (StrLaws.glued_eq_join _ _).trans (join_ones _)
end Mine

end
section
open PySem PySem.W PyProof.Rows in
theorem Mine.freshLR {prog : Program} {w : World} {A : Around} {env : Env} {E : Value → Shared → Prop} {Q : Flow → Shared → Prop} {s : Shared} (h : Q .next s) : wpAny (model prog w) A (execs [] env) Q E s := by w_top off; k_with_none; walk1; exact h
open PySem PySem.W PyProof.Rows
set_option Elab.async false
set_option maxRecDepth 100000
set_option maxHeartbeats 2000000
set_option pp.deepTerms false
set_option pp.deepTerms.threshold 6
namespace Mine
noncomputable def mkS (l : List Nat) : Str := Str.mk l.toArray
/-- the sign of a text at an index -/
noncomputable def chAt (x : Str) (i : Int) : Nat := x.cps.getD i.toNat 0
theorem str_at {prog : Program} {w : World} {A : Around} {E : Value → Shared → Prop} {s : Shared} {value slice : Expr} {x : Str} {t : Tok} {Q : Value → Shared → Prop} {i : Int} {u : Tok}
    (h0 : 0 ≤ i) (h1 : i < (x.cps.size : Int)) (hz : x.cps.size < 1000) (h : Q (.str (mkS [chAt x i]) s.toks) { s with toks := s.toks + 1 })
    (hs : subscripted slice false (.str x t) (.int i u) = operate [.str x t, .int i u] (getItem (.str x t) (.int i u)) := by with_unfolding_all rfl)
    (ht : ∀ r, letTemporaryGo value (.str x t) r = pure () := by intro _; with_unfolding_all rfl) :
    wpAny (model prog w) A (subscriptTail value slice (.str x t) (.int i u)) Q E s := by
  have hl : i.toNat < x.cps.size := by lia
  have hl2 : x.length = x.cps.size := rfl
  refine item_str (fitsSsize_of (N := 9223372036854775808) (by lia) (by lia) (Int.le_refl _)) (by lia) (by lia) (fun _ => ?_) hs ht
  have e : Txt.item x i = one (chAt x i) := by
    have e2 : seqIndex? i x.length = some i.toNat := by
      unfold seqIndex?
      have h3 : ¬ i < 0 := by lia
      have h4 : i < (x.length : Int) := by lia
      simp only [h3, if_false, h0, h4, decide_true, Bool.and_self, if_true]
    unfold Txt.item Txt.charAt one chAt
    rw [e2, Option.bind_some, Array.getElem?_eq_getElem hl]
    simp [Array.getD, hl]
  rw [e]; exact h
theorem mkS_add (l r : List Nat) : mkS l ++ mkS r = mkS (l ++ r) := by
  apply Str.ext'
  rw [Str.cps_append]; simp [mkS]
theorem mkS_len (l : List Nat) : (mkS l).length = l.length := by simp [mkS, Str.length]
theorem mkS_len2 (l : List Nat) : (mkS l).cps.size = l.length := by simp [mkS]


noncomputable def rowSeg (v fg ab : Int) (ends : String) : List Nat :=
  [chAt (Str.ofString "-r") ((fg.fdiv 4).fmod 2), chAt (Str.ofString "-w") ((fg.fdiv 2).fmod 2), chAt (Str.ofString ends) (fg.fmod 2 + (v.fdiv ab).fmod 2 * 2)]
noncomputable def row0 (v : Int) : List Nat := [chAt (Str.ofString "?pc?d?b?-?l?s???") ((v.fdiv 4096).fmod 16)]
noncomputable def row1 (v : Int) : List Nat := row0 v ++ rowSeg v (v.fdiv 64) 2048 "-xSs"
noncomputable def row2 (v : Int) : List Nat := row1 v ++ rowSeg v (v.fdiv 8) 1024 "-xSs"
noncomputable def row3 (v : Int) : List Nat := row2 v ++ rowSeg v v 512 "-xTt"
noncomputable def rowTo (v : Int) : Nat → List Nat
  | 0 => row0 v
  | 1 => row1 v
  | 2 => row2 v
  | _ => row3 v
/-- what _law_row gives -/
noncomputable def lrow (v : Int) : List Nat := rowTo v 3
theorem seg_add (l : List Nat) (a b c : Nat) : (mkS l ++ (one a ++ one b)) ++ one c = mkS (l ++ [a, b, c]) := by
  show (mkS l ++ (mkS [a] ++ mkS [b])) ++ mkS [c] = _
  rw [mkS_add, mkS_add, mkS_add]; simp
theorem sz16 : (Str.ofString "?pc?d?b?-?l?s???").cps.size = 16 := by decide +kernel
theorem sz2a : (Str.ofString "-r").cps.size = 2 := by decide +kernel
theorem sz2b : (Str.ofString "-w").cps.size = 2 := by decide +kernel
theorem sz4a : (Str.ofString "-xSs").cps.size = 4 := by decide +kernel
theorem sz4b : (Str.ofString "-xTt").cps.size = 4 := by decide +kernel
theorem fm_b (a : Int) (b : Int) (hb : 0 < b) : 0 ≤ a.fmod b ∧ a.fmod b < b := ⟨Int.fmod_nonneg_of_pos _ hb, Int.fmod_lt_of_pos _ hb⟩
theorem ifm_b {a b : Int} : 0 ≤ a.fmod 2 + b.fmod 2 * 2 ∧ a.fmod 2 + b.fmod 2 * 2 < 4 := by
  have := fm_b a 2 (by decide); have := fm_b b 2 (by decide); lia
theorem str_addS {prog : Program} {w : World} {A : Around} {E : Value → Shared → Prop} {s : Shared} {l r : List Nat} {t u : Tok} {Q : Value → Shared → Prop} (hl : l.length + r.length ≤ 1000)
    (h : ∀ t' k, Q (.str (mkS (l ++ r)) t') { s with toks := k }) : wpAny (model prog w) A (binaryOp .Add (.str (mkS l) t) (.str (mkS r) u)) Q E s := by
  refine SBL.add (fun t' k _ => ?_) (by rw [mkS_len, mkS_len, sizeLine_eq]; lia)
  rw [mkS_add]; exact h t' k
theorem str_iaddS {prog : Program} {w : World} {A : Around} {E : Value → Shared → Prop} {s : Shared} {l r : List Nat} {t u : Tok} {Q : Value → Shared → Prop} (hl : l.length + r.length ≤ 1000)
    (h : ∀ t' k, Q (.str (mkS (l ++ r)) t') { s with toks := k }) : wpAny (model prog w) A (inplaceOp .Add (.str (mkS l) t) (.str (mkS r) u)) Q E s := by
  refine SBL.iadd (fun t' k _ => ?_) (by rw [mkS_len, mkS_len, sizeLine_eq]; lia)
  rw [mkS_add]; exact h t' k
theorem row_step (v fg ab : Int) (ends : String) (l : List Nat) : (l ++ ([chAt (Str.ofString "-r") ((fg.fdiv 4).fmod 2)] ++ [chAt (Str.ofString "-w") ((fg.fdiv 2).fmod 2)])) ++ [chAt (Str.ofString ends) (fg.fmod 2 + (v.fdiv ab).fmod 2 * 2)] = l ++ rowSeg v fg ab ends := by
  simp [rowSeg]
theorem one_mk (c : Nat) : one c = mkS [c] := rfl
theorem rowTo_len (v : Int) (i : Nat) : (rowTo v i).length ≤ 10 := by
  match i with
  | 0 => exact (by decide : 1 ≤ 10)
  | 1 => exact (by decide : 4 ≤ 10)
  | 2 => exact (by decide : 7 ≤ 10)
  | _ + 3 => exact (by decide : 10 ≤ 10)
local macro_rules | `(tactic| walk_at "subscriptTail") => `(tactic| k_extra "subscriptTail")
local macro_rules | `(tactic| walk_at "exec For Tuple Tuple cons nil") => `(tactic| k_extra "exec For Tuple Tuple cons nil")
local macro_rules | `(tactic| walk_at "binaryOp Add str str") => `(tactic| k_extra "binaryOp Add str str")
local macro_rules | `(tactic| walk_at "inplaceOp Add str str") => `(tactic| k_extra "inplaceOp Add str str")
local macro_rules | `(tactic| k_all) => `(tactic| assumption)
local macro_rules | `(tactic| k_mem) => `(tactic| assumption)
inductive RowAt (R : Led) (v : Int) (i : Nat) (x : Value) : Prop
  | mk (Dx : Addr) (fg ab : Int) (ends : String) (t1 t2 t3 : Tok) (hx : x = .ref Dx) (hm : (Dx, ({ cls := .type "tuple", data := .seq #[.int fg t1, .int ab t2, .str (Str.ofString ends) t3] } : Obj)) ∈ R) (h4 : (Str.ofString ends).cps.size = 4) (hs : rowTo v i ++ rowSeg v fg ab ends = rowTo v (i + 1)) (hn : ab ≠ 0) (h0 : 0 < ab) (h1 : ab < 4096)
theorem rows3 {h₀ h : Heap} {L D D1 D2 D3 : Addr} {v : Int} {t t1 t2 t3 t4 t5 t6 t7 t8 : Tok} {rest : Led}
    (N : News h₀ L h ((D, { cls := .type "tuple", data := .seq #[.ref D3, .ref D2, .ref D1] }) :: (D1, { cls := .type "tuple", data := .seq #[.int v t, .int 512 t1, .str (Str.ofString "-xTt") t2] }) :: (D2, { cls := .type "tuple", data := .seq #[.int (v.fdiv 8) t3, .int 1024 t4, .str (Str.ofString "-xSs") t5] }) :: (D3, { cls := .type "tuple", data := .seq #[.int (v.fdiv 64) t6, .int 2048 t7, .str (Str.ofString "-xSs") t8] }) :: rest)) :
    ∃ R : Led, News h₀ L h R ∧ (D, ({ cls := .type "tuple", data := .seq #[.ref D3, .ref D2, .ref D1] } : Obj)) ∈ R ∧ (∀ (i : Nat) (x : Value), (#[Value.ref D3, Value.ref D2, Value.ref D1] : Array Value)[i]? = some x → RowAt R v i x) ∧ ∀ p ∈ rest, p ∈ R := by
  refine ⟨_, N, .head _, fun i x hx => ?_, fun p hp => .tail _ (.tail _ (.tail _ (.tail _ hp)))⟩
  match i, hx with
  | 0, hx => exact ⟨D3, _, _, _, _, _, _, (Option.some.inj hx).symm, .tail _ (.tail _ (.tail _ (.head _))), sz4a, rfl, by decide, by decide, by decide⟩
  | 1, hx => exact ⟨D2, _, _, _, _, _, _, (Option.some.inj hx).symm, .tail _ (.tail _ (.head _)), sz4a, rfl, by decide, by decide, by decide⟩
  | 2, hx => exact ⟨D1, _, _, _, _, _, _, (Option.some.inj hx).symm, .tail _ (.head _), sz4b, rfl, by decide, by decide, by decide⟩
inductive LInv (v : Int) (t : Tok) (R : Led) (i : Nat) (m : Str → Option Value) (nw : Led) : Prop
  | mk (tt : Tok) (hn : nw = R) (m1 : m (Str.ofString "mode") = some (.int v t)) (m2 : m (Str.ofString "text") = some (.str (mkS (rowTo v i)) tt))
theorem lawrow_does (w : World) (v : Int) (t : Tok) (rest : Led) :
    Does w 117 [.int v t] 1 rest (fun r news' => (∃ u, r = .str (mkS (lrow v)) u) ∧ news' = rest) := by
  unfold Does
  have := lawRef
  revert this
  k_fill
  intro _
  intro p loose mean mg mb dp un gd cn cs a ccd cl outer A₀ base h₀ L m s Q E B F X N T C1 C2 hck hdp hun hret
  k_with_none
  k_with "eval Name" => (k_here; k_dflt (refine' nameX_L2 ?F ?_ ?v ?a ?b; (case F => k_asm); (case a => exact rfl); (case b => exact rfl); (case v => exact rfl); k_whole))
  k_with "exec For Tuple Tuple cons nil" => (with_reducible refine stop_here ?_)
  k_with "subscriptTail" => (with_reducible refine stop_here ?_)
  k_with "binaryOp Add str str" => (with_reducible refine stop_here ?_)
  k_with "inplaceOp Add str str" => (with_reducible refine stop_here ?_)
  refine wpAny_call ?_
  k_dflt cell_enter
  k_steps
  refine ⟨?_⟩
  have hb := fm_b (v.fdiv 4096) 16 (by decide)
  refine str_at hb.1 (by rw [sz16]; exact hb.2) (by rw [sz16]; decide) ?_
  k_steps
  refine ⟨?_⟩
  k_dflt (refine wpAny_For ?_)
  k_with "pyIter ref" => (with_reducible refine stop_here ?_)
  k_steps
  refine ⟨?_⟩
  rename_i D3 h3 l3 D2 h2 l2 D1 h1 l1 D hh FF NN ll
  refine hide fun kH => ?_
  obtain ⟨R, NR, hD, hrows, hback⟩ := rows3 NN
  refine kH ?_
  clear kH NN
  refine for_tupL (ta := D) (items := #[.ref D3, .ref D2, .ref D1]) (LInv v t R) rfl ⟨rfl, _, rfl⟩ (by rintro i m nw ⟨_, rfl, _⟩; exact hD) FF NR ⟨_, rfl, rfl, if_pos rfl⟩ ?turn ?done (by passes_own) (.inl ⟨_, _, _, rfl⟩)
  case turn =>
    intro i x m₁ news₁ h tk I oI hx z0H hI F1 N1
    refine hide fun kH => ?_
    obtain ⟨tt, rfl, e1, e2⟩ := z0H
    obtain ⟨Dx, fg, ab, ends, t1, t2, t3, rfl, hm, h4, hs, hab, hab0, hab1⟩ := hrows i x hx
    refine kH ?_
    clear kH
    have hm2 : (Dx, ({ cls := .type "tuple", data := .seq #[.int fg t1, .int ab t2, .str (Str.ofString ends) t3] } : Obj)) ∈ (I, oI) :: news₁ := .tail _ hm
    have F2 := fr_see [(Str.ofString "mode", .int v t), (Str.ofString "text", .str (mkS (rowTo v i)) tt)] F1 (List.forall_mem_cons.mpr ⟨e1, List.forall_mem_cons.mpr ⟨e2, fun _ h => nomatch h⟩⟩)
    dsimp only [kstB] at F2
    clear F1
    iterate 11 walk1
    refine absW fun Q1 hQ1 => ?_
    k_steps
    refine ⟨?_⟩
    refine str_at (fm_b _ 2 (by decide)).1 (by rw [sz2a]; exact (fm_b _ 2 (by decide)).2) (by rw [sz2a]; decide) ?_
    k_steps
    refine ⟨?_⟩
    refine str_at (fm_b _ 2 (by decide)).1 (by rw [sz2b]; exact (fm_b _ 2 (by decide)).2) (by rw [sz2b]; decide) ?_
    k_steps
    refine ⟨?_⟩
    refine str_addS (Nat.le_of_ble_eq_true rfl) ?_
    intro _ _
    k_steps
    refine ⟨?_⟩
    refine str_iaddS (Nat.le_trans (Nat.add_le_add_right (rowTo_len _ _) _) (Nat.le_of_ble_eq_true rfl)) ?_
    intro _ _
    k_steps
    refine ⟨?_⟩
    refine str_at ifm_b.1 (by rw [h4]; exact ifm_b.2) (by rw [h4]; decide) ?_
    k_steps
    refine ⟨?_⟩
    refine str_iaddS (by rw [List.length_append]; exact Nat.le_trans (Nat.add_le_add_right (Nat.add_le_add_right (rowTo_len _ _) _) _) (Nat.le_of_ble_eq_true rfl)) ?_
    intro _ _
    k_steps
    rename_i FX NX
    exact hQ1 _ _ (te_end FX NX hI ⟨_, rfl, rfl, (if_pos rfl).trans (congrArg (fun z => some (Value.str (mkS z) _)) ((row_step _ _ _ _ _).trans hs))⟩)
  case done => 
    intro m₁ news₁ h tk z0H F1 N1
    refine hide fun kH => ?_
    obtain ⟨tt, rfl, e1, e2⟩ := z0H
    refine kH ?_
    clear kH
    have F2 := fr_see [(Str.ofString "text", .str (mkS (rowTo v 3)) tt)] F1 (List.forall_mem_cons.mpr ⟨e2, fun _ h => nomatch h⟩)
    dsimp only [kstB] at F2
    clear F1
    k_steps
    rename_i F9 N9 _ _
    exact hret _ _ _ _ ⟨⟨_, rfl⟩, rfl⟩ F9 (news_sub N9 hback)
end Mine

end
section
open PySem PySem.W PyProof.Rows PySem.Calls PyProof.Rows.LCg PyProof.Rows.LCt
set_option Elab.async false
set_option maxRecDepth 100000
namespace Mine
/-- How a turn of a comprehension ends. -/
noncomputable def CEnd (h₀ : Heap) (L : Addr) (m : Str → Option Value) (s₁ : Shared) (I : Addr) (oI : Obj) (C : Addr) (oC : Obj) (D : Addr) (oD : Obj) (J : Value → Led → Prop) (y : Value) (s₂ : Shared) : Prop :=
  ∃ h' tk nw, s₂ = { s₁ with heap := h', toks := tk } ∧ Fr h₀ L h' m ∧ News h₀ L h' ((I, oI) :: (C, oC) :: (D, oD) :: nw) ∧ (∀ p ∈ nw, p.1 ≠ I ∧ p.1 ≠ C ∧ p.1 ≠ D) ∧ J y nw
theorem ce_end {h₀ : Heap} {L : Addr} {m : Str → Option Value} {s₁ : Shared} {I : Addr} {oI : Obj} {C : Addr} {oC : Obj} {D : Addr} {oD : Obj} {J : Value → Led → Prop} {y : Value} {h' : Heap} {tk : Nat} {nw : Led} (F : Fr h₀ L h' m) (N : News h₀ L h' ((I, oI) :: (C, oC) :: (D, oD) :: nw)) (off : ∀ p ∈ nw, p.1 ≠ I ∧ p.1 ≠ C ∧ p.1 ≠ D) (j : J y nw) :
    CEnd h₀ L m s₁ I oI C oC D oD J y { s₁ with heap := h', toks := tk } := ⟨_, _, _, rfl, F, N, off, j⟩
theorem CEnd.to {h₀ : Heap} {L : Addr} {m : Str → Option Value} {s₁ : Shared} {I : Addr} {oI : Obj} {C : Addr} {oC : Obj} {D : Addr} {oD : Obj} {J K : Value → Led → Prop} {S : Led → Prop} {y : Value} {s₂ : Shared}
    (hS : ∀ y nw, J y nw → S nw) (hK : ∀ y nw, J y nw → K y nw) (c : CEnd h₀ L m s₁ I oI C oC D oD J y s₂) : CompEnd h₀ L m s₁ I oI C oC D oD S K y s₂ := by
  refine hide fun kH => ?_
  obtain ⟨h', tk, nw, e, F, N, off, j⟩ := c
  refine kH ?_
  clear kH
  exact ⟨h', tk, nw, e, F, N, Off3.of off, hS _ _ j, hK _ _ j⟩
theorem off1_mem {D : Addr} : ∀ {l : Led}, Off1 D l → ∀ p ∈ l, p.1 ≠ D
  | [], _, _, h => nomatch h
  | _ :: _, x, p, h => by
    rcases List.mem_cons.mp h with rfl | h
    · exact x.1
    · exact off1_mem x.2 p h
theorem lst_eq (ys : List Value) : lst ys = listOf ys.toArray ys.length := rfl
section
variable {prog : Program} {w : World} {A : Around} {E : Value → Shared → Prop} {s : Shared} {h₀ : Heap} {L : Addr} {m : Str → Option Value} {env : Env} {elt ct : Expr} {x : Str} {scope : Scope} {cl : List (Str × Addr)}
theorem rest_J {S : Led → Prop} {P : Nat → Value → Prop} {Fin : List Value → Led → Prop} {n : Nat} (J : Nat → List Value → Led → Prop) (hS : ∀ i ys nw, J i ys nw → S nw)
    (turn : ∀ i v I oI C oC D m₂ h tk E' ys nw, i < n → P i v → J i ys nw → NsObj oC m₂ → m₂ x = some v → Fr h₀ L h m → News h₀ L h ((I, oI) :: (C, oC) :: (D, lst ys) :: nw) → (∀ p ∈ nw, p.1 ≠ I ∧ p.1 ≠ C ∧ p.1 ≠ D) → I ≠ C → I ≠ D → C ≠ D →
      wpAny (model prog w) A (eval elt (compEnvC scope cl C env)) (CEnd h₀ L m { s with heap := h, toks := tk } I oI C oC D (lst ys) (fun y nw' => J (i + 1) (ys ++ [y]) nw')) E' { s with heap := h, toks := tk })
    (done : ∀ ys nw, J n ys nw → Fin ys nw) : ∀ k i ys nw, i + k = n → J i ys nw → CompRest prog w A h₀ L m env elt x scope cl s S P Fin k i ys nw := by
  intro k
  induction k with
  | zero => intro i ys nw e j; exact done _ _ (by rw [← e]; exact j)
  | succ k ih =>
    intro i ys nw e j
    refine CompRest.succ fun v I oI C oC D m₂ h tk E' hP hC hx F N off ne => ?_
    refine wpAny_mono (turn i v I oI C oC D m₂ h tk E' ys nw (by lia) hP j hC hx F N off.mem ne.1 ne.2.1 ne.2.2) (fun y s₂ c => ?_) fun _ _ e => e
    exact c.to (fun _ _ j => hS _ _ _ j) fun y nw' j' => ih (i + 1) _ _ (by lia) j'
theorem restT_J {S : Led → Prop} {P : Nat → Value → Prop} {Fin : List Value → Led → Prop} {n : Nat} (J : Nat → List Value → Led → Prop) (hS : ∀ i ys nw, J i ys nw → S nw)
    (turn : ∀ i v I oI C oC D m₂ h tk E' ys nw, i < n → P i v → J i ys nw → NsObj oC m₂ → m₂ x = some v → Fr h₀ L h m → News h₀ L h ((I, oI) :: (C, oC) :: (D, lst ys) :: nw) → (∀ p ∈ nw, p.1 ≠ I ∧ p.1 ≠ C ∧ p.1 ≠ D) → I ≠ C → I ≠ D → C ≠ D →
      wpAny (model prog w) A (isTrue ct (compEnvC scope cl C env) (eval ct (compEnvC scope cl C env))) (fun ok s' => if ok = true then
        wpAny (model prog w) A (eval elt (compEnvC scope cl C env)) (CEnd h₀ L m { s with heap := h, toks := tk } I oI C oC D (lst ys) (fun y nw' => J (i + 1) (ys ++ [y]) nw')) E' s'
        else CEnd h₀ L m { s with heap := h, toks := tk } I oI C oC D (lst ys) (fun _ nw' => J (i + 1) ys nw') Value.none s') E' { s with heap := h, toks := tk })
    (done : ∀ ys nw, J n ys nw → Fin ys nw) : ∀ k i ys nw, i + k = n → J i ys nw → CompRestT prog w A h₀ L m env ct elt x scope cl s S P Fin k i ys nw := by
  intro k
  induction k with
  | zero => intro i ys nw e j; exact done _ _ (by rw [← e]; exact j)
  | succ k ih =>
    intro i ys nw e j
    refine CompRestT.succ fun v I oI C oC D m₂ h tk E' hP hC hx F N off ne => ?_
    refine wpAny_mono (turn i v I oI C oC D m₂ h tk E' ys nw (by lia) hP j hC hx F N off.mem ne.1 ne.2.1 ne.2.2) (fun ok s₂ c => ?_) fun _ _ e => e
    cases ok with
    | true =>
      simp only [if_true] at c ⊢
      exact wpAny_mono c (fun y s₃ c => c.to (fun _ _ j => hS _ _ _ j) fun y nw' j' => ih (i + 1) _ _ (by lia) j') fun _ _ e => e
    | false =>
      simp only [Bool.false_eq_true, if_false] at c ⊢
      exact c.to (fun _ _ j => hS _ _ _ j) fun y nw' j' => ih (i + 1) _ _ (by lia) j'
/-- over a list of the ledger -/
theorem src_led {Fin : Shared → List Value → Led → Prop} {ax : Addr} {vs : List Value} {k : Nat} {news : Led} {s₁ : Shared} (J : Nat → List Value → Led → Prop) (hJ : ∀ i ys nw, J i ys nw → (ax, listOf vs.toArray k) ∈ nw)
    (hh : A.handled = none) (F : Fr h₀ L s₁.heap m) (N : News h₀ L s₁.heap news) (hsz : vs.length ≤ 100000) (start : J 0 [] news)
    (turn : ∀ i v I oI C oC D m₂ h tk E' ys nw, vs[i]? = some v → J i ys nw → NsObj oC m₂ → m₂ x = some v → Fr h₀ L h m → News h₀ L h ((I, oI) :: (C, oC) :: (D, lst ys) :: nw) → (∀ p ∈ nw, p.1 ≠ I ∧ p.1 ≠ C ∧ p.1 ≠ D) → I ≠ C → I ≠ D → C ≠ D →
      wpAny (model prog w) A (eval elt (compEnvC scope cl C env)) (CEnd h₀ L m { s₁ with heap := h, toks := tk } I oI C oC D (lst ys) (fun y nw' => J (i + 1) (ys ++ [y]) nw')) E' { s₁ with heap := h, toks := tk })
    (done : ∀ g ys nw, J vs.length ys nw → Fin { s₁ with heap := g } ys nw) : CompSrc prog w A h₀ L m env elt x scope cl Fin (.ref ax) s₁ := by
  refine CompSrc.ledger (its := vs.toArray) hh F N (hJ _ _ _ start) (by rw [sizeLine_eq, List.size_toArray]; lia) fun g => ?_
  refine rest_J (s := { s₁ with heap := g }) J (fun i ys nw j => .inr ⟨_, hJ _ _ _ j, rfl, _, rfl⟩) (fun i v I oI C oC D m₂ h tk E' ys nw _ hP j hC hx F N off n1 n2 n3 => turn i v I oI C oC D m₂ h tk E' ys nw (by simpa using hP) j hC hx F N off n1 n2 n3) (fun ys nw j => done g ys nw (by simpa using j)) _ _ _ _ (by simp) start
theorem srcT_led {Fin : Shared → List Value → Led → Prop} {ax : Addr} {vs : List Value} {k : Nat} {news : Led} {s₁ : Shared} (J : Nat → List Value → Led → Prop) (hJ : ∀ i ys nw, J i ys nw → (ax, listOf vs.toArray k) ∈ nw)
    (hh : A.handled = none) (F : Fr h₀ L s₁.heap m) (N : News h₀ L s₁.heap news) (hsz : vs.length ≤ 100000) (start : J 0 [] news)
    (turn : ∀ i v I oI C oC D m₂ h tk E' ys nw, vs[i]? = some v → J i ys nw → NsObj oC m₂ → m₂ x = some v → Fr h₀ L h m → News h₀ L h ((I, oI) :: (C, oC) :: (D, lst ys) :: nw) → (∀ p ∈ nw, p.1 ≠ I ∧ p.1 ≠ C ∧ p.1 ≠ D) → I ≠ C → I ≠ D → C ≠ D →
      wpAny (model prog w) A (isTrue ct (compEnvC scope cl C env) (eval ct (compEnvC scope cl C env))) (fun ok s' => if ok = true then
        wpAny (model prog w) A (eval elt (compEnvC scope cl C env)) (CEnd h₀ L m { s₁ with heap := h, toks := tk } I oI C oC D (lst ys) (fun y nw' => J (i + 1) (ys ++ [y]) nw')) E' s'
        else CEnd h₀ L m { s₁ with heap := h, toks := tk } I oI C oC D (lst ys) (fun _ nw' => J (i + 1) ys nw') Value.none s') E' { s₁ with heap := h, toks := tk })
    (done : ∀ g ys nw, J vs.length ys nw → Fin { s₁ with heap := g } ys nw) : CompSrcT prog w A h₀ L m env ct elt x scope cl Fin (.ref ax) s₁ := by
  refine CompSrcT.ledger (its := vs.toArray) hh F N (hJ _ _ _ start) (by rw [sizeLine_eq, List.size_toArray]; lia) fun g => ?_
  refine restT_J (s := { s₁ with heap := g }) J (fun i ys nw j => .inr ⟨_, hJ _ _ _ j, rfl, _, rfl⟩) (fun i v I oI C oC D m₂ h tk E' ys nw _ hP j hC hx F N off n1 n2 n3 => turn i v I oI C oC D m₂ h tk E' ys nw (by simpa using hP) j hC hx F N off n1 n2 n3) (fun ys nw j => done g ys nw (by simpa using j)) _ _ _ _ (by simp) start
theorem srcT_range {Fin : Shared → List Value → Led → Prop} {r : Addr} {a b : Int} {t u v : Tok} {n : Nat} {news : Led} {s₁ : Shared} (J : Nat → List Value → Led → Prop)
    (hh : A.handled = none) (F : Fr h₀ L s₁.heap m) (N : News h₀ L s₁.heap news) (hr : IsRange s₁.heap r a b 1 t u v) (hsm : Builtin.Range.small a b 1 = true) (hn : Builtin.Range.rangeSize a b 1 = ((n : Nat) : Int)) (hsz : n ≤ 100000) (start : J 0 [] news)
    (turn : ∀ i t I oI C oC D m₂ h tk E' ys nw, i < n → J i ys nw → NsObj oC m₂ → m₂ x = some (.int (a + (i : Int)) t) → Fr h₀ L h m → News h₀ L h ((I, oI) :: (C, oC) :: (D, lst ys) :: nw) → (∀ p ∈ nw, p.1 ≠ I ∧ p.1 ≠ C ∧ p.1 ≠ D) → I ≠ C → I ≠ D → C ≠ D →
      wpAny (model prog w) A (isTrue ct (compEnvC scope cl C env) (eval ct (compEnvC scope cl C env))) (fun ok s' => if ok = true then
        wpAny (model prog w) A (eval elt (compEnvC scope cl C env)) (CEnd h₀ L m { s₁ with heap := h, toks := tk } I oI C oC D (lst ys) (fun y nw' => J (i + 1) (ys ++ [y]) nw')) E' s'
        else CEnd h₀ L m { s₁ with heap := h, toks := tk } I oI C oC D (lst ys) (fun _ nw' => J (i + 1) ys nw') Value.none s') E' { s₁ with heap := h, toks := tk })
    (done : ∀ g ys nw, J n ys nw → Fin { s₁ with heap := g } ys nw) : CompSrcT prog w A h₀ L m env ct elt x scope cl Fin (.ref r) s₁ := by
  refine CompSrcT.range hh F N hr hsm hn (by rw [sizeLine_eq]; lia) fun g => ?_
  refine restT_J (s := { s₁ with heap := g }) J (fun i ys nw j => trivial) (fun i v I oI C oC D m₂ h tk E' ys nw hi hP j hC hx F N off n1 n2 n3 => ?_) (fun ys nw j => done g ys nw j) _ _ _ _ (by lia) start
  refine hide fun kH => ?_
  obtain ⟨t, rfl⟩ := hP
  refine kH ?_
  clear kH
  exact turn i t I oI C oC D m₂ h tk E' ys nw hi j hC hx F N off n1 n2 n3
/-- over a list of the ledger, the ledger staying as it is -/
theorem src_ledC {Fin : Shared → List Value → Led → Prop} {ax : Addr} {vs : List Value} {k : Nat} {news : Led} {h₁ : Heap} {gn : Array GenState} {dr : Drawn} {tk₁ : Nat} {os : OsState} (J : Nat → List Value → Prop) (hm : (ax, listOf vs.toArray k) ∈ news)
    (hh : A.handled = none) (F : Fr h₀ L h₁ m) (N : News h₀ L h₁ news) (hsz : vs.length ≤ 100000) (start : J 0 [])
    (turn : ∀ i v I oI C oC D m₂ h tk E' ys Q', vs[i]? = some v → J i ys → NsObj oC m₂ → m₂ x = some v → Fr h₀ L h m → News h₀ L h ((I, oI) :: (C, oC) :: (D, lst ys) :: news) → (∀ p ∈ news, p.1 ≠ I ∧ p.1 ≠ C ∧ p.1 ≠ D) → I ≠ C → I ≠ D → C ≠ D →
      (∀ y h' tk', Fr h₀ L h' m → News h₀ L h' ((I, oI) :: (C, oC) :: (D, lst ys) :: news) → J (i + 1) (ys ++ [y]) → Q' y ⟨h', gn, dr, tk', os⟩) →
      wpAny (model prog w) A (eval elt (compEnvC scope cl C env)) Q' E' ⟨h, gn, dr, tk, os⟩)
    (done : ∀ g ys, J vs.length ys → Fin ⟨g, gn, dr, tk₁, os⟩ ys news) : CompSrc prog w A h₀ L m env elt x scope cl Fin (.ref ax) ⟨h₁, gn, dr, tk₁, os⟩ :=
  src_led (fun i ys nw => nw = news ∧ J i ys) (fun _ _ _ j => j.1 ▸ hm) hh F N hsz ⟨rfl, start⟩
    (fun i v I oI C oC D m₂ h tk E' ys nw hv j hC hx F N off n1 n2 n3 => by
      have e := j.1
      have N' := e ▸ N
      have off' := e ▸ off
      exact turn i v I oI C oC D m₂ h tk E' ys _ hv j.2 hC hx F N' off' n1 n2 n3 fun y h' tk' F' N' j' => ce_end F' N' off' ⟨rfl, j'⟩)
    (fun g ys nw j => j.1 ▸ done g ys j.2)
theorem srcT_ledC {Fin : Shared → List Value → Led → Prop} {ax : Addr} {vs : List Value} {k : Nat} {news : Led} {h₁ : Heap} {gn : Array GenState} {dr : Drawn} {tk₁ : Nat} {os : OsState} (J : Nat → List Value → Prop) (hm : (ax, listOf vs.toArray k) ∈ news)
    (hh : A.handled = none) (F : Fr h₀ L h₁ m) (N : News h₀ L h₁ news) (hsz : vs.length ≤ 100000) (start : J 0 [])
    (turn : ∀ i v I oI C oC D m₂ h tk E' ys Q' Q₂, vs[i]? = some v → J i ys → NsObj oC m₂ → m₂ x = some v → Fr h₀ L h m → News h₀ L h ((I, oI) :: (C, oC) :: (D, lst ys) :: news) → (∀ p ∈ news, p.1 ≠ I ∧ p.1 ≠ C ∧ p.1 ≠ D) → I ≠ C → I ≠ D → C ≠ D →
      (∀ y h' tk', Fr h₀ L h' m → News h₀ L h' ((I, oI) :: (C, oC) :: (D, lst ys) :: news) → J (i + 1) (ys ++ [y]) → Q' y ⟨h', gn, dr, tk', os⟩) →
      (∀ h' tk', Fr h₀ L h' m → News h₀ L h' ((I, oI) :: (C, oC) :: (D, lst ys) :: news) → J (i + 1) ys → Q₂ false ⟨h', gn, dr, tk', os⟩) →
      (∀ s', wpAny (model prog w) A (eval elt (compEnvC scope cl C env)) Q' E' s' → Q₂ true s') →
      wpAny (model prog w) A (isTrue ct (compEnvC scope cl C env) (eval ct (compEnvC scope cl C env))) Q₂ E' ⟨h, gn, dr, tk, os⟩)
    (done : ∀ g ys, J vs.length ys → Fin ⟨g, gn, dr, tk₁, os⟩ ys news) : CompSrcT prog w A h₀ L m env ct elt x scope cl Fin (.ref ax) ⟨h₁, gn, dr, tk₁, os⟩ :=
  srcT_led (fun i ys nw => nw = news ∧ J i ys) (fun _ _ _ j => j.1 ▸ hm) hh F N hsz ⟨rfl, start⟩
    (fun i v I oI C oC D m₂ h tk E' ys nw hv j hC hx F N off n1 n2 n3 => by
      have e := j.1
      have N' := e ▸ N
      have off' := e ▸ off
      exact turn i v I oI C oC D m₂ h tk E' ys (CEnd h₀ L m ⟨h, gn, dr, tk, os⟩ I oI C oC D (lst ys) fun y nw' => nw' = news ∧ J (i + 1) (ys ++ [y])) _ hv j.2 hC hx F N' off' n1 n2 n3 (fun y h' tk' F' N' j' => ce_end F' N' off' ⟨rfl, j'⟩) (fun h' tk' F' N' j' => (if_neg Bool.false_ne_true).mpr (ce_end F' N' off' ⟨rfl, j'⟩)) (fun s' q => (if_pos rfl).mpr q))
    (fun g ys nw j => j.1 ▸ done g ys j.2)
theorem srcT_rangeC {Fin : Shared → List Value → Led → Prop} {r : Addr} {a b : Int} {t u v : Tok} {n : Nat} {news : Led} {h₁ : Heap} {gn : Array GenState} {dr : Drawn} {tk₁ : Nat} {os : OsState} (J : Nat → List Value → Prop)
    (hh : A.handled = none) (F : Fr h₀ L h₁ m) (N : News h₀ L h₁ news) (hr : IsRange h₁ r a b 1 t u v) (hsm : Builtin.Range.small a b 1 = true) (hn : Builtin.Range.rangeSize a b 1 = ((n : Nat) : Int)) (hsz : n ≤ 100000) (start : J 0 [])
    (turn : ∀ i t I oI C oC D m₂ h tk E' ys Q' Q₂, i < n → J i ys → NsObj oC m₂ → m₂ x = some (.int (a + (i : Int)) t) → Fr h₀ L h m → News h₀ L h ((I, oI) :: (C, oC) :: (D, lst ys) :: news) → (∀ p ∈ news, p.1 ≠ I ∧ p.1 ≠ C ∧ p.1 ≠ D) → I ≠ C → I ≠ D → C ≠ D →
      (∀ y h' tk', Fr h₀ L h' m → News h₀ L h' ((I, oI) :: (C, oC) :: (D, lst ys) :: news) → J (i + 1) (ys ++ [y]) → Q' y ⟨h', gn, dr, tk', os⟩) →
      (∀ h' tk', Fr h₀ L h' m → News h₀ L h' ((I, oI) :: (C, oC) :: (D, lst ys) :: news) → J (i + 1) ys → Q₂ false ⟨h', gn, dr, tk', os⟩) →
      (∀ s', wpAny (model prog w) A (eval elt (compEnvC scope cl C env)) Q' E' s' → Q₂ true s') →
      wpAny (model prog w) A (isTrue ct (compEnvC scope cl C env) (eval ct (compEnvC scope cl C env))) Q₂ E' ⟨h, gn, dr, tk, os⟩)
    (done : ∀ g ys, J n ys → Fin ⟨g, gn, dr, tk₁, os⟩ ys news) : CompSrcT prog w A h₀ L m env ct elt x scope cl Fin (.ref r) ⟨h₁, gn, dr, tk₁, os⟩ :=
  srcT_range (fun i ys nw => nw = news ∧ J i ys) hh F N hr hsm hn hsz ⟨rfl, start⟩
    (fun i v I oI C oC D m₂ h tk E' ys nw hv j hC hx F N off n1 n2 n3 => by
      have e := j.1
      have N' := e ▸ N
      have off' := e ▸ off
      exact turn i v I oI C oC D m₂ h tk E' ys (CEnd h₀ L m ⟨h, gn, dr, tk, os⟩ I oI C oC D (lst ys) fun y nw' => nw' = news ∧ J (i + 1) (ys ++ [y])) _ hv j.2 hC hx F N' off' n1 n2 n3 (fun y h' tk' F' N' j' => ce_end F' N' off' ⟨rfl, j'⟩) (fun h' tk' F' N' j' => (if_neg Bool.false_ne_true).mpr (ce_end F' N' off' ⟨rfl, j'⟩)) (fun s' q => (if_pos rfl).mpr q))
    (fun g ys nw j => j.1 ▸ done g ys j.2)
end
end Mine

end
section
open PySem PySem.W PyProof.Rows in
theorem Mine.freshLL {prog : Program} {w : World} {A : Around} {env : Env} {E : Value → Shared → Prop} {Q : Flow → Shared → Prop} {s : Shared} (h : Q .next s) : wpAny (model prog w) A (execs [] env) Q E s := by w_top off; k_with_none; walk1; exact h
open PySem PySem.W PyProof.Rows PyProof.Rows.LCg PyProof.Rows.LCt
set_option Elab.async false
set_option maxRecDepth 100000
set_option maxHeartbeats 2000000
set_option pp.deepTerms false
set_option pp.deepTerms.threshold 6
namespace Mine
local macro_rules | `(tactic| walk_at "subscriptTail") => `(tactic| k_extra "subscriptTail")
local macro_rules | `(tactic| walk_at "subscriptTail Name Name str int") => `(tactic| k_extra "subscriptTail Name Name str int")
local macro_rules | `(tactic| walk_at "CompSrc") => `(tactic| k_extra "CompSrc")
local macro_rules | `(tactic| walk_at "call builtin:list.extend") => `(tactic| k_extra "call builtin:list.extend")
local macro_rules | `(tactic| walk_at "eval ListComp") => `(tactic| k_extra "eval ListComp")
local macro_rules | `(tactic| k_all) => `(tactic| assumption)
local macro_rules | `(tactic| walk_at "exec For Name Tuple cons nil") => `(tactic| k_extra "exec For Name Tuple cons nil")
local macro_rules | `(tactic| walk_at "call builtin:list.extend") => `(tactic| k_extra "call builtin:list.extend")
theorem extend_led {prog : Program} {w : World} {A : Around} {E : Value → Shared → Prop} {s : Shared} {h₀ : Heap} {L : Addr} {m : Str → Option Value} {R : Led} {P b : Addr} {vs us : List Value} {k n2 : Nat} {Q : Value → Shared → Prop}
    (F : Fr h₀ L s.heap m) (N : News h₀ L s.heap ((P, listOf vs.toArray k) :: R)) (hb : (b, listOf us.toArray n2) ∈ R) (hne : us ≠ []) (hR : ∀ p ∈ R, p.1 ≠ P) (hl : vs.length + us.length < 100000)
    (h : ∀ h', Fr h₀ L h' m → News h₀ L h' ((P, listOf (vs ++ us).toArray (k + 1)) :: R) → Q .none { s with heap := h' }) :
    wpAny (model prog w) A (call (.builtin "list.extend") [.ref P, .ref b]) Q E s := by
  refine kl_extend (l := vs ++ us) F N (.tail _ hb) (by simp) (by simpa using hne) (Upd.head hR) (extend_door (by simp [sizeLine_eq]; lia)) (by simp [sizeLine_eq]; lia) (by simp [sizeLine_eq]; lia) h
noncomputable def spots : List Nat := [7, 4, 1]
noncomputable def inS (x : String) (c : Nat) : Bool := decide (c ∈ (Str.ofString x).cps.toList)
theorem inS_occ (x : String) (c : Nat) : (!(Builtin.Str.occurrences (Str.ofString x) (mkS [c]) 0 (Str.ofString x).length 1).isEmpty) = inS x c := StrLaws.found_one _ _
/-- what three signs of the row tell -/
noncomputable def tell (l : List Nat) (sp : Nat) : List Bool := [inS "xst" (chAt (mkS l) ((sp : Int) + 2)), mkS [chAt (mkS l) ((sp : Int) + 1)] == Str.ofString "w", mkS [chAt (mkS l) (sp : Int)] == Str.ofString "r"]
noncomputable def tellTo (l : List Nat) (i : Nat) : List Bool := (spots.take i).flatMap (tell l)
noncomputable def tell2 (l : List Nat) : List Bool := [inS "tT" (chAt (mkS l) 9), inS "sS" (chAt (mkS l) 6), inS "sS" (chAt (mkS l) 3)]
noncomputable def b2i (b : Bool) : Int := if b then 1 else 0
/-- what _law_letters gives -/
noncomputable def lettersOf (l : List Nat) : List Int := (tellTo l 3 ++ tell2 l).map b2i
theorem ints_snoc {vs : List Value} {ns : List Int} (h : IntsAre vs ns) (n : Int) (t : Tok) : IntsAre (vs ++ [.int n t]) (ns ++ [n]) := by
  induction h with
  | nil => exact .cons n t .nil
  | cons z u _ ih => exact .cons z u ih
theorem take_snoc {α : Type} {l : List α} {i : Nat} {x : α} (h : l[i]? = some x) : l.take (i + 1) = l.take i ++ [x] := by
  rw [List.take_add_one, h]; rfl
theorem map_at {α β : Type} {f : α → β} {l : List α} {i : Nat} {v : β} (h : (l.map f)[i]? = some v) : ∃ b, l[i]? = some b ∧ v = f b := by
  rw [List.getElem?_map] at h
  cases hq : l[i]? with
  | none => rw [hq] at h; cases h
  | some b => rw [hq] at h; exact ⟨b, rfl, (Option.some.inj h).symm⟩
theorem tellTo_len (l : List Nat) (i : Nat) : (tellTo l i).length ≤ 9 := by
  match i with
  | 0 => exact Nat.zero_le _
  | 1 => exact (by decide : 3 ≤ 9)
  | 2 => exact (by decide : 6 ≤ 9)
  | n + 3 => 
    have : tellTo l (n + 3) = tellTo l 3 := by simp [tellTo, spots]
    rw [this]; exact (by decide : 9 ≤ 9)
theorem tell_at (l : List Nat) {t7 t4 t1 : Tok} {i : Nat} {x : Value} (hi : i < 3) (hx : #[Value.int 7 t7, .int 4 t4, .int 1 t1][i]? = some x) : ∃ sp u, x = .int ((sp : Nat) : Int) u ∧ sp ≤ 7 ∧ tellTo l (i + 1) = tellTo l i ++ tell l sp := by
  match i, hi, hx with
  | 0, _, hx => exact ⟨7, _, (Option.some.inj hx).symm, by decide, by simp [tellTo, spots]⟩
  | 1, _, hx => exact ⟨4, _, (Option.some.inj hx).symm, by decide, by simp [tellTo, spots]⟩
  | 2, _, hx => exact ⟨1, _, (Option.some.inj hx).symm, by decide, by simp [tellTo, spots]⟩
theorem tup_var {h₀ h : Heap} {L D : Addr} {its : Array Value} {R : Led} (N : News h₀ L h ((D, { cls := .type "tuple", data := .seq its }) :: R)) : ∃ o : Obj, (o.cls = .type "tuple" ∧ ∃ n, o.data = .seq its n) ∧ News h₀ L h ((D, o) :: R) := ⟨_, ⟨rfl, _, rfl⟩, N⟩
inductive TInv (l : List Nat) (t : Tok) (P D : Addr) (oD : Obj) (rest : Led) (i : Nat) (m : Str → Option Value) (nw : Led) : Prop
  | mk (k : Nat) (hn : nw = (D, oD) :: (P, listOf ((tellTo l i).map Value.bool).toArray k) :: rest) (m1 : m (Str.ofString "row") = some (.str (mkS l) t)) (m2 : m (Str.ofString "there") = some (.ref P))
theorem letters_does (w : World) (l : List Nat) (hl : l.length = 10) (t : Tok) (rest : Led) :
    Does w 122 [.str (mkS l) t] 1 rest (fun r news' => ∃ D vs k, r = .ref D ∧ IntsAre vs (lettersOf l) ∧ news' = (D, listOf vs.toArray k) :: rest ∧ ∀ p ∈ rest, p.1 ≠ D) := by
  unfold Does
  have := lawRef
  revert this
  k_fill
  intro _
  intro p loose mean mg mb dp un gd cn cs a ccd cl outer A₀ base h₀ L m s Q E B F X N T C1 C2 hck hdp hun hret
  k_with_none
  k_with "eval Name" => (k_here; k_dflt (refine' nameX_L2 ?F ?_ ?v ?a ?b; (case F => k_asm); (case a => exact rfl); (case b => exact rfl); (case v => exact rfl); k_whole))
  k_with "exec For Name Tuple cons nil" => (with_reducible refine stop_here ?_)
  k_with "subscriptTail" => (with_reducible refine stop_here ?_)
  k_with "call builtin:list.extend" => (with_reducible refine stop_here ?_)
  k_with "subscriptTail Name Name str int" => (with_reducible refine stop_here ?_)
  k_with "CompSrc" => (with_reducible refine stop_here ?_)
  k_with "eval ListComp" => (with_reducible refine stop_here ?_)
  refine wpAny_call ?_
  k_dflt cell_enter
  k_steps
  refine ⟨?_⟩
  k_dflt (refine wpAny_For ?_)
  k_with "pyIter ref" => (with_reducible refine stop_here ?_)
  k_steps
  refine ⟨?_⟩
  rename_i P _ hrP h1 D h2 FF NN l2
  refine hide fun kH => ?_
  obtain ⟨oD, hoD, NR⟩ := tup_var NN
  refine kH ?_
  clear kH NN
  refine for_tupL (ta := D) (TInv l t P D oD rest) rfl hoD (by rintro i m nw ⟨k, rfl, _⟩; exact .head _) FF NR ⟨0, rfl, rfl, if_pos rfl⟩ ?turn ?done (by passes_own) (.inr fun _ _ => rfl)
  case turn =>
    intro i x m₁ news₁ h tk I oI hx z0H hI F1 N1
    refine hide fun kH => ?_
    obtain ⟨k, rfl, e1, e2⟩ := z0H
    refine kH ?_
    clear kH
    have hi : i < 3 := by
      rcases Nat.lt_or_ge i 3 with h | h
      · exact h
      · rw [Array.getElem?_eq_none h] at hx; cases hx
    have F2 := fr_see [(Str.ofString "row", .str (mkS l) t), (Str.ofString "there", .ref P)] F1 (List.forall_mem_cons.mpr ⟨e1, List.forall_mem_cons.mpr ⟨e2, fun _ h => nomatch h⟩⟩)
    dsimp only [kstB] at F2
    clear F1
    refine hide fun kH => ?_
    obtain ⟨sp, u, rfl, hsp, hti⟩ := tell_at l hi hx
    refine kH ?_
    clear kH
    iterate 2 walk1
    refine absW fun Q1 hQ1 => ?_
    k_steps
    refine ⟨?_⟩
    refine str_at (by first | decide | exact Int.natCast_nonneg (sp + 2) | exact Int.natCast_nonneg (sp + 1) | exact Int.natCast_nonneg sp) (by rw [mkS_len2, hl]; first | decide | exact Int.ofNat_lt.mpr (Nat.lt_of_le_of_lt (Nat.add_le_add_right hsp 2) (by decide)) | exact Int.ofNat_lt.mpr (Nat.lt_of_le_of_lt (Nat.add_le_add_right hsp 1) (by decide)) | exact Int.ofNat_lt.mpr (Nat.lt_of_le_of_lt hsp (by decide))) (by rw [mkS_len2, hl]; decide) ?_
    k_steps
    refine ⟨?_⟩
    refine str_at (by first | decide | exact Int.natCast_nonneg (sp + 2) | exact Int.natCast_nonneg (sp + 1) | exact Int.natCast_nonneg sp) (by rw [mkS_len2, hl]; first | decide | exact Int.ofNat_lt.mpr (Nat.lt_of_le_of_lt (Nat.add_le_add_right hsp 2) (by decide)) | exact Int.ofNat_lt.mpr (Nat.lt_of_le_of_lt (Nat.add_le_add_right hsp 1) (by decide)) | exact Int.ofNat_lt.mpr (Nat.lt_of_le_of_lt hsp (by decide))) (by rw [mkS_len2, hl]; decide) ?_
    k_steps
    refine ⟨?_⟩
    refine str_at (by first | decide | exact Int.natCast_nonneg (sp + 2) | exact Int.natCast_nonneg (sp + 1) | exact Int.natCast_nonneg sp) (by rw [mkS_len2, hl]; first | decide | exact Int.ofNat_lt.mpr (Nat.lt_of_le_of_lt (Nat.add_le_add_right hsp 2) (by decide)) | exact Int.ofNat_lt.mpr (Nat.lt_of_le_of_lt (Nat.add_le_add_right hsp 1) (by decide)) | exact Int.ofNat_lt.mpr (Nat.lt_of_le_of_lt hsp (by decide))) (by rw [mkS_len2, hl]; decide) ?_
    k_steps
    refine ⟨?_⟩
    rename_i U hU FU NU lU
    simp only [inS_occ] at NU
    refine extend_led (us := (tell l sp).map Value.bool) (n2 := 0) FU (news_front [_, _, _] NU) (.head _) (by simp [tell]) ?hne (by rw [List.length_map, List.length_map]; exact Nat.lt_of_le_of_lt (Nat.add_le_add_right (tellTo_len l i) 3) (by decide)) ?_
    case hne => exact off_cons (Nat.ne_of_gt lU.2.2.1) (off_cons (Ne.symm (hI _ (.tail _ (.head _)))) (off_cons (Nat.ne_of_gt l2.1) fun p hp => Nat.ne_of_lt (hrP p hp)))
    intro hA FA NA
    k_steps
    refine hQ1 _ _ ?_
    dsimp only [TurnEnd]
    rw [← List.map_append, ← hti] at NA
    refine te_end (Q := fun _ _ => True) (nw := (D, _) :: (P, listOf ((tellTo l (i + 1)).map Value.bool).toArray (k + 1)) :: rest) FA (news_sub NA ?_) ?_ ⟨k + 1, rfl, rfl, rfl⟩
    · intro p hp
      simp only [List.mem_cons, List.mem_append, List.not_mem_nil, or_false] at hp ⊢
      rcases hp with h | h | h | h <;> simp [h]
    · exact off_cons (hI _ (.head _)) (off_cons (hI (P, listOf ((tellTo l i).map Value.bool).toArray k) (.tail _ (.head _))) fun p hp => hI p (.tail _ (.tail _ hp)))
  case done =>
    intro m₁ news₁ h tk z0H F1 N1
    refine hide fun kH => ?_
    obtain ⟨k, rfl, e1, e2⟩ := z0H
    refine kH ?_
    clear kH
    have F2 := fr_see [(Str.ofString "row", .str (mkS l) t), (Str.ofString "there", .ref P)] F1 (List.forall_mem_cons.mpr ⟨e1, List.forall_mem_cons.mpr ⟨e2, fun _ h => nomatch h⟩⟩)
    dsimp only [kstB] at F2
    clear F1
    k_steps
    refine ⟨?_⟩
    refine str_at (by first | decide | exact Int.natCast_nonneg (sp + 2) | exact Int.natCast_nonneg (sp + 1) | exact Int.natCast_nonneg sp) (by rw [mkS_len2, hl]; first | decide | exact Int.ofNat_lt.mpr (Nat.lt_of_le_of_lt (Nat.add_le_add_right hsp 2) (by decide)) | exact Int.ofNat_lt.mpr (Nat.lt_of_le_of_lt (Nat.add_le_add_right hsp 1) (by decide)) | exact Int.ofNat_lt.mpr (Nat.lt_of_le_of_lt hsp (by decide))) (by rw [mkS_len2, hl]; decide) ?_
    k_steps
    refine ⟨?_⟩
    refine str_at (by first | decide | exact Int.natCast_nonneg (sp + 2) | exact Int.natCast_nonneg (sp + 1) | exact Int.natCast_nonneg sp) (by rw [mkS_len2, hl]; first | decide | exact Int.ofNat_lt.mpr (Nat.lt_of_le_of_lt (Nat.add_le_add_right hsp 2) (by decide)) | exact Int.ofNat_lt.mpr (Nat.lt_of_le_of_lt (Nat.add_le_add_right hsp 1) (by decide)) | exact Int.ofNat_lt.mpr (Nat.lt_of_le_of_lt hsp (by decide))) (by rw [mkS_len2, hl]; decide) ?_
    k_steps
    refine ⟨?_⟩
    refine str_at (by first | decide | exact Int.natCast_nonneg (sp + 2) | exact Int.natCast_nonneg (sp + 1) | exact Int.natCast_nonneg sp) (by rw [mkS_len2, hl]; first | decide | exact Int.ofNat_lt.mpr (Nat.lt_of_le_of_lt (Nat.add_le_add_right hsp 2) (by decide)) | exact Int.ofNat_lt.mpr (Nat.lt_of_le_of_lt (Nat.add_le_add_right hsp 1) (by decide)) | exact Int.ofNat_lt.mpr (Nat.lt_of_le_of_lt hsp (by decide))) (by rw [mkS_len2, hl]; decide) ?_
    k_steps
    refine ⟨?_⟩
    rename_i U hU FU NU lU
    simp only [inS_occ] at NU
    refine extend_led (us := (tell2 l).map Value.bool) (n2 := 0) FU (news_front [_, _] NU) (.head _) (by simp [tell2]) ?hne (by rw [List.length_map, List.length_map]; exact Nat.lt_of_le_of_lt (Nat.add_le_add_right (tellTo_len l 3) 3) (by decide)) ?_
    case hne => exact off_cons (Nat.ne_of_gt lU.2.1) (off_cons (Nat.ne_of_gt l2.1) fun p hp => Nat.ne_of_lt (hrP p hp))
    intro hA FA NA
    rw [← List.map_append] at NA
    k_steps
    refine ⟨?_⟩
    k_dflt (refine ListComp_U (F₀ := FA) (by rfl) (by decide) (by rfl) (by decide) (by rfl) ?_)
    k_steps
    refine ⟨?_⟩
    refine src_ledC (fun i ys => IntsAre ys (((tellTo l 3 ++ tell2 l).take i).map b2i)) (.head _) rfl FA NA (by rw [List.length_map, List.length_append]; exact Nat.le_trans (Nat.add_le_add_right (tellTo_len l 3) 3) (by decide)) .nil ?turn ?done
    case turn =>
      intro i v I oI C oC D2 m₂ h3 tk3 E' ys Qturn hv hys hC hm F3 N3 off n1 n2 n3 hQturn
      refine hide fun kH => ?_
      obtain ⟨b, hb, rfl⟩ := map_at hv
      refine kH ?_
      clear kH
      have hts : (tellTo l 3 ++ tell2 l).take (i + 1) = (tellTo l 3 ++ tell2 l).take i ++ [b] := take_snoc hb
      cases b with
      | true =>
        k_steps
        refine hQturn _ _ _ F3 N3 ?_
        try dsimp only
        rw [hts, List.map_append]
        exact ints_snoc hys 1 _
      | false =>
        k_steps
        refine hQturn _ _ _ F3 N3 ?_
        try dsimp only
        rw [hts, List.map_append]
        exact ints_snoc hys 0 _
    case done =>
      intro g ys hys D2 h3 tk3 F3 N3 o1
      rw [List.take_of_length_le (by simp)] at hys
      k_steps
      rename_i F9 N9 _ _
      refine hret _ _ _ _ ⟨D2, ys, ys.length, rfl, hys, rfl, fun p hp => off1_mem o1 p (.tail _ (.tail _ (.tail _ hp)))⟩ F9 (news_sub N9 ?_)
      exact fun p hp => by
        rcases List.mem_cons.mp hp with h | h
        · exact h ▸ .head _
        · exact .tail _ (.tail _ (.tail _ (.tail _ h)))
end Mine

end
section
open PySem PySem.W PyProof.Rows PyProof.V PySem.Spec PySem.SeqAt
set_option Elab.async false
set_option maxRecDepth 100000
namespace Mine
/-- a list of lists of ints on the ledger -/
inductive RowsAre (nw : Led) : List Value → List (List Int) → Prop
  | nil : RowsAre nw [] []
  | cons {a : Addr} {us vs : List Value} {k : Nat} {ns : List Int} {nss : List (List Int)} : (a, listOf us.toArray k) ∈ nw → IntsAre us ns → RowsAre nw vs nss → RowsAre nw (.ref a :: vs) (ns :: nss)
theorem RowsAre.mono {nw nw' : Led} {vs : List Value} {nss : List (List Int)} (h : RowsAre nw vs nss) (hs : ∀ p ∈ nw, p ∈ nw') : RowsAre nw' vs nss := by
  induction h with
  | nil => exact .nil
  | cons hm hi _ ih => exact .cons (hs _ hm) hi ih
theorem RowsAre.length {nw : Led} {vs : List Value} {nss : List (List Int)} (h : RowsAre nw vs nss) : vs.length = nss.length := by
  induction h with
  | nil => rfl
  | cons _ _ _ ih => simp [ih]
theorem RowsAre.snoc {nw : Led} {vs : List Value} {nss : List (List Int)} (h : RowsAre nw vs nss) {a : Addr} {us : List Value} {k : Nat} {ns : List Int} (hm : (a, listOf us.toArray k) ∈ nw) (hi : IntsAre us ns) : RowsAre nw (vs ++ [.ref a]) (nss ++ [ns]) := by
  induction h with
  | nil => exact .cons hm hi .nil
  | cons hm' hi' _ ih => exact .cons hm' hi' ih
theorem RowsAre.at {nw : Led} {vs : List Value} {nss : List (List Int)} (h : RowsAre nw vs nss) {i : Nat} {v : Value} (hv : vs[i]? = some v) : ∃ (a : Addr) (us : List Value) (k : Nat) (ns : List Int), v = .ref a ∧ (a, listOf us.toArray k) ∈ nw ∧ IntsAre us ns ∧ nss[i]? = some ns := by
  induction h generalizing i with
  | nil => simp at hv
  | @cons a us vs k ns nss hm hi _ ih =>
    cases i with
    | zero => simp at hv; exact ⟨a, us, k, ns, hv.symm, hm, hi, rfl⟩
    | succ i => simp at hv; simpa using ih hv
theorem ints_at {vs : List Value} {ns : List Int} (h : IntsAre vs ns) {i : Nat} {v : Value} (hv : vs[i]? = some v) : ∃ n t, v = .int n t ∧ ns[i]? = some n := by
  induction h generalizing i with
  | nil => simp at hv
  | cons n t _ ih =>
    cases i with
    | zero => simp at hv; exact ⟨n, t, hv.symm, rfl⟩
    | succ i => simp at hv; simpa using ih hv
theorem strs_at {vs : List Value} {xs : List Str} (h : StrsAre vs xs) {i : Nat} {v : Value} (hv : vs[i]? = some v) : ∃ x t, v = .str x t ∧ xs[i]? = some x := by
  induction h generalizing i with
  | nil => simp at hv
  | cons n t _ ih =>
    cases i with
    | zero => simp at hv; exact ⟨n, t, hv.symm, rfl⟩
    | succ i => simp at hv; simpa using ih hv
theorem readsAll_strs {h : Heap} {vs : List Value} {xs : List Str} (a : StrsAre vs xs) : ReadsAll h vs (xs.map PyData.str) [] := by
  induction a with
  | nil => exact .nil
  | cons x t _ ih =>
    have := ReadsAll.cons (Reads.str (h := h) x t) ih
    simpa using this
theorem readsAll_rows {h₀ h : Heap} {L : Addr} {nw : Led} (N : News h₀ L h nw) {vs : List Value} {nss : List (List Int)} (a : RowsAre nw vs nss) : ∃ as, ReadsAll h vs (nss.map fun ns => PyData.list (ns.map PyData.int)) as := by
  induction a with
  | nil => exact ⟨_, .nil⟩
  | cons hm hi _ ih =>
    refine hide fun kH => ?_
    obtain ⟨as, ih⟩ := ih
    refine kH ?_
    clear kH
    exact ⟨_, ReadsAll.cons (reads_of_ints ⟨_, (N _ hm).1, rfl, _, rfl⟩ hi) ih⟩
theorem canLayAll0_strs : ∀ xs : List Str, (∀ x ∈ xs, PyData.strOk x = true) → PyData.canLayAll0 (xs.map PyData.str) = true
  | [], _ => by simp [PyData.canLayAll0]
  | n :: r, h => by simp [PyData.canLayAll0, PyData.canLay0, canLayAll0_strs r fun x hx => h x (.tail _ hx), h n (.head _)]
theorem depthAll_strs : ∀ xs : List Str, PyData.depthAll (xs.map PyData.str) ≤ 1
  | [] => by simp [PyData.depthAll]
  | n :: r => by
    have := depthAll_strs r
    simp only [List.map_cons, PyData.depthAll, PyData.depth]
    lia
theorem shaped_strs (xs : List Str) (hok : ∀ x ∈ xs, PyData.strOk x = true) : shaped (.list (xs.map PyData.str)) = true := by
  have h1 := depthAll_strs xs
  have h2 : PyData.depth (.list (xs.map PyData.str)) ≤ 64 := by simp only [PyData.depth]; lia
  show (PyData.canLay0 (.list (xs.map PyData.str)) && decide (PyData.depth (.list (xs.map PyData.str)) ≤ 64)) = true
  rw [Bool.and_eq_true]
  exact ⟨by simp only [PyData.canLay0]; exact canLayAll0_strs xs hok, decide_eq_true h2⟩
theorem canLayAll0_rows : ∀ xs : List (List Int), PyData.canLayAll0 (xs.map fun ns => PyData.list (ns.map PyData.int)) = true
  | [] => by simp [PyData.canLayAll0]
  | n :: r => by simp [PyData.canLayAll0, PyData.canLay0, canLayAll0_rows r, canLayAll0_ints]
theorem depthAll_rows : ∀ xs : List (List Int), PyData.depthAll (xs.map fun ns => PyData.list (ns.map PyData.int)) ≤ 3
  | [] => by simp [PyData.depthAll]
  | n :: r => by
    have := depthAll_rows r
    have := W.depthAll_ints n
    simp only [List.map_cons, PyData.depthAll, PyData.depth]
    lia
theorem shaped_rows (xs : List (List Int)) : shaped (.list (xs.map fun ns => PyData.list (ns.map PyData.int))) = true := by
  have h1 := depthAll_rows xs
  have h2 : PyData.depth (.list (xs.map fun ns => PyData.list (ns.map PyData.int))) ≤ 64 := by simp only [PyData.depth]; lia
  show (PyData.canLay0 (.list (xs.map fun ns => PyData.list (ns.map PyData.int))) && decide (PyData.depth (.list (xs.map fun ns => PyData.list (ns.map PyData.int))) ≤ 64)) = true
  rw [Bool.and_eq_true]
  exact ⟨by simp only [PyData.canLay0]; exact canLayAll0_rows xs, decide_eq_true h2⟩
theorem eqv_ints : ∀ ns ms : List Int, PyData.eqvAll (ns.map PyData.int) (ms.map PyData.int) = decide (ns = ms) := ked_eqvAll
theorem eqv_strs : ∀ ns ms : List Str, PyData.eqvAll (ns.map PyData.str) (ms.map PyData.str) = decide (ns = ms)
  | [], [] => by simp [PyData.eqvAll]
  | [], _ :: _ => by simp [PyData.eqvAll]
  | _ :: _, [] => by simp [PyData.eqvAll]
  | a :: r, b :: t => by
    simp only [List.map_cons, PyData.eqvAll, PyData.eqv, eqv_strs r t]
    by_cases h : a = b <;> by_cases h' : r = t <;> simp [h, h']
theorem eqv_rows : ∀ ns ms : List (List Int), PyData.eqvAll (ns.map fun ns => PyData.list (ns.map PyData.int)) (ms.map fun ns => PyData.list (ns.map PyData.int)) = decide (ns = ms)
  | [], [] => by simp [PyData.eqvAll]
  | [], _ :: _ => by simp [PyData.eqvAll]
  | _ :: _, [] => by simp [PyData.eqvAll]
  | a :: r, b :: t => by
    simp only [List.map_cons, PyData.eqvAll, PyData.eqv, eqv_rows r t, eqv_ints]
    by_cases h : a = b <;> by_cases h' : r = t <;> simp [h, h']
section
variable {prog : Program} {w : World} {A : Around} {E : Value → Shared → Prop} {s : Shared} {h₀ : Heap} {L : Addr} {news : Led} {a b : Addr} {vs us : List Value} {k l : Nat} {Q : Value → Shared → Prop}
theorem eqI_led {ns ms : List Int} (N : News h₀ L s.heap news) (ha : (a, listOf vs.toArray k) ∈ news) (hi : IntsAre vs ns) (hb : (b, listOf us.toArray l) ∈ news) (hi' : IntsAre us ms) (hu : A.units + 64 < cLine)
    (h : Q (.bool (decide (ns = ms))) s) : wpAny (model prog w) A (compareOp .Eq (.ref a) (.ref b)) Q E s :=
  eq_intsK ⟨_, (N _ ha).1, rfl, _, rfl⟩ hi ⟨_, (N _ hb).1, rfl, _, rfl⟩ hi' hu h
theorem neI_led {ns ms : List Int} (N : News h₀ L s.heap news) (ha : (a, listOf vs.toArray k) ∈ news) (hi : IntsAre vs ns) (hb : (b, listOf us.toArray l) ∈ news) (hi' : IntsAre us ms) (hu : A.units + 64 < cLine)
    (h : Q (.bool (!decide (ns = ms))) s) : wpAny (model prog w) A (compareOp .NotEq (.ref a) (.ref b)) Q E s :=
  ne_intsK ⟨_, (N _ ha).1, rfl, _, rfl⟩ hi ⟨_, (N _ hb).1, rfl, _, rfl⟩ hi' hu h
theorem eqS_led {ns ms : List Str} (o1 : ∀ x ∈ ns, PyData.strOk x = true) (o2 : ∀ x ∈ ms, PyData.strOk x = true) (N : News h₀ L s.heap news) (ha : (a, listOf vs.toArray k) ∈ news) (hi : StrsAre vs ns) (hb : (b, listOf us.toArray l) ∈ news) (hi' : StrsAre us ms) (hu : A.units + 64 < cLine)
    (h : Q (.bool (decide (ns = ms))) s) : wpAny (model prog w) A (compareOp .Eq (.ref a) (.ref b)) Q E s :=
  eq_dataH (Reads.list (N _ ha).1 rfl rfl (by simpa using readsAll_strs hi)) (Reads.list (N _ hb).1 rfl rfl (by simpa using readsAll_strs hi')) (shaped_strs ns o1) (shaped_strs ms o2) hu (by simp only [PyData.eqv, eqv_strs]; exact h)
theorem neS_led {ns ms : List Str} (o1 : ∀ x ∈ ns, PyData.strOk x = true) (o2 : ∀ x ∈ ms, PyData.strOk x = true) (N : News h₀ L s.heap news) (ha : (a, listOf vs.toArray k) ∈ news) (hi : StrsAre vs ns) (hb : (b, listOf us.toArray l) ∈ news) (hi' : StrsAre us ms) (hu : A.units + 64 < cLine)
    (h : Q (.bool (!decide (ns = ms))) s) : wpAny (model prog w) A (compareOp .NotEq (.ref a) (.ref b)) Q E s :=
  ne_dataH (Reads.list (N _ ha).1 rfl rfl (by simpa using readsAll_strs hi)) (Reads.list (N _ hb).1 rfl rfl (by simpa using readsAll_strs hi')) (shaped_strs ns o1) (shaped_strs ms o2) hu (by simp only [PyData.eqv, eqv_strs]; exact h)
theorem neR_led {ns ms : List (List Int)} (N : News h₀ L s.heap news) (ha : (a, listOf vs.toArray k) ∈ news) (hi : RowsAre news vs ns) (hb : (b, listOf us.toArray l) ∈ news) (hi' : RowsAre news us ms) (hu : A.units + 64 < cLine)
    (h : Q (.bool (!decide (ns = ms))) s) : wpAny (model prog w) A (compareOp .NotEq (.ref a) (.ref b)) Q E s := by
  refine hide fun kH => ?_
  obtain ⟨_, r1⟩ := readsAll_rows N hi
  obtain ⟨_, r2⟩ := readsAll_rows N hi'
  refine kH ?_
  clear kH
  exact ne_dataH (Reads.list (N _ ha).1 rfl rfl (by simpa using r1)) (Reads.list (N _ hb).1 rfl rfl (by simpa using r2)) (shaped_rows ns) (shaped_rows ms) hu (by simp only [PyData.eqv, eqv_rows]; exact h)
end
end Mine

end
section
open PySem PySem.W PyProof.Rows in
theorem Mine.freshLW {prog : Program} {w : World} {A : Around} {env : Env} {E : Value → Shared → Prop} {Q : Flow → Shared → Prop} {s : Shared} (h : Q .next s) : wpAny (model prog w) A (execs [] env) Q E s := by w_top off; k_with_none; walk1; exact h
open PySem PySem.W PyProof.Rows PyProof.Rows.LCg PyProof.Rows.LCt
set_option Elab.async false
set_option maxRecDepth 100000
set_option maxHeartbeats 2000000
set_option pp.deepTerms false
set_option pp.deepTerms.threshold 6
namespace Mine
local macro_rules | `(tactic| walk_at "CompSrcT") => `(tactic| k_extra "CompSrcT")
local macro_rules | `(tactic| walk_at "eval ListComp") => `(tactic| k_extra "eval ListComp")
local macro_rules | `(tactic| walk_at "compareOp Eq ref ref") => `(tactic| k_extra "compareOp Eq ref ref")
local macro_rules | `(tactic| k_all) => `(tactic| assumption)
theorem whole_does (w : World) (D : Addr) (vs : List Value) (ns : List Int) (k : Nat) (rest : Led) (hm : (D, listOf vs.toArray k) ∈ rest) (hi : IntsAre vs ns) (hl : ns.length < 1000) :
    Does w 127 [.ref D] 20 rest (fun r news' => r = .bool true ∧ news' = rest) := by
  unfold Does
  have := lawRef
  revert this
  k_fill
  intro _
  intro p loose mean mg mb dp un gd cn cs a ccd cl outer A₀ base h₀ L m s Q E B F X N T C1 C2 hck hdp hun hret
  k_with_none
  k_with "eval Name" => (k_here; k_dflt (refine' nameX_L2 ?F ?_ ?v ?a ?b; (case F => k_asm); (case a => exact rfl); (case b => exact rfl); (case v => exact rfl); k_whole))
  k_with "CompSrcT" => (with_reducible refine stop_here ?_)
  k_with "compareOp Eq ref ref" => (with_reducible refine stop_here ?_)
  k_with "eval ListComp" => (with_reducible refine stop_here ?_)
  refine wpAny_call ?_
  k_dflt cell_enter
  k_steps
  refine ⟨?_⟩
  k_dflt (refine LCt.ListComp_T (F₀ := by k_asm) (by rfl) (by decide) (by rfl) (by decide) (by rfl) ?_)
  k_steps
  refine ⟨?_⟩
  refine srcT_ledC (vs := vs) (fun i ys => ys = []) hm (by rfl) (by k_asm) (by k_asm) (by rw [hi.length]; omega) rfl ?turn ?done
  case turn =>
    intro i v I oI C oC D2 m₂ h3 tk3 E' ys Q1 Q2 hv hys hC hm F3 N3 off n1 n2 n3 hQ1 hQ2 hQ3
    obtain ⟨z, t, rfl⟩ : ∃ z t, v = .int z t := let ⟨z, t, h, _⟩ := ints_at hi hv; ⟨z, t, h⟩
    k_steps
    exact hQ2 _ _ F3 N3 hys
  case done =>
    intro g ys z0H D2 h3 tk3 F3 N3 o1
    refine hide fun kH => ?_
    subst z0H
    refine kH ?_
    clear kH
    k_steps
    refine ⟨?_⟩
    rename_i lb hb Fb Nb lb1
    refine eqI_led (vs := []) (us := []) Nb (.tail _ (.head _)) .nil (.head _) .nil (by first | exact Nat.le_of_ble_eq_true rfl | ktr_units) ?_
    k_steps
    rename_i F9 N9 _ _
    exact hret _ _ _ _ ⟨rfl, rfl⟩ F9 (news_sub N9 fun p hp => .tail _ (.tail _ hp))
end Mine

end
section
set_option Elab.async false
namespace Mine
noncomputable def IsHeap (l : List Int) : Prop := ∀ k, 1 ≤ k → k < l.length → l.getD k 0 ≤ l.getD ((k - 1) / 2) 0
noncomputable def HeapFrom (l : List Int) (s : Nat) : Prop := ∀ k, 1 ≤ k → k < l.length → s ≤ (k - 1) / 2 → l.getD k 0 ≤ l.getD ((k - 1) / 2) 0
/-- a heap from s on, with a hole at p -/
noncomputable def Hole (l : List Int) (s p : Nat) : Prop := ∀ k, 1 ≤ k → k < l.length → s ≤ (k - 1) / 2 → (k ≠ p → (k - 1) / 2 ≠ p → l.getD k 0 ≤ l.getD ((k - 1) / 2) 0) ∧ ((k - 1) / 2 = p → 1 ≤ p → s ≤ (p - 1) / 2 → l.getD k 0 ≤ l.getD ((p - 1) / 2) 0)
inductive Under (s : Nat) : Nat → Prop
  | here : Under s s
  | down {p c : Nat} : Under s p → c = 2 * p + 1 ∨ c = 2 * p + 2 → Under s c
theorem par_child {c p : Nat} (h : c = 2 * p + 1 ∨ c = 2 * p + 2) : (c - 1) / 2 = p := by
  rcases h with rfl | rfl
  · rw [Nat.add_sub_cancel]; exact Nat.mul_div_cancel_left p (by decide)
  · show (2 * p + 1) / 2 = p
    rw [Nat.mul_add_div (by decide)]; rfl
theorem child_gt {c p : Nat} (h : c = 2 * p + 1 ∨ c = 2 * p + 2) : p < c := by
  rcases h with rfl | rfl
  · exact ch_gt p
  · exact Nat.lt_succ_of_lt (ch_gt p)
theorem par_of {k p : Nat} (h : 1 ≤ k) (e : (k - 1) / 2 = p) : k = 2 * p + 1 ∨ k = 2 * p + 2 := by lia
theorem Under.le {s p : Nat} (h : Under s p) : s ≤ p := by
  induction h with
  | here => exact Nat.le_refl _
  | down _ e ih => exact Nat.le_of_lt (Nat.lt_of_le_of_lt ih (child_gt e))
theorem Under.up {s p : Nat} (h : Under s p) (hlt : s < p) : Under s ((p - 1) / 2) := by
  cases h with
  | here => exact absurd hlt (Nat.lt_irrefl _)
  | @down q _ h e => rw [par_child e]; exact h
theorem getD_set (l : List Int) (i j : Nat) (a : Int) : (l.set i a).getD j 0 = if i = j ∧ i < l.length then a else l.getD j 0 := by
  rw [List.getD_eq_getElem?_getD, List.getD_eq_getElem?_getD, List.getElem?_set]
  by_cases h : i = j
  · subst h
    by_cases h2 : i < l.length
    · rw [if_pos rfl, if_pos h2, if_pos ⟨rfl, h2⟩]; rfl
    · rw [if_pos rfl, if_neg h2, if_neg fun c => h2 c.2, List.getElem?_eq_none (Nat.le_of_not_lt h2)]
  · rw [if_neg h, if_neg fun c => h c.1]
theorem getD_set_ne (l : List Int) {i j : Nat} (a : Int) (h : i ≠ j) : (l.set i a).getD j 0 = l.getD j 0 := by
  rw [getD_set, if_neg fun e => h e.1]
theorem getD_set_eq (l : List Int) {i : Nat} (a : Int) (h : i < l.length) : (l.set i a).getD i 0 = a := by
  rw [getD_set, if_pos ⟨rfl, h⟩]
theorem par_ne {k : Nat} (h : 1 ≤ k) : (k - 1) / 2 ≠ k := Nat.ne_of_lt (par_lt h)
theorem set_perm (l : List Int) (i : Nat) (a : Int) (h : i < l.length) : (l.getD i 0 :: l.set i a).Perm (a :: l) := by
  induction l generalizing i with
  | nil => simp at h
  | cons y t ih =>
    cases i with
    | zero => exact .swap ..
    | succ i =>
      have := ih i (by simpa using h)
      rw [List.getD_cons_succ, List.set_cons_succ]
      exact (List.Perm.swap ..).trans ((this.cons y).trans (.swap ..))
theorem swap_perm (l : List Int) (p c : Nat) (x : Int) (hne : p ≠ c) (hp : p < l.length) (hc : c < l.length) : ((l.set p (l.getD c 0)).set c x).Perm (l.set p x) := by
  have a1 := set_perm (l.set p (l.getD c 0)) c x (by simpa using hc)
  rw [getD_set_ne _ _ hne] at a1
  have a2 := set_perm l p (l.getD c 0) hp
  have a3 := set_perm l p x hp
  have b1 := (a1.cons (l.getD p 0)).trans ((List.Perm.swap ..).trans (a2.cons x))
  have b2 := b1.trans (List.Perm.swap ..)
  have b3 := b2.trans (a3.symm.cons (l.getD c 0))
  have b4 := b3.trans (List.Perm.swap ..)
  exact (List.perm_cons _).mp ((List.perm_cons _).mp b4)
theorem Hole.set {l : List Int} {s p : Nat} (h : Hole l s p) (a : Int) : Hole (l.set p a) s p := by
  intro k h1 h2 h3
  rw [List.length_set] at h2
  obtain ⟨g1, g2⟩ := h k h1 h2 h3
  refine ⟨fun n1 n2 => ?_, fun e1 e2 e3 => ?_⟩
  · rw [getD_set_ne _ _ (Ne.symm n1), getD_set_ne _ _ (Ne.symm n2)]; exact g1 n1 n2
  · rw [getD_set_ne _ _ (Nat.ne_of_lt (e1 ▸ par_lt h1)), getD_set_ne _ _ (par_ne e2).symm]; exact g2 e1 e2 e3
theorem big_or (xs : List Int) (c : Nat) : big xs c = c ∨ big xs c = c + 1 ∧ c + 1 < xs.length := by
  unfold big
  split
  · rename_i h; exact .inr ⟨rfl, h.1⟩
  · exact .inl rfl
theorem big_max (xs : List Int) (c k : Nat) (hk : k = c ∨ k = c + 1) (hl : k < xs.length) : xs.getD k 0 ≤ xs.getD (big xs c) 0 := by
  unfold big
  split
  · rename_i h
    rcases hk with rfl | rfl
    · exact Int.not_lt.mp h.2
    · exact Int.le_refl _
  · rename_i h
    rcases hk with rfl | rfl
    · exact Int.le_refl _
    · rcases Int.lt_or_le (xs.getD (c + 1) 0) (xs.getD c 0) with h2 | h2
      · exact Int.le_of_lt h2
      · exact absurd ⟨hl, Int.not_lt.mpr h2⟩ h
theorem sgo_ok (x : Int) (s : Nat) : ∀ (k : Nat) (l : List Int) (p : Nat), l.length - p = k → p < l.length → Hole l s p → Under s p →
    Hole (sgo l p).1 s (sgo l p).2 ∧ Under s (sgo l p).2 ∧ (sgo l p).2 < l.length ∧ ¬ 2 * (sgo l p).2 + 1 < l.length ∧ ((sgo l p).1.set (sgo l p).2 x).Perm (l.set p x) := by
  intro k
  induction k using Nat.strongRecOn with
  | _ k ih =>
    intro l p hk hp hH hU
    rw [sgo_eq]
    split
    · rename_i hc
      have b2 := big_lt l (2 * p + 1) hc
      have b3 : big l (2 * p + 1) = 2 * p + 1 ∨ big l (2 * p + 1) = 2 * p + 2 := (big_or l (2 * p + 1)).imp id And.left
      have bm := big_max l (2 * p + 1)
      generalize big l (2 * p + 1) = c at b2 b3 bm ⊢
      have hpc := child_gt b3
      have hcp := par_child b3
      have h1c : 1 ≤ c := Nat.lt_of_le_of_lt (Nat.zero_le _) hpc
      have hU' : Under s c := .down hU b3
      have hH' : Hole (l.set p (l.getD c 0)) s c := by
        intro k h1 h2 h3
        rw [List.length_set] at h2
        obtain ⟨g1, g2⟩ := hH k h1 h2 h3
        refine ⟨fun n1 n2 => ?_, fun e1 e2 e3 => ?_⟩
        · by_cases q1 : k = p
          · subst q1
            have hc2 := (hH c h1c b2 (by rw [hcp]; exact hU.le)).2 hcp h1 h3
            rw [getD_set_eq _ _ hp, getD_set_ne _ _ (par_ne h1).symm]
            exact hc2
          · by_cases q2 : (k - 1) / 2 = p
            · rw [getD_set_ne _ _ (Ne.symm q1), q2, getD_set_eq _ _ hp]
              exact bm k (par_of h1 q2) h2
            · rw [getD_set_ne _ _ (Ne.symm q1), getD_set_ne _ _ (Ne.symm q2)]
              exact g1 q1 q2
        · have hpk : p < k := Nat.lt_trans hpc (e1 ▸ par_lt h1)
          rw [hcp, getD_set_ne _ _ (Nat.ne_of_lt hpk), getD_set_eq _ _ hp]
          have := g1 (Nat.ne_of_gt hpk) (e1 ▸ Nat.ne_of_gt hpc)
          rw [e1] at this
          exact this
      obtain ⟨i1, i2, i3, i4, i5⟩ := ih (l.length - c) (hk ▸ up_lt hpc b2) (l.set p (l.getD c 0)) c (by rw [List.length_set]) (by rw [List.length_set]; exact b2) hH' hU'
      rw [List.length_set] at i3 i4
      exact ⟨i1, i2, i3, i4, i5.trans (swap_perm l p c x (Nat.ne_of_lt hpc) hp b2)⟩
    · rename_i hc
      exact ⟨hH, hU, hp, hc, .refl _⟩
theorem sdown_ok (x : Int) (s : Nat) : ∀ (p : Nat) (l : List Int), p < l.length → Hole l s p → Under s p → (∀ k, 1 ≤ k → k < l.length → (k - 1) / 2 = p → l.getD k 0 ≤ x) →
    HeapFrom (sdown l x s p) s ∧ (sdown l x s p).Perm (l.set p x) := by
  intro p
  induction p using Nat.strongRecOn with
  | _ p ih =>
    intro l hp hH hU hC
    rw [sdown_eq]
    split
    · rename_i hc
      have h1p : 1 ≤ p := Nat.lt_of_le_of_lt (Nat.zero_le _) hc.1
      have hUq := hU.up hc.1
      have hq := hUq.le
      have hql : (p - 1) / 2 < p := par_lt h1p
      generalize hqe : (p - 1) / 2 = q at hc hUq hq hql ⊢
      have qlen := Nat.lt_trans hql hp
      have hH' : Hole (l.set p (l.getD q 0)) s q := by
        intro k h1 h2 h3
        rw [List.length_set] at h2
        obtain ⟨g1, g2⟩ := hH k h1 h2 h3
        refine ⟨fun n1 n2 => ?_, fun e1 e2 e3 => ?_⟩
        · by_cases q1 : k = p
          · subst q1
            exact absurd hqe n2
          · by_cases q2 : (k - 1) / 2 = p
            · rw [getD_set_ne _ _ (Ne.symm q1), q2, getD_set_eq _ _ hp]
              have := g2 q2 h1p (hqe ▸ hq)
              rw [hqe] at this; exact this
            · rw [getD_set_ne _ _ (Ne.symm q1), getD_set_ne _ _ (Ne.symm q2)]
              exact g1 q1 q2
        · have hqp := Nat.lt_trans (par_lt e2) hql
          have gq := (hH q e2 qlen e3).1 (Nat.ne_of_lt hql) (Nat.ne_of_lt hqp)
          by_cases q1 : k = p
          · subst q1
            rw [getD_set_eq _ _ hp, getD_set_ne _ _ (Nat.ne_of_gt hqp)]
            exact gq
          · rw [getD_set_ne _ _ (Ne.symm q1), getD_set_ne _ _ (Nat.ne_of_gt hqp)]
            have := g1 q1 (e1 ▸ Nat.ne_of_lt hql)
            rw [e1] at this
            exact Int.le_trans this gq
      have hC' : ∀ k, 1 ≤ k → k < (l.set p (l.getD q 0)).length → (k - 1) / 2 = q → (l.set p (l.getD q 0)).getD k 0 ≤ x := by
        intro k h1 h2 h3
        rw [List.length_set] at h2
        rw [getD_set]
        split
        · exact Int.le_of_lt hc.2
        · rename_i hn
          have := (hH k h1 h2 (h3 ▸ hq)).1 (fun e => hn ⟨e.symm, hp⟩) (h3 ▸ Nat.ne_of_lt hql)
          rw [h3] at this
          exact Int.le_trans this (Int.le_of_lt hc.2)
      obtain ⟨i1, i2⟩ := ih q hql (l.set p (l.getD q 0)) (by rw [List.length_set]; exact qlen) hH' hUq hC'
      exact ⟨i1, i2.trans (swap_perm l p q x (Nat.ne_of_gt hql) hp qlen)⟩
    · rename_i hc
      refine ⟨?_, .refl _⟩
      intro k h1 h2 h3
      rw [List.length_set] at h2
      obtain ⟨g1, g2⟩ := hH k h1 h2 h3
      by_cases q1 : k = p
      · subst q1
        rw [getD_set_eq _ _ hp, getD_set_ne _ _ (par_ne h1).symm]
        rcases Int.lt_or_le (l.getD ((k - 1) / 2) 0) x with h | h
        · exact absurd ⟨Nat.lt_of_le_of_lt h3 (par_lt h1), h⟩ hc
        · exact h
      · by_cases q2 : (k - 1) / 2 = p
        · rw [getD_set_ne _ _ (Ne.symm q1), q2, getD_set_eq _ _ hp]
          exact hC k h1 h2 q2
        · rw [getD_set_ne _ _ (Ne.symm q1), getD_set_ne _ _ (Ne.symm q2)]
          exact g1 q1 q2
theorem set_same (l : List Int) (p : Nat) : l.set p (l.getD p 0) = l := by
  apply List.ext_getElem?
  intro i
  rw [List.getElem?_set]
  split
  · rename_i h
    subst h
    split
    · rename_i h2
      rw [List.getD_eq_getElem?_getD, List.getElem?_eq_getElem h2]; rfl
    · rename_i h2; rw [List.getElem?_eq_none (by lia)]
  · rfl
theorem sup_ok (l : List Int) (p : Nat) (hp : p < l.length) (h : HeapFrom l (p + 1)) : HeapFrom (sup l p) p ∧ (sup l p).Perm l := by
  have hH : Hole l p p := by
    intro k h1 h2 h3
    refine ⟨fun n1 n2 => h k h1 h2 (Nat.lt_of_le_of_ne h3 (Ne.symm n2)), fun e1 e2 e3 => ?_⟩
    exact absurd (Nat.lt_of_le_of_lt e3 (par_lt e2)) (Nat.lt_irrefl _)
  obtain ⟨g1, g2, g3, g4, g5⟩ := sgo_ok (l.getD p 0) p _ l p rfl hp hH .here
  rw [set_same] at g5
  unfold sup
  have hl : (sgo l p).1.length = l.length := sgo_length l p
  obtain ⟨i1, i2⟩ := sdown_ok (l.getD p 0) p (sgo l p).2 ((sgo l p).1.set (sgo l p).2 (l.getD p 0)) (by rw [List.length_set, hl]; exact g3) (g1.set _) g2 (by
    intro k h1 h2 h3
    rw [List.length_set, hl] at h2
    rcases par_of h1 h3 with e | e
    · exact absurd (e ▸ h2) g4
    · rw [e] at h2; exact absurd (Nat.lt_of_succ_lt h2) g4)
  refine ⟨i1, i2.trans ?_⟩
  rw [List.set_set]
  exact g5
theorem hfyTo_ok (xs : List Int) : ∀ i, i ≤ xs.length / 2 → HeapFrom (hfyTo xs (xs.length / 2) i) (xs.length / 2 - i) ∧ (hfyTo xs (xs.length / 2) i).Perm xs := by
  intro i
  induction i with
  | zero => intro _; exact ⟨fun k h1 h2 h3 => by rw [hfyTo] at h2; lia, .refl _⟩
  | succ i ih =>
    intro hi
    obtain ⟨h1, h2⟩ := ih (by lia)
    rw [hfyTo]
    have e : xs.length / 2 - i = (xs.length / 2 - 1 - i) + 1 := by lia
    rw [e] at h1
    obtain ⟨g1, g2⟩ := sup_ok _ _ (by rw [h2.length_eq]; lia) h1
    rw [show xs.length / 2 - (i + 1) = xs.length / 2 - 1 - i by lia]
    exact ⟨g1, g2.trans h2⟩
theorem hfy_heap (ns : List Int) : IsHeap (hfy ns) := by
  have := (hfyTo_ok ns (ns.length / 2) (Nat.le_refl _)).1
  rw [Nat.sub_self] at this
  exact fun k h1 h2 => this k h1 h2 (Nat.zero_le _)
theorem hfy_perm (ns : List Int) : (hfy ns).Perm ns := (hfyTo_ok ns (ns.length / 2) (Nat.le_refl _)).2
theorem drop_getD (l : List Int) (k : Nat) (h : k < l.length - 1) : l.dropLast.getD k 0 = l.getD k 0 := by
  rw [List.getD_eq_getElem?_getD, List.getD_eq_getElem?_getD, List.getElem?_dropLast, if_pos h]
theorem hpop_ok {l : List Int} (h : IsHeap l) (hl : 1 < l.length) : HeapFrom (sup ((l.dropLast).set 0 (l.getLastD 0)) 0) 0 ∧ (sup ((l.dropLast).set 0 (l.getLastD 0)) 0).Perm ((l.dropLast).set 0 (l.getLastD 0)) := by
  refine sup_ok _ 0 (by rw [List.length_set, List.length_dropLast]; lia) ?_
  intro k h1 h2 h3
  rw [List.length_set, List.length_dropLast] at h2
  rw [getD_set, getD_set, if_neg (by lia), if_neg (by lia), drop_getD _ _ (by lia), drop_getD _ _ (by lia)]
  exact h k h1 (by lia)
theorem hpop_heap {l : List Int} (h : IsHeap l) (hne : l ≠ []) : IsHeap (hpop l).2 := by
  unfold hpop
  split
  · intro k _ h2; simp at h2
  · rename_i hc
    exact fun k h1 h2 => (hpop_ok h (by lia)).1 k h1 h2 (Nat.zero_le _)
theorem hpop_perm {l : List Int} (h : IsHeap l) (hne : l ≠ []) : ((hpop l).1 :: (hpop l).2).Perm l := by
  unfold hpop
  split
  · rename_i hc
    cases l with
    | nil => exact absurd rfl hne
    | cons x t =>
      have : t = [] := by simpa using hc
      subst this
      exact .refl _
  · rename_i hc
    have hp := (hpop_ok h (by lia)).2
    have h2 := set_perm l.dropLast 0 (l.getLastD 0) (by rw [List.length_dropLast]; lia)
    rw [drop_getD _ _ (by lia)] at h2
    refine (hp.cons _).trans (h2.trans ?_)
    have e : l.dropLast ++ [l.getLastD 0] = l := by
      rcases List.eq_nil_or_concat l with h0 | ⟨i, a, h0⟩
      · exact absurd h0 hne
      · rw [h0]; simp
    refine List.Perm.trans ?_ (.of_eq e)
    exact (List.perm_append_singleton _ _).symm
theorem heap_top {l : List Int} (h : IsHeap l) : ∀ k, k < l.length → l.getD k 0 ≤ l.getD 0 0 := by
  intro k
  induction k using Nat.strongRecOn with
  | _ k ih =>
    intro hk
    rcases Nat.eq_zero_or_pos k with rfl | h0
    · exact Int.le_refl _
    · exact Int.le_trans (h k h0 hk) (ih _ (by lia) (by lia))
theorem hpop_max {l : List Int} (h : IsHeap l) (hne : l ≠ []) : ∀ x ∈ l, x ≤ (hpop l).1 := by
  intro x hx
  obtain ⟨k, hk, rfl⟩ := List.mem_iff_getElem.mp hx
  have e : (hpop l).1 = l.getD 0 0 := by unfold hpop; split <;> rfl
  rw [e]
  have := heap_top h k hk
  rw [List.getD_eq_getElem?_getD, List.getElem?_eq_getElem hk] at this
  exact this
/-- what is popped is the next of those in falling order -/
theorem hpop_next {l o : List Int} {x : Int} (h : IsHeap l) (hp : l.Perm (x :: o)) (hs : (x :: o).Pairwise fun a b => b ≤ a) : (hpop l).1 = x ∧ (hpop l).2.Perm o ∧ IsHeap (hpop l).2 := by
  have hne : l ≠ [] := by rintro rfl; have := hp.length_eq; simp at this
  have h1 := hpop_perm h hne
  have h2 := hpop_max h hne
  have h3 : (hpop l).1 ∈ l := h1.subset (.head _)
  have h4 : x ∈ l := hp.symm.subset (.head _)
  have h5 : (hpop l).1 ≤ x := by
    rcases List.mem_cons.mp (hp.subset h3) with h | h
    · lia
    · exact (List.pairwise_cons.mp hs).1 _ h
  have h6 : (hpop l).1 = x := Int.le_antisymm h5 (h2 _ h4)
  refine ⟨h6, ?_, hpop_heap h hne⟩
  have h7 := h1.trans hp
  rw [h6] at h7
  exact (List.perm_cons x).mp h7
end Mine

end
section
open PySem PySem.W PyProof.Rows PySem.Calls PySem.Spec
set_option Elab.async false
set_option maxRecDepth 100000
namespace Mine
/-- How a def called from the law's own frame is left, when it may have caught: the law's frame is known up to its slots. -/
noncomputable def LeaveT (h₀ : Heap) (L : Addr) (m : Str → Option Value) (g : Heap) (R : Result → Shared → Prop) (v : Value) (s' : Shared) : Prop :=
  ∃ g' L' m' news', KtsTurn [L] g g' ∧ Fr g' L' s'.heap m' ∧ News g' L' s'.heap news' ∧ (Fr h₀ L s'.heap m → News h₀ L s'.heap news' → R (.ok (.ret v)) s')
section
variable {prog : Program} {w : World} {A₀ A : Around} {s : Shared} {base h₀ : Heap} {L : Addr} {m : Str → Option Value} {news : Led} {K : Frag} {p : Program} {loose : List Str} {mean : ExcName → Option Value} {mg mb : Str → Option Value} {env : Env} {outer : List Env}
theorem ground_T {R : Result → Shared → Prop} (B : Below A₀ base outer h₀) (F : Fr h₀ L s.heap m) (N : News h₀ L s.heap news) (hA : A.frames = some (env :: outer)) (hf : env.frame = some L) (hke : env.scope.kind = .function) :
    Fr h₀ L (hideAll s.heap (news.map (·.1))) m ∧ Below A base (env :: outer) (hideAll s.heap (news.map (·.1))) ∧ h₀.StaysIn (hideAll s.heap (news.map (·.1))) ∧
      ∀ v s', LeaveT h₀ L m (hideAll s.heap (news.map (·.1))) R v s' → R (.ok (.ret v)) s' := by
  refine hide fun kH => ?_
  obtain ⟨FG, BG, st, _⟩ := groundX (R := R) B F N hA hf hke
  refine kH ?_
  clear kH
  refine ⟨FG, BG, st, fun v s' hl => ?_⟩
  refine hide fun kH => ?_
  obtain ⟨g', L', m', news', T', F', N', k⟩ := hl
  obtain ⟨oL, es, ep, hL, hLd, hLk, hLf⟩ := FG.ns
  refine kH ?_
  clear kH
  have nL₀ : h₀.get? L = none := kts_self F
  refine hide fun kH => ?_
  obtain ⟨sl, hs⟩ := T'.up hL
  refine kH ?_
  clear kH
  refine k ⟨⟨_, es, ep, F'.keep _ _ hs, hLd, hLk, hLf⟩, fun b o e => F'.keep b o (T'.other b o (st b o e) (fun q => by
    rw [List.mem_singleton.mp q, nL₀] at e; cases e)), F.above⟩ fun p hp => ⟨(N' p hp).1, fun q => ?_, ?_⟩
  · have := (N' p hp).2.2; rw [q, hs] at this; cases this
  · cases q : h₀.get? p.1 with
    | none => rfl
    | some o =>
      refine hide fun kH => ?_
      obtain ⟨sl', hs'⟩ := T'.up (st _ _ q)
      refine kH ?_
      clear kH
      have := (N' p hp).2.2
      rw [hs'] at this
      cases this
theorem code_defT {R : Result → Shared → Prop} {name qual : Str} {params : Arguments} {body : List Stmt} {scope : Scope} {dV kV doc pm cdv ct oc : Value} {an od : Option Addr} {osl : Array (Option Value)} {f : Addr} {args : Args} {binds : List (Str × Value)}
    (B : Below A₀ base outer h₀) (F : Fr h₀ L s.heap m) (X₀ : K.In h₀) (N : News h₀ L s.heap news) (T : Top p loose mean mg mb h₀) (hA : A.frames = some (env :: outer)) (hf : env.frame = some L) (hke : env.scope.kind = .function)
    (ho : K.lookup f = some ⟨oc, od, .func (fnOf name qual params body scope dV kV doc pm an cdv ct), osl⟩) (hcd : codeIn K cdv qual = true) (hroom : A.depth < recursionLimit)
    (hbind : BindsTo s (fnOf name qual params body scope dV kV doc pm an cdv ct) args binds) (hkind : (binds.all fun y => scope.names.lookup y.1 == some .local || scope.names.lookup y.1 == some .cell) = true)
    (hnd : ((cellsFrom 0 scope.names []).map (·.1)).Nodup)
    (h : ∀ g L' h₁ tk cells, Fr h₀ L g m → Fr g L' h₁ (bindL (envOfC qual scope L' f cdv).kindOf binds fun _ => none) → News g L' h₁ (cells ++ news) →
      CellsAre (bindC (envOfC qual scope L' f cdv).kindOf binds fun _ => none) (cellsFrom (L' + 1) scope.names []) cells → Below A base (env :: outer) g → K.In g → Top p loose mean mg mb g → (∀ p ∈ news, p.1 < L') →
      h₀.StaysIn g →
      wpAny (model prog w) (A.deeper (envOfC qual scope L' f cdv)) (execs body (envOfC qual scope L' f cdv))
        (fun fl s' => LeaveT h₀ L m g R (match fl with | .ret v => v | _ => .none) s')
        (fun e s' => wpAny (model prog w) (A.deeper (envOfC qual scope L' f cdv)) (leaving (envOfC qual scope L' f cdv) e) (fun _ s'' => R (.error e) s'') (fun e' s'' => R (.error e') s'') s')
        { s with heap := h₁, toks := tk })
    (hco : scope.isCoroutine = false) (hgen : scope.isGenerator = false) (hk : scope.kind = .function) : codeAny (model prog w) A (.call (.ref f) args) R s := by
  refine hide fun kH => ?_
  obtain ⟨FG, BG, st, lv⟩ := ground_T (R := R) B F N hA hf hke
  refine kH ?_
  clear kH
  refine codeAny_call_function hroom ((X₀.keeps F.keep) _ _ ho) rfl hco hgen rfl (codeRec_of (X₀.keeps F.keep) hcd) (hbind _ _ _ _ ?_)
  refine wpAny_newFunctionEnv_cells hk (kindsX hkind _) fun env' he s' x => ?_
  subst he
  refine ⟨(T.nolimit.keeps F.keep).keeps x.toInCall.keep, codeAny_func ?_⟩
  refine hide fun kH => ?_
  obtain ⟨h₁, tk, rfl, _⟩ := x.done
  refine kH ?_
  clear kH
  have hk₁ := x.toInCall.keep
  refine hide fun kH => ?_
  obtain ⟨cells, NC, Y⟩ := Cl.news (h₀ := s.heap) (Nat.le_refl _) fun n c hm => ⟨x.cell n c (lookup_of_mem_nodup (cellsFrom_names scope.names 0 (s.heap.objs.size + 1) [] [] rfl ▸ hnd) hm), x.above n c hm⟩
  refine kH ?_
  clear kH
  refine wpAny_mono (h _ s.heap.objs.size h₁ tk cells FG ⟨x.toInCall.ns, fun b o e => hk₁ b o (of_hideAll _ e), Nat.le_of_eq (hideAll_size _ _)⟩ (fun p hp => ?_) Y BG (X₀.keeps st) (T.keeps st) (fun p hp => Heap.lt_size (N p hp).1) st) (fun fl s' hl => lv _ _ hl) fun _ _ y => y
  rcases List.mem_append.mp hp with hp | hp
  · refine ⟨(NC p hp).1, (NC p hp).2.1, ?_⟩
    cases q : (hideAll s.heap (news.map (·.1))).get? p.1 with
    | none => rfl
    | some o => have := of_hideAll _ q; rw [(NC p hp).2.2] at this; cases this
  · exact ⟨hk₁ _ _ (N p hp).1, Nat.ne_of_lt (Heap.lt_size (N p hp).1), hideAll_none _ (List.mem_map_of_mem hp)⟩
end
section
variable {prog : Program} {w : World} {A₀ : Around} {E : Value → Shared → Prop} {s' : Shared} {base g G : Heap} {outer : List Env} {L a e : Addr} {m : Str → Option Value} {name : Str} {scope : Scope} {cd : Value}
  {b₀ : Stmt} {suite : List Stmt} {pos np : Pos} {rest : List ExceptHandler} {Q : Flow → Shared → Prop} {news : Led} {KF : Frag}
  {p : Program} {loose : List Str} {mean : ExcName → Option Value} {mg mb : Str → Option Value} {x : Str} {X T' : String}
theorem caught_T (R : RaisedSN base G (envOfC name scope L a cd :: outer) e (.type X) news s'.heap) (F : Fr g L G m) (K : Below A₀ base outer g) (hsm : G.UpToSlots s'.heap)
    (XT : ∀ g', KtsTurn (outer.filterMap (·.frame)) g g' → KF.In g' ∧ TopRead p loose mg mb g')
    (ex : nsIn KF mainGlobals x = some none) (hv : bootBuiltins x = some (.type T')) (hn' : x ≠ "__name__")
    (hexc : isSubtype (.type T') (.type "BaseException") = pure true) (hnt : isSubtype (.type ((Manifest.find? T').elim "type" fun y => y.metatype)) (.type "tuple") = pure false) (hsub : isSubtype (.type X) (.type T') = pure true)
    (k : ∀ h' g', KtsTurn (outer.filterMap (·.frame)) g g' → Fr g' L h' m → News g' L h' news → Below A₀ base outer g' → KF.In g' → TopRead p loose mg mb g' →
      wpAny (model prog w) ((A₀.deeper (envOfC name scope L a cd)).mark (some (.ref e))) (execs (b₀ :: suite) (envOfC name scope L a cd)) Q E { s' with heap := h' })
    (hk : (envOfC name scope L a cd).scope.kind = .function) (hx : (envOfC name scope L a cd).kindOf x = some .globalImplicit) (hd : (x == ("__debug__" : Str)) = false := by decide)
    (hE : PassesOwnAt (model prog w) ((A₀.deeper (envOfC name scope L a cd)).mark (some (.ref e))) (A₀.deeper (envOfC name scope L a cd)) (envOfC name scope L a cd) E) :
    wpAny (model prog w) (A₀.deeper (envOfC name scope L a cd)) (noteFrame (.ref e) (envOfC name scope L a cd))
      (fun _ s₂ => wpAny (model prog w) (A₀.deeper (envOfC name scope L a cd)) (setFlight (.ref e) none) (fun _ s₃ =>
        wpAny (model prog w) (A₀.deeper (envOfC name scope L a cd)) (handleBy (.ref e) (envOfC name scope L a cd) (.ExceptHandler (some (.Name x np)) none (b₀ :: suite) pos :: rest)) Q E s₃) E s₂) E s' := by
  refine hide fun kH => ?_
  obtain ⟨B, a0, hB, hBG, hl, hfl⟩ := R
  refine kH ?_
  clear kH
  have hL : B.get? L = none := by
    refine hide fun kH => ?_
    obtain ⟨_, ⟨L', _, hf, hn', _⟩, _⟩ := hfl.2.2.1
    refine kH ?_
    clear kH
    obtain rfl : L = L' := Option.some.inj hf
    exact hn'
  refine wpAny_looks_onW (Around.frames_deeper K.stack) rfl hfl fun h₄ hheld₄ hsm₄ => ?_
  refine wpAny_landsW hheld₄ fun h₅ hheld hsm₅' => ?_
  have hsm₅ := hsm₄.trans hsm₅'
  refine hide fun kH => ?_
  obtain ⟨g₅, T₅, F₅, K₅⟩ := kts_ground (name := name) (scope := scope) (a := a) (cd := cd) K F hBG hheld.1 (hsm.trans hsm₅)
  obtain ⟨X₅, P₅⟩ := XT g₅ T₅
  obtain ⟨ob, hob, hobc⟩ := hheld.there
  refine kH ?_
  clear kH
  have P₆ := P₅.keeps F₅.keep
  refine wpAny_handleBy_builtin (X := X) (T := T') (b := true) hexc hnt hsub (Name_function_global hk hx (loadGlobal_builtin (env := envOfC name scope L a cd) P₆.g (mg_none_of X₅ P₅.g ex) P₆.b ((P₅.builtins x hn').trans hv) ⟨rfl, ⟨ob, hob, hobc⟩, ?_⟩) hd)
  refine lands_againW hheld fun h₆ hfl₆ hsm₆ => ?_
  refine hide fun kH => ?_
  obtain ⟨g₆, T₆, F₆, K₆⟩ := kts_ground (name := name) (scope := scope) (a := a) (cd := cd) K F hBG hfl₆.1 ((hsm.trans hsm₅).trans hsm₆)
  refine kH ?_
  clear kH
  have Nl : News g₆ L h₆ news := fun q hq => ⟨hfl₆.1 _ _ (hl q hq).1, (fun z => by have := (hl q hq).1; rw [z, hL] at this; cases this), T₆.none_ _ (kts_none F.keep (hl q hq).2.1)⟩
  refine hide fun kH => ?_
  obtain ⟨X₆, P₇⟩ := XT g₆ T₆
  refine kH ?_
  clear kH
  exact wpAny_passesOwnAt hE (k h₆ g₆ T₆ F₆ Nl K₆ X₆ P₇)
/-- a pop off an empty list of the ledger -/
theorem pop_none {A : Around} {s : Shared} {h₀ : Heap} {D : Addr} {nw : Led} {k : Nat} {Q : Value → Shared → Prop} (hh : A.handled = none) (N : News h₀ L s.heap nw) (hm : (D, listOf #[] k) ∈ nw)
    (hE : ∀ h' tk e, Heap.NewExc s.heap h' e "IndexError" → E (.ref e) { s with heap := h', toks := tk }) : wpAny (model prog w) A (call (.builtin "list.pop") [.ref D]) Q E s := by
  refine call_meets PySem.F.slot_list_pop ⟨_, (N _ hm).1, rfl⟩ PySem.F.entry_list_pop (PySem.F.args_list_pop_1 _) (PySem.AutoSeq1.list_pop_list_0 D #[] k rfl) ⟨(N _ hm).1, hh, hE⟩
end
end Mine

end
section
open PySem PySem.W PyProof.Rows in
theorem Mine.freshRD {prog : Program} {w : World} {A : Around} {env : Env} {E : Value → Shared → Prop} {Q : Flow → Shared → Prop} {s : Shared} (h : Q .next s) : wpAny (model prog w) A (execs [] env) Q E s := by w_top off; k_with_none; walk1; exact h
open PySem PySem.W PyProof.Rows PyProof.Rows.LCg PyProof.Rows.LCt
set_option Elab.async false
set_option maxRecDepth 100000
set_option maxHeartbeats 4000000
set_option pp.deepTerms false
set_option pp.deepTerms.threshold 6
namespace Mine
local macro_rules | `(tactic| k_all) => `(tactic| first | assumption | exact rfl)
local macro_rules | `(tactic| k_mem) => `(tactic| assumption)
local macro_rules | `(tactic| walk_at "subscriptTail Name Name ref int") => `(tactic| k_extra "subscriptTail Name Name ref int")
local macro_rules | `(tactic| walk_at "subscriptTail Name BinOp ref int") => `(tactic| k_extra "subscriptTail Name BinOp ref int")
local macro_rules | `(tactic| walk_at "subscriptTail Name Constant ref int") => `(tactic| k_extra "subscriptTail Name Constant ref int")
local macro_rules | `(tactic| walk_at "CompSrcT") => `(tactic| k_extra "CompSrcT")
local macro_rules | `(tactic| walk_at "eval ListComp") => `(tactic| k_extra "eval ListComp")
local macro_rules | `(tactic| walk_at "call ref") => `(tactic| k_extra "call ref")
local macro_rules | `(tactic| walk_at "call builtin:sorted") => `(tactic| k_extra "call builtin:sorted")
local macro_rules | `(tactic| walk_at "call builtin:list.append") => `(tactic| k_extra "call builtin:list.append")
local macro_rules | `(tactic| walk_at "compareOp NotEq ref ref") => `(tactic| k_extra "compareOp NotEq ref ref")
/-- one round: what is on hand at the end, what is laid down -/
noncomputable def lay (acc : Int) : List Int → Int × List Int
  | [] => (acc, [])
  | x :: xs => ((lay (Builtin.bitOr acc x) xs).1, Builtin.bitAnd acc x :: (lay (Builtin.bitOr acc x) xs).2)
inductive Rounds : List Int → List Int → Prop
  | nil : Rounds [] []
  | step {ns fs xs : List Int} {x : Int} : (x :: xs).Perm ns → Rounds (lay x xs).2 fs → Rounds ns ((lay x xs).1 :: fs)
/-- as Does, from the frame of the law itself -/
noncomputable def Does1 (w : World) (f : Addr) (args : List Value) (sz : Nat) (news : Led) (Out : Value → Led → Prop) : Prop :=
  ∀ (p : Program) (loose : List Str) (mean : ExcName → Option Value) (mg mb : Str → Option Value) (dp un : Nat) (gd : Option (List Code)) (cn : Str) (cs : Scope) (a : Addr) (ccd : Value) (cl : List (Str × Addr)) (A₀ : Around) (base h₀ : Heap) (L : Addr) (m : Str → Option Value) (s : Shared) (Q E : Value → Shared → Prop),
    Below A₀ base [] h₀ → Fr h₀ L s.heap m → (Mine.hd.heap_39 w.params).In h₀ → News h₀ L s.heap news → Top p loose mean mg mb h₀ → CodeHd h₀ 55 51 → CodeHd h₀ 48 44 → cs.kind = .function →
    dp + sz < recursionLimit → un + 8 * sz < cLine →
    (∀ r news' h' tk', Out r news' → Fr h₀ L h' m → News h₀ L h' news' → Q r { s with heap := h', toks := tk' }) →
    wpAny (model PR w) (ktrTop dp un gd cn cs L a ccd cl []) (call (.ref f) args) Q E s
theorem news_rev3 {h₀ h : Heap} {L : Addr} {a b c : Addr × Obj} {r : Led} (N : News h₀ L h (a :: b :: c :: r)) : News h₀ L h (c :: b :: a :: r) :=
  news_sub N fun _ hp => app_swap (A := [b, c]) (B := [a]) (app_swap (A := [c]) (B := [b]) hp)
theorem news_pick5 {h₀ h : Heap} {L : Addr} {a b c d e : Addr × Obj} {r : Led} (N : News h₀ L h (a :: ([b, c, d] ++ e :: r))) : News h₀ L h (a :: e :: b :: r) :=
  news_sub N fun _ hp => app_mono [a] (fun _ h => app_swap (A := [e]) (B := [b, c, d]) (app_mono [e] (fun _ h => app_mono [b] (fun _ h => .tail _ (.tail _ h)) h) h)) hp
theorem range_n (a : Int) (n : Nat) : Builtin.Range.rangeSize a (a + n) 1 = (n : Int) := by
  unfold Builtin.Range.rangeSize
  rw [if_pos (by decide)]
  split <;> lia
theorem range_s {a b : Int} (h1 : -1000000 ≤ a) (h2 : a < 1000000) (h3 : -1000000 ≤ b) (h4 : b < 1000000) : Builtin.Range.small a b 1 = true := by
  have e1 : Builtin.Range.rangeFitsLong a = true := by unfold Builtin.Range.rangeFitsLong; simp; lia
  have e2 : Builtin.Range.rangeFitsLong b = true := by unfold Builtin.Range.rangeFitsLong; simp; lia
  unfold Builtin.Range.small
  simp [e1, e2]
  unfold Builtin.Range.rangeSize Builtin.Range.rangeFitsLong
  rw [if_pos (by decide)]
  simp
  split <;> lia
inductive RInv (ns : List Int) (rest : Led) (Fl L1 H : Addr) (oc : Obj) (k : Nat) (m : Str → Option Value) (nw : Led) : Prop
  | mk (vs' : List Value) (ns' : List Int) (n' : Nat) (fv : List Value) (fs' : List Int) (kf : Nat) (hk : k = ns'.length) (hi : IntsAre vs' ns') (hl : fs'.length + ns'.length < 60) (hR : ∀ gs, Rounds ns' gs → Rounds ns (fs' ++ gs)) (hf : IntsAre fv fs')
    (hn : nw = (Fl, listOf fv.toArray kf) :: (L1, oc) :: (H, listOf vs'.toArray n') :: rest) (hm : m (Str.ofString "files") = some (.ref Fl))
inductive RInv1 (os : List Int) (H O S Fl : Addr) (R : Led) (i : Nat) (m : Str → Option Value) (nw : Led) : Prop
  | mk (hv : List Value) (hs : List Int) (hn : Nat) (ov : List Value) (on : Nat) (h1 : IntsAre hv hs) (h2 : IsHeap hs) (h3 : hs.Perm (os.drop i)) (h4 : IntsAre ov (os.take i))
    (hnw : nw = (H, listOf hv.toArray hn) :: (O, listOf ov.toArray on) :: R) (m1 : m (Str.ofString "due") = some (.ref S)) (m2 : m (Str.ofString "out") = some (.ref O)) (m3 : m (Str.ofString "files") = some (.ref Fl))
inductive RInv2 (x0 : Int) (xs : List Int) (H O Fl : Addr) (R : Led) (i : Nat) (m : Str → Option Value) (nw : Led) : Prop
  | mk (hv : List Value) (hs : List Int) (hn : Nat) (ov : List Value) (acc : Int) (on : Nat) (h1 : IntsAre hv hs) (h2 : hs.length ≤ i) (h3 : IntsAre ov (acc :: xs)) (h4 : lay x0 xs = ((lay acc (xs.drop i)).1, hs ++ (lay acc (xs.drop i)).2))
    (hnw : nw = (H, listOf hv.toArray hn) :: (O, listOf ov.toArray on) :: R) (m1 : m (Str.ofString "out") = some (.ref O)) (m2 : m (Str.ofString "files") = some (.ref Fl))
theorem rounds_does (w : World) (H : Addr) (n : Nat) (vs : List Value) (ns : List Int) (rest : Led) (hi : IntsAre vs ns) (hH : ∀ p ∈ rest, p.1 ≠ H) (hl : ns.length < 60) :
    Does1 w 132 [.ref H] 40 ((H, listOf vs.toArray n) :: rest) (fun r news' => ∃ D us k fs, r = .ref D ∧ IntsAre us fs ∧ Rounds ns fs ∧ news' = (D, listOf us.toArray k) :: rest ∧ ∀ p ∈ rest, p.1 ≠ D) := by
  unfold Does1
  have := lawRef
  revert this
  k_fill
  intro _
  intro p loose mean mg mb dp un gd cn cs a ccd cl A₀ base h₀ L m s Q E B F X N T C1 C2 hck hdp hun hret
  k_with_none
  k_with "eval Name" => (k_here; k_dflt (refine' nameX_L2 ?F ?_ ?v ?a ?b; (case F => k_asm); (case a => exact rfl); (case b => exact rfl); (case v => exact rfl); k_whole))
  k_with "call ref" => (with_reducible refine stop_here ?_)
  k_with "CompSrcT" => (with_reducible refine stop_here ?_)
  k_with "eval ListComp" => (with_reducible refine stop_here ?_)
  k_with "exec While Compare cons nil" => (with_reducible refine stop_here ?_)
  refine wpAny_call ?_
  k_dflt (((refine' code_defT ?k1 ?k2 ?k3 ?k4 ?k5 ?kA ?kF ?kK ?k6 ?k7 ?k8 ?k9 ?kB ?kD ?_ ?c2 ?c3 ?c4; (case kA => exact rfl); (case kF => exact rfl); (case kK => assumption); (case k1 => k_asm); (case k2 => k_asm); (case k3 => k_asm); (case k4 => k_asm); (case k5 => k_asm); (case k6 => k_is); (case k7 => k_is); (case k8 => first | exact droom0 hdp | ktr_room); (case k9 => exact BindsTo.of_eq rfl); (case kB => exact rfl); (case kD => decide +kernel); (case c2 => exact rfl); (case c3 => exact rfl); (case c4 => exact rfl))))
  intro g' L' h' tk' cells' FG' F' N' Y' B' X' T' l1 st'
  k_cells Y'
  rename_i oc dc
  replace dc : oc.data = .cell (some (.ref H)) := dc
  simp only [List.cons_append, List.nil_append] at N'
  k_steps
  refine ⟨?_⟩
  rename_i Fl h1 lF h2 F2 N2
  refine While_inv2 (n₀ := ns.length) (RInv ns rest Fl (L' + 1) H oc) F2 N2 ?start ?turn
  case start => exact ⟨vs, ns, n, [], [], 0, rfl, hi, by simpa using hl, fun _ h => h, .nil, rfl, if_pos rfl⟩
  case turn =>
    intro k m₁ news₁ h₁ tk₁ F₁ N₁ z0H
    refine hide fun kH => ?_
    obtain ⟨vs', ns', n', fv, fs', kf, rfl, hi', hl', hR, hfv, rfl, e1⟩ := z0H
    refine kH ?_
    clear kH
    have hn60 : ns'.length < 60 := Nat.lt_of_le_of_lt (Nat.le_add_left _ _) hl'
    have F₂ := fr_see [(Str.ofString "files", .ref Fl)] F₁ (List.forall_mem_cons.mpr ⟨e1, fun _ h => nomatch h⟩)
    dsimp only [kstB] at F₂
    clear F₁
    k_with "compareOp NotEq ref ref" => (with_reducible refine stop_here ?_)
    k_with "call builtin:sorted" => (with_reducible refine stop_here ?_)
    k_steps
    refine ⟨?_⟩
    rename_i T0 hT0 FT NT lT
    refine neI_led (vs := vs') (us := []) NT (.tail _ (.tail _ (.tail _ (.head _)))) hi' (.head _) .nil (by first | exact Nat.le_of_ble_eq_true rfl | ktr_units) ?_
    have N3 := news_sub (b := (Fl, listOf fv.toArray kf) :: (L' + 1, oc) :: (H, listOf vs'.toArray n') :: rest) NT fun p hp => .tail _ hp
    clear NT lT
    by_cases hne : ns' = []
    · subst hne
      cases hi'
      simp only [decide_true, Bool.not_true]
      walk1
      walk1
      refine absW fun Q1 hQ1 => ?_
      k_steps
      k_dflt (refine wpAny_Try_except ?_)
      k_with_none
      k_with "eval Name" => (k_here; k_dflt (refine' nameX_L2 ?F ?_ ?v ?a ?b; (case F => k_asm); (case a => exact rfl); (case b => exact rfl); (case v => exact rfl); k_whole))
      k_steps
      refine wpAny_call ?_
      k_dflt (refine' code_def ?k1 ?k2 ?k3 ?k4 ?k5 ?kA ?kF ?kK ?k6 ?k7 ?k8 ?k9 ?kB ?_ ?c2 ?c3 ?c4 ?c5; (case kA => exact rfl); (case kF => exact rfl); (case kK => exact rfl); (case k1 => k_asm); (case k2 => k_asm); (case k3 => k_asm); (case k4 => k_asm); (case k5 => k_asm); (case k6 => k_is); (case k7 => k_is); (case k8 => first | exact droom0 hdp | ktr_room); (case k9 => exact BindsTo.of_eq rfl); (case c5 => decide); (case kB => exact locs rfl); (case c2 => exact rfl); (case c3 => exact rfl); (case c4 => exact rfl))
      intro g3 L3 h3 FG3 F3 N4 B3 X3 T3
      (try dsimp only)
      k_steps
      refine pop_none rfl N4 (.tail _ (.tail _ (.head _))) ?_
      intro hE tkE e hx
      refine leave_newS B3 hx F3 N4 ?_
      intro h4 R4 _ U4
      have keep : ∀ g2, KtsTurn [L] g' g2 → ∀ b o, h₀.get? b = some o → g2.get? b = some o := fun g2 T2 b o e => T2.other b o (st' b o e) fun q => by
        rw [List.mem_singleton.mp q, kts_self F] at e; cases e
      k_dflt (refine caught_T (p := p) (loose := loose) (mg := mg) (mb := mb) (KF := hd.heap_39 w.params) (T' := "IndexError") R4 FG3 B' U4 ?XT ?ex PyProof.Rows.Boot.«IndexError» (by decide +kernel) PySem.F.isExc_IndexError PySem.F.notTuple_IndexError (by rw [isSubtype_type]; kernel_rfl) ?_ (by rfl) (by rfl) (hE := by passes_own))
      case XT => exact fun g2 T2 => ⟨X.keeps (keep g2 T2), topRead_of (T.keeps (keep g2 T2))⟩
      case ex => k_is
      intro h5 g5 T5 F5 N5 B5 X5 P5
      k_steps
      refine hQ1 _ _ ?_
      dsimp only
      refine ⟨g5, _, _, _, T5, F5, N5, fun F9 N9 => hret _ _ _ _ ⟨Fl, fv, kf, fs', rfl, hfv, by simpa using hR [] .nil, rfl, fun p hp => Nat.ne_of_lt (allLt_mem lF.2.2 p hp)⟩ F9 (news_sub N9 ?_)⟩
      intro p hp
      rcases List.mem_cons.mp hp with h | h
      · exact h ▸ .head _
      · exact .tail _ (.tail _ (.tail _ h))
    · simp only [hne, decide_false, Bool.not_false]
      k_with "call ref" => (with_reducible refine stop_here ?_)
      k_with "CompSrcT" => (with_reducible refine stop_here ?_)
      k_with "eval ListComp" => (with_reducible refine stop_here ?_)
      k_with "compareOp NotEq ref ref" => (with_reducible refine stop_here ?_)
      k_with "call builtin:sorted" => (with_reducible refine stop_here ?_)
      walk1
      walk1
      refine absW fun Q1 hQ1 => ?_
      k_steps
      refine ⟨?_⟩
      (show wpAny _ _ (call (Value.builtin _) [Value.ref _] [(PySem.Str.ofString "reverse", Value.bool _)]) _ _ _)
      refine ksk_rev (vs := vs') (by k_asm) N3 ⟨_, (N3 _ (.tail _ (.tail _ (.head _)))).1, rfl, _, rfl⟩ hi' (Nat.lt_trans hn60 (by decide)) ?_
      intro S us os cS hS FS NS lS hus eos pos srt _
      simp only [if_true] at srt
      k_steps
      refine ⟨?_⟩
      rename_i O h4 lO Tp h5 lTp h6 h7 h8 F8 N8
      have lS0 := lS _ (.head _)
      have hR0 : ∀ p ∈ (O, listOf #[] 0) :: (S, listOf us.toArray cS) :: (Fl, listOf fv.toArray kf) :: (L' + 1, oc) :: rest, p.1 ≠ H := by
        have e1 := l1 _ (.head _)
        exact off_cons (Nat.ne_of_gt lO.2.2.2.1) (off_cons (Nat.ne_of_gt (lS _ (.tail _ (.tail _ (.head _))))) (off_cons (Nat.ne_of_gt lF.2.1) (off_cons (Nat.ne_of_gt (Nat.lt_succ_of_lt e1)) hH)))
      have N9 := news_sub (b := (H, listOf vs'.toArray n') :: (O, listOf #[] 0) :: (S, listOf us.toArray cS) :: (Fl, listOf fv.toArray kf) :: (L' + 1, oc) :: rest) N8 (by
        intro p hp
        simp only [List.mem_cons] at hp ⊢
        rcases hp with h | h | h | h | h | h <;> simp [h])
      clear N8
      k_dflt (refine' Does.use (heapify_does w H n' vs' ns' _ hi' hR0 (Nat.lt_trans hn60 (by decide))) ?_ ?_ ?_ ?_ ?_ ?_ ?_ ?_ ?_ ?_ ?_)
      all_goals try (first | ((with_reducible show Below _ _ _ _); k_asm) | ((with_reducible show Fr _ _ _ _); k_asm) | ((with_reducible show Frag.In _ _); k_asm) | ((with_reducible show News _ _ _ _); k_asm) | ((with_reducible show Top _ _ _ _ _ _); k_asm) | ((with_reducible show CodeHd _ _ _); first | assumption | exact CodeHd.keeps (by assumption) (Fr.keep (by assumption))) | ((with_reducible show Scope.kind _ = _); exact rfl) | ((with_reducible show _ < recursionLimit); first | exact droom (by with_reducible assumption) rfl | exact Nat.le_of_ble_eq_true rfl | ktr_room) | ((with_reducible show _ < cLine); first | exact uroom (by with_reducible assumption) rfl | exact Nat.le_of_ble_eq_true rfl | ktr_units))
      refine hide2 ?_
      rintro PH kH r news' ⟨rfl, hv, hn, hhv, rfl⟩
      refine kH _ _ ?_
      clear kH PH
      intro h9 tk9 F10 N10
      clear N9
      k_with "pyIter ref" => (with_reducible refine stop_here ?_)
      k_steps
      refine ⟨?_⟩
      rename_i FF
      refine for_list (vs := us) (k := cS) (RInv1 os H O S Fl ((S, listOf us.toArray cS) :: (Fl, listOf fv.toArray kf) :: (L' + 1, oc) :: rest)) rfl
        (by rintro i m nw ⟨_, _, _, _, _, _, _, _, _, rfl, _⟩; exact .tail _ (.tail _ (.head _))) FF N10 ⟨hv, _, hn, [], 0, hhv, hfy_heap _, (hfy_perm _).trans pos.symm, .nil, rfl, rfl, rfl, rfl⟩ ?turn1 ?done1
      case turn1 =>
        intro i v m₂ nw h11 tk11 I oI hvi z0H hoff F11 N11
        refine hide fun kH => ?_
        obtain ⟨hv, hs, hn, ov, on, hhv, hheap, hperm, hov, rfl, q1, q2, q3⟩ := z0H
        refine kH ?_
        clear kH
        refine absW fun Q2 hQ2 => ?_
        have F12 := fr_see [(Str.ofString "one", v), (Str.ofString "due", .ref S), (Str.ofString "out", .ref O), (Str.ofString "files", .ref Fl)] F11 (List.forall_mem_cons.mpr ⟨by rfl, List.forall_mem_cons.mpr ⟨q1, List.forall_mem_cons.mpr ⟨q2, List.forall_mem_cons.mpr ⟨q3, fun _ h => nomatch h⟩⟩⟩⟩)
        dsimp only [kstB] at F12
        clear F11
        k_steps
        refine ⟨?_⟩
        k_dflt (refine LCt.ListComp_T (F₀ := by k_asm) (by with_unfolding_all rfl) (by decide) (by rfl) (by decide) (by rfl) ?_)
        have hil : i < os.length := by
          rcases Nat.lt_or_ge i us.length with h | h
          · exact Nat.lt_of_lt_of_eq h hus.length
          · rw [List.getElem?_eq_none h] at hvi; cases hvi
        have hsl : hs.length = os.length - i := by simpa using hperm.length_eq
        have hol := pos.length_eq
        have hs0 : 0 < hs.length := by rw [hsl]; exact Nat.sub_pos_of_lt hil
        have hs60 : hs.length < 60 := by rw [hsl]; exact Nat.lt_of_le_of_lt (Nat.sub_le _ _) (by rw [hol]; exact hn60)
        k_steps
        refine ⟨?_⟩
        rename_i h14 _ t14 u14 v14 hR14 F14 N14 _
        have hn1 : Builtin.Range.rangeSize 1 (hs.length : Int) 1 = ((hs.length - 1 : Nat) : Int) := by
          have := range_n 1 (hs.length - 1)
          rw [show (1 : Int) + ((hs.length - 1 : Nat) : Int) = hs.length from congrArg Int.ofNat (Nat.add_sub_cancel' hs0)] at this
          exact this
        refine srcT_rangeC (n := hs.length - 1) (fun i ys => ys = []) rfl F14 N14 hR14 (range_s (by decide) (by decide) (Int.le_trans (by decide : (-1000000 : Int) ≤ 0) (Int.natCast_nonneg _)) (Int.ofNat_lt.mpr (Nat.lt_trans hs60 (by decide)))) hn1 (Nat.le_trans (Nat.sub_le _ _) (Nat.le_of_lt (Nat.lt_trans hs60 (by decide)))) rfl ?turn2 ?done2
        case turn2 =>
          intro j tj I2 oI2 C2' oC2 D2 m3 h15 tk15 E' ys Q3 Q4 hj hys hC hm F15 N15 off n1 n2 n3 hQ3 hQ4 hQ5
          have jl : 1 + j < hs.length := Nat.add_lt_of_lt_sub' hj
          have e2 : (1 : Int) + (j : Int) - 1 = (j : Int) := by rw [Int.add_comm]; exact Int.add_sub_cancel _ _
          have z1 : ((1 : Int) + (j : Int)).toNat = 1 + j := rfl
          have z3 : ((1 : Int) + (j : Int) - 1).fdiv 2 = ((j / 2 : Nat) : Int) := by rw [e2, Int.fdiv_eq_ediv_of_nonneg _ (by decide)]; rfl
          have z2 : (((1 : Int) + (j : Int) - 1).fdiv 2).toNat = (1 + j - 1) / 2 := by rw [z3, Nat.add_sub_cancel_left]; rfl
          have p1 : ((1 : Int) + (j : Int) - 1).fdiv 2 < (hs.length : Int) := by
            rw [z3]; exact Int.ofNat_lt.mpr (Nat.lt_of_le_of_lt (Nat.div_le_self j 2) (Nat.lt_of_le_of_lt (Nat.le_add_left j 1) jl))
          have hs1000 := Nat.lt_trans hs60 (by decide : 60 < 1000)
          have hhp := hheap (1 + j) (Nat.le_add_right 1 j) jl
          k_with "subscriptTail Name Name ref int" => (with_reducible refine stop_here ?_)
          k_with "subscriptTail Name BinOp ref int" => (with_reducible refine stop_here ?_)
          k_steps
          refine ⟨?_⟩
          refine item_list_ints (by is_list) hhv (Int.natCast_nonneg (1 + j)) (Int.ofNat_lt.mpr jl) (b63 jl hs1000) ?_
          intro _
          k_steps
          refine ⟨?_⟩
          refine item_list_ints (by is_list) hhv (by rw [z3]; exact Int.natCast_nonneg _) p1 (ix63 p1 hs1000) ?_
          intro _
          k_steps
          refine decQ (fun hlt => ?_) (fun hlt => ?_)
          · rw [z1, z2] at hlt
            exact absurd hhp (Int.not_le.mpr hlt)
          · exact hQ4 _ _ F15 N15 hys
        case done2 =>
          k_with_none
          k_with "eval Name" => (k_here; k_dflt (refine' nameX_L2 ?F ?_ ?v ?a ?b; (case F => k_asm); (case a => exact rfl); (case b => exact rfl); (case v => exact rfl); k_whole))
          k_with "call ref" => (with_reducible refine stop_here ?_)
          k_with "CompSrcT" => (with_reducible refine stop_here ?_)
          k_with "eval ListComp" => (with_reducible refine stop_here ?_)
          k_with "compareOp NotEq ref ref" => (with_reducible refine stop_here ?_)
          k_with "call builtin:sorted" => (with_reducible refine stop_here ?_)
          k_with "pyIter ref" => (with_reducible refine stop_here ?_)
          intro g ys z0H D3 h17 tk17 F17 N17 o17
          refine hide fun kH => ?_
          subst z0H
          refine kH ?_
          clear kH
          k_steps
          refine ⟨?_⟩
          rename_i T5 h18 F18 N18 l18
          refine neI_led (vs := []) (us := []) N18 (.tail _ (.head _)) .nil (.head _) .nil (by first | exact Nat.le_of_ble_eq_true rfl | ktr_units) ?_
          have hR5 : ∀ p ∈ (I, oI) :: (O, listOf ov.toArray on) :: (S, listOf us.toArray cS) :: (Fl, listOf fv.toArray kf) :: (L' + 1, oc) :: rest, p.1 ≠ H :=
            off_cons (Ne.symm (hoff _ (.head _))) fun p hp => by
              rcases List.mem_cons.mp hp with h | h
              · rw [h]; exact hR0 (O, listOf #[] 0) (.head _)
              · exact hR0 p (.tail _ h)
          have N19 := news_sub (b := (H, listOf hv.toArray hn) :: (I, oI) :: (O, listOf ov.toArray on) :: (S, listOf us.toArray cS) :: (Fl, listOf fv.toArray kf) :: (L' + 1, oc) :: rest) N18 (by
            intro p hp
            rcases List.mem_cons.mp hp with h | h
            · exact h ▸ .tail _ (.tail _ (.tail _ (.head _)))
            · rcases List.mem_cons.mp h with h | h
              · exact h ▸ .tail _ (.tail _ (.head _))
              · exact .tail _ (.tail _ (.tail _ (.tail _ h))))
          clear N18
          simp only [decide_true, Bool.not_true]
          k_steps
          refine ⟨?_⟩
          have hne2 : hs ≠ [] := fun e => by rw [e] at hs0; exact Nat.lt_irrefl 0 hs0
          k_dflt (refine' Does.use (heappop_does w H hn hv hs _ hhv hR5 hne2 (Nat.lt_trans hs60 (by decide))) ?_ ?_ ?_ ?_ ?_ ?_ ?_ ?_ ?_ ?_ ?_)
          all_goals try (first | ((with_reducible show Below _ _ _ _); k_asm) | ((with_reducible show Fr _ _ _ _); k_asm) | ((with_reducible show Frag.In _ _); k_asm) | ((with_reducible show News _ _ _ _); k_asm) | ((with_reducible show Top _ _ _ _ _ _); k_asm) | ((with_reducible show CodeHd _ _ _); first | assumption | exact CodeHd.keeps (by assumption) (Fr.keep (by assumption))) | ((with_reducible show Scope.kind _ = _); exact rfl) | ((with_reducible show _ < recursionLimit); first | exact droom (by with_reducible assumption) rfl | exact Nat.le_of_ble_eq_true rfl | ktr_room) | ((with_reducible show _ < cLine); first | exact uroom (by with_reducible assumption) rfl | exact Nat.le_of_ble_eq_true rfl | ktr_units))
          refine hide2 ?_
          rintro PH kH r news' ⟨⟨tr, rfl⟩, hv2, hn2, hhv2, rfl⟩
          refine kH _ _ ?_
          clear kH PH
          intro h20 tk20 F20 N20
          k_with "call builtin:list.append" => (with_reducible refine stop_here ?_)
          k_steps
          refine ⟨?_⟩
          have hdrop : os.drop i = os[i] :: os.drop (i + 1) := List.drop_eq_getElem_cons hil
          rw [hdrop] at hperm
          have hsrt : (os[i] :: os.drop (i + 1)).Pairwise fun a b => b ≤ a := by rw [← hdrop]; exact srt.sublist (List.drop_sublist _ _)
          refine hide fun kH => ?_
          obtain ⟨p1, p2, p3⟩ := hpop_next hheap hperm hsrt
          refine kH ?_
          clear kH
          have htk : os.take (i + 1) = os.take i ++ [os[i]] := take_snoc (List.getElem?_eq_getElem hil)

          refine append_led (vs := ov) F20 (news_front [_, _] N20) ?hO (by rw [hov.length, List.length_take]; exact Nat.lt_of_le_of_lt (Nat.min_le_right _ _) (by rw [hol]; exact Nat.lt_trans hn60 (by decide))) ?_
          case hO => exact off_cons (Ne.symm (hR0 (O, listOf #[] 0) (.head _))) (off_cons (Ne.symm (hoff (O, listOf ov.toArray on) (.tail _ (.head _)))) (off_cons (Nat.ne_of_lt lO.1) (off_cons (Nat.ne_of_lt lO.2.1) (off_cons (Nat.ne_of_lt lO.2.2.1) fun p hp => Nat.ne_of_lt (allLt_mem lO.2.2.2.2 p hp)))))
          intro h21 F21 N21
          k_steps
          refine hQ2 _ _ ?_
          refine te_end (Q := fun _ _ => True) (nw := (H, listOf hv2.toArray hn2) :: (O, listOf (ov ++ [Value.int (hpop hs).1 tr]).toArray (on + 1)) :: (S, listOf us.toArray cS) :: (Fl, listOf fv.toArray kf) :: (L' + 1, oc) :: rest) F21 (news_sub N21 ?_) ?_ ⟨hv2, (hpop hs).2, hn2, ov ++ [Value.int (hpop hs).1 tr], on + 1, hhv2, p3, p2, ?_, rfl, rfl, rfl, rfl⟩
          · intro p hp
            rcases List.mem_cons.mp hp with h | h
            · exact h ▸ .tail _ (.tail _ (.head _))
            · rcases List.mem_cons.mp h with h | h
              · exact h ▸ .tail _ (.head _)
              · rcases List.mem_cons.mp h with h | h
                · exact h ▸ .head _
                · exact .tail _ (.tail _ (.tail _ h))
          · exact off_cons (hoff (H, listOf hv.toArray hn) (.head _)) (off_cons (hoff (O, listOf ov.toArray on) (.tail _ (.head _))) fun p hp => hoff p (.tail _ (.tail _ hp)))
          · rw [htk, p1]; exact ints_snoc hov _ _
      case done1 =>
        intro m₂ nw h11 tk11 z0H F11 N11
        refine hide fun kH => ?_
        obtain ⟨hv, hs, hn, ov, on, hhv, hheap, hperm, hov, rfl, q1, q2, q3⟩ := z0H
        refine kH ?_
        clear kH
        rw [hus.length, List.drop_length] at hperm
        rw [hus.length, List.take_length] at hov
        have hs0 : hs = [] := by simpa using hperm.length_eq
        subst hs0
        cases hhv
        have F12 := fr_see [(Str.ofString "due", .ref S), (Str.ofString "out", .ref O), (Str.ofString "files", .ref Fl)] F11 (List.forall_mem_cons.mpr ⟨q1, List.forall_mem_cons.mpr ⟨q2, List.forall_mem_cons.mpr ⟨q3, fun _ h => nomatch h⟩⟩⟩)
        dsimp only [kstB] at F12
        clear F11
        k_steps
        refine ⟨?_⟩
        refine neI_led (vs := ov) (us := us) N11 (.tail _ (.head _)) hov (.tail _ (.tail _ (.head _))) hus (by first | exact Nat.le_of_ble_eq_true rfl | ktr_units) ?_
        simp only [decide_true, Bool.not_true]
        k_steps
        refine ⟨?_⟩
        rename_i T13 h13 F13 N13 l13
        refine neI_led (vs := []) (us := []) N13 (.tail _ (.head _)) .nil (.head _) .nil (by first | exact Nat.le_of_ble_eq_true rfl | ktr_units) ?_
        have N14 := news_sub (b := (H, listOf #[] hn) :: (O, listOf ov.toArray on) :: (S, listOf us.toArray cS) :: (Fl, listOf fv.toArray kf) :: (L' + 1, oc) :: rest) N13 fun p hp => .tail _ hp
        clear N13
        simp only [decide_true, Bool.not_true]
        k_steps
        refine ⟨?_⟩
        k_dflt (refine' Does.use (whole_does w O ov os on _ (.tail _ (.head _)) hov (by rw [pos.length_eq]; exact Nat.lt_trans hn60 (by decide))) ?_ ?_ ?_ ?_ ?_ ?_ ?_ ?_ ?_ ?_ ?_)
        all_goals try (first | ((with_reducible show Below _ _ _ _); k_asm) | ((with_reducible show Fr _ _ _ _); k_asm) | ((with_reducible show Frag.In _ _); k_asm) | ((with_reducible show News _ _ _ _); k_asm) | ((with_reducible show Top _ _ _ _ _ _); k_asm) | ((with_reducible show CodeHd _ _ _); first | assumption | exact CodeHd.keeps (by assumption) (Fr.keep (by assumption))) | ((with_reducible show Scope.kind _ = _); exact rfl) | ((with_reducible show _ < recursionLimit); first | exact droom (by with_reducible assumption) rfl | exact Nat.le_of_ble_eq_true rfl | ktr_room) | ((with_reducible show _ < cLine); first | exact uroom (by with_reducible assumption) rfl | exact Nat.le_of_ble_eq_true rfl | ktr_units))
        refine hide2 ?_
        rintro PH kH r news' ⟨rfl, rfl⟩
        refine kH _ _ ?_
        clear kH PH
        intro h15 tk15 F15 N15
        refine hide fun kH => ?_
        obtain ⟨x0, xs, rfl⟩ : ∃ x0 xs, os = x0 :: xs := by
          cases os with
          | nil => exact absurd pos.length_eq.symm (by simpa using hne)
          | cons x xs => exact ⟨x, xs, rfl⟩
        refine kH ?_
        clear kH
        have hol := pos.length_eq
        have hovl := hov.length
        simp only [List.length_cons] at hol hovl
        k_steps
        refine ⟨?_⟩
        rename_i h16 _ t16 u16 v16 hR16 F16 N16 _
        have hx60 : xs.length + 1 < 60 := by rw [hol]; exact hn60
        have hn1 : Builtin.Range.rangeSize 1 ((xs.length + 1 : Nat) : Int) 1 = ((xs.length : Nat) : Int) := by
          have := range_n 1 xs.length
          rw [show (1 : Int) + (xs.length : Int) = ((xs.length + 1 : Nat) : Int) from congrArg Int.ofNat (Nat.add_comm 1 _)] at this
          exact this
        refine for_range (n := xs.length) (RInv2 x0 xs H O Fl ((S, listOf us.toArray cS) :: (Fl, listOf fv.toArray kf) :: (L' + 1, oc) :: rest)) rfl hR16 (range_s (by decide) (by decide) (Int.le_trans (by decide : (-1000000 : Int) ≤ 0) (Int.natCast_nonneg _)) (Int.ofNat_lt.mpr (Nat.lt_trans hx60 (by decide)))) hn1 F16 N16 ⟨[], [], hn, ov, x0, on, .nil, Nat.le_refl _, hov, by simp, rfl, rfl, rfl⟩ ?turn3 ?done3
        case turn3 =>
          intro i ti m₃ nw h17 tk17 I oI hi17 z0H hoff F17 N17
          refine hide fun kH => ?_
          obtain ⟨hv, hs, hn, ov, acc, on, hhv, hsl, hov, hlay, rfl, q1, q2⟩ := z0H
          refine kH ?_
          clear kH
          refine absW fun Q4 hQ4 => ?_
          have F18 := fr_see [(Str.ofString "k", .int (1 + (i : Int)) ti), (Str.ofString "out", .ref O), (Str.ofString "files", .ref Fl)] F17 (List.forall_mem_cons.mpr ⟨rfl, List.forall_mem_cons.mpr ⟨q1, List.forall_mem_cons.mpr ⟨q2, fun _ h => nomatch h⟩⟩⟩)
          dsimp only [kstB] at F18
          clear F17
          have hovl := hov.length
          simp only [List.length_cons] at hovl
          k_with "subscriptTail Name Name ref int" => (with_reducible refine stop_here ?_)
          k_with "subscriptTail Name Constant ref int" => (with_reducible refine stop_here ?_)
          have ac0 : (0 : Int) < ((acc :: xs).length : Int) := Int.ofNat_lt.mpr (Nat.succ_pos _)
          have aci : 1 + i < (acc :: xs).length := by rw [Nat.add_comm]; exact Nat.succ_lt_succ hi17
          have ac1000 : (acc :: xs).length < 1000 := Nat.lt_trans hx60 (by decide)
          k_steps
          refine ⟨?_⟩
          refine item_list_ints (by is_list) hov (by decide) ac0 (by decide) ?_
          intro _
          k_steps
          refine ⟨?_⟩
          refine item_list_ints (by is_list) hov (Int.natCast_nonneg (1 + i)) (Int.ofNat_lt.mpr aci) (b63 aci ac1000) ?_
          intro _
          k_steps
          refine ⟨?_⟩
          have hRH : ∀ p ∈ [(I, oI)] ++ (O, listOf ov.toArray on) :: (S, listOf us.toArray cS) :: (Fl, listOf fv.toArray kf) :: (L' + 1, oc) :: rest, p.1 ≠ H :=
            off_cons (Ne.symm (hoff _ (.head _))) fun p hp => by
              rcases List.mem_cons.mp hp with h | h
              · rw [h]; exact hR0 (O, listOf #[] 0) (.head _)
              · exact hR0 p (.tail _ h)
          have hRO : ∀ p ∈ (S, listOf us.toArray cS) :: (Fl, listOf fv.toArray kf) :: (L' + 1, oc) :: rest, p.1 ≠ O := off_cons (Nat.ne_of_lt lO.1) (off_cons (Nat.ne_of_lt lO.2.1) (off_cons (Nat.ne_of_lt lO.2.2.1) fun p hp => Nat.ne_of_lt (allLt_mem lO.2.2.2.2 p hp)))
          have hIO : I ≠ O := Ne.symm (hoff _ (.tail _ (.head _)))
          have hHO : H ≠ O := Ne.symm (hR0 (O, listOf #[] 0) (.head _))
          refine append_led (vs := hv) F18 (news_front [_] N17) hRH (by rw [hhv.length]; exact Nat.lt_of_le_of_lt hsl (Nat.lt_trans hi17 (Nat.lt_trans (Nat.lt_trans (Nat.lt_succ_self _) hx60) (by decide)))) ?_
          intro h19 F19 N19
          have hz0 : (acc :: xs).getD (Int.toNat 0) 0 = acc := rfl
          have hzi : (acc :: xs).getD (1 + (i : Int)).toNat 0 = xs[i] := by
            rw [show (1 + (i : Int)).toNat = i + 1 from Nat.add_comm 1 i]
            simp [List.getD_eq_getElem?_getD, hi17]
          rw [hz0, hzi] at N19
          have N20 := news_sub (b := (O, listOf ov.toArray on) :: (H, listOf (hv ++ [Value.int (Builtin.bitAnd acc xs[i]) _]).toArray (hn + 1)) :: (I, oI) :: (S, listOf us.toArray cS) :: (Fl, listOf fv.toArray kf) :: (L' + 1, oc) :: rest) N19 (by
            intro p hp
            rcases List.mem_cons.mp hp with h | h
            · exact h ▸ .tail _ (.tail _ (.head _))
            · rcases List.mem_cons.mp h with h | h
              · exact h ▸ .head _
              · rcases List.mem_cons.mp h with h | h
                · exact h ▸ .tail _ (.head _)
                · exact .tail _ (.tail _ (.tail _ h)))
          clear N19
          k_steps
          refine ⟨?_⟩
          refine item_list_ints (by is_list) hov (by decide) ac0 (by decide) ?_
          intro _
          k_steps
          refine ⟨?_⟩
          refine item_list_ints (by is_list) hov (Int.natCast_nonneg (1 + i)) (Int.ofNat_lt.mpr aci) (b63 aci ac1000) ?_
          intro _
          k_steps
          rename_i h22 F22 N22 hi22 _ _
          simp only [hz0, hzi] at hi22 N22
          rw [List.drop_eq_getElem_cons hi17] at hlay
          refine hQ4 _ _ ?_
          refine te_end (Q := fun _ _ => True) F22 (news_rev3 N22) ?_ ⟨_, hs ++ [Builtin.bitAnd acc xs[i]], _, _, Builtin.bitOr acc xs[i], _, ints_snoc hhv _ _, by rw [List.length_append]; exact Nat.succ_le_succ hsl, hi22, ?_, rfl, rfl, rfl⟩
          · exact off_cons (hoff (H, listOf hv.toArray hn) (.head _)) (off_cons (hoff (O, listOf ov.toArray on) (.tail _ (.head _))) fun p hp => hoff p (.tail _ (.tail _ hp)))
          · rw [hlay]; simp [lay]
        case done3 =>
          intro m₃ nw h17 tk17 z0H F17 N17
          refine hide fun kH => ?_
          obtain ⟨hv, hs, hn, ov, acc, on, hhv, hsl, hov, hlay, rfl, q1, q2⟩ := z0H
          refine kH ?_
          clear kH
          rw [List.drop_length] at hlay
          have F18 := fr_see [(Str.ofString "out", .ref O), (Str.ofString "files", .ref Fl)] F17 (List.forall_mem_cons.mpr ⟨q1, List.forall_mem_cons.mpr ⟨q2, fun _ h => nomatch h⟩⟩)
          dsimp only [kstB] at F18
          clear F17
          have hovl := hov.length
          simp only [List.length_cons] at hovl
          k_steps
          refine ⟨?_⟩
          refine item_list_ints (by is_list) hov (by decide) (Int.ofNat_lt.mpr (Nat.succ_pos _)) (by decide) ?_
          intro _
          k_steps
          refine ⟨?_⟩
          refine append_led (vs := fv) F18 (news_front [_, _, _] N17) ?hFl ?hfl ?_
          case hFl => exact off_cons (Ne.symm (Nat.ne_of_gt lF.2.1)) (off_cons (Nat.ne_of_gt lO.2.1) (off_cons (Nat.ne_of_gt (lS _ (.head _))) (off_cons (Nat.ne_of_lt lF.1) fun p hp => Nat.ne_of_lt (allLt_mem lF.2.2 p hp))))
          case hfl => rw [hfv.length]; exact Nat.lt_of_le_of_lt (Nat.le_add_right _ _) (Nat.lt_trans hl' (by decide))
          intro h19 F19 N19
          k_steps
          have hz0 : (acc :: xs).getD (Int.toNat 0) 0 = acc := rfl
          rw [hz0] at N19
          refine hQ1 _ _ ?_
          refine ws_end (Q := fun _ _ => True) F19 (news_pick5 N19) (Nat.lt_of_lt_of_eq (Nat.lt_succ_of_le hsl) hol) ⟨hv, hs, hn, _, fs' ++ [acc], _, rfl, hhv, by rw [List.length_append, Nat.add_assoc]; exact Nat.lt_of_le_of_lt (Nat.add_le_add_left (by rw [Nat.add_comm, ← hol]; exact Nat.succ_le_succ hsl) _) hl', fun gs hg => ?_, ints_snoc hfv _ _, rfl, rfl⟩
          · have := hR ((lay x0 xs).1 :: gs) (Rounds.step pos (by rw [hlay]; simpa [lay] using hg))
            rw [hlay] at this
            simpa [lay] using this
end Mine

end
section
open PySem PySem.W PyProof.Rows PyProof.Rows.LCg PyProof.Rows.LCt
set_option Elab.async false
set_option maxRecDepth 100000
set_option maxHeartbeats 4000000
set_option pp.deepTerms false
set_option pp.deepTerms.threshold 6
namespace Mine
/-- the law's own def -/
noncomputable def lawS : Stmt := match PySem.Challenge.pw_oy0149_01.main.body[37]? with
  | some s => s
  | _ => .Pass ⟨0, 0, 0, 0⟩
noncomputable abbrev lawEnv (L fa : Addr) (cd : Value) : Env := envOfC (Str.ofString "law") (dScope lawS) L fa cd
noncomputable abbrev lawA (L fa : Addr) (cd : Value) : Around := callerA.deeper (lawEnv L fa cd)
/-- what stands while the law is walked -/
structure Stands (w : World) (base : Heap) (p : Program) (loose : List Str) (mean : ExcName → Option Value) (mg mb : Str → Option Value) : Prop where
  B : Below callerA base [] base
  X : (hd.heap_39 w.params).In base
  T : Top p loose mean mg mb base
  C1 : CodeHd base 55 51
  C2 : CodeHd base 48 44
/-- the table of a def's code, empty or grown -/
noncomputable def T44 (tl : Led) : Prop := tl = [(44, tabObj #[])] ∨ ∃ q, CodeOk (Str.ofString "_int2digits.<locals>.inner") q ∧ tl = tabOf 44 43 4 q
noncomputable def T51 (tl : Led) : Prop := tl = [(51, tabObj #[])] ∨ ∃ q, CodeOk (Str.ofString "_digits2int.<locals>.inner") q ∧ tl = tabOf 51 58 4 q
theorem i2d_any (w : World) (x : Int) (n : Nat) (t1 t2 : Tok) (tl rest : Led) (hT : T44 tl) (h44 : ∀ p ∈ rest, p.1 ≠ 44) (hx : 0 ≤ x) (hK : nd x n ≤ 600) (hn : 0 < n) (hn2 : n < 64) :
    Does w 49 [.int x t1, .int n t2] 650 (tl ++ rest) (fun r news' => ∃ D vs k tl', r = .ref D ∧ IntsAre vs (digs x n) ∧ T44 tl' ∧ news' = (D, listOf vs.toArray k) :: (tl' ++ rest) ∧ (∀ p ∈ rest, p.1 < D) ∧ 44 ≠ D ∧ (∀ p ∈ tl', p ∈ tl ∨ p.1 = 44 ∨ ∀ q ∈ rest, q.1 < p.1)) := by
  rcases hT with rfl | ⟨q, hq, rfl⟩
  · have H := int2digits_miss w x n t1 t2 rest h44 hx hK hn hn2
    intro p loose mean mg mb dp un gd cn cs a ccd cl outer A₀ base h₀ L m s Q E B F X N T C1 C2 hck hdp hun hret
    refine H p loose mean mg mb dp un gd cn cs a ccd cl outer A₀ base h₀ L m s Q E B F X N T C1 C2 hck hdp hun ?_
    intro r news' h' tk' z0H F' N'
    refine hide fun kH => ?_
    obtain ⟨D, vs, k, q, rfl, hi, hq, rfl, h1, h2, h3, h4⟩ := z0H
    refine kH ?_
    clear kH
    refine hret _ _ _ _ ⟨D, vs, k, tabOf 44 43 4 q, rfl, hi, .inr ⟨q, hq, rfl⟩, rfl, h1, Nat.ne_of_lt h2, ?_⟩ F' N'
    intro p hp
    rcases List.mem_cons.mp hp with rfl | hp
    · exact .inr (.inl rfl)
    · rw [List.mem_singleton.mp hp]; exact .inr (.inr h4)
  · have H := int2digits_hit w x n t1 t2 rest q hq hx hK hn hn2
    intro p loose mean mg mb dp un gd cn cs a ccd cl outer A₀ base h₀ L m s Q E B F X N T C1 C2 hck hdp hun hret
    refine H p loose mean mg mb dp un gd cn cs a ccd cl outer A₀ base h₀ L m s Q E B F X N T C1 C2 hck hdp hun ?_
    intro r news' h' tk' z0H F' N'
    refine hide fun kH => ?_
    obtain ⟨D, vs, k, rfl, hi, rfl, h1⟩ := z0H
    refine kH ?_
    clear kH
    exact hret _ _ _ _ ⟨D, vs, k, tabOf 44 43 4 q, rfl, hi, .inr ⟨q, hq, rfl⟩, rfl, fun p hp => h1 p (List.mem_append_right _ hp), Nat.ne_of_lt (h1 _ (.head _)), fun p hp => .inl hp⟩ F' N'
theorem d2i_any (w : World) (n : Nat) (t2 : Tok) (tl rest : Led) (Dg : Addr) (vs : List Value) (ns : List Int) (k : Nat) (hT : T51 tl) (hm : (Dg, listOf vs.toArray k) ∈ rest) (hi : IntsAre vs ns) (hnl : ns.length < 600) (hb : ∀ i, 0 ≤ ns.getD i 0 ∧ ns.getD i 0 < 2 ^ 64) (h51 : ∀ p ∈ rest, p.1 ≠ 51) (hn : 0 < n) (hn2 : n < 64) :
    Does w 56 [.ref Dg, .int n t2] 650 (tl ++ rest) (fun r news' => (∃ t, r = .int (val n ns 0 ns.length) t) ∧ ∃ tl', T51 tl' ∧ news' = tl' ++ rest ∧ (∀ p ∈ tl', p ∈ tl ∨ p.1 = 51 ∨ ∀ q ∈ rest, q.1 < p.1)) := by
  rcases hT with rfl | ⟨q, hq, rfl⟩
  · have H := digits2int_miss w n t2 rest Dg vs ns k hm hi hnl hb h51 hn hn2
    intro p loose mean mg mb dp un gd cn cs a ccd cl outer A₀ base h₀ L m s Q E B F X N T C1 C2 hck hdp hun hret
    refine H p loose mean mg mb dp un gd cn cs a ccd cl outer A₀ base h₀ L m s Q E B F X N T C1 C2 hck hdp hun ?_
    intro r news' h' tk' z0H F' N'
    refine hide fun kH => ?_
    obtain ⟨ht, q, hq, rfl, h1⟩ := z0H
    refine kH ?_
    clear kH
    refine hret _ _ _ _ ⟨ht, tabOf 51 58 4 q, .inr ⟨q, hq, rfl⟩, rfl, ?_⟩ F' N'
    intro p hp
    rcases List.mem_cons.mp hp with rfl | hp
    · exact .inr (.inl rfl)
    · rw [List.mem_singleton.mp hp]; exact .inr (.inr h1)
  · have H := digits2int_hit w n t2 rest Dg vs ns k q hq hm hi hnl hb hn hn2
    intro p loose mean mg mb dp un gd cn cs a ccd cl outer A₀ base h₀ L m s Q E B F X N T C1 C2 hck hdp hun hret
    refine H p loose mean mg mb dp un gd cn cs a ccd cl outer A₀ base h₀ L m s Q E B F X N T C1 C2 hck hdp hun ?_
    intro r news' h' tk' z0H F' N'
    refine hide fun kH => ?_
    obtain ⟨ht, rfl⟩ := z0H
    refine kH ?_
    clear kH
    exact hret _ _ _ _ ⟨ht, tabOf 51 58 4 q, .inr ⟨q, hq, rfl⟩, rfl, fun p hp => .inl hp⟩ F' N'
end Mine

end
section
open PySem PySem.W PyProof.Rows
set_option Elab.async false
namespace Mine
/-- the addresses at which a turn may store -/
noncomputable def sp (L : Nat) : List Nat := [44, 51, L + 1, L + 1 + 1, L + 1 + 1 + 1, L + 1 + 1 + 1 + 1]
noncomputable def core (L : Addr) (cD cC cL cW : Obj) : Led := [((L + 1 + 1 + 1 + 1 : Nat), cD), ((L + 1 + 1 + 1 : Nat), cC), ((L + 1 + 1 : Nat), cL), ((L + 1 : Nat), cW)]
noncomputable def whole (L : Addr) (t4 t5 : Led) (cD cC cL cW : Obj) (rest : Led) : Led := t4 ++ (t5 ++ (core L cD cC cL cW ++ rest))
structure LedOk (L : Nat) (t4 t5 rest : Led) : Prop where
  k4 : T44 t4
  k5 : T51 t5
  s4 : ∀ p ∈ t4, p.1 = 44 ∨ p.1 ∉ sp L
  s5 : ∀ p ∈ t5, p.1 = 51 ∨ p.1 ∉ sp L
  sr : ∀ p ∈ rest, p.1 ∉ sp L
  big : 51 < L
theorem T44.has {t : Led} (h : T44 t) : ∃ o, ((44 : Nat), o) ∈ t := by
  rcases h with rfl | ⟨q, _, rfl⟩
  · exact ⟨_, .head _⟩
  · exact ⟨_, .head _⟩
theorem T51.has {t : Led} (h : T51 t) : ∃ o, ((51 : Nat), o) ∈ t := by
  rcases h with rfl | ⟨q, _, rfl⟩
  · exact ⟨_, .head _⟩
  · exact ⟨_, .head _⟩
section
variable {L : Nat} {t4 t5 rest : Led} {cD cC cL cW : Obj}
theorem LedOk.all (K : LedOk L t4 t5 rest) {D : Nat} (h : ∀ p ∈ whole L t4 t5 cD cC cL cW rest, p.1 ≠ D) : D ∉ sp L := by
  intro hm
  obtain ⟨o4, h4⟩ := K.k4.has
  obtain ⟨o5, h5⟩ := K.k5.has
  have c4 := h _ (List.mem_append_left _ h4)
  have c5 := h _ (List.mem_append_right _ (List.mem_append_left _ h5))
  have cc : ∀ p ∈ core L cD cC cL cW, p.1 ≠ D := fun p hp => h p (List.mem_append_right _ (List.mem_append_right _ (List.mem_append_left _ hp)))
  have c0 := cc _ (.head _)
  have c1 := cc _ (.tail _ (.head _))
  have c2 := cc _ (.tail _ (.tail _ (.head _)))
  have c3 := cc _ (.tail _ (.tail _ (.tail _ (.head _))))
  simp only [sp, List.mem_cons, List.not_mem_nil, or_false] at hm
  rcases hm with h | h | h | h | h | h
  · exact c4 h.symm
  · exact c5 h.symm
  · exact c3 h.symm
  · exact c2 h.symm
  · exact c1 h.symm
  · exact c0 h.symm
theorem LedOk.add (K : LedOk L t4 t5 rest) {D : Nat} {o : Obj} (h : ∀ p ∈ whole L t4 t5 cD cC cL cW rest, p.1 ≠ D) : LedOk L t4 t5 ((D, o) :: rest) :=
  ⟨K.k4, K.k5, K.s4, K.s5, List.forall_mem_cons.mpr ⟨K.all h, K.sr⟩, K.big⟩
theorem LedOk.sub (K : LedOk L t4 t5 rest) {rest' : Led} (h : ∀ p ∈ rest', p ∈ rest ∨ p.1 ∉ sp L) : LedOk L t4 t5 rest' :=
  ⟨K.k4, K.k5, K.s4, K.s5, fun p hp => (h p hp).elim (K.sr p) id, K.big⟩
/-- all but the table of _int2digits -/
theorem LedOk.not44 (K : LedOk L t4 t5 rest) : ∀ p ∈ t5 ++ (core L cD cC cL cW ++ rest), p.1 ≠ 44 := by
  have hb := K.big
  intro p hp
  rcases List.mem_append.mp hp with hp | hp
  · rcases K.s5 p hp with h | h
    · rw [h]; decide
    · intro e; exact h (by rw [e]; simp [sp])
  · rcases List.mem_append.mp hp with hp | hp
    · simp only [core, List.mem_cons, List.not_mem_nil, or_false] at hp
      have g : 44 < L := Nat.lt_trans (by decide) hb
      rcases hp with rfl | rfl | rfl | rfl
      · exact Nat.ne_of_gt (Nat.lt_add_right 4 g)
      · exact Nat.ne_of_gt (Nat.lt_add_right 3 g)
      · exact Nat.ne_of_gt (Nat.lt_add_right 2 g)
      · exact Nat.ne_of_gt (Nat.lt_add_right 1 g)
    · intro e; exact K.sr p hp (by rw [e]; simp [sp])
theorem LedOk.not51 (K : LedOk L t4 t5 rest) : ∀ p ∈ t4 ++ (core L cD cC cL cW ++ rest), p.1 ≠ 51 := by
  have hb := K.big
  intro p hp
  rcases List.mem_append.mp hp with hp | hp
  · rcases K.s4 p hp with h | h
    · rw [h]; decide
    · intro e; exact h (by rw [e]; simp [sp])
  · rcases List.mem_append.mp hp with hp | hp
    · simp only [core, List.mem_cons, List.not_mem_nil, or_false] at hp
      rcases hp with rfl | rfl | rfl | rfl
      · exact Nat.ne_of_gt (Nat.lt_add_right 4 hb)
      · exact Nat.ne_of_gt (Nat.lt_add_right 3 hb)
      · exact Nat.ne_of_gt (Nat.lt_add_right 2 hb)
      · exact Nat.ne_of_gt (Nat.lt_add_right 1 hb)
    · intro e; exact K.sr p hp (by rw [e]; simp [sp])
theorem not_sp {D : Nat} (hb : 51 < L) (h : L + 1 + 1 + 1 + 1 < D) : D ∉ sp L := fun hm => by
  have l3 : L + 1 + 1 + 1 < D := Nat.lt_trans (Nat.lt_succ_self _) h
  have l2 : L + 1 + 1 < D := Nat.lt_trans (Nat.lt_succ_self _) l3
  have l1 : L + 1 < D := Nat.lt_trans (Nat.lt_succ_self _) l2
  have l0 : 51 < D := Nat.lt_trans hb (Nat.lt_trans (Nat.lt_succ_self L) l1)
  have all : ∀ x ∈ sp L, @LT.lt Nat _ x D := List.forall_mem_cons.mpr ⟨Nat.lt_trans (by decide : 44 < 51) l0, List.forall_mem_cons.mpr ⟨l0, List.forall_mem_cons.mpr ⟨l1, List.forall_mem_cons.mpr ⟨l2, List.forall_mem_cons.mpr ⟨l3, List.forall_mem_cons.mpr ⟨h, fun _ h => nomatch h⟩⟩⟩⟩⟩⟩
  exact Nat.lt_irrefl D (all D hm)
theorem LedOk.turn4 (K : LedOk L t4 t5 rest) {t4' rest' : Led} (k : T44 t4') (h : ∀ p ∈ t4', p ∈ t4 ∨ p.1 = 44 ∨ ∀ q ∈ rest', q.1 < p.1) (hr : ∀ p ∈ t5 ++ (core L cD cC cL cW ++ rest), p ∈ rest') : LedOk L t4' t5 rest := by
  have hb := K.big
  refine ⟨k, K.k5, fun p hp => ?_, K.s5, K.sr, K.big⟩
  rcases h p hp with h | h | h
  · exact K.s4 p h
  · exact .inl h
  · refine .inr fun hm => ?_
    have e := h _ (hr _ (List.mem_append_right _ (List.mem_append_left _ (List.mem_cons_self : ((L + 1 + 1 + 1 + 1 : Nat), cD) ∈ core L cD cC cL cW))))
    exact not_sp hb (ltN e) hm
theorem LedOk.turn5 (K : LedOk L t4 t5 rest) {t5' rest' : Led} (k : T51 t5') (h : ∀ p ∈ t5', p ∈ t5 ∨ p.1 = 51 ∨ ∀ q ∈ rest', q.1 < p.1) (hr : ∀ p ∈ t4 ++ (core L cD cC cL cW ++ rest), p ∈ rest') : LedOk L t4 t5' rest := by
  have hb := K.big
  refine ⟨K.k4, k, K.s4, fun p hp => ?_, K.sr, K.big⟩
  rcases h p hp with h | h | h
  · exact K.s5 p h
  · exact .inl h
  · refine .inr fun hm => ?_
    have e := h _ (hr _ (List.mem_append_right _ (List.mem_append_left _ (List.mem_cons_self : ((L + 1 + 1 + 1 + 1 : Nat), cD) ∈ core L cD cC cL cW))))
    exact not_sp hb (ltN e) hm
/-- all but one cell -/
theorem LedOk.notCell (K : LedOk L t4 t5 rest) (c : Nat) (hc : c = L + 1 + 1 ∨ c = L + 1 + 1 + 1 ∨ c = L + 1 + 1 + 1 + 1) : (∀ p ∈ t4, p.1 ≠ c) ∧ (∀ p ∈ t5, p.1 ≠ c) ∧ ∀ p ∈ rest, p.1 ≠ c := by
  have hb := K.big
  have hs : c ∈ sp L := by
    rcases hc with rfl | rfl | rfl
    · exact .tail _ (.tail _ (.tail _ (.head _)))
    · exact .tail _ (.tail _ (.tail _ (.tail _ (.head _))))
    · exact .tail _ (.tail _ (.tail _ (.tail _ (.tail _ (.head _)))))
  have hL : 51 < c := by
    rcases hc with rfl | rfl | rfl
    · exact Nat.lt_add_right 2 hb
    · exact Nat.lt_add_right 3 hb
    · exact Nat.lt_add_right 4 hb
  refine ⟨fun p hp e => ?_, fun p hp e => ?_, fun p hp e => K.sr p hp (e ▸ hs)⟩
  · rcases K.s4 p hp with h | h
    · exact absurd (h.symm.trans e) (Nat.ne_of_lt (Nat.lt_trans (by decide : 44 < 51) hL))
    · exact h (e ▸ hs)
  · rcases K.s5 p hp with h | h
    · exact absurd (h.symm.trans e) (Nat.ne_of_lt hL)
    · exact h (e ▸ hs)
theorem LedOk.new4 (K : LedOk L t4 t5 rest) {R : Led} {D : Nat} {o : Obj} (hR : ∀ p ∈ t5 ++ (core L cD cC cL cW ++ rest), p ∈ R) (h : ∀ p ∈ R, p.1 < D) (h44 : 44 ≠ D) : LedOk L t4 t5 ((D, o) :: rest) := by
  refine ⟨K.k4, K.k5, K.s4, K.s5, List.forall_mem_cons.mpr ⟨fun hm => ?_, K.sr⟩, K.big⟩
  have hb := K.big
  have e := ltN (h _ (hR _ (List.mem_append_right _ (List.mem_append_left _ (List.mem_cons_self : ((L + 1 + 1 + 1 + 1 : Nat), cD) ∈ core L cD cC cL cW)))))
  exact not_sp hb e hm
theorem mv_out {α : Type} {X Y B : List α} (A : List α) {x p : α} (h : p ∈ x :: (X ++ (Y ++ (A ++ B)))) : p ∈ X ++ (Y ++ (A ++ x :: B)) :=
  app_mono X (fun _ h => app_mono Y (fun _ h => app_swap (A := [x]) h) (app_swap (A := [x]) h)) (app_swap (A := [x]) h)
theorem mv_back {α : Type} {X Y B : List α} (A : List α) {x p : α} (h : p ∈ X ++ (Y ++ (A ++ x :: B))) : p ∈ x :: (X ++ (Y ++ (A ++ B))) :=
  app_swap (B := [x]) (app_mono X (fun _ h => app_swap (B := [x]) (app_mono Y (fun _ h => app_swap (B := [x]) h) h)) h)
theorem ins3 {h₀ h : Heap} {L : Addr} {a b c d : Addr × Obj} {t4 t5 rest : Led} {cD cC cL cW : Obj} (N : News h₀ L h (d :: a :: b :: c :: whole L t4 t5 cD cC cL cW rest)) : News h₀ L h (a :: b :: c :: whole L t4 t5 cD cC cL cW (d :: rest)) :=
  news_sub N fun _ hp => app_swap (A := [a, b, c]) (B := [d]) (app_mono [a, b, c] (fun _ h => mv_back (core L cD cC cL cW) h) hp)
theorem out4 {h₀ h : Heap} {L : Addr} {a b c : Addr × Obj} {t4 t5 rest : Led} {cD cC cL cW : Obj} (N : News h₀ L h (a :: b :: c :: whole L t4 t5 cD cC cL cW rest)) : News h₀ L h (t4 ++ (a :: b :: c :: (t5 ++ (core L cD cC cL cW ++ rest)))) :=
  news_sub N fun _ hp => app_swap (A := t4) (B := [a, b, c]) hp
theorem back4 {h₀ h : Heap} {L : Addr} {a b c d : Addr × Obj} {t4 t5 rest : Led} {cD cC cL cW : Obj} (N : News h₀ L h (d :: (t4 ++ (a :: b :: c :: (t5 ++ (core L cD cC cL cW ++ rest)))))) : News h₀ L h (a :: b :: c :: whole L t4 t5 cD cC cL cW (d :: rest)) :=
  news_sub N fun _ hp => app_swap (A := [a, b, c]) (B := d :: t4) (app_mono [a, b, c] (fun _ h => mv_back (core L cD cC cL cW) h) hp)
theorem out5 {h₀ h : Heap} {L : Addr} {a b c : Addr × Obj} {t4 t5 rest : Led} {cD cC cL cW : Obj} (N : News h₀ L h (a :: b :: c :: whole L t4 t5 cD cC cL cW rest)) : News h₀ L h (t5 ++ (a :: b :: c :: (t4 ++ (core L cD cC cL cW ++ rest)))) :=
  news_sub N fun _ hp => app_swap (A := t5) (B := a :: b :: c :: t4) hp
theorem back5 {h₀ h : Heap} {L : Addr} {a b c : Addr × Obj} {t4 t5 rest : Led} {cD cC cL cW : Obj} (N : News h₀ L h (t5 ++ (a :: b :: c :: (t4 ++ (core L cD cC cL cW ++ rest))))) : News h₀ L h (a :: b :: c :: whole L t4 t5 cD cC cL cW rest) :=
  news_sub N fun _ hp => app_swap (A := a :: b :: c :: t4) (B := t5) hp
theorem mem_whole {L : Addr} {t4 t5 rest : Led} {cD cC cL cW : Obj} {p : Addr × Obj} (h : p ∈ rest) : p ∈ whole L t4 t5 cD cC cL cW rest := List.mem_append_right _ (List.mem_append_right _ (List.mem_append_right _ h))
theorem mem_core {L : Addr} {t4 t5 rest : Led} {cD cC cL cW : Obj} {p : Addr × Obj} (h : p ∈ core L cD cC cL cW) : p ∈ whole L t4 t5 cD cC cL cW rest := List.mem_append_right _ (List.mem_append_right _ (List.mem_append_left _ h))
theorem off4 {L : Addr} {t4 t5 rest t4' R : Led} {cD cC cL cW : Obj} {d : Addr × Obj} {I C D : Addr} {oI oC oD : Obj} (k4 : T44 t4) (hR : R = (I, oI) :: (C, oC) :: (D, oD) :: (t5 ++ (core L cD cC cL cW ++ rest))) (off : ∀ p ∈ whole L t4 t5 cD cC cL cW rest, p.1 ≠ I ∧ p.1 ≠ C ∧ p.1 ≠ D)
    (h : ∀ p ∈ t4', p ∈ t4 ∨ p.1 = 44 ∨ ∀ q ∈ R, q.1 < p.1) (hd : ∀ p ∈ R, p.1 < d.1) : ∀ p ∈ whole L t4' t5 cD cC cL cW (d :: rest), p.1 ≠ I ∧ p.1 ≠ C ∧ p.1 ≠ D := by
  obtain ⟨o4, h4⟩ := k4.has
  have x4 := off _ (List.mem_append_left _ h4)
  subst hR
  have three : ∀ q : Addr × Obj, (∀ p ∈ (I, oI) :: (C, oC) :: (D, oD) :: (t5 ++ (core L cD cC cL cW ++ rest)), p.1 < q.1) → q.1 ≠ I ∧ q.1 ≠ C ∧ q.1 ≠ D := fun q hq =>
    ⟨Nat.ne_of_gt (hq _ (.head _)), Nat.ne_of_gt (hq _ (.tail _ (.head _))), Nat.ne_of_gt (hq _ (.tail _ (.tail _ (.head _))))⟩
  intro p hp
  rcases List.mem_append.mp hp with hp | hp
  · rcases h p hp with z | z | z
    · exact off p (List.mem_append_left _ z)
    · rw [z]; exact x4
    · exact three p z
  · rcases List.mem_append.mp hp with hp | hp
    · exact off p (List.mem_append_right _ (List.mem_append_left _ hp))
    · rcases List.mem_append.mp hp with hp | hp
      · exact off p (mem_core hp)
      · rcases List.mem_cons.mp hp with rfl | hp
        · exact three _ hd
        · exact off p (mem_whole hp)
theorem off5 {L : Addr} {t4 t5 rest t5' R : Led} {cD cC cL cW : Obj} {I C D : Addr} {oI oC oD : Obj} (k5 : T51 t5) (hR : R = (I, oI) :: (C, oC) :: (D, oD) :: (t4 ++ (core L cD cC cL cW ++ rest))) (off : ∀ p ∈ whole L t4 t5 cD cC cL cW rest, p.1 ≠ I ∧ p.1 ≠ C ∧ p.1 ≠ D)
    (h : ∀ p ∈ t5', p ∈ t5 ∨ p.1 = 51 ∨ ∀ q ∈ R, q.1 < p.1) : ∀ p ∈ whole L t4 t5' cD cC cL cW rest, p.1 ≠ I ∧ p.1 ≠ C ∧ p.1 ≠ D := by
  obtain ⟨o4, h4⟩ := k5.has
  have x4 := off _ (List.mem_append_right _ (List.mem_append_left _ h4))
  subst hR
  intro p hp
  rcases List.mem_append.mp hp with hp | hp
  · exact off p (List.mem_append_left _ hp)
  · rcases List.mem_append.mp hp with hp | hp
    · rcases h p hp with z | z | z
      · exact off p (List.mem_append_right _ (List.mem_append_left _ z))
      · rw [z]; exact x4
      · exact ⟨Nat.ne_of_gt (z _ (.head _)), Nat.ne_of_gt (z _ (.tail _ (.head _))), Nat.ne_of_gt (z _ (.tail _ (.tail _ (.head _))))⟩
    · rcases List.mem_append.mp hp with hp | hp
      · exact off p (mem_core hp)
      · exact off p (mem_whole hp)
end
theorem store_cell {M : Model} {A : Around} {E : Value → Shared → Prop} {s : Shared} {h₀ : Heap} {L c : Addr} {m : Str → Option Value} {R : Led} {oc : Obj} {v₀ : Option Value} {v : Value} {env : Env} {name : Str} {Q : Unit → Shared → Prop}
    (F : Fr h₀ L s.heap m) (N : News h₀ L s.heap ((c, oc) :: R)) (hd : oc.data = .cell v₀) (hR : ∀ p ∈ R, p.1 ≠ c)
    (h : ∀ h' oc', oc'.data = .cell (some v) → Fr h₀ L h' m → News h₀ L h' ((c, oc') :: R) → Q () { s with heap := h' })
    (hk : env.scope.kind = .function) (hl : env.kindOf name = some .cell) (hc : env.cells.lookup name = some c) : wpAny M A (storeName env name v) Q E s := by
  have hm := N _ (.head _)
  refine wpAny_storeName_cell hk hl hc ⟨oc, hm.1, hd⟩ fun h' hcell hsb => ?_
  obtain ⟨oc', ho, hod⟩ := hcell
  refine h h' oc' hod (F.change hsb hm.2.1 hm.2.2) fun p hp => ?_
  rcases List.mem_cons.mp hp with rfl | hp
  · exact ⟨ho, hm.2⟩
  · exact ⟨hsb.extBut _ _ (hR p hp) (N p (.tail _ hp)).1, (N p (.tail _ hp)).2⟩
theorem fr_back {h₀ h : Heap} {L : Addr} {m : Str → Option Value} (ps : List (Str × Value)) (hp : ∀ p ∈ ps, m p.1 = some p.2) (F : Fr h₀ L h (kstB m ps)) : Fr h₀ L h m := by
  have : kstB m ps = m := funext fun z => kstB_eq hp (fun _ => rfl)
  rw [← this]; exact F
theorem fr_back1 {h₀ h : Heap} {L : Addr} {m : Str → Option Value} {n : Str} {v : Value} (ps : List (Str × Value)) (hp : ∀ p ∈ ps, m p.1 = some p.2) (F : Fr h₀ L h (fun y => if y = n then some v else kstB m ps y)) : Fr h₀ L h (fun y => if y = n then some v else m y) := by
  have : kstB m ps = m := funext fun z => kstB_eq hp (fun _ => rfl)
  rw [← this]; exact F
theorem fr_back2 {h₀ h : Heap} {L : Addr} {m : Str → Option Value} {n n2 : Str} {v v2 : Value} (ps : List (Str × Value)) (hp : ∀ p ∈ ps, m p.1 = some p.2) (F : Fr h₀ L h (fun y => if y = n then some v else if y = n2 then some v2 else kstB m ps y)) : Fr h₀ L h (fun y => if y = n then some v else if y = n2 then some v2 else m y) := by
  have : kstB m ps = m := funext fun z => kstB_eq hp (fun _ => rfl)
  rw [← this]; exact F
/-- the cell of letters taken out -/
theorem outL {h₀ h : Heap} {L : Addr} {t4 t5 rest : Led} {cD cC cL cW : Obj} (N : News h₀ L h (whole L t4 t5 cD cC cL cW rest)) : News h₀ L h (((L + 1 + 1 : Nat), cL) :: (t4 ++ (t5 ++ (((L + 1 + 1 + 1 + 1 : Nat), cD) :: ((L + 1 + 1 + 1 : Nat), cC) :: ((L + 1 : Nat), cW) :: rest)))) :=
  news_sub N fun _ hp => mv_out [((L + 1 + 1 + 1 + 1 : Nat), cD), ((L + 1 + 1 + 1 : Nat), cC)] hp
theorem backL {h₀ h : Heap} {L : Addr} {t4 t5 rest : Led} {cD cC cL cW : Obj} (N : News h₀ L h (((L + 1 + 1 : Nat), cL) :: (t4 ++ (t5 ++ (((L + 1 + 1 + 1 + 1 : Nat), cD) :: ((L + 1 + 1 + 1 : Nat), cC) :: ((L + 1 : Nat), cW) :: rest))))) : News h₀ L h (whole L t4 t5 cD cC cL cW rest) :=
  news_sub N fun _ hp => mv_back [((L + 1 + 1 + 1 + 1 : Nat), cD), ((L + 1 + 1 + 1 : Nat), cC)] hp
theorem offL {L : Nat} {t4 t5 rest : Led} {cD cC cW : Obj} (K : LedOk L t4 t5 rest) : ∀ p ∈ t4 ++ (t5 ++ (((L + 1 + 1 + 1 + 1 : Nat), cD) :: ((L + 1 + 1 + 1 : Nat), cC) :: ((L + 1 : Nat), cW) :: rest)), p.1 ≠ L + 1 + 1 := by
  obtain ⟨h1, h2, h3⟩ := K.notCell (L + 1 + 1) (.inl rfl)
  intro p hp
  rcases List.mem_append.mp hp with hp | hp
  · exact h1 p hp
  · rcases List.mem_append.mp hp with hp | hp
    · exact h2 p hp
    · rcases List.mem_cons.mp hp with rfl | hp
      · exact neN (by dsimp only; lia)
      · rcases List.mem_cons.mp hp with rfl | hp
        · exact neN (by dsimp only; lia)
        · rcases List.mem_cons.mp hp with rfl | hp
          · exact neN (by dsimp only; lia)
          · exact h3 p hp
theorem outC {h₀ h : Heap} {L : Addr} {t4 t5 rest : Led} {cD cC cL cW : Obj} (N : News h₀ L h (whole L t4 t5 cD cC cL cW rest)) : News h₀ L h (((L + 1 + 1 + 1 : Nat), cC) :: (t4 ++ (t5 ++ (((L + 1 + 1 + 1 + 1 : Nat), cD) :: ((L + 1 + 1 : Nat), cL) :: ((L + 1 : Nat), cW) :: rest)))) :=
  news_sub N fun _ hp => mv_out [((L + 1 + 1 + 1 + 1 : Nat), cD)] hp
theorem backC {h₀ h : Heap} {L : Addr} {t4 t5 rest : Led} {cD cC cL cW : Obj} (N : News h₀ L h (((L + 1 + 1 + 1 : Nat), cC) :: (t4 ++ (t5 ++ (((L + 1 + 1 + 1 + 1 : Nat), cD) :: ((L + 1 + 1 : Nat), cL) :: ((L + 1 : Nat), cW) :: rest))))) : News h₀ L h (whole L t4 t5 cD cC cL cW rest) :=
  news_sub N fun _ hp => mv_back [((L + 1 + 1 + 1 + 1 : Nat), cD)] hp
theorem offC {L : Nat} {t4 t5 rest : Led} {cD cL cW : Obj} (K : LedOk L t4 t5 rest) : ∀ p ∈ t4 ++ (t5 ++ (((L + 1 + 1 + 1 + 1 : Nat), cD) :: ((L + 1 + 1 : Nat), cL) :: ((L + 1 : Nat), cW) :: rest)), p.1 ≠ L + 1 + 1 + 1 := by
  obtain ⟨h1, h2, h3⟩ := K.notCell (L + 1 + 1 + 1) (.inr (.inl rfl))
  intro p hp
  rcases List.mem_append.mp hp with hp | hp
  · exact h1 p hp
  · rcases List.mem_append.mp hp with hp | hp
    · exact h2 p hp
    · rcases List.mem_cons.mp hp with rfl | hp
      · exact neN (by dsimp only; lia)
      · rcases List.mem_cons.mp hp with rfl | hp
        · exact neN (by dsimp only; lia)
        · rcases List.mem_cons.mp hp with rfl | hp
          · exact neN (by dsimp only; lia)
          · exact h3 p hp
theorem outD {h₀ h : Heap} {L : Addr} {t4 t5 rest : Led} {cD cC cL cW : Obj} (N : News h₀ L h (whole L t4 t5 cD cC cL cW rest)) : News h₀ L h (((L + 1 + 1 + 1 + 1 : Nat), cD) :: (t4 ++ (t5 ++ (((L + 1 + 1 + 1 : Nat), cC) :: ((L + 1 + 1 : Nat), cL) :: ((L + 1 : Nat), cW) :: rest)))) :=
  news_sub N fun _ hp => mv_out [] hp
theorem backD {h₀ h : Heap} {L : Addr} {t4 t5 rest : Led} {cD cC cL cW : Obj} (N : News h₀ L h (((L + 1 + 1 + 1 + 1 : Nat), cD) :: (t4 ++ (t5 ++ (((L + 1 + 1 + 1 : Nat), cC) :: ((L + 1 + 1 : Nat), cL) :: ((L + 1 : Nat), cW) :: rest))))) : News h₀ L h (whole L t4 t5 cD cC cL cW rest) :=
  news_sub N fun _ hp => mv_back [] hp
theorem offD {L : Nat} {t4 t5 rest : Led} {cC cL cW : Obj} (K : LedOk L t4 t5 rest) : ∀ p ∈ t4 ++ (t5 ++ (((L + 1 + 1 + 1 : Nat), cC) :: ((L + 1 + 1 : Nat), cL) :: ((L + 1 : Nat), cW) :: rest)), p.1 ≠ L + 1 + 1 + 1 + 1 := by
  obtain ⟨h1, h2, h3⟩ := K.notCell (L + 1 + 1 + 1 + 1) (.inr (.inr rfl))
  intro p hp
  rcases List.mem_append.mp hp with hp | hp
  · exact h1 p hp
  · rcases List.mem_append.mp hp with hp | hp
    · exact h2 p hp
    · rcases List.mem_cons.mp hp with rfl | hp
      · exact neN (by dsimp only; lia)
      · rcases List.mem_cons.mp hp with rfl | hp
        · exact neN (by dsimp only; lia)
        · rcases List.mem_cons.mp hp with rfl | hp
          · exact neN (by dsimp only; lia)
          · exact h3 p hp
end Mine

end
local macro_rules | `(tactic| k_mem) => `(tactic| assumption)
local macro_rules | `(tactic| walk_at "CompSrcT") => `(tactic| k_extra "CompSrcT")
local macro_rules | `(tactic| walk_at "CompSrc") => `(tactic| k_extra "CompSrc")
local macro_rules | `(tactic| walk_at "eval ListComp") => `(tactic| k_extra "eval ListComp")
local macro_rules | `(tactic| walk_at "exec Assign cons ListComp") => `(tactic| k_extra "exec Assign cons ListComp")
local macro_rules | `(tactic| walk_at "call ref") => `(tactic| k_extra "call ref")
local macro_rules | `(tactic| walk_at "compareOp NotEq ref ref") => `(tactic| k_extra "compareOp NotEq ref ref")
local macro_rules | `(tactic| walk_at "compareOp Eq ref ref") => `(tactic| k_extra "compareOp Eq ref ref")
local macro_rules | `(tactic| walk_at "execs cons") => `(tactic| k_extra "execs cons")
section
open PySem PySem.W PyProof.Rows in
theorem Mine.freshS1 {prog : Program} {w : World} {A : Around} {env : Env} {E : Value → Shared → Prop} {Q : Flow → Shared → Prop} {s : Shared} (h : Q .next s) : wpAny (model prog w) A (execs [] env) Q E s := by w_top off; k_with_none; walk1; exact h
open PySem PySem.W PyProof.Rows PyProof.Rows.LCg PyProof.Rows.LCt
set_option Elab.async false
set_option maxRecDepth 100000
set_option maxHeartbeats 4000000
set_option pp.deepTerms false
set_option pp.deepTerms.threshold 6
namespace Mine
theorem st1 (w : World) {p : Program} {loose : List Str} {mean : ExcName → Option Value} {mg mb : Str → Option Value} {base : Heap} (St : Stands w base p loose mean mg mb) (L fa : Addr) (cd : Value) (m : Str → Option Value) (s : Shared) (Q : Flow → Shared → Prop) (E : Value → Shared → Prop) (nw : Led)
    (M : Addr) (mv : List Value) (ms : List Int) (kM : Nat) (F : Fr base L s.heap m) (N : News base L s.heap nw) (hM : m (Str.ofString "modes") = some (.ref M)) (hm : (M, listOf mv.toArray kM) ∈ nw) (hi : IntsAre mv ms) (hl : ms.length ≤ 7)
    (cont : ∀ (h' : Heap) (tk' : Nat) (m' : Str → Option Value) (Rw Rg : Addr) (rv gv : List Value) (kr kg : Nat), Fr base L h' m' → News base L h' ((Rw, listOf rv.toArray kr) :: (Rg, listOf gv.toArray kg) :: nw) → (∀ p ∈ nw, p.1 ≠ Rw ∧ p.1 ≠ Rg) →
      m' (Str.ofString "modes") = some (.ref M) → m' (Str.ofString "rows") = some (.ref Rw) → m' (Str.ofString "rights") = some (.ref Rg) → StrsAre rv (ms.map fun v => mkS (fmRow v)) → IntsAre gv (ms.map fun v => Builtin.bitAnd v 4095) →
      wpAny (model PR w) (lawA L fa cd) (execs ((dBody lawS).drop 2) (lawEnv L fa cd)) Q E { s with heap := h', toks := tk' }) :
    wpAny (model PR w) (lawA L fa cd) (execs ((dBody lawS).drop 1) (lawEnv L fa cd)) Q E s := by
  have := lawRef
  refine hide fun kH => ?_
  obtain ⟨B, X, T, C1, C2⟩ := St
  refine kH ?_
  clear kH
  revert this X
  k_fill
  intro _ X
  have F1 := fr_see [(Str.ofString "modes", .ref M)] F (List.forall_mem_cons.mpr ⟨hM, fun _ h => nomatch h⟩)
  dsimp only [kstB] at F1
  clear F
  conv in (List.drop 1 (dBody lawS)) => whnf
  refine hide fun kH => ?_
  obtain ⟨sc, hsc⟩ : ∃ sc, dScope lawS = sc := ⟨_, rfl⟩
  refine kH ?_
  clear kH
  dsimp only [lawA, lawEnv] at cont ⊢
  rw [hsc] at cont ⊢
  conv at hsc => lhs; whnf
  subst hsc
  try k_fold
  k_with_none
  k_with "eval Name" => (k_here; k_dflt (refine' nameX_L2 ?F ?_ ?v ?a ?b; (case F => k_asm); (case a => exact rfl); (case b => exact rfl); (case v => exact rfl); k_whole))
  k_with "call ref" => (with_reducible refine stop_here ?_)
  k_with "CompSrcT" => (with_reducible refine stop_here ?_)
  k_with "CompSrc" => (with_reducible refine stop_here ?_)
  k_with "eval ListComp" => (with_reducible refine stop_here ?_)
  k_with "exec Assign cons ListComp" => (with_reducible refine stop_here ?_)
  k_with "compareOp NotEq ref ref" => (with_reducible refine stop_here ?_)
  k_with "compareOp Eq ref ref" => (with_reducible refine stop_here ?_)
  k_steps
  refine ⟨?_⟩
  k_dflt (refine LCg.ListComp_U (F₀ := by k_asm) (by with_unfolding_all rfl) (by decide) (by rfl) (by decide) (by rfl) ?_)
  k_steps
  refine ⟨?_⟩
  refine src_ledC (vs := mv) (fun i ys => StrsAre ys ((ms.take i).map fun v => mkS (fmRow v))) (hm) rfl F1 N (by rw [hi.length]; lia) .nil ?turn1 ?done1
  case turn1 =>
    intro i v I oI C oC D m₂ h3 tk3 E' ys Qturn1 hv hys hC hmm F3 N3 off n1 n2 n3 hQturn1
    refine hide fun kH => ?_
    obtain ⟨z, t, rfl, hz⟩ := ints_at hi hv
    refine kH ?_
    clear kH
    k_steps
    refine ⟨?_⟩
    k_dflt (refine' Does.use (filemode_does w z t _) ?_ ?_ ?_ ?_ ?_ ?_ ?_ ?_ ?_ ?_ ?_)
    all_goals try (first | ((with_reducible show Below _ _ _ _); k_asm) | ((with_reducible show Fr _ _ _ _); k_asm) | ((with_reducible show Frag.In _ _); k_asm) | ((with_reducible show News _ _ _ _); k_asm) | ((with_reducible show Top _ _ _ _ _ _); k_asm) | ((with_reducible show CodeHd _ _ _); first | assumption | exact CodeHd.keeps (by assumption) (Fr.keep (by assumption))) | ((with_reducible show Scope.kind _ = _); exact rfl) | ((with_reducible show _ < recursionLimit); first | exact droom (by with_reducible assumption) rfl | exact Nat.le_of_ble_eq_true rfl | ktr_room) | ((with_reducible show _ < cLine); first | exact uroom (by with_reducible assumption) rfl | exact Nat.le_of_ble_eq_true rfl | ktr_units))
    refine hide2 ?_
    rintro PH kH r news' ⟨⟨u, rfl⟩, rfl⟩
    refine kH _ _ ?_
    clear kH PH
    intro h4 tk4 F4 N4
    k_steps
    refine hQturn1 _ _ _ F4 N4 ?_
    try dsimp only
    rw [take_snoc hz, List.map_append]
    exact strs_snoc hys _ _
  case done1 =>
    intro g ys hys Rw h3 tk3 F3 N3 o1
    rw [hi.length, List.take_length] at hys
    k_steps
    refine ⟨?_⟩
    k_dflt (refine LCg.ListComp_U (F₀ := by k_asm) (by with_unfolding_all rfl) (by decide) (by rfl) (by decide) (by rfl) ?_)
    k_steps
    refine ⟨?_⟩
    refine src_ledC (vs := mv) (fun i zs => IntsAre zs ((ms.take i).map fun v => Builtin.bitAnd v 4095)) (.tail _ hm) rfl F3 N3 (by rw [hi.length]; lia) .nil ?turn2 ?done2
    case turn2 =>
      intro i v I oI C oC D m₂ h4 tk4 E' zs Qturn2 hv hzs hC hmm F4 N4 off n1 n2 n3 hQturn2
      refine hide fun kH => ?_
      obtain ⟨z, t, rfl, hz⟩ := ints_at hi hv
      refine kH ?_
      clear kH
      k_steps
      refine ⟨?_⟩
      k_dflt (refine' Does.use (imode_does w z t _) ?_ ?_ ?_ ?_ ?_ ?_ ?_ ?_ ?_ ?_ ?_)
      all_goals try (first | ((with_reducible show Below _ _ _ _); k_asm) | ((with_reducible show Fr _ _ _ _); k_asm) | ((with_reducible show Frag.In _ _); k_asm) | ((with_reducible show News _ _ _ _); k_asm) | ((with_reducible show Top _ _ _ _ _ _); k_asm) | ((with_reducible show CodeHd _ _ _); first | assumption | exact CodeHd.keeps (by assumption) (Fr.keep (by assumption))) | ((with_reducible show Scope.kind _ = _); exact rfl) | ((with_reducible show _ < recursionLimit); first | exact droom (by with_reducible assumption) rfl | exact Nat.le_of_ble_eq_true rfl | ktr_room) | ((with_reducible show _ < cLine); first | exact uroom (by with_reducible assumption) rfl | exact Nat.le_of_ble_eq_true rfl | ktr_units))
      refine hide2 ?_
      rintro PH kH r news' ⟨⟨u, rfl⟩, rfl⟩
      refine kH _ _ ?_
      clear kH PH
      intro h5 tk5 F5 N5
      k_steps
      refine hQturn2 _ _ _ F5 N5 ?_
      try dsimp only
      rw [take_snoc hz, List.map_append]
      exact ints_snoc hzs _ _
    case done2 =>
      intro g zs hzs Rg h4 tk4 F4 N4 o2
      rw [hi.length, List.take_length] at hzs
      k_with "execs cons" => (with_reducible refine stop_here ?_)
      k_steps
      refine ⟨?_⟩
      rename_i F5 N5
      exact cont _ _ _ Rw Rg ys zs _ _ F5 (news_sub N5 (by
        intro p hp
        rcases List.mem_cons.mp hp with h | h
        · exact h ▸ .tail _ (.tail _ (.head _))
        · rcases List.mem_cons.mp h with h | h
          · exact h ▸ .tail _ (.head _)
          · exact .tail _ (.tail _ (.tail _ h)))) (fun p hp => ⟨off1_mem o1 p hp, off1_mem o2 p (.tail _ hp)⟩) rfl rfl rfl hys hzs
end Mine

end
section
set_option Elab.async false
set_option maxRecDepth 100000
namespace Mine
open PySem PySem.W
theorem and_even (v y : Int) : Builtin.bitAnd v (2 * y) = 2 * Builtin.bitAnd (v / 2) y := by
  rw [kbt_halves, Int.mul_ediv_cancel_left _ (by decide), Int.mul_emod_right]; simp
theorem and_odd (v y : Int) : Builtin.bitAnd v (2 * y + 1) = v % 2 + 2 * Builtin.bitAnd (v / 2) y := by
  rw [kbt_halves, show (2 * y + 1) / 2 = y by lia, show (2 * y + 1) % 2 = 1 by lia]
  rcases Int.emod_two_eq v with h | h <;> rw [h] <;> simp [Int.add_comm]
theorem dd (v : Int) {a b c : Int} (ha : 0 ≤ a) (h : a * b = c) : v / a / b = v / c := by rw [Int.ediv_ediv_of_nonneg ha, h]
theorem and_pow : ∀ (j : Nat) (v y : Int), Builtin.bitAnd v (2 ^ j * y) = 2 ^ j * Builtin.bitAnd (v / 2 ^ j) y
  | 0, v, y => by simp
  | j + 1, v, y => by
    rw [Int.pow_succ, Int.mul_comm (2 ^ j) 2, Int.mul_assoc, and_even, and_pow j, dd v (by decide) rfl, Int.mul_assoc]
theorem two_bits (v : Int) (j k : Nat) : Builtin.bitAnd v (2 ^ j * (2 * 2 ^ k + 1)) = v / 2 ^ j % 2 * 2 ^ j + v / 2 ^ (j + 1 + k) % 2 * 2 ^ (j + 1 + k) := by
  have P : (2 : Int) ^ (j + 1 + k) = 2 ^ j * (2 * 2 ^ k) := by rw [Int.pow_add, Int.pow_succ, Int.mul_assoc]
  rw [and_pow, and_odd, kbt_bit, dd (v / 2 ^ j) (by decide) rfl, dd v (Int.le_of_lt (p2 j)) rfl, P, Int.mul_add, Int.mul_comm (2 ^ j) (v / 2 ^ j % 2), Int.mul_left_comm 2, Int.mul_left_comm (2 ^ j)]
theorem a61440 (v : Int) : Builtin.bitAnd v 61440 = v / 4096 % 16 * 4096 := by
  rw [show (61440 : Int) = 2 ^ 12 * (2 ^ 4 - 1) by decide, and_pow, kbt_mask, Int.mul_comm, show (2 : Int) ^ 12 = 4096 by decide, show (2 : Int) ^ 4 = 16 by decide]
theorem aBit (v : Int) (j : Nat) : (Builtin.bitAnd v (2 ^ j) == 2 ^ j) = decide (v / 2 ^ j % 2 = 1) := by
  rw [kbt_bit]
  have h := Int.emod_two_eq (v / 2 ^ j)
  have hp : (0 : Int) < 2 ^ j := p2 j
  rcases h with h | h <;> rw [h]
  · simp; lia
  · simp
theorem a4095 (v : Int) : Builtin.bitAnd v 4095 = v % 4096 := by
  have := kbt_mask v 12
  simpa using this
theorem imode_b (v : Int) : 0 ≤ Builtin.bitAnd v 4095 ∧ Builtin.bitAnd v 4095 < 4096 := by
  rw [a4095]; lia
theorem f1 (v : Int) (i : Nat) (hi : i ≠ 0) (j : Nat) (c : Nat) (m : Int) (hm : m = 2 ^ j) (h : fmTab.getD i [] = [(m, c)]) : fmAt v i = if v / 2 ^ j % 2 = 1 then c else 45 := by
  subst hm
  unfold fmAt
  rw [h]
  simp only [pick, hit, if_neg hi, aBit, decide_eq_true_eq]
theorem f3 (v : Int) (i : Nat) (hi : i ≠ 0) (j k : Nat) (c d e : Nat) (m m1 m2 : Int) (h1 : m1 = 2 ^ j) (h2 : m2 = 2 ^ k) (hm : m = m1 + m2) (hb : Builtin.bitAnd v m = v / 2 ^ k % 2 * 2 ^ k + v / 2 ^ j % 2 * 2 ^ j) (h : fmTab.getD i [] = [(m, c), (m1, d), (m2, e)]) :
    fmAt v i = if v / 2 ^ j % 2 = 1 then (if v / 2 ^ k % 2 = 1 then c else d) else if v / 2 ^ k % 2 = 1 then e else 45 := by
  subst h1 h2 hm
  unfold fmAt
  rw [h]
  simp only [pick, hit, if_neg hi, aBit, decide_eq_true_eq, hb]
  have hp1 : (0 : Int) < 2 ^ j := p2 j
  have hp2 : (0 : Int) < 2 ^ k := p2 k
  have ha := Int.emod_two_eq (v / 2 ^ j)
  have hc := Int.emod_two_eq (v / 2 ^ k)
  rcases ha with a | a <;> rcases hc with b | b <;> rw [a, b] <;> simp <;> lia
theorem e1 (v : Int) : fmAt v 1 = if v / 2 ^ 8 % 2 = 1 then 114 else 45 := f1 v 1 (by decide) 8 _ 256 (by decide) rfl
theorem e2 (v : Int) : fmAt v 2 = if v / 2 ^ 7 % 2 = 1 then 119 else 45 := f1 v 2 (by decide) 7 _ 128 (by decide) rfl
theorem e4 (v : Int) : fmAt v 4 = if v / 2 ^ 5 % 2 = 1 then 114 else 45 := f1 v 4 (by decide) 5 _ 32 (by decide) rfl
theorem e5 (v : Int) : fmAt v 5 = if v / 2 ^ 4 % 2 = 1 then 119 else 45 := f1 v 5 (by decide) 4 _ 16 (by decide) rfl
theorem e7 (v : Int) : fmAt v 7 = if v / 2 ^ 2 % 2 = 1 then 114 else 45 := f1 v 7 (by decide) 2 _ 4 (by decide) rfl
theorem e8 (v : Int) : fmAt v 8 = if v / 2 ^ 1 % 2 = 1 then 119 else 45 := f1 v 8 (by decide) 1 _ 2 (by decide) rfl
theorem e3 (v : Int) : fmAt v 3 = if v / 2 ^ 11 % 2 = 1 then (if v / 2 ^ 6 % 2 = 1 then 115 else 83) else if v / 2 ^ 6 % 2 = 1 then 120 else 45 :=
  f3 v 3 (by decide) 11 6 _ _ _ 2112 2048 64 (by decide) (by decide) (by decide) (by rw [show (2112 : Int) = 2 ^ 6 * (2 * 2 ^ 4 + 1) by decide]; exact two_bits v 6 4) rfl
theorem e6 (v : Int) : fmAt v 6 = if v / 2 ^ 10 % 2 = 1 then (if v / 2 ^ 3 % 2 = 1 then 115 else 83) else if v / 2 ^ 3 % 2 = 1 then 120 else 45 :=
  f3 v 6 (by decide) 10 3 _ _ _ 1032 1024 8 (by decide) (by decide) (by decide) (by rw [show (1032 : Int) = 2 ^ 3 * (2 * 2 ^ 6 + 1) by decide]; exact two_bits v 3 6) rfl
theorem e9 (v : Int) : fmAt v 9 = if v / 2 ^ 9 % 2 = 1 then (if v / 2 ^ 0 % 2 = 1 then 116 else 84) else if v / 2 ^ 0 % 2 = 1 then 120 else 45 :=
  f3 v 9 (by decide) 9 0 _ _ _ 513 512 1 (by decide) (by decide) (by decide) (by rw [show (513 : Int) = 2 ^ 0 * (2 * 2 ^ 8 + 1) by decide]; exact two_bits v 0 8) rfl
theorem row_len (v : Int) : (fmRow v).length = 10 := by simp [fmRow]
theorem row_eq (v : Int) : fmRow v = [fmAt v 0, fmAt v 1, fmAt v 2, fmAt v 3, fmAt v 4, fmAt v 5, fmAt v 6, fmAt v 7, fmAt v 8, fmAt v 9] := rfl
theorem to16 (v : Int) : ∃ k : Nat, k < 16 ∧ v / 4096 % 16 = (k : Int) := by
  obtain ⟨k, hk⟩ := Int.eq_ofNat_of_zero_le (Int.emod_nonneg (v / 4096) (by decide : (16 : Int) ≠ 0))
  refine ⟨k, ?_, hk⟩
  have := Int.emod_lt_of_pos (v / 4096) (by decide : (0 : Int) < 16)
  rw [hk] at this
  exact Int.ofNat_lt.mp this
theorem x0 (v : Int) : fmAt v 0 = chAt (Str.ofString "?pc?d?b?-?l?s???") (v / 4096 % 16) := by
  unfold fmAt
  have e : fmTab.getD 0 [] = [(40960, 108), (49152, 115), (32768, 45), (24576, 98), (16384, 100), (8192, 99), (4096, 112)] := rfl
  rw [e]
  simp only [pick, hit, if_true, a61440]
  obtain ⟨k, hk, e⟩ := to16 v
  rw [e]; clear e; revert k; decide +kernel
theorem fd (v : Int) (m : Nat) : v.fdiv (m : Int) = v / (m : Int) := Int.fdiv_eq_ediv_of_nonneg _ (Int.natCast_nonneg _)
theorem fm (v : Int) (m : Nat) : v.fmod (m : Int) = v % (m : Int) := Int.fmod_eq_emod_of_nonneg _ (Int.natCast_nonneg _)
theorem cr (k : Int) (h : k = 0 ∨ k = 1) : chAt (Str.ofString "-r") k = if k = 1 then 114 else 45 := by
  rcases h with rfl | rfl <;> decide +kernel
theorem cw (k : Int) (h : k = 0 ∨ k = 1) : chAt (Str.ofString "-w") k = if k = 1 then 119 else 45 := by
  rcases h with rfl | rfl <;> decide +kernel
theorem cx (a b : Int) (h : a = 0 ∨ a = 1) (h' : b = 0 ∨ b = 1) : chAt (Str.ofString "-xSs") (a + b * 2) = if b = 1 then (if a = 1 then 115 else 83) else if a = 1 then 120 else 45 := by
  rcases h with rfl | rfl <;> rcases h' with rfl | rfl <;> decide +kernel
theorem ct (a b : Int) (h : a = 0 ∨ a = 1) (h' : b = 0 ∨ b = 1) : chAt (Str.ofString "-xTt") (a + b * 2) = if b = 1 then (if a = 1 then 116 else 84) else if a = 1 then 120 else 45 := by
  rcases h with rfl | rfl <;> rcases h' with rfl | rfl <;> decide +kernel
theorem row_same (v : Int) : fmRow v = lrow v := by
  have hl : lrow v = [chAt (Str.ofString "?pc?d?b?-?l?s???") ((v.fdiv 4096).fmod 16),
    chAt (Str.ofString "-r") (((v.fdiv 64).fdiv 4).fmod 2), chAt (Str.ofString "-w") (((v.fdiv 64).fdiv 2).fmod 2), chAt (Str.ofString "-xSs") ((v.fdiv 64).fmod 2 + (v.fdiv 2048).fmod 2 * 2),
    chAt (Str.ofString "-r") (((v.fdiv 8).fdiv 4).fmod 2), chAt (Str.ofString "-w") (((v.fdiv 8).fdiv 2).fmod 2), chAt (Str.ofString "-xSs") ((v.fdiv 8).fmod 2 + (v.fdiv 1024).fmod 2 * 2),
    chAt (Str.ofString "-r") ((v.fdiv 4).fmod 2), chAt (Str.ofString "-w") ((v.fdiv 2).fmod 2), chAt (Str.ofString "-xTt") (v.fmod 2 + (v.fdiv 512).fmod 2 * 2)] := rfl
  have d2 : ∀ v : Int, v.fdiv 2 = v / 2 := fun v => fd v 2
  have d4 : ∀ v : Int, v.fdiv 4 = v / 4 := fun v => fd v 4
  have d8 : ∀ v : Int, v.fdiv 8 = v / 8 := fun v => fd v 8
  have d64 : ∀ v : Int, v.fdiv 64 = v / 64 := fun v => fd v 64
  have d512 : ∀ v : Int, v.fdiv 512 = v / 512 := fun v => fd v 512
  have d1024 : ∀ v : Int, v.fdiv 1024 = v / 1024 := fun v => fd v 1024
  have d2048 : ∀ v : Int, v.fdiv 2048 = v / 2048 := fun v => fd v 2048
  have d4096 : ∀ v : Int, v.fdiv 4096 = v / 4096 := fun v => fd v 4096
  have m2 : ∀ v : Int, v.fmod 2 = v % 2 := fun v => fm v 2
  have m16 : ∀ v : Int, v.fmod 16 = v % 16 := fun v => fm v 16
  rw [hl, row_eq]
  simp only [d2, d4, d8, d64, d512, d1024, d2048, d4096, m2, m16]
  have b := fun x : Int => Int.emod_two_eq x
  rw [cr _ (b (v / 64 / 4)), cw _ (b (v / 64 / 2)), cx _ _ (b (v / 64)) (b (v / 2048)),
    cr _ (b (v / 8 / 4)), cw _ (b (v / 8 / 2)), cx _ _ (b (v / 8)) (b (v / 1024)),
    cr _ (b (v / 4)), cw _ (b (v / 2)), ct _ _ (b v) (b (v / 512)), ← x0]
  rw [e1, e2, e3, e4, e5, e6, e7, e8, e9]
  rw [dd v (by decide : (0 : Int) ≤ 64) (by decide : (64 : Int) * 4 = 2 ^ 8), dd v (by decide : (0 : Int) ≤ 64) (by decide : (64 : Int) * 2 = 2 ^ 7), dd v (by decide : (0 : Int) ≤ 8) (by decide : (8 : Int) * 4 = 2 ^ 5), dd v (by decide : (0 : Int) ≤ 8) (by decide : (8 : Int) * 2 = 2 ^ 4)]
  simp
theorem x0_ok (v : Int) : fmAt v 0 < 0x110000 := by
  rw [x0]
  obtain ⟨k, hk, e⟩ := to16 v
  rw [e]; clear e; revert k; decide +kernel
theorem row_ok (v : Int) : ∀ c ∈ fmRow v, c < 0x110000 := by
  intro c hc
  rw [row_eq] at hc
  simp only [List.mem_cons, List.not_mem_nil, or_false] at hc
  rcases hc with h | h | h | h | h | h | h | h | h | h
  · rw [h]; exact x0_ok v
  · rw [h, e1]; split <;> decide
  · rw [h, e2]; split <;> decide
  · rw [h, e3]; split <;> split <;> decide
  · rw [h, e4]; split <;> decide
  · rw [h, e5]; split <;> decide
  · rw [h, e6]; split <;> split <;> decide
  · rw [h, e7]; split <;> decide
  · rw [h, e8]; split <;> decide
  · rw [h, e9]; split <;> split <;> decide
/-- the twelve low bits -/
noncomputable def bits12 (v : Int) : List Int := (List.range 12).map fun j => v / 2 ^ j % 2
theorem bit01 (v : Int) (j : Nat) : v / 2 ^ j % 2 = 0 ∨ v / 2 ^ j % 2 = 1 := Int.emod_two_eq _
theorem letters_eq (v : Int) : lettersOf (fmRow v) = bits12 v := by
  rw [row_eq, e1, e2, e3, e4, e5, e6, e7, e8, e9]
  have hl : ∀ a0 a1 a2 a3 a4 a5 a6 a7 a8 a9 : Nat, lettersOf [a0, a1, a2, a3, a4, a5, a6, a7, a8, a9] =
    [b2i (inS "xst" a9), b2i (mkS [a8] == Str.ofString "w"), b2i (mkS [a7] == Str.ofString "r"), b2i (inS "xst" a6), b2i (mkS [a5] == Str.ofString "w"), b2i (mkS [a4] == Str.ofString "r"),
     b2i (inS "xst" a3), b2i (mkS [a2] == Str.ofString "w"), b2i (mkS [a1] == Str.ofString "r"), b2i (inS "tT" a9), b2i (inS "sS" a6), b2i (inS "sS" a3)] := fun _ _ _ _ _ _ _ _ _ _ => rfl
  rw [hl]
  have hb : bits12 v = [v / 2 ^ 0 % 2, v / 2 ^ 1 % 2, v / 2 ^ 2 % 2, v / 2 ^ 3 % 2, v / 2 ^ 4 % 2, v / 2 ^ 5 % 2, v / 2 ^ 6 % 2, v / 2 ^ 7 % 2, v / 2 ^ 8 % 2, v / 2 ^ 9 % 2, v / 2 ^ 10 % 2, v / 2 ^ 11 % 2] := rfl
  rw [hb]
  have r1 : ∀ x : Int, x = 0 ∨ x = 1 → b2i (mkS [if x = 1 then 114 else 45] == Str.ofString "r") = x := by
    rintro x (rfl | rfl) <;> decide +kernel
  have w1 : ∀ x : Int, x = 0 ∨ x = 1 → b2i (mkS [if x = 1 then 119 else 45] == Str.ofString "w") = x := by
    rintro x (rfl | rfl) <;> decide +kernel
  have s1 : ∀ x y : Int, x = 0 ∨ x = 1 → y = 0 ∨ y = 1 → b2i (inS "xst" (if y = 1 then (if x = 1 then 115 else 83) else if x = 1 then 120 else 45)) = x := by
    rintro x y (rfl | rfl) (rfl | rfl) <;> decide +kernel
  have s2 : ∀ x y : Int, x = 0 ∨ x = 1 → y = 0 ∨ y = 1 → b2i (inS "sS" (if y = 1 then (if x = 1 then 115 else 83) else if x = 1 then 120 else 45)) = y := by
    rintro x y (rfl | rfl) (rfl | rfl) <;> decide +kernel
  have t1 : ∀ x y : Int, x = 0 ∨ x = 1 → y = 0 ∨ y = 1 → b2i (inS "xst" (if y = 1 then (if x = 1 then 116 else 84) else if x = 1 then 120 else 45)) = x := by
    rintro x y (rfl | rfl) (rfl | rfl) <;> decide +kernel
  have t2 : ∀ x y : Int, x = 0 ∨ x = 1 → y = 0 ∨ y = 1 → b2i (inS "tT" (if y = 1 then (if x = 1 then 116 else 84) else if x = 1 then 120 else 45)) = y := by
    rintro x y (rfl | rfl) (rfl | rfl) <;> decide +kernel
  have b := bit01 v
  rw [t1 _ _ (b 0) (b 9), t2 _ _ (b 0) (b 9), s1 _ _ (b 3) (b 10), s2 _ _ (b 3) (b 10), s1 _ _ (b 6) (b 11), s2 _ _ (b 6) (b 11), w1 _ (b 1), w1 _ (b 4), w1 _ (b 7), r1 _ (b 2), r1 _ (b 5), r1 _ (b 8)]
theorem letters12 (v : Int) : (lettersOf (fmRow v)).length = 12 := by rw [letters_eq]; rfl
end Mine

end
section
set_option Elab.async false
set_option maxRecDepth 100000
namespace Mine
open PySem PySem.W
noncomputable def padd (l : List Int) : List Int := l ++ List.replicate (12 - l.length) 0
theorem digs_len (v : Int) (n : Nat) : (digs v n).length = nd v n := by simp [digs]
theorem digs_b (v : Int) (n : Nat) (i : Nat) : 0 ≤ (digs v n).getD i 0 ∧ (digs v n).getD i 0 < 2 ^ n := by
  have hp : (0 : Int) < 2 ^ n := Int.pow_pos (by decide)
  rcases Nat.lt_or_ge i (nd v n) with h | h
  · simp only [digs, List.getD_eq_getElem?_getD, List.getElem?_map, List.getElem?_range h, Option.map_some, Option.getD_some]
    exact ⟨Int.emod_nonneg _ (Int.ne_of_gt hp), Int.emod_lt_of_pos _ hp⟩
  · rw [List.getD_eq_getElem?_getD, List.getElem?_eq_none (by rw [digs_len]; exact h)]
    exact ⟨Int.le_refl _, hp⟩
theorem nd_of_lt {x : Int} {n N : Nat} (hn : 0 < n) (hx : 0 ≤ x) (h : x < 2 ^ (n * N)) : nd x n ≤ N := up_div hn (PySem.intBits_le_iff.mpr (abs_pow hx h))
theorem padd_digs {x : Int} {n : Nat} (hn : 0 < n) (hx : 0 ≤ x) (h : nd x n ≤ 12) : padd (digs x n) = (List.range 12).map fun i => x / 2 ^ (n * i) % 2 ^ n := by
  apply List.ext_getElem?
  intro i
  unfold padd
  rw [digs_len]
  rcases Nat.lt_or_ge i (nd x n) with h1 | h1
  · rw [List.getElem?_append_left (by rw [digs_len]; exact h1)]
    have h12 : i < 12 := Nat.lt_of_lt_of_le h1 h
    simp only [digs, List.getElem?_map, List.getElem?_range h1, List.getElem?_range h12]
  · rw [List.getElem?_append_right (by rw [digs_len]; exact h1), digs_len]
    rcases Nat.lt_or_ge i 12 with h2 | h2
    · rw [List.getElem?_replicate, if_pos (Nat.sub_lt_sub_right h1 h2)]
      simp only [List.getElem?_map, List.getElem?_range h2, Option.map_some]
      have h3 := nd_pow hn hx
      have h4 : (2 : Int) ^ (n * nd x n) ≤ 2 ^ (n * i) := pow_le_pow2 (Nat.mul_le_mul_left n h1)
      rw [Int.ediv_eq_zero_of_lt hx (Int.lt_of_lt_of_le h3 h4)]
      simp
    · rw [List.getElem?_replicate, if_neg (by lia)]
      rw [List.getElem?_eq_none (by simp; lia)]
theorem letters_bits (v : Int) : padd (digs (Builtin.bitAnd v 4095) 1) = lettersOf (fmRow v) := by
  have hb := imode_b v
  have e12 : (2 : Int) ^ (1 * 12) = 4096 := by decide
  have hlt : Builtin.bitAnd v 4095 < 2 ^ (1 * 12) := by rw [e12]; exact hb.2
  rw [letters_eq, padd_digs (by decide) hb.1 (nd_of_lt (by decide) hb.1 hlt)]
  unfold bits12
  apply List.map_congr_left
  intro i hi
  have hi' : i < 12 := List.mem_range.mp hi
  have := dig_low v 1 12 i hi'
  rw [a4095]
  have e : (4096 : Int) = 2 ^ (1 * 12) := by decide
  rw [e]
  simpa using this
theorem digs_top {v : Int} {n : Nat} (hv : 0 ≤ v) (hn : 0 < n) : List.drop ((digs v n).length - 1) (digs v n) ≠ [0] := by
  rw [digs_len]
  rcases Nat.eq_zero_or_pos (nd v n) with h | h
  · have : digs v n = [] := List.length_eq_zero_iff.mp (by rw [digs_len]; exact h)
    rw [this]; simp
  · intro hd
    have h1 : (digs v n)[nd v n - 1]? = some 0 := by
      have := congrArg (fun l => l[0]?) hd
      simpa [List.getElem?_drop] using this
    have h2 : nd v n - 1 < nd v n := by lia
    simp only [digs, List.getElem?_map, List.getElem?_range h2, Option.map_some, Option.some.injEq] at h1
    have h3 := nd_pow hn hv
    have h4 : v / 2 ^ (n * (nd v n - 1)) < 2 ^ n := by
      have := dig_lt v n (nd v n - 1) 1 (by rw [Nat.sub_add_cancel h]; exact h3)
      simpa using this
    rw [Int.emod_eq_of_lt (Int.ediv_nonneg hv (Int.le_of_lt (p2 _))) h4] at h1
    have h5 : v < 2 ^ (n * (nd v n - 1)) := by
      rcases Int.lt_or_le v (2 ^ (n * (nd v n - 1))) with h | h
      · exact h
      · have := Int.ediv_le_ediv (p2 (n * (nd v n - 1))) h
        rw [Int.ediv_self (Int.ne_of_gt (p2 _)), h1] at this
        lia
    have := nd_of_lt hn hv h5
    lia
/-! val -/
theorem val_congr {n : Nat} {a b : List Int} : ∀ {len L : Nat}, (∀ i, L ≤ i → i < L + len → a.getD i 0 = b.getD i 0) → val n a L len = val n b L len
  | 0, _, _ => rfl
  | len + 1, L, h => by
    rw [val, val, h L (Nat.le_refl _) (by lia), val_congr (len := len) (L := L + 1) fun i h1 h2 => h i (by lia) (by lia)]
theorem val_sum {n : Nat} {a b c : List Int} : ∀ {len L : Nat}, (∀ i, L ≤ i → i < L + len → c.getD i 0 = a.getD i 0 + b.getD i 0) → val n c L len = val n a L len + val n b L len
  | 0, _, _ => rfl
  | len + 1, L, h => by
    rw [val, val, val, h L (Nat.le_refl _) (by lia), val_sum (len := len) (L := L + 1) (a := a) (b := b) fun i h1 h2 => h i (by lia) (by lia), Int.mul_add]
    lia
theorem val_zero {n : Nat} {a : List Int} : ∀ {len L : Nat}, (∀ i, L ≤ i → i < L + len → a.getD i 0 = 0) → val n a L len = 0
  | 0, _, _ => rfl
  | len + 1, L, h => by
    rw [val, h L (Nat.le_refl _) (by lia), val_zero (len := len) (L := L + 1) fun i h1 h2 => h i (by lia) (by lia)]
    simp
theorem val_full {n : Nat} {a : List Int} : ∀ {len L : Nat}, (∀ i, L ≤ i → i < L + len → a.getD i 0 = 2 ^ n - 1) → val n a L len = 2 ^ (n * len) - 1
  | 0, _, _ => by simp [val]
  | len + 1, L, h => by
    rw [val, h L (Nat.le_refl _) (by lia), val_full (len := len) (L := L + 1) fun i h1 h2 => h i (by lia) (by lia), Nat.mul_succ, Int.pow_add, Int.mul_sub, Int.mul_comm (2 ^ n)]
    lia
theorem val_lt {n : Nat} {a : List Int} (hb : ∀ i, 0 ≤ a.getD i 0 ∧ a.getD i 0 < 2 ^ n) : ∀ (len L : Nat), 0 ≤ val n a L len ∧ val n a L len < 2 ^ (n * len)
  | 0, _ => by simp [val]
  | len + 1, L => by
    obtain ⟨h1, h2⟩ := val_lt hb len (L + 1)
    obtain ⟨h3, h4⟩ := hb L
    rw [val, Nat.mul_succ, Int.pow_add]
    have hp := p2 n
    have h5 : (2 : Int) ^ n * val n a (L + 1) len ≤ 2 ^ n * (2 ^ (n * len) - 1) := Int.mul_le_mul_of_nonneg_left (by lia) (Int.le_of_lt hp)
    have h6 : 0 ≤ (2 : Int) ^ n * val n a (L + 1) len := Int.mul_nonneg (Int.le_of_lt hp) h1
    rw [Int.mul_sub, Int.mul_comm ((2 : Int) ^ n) (2 ^ (n * len))] at h5
    lia
theorem val_dig {n : Nat} {a : List Int} (hb : ∀ i, 0 ≤ a.getD i 0 ∧ a.getD i 0 < 2 ^ n) {N j : Nat} (hj : j < N) : val n a 0 N / 2 ^ (n * j) % 2 ^ n = a.getD j 0 := by
  have e : val n a 0 N = val n a 0 j + 2 ^ (n * j) * val n a (0 + j) (N - j) := by
    rw [← val_add, Nat.add_sub_cancel' (Nat.le_of_lt hj)]
  obtain ⟨k, hk⟩ : ∃ k, N - j = k + 1 := ⟨N - j - 1, by lia⟩
  obtain ⟨h1, h2⟩ := val_lt hb j 0
  rw [e, Int.add_mul_ediv_left _ _ (Int.ne_of_gt (p2 _)), Int.ediv_eq_zero_of_lt h1 h2, Int.zero_add, hk, val, Nat.zero_add, Int.add_mul_emod_self_left]
  exact Int.emod_eq_of_lt (hb j).1 (hb j).2
theorem getD_range (f : Nat → Int) (N i : Nat) : ((List.range N).map f).getD i 0 = if i < N then f i else 0 := by
  rw [List.getD_eq_getElem?_getD, List.getElem?_map]
  split
  · rename_i h; rw [List.getElem?_range h]; rfl
  · rename_i h; rw [List.getElem?_eq_none (by simp; lia)]; rfl
end Mine

end
section
open PySem PySem.W PyProof.Rows in
theorem Mine.freshS2 {prog : Program} {w : World} {A : Around} {env : Env} {E : Value → Shared → Prop} {Q : Flow → Shared → Prop} {s : Shared} (h : Q .next s) : wpAny (model prog w) A (execs [] env) Q E s := by w_top off; k_with_none; walk1; exact h
open PySem PySem.W PyProof.Rows PyProof.Rows.LCg PyProof.Rows.LCt
set_option Elab.async false
set_option maxRecDepth 100000
set_option maxHeartbeats 4000000
set_option pp.deepTerms false
set_option pp.deepTerms.threshold 6
namespace Mine
theorem st2 (w : World) {p : Program} {loose : List Str} {mean : ExcName → Option Value} {mg mb : Str → Option Value} {base : Heap} (St : Stands w base p loose mean mg mb) (L fa : Addr) (cd : Value) (m : Str → Option Value) (s : Shared) (Q : Flow → Shared → Prop) (E : Value → Shared → Prop) (nw : Led) (F : Fr base L s.heap m) (N : News base L s.heap nw)
    (M Rw : Addr) (mv rv : List Value) (ms : List Int) (kM kR : Nat) (hM : m (Str.ofString "modes") = some (.ref M)) (hRw : m (Str.ofString "rows") = some (.ref Rw)) (hm : (M, listOf mv.toArray kM) ∈ nw) (hrm : (Rw, listOf rv.toArray kR) ∈ nw) (hi : IntsAre mv ms) (hr : StrsAre rv (ms.map fun v => mkS (fmRow v))) (hl : ms.length ≤ 7)
    (cont : ∀ (h' : Heap) (tk' : Nat), Fr base L h' m → News base L h' nw → wpAny (model PR w) (lawA L fa cd) (execs ((dBody lawS).drop 3) (lawEnv L fa cd)) Q E { s with heap := h', toks := tk' }) :
    wpAny (model PR w) (lawA L fa cd) (execs ((dBody lawS).drop 2) (lawEnv L fa cd)) Q E s := by
  have := lawRef
  refine hide fun kH => ?_
  obtain ⟨B, X, T, C1, C2⟩ := St
  refine kH ?_
  clear kH
  revert this X
  k_fill
  intro _ X
  have hps : ∀ p ∈ [(Str.ofString "modes", Value.ref M), (Str.ofString "rows", Value.ref Rw)], m p.1 = some p.2 := List.forall_mem_cons.mpr ⟨hM, List.forall_mem_cons.mpr ⟨hRw, fun _ h => nomatch h⟩⟩
  have F1 := fr_see _ F hps
  dsimp only [kstB] at F1
  clear F
  conv in (List.drop 2 (dBody lawS)) => whnf
  refine hide fun kH => ?_
  obtain ⟨sc, hsc⟩ : ∃ sc, dScope lawS = sc := ⟨_, rfl⟩
  refine kH ?_
  clear kH
  dsimp only [lawA, lawEnv] at cont ⊢
  rw [hsc] at cont ⊢
  conv at hsc => lhs; whnf
  subst hsc
  try k_fold
  k_with_none
  k_with "eval Name" => (k_here; k_dflt (refine' nameX_L2 ?F ?_ ?v ?a ?b; (case F => k_asm); (case a => exact rfl); (case b => exact rfl); (case v => exact rfl); k_whole))
  k_with "call ref" => (with_reducible refine stop_here ?_)
  k_with "CompSrcT" => (with_reducible refine stop_here ?_)
  k_with "CompSrc" => (with_reducible refine stop_here ?_)
  k_with "eval ListComp" => (with_reducible refine stop_here ?_)
  k_with "exec Assign cons ListComp" => (with_reducible refine stop_here ?_)
  k_with "compareOp NotEq ref ref" => (with_reducible refine stop_here ?_)
  k_with "compareOp Eq ref ref" => (with_reducible refine stop_here ?_)
  k_steps
  refine ⟨?_⟩
  k_dflt (refine LCg.ListComp_U (F₀ := by k_asm) (by with_unfolding_all rfl) (by decide) (by rfl) (by decide) (by rfl) ?_)
  k_steps
  refine ⟨?_⟩
  refine src_ledC (vs := mv) (fun i ys => StrsAre ys ((ms.take i).map fun v => mkS (lrow v))) (hm) rfl F1 N (by rw [hi.length]; lia) .nil ?turn1 ?done1
  case turn1 =>
    intro i v I oI C oC D m₂ h3 tk3 E' ys Qturn1 hv hys hC hmm F3 N3 off n1 n2 n3 hQturn1
    refine hide fun kH => ?_
    obtain ⟨z, t, rfl, hz⟩ := ints_at hi hv
    refine kH ?_
    clear kH
    k_steps
    refine ⟨?_⟩
    k_dflt (refine' Does.use (lawrow_does w z t _) ?_ ?_ ?_ ?_ ?_ ?_ ?_ ?_ ?_ ?_ ?_)
    all_goals try (first | ((with_reducible show Below _ _ _ _); k_asm) | ((with_reducible show Fr _ _ _ _); k_asm) | ((with_reducible show Frag.In _ _); k_asm) | ((with_reducible show News _ _ _ _); k_asm) | ((with_reducible show Top _ _ _ _ _ _); k_asm) | ((with_reducible show CodeHd _ _ _); first | assumption | exact CodeHd.keeps (by assumption) (Fr.keep (by assumption))) | ((with_reducible show Scope.kind _ = _); exact rfl) | ((with_reducible show _ < recursionLimit); first | exact droom (by with_reducible assumption) rfl | exact Nat.le_of_ble_eq_true rfl | ktr_room) | ((with_reducible show _ < cLine); first | exact uroom (by with_reducible assumption) rfl | exact Nat.le_of_ble_eq_true rfl | ktr_units))
    refine hide2 ?_
    rintro PH kH r news' ⟨⟨u, rfl⟩, rfl⟩
    refine kH _ _ ?_
    clear kH PH
    intro h4 tk4 F4 N4
    k_steps
    refine hQturn1 _ _ _ F4 N4 ?_
    try dsimp only
    rw [take_snoc hz, List.map_append]
    exact strs_snoc hys _ _
  case done1 =>
    intro g ys hys D h3 tk3 F3 N3 o1
    rw [hi.length, List.take_length] at hys
    k_steps
    refine ⟨?_⟩
    have hok : ∀ f : Int → List Nat, (∀ v, f v = fmRow v) → ∀ x ∈ ms.map fun v => mkS (f v), PyData.strOk x = true := by
      intro f hf x hx
      refine hide fun kH => ?_
      obtain ⟨v, _, rfl⟩ := List.mem_map.mp hx
      refine kH ?_
      clear kH
      show Array.all _ _ = true
      rw [hf]
      simp only [mkS, List.all_toArray, List.all_eq_true, decide_eq_true_eq]
      exact row_ok v
    refine neS_led (hok _ fun _ => rfl) (hok _ fun v => (row_same v).symm) N3 (.tail _ hrm) hr (.head _) hys (by first | exact Nat.le_of_ble_eq_true rfl | ktr_units) ?_
    have e : (ms.map fun v => mkS (fmRow v)) = ms.map fun v => mkS (lrow v) := by
      apply List.map_congr_left
      intro v _
      rw [row_same]
    simp only [e, decide_true, Bool.not_true]
    k_with "execs cons" => (with_reducible refine stop_here ?_)
    k_steps
    refine ⟨?_⟩
    exact cont _ _ (fr_back _ hps F3) (news_sub N3 fun p hp => .tail _ hp)
end Mine

end
section
open PySem PySem.W PyProof.Rows in
theorem Mine.freshS3 {prog : Program} {w : World} {A : Around} {env : Env} {E : Value → Shared → Prop} {Q : Flow → Shared → Prop} {s : Shared} (h : Q .next s) : wpAny (model prog w) A (execs [] env) Q E s := by w_top off; k_with_none; walk1; exact h
open PySem PySem.W PyProof.Rows PyProof.Rows.LCg PyProof.Rows.LCt
set_option Elab.async false
set_option maxRecDepth 100000
set_option maxHeartbeats 4000000
set_option pp.deepTerms false
set_option pp.deepTerms.threshold 6
namespace Mine
theorem ins0 {h₀ h : Heap} {L : Addr} {d : Addr × Obj} {t4 t5 rest : Led} {cD cC cL cW : Obj} (N : News h₀ L h (d :: whole L t4 t5 cD cC cL cW rest)) : News h₀ L h (whole L t4 t5 cD cC cL cW (d :: rest)) :=
  news_sub N fun _ hp => mv_back (core L cD cC cL cW) hp
theorem i2d_one (w : World) (x : Int) (t1 t2 : Tok) (tl rest : Led) (hT : T44 tl) (h44 : ∀ p ∈ rest, p.1 ≠ 44) (hx : 0 ≤ x) (hK : nd x 1 ≤ 600) :
    Does w 49 [.int x t1, .int 1 t2] 650 (tl ++ rest) (fun r news' => ∃ D vs k tl', r = .ref D ∧ IntsAre vs (digs x 1) ∧ T44 tl' ∧ news' = (D, listOf vs.toArray k) :: (tl' ++ rest) ∧ (∀ p ∈ rest, p.1 < D) ∧ 44 ≠ D ∧ (∀ p ∈ tl', p ∈ tl ∨ p.1 = 44 ∨ ∀ q ∈ rest, q.1 < p.1)) :=
  i2d_any w x 1 t1 t2 tl rest hT h44 hx hK (by decide) (by decide)
theorem nd_small {x : Int} (hx : 0 ≤ x) (h : x < 4096) : nd x 1 ≤ 12 := by
  have h1 : x.natAbs < 2 ^ 12 := by
    have : (2 : Nat) ^ 12 = 4096 := by decide
    lia
  have := PySem.intBits_le_iff.mpr h1
  unfold nd
  lia
local macro_rules | `(tactic| walk_at "storeName") => `(tactic| k_extra "storeName")
theorem st3 (w : World) {p : Program} {loose : List Str} {mean : ExcName → Option Value} {mg mb : Str → Option Value} {base : Heap} (St : Stands w base p loose mean mg mb) (L fa : Addr) (cd : Value) (m : Str → Option Value) (s : Shared) (Q : Flow → Shared → Prop) (E : Value → Shared → Prop) (t4 t5 rest : Led) (cD cC cL cW : Obj) (F : Fr base L s.heap m) (N : News base L s.heap (whole L t4 t5 cD cC cL cW rest)) (K : LedOk L t4 t5 rest)
    (hcL : cL.data = .cell none) (Rw Rg : Addr) (rv gv : List Value) (ms gs : List Int) (kR kG : Nat) (hRw : m (Str.ofString "rows") = some (.ref Rw)) (hRg : m (Str.ofString "rights") = some (.ref Rg)) (hrm : (Rw, listOf rv.toArray kR) ∈ rest) (hgm : (Rg, listOf gv.toArray kG) ∈ rest)
    (hr : StrsAre rv (ms.map fun v => mkS (fmRow v))) (hg : IntsAre gv gs) (hl : ms.length ≤ 7) (hgl : gs.length ≤ 7) (hgb : ∀ x ∈ gs, 0 ≤ x ∧ x < 4096)
    (cont : ∀ (h' : Heap) (tk' : Nat) (t4' rest' : Led) (cL' : Obj) (Lt Bt : Addr) (lv bv : List Value) (kl kb : Nat), Fr base L h' (fun y => if y = Str.ofString "bits" then some (.ref Bt) else m y) → News base L h' (whole L t4' t5 cD cC cL' cW rest') → LedOk L t4' t5 rest' → (∀ p ∈ rest, p ∈ rest') →
      cL'.data = .cell (some (.ref Lt)) → (Lt, listOf lv.toArray kl) ∈ rest' → RowsAre rest' lv (ms.map fun v => lettersOf (fmRow v)) → (Bt, listOf bv.toArray kb) ∈ rest' → RowsAre rest' bv (gs.map fun v => digs v 1) →
      wpAny (model PR w) (lawA L fa cd) (execs ((dBody lawS).drop 4) (lawEnv L fa cd)) Q E { s with heap := h', toks := tk' }) :
    wpAny (model PR w) (lawA L fa cd) (execs ((dBody lawS).drop 3) (lawEnv L fa cd)) Q E s := by
  have := lawRef
  refine hide fun kH => ?_
  obtain ⟨B, X, T, C1, C2⟩ := St
  refine kH ?_
  clear kH
  revert this X
  k_fill
  intro _ X
  have hps : ∀ p ∈ [(Str.ofString "rows", Value.ref Rw), (Str.ofString "rights", Value.ref Rg)], m p.1 = some p.2 := List.forall_mem_cons.mpr ⟨hRw, List.forall_mem_cons.mpr ⟨hRg, fun _ h => nomatch h⟩⟩
  have F1 := fr_see _ F hps
  dsimp only [kstB] at F1
  clear F
  conv in (List.drop 3 (dBody lawS)) => whnf
  refine hide fun kH => ?_
  obtain ⟨sc, hsc⟩ : ∃ sc, dScope lawS = sc := ⟨_, rfl⟩
  refine kH ?_
  clear kH
  dsimp only [lawA, lawEnv] at cont ⊢
  rw [hsc] at cont ⊢
  conv at hsc => lhs; whnf
  subst hsc
  try k_fold
  k_with_none
  k_with "eval Name" => (k_here; k_dflt (refine' nameX_L2 ?F ?_ ?v ?a ?b; (case F => k_asm); (case a => exact rfl); (case b => exact rfl); (case v => exact rfl); k_whole))
  k_with "call ref" => (with_reducible refine stop_here ?_)
  k_with "CompSrcT" => (with_reducible refine stop_here ?_)
  k_with "CompSrc" => (with_reducible refine stop_here ?_)
  k_with "eval ListComp" => (with_reducible refine stop_here ?_)
  k_with "exec Assign cons ListComp" => (with_reducible refine stop_here ?_)
  k_with "compareOp NotEq ref ref" => (with_reducible refine stop_here ?_)
  k_with "compareOp Eq ref ref" => (with_reducible refine stop_here ?_)
  k_steps
  refine ⟨?_⟩
  k_dflt (refine LCg.ListComp_U (F₀ := by k_asm) (by with_unfolding_all rfl) (by decide) (by rfl) (by decide) (by rfl) ?_)
  k_steps
  refine ⟨?_⟩
  refine src_led (vs := rv) (fun i ys nw' => ∃ rest', nw' = whole L t4 t5 cD cC cL cW rest' ∧ LedOk L t4 t5 rest' ∧ (∀ p ∈ rest, p ∈ rest') ∧ RowsAre rest' ys ((ms.take i).map fun v => lettersOf (fmRow v))) (by rintro i ys nw' ⟨rest', rfl, _, hs, _⟩; exact mem_whole (hs _ hrm)) rfl F1 N (by rw [hr.length, List.length_map]; lia) ⟨rest, rfl, K, fun _ h => h, .nil⟩ ?turn1 ?done1
  case turn1 =>
    intro i v I oI C oC D m₂ h3 tk3 E' ys nw' hv z0H hC hmm F3 N3 off n1 n2 n3
    refine hide fun kH => ?_
    obtain ⟨rest', rfl, K', hs, hys⟩ := z0H
    obtain ⟨x, t, rfl, hx⟩ := strs_at hr hv
    obtain ⟨z, hz, rfl⟩ := map_at hx
    refine kH ?_
    clear kH
    refine absW fun Q1 hQ1 => ?_
    k_steps
    refine ⟨?_⟩
    k_dflt (refine' Does.use (letters_does w (fmRow z) (row_len z) t _) ?_ ?_ ?_ ?_ ?_ ?_ ?_ ?_ ?_ ?_ ?_)
    all_goals try (first | ((with_reducible show Below _ _ _ _); k_asm) | ((with_reducible show Fr _ _ _ _); k_asm) | ((with_reducible show Frag.In _ _); k_asm) | ((with_reducible show News _ _ _ _); k_asm) | ((with_reducible show Top _ _ _ _ _ _); k_asm) | ((with_reducible show CodeHd _ _ _); first | assumption | exact CodeHd.keeps (by assumption) (Fr.keep (by assumption))) | ((with_reducible show Scope.kind _ = _); exact rfl) | ((with_reducible show _ < recursionLimit); first | exact droom (by with_reducible assumption) rfl | exact Nat.le_of_ble_eq_true rfl | ktr_room) | ((with_reducible show _ < cLine); first | exact uroom (by with_reducible assumption) rfl | exact Nat.le_of_ble_eq_true rfl | ktr_units))
    refine hide2 ?_
    rintro PH kH r news' ⟨D2, us, k2, rfl, hus, rfl, hD2⟩
    refine kH _ _ ?_
    clear kH PH
    intro h4 tk4 F4 N4
    k_steps
    refine hQ1 _ _ ?_
    refine ce_end F4 (ins3 N4) ?_ ⟨_, rfl, K'.add (cD := cD) (cC := cC) (cL := cL) (cW := cW) (fun p hp => hD2 p (.tail _ (.tail _ (.tail _ hp)))), fun p hp => .tail _ (hs p hp), ?_⟩
    · intro p hp
      rcases List.mem_append.mp hp with hp | hp
      · exact off p (List.mem_append_left _ hp)
      · rcases List.mem_append.mp hp with hp | hp
        · exact off p (List.mem_append_right _ (List.mem_append_left _ hp))
        · rcases List.mem_append.mp hp with hp | hp
          · exact off p (mem_core hp)
          · rcases List.mem_cons.mp hp with rfl | hp
            · exact ⟨Ne.symm (hD2 _ (.head _)), Ne.symm (hD2 _ (.tail _ (.head _))), Ne.symm (hD2 _ (.tail _ (.tail _ (.head _))))⟩
            · exact off p (mem_whole hp)
    · rw [take_snoc hz, List.map_append]
      exact (hys.mono fun p hp => .tail _ hp).snoc (.head _) hus
  case done1 =>
    intro g ys nw' z0H Lt h3 tk3 F3 N3 o1
    refine hide fun kH => ?_
    obtain ⟨rest1, rfl, K1, hs1, hys⟩ := z0H
    refine kH ?_
    clear kH
    rw [hr.length, List.length_map, List.take_length] at hys
    k_steps
    refine ⟨?_⟩
    have N5 := ins0 N3
    have K5 : LedOk L t4 t5 ((Lt, lst ys) :: rest1) := K1.add (cD := cD) (cC := cC) (cL := cL) (cW := cW) (off1_mem o1)
    clear N3
    k_dflt (refine LCg.ListComp_U (F₀ := by k_asm) (by with_unfolding_all rfl) (by decide) (by rfl) (by decide) (by rfl) ?_)
    k_steps
    refine ⟨?_⟩
    refine src_led (vs := gv) (fun i zs nw' => ∃ t4' rest', nw' = whole L t4' t5 cD cC cL cW rest' ∧ LedOk L t4' t5 rest' ∧ (∀ p ∈ (Lt, lst ys) :: rest1, p ∈ rest') ∧ RowsAre rest' zs ((gs.take i).map fun v => digs v 1)) (by rintro i ys nw' ⟨t4', rest', rfl, _, hs, _⟩; exact mem_whole (hs _ (.tail _ (hs1 _ hgm)))) rfl F3 N5 (by rw [hg.length]; lia) ⟨t4, _, rfl, K5, fun _ h => h, .nil⟩ ?turn2 ?done2
    case turn2 =>
      intro i v I oI C oC D m₂ h4 tk4 E' zs nw' hv z0H hC hmm F4 N4 off n1 n2 n3
      refine hide fun kH => ?_
      obtain ⟨t4', rest', rfl, K', hs, hzs⟩ := z0H
      obtain ⟨z, t, rfl, hz⟩ := ints_at hg hv
      refine kH ?_
      clear kH
      have hzb := hgb z (List.mem_of_getElem? hz)
      have N6 := out4 N4
      refine hide fun kH => ?_
      obtain ⟨o4, h4m⟩ := K'.k4.has
      refine kH ?_
      clear kH
      have x4 := off _ (List.mem_append_left _ h4m)
      refine absW fun Q2 hQ2 => ?_
      k_steps
      refine ⟨?_⟩
      k_dflt (refine' Does.use (i2d_one w z _ _ t4' ((I, oI) :: (C, oC) :: (D, lst zs) :: (t5 ++ (core L cD cC cL cW ++ rest'))) K'.k4 ?h44 hzb.1 (Nat.le_trans (nd_small hzb.1 hzb.2) (by decide))) ?_ ?_ ?_ ?_ ?_ ?_ ?_ ?_ ?_ ?_ ?_)
      case h44 => exact off_cons (Ne.symm x4.1) (off_cons (Ne.symm x4.2.1) (off_cons (Ne.symm x4.2.2) K'.not44))
      all_goals try (first | ((with_reducible show Below _ _ _ _); k_asm) | ((with_reducible show Fr _ _ _ _); k_asm) | ((with_reducible show Frag.In _ _); k_asm) | ((with_reducible show News _ _ _ _); k_asm) | ((with_reducible show Top _ _ _ _ _ _); k_asm) | ((with_reducible show CodeHd _ _ _); first | assumption | exact CodeHd.keeps (by assumption) (Fr.keep (by assumption))) | ((with_reducible show Scope.kind _ = _); exact rfl) | ((with_reducible show _ < recursionLimit); first | exact droom (by with_reducible assumption) rfl | exact Nat.le_of_ble_eq_true rfl | ktr_room) | ((with_reducible show _ < cLine); first | exact uroom (by with_reducible assumption) rfl | exact Nat.le_of_ble_eq_true rfl | ktr_units))
      refine hide2 ?_
      rintro PH kH r news' ⟨D2, us, k2, t4'', rfl, hus, k4'', rfl, hD2, h44D, ht4⟩
      refine kH _ _ ?_
      clear kH PH
      intro h5 tk5 F5 N7
      k_steps
      refine hQ2 _ _ ?_
      refine ce_end F5 (back4 N7) (off4 K'.k4 rfl off ht4 hD2) ⟨t4'', _, rfl, (K'.turn4 k4'' ht4 (fun p hp => .tail _ (.tail _ (.tail _ hp)))).new4 (cD := cD) (cC := cC) (cL := cL) (cW := cW) (fun p hp => .tail _ (.tail _ (.tail _ hp))) hD2 h44D, fun p hp => .tail _ (hs p hp), ?_⟩
      rw [take_snoc hz, List.map_append]
      exact (hzs.mono fun p hp => .tail _ hp).snoc (.head _) hus
    case done2 =>
      intro g zs nw' z0H Bt h4 tk4 F4 N4 o2
      refine hide fun kH => ?_
      obtain ⟨t4', rest', rfl, K', hs, hzs⟩ := z0H
      refine kH ?_
      clear kH
      rw [hg.length, List.take_length] at hzs
      k_with "storeName" => (with_reducible refine stop_here ?_)
      k_steps
      refine ⟨?_⟩
      rename_i Tp h5 lT h6 F6 N6
      have N7 := ins0 (news_sub (b := (Bt, lst zs) :: whole L t4' t5 cD cC cL cW rest') N6 fun p hp => .tail _ hp)
      have K7 : LedOk L t4' t5 ((Bt, lst zs) :: rest') := K'.add (cD := cD) (cC := cC) (cL := cL) (cW := cW) (off1_mem o2)
      refine store_cell F6 (outL N7) hcL (offL K7) ?_ rfl rfl rfl
      intro h7 oc' hoc F7 N8
      clear N6 N7
      k_with_none
      k_with "eval Name" => (k_here; k_dflt (refine' nameX_L2 ?F ?_ ?v ?a ?b; (case F => k_asm); (case a => exact rfl); (case b => exact rfl); (case v => exact rfl); k_whole))
      k_with "execs cons" => (with_reducible refine stop_here ?_)
      k_steps
      refine ⟨?_⟩
      rename_i F9 N9
      exact cont _ _ t4' _ oc' Lt Bt ys zs _ _ (fr_back1 _ hps F9) (backL N9) K7 (fun p hp => .tail _ (hs _ (.tail _ (hs1 p hp)))) hoc (.tail _ (hs _ (.head _))) (hys.mono fun p hp => .tail _ (hs _ (.tail _ hp))) (.head _) (hzs.mono fun p hp => .tail _ hp)
end Mine

end
section
open PySem PySem.W PyProof.Rows PySem.Calls PyProof.Rows.LCg PyProof.Rows.LCt
set_option Elab.async false
set_option maxRecDepth 100000
namespace Mine
theorem append_any {prog : Program} {w : World} {A : Around} {E : Value → Shared → Prop} {s : Shared} {h₀ : Heap} {L : Addr} {m : Str → Option Value} {R : Led} {P : Addr} {vs : List Value} {x : Value} {Q : Value → Shared → Prop}
    (F : Fr h₀ L s.heap m) (N : News h₀ L s.heap ((P, lst vs) :: R)) (hR : ∀ p ∈ R, p.1 ≠ P) (hl : vs.length < 100000)
    (h : ∀ h', Fr h₀ L h' m → News h₀ L h' ((P, lst (vs ++ [x])) :: R) → Q .none { s with heap := h' }) :
    wpAny (model prog w) A (call (.builtin "list.append") [.ref P, x]) Q E s := by
  refine append_K F N (Upd.head hR) (fun h' F' N' => h h' F' ?_) (by simp [sizeLine_eq]; lia)
  have e : lst (vs ++ [x]) = listOf (vs.toArray.push x) (vs.length + 1) := by simp [lst, W.listOf]
  rw [e]; exact N'
theorem news_push {h₀ h : Heap} {L : Addr} {m : Str → Option Value} {nw : Led} (F : Fr h₀ L h m) (N : News h₀ L h nw) (o : Obj) (hf : o.isFreed = false) : Fr h₀ L (h.push o) m ∧ News h₀ L (h.push o) ((h.objs.size, o) :: nw) ∧ ∀ p ∈ nw, p.1 < h.objs.size := by
  refine ⟨F.push _, fun p hp => ?_, fun p hp => Heap.lt_size (N p hp).1⟩
  rcases List.mem_cons.mp hp with rfl | hp
  · exact ⟨Heap.get?_push_size _ hf, Nat.ne_of_gt F.ns.lt, next_is_new F⟩
  · exact ⟨Heap.get?_push_of_some _ (N p hp).1, (N p hp).2⟩
theorem news_4to1 {h₀ h : Heap} {L : Addr} {a b c d : Addr × Obj} {r : Led} (N : News h₀ L h (a :: b :: c :: d :: r)) : News h₀ L h (d :: a :: b :: c :: r) :=
  news_sub N fun _ hp => app_swap (A := [d]) (B := [a, b, c]) hp
theorem news_1to4 {h₀ h : Heap} {L : Addr} {a b c d : Addr × Obj} {r : Led} (N : News h₀ L h (d :: a :: b :: c :: r)) : News h₀ L h (a :: b :: c :: d :: r) :=
  news_sub N fun _ hp => app_swap (A := [a, b, c]) (B := [d]) hp
/-- How a turn ends, the own name being a cell. -/
inductive CInv (s : Shared) (h₀ : Heap) (L : Addr) (m : Str → Option Value) (I C D c : Addr) (oC : Obj) (a : Int) (n : Nat) (J : Nat → List Value → Led → Prop) (k : Nat) (s' : Shared) : Prop
  | mk (h' : Heap) (tk i : Nat) (ys : List Value) (oI oc : Obj) (nw' : Led) (v₀ : Option Value) (hs : s' = { s with heap := h', toks := tk }) (hi : i ≤ n) (hk : k = n + 1 - i) (hy : ys.length = i) (hst : IsRangeIter h' I (a + (i : Nat) * 1) ((n : Int) - (i : Nat)) 1) (hF : Fr h₀ L h' m) (hod : oc.data = .cell v₀)
    (hN : News h₀ L h' ((I, oI) :: (C, oC) :: (c, oc) :: (D, lst ys) :: nw')) (hoff : ∀ p ∈ nw', p.1 ≠ I ∧ p.1 ≠ C ∧ p.1 ≠ c ∧ p.1 ≠ D) (hJ : J i ys nw')
noncomputable def CEnd4 (h₀ : Heap) (L : Addr) (m : Str → Option Value) (s₁ : Shared) (I : Addr) (oI : Obj) (C : Addr) (oC : Obj) (c : Addr) (oc : Obj) (D : Addr) (oD : Obj) (J : Value → Led → Prop) (y : Value) (s₂ : Shared) : Prop :=
  ∃ h' tk nw, s₂ = { s₁ with heap := h', toks := tk } ∧ Fr h₀ L h' m ∧ News h₀ L h' ((I, oI) :: (C, oC) :: (c, oc) :: (D, oD) :: nw) ∧ (∀ p ∈ nw, p.1 ≠ I ∧ p.1 ≠ C ∧ p.1 ≠ c ∧ p.1 ≠ D) ∧ J y nw
theorem ce_end4 {h₀ : Heap} {L : Addr} {m : Str → Option Value} {s₁ : Shared} {I : Addr} {oI : Obj} {C : Addr} {oC : Obj} {c : Addr} {oc : Obj} {D : Addr} {oD : Obj} {J : Value → Led → Prop} {y : Value} {h' : Heap} {tk : Nat} {nw : Led} (F : Fr h₀ L h' m) (N : News h₀ L h' ((I, oI) :: (C, oC) :: (c, oc) :: (D, oD) :: nw)) (off : ∀ p ∈ nw, p.1 ≠ I ∧ p.1 ≠ C ∧ p.1 ≠ c ∧ p.1 ≠ D) (j : J y nw) :
    CEnd4 h₀ L m s₁ I oI C oC c oc D oD J y { s₁ with heap := h', toks := tk } := ⟨_, _, _, rfl, F, N, off, j⟩
section
variable {prog : Program} {w : World} {A : Around} {E : Value → Shared → Prop} {s : Shared}
/-- the frame of a comprehension whose own name is a cell -/
theorem envCell {scope : Scope} {g : Addr} {cl : List (Str × Addr)} {qual : Str} {env : Env} {x : Str} {Q : Env → Shared → Prop} (hcl : ∀ n, cellsFrom n scope.names cl = (x, n) :: cl) (hpc : ∀ h, pushCells h scope.names = h.push { cls := .type "cell", data := .cell none })
    (hQ : Q { scope := scope, locals := s.heap.objs.size, globals := g, cells := (x, s.heap.objs.size + 1) :: cl, qual := qual, func := none, code := env.code, frame := env.frame, builtins := env.builtins } { s with heap := (s.heap.push { cls := .type "dict", data := .dict #[] }).push { cls := .type "cell", data := .cell none } }) :
    wpAny (model prog w) A (newFunctionEnv scope g cl [] qual none .none (some env)) Q E s := by
  simp only [newFunctionEnv, Option.isSome_some, if_true]
  refine wpAny_bind (wpAny_alloc ?_)
  refine wpAny_bind (wpAny_layCells _ (fun name kind cells => by cases hkc : kind == NameKind.cell <;> simp) _ _ _ _ ?_)
  have e : ({ s with heap := s.heap.push { cls := .type "dict", data := .dict #[] } } : Shared).heap.objs.size = s.heap.objs.size + 1 := Heap.size_push ..
  rw [hcl, hpc, e]
  exact wpAny_bind (wpAny_pure (wpAny_pure hQ))
/-- A comprehension over a range, its own name a cell. -/
theorem comp_cellR {elt iter : Expr} {x : Str} {px : Pos} {scope : Scope} {cl : List (Str × Addr)} {pos : Pos} {env : Env} {h₀ : Heap} {L : Addr} {m : Str → Option Value} {r : Addr} {a b : Int} {t u v : Tok} {n : Nat} {nw : Led} {RR : Value → Addr → Result → Shared → Prop} (J : Nat → List Value → Led → Prop)
    (hh : A.handled = none) (hcl : ∀ n, cellsFrom n scope.names cl = (x, n) :: cl) (hpc : ∀ h, pushCells h scope.names = h.push { cls := .type "cell", data := .cell none }) (hkind : (relabel scope env).kind = .function) (hx : (relabel scope env).names.lookup x = some .cell)
    (hr : IsRange s.heap r a b 1 t u v) (hsm : Builtin.Range.small a b 1 = true) (hn : Builtin.Range.rangeSize a b 1 = ((n : Nat) : Int)) (hsz : n < 100000) (F : Fr h₀ L s.heap m) (N : News h₀ L s.heap nw) (start : J 0 [] nw)
    (turn : ∀ i t I oI C oC c oc D h tk E' ys nw', i < n → J i ys nw' → oc.data = .cell (some (.int (a + (i : Int)) t)) → Fr h₀ L h m → News h₀ L h ((I, oI) :: (C, oC) :: (c, oc) :: (D, lst ys) :: nw') → (∀ p ∈ nw', p.1 ≠ I ∧ p.1 ≠ C ∧ p.1 ≠ c ∧ p.1 ≠ D) → ys.length = i →
      wpAny (model prog w) A (eval elt (compEnvC scope ((x, c) :: cl) C env)) (CEnd4 h₀ L m { s with heap := h, toks := tk } I oI C oC c oc D (lst ys) (fun y nw'' => J (i + 1) (ys ++ [y]) nw'')) E' { s with heap := h, toks := tk })
    (fin : ∀ ys nw' D C h tk, J n ys nw' → Fr h₀ L h m → News h₀ L h ((D, lst ys) :: nw') → (∀ p ∈ nw', p.1 ≠ D) → h.Ns C (fun _ => none) → h₀.get? C = none → C ≠ L → D ≠ C → (∀ p ∈ nw', p.1 ≠ C) → RR (.ref D) C (.ok .next) { s with heap := h, toks := tk }) :
    wpAny (model prog w) A (pyIter (.ref r)) (fun it s₂ => wpAny (model prog w) A (newList []) (fun acc s₃ => wpAny (model prog w) A (newFunctionEnv scope env.globals cl [] env.qual none .none (some env)) (fun cenv s₄ =>
      codeAny (model prog w) A (.compStart (.ListComp elt [⟨.Name x px, iter, [], 0⟩] scope pos) 0 it acc { cenv with scope := relabel scope env }) (RR acc cenv.locals) s₄) E s₃) E s₂) E s := by
  refine wpAny_pyIter_range hr hsm ?_
  refine wpAny_newObj_type (envCell hcl hpc ?_)
  dsimp only
  rw [hn]
  refine hide fun kH => ?_
  obtain ⟨F1, N1, b1⟩ := news_push F N { cls := .type "range_iterator", data := .fields #[rawInt a, rawInt (n : Int), rawInt 1] } rfl
  refine kH ?_
  clear kH
  generalize hI : s.heap.objs.size = I at N1 b1 ⊢
  generalize hH1 : s.heap.push { cls := .type "range_iterator", data := .fields #[rawInt a, rawInt (n : Int), rawInt 1] } = H1 at F1 N1 ⊢
  refine hide fun kH => ?_
  obtain ⟨F2, N2, b2⟩ := news_push F1 N1 (lst []) rfl
  refine kH ?_
  clear kH
  generalize hD : H1.objs.size = D at N2 b2 ⊢
  have e2 : ({ cls := .type "list", dict := none, data := .seq ([] : List Value).toArray } : Obj) = lst [] := rfl
  rw [e2]
  generalize hH2 : H1.push (lst []) = H2 at F2 N2 ⊢
  refine hide fun kH => ?_
  obtain ⟨F3, N3, b3⟩ := news_push F2 N2 { cls := .type "dict", data := .dict #[] } rfl
  refine kH ?_
  clear kH
  have hns : (H2.push { cls := .type "dict", data := .dict #[] }).Ns H2.objs.size fun _ => none := Heap.Ns.new H2 (.type "dict")
  have hCs : H2.objs.size + 1 = (H2.push { cls := .type "dict", data := .dict #[] }).objs.size := (Heap.size_push ..).symm
  rw [hCs]
  generalize hC : H2.objs.size = C at N3 b3 hns hCs ⊢
  generalize hH3 : H2.push { cls := .type "dict", data := .dict #[] } = H3 at F3 N3 hns hCs ⊢
  refine hide fun kH => ?_
  obtain ⟨F4, N4, b4⟩ := news_push F3 N3 { cls := .type "cell", data := .cell none } rfl
  refine kH ?_
  clear kH
  generalize hc : H3.objs.size = c at N4 b4 hCs ⊢
  generalize hH4 : H3.push { cls := .type "cell", data := .cell none } = H4 at F4 N4 ⊢
  have hIC : I ≠ C := Nat.ne_of_lt (b3 _ (.tail _ (.head _)))
  have hID : I ≠ D := Nat.ne_of_lt (b2 _ (.head _))
  have hIc : I ≠ c := Nat.ne_of_lt (b4 _ (.tail _ (.tail _ (.head _))))
  have hDC : D ≠ C := Nat.ne_of_lt (b3 _ (.head _))
  have hDc : D ≠ c := Nat.ne_of_lt (b4 _ (.tail _ (.head _)))
  have hCc : C ≠ c := Nat.ne_of_lt (b4 _ (.head _))
  refine hide fun kH => ?_
  obtain ⟨oC, hoC⟩ : ∃ oC : Obj, oC = { cls := .type "dict", data := .dict #[] } := ⟨_, rfl⟩
  refine kH ?_
  clear kH
  rw [← hoC] at N4
  have hnsC : ∀ h : Heap, h.get? C = some oC → h.Ns C fun _ => none := fun h e => ⟨oC, #[], 0, e, by rw [hoC], fun _ he => by simp at he, fun _ => rfl⟩
  have hIL : L ≠ I := Ne.symm (N1 _ (.head _)).2.1
  have hI0 : h₀.get? I = none := (N1 _ (.head _)).2.2
  have W := range_walks (prog := prog) (w := w) (A := A) (I := I) hh a n
  have kindx : ∀ c', Env.kindOf (compEnvC scope c' C env) x = some .cell := fun c' => hx
  have loop : ∀ s₃ : Shared, s₃ = { s with heap := H4 } →
      codeAny (model prog w) A (.compLoop (.ListComp elt [⟨.Name x px, iter, [], 0⟩] scope pos) 0 (.ref I) (.ref D) (compEnvC scope ((x, c) :: cl) C env)) (RR (.ref D) C) s₃ := by
    rintro s₃ rfl
    refine codeAny_compLoop_tests
      (CInv s h₀ L m I C D c oC a n J) ?_ (n + 1)
      ⟨H4, s.toks, 0, [], { cls := .type "range_iterator", data := .fields #[rawInt a, rawInt (n : Int), rawInt 1] }, { cls := .type "cell", data := .cell none }, nw, none, rfl, Nat.zero_le _, rfl, rfl, ?st, F4, rfl, news_sub N4 ?sub, ?off, start⟩
    case sub =>
      intro p hp
      simp only [List.mem_cons] at hp ⊢
      rcases hp with h | h | h | h | h <;> simp [h]
    case st =>
      have := (N4 _ (.tail _ (.tail _ (.tail _ (.head _))))).1
      show _ = _
      simpa using this
    case off =>
      exact fun p hp => ⟨Nat.ne_of_lt (b1 p hp), Nat.ne_of_lt (b3 p (.tail _ (.tail _ hp))), Nat.ne_of_lt (b4 p (.tail _ (.tail _ (.tail _ hp)))), Nat.ne_of_lt (b2 p (.tail _ hp))⟩
    intro k s' z0H
    refine hide fun kH => ?_
    obtain ⟨h', tk, i, ys, oI, oc, nw', v₀, rfl, hi, rfl, hyl, hst', F', hod, N', off', hJ⟩ := z0H
    refine kH ?_
    clear kH
    by_cases hlt : i < n
    · refine W.item i _ _ _ hlt hst' fun v' h₂ tk₂ hPv hst₂ hk₂ => ?_
      refine hide fun kH => ?_
      obtain ⟨tv, rfl⟩ := hPv
      refine kH ?_
      clear kH
      have F₂ : Fr h₀ L h₂ m := fr_but F' hk₂ hIL hI0
      have N₂ : News h₀ L h₂ ((C, oC) :: (c, oc) :: (D, lst ys) :: nw') := news_but (fun p hp => N' p (.tail _ hp)) hk₂ (off_cons (Ne.symm hIC) (off_cons (Ne.symm hIc) (off_cons (Ne.symm hID) fun p hp => (off' p hp).1)))
      have cm := N₂ (c, oc) (.tail _ (.head _))
      refine wpAny_assign_Name (wpAny_storeName_cell (env := compEnvC scope ((x, c) :: cl) C env) (name := x) hkind (kindx _) (by simp [compEnvC]) ⟨oc, cm.1, hod⟩ fun h₃ hcell hsb => ?_)
      refine hide fun kH => ?_
      obtain ⟨oc', ho', hod'⟩ := hcell
      refine kH ?_
      clear kH
      have F₃ : Fr h₀ L h₃ m := F₂.change hsb cm.2.1 cm.2.2
      have hst₃ : h₃.get? I = some _ := hsb.extBut _ _ hIc hst₂
      have N₃ : News h₀ L h₃ ((I, _) :: (C, oC) :: (c, oc') :: (D, lst ys) :: nw') := fun p hp => by
        rcases List.mem_cons.mp hp with rfl | hp
        · exact ⟨hst₃, Ne.symm hIL, hI0⟩
        · rcases List.mem_cons.mp hp with rfl | hp
          · exact ⟨hsb.extBut _ _ hCc (N₂ _ (.head _)).1, (N₂ _ (.head _)).2⟩
          · rcases List.mem_cons.mp hp with rfl | hp
            · exact ⟨ho', cm.2⟩
            · have z := N₂ p (.tail _ (.tail _ hp))
              refine ⟨hsb.extBut _ _ ?_ z.1, z.2⟩
              rcases List.mem_cons.mp hp with rfl | hp
              · exact hDc
              · exact (off' p hp).2.2.1
      refine wpAny_tests_nil ?_
      simp only [if_true]
      refine wpAny_mono (turn i tv I _ C oC c oc' D h₃ tk₂ _ ys nw' hlt hJ hod' F₃ N₃ off' hyl) (fun y s₄ h₄ => ?_) fun _ _ e => e
      refine hide fun kH => ?_
      obtain ⟨h₄, tk₄, nw₄, rfl, F₄, N₄, off₄, hJ₄⟩ := h₄
      refine kH ?_
      clear kH
      have N₅ := news_4to1 N₄
      refine append_any F₄ N₅ (off_cons hID (off_cons (Ne.symm hDC) (off_cons (Ne.symm hDc) fun p hp => (off₄ p hp).2.2.2))) (by lia) fun h₅ F₅ N₆ => ?_
      refine ⟨n + 1 - (i + 1), by lia, h₅, tk₄, i + 1, ys ++ [y], _, oc', nw₄, _, rfl, hlt, rfl, by simp [hyl], ?_, F₅, hod', news_1to4 N₆, off₄, hJ₄⟩
      exact (N₆ _ (.tail _ (.head _))).1
    · obtain rfl : i = n := Nat.le_antisymm hi (Nat.not_lt.mp hlt)
      refine W.done _ _ _ hst' fun h₂ tk₂ hk₂ => ?_
      have F₂ : Fr h₀ L h₂ m := fr_but F' hk₂ hIL hI0
      have N₂ : News h₀ L h₂ ((C, oC) :: (c, oc) :: (D, lst ys) :: nw') := news_but (fun p hp => N' p (.tail _ hp)) hk₂ (off_cons (Ne.symm hIC) (off_cons (Ne.symm hIc) (off_cons (Ne.symm hID) fun p hp => (off' p hp).1)))
      have zC := N₂ _ (.head _)
      exact fin ys nw' D C h₂ tk₂ hJ F₂ (fun p hp => N₂ p (.tail _ (.tail _ hp))) (fun p hp => (off' p hp).2.2.2) (hnsC _ zC.1) zC.2.2 zC.2.1 hDC fun p hp => (off' p hp).2.1
  refine codeAny_compStart_list (loop _ rfl) (W.self 0 _ _ _ ?_ (loop _ rfl))
  have := (N4 _ (.tail _ (.tail _ (.tail _ (.head _))))).1
  show _ = _
  simpa using this
theorem comp_cell {elt iter : Expr} {x : Str} {px : Pos} {scope : Scope} {cl : List (Str × Addr)} {pos : Pos} {env : Env} {h₀ : Heap} {L : Addr} {m : Str → Option Value} {r : Addr} {a b : Int} {t u v : Tok} {n : Nat} {nw : Led} {Q : Value → Shared → Prop} (J : Nat → List Value → Led → Prop)
    (hh : A.handled = none) (hcl : ∀ n, cellsFrom n scope.names cl = (x, n) :: cl) (hpc : ∀ h, pushCells h scope.names = h.push { cls := .type "cell", data := .cell none }) (hkind : (relabel scope env).kind = .function) (hx : (relabel scope env).names.lookup x = some .cell)
    (hr : IsRange s.heap r a b 1 t u v) (hsm : Builtin.Range.small a b 1 = true) (hn : Builtin.Range.rangeSize a b 1 = ((n : Nat) : Int)) (hsz : n < 100000) (F : Fr h₀ L s.heap m) (N : News h₀ L s.heap nw) (start : J 0 [] nw)
    (turn : ∀ i t I oI C oC c oc D h tk E' ys nw', i < n → J i ys nw' → oc.data = .cell (some (.int (a + (i : Int)) t)) → Fr h₀ L h m → News h₀ L h ((I, oI) :: (C, oC) :: (c, oc) :: (D, lst ys) :: nw') → (∀ p ∈ nw', p.1 ≠ I ∧ p.1 ≠ C ∧ p.1 ≠ c ∧ p.1 ≠ D) → ys.length = i →
      wpAny (model prog w) A (eval elt (compEnvC scope ((x, c) :: cl) C env)) (CEnd4 h₀ L m { s with heap := h, toks := tk } I oI C oC c oc D (lst ys) (fun y nw'' => J (i + 1) (ys ++ [y]) nw'')) E' { s with heap := h, toks := tk })
    (done : ∀ ys nw' D h tk, J n ys nw' → Fr h₀ L h m → News h₀ L h ((D, lst ys) :: nw') → (∀ p ∈ nw', p.1 ≠ D) → Q (.ref D) { s with heap := h, toks := tk }) :
    wpAny (model prog w) A (pyIter (.ref r)) (fun it s₂ => wpAny (model prog w) A (newList []) (fun acc s₃ => wpAny (model prog w) A (newFunctionEnv scope env.globals cl [] env.qual none .none (some env)) (fun cenv s₄ =>
      codeAny (model prog w) A (.compStart (.ListComp elt [⟨.Name x px, iter, [], 0⟩] scope pos) 0 it acc { cenv with scope := relabel scope env }) (compPost (model prog w) A E none Q acc cenv.locals) s₄) E s₃) E s₂) E s := by
  refine comp_cellR (RR := fun acc C => compPost (model prog w) A E none Q acc C) J hh hcl hpc hkind hx hr hsm hn hsz F N start turn ?_
  intro ys nw' D C h tk hJ F' N' oD hns hC0 hCL hDC oC
  refine ⟨_, hns, fun h'' hs'' => done ys nw' D h'' tk hJ (F'.change hs'' hCL hC0) (fun p hp => ?_) oD⟩
  refine ⟨hs''.extBut _ _ ?_ (N' p hp).1, (N' p hp).2⟩
  rcases List.mem_cons.mp hp with rfl | hp
  · exact hDC
  · exact oC p hp
/-- as comp_cell, the list kept at once in a local name -/
theorem comp_cellA {elt iter : Expr} {x y : Str} {px py : Pos} {scope : Scope} {cl : List (Str × Addr)} {pos : Pos} {env : Env} {h₀ : Heap} {L : Addr} {m : Str → Option Value} {r : Addr} {a b : Int} {t u v : Tok} {n : Nat} {nw : Led} {Q : Value → Shared → Prop} (J : Nat → List Value → Led → Prop)
    (hh : A.handled = none) (hcl : ∀ n, cellsFrom n scope.names cl = (x, n) :: cl) (hpc : ∀ h, pushCells h scope.names = h.push { cls := .type "cell", data := .cell none }) (hkind : (relabel scope env).kind = .function) (hx : (relabel scope env).names.lookup x = some .cell)
    (hLe : env.locals = L) (hy : env.kindOf y = some .local) (hp : (env.scope.kind == .class || (env.scope.kind == .module && env.locals != env.globals)) = false)
    (hr : IsRange s.heap r a b 1 t u v) (hsm : Builtin.Range.small a b 1 = true) (hn : Builtin.Range.rangeSize a b 1 = ((n : Nat) : Int)) (hsz : n < 100000) (F : Fr h₀ L s.heap m) (N : News h₀ L s.heap nw) (start : J 0 [] nw)
    (turn : ∀ i t I oI C oC c oc D h tk E' ys nw', i < n → J i ys nw' → oc.data = .cell (some (.int (a + (i : Int)) t)) → Fr h₀ L h m → News h₀ L h ((I, oI) :: (C, oC) :: (c, oc) :: (D, lst ys) :: nw') → (∀ p ∈ nw', p.1 ≠ I ∧ p.1 ≠ C ∧ p.1 ≠ c ∧ p.1 ≠ D) → ys.length = i →
      wpAny (model prog w) A (eval elt (compEnvC scope ((x, c) :: cl) C env)) (CEnd4 h₀ L m { s with heap := h, toks := tk } I oI C oC c oc D (lst ys) (fun y nw'' => J (i + 1) (ys ++ [y]) nw'')) E' { s with heap := h, toks := tk })
    (done : ∀ ys nw' D h tk, J n ys nw' → Fr h₀ L h (fun z => if z = y then some (.ref D) else m z) → News h₀ L h ((D, lst ys) :: nw') → (∀ p ∈ nw', p.1 ≠ D) → Q .none { s with heap := h, toks := tk }) :
    wpAny (model prog w) A (pyIter (.ref r)) (fun it s₂ => wpAny (model prog w) A (newList []) (fun acc s₃ => wpAny (model prog w) A (newFunctionEnv scope env.globals cl [] env.qual none .none (some env)) (fun cenv s₄ =>
      codeAny (model prog w) A (.compStart (.ListComp elt [⟨.Name x px, iter, [], 0⟩] scope pos) 0 it acc { cenv with scope := relabel scope env }) (compPost (model prog w) A E (some (assign (.Name y py) env)) Q acc cenv.locals) s₄) E s₃) E s₂) E s := by
  subst hLe
  refine comp_cellR (RR := fun acc C => compPost (model prog w) A E (some (assign (.Name y py) env)) Q acc C) J hh hcl hpc hkind hx hr hsm hn hsz F N start turn ?_
  intro ys nw' D C h tk hJ F' N' oD hns hC0 hCL hDC oC
  show wpAny _ A (assign (.Name y py) env (.ref D)) _ _ _
  refine wpAny_assign_Name (wpAny_storeName_local hy F'.ns (fun h₂ hn₂ hs₂ => ?_) hp)
  have hL₀ : h₀.get? env.locals = none := Heap.get?_none_of_le F'.above
  have F₂ : Fr h₀ env.locals h₂ (fun z => if z = y then some (.ref D) else m z) := ⟨hn₂, fun b o e => hs₂.extBut b o (fun q => by rw [q, hL₀] at e; cases e) (F'.keep b o e), F'.above⟩
  refine ⟨_, hns.sameBut hs₂ hCL, fun h'' hs'' => done ys nw' D h'' _ hJ (F₂.change hs'' hCL hC0) (fun p hp => ?_) oD⟩
  have z : h₂.get? p.1 = some p.2 := hs₂.extBut _ _ (N' p hp).2.1 (N' p hp).1
  refine ⟨hs''.extBut _ _ ?_ z, (N' p hp).2⟩
  rcases List.mem_cons.mp hp with rfl | hp
  · exact hDC
  · exact oC p hp
theorem eval_comp {elt iter : Expr} {x : Str} {px : Pos} {scope : Scope} {cl : List (Str × Addr)} {pos : Pos} {env : Env} {Q : Value → Shared → Prop} (hclos : closureFor scope env = pure cl) (hkind : scope.kind = .function)
    (hnames : ∀ y ∈ scope.names, y.2 = .local → scope.names.lookup y.1 = some .local)
    (h : wpAny (model prog w) A (eval iter env) (fun xv s₁ => wpAny (model prog w) A (pyIter xv) (fun it s₂ => wpAny (model prog w) A (newList []) (fun acc s₃ => wpAny (model prog w) A (newFunctionEnv scope env.globals cl [] env.qual none .none (some env)) (fun cenv s₄ =>
      codeAny (model prog w) A (.compStart (.ListComp elt [⟨.Name x px, iter, [], 0⟩] scope pos) 0 it acc { cenv with scope := relabel scope env }) (compPost (model prog w) A E none Q acc cenv.locals) s₄) E s₃) E s₂) E s₁) E s)
    (hs : ∀ x, foldedSetIterable iter env x = pure x := by intro _; rfl) : wpAny (model prog w) A (eval (.ListComp elt [⟨.Name x px, iter, [], 0⟩] scope pos) env) Q E s := by
  rw [eval_ListComp]
  exact wpAny_comprehension_free (use := none) rfl hs hclos hkind hnames h
theorem assign_comp {elt iter : Expr} {x y : Str} {px py : Pos} {scope : Scope} {cl : List (Str × Addr)} {pos spos : Pos} {env : Env} {Q : Flow → Shared → Prop} (hsw : swapsWith (.ListComp elt [⟨.Name x px, iter, [], 0⟩] scope pos) (some (.Name y py)) spos.line env = pure true)
    (hclos : closureFor scope env = pure cl) (hkind : scope.kind = .function) (hnames : ∀ y ∈ scope.names, y.2 = .local → scope.names.lookup y.1 = some .local)
    (h : wpAny (model prog w) A (eval iter env) (fun xv s₁ => wpAny (model prog w) A (pyIter xv) (fun it s₂ => wpAny (model prog w) A (newList []) (fun acc s₃ => wpAny (model prog w) A (newFunctionEnv scope env.globals cl [] env.qual none .none (some env)) (fun cenv s₄ =>
      codeAny (model prog w) A (.compStart (.ListComp elt [⟨.Name x px, iter, [], 0⟩] scope pos) 0 it acc { cenv with scope := relabel scope env }) (compPost (model prog w) A E (some (assign (.Name y py) env)) (fun _ s' => Q .next s') acc cenv.locals) s₄) E s₃) E s₂) E s₁) E s)
    (hs : ∀ x, foldedSetIterable iter env x = pure x := by intro _; rfl) : wpAny (model prog w) A (exec (.Assign [.Name y py] (.ListComp elt [⟨.Name x px, iter, [], 0⟩] scope pos) spos) env) Q E s := by
  rw [exec_Assign_Name_used _ _ _ _ hsw]
  refine wpAny_bind (wpAny_standAt (wpAny_bind ?_))
  show wpAny _ A (do let _ ← comprehension (.ListComp elt [⟨.Name x px, iter, [], 0⟩] scope pos) scope env _ (newList []) false (eval iter env) (some (assign (.Name y py) env))) _ _ s
  exact wpAny_bind (wpAny_mono (wpAny_comprehension_free (use := some (assign (.Name y py) env)) (Q := fun _ s' => Q .next s') rfl hs hclos hkind hnames h) (fun _ s' hq => wpAny_pure (wpAny_pure hq)) fun _ _ e => e)
theorem assign_plain {t value : Expr} {pos : Pos} {env : Env} {Q : Flow → Shared → Prop} (h : wpAny (model prog w) A (eval value env) (fun v s₁ => wpAny (model prog w) A (assign t env v) (fun _ => Q .next) E s₁) E s)
    (hs : swapsWithSole [t] value pos.line env = pure false) (hw : swappedStores [t] value env = pure none) (he : (assignEach [t] env).map (·.2) = [assign t env] := by rfl) : wpAny (model prog w) A (exec (.Assign [t] value pos) env) Q E s := by
  refine wpAny_Assign_stores (wpAny_mono h (fun v s₁ h₁ => ?_) fun _ _ x => x) hs hw
  rw [he]
  exact h₁
end
end Mine

end
section
open PySem PySem.W PyProof.Rows in
theorem Mine.freshS4 {prog : Program} {w : World} {A : Around} {env : Env} {E : Value → Shared → Prop} {Q : Flow → Shared → Prop} {s : Shared} (h : Q .next s) : wpAny (model prog w) A (execs [] env) Q E s := by w_top off; k_with_none; walk1; exact h
open PySem PySem.W PyProof.Rows PyProof.Rows.LCg PyProof.Rows.LCt
set_option Elab.async false
set_option maxRecDepth 100000
set_option maxHeartbeats 4000000
set_option pp.deepTerms false
set_option pp.deepTerms.threshold 6
namespace Mine
local macro_rules | `(tactic| walk_at "call builtin:len") => `(tactic| k_extra "call builtin:len")
local macro_rules | `(tactic| walk_at "binaryOp Mult ref int") => `(tactic| k_extra "binaryOp Mult ref int")
theorem off_add {L : Addr} {t4 t5 rest : Led} {cD cC cL cW : Obj} {I C D : Addr} {d : Addr × Obj} (off : ∀ p ∈ whole L t4 t5 cD cC cL cW rest, p.1 ≠ I ∧ p.1 ≠ C ∧ p.1 ≠ D) (hd : d.1 ≠ I ∧ d.1 ≠ C ∧ d.1 ≠ D) : ∀ p ∈ whole L t4 t5 cD cC cL cW (d :: rest), p.1 ≠ I ∧ p.1 ≠ C ∧ p.1 ≠ D := by
  intro p hp
  rcases List.mem_append.mp hp with hp | hp
  · exact off p (List.mem_append_left _ hp)
  · rcases List.mem_append.mp hp with hp | hp
    · exact off p (List.mem_append_right _ (List.mem_append_left _ hp))
    · rcases List.mem_append.mp hp with hp | hp
      · exact off p (mem_core hp)
      · rcases List.mem_cons.mp hp with rfl | hp
        · exact hd
        · exact off p (mem_whole hp)
theorem st4 (w : World) {p : Program} {loose : List Str} {mean : ExcName → Option Value} {mg mb : Str → Option Value} {base : Heap} (St : Stands w base p loose mean mg mb) (L fa : Addr) (cd : Value) (m : Str → Option Value) (s : Shared) (Q : Flow → Shared → Prop) (E : Value → Shared → Prop) (t4 t5 rest : Led) (cD cC cL cW : Obj) (F : Fr base L s.heap m) (N : News base L s.heap (whole L t4 t5 cD cC cL cW rest)) (K : LedOk L t4 t5 rest)
    (Lt Bt : Addr) (lv bv : List Value) (ms gs : List Int) (kl kb : Nat) (hBt : m (Str.ofString "bits") = some (.ref Bt)) (hcL : cL.data = .cell (some (.ref Lt)))
    (hlm : (Lt, listOf lv.toArray kl) ∈ rest) (hlr : RowsAre rest lv (ms.map fun v => lettersOf (fmRow v))) (hbm : (Bt, listOf bv.toArray kb) ∈ rest) (hbr : RowsAre rest bv (gs.map fun v => digs v 1)) (hgs : gs = ms.map fun v => Builtin.bitAnd v 4095) (hl : ms.length ≤ 7)
    (cont : ∀ (h' : Heap) (tk' : Nat), Fr base L h' m → News base L h' (whole L t4 t5 cD cC cL cW rest) →
      wpAny (model PR w) (lawA L fa cd) (execs ((dBody lawS).drop 5) (lawEnv L fa cd)) Q E { s with heap := h', toks := tk' }) :
    wpAny (model PR w) (lawA L fa cd) (execs ((dBody lawS).drop 4) (lawEnv L fa cd)) Q E s := by
  have := lawRef
  refine hide fun kH => ?_
  obtain ⟨B, X, T, C1, C2⟩ := St
  refine kH ?_
  clear kH
  revert this X
  k_fill
  intro _ X
  have hps : ∀ p ∈ [(Str.ofString "bits", Value.ref Bt)], m p.1 = some p.2 := List.forall_mem_cons.mpr ⟨hBt, fun _ h => nomatch h⟩
  have F1 := fr_see _ F hps
  dsimp only [kstB] at F1
  clear F
  have hbl : bv.length = ms.length := by rw [hbr.length, List.length_map, hgs, List.length_map]
  have hgb : ∀ x ∈ gs, 0 ≤ x ∧ x < 4096 := by
    rw [hgs]; intro x hx
    refine hide fun kH => ?_
    obtain ⟨v, _, rfl⟩ := List.mem_map.mp hx
    refine kH ?_
    clear kH
    exact imode_b v
  have hcLm : (L + 1 + 1, cL) ∈ whole L t4 t5 cD cC cL cW rest := mem_core (.tail _ (.tail _ (.head _)))
  conv in (List.drop 4 (dBody lawS)) => whnf
  refine hide fun kH => ?_
  obtain ⟨sc, hsc⟩ : ∃ sc, dScope lawS = sc := ⟨_, rfl⟩
  refine kH ?_
  clear kH
  dsimp only [lawA, lawEnv] at cont ⊢
  rw [hsc] at cont ⊢
  conv at hsc => lhs; whnf
  subst hsc
  try k_fold
  k_with_none
  k_with "eval Name" => (k_here; k_dflt (refine' nameX_L2 ?F ?_ ?v ?a ?b; (case F => k_asm); (case a => exact rfl); (case b => exact rfl); (case v => exact rfl); k_whole))
  k_with "call ref" => (with_reducible refine stop_here ?_)
  k_with "CompSrcT" => (with_reducible refine stop_here ?_)
  k_with "CompSrc" => (with_reducible refine stop_here ?_)
  k_with "eval ListComp" => (with_reducible refine stop_here ?_)
  k_with "exec Assign cons ListComp" => (with_reducible refine stop_here ?_)
  k_with "compareOp NotEq ref ref" => (with_reducible refine stop_here ?_)
  k_with "compareOp Eq ref ref" => (with_reducible refine stop_here ?_)
  k_steps
  refine ⟨?_⟩
  k_dflt (refine LCt.ListComp_T (F₀ := by k_asm) (by with_unfolding_all rfl) (by decide) (by rfl) (by decide) (by rfl) ?_)
  k_steps
  refine ⟨?_⟩
  refine srcT_ledC (vs := bv) (fun i ys => ys = []) (mem_whole hbm) rfl F1 N (by lia) rfl ?turn1 ?done1
  case turn1 =>
    intro i v I oI C oC D m₂ h3 tk3 E' ys Q1 Q2 hv hys hC hmm F3 N3 off n1 n2 n3 hQ1 hQ2 hQ3
    refine hide fun kH => ?_
    obtain ⟨a, us, k, ns, rfl, hma, hus, hns⟩ := hbr.at hv
    refine kH ?_
    clear kH
    have hma' : (a, listOf us.toArray k) ∈ whole L t4 t5 cD cC cL cW rest := mem_whole hma
    refine hide fun kH => ?_
    obtain ⟨z, hz, rfl⟩ := map_at hns
    refine kH ?_
    clear kH
    have hzb := hgb z (List.mem_of_getElem? hz)
    have hnl : (digs z 1).length ≤ 12 := by rw [digs_len]; exact nd_small hzb.1 hzb.2
    k_steps
    refine ⟨?_⟩
    rename_i A1 ws1 h4 hI4 _ _ l4 B1 h5 F5 N5 l5
    refine eqI_led (us := [Value.int 0 _]) N5 (.tail _ (.head _)) hI4 (.head _) (.cons 0 _ .nil) (by first | exact Nat.le_of_ble_eq_true rfl | ktr_units) ?_
    simp only [digs_top hzb.1 (by decide : 0 < 1), decide_false]
    k_steps
    exact hQ2 _ _ F5 (news_sub N5 fun p hp => .tail _ (.tail _ hp)) hys
  case done1 =>
    intro g ys z0H D3 h3 tk3 F3 N3 o3
    refine hide fun kH => ?_
    subst z0H
    refine kH ?_
    clear kH
    k_steps
    refine ⟨?_⟩
    rename_i T4 h4 F4 N4 l4
    refine neI_led (vs := []) (us := []) N4 (.tail _ (.head _)) .nil (.head _) .nil (by first | exact Nat.le_of_ble_eq_true rfl | ktr_units) ?_
    have N5 := news_sub (b := whole L t4 t5 cD cC cL cW rest) N4 fun p hp => .tail _ (.tail _ hp)
    clear N4
    simp only [decide_true, Bool.not_true]
    k_steps
    refine ⟨?_⟩
    k_dflt (refine LCg.ListComp_U (F₀ := by k_asm) (by with_unfolding_all rfl) (by decide) (by rfl) (by decide) (by rfl) ?_)
    k_steps
    refine ⟨?_⟩
    refine src_led (vs := bv) (fun i ys nw' => ∃ rest', nw' = whole L t4 t5 cD cC cL cW rest' ∧ (∀ p ∈ rest, p ∈ rest') ∧ RowsAre rest' ys ((gs.take i).map fun v => padd (digs v 1))) (by rintro i ys nw' ⟨rest', rfl, hs, _⟩; exact mem_whole (hs _ hbm)) rfl F4 N5 (by lia) ⟨rest, rfl, fun _ h => h, .nil⟩ ?turn2 ?done2
    case turn2 =>
      intro i v I oI C oC D m₂ h6 tk6 E' ys nw' hv z0H hC hmm F6 N6 off n1 n2 n3
      refine hide fun kH => ?_
      obtain ⟨rest', rfl, hs, hys⟩ := z0H
      obtain ⟨a, us, k, ns, rfl, hma, hus, hns⟩ := hbr.at hv
      refine kH ?_
      clear kH
      have hma' : (a, listOf us.toArray k) ∈ whole L t4 t5 cD cC cL cW rest' := mem_whole (hs _ hma)
      refine hide fun kH => ?_
      obtain ⟨z, hz, rfl⟩ := map_at hns
      refine kH ?_
      clear kH
      have hzb := hgb z (List.mem_of_getElem? hz)
      have hnl : (digs z 1).length ≤ 12 := by rw [digs_len]; exact nd_small hzb.1 hzb.2
      have hul := hus.length
      k_with "binaryOp Mult ref int" => (with_reducible refine stop_here ?_)
      refine absW fun Q1 hQ1 => ?_
      k_steps
      rename_i l6 h7 F7 N7 l7
      refine len_led N7 (.tail _ (.tail _ (.tail _ (.tail _ hma')))) (digs z 1).length hul (by rw [hul]; exact Nat.lt_of_le_of_lt hnl (by decide)) ?_
      intro t8 tk8
      k_steps
      refine ⟨?_⟩
      refine rep_led F7 N7 (.head _) (12 - (digs z 1).length) (Int.ofNat_sub hnl).symm (Nat.le_trans (Nat.sub_le _ _) (by decide)) ?_
      intro D8 h8 F8 N8 hD8
      have hI8 := ints_rep tk6 (12 - (digs z 1).length)
      have hL8 : (List.replicate (12 - (digs z 1).length) (0 : Int)).length = 12 - (digs z 1).length := List.length_replicate
      have hV8 : (List.replicate (12 - (digs z 1).length) (Value.int 0 tk6)).length = 12 - (digs z 1).length := List.length_replicate
      k_steps
      rename_i D9 ws9 h9 F9 N9 hI9 l9
      refine hQ1 _ _ ?_
      refine ce_end F9 (ins3 (news_sub (b := (D9, listOf ws9.toArray 0) :: (I, oI) :: (C, oC) :: (D, lst ys) :: whole L t4 t5 cD cC cL cW rest') N9 ?_)) (off_add off ⟨Nat.ne_of_gt l9.2.2.1, Nat.ne_of_gt l9.2.2.2.1, Nat.ne_of_gt l9.2.2.2.2.1⟩) ⟨_, rfl, fun p hp => .tail _ (hs p hp), ?_⟩
      · intro p hp
        rcases List.mem_cons.mp hp with h | h
        · exact h ▸ .head _
        · exact .tail _ (.tail _ (.tail _ h))
      · rw [take_snoc hz, List.map_append]
        exact (hys.mono fun p hp => .tail _ hp).snoc (.head _) hI9
    case done2 =>
      intro g ys nw' z0H D3 h6 tk6 F6 N6 o6
      refine hide fun kH => ?_
      obtain ⟨rest', rfl, hs, hys⟩ := z0H
      refine kH ?_
      clear kH
      rw [hbl, show ms.length = gs.length by rw [hgs, List.length_map], List.take_length] at hys
      have hcLm' : (L + 1 + 1, cL) ∈ whole L t4 t5 cD cC cL cW rest' := mem_core (.tail _ (.tail _ (.head _)))
      k_steps
      refine ⟨?_⟩
      refine neR_led N6 (.head _) (hys.mono fun p hp => .tail _ (mem_whole hp)) (.tail _ (mem_whole (hs _ hlm))) (hlr.mono fun p hp => .tail _ (mem_whole (hs _ hp))) (by first | exact Nat.le_of_ble_eq_true rfl | ktr_units) ?_
      have e : (gs.map fun v => padd (digs v 1)) = ms.map fun v => lettersOf (fmRow v) := by
        rw [hgs, List.map_map]
        apply List.map_congr_left
        intro v _
        exact letters_bits v
      simp only [e, decide_true, Bool.not_true]
      k_with "execs cons" => (with_reducible refine stop_here ?_)
      k_steps
      refine ⟨?_⟩
      exact cont _ _ (fr_back _ hps F6) (news_sub N6 fun p hp => .tail _ (by
        rcases List.mem_append.mp hp with hp | hp
        · exact List.mem_append_left _ hp
        · rcases List.mem_append.mp hp with hp | hp
          · exact List.mem_append_right _ (List.mem_append_left _ hp)
          · rcases List.mem_append.mp hp with hp | hp
            · exact mem_core hp
            · exact mem_whole (hs p hp)))
end Mine

end
section
open PySem PySem.W PyProof.Rows in
theorem Mine.freshS5 {prog : Program} {w : World} {A : Around} {env : Env} {E : Value → Shared → Prop} {Q : Flow → Shared → Prop} {s : Shared} (h : Q .next s) : wpAny (model prog w) A (execs [] env) Q E s := by w_top off; k_with_none; walk1; exact h
open PySem PySem.W PyProof.Rows PyProof.Rows.LCg PyProof.Rows.LCt
set_option Elab.async false
set_option maxRecDepth 100000
set_option maxHeartbeats 4000000
set_option pp.deepTerms false
set_option pp.deepTerms.threshold 6
namespace Mine
local macro_rules | `(tactic| walk_at "storeName") => `(tactic| k_extra "storeName")
noncomputable def countsOf (lss : List (List Int)) : List Int := (List.range 12).map fun j => (lss.map fun l => l.getD j 0).sum
theorem st5 (w : World) {p : Program} {loose : List Str} {mean : ExcName → Option Value} {mg mb : Str → Option Value} {base : Heap} (St : Stands w base p loose mean mg mb) (L fa : Addr) (cd : Value) (m : Str → Option Value) (s : Shared) (Q : Flow → Shared → Prop) (E : Value → Shared → Prop) (t4 t5 rest : Led) (cD cC cL cW : Obj) (F : Fr base L s.heap m) (N : News base L s.heap (whole L t4 t5 cD cC cL cW rest)) (K : LedOk L t4 t5 rest)
    (Lt : Addr) (lv : List Value) (lss : List (List Int)) (kl : Nat) (hcL : cL.data = .cell (some (.ref Lt))) (hcC : cC.data = .cell none)
    (hlm : (Lt, listOf lv.toArray kl) ∈ rest) (hlr : RowsAre rest lv lss) (h12 : ∀ l ∈ lss, l.length = 12) (hl : lss.length ≤ 7)
    (cont : ∀ (h' : Heap) (tk' : Nat) (cC' : Obj) (Ct : Addr) (cv : List Value) (kc : Nat), Fr base L h' m → News base L h' (whole L t4 t5 cD cC' cL cW ((Ct, listOf cv.toArray kc) :: rest)) → LedOk L t4 t5 ((Ct, listOf cv.toArray kc) :: rest) → cC'.data = .cell (some (.ref Ct)) → IntsAre cv (countsOf lss) →
      wpAny (model PR w) (lawA L fa cd) (execs ((dBody lawS).drop 6) (lawEnv L fa cd)) Q E { s with heap := h', toks := tk' }) :
    wpAny (model PR w) (lawA L fa cd) (execs ((dBody lawS).drop 5) (lawEnv L fa cd)) Q E s := by
  have := lawRef
  refine hide fun kH => ?_
  obtain ⟨B, X, T, C1, C2⟩ := St
  refine kH ?_
  clear kH
  revert this X
  k_fill
  intro _ X
  have hcLm : (L + 1 + 1, cL) ∈ whole L t4 t5 cD cC cL cW rest := mem_core (.tail _ (.tail _ (.head _)))
  have hlv := hlr.length
  conv in (List.drop 5 (dBody lawS)) => whnf
  refine hide fun kH => ?_
  obtain ⟨sc, hsc⟩ : ∃ sc, dScope lawS = sc := ⟨_, rfl⟩
  refine kH ?_
  clear kH
  dsimp only [lawA, lawEnv] at cont ⊢
  rw [hsc] at cont ⊢
  conv at hsc => lhs; whnf
  subst hsc
  try k_fold
  k_with_none
  k_with "eval Name" => (k_here; k_dflt (refine' nameX_L2 ?F ?_ ?v ?a ?b; (case F => k_asm); (case a => exact rfl); (case b => exact rfl); (case v => exact rfl); k_whole))
  k_with "call ref" => (with_reducible refine stop_here ?_)
  k_with "CompSrcT" => (with_reducible refine stop_here ?_)
  k_with "CompSrc" => (with_reducible refine stop_here ?_)
  k_with "eval ListComp" => (with_reducible refine stop_here ?_)
  k_with "exec Assign cons ListComp" => (with_reducible refine stop_here ?_)
  k_with "compareOp NotEq ref ref" => (with_reducible refine stop_here ?_)
  k_with "compareOp Eq ref ref" => (with_reducible refine stop_here ?_)
  k_with "pyIter ref" => (with_reducible refine stop_here ?_)
  k_steps
  refine ⟨?_⟩
  k_dflt (refine assign_plain ?_ (by with_unfolding_all rfl) (by with_unfolding_all rfl))
  k_dflt (refine eval_comp (by with_unfolding_all rfl) (by rfl) (by decide) ?_)
  k_steps
  refine ⟨?_⟩
  rename_i h1 _ t1 u1 v1 hR1 F1 N1 _
  refine comp_cell (n := 12) (fun i ys nw' => nw' = whole L t4 t5 cD cC cL cW rest ∧ IntsAre ys ((List.range i).map fun j => (lss.map fun l => l.getD j 0).sum)) rfl (fun _ => rfl) (fun _ => rfl) rfl rfl hR1 rfl rfl (by decide) F1 N1 ⟨rfl, .nil⟩ ?turn1 ?done1
  case turn1 =>
    intro i ti I oI C oC c oc D h2 tk2 E' ys nw' hi z0H hoc F2 N2 off hyl
    refine hide fun kH => ?_
    obtain ⟨rfl, hys⟩ := z0H
    refine kH ?_
    clear kH
    rw [Int.zero_add] at hoc
    refine absW fun Q1 hQ1 => ?_
    k_steps
    refine ⟨?_⟩
    k_dflt (refine LCg.ListComp_U (F₀ := by k_asm) (by with_unfolding_all rfl) (by decide) (by rfl) (by decide) (by rfl) ?_)
    k_steps
    refine ⟨?_⟩
    refine src_ledC (vs := lv) (fun k zs => IntsAre zs ((lss.take k).map fun l => l.getD i 0)) (.tail _ (.tail _ (.tail _ (.tail _ (mem_whole hlm))))) rfl F2 N2 (by lia) .nil ?turn2 ?done2
    case turn2 =>
      intro j v I2 oI2 C2' oC2 D2 m₂ h3 tk3 E'' zs Qturn2 hv hzs hC2 hmm F3 N3 off3 n1 n2 n3 hQturn2
      refine hide fun kH => ?_
      obtain ⟨a, us, k, ns, rfl, hma, hus, hns⟩ := hlr.at hv
      refine kH ?_
      clear kH
      have hma' : (a, listOf us.toArray k) ∈ whole L t4 t5 cD cC cL cW rest := mem_whole hma
      have hnl : ns.length = 12 := h12 ns (List.mem_of_getElem? hns)
      have hul := hus.length
      k_steps
      refine hQturn2 _ _ _ F3 N3 ?_
      try dsimp only
      rw [take_snoc hns, List.map_append]
      have := ints_snoc hzs (ns.getD (i : Int).toNat 0) (by assumption)
      rw [Int.toNat_natCast] at this
      exact this
    case done2 =>
      intro g zs hzs D2 h3 tk3 F3 N3 o3
      rw [hlv, List.take_length] at hzs
      have hzl : zs.length ≤ 7 := by rw [hzs.length, List.length_map]; exact hl
      k_steps
      rename_i h4 tk4 tv4 F4 N4
      refine hQ1 _ _ ?_
      refine ce_end4 F4 (news_sub N4 fun p hp => .tail _ hp) off ⟨rfl, ?_⟩
      rw [List.range_succ, List.map_append]
      exact ints_snoc hys _ _
  case done1 =>
    intro ys nw' Ct h3 tk3 z0H F3 N3 o3
    refine hide fun kH => ?_
    obtain ⟨rfl, hys⟩ := z0H
    refine kH ?_
    clear kH
    have N5 := ins0 N3
    have K5 : LedOk L t4 t5 ((Ct, lst ys) :: rest) := K.add (cD := cD) (cC := cC) (cL := cL) (cW := cW) o3
    k_with "storeName" => (with_reducible refine stop_here ?_)
    k_steps
    refine ⟨?_⟩
    refine store_cell F3 (outC N5) hcC (offC K5) ?_ rfl rfl rfl
    intro h7 oc' hoc F7 N8
    clear N3 N5
    k_with_none
    k_with "eval Name" => (k_here; k_dflt (refine' nameX_L2 ?F ?_ ?v ?a ?b; (case F => k_asm); (case a => exact rfl); (case b => exact rfl); (case v => exact rfl); k_whole))
    k_with "execs cons" => (with_reducible refine stop_here ?_)
    k_steps
    refine ⟨?_⟩
    exact cont _ _ oc' Ct ys _ F7 (backC N8) K5 hoc hys
end Mine

end
section
open PySem PySem.W PyProof.Rows in
theorem Mine.freshS6 {prog : Program} {w : World} {A : Around} {env : Env} {E : Value → Shared → Prop} {Q : Flow → Shared → Prop} {s : Shared} (h : Q .next s) : wpAny (model prog w) A (execs [] env) Q E s := by w_top off; k_with_none; walk1; exact h
open PySem PySem.W PyProof.Rows PyProof.Rows.LCg PyProof.Rows.LCt
set_option Elab.async false
set_option maxRecDepth 100000
set_option maxHeartbeats 4000000
set_option pp.deepTerms false
set_option pp.deepTerms.threshold 6
namespace Mine
noncomputable def totalOf (wd : Nat) (gs : List Int) : List Int := gs.map fun v => val wd (digs v 1) 0 (digs v 1).length
theorem st6 (w : World) {p : Program} {loose : List Str} {mean : ExcName → Option Value} {mg mb : Str → Option Value} {base : Heap} (St : Stands w base p loose mean mg mb) (L fa : Addr) (cd : Value) (m : Str → Option Value) (s : Shared) (Q : Flow → Shared → Prop) (E : Value → Shared → Prop) (t4 t5 rest : Led) (cD cC cL cW : Obj) (F : Fr base L s.heap m) (N : News base L s.heap (whole L t4 t5 cD cC cL cW rest)) (K : LedOk L t4 t5 rest)
    (Bt : Addr) (bv : List Value) (gs : List Int) (kb wd : Nat) (tw : Tok) (hw : 0 < wd) (hw2 : wd < 64) (hcW : cW.data = .cell (some (.int (wd : Int) tw))) (hBt : m (Str.ofString "bits") = some (.ref Bt))
    (hbm : (Bt, listOf bv.toArray kb) ∈ rest) (hbr : RowsAre rest bv (gs.map fun v => digs v 1)) (hgb : ∀ x ∈ gs, 0 ≤ x ∧ x < 4096) (hl : gs.length ≤ 7)
    (cont : ∀ (h' : Heap) (tk' : Nat) (t5' : Led) (tt : Tok), Fr base L h' (fun y => if y = Str.ofString "total" then some (.int (totalOf wd gs).sum tt) else m y) → News base L h' (whole L t4 t5' cD cC cL cW rest) → LedOk L t4 t5' rest →
      wpAny (model PR w) (lawA L fa cd) (execs ((dBody lawS).drop 7) (lawEnv L fa cd)) Q E { s with heap := h', toks := tk' }) :
    wpAny (model PR w) (lawA L fa cd) (execs ((dBody lawS).drop 6) (lawEnv L fa cd)) Q E s := by
  have := lawRef
  refine hide fun kH => ?_
  obtain ⟨B, X, T, C1, C2⟩ := St
  refine kH ?_
  clear kH
  revert this X
  k_fill
  intro _ X
  have hps : ∀ p ∈ [(Str.ofString "bits", Value.ref Bt)], m p.1 = some p.2 := List.forall_mem_cons.mpr ⟨hBt, fun _ h => nomatch h⟩
  have F1 := fr_see _ F hps
  dsimp only [kstB] at F1
  clear F
  have hbl : bv.length = gs.length := by rw [hbr.length, List.length_map]
  conv in (List.drop 6 (dBody lawS)) => whnf
  refine hide fun kH => ?_
  obtain ⟨sc, hsc⟩ : ∃ sc, dScope lawS = sc := ⟨_, rfl⟩
  refine kH ?_
  clear kH
  dsimp only [lawA, lawEnv] at cont ⊢
  rw [hsc] at cont ⊢
  conv at hsc => lhs; whnf
  subst hsc
  try k_fold
  k_with_none
  k_with "eval Name" => (k_here; k_dflt (refine' nameX_L2 ?F ?_ ?v ?a ?b; (case F => k_asm); (case a => exact rfl); (case b => exact rfl); (case v => exact rfl); k_whole))
  k_with "call ref" => (with_reducible refine stop_here ?_)
  k_with "CompSrcT" => (with_reducible refine stop_here ?_)
  k_with "CompSrc" => (with_reducible refine stop_here ?_)
  k_with "eval ListComp" => (with_reducible refine stop_here ?_)
  k_with "exec Assign cons ListComp" => (with_reducible refine stop_here ?_)
  k_with "compareOp NotEq ref ref" => (with_reducible refine stop_here ?_)
  k_with "compareOp Eq ref ref" => (with_reducible refine stop_here ?_)
  k_steps
  refine ⟨?_⟩
  k_dflt (refine LCg.ListComp_U (F₀ := by k_asm) (by with_unfolding_all rfl) (by decide) (by rfl) (by decide) (by rfl) ?_)
  k_steps
  refine ⟨?_⟩
  refine src_led (vs := bv) (fun i zs nw' => ∃ t5', nw' = whole L t4 t5' cD cC cL cW rest ∧ LedOk L t4 t5' rest ∧ IntsAre zs ((gs.take i).map fun v => val wd (digs v 1) 0 (digs v 1).length)) (by rintro i ys nw' ⟨t5', rfl, _⟩; exact mem_whole hbm) rfl F1 N (by lia) ⟨t5, rfl, K, .nil⟩ ?turn1 ?done1
  case turn1 =>
    intro i v I oI C oC D m₂ h3 tk3 E' zs nw' hv z0H hC hmm F3 N3 off n1 n2 n3
    refine hide fun kH => ?_
    obtain ⟨t5', rfl, K', hzs⟩ := z0H
    obtain ⟨a, us, k, ns, rfl, hma, hus, hns⟩ := hbr.at hv
    obtain ⟨z, hz, rfl⟩ := map_at hns
    refine kH ?_
    clear kH
    have hzb := hgb z (List.mem_of_getElem? hz)
    have hnl : (digs z 1).length ≤ 12 := by rw [digs_len]; exact nd_small hzb.1 hzb.2
    have hcWm : (L + 1, cW) ∈ whole L t4 t5' cD cC cL cW rest := mem_core (.tail _ (.tail _ (.tail _ (.head _))))
    refine hide fun kH => ?_
    obtain ⟨o5, h5m⟩ := K'.k5.has
    refine kH ?_
    clear kH
    have x5 := off _ (List.mem_append_right _ (List.mem_append_left _ h5m))
    refine absW fun Q1 hQ1 => ?_
    k_steps
    refine ⟨?_⟩
    have N6 := out5 N3
    k_dflt (refine' Does.use (d2i_any w wd _ t5' ((I, oI) :: (C, oC) :: (D, lst zs) :: (t4 ++ (core L cD cC cL cW ++ rest))) a us (digs z 1) k K'.k5 (.tail _ (.tail _ (.tail _ (List.mem_append_right _ (List.mem_append_right _ hma))))) hus (by lia) ?hb ?h51 hw hw2) ?_ ?_ ?_ ?_ ?_ ?_ ?_ ?_ ?_ ?_ ?_)
    case hb => exact fun i => ⟨(digs_b z 1 i).1, Int.lt_of_lt_of_le (digs_b z 1 i).2 (by decide)⟩
    case h51 => exact off_cons (Ne.symm x5.1) (off_cons (Ne.symm x5.2.1) (off_cons (Ne.symm x5.2.2) K'.not51))
    all_goals try (first | ((with_reducible show Below _ _ _ _); k_asm) | ((with_reducible show Fr _ _ _ _); k_asm) | ((with_reducible show Frag.In _ _); k_asm) | ((with_reducible show News _ _ _ _); k_asm) | ((with_reducible show Top _ _ _ _ _ _); k_asm) | ((with_reducible show CodeHd _ _ _); first | assumption | exact CodeHd.keeps (by assumption) (Fr.keep (by assumption))) | ((with_reducible show Scope.kind _ = _); exact rfl) | ((with_reducible show _ < recursionLimit); first | exact droom (by with_reducible assumption) rfl | exact Nat.le_of_ble_eq_true rfl | ktr_room) | ((with_reducible show _ < cLine); first | exact uroom (by with_reducible assumption) rfl | exact Nat.le_of_ble_eq_true rfl | ktr_units))
    refine hide2 ?_
    rintro PH kH r news' ⟨⟨t, rfl⟩, t5'', k5'', rfl, ht5⟩
    refine kH _ _ ?_
    clear kH PH
    intro h5 tk5 F5 N7
    k_steps
    refine hQ1 _ _ ?_
    refine ce_end F5 (back5 N7) (off5 K'.k5 rfl off ht5) ⟨t5'', rfl, K'.turn5 (cD := cD) (cC := cC) (cL := cL) (cW := cW) k5'' ht5 (fun p hp => .tail _ (.tail _ (.tail _ hp))), ?_⟩
    rw [take_snoc hz, List.map_append]
    exact ints_snoc hzs _ _
  case done1 =>
    intro g zs nw' z0H D2 h3 tk3 F3 N3 o3
    refine hide fun kH => ?_
    obtain ⟨t5', rfl, K', hzs⟩ := z0H
    refine kH ?_
    clear kH
    rw [hbl, List.take_length] at hzs
    have hzl : zs.length ≤ 7 := by rw [hzs.length, List.length_map]; exact hl
    k_with "execs cons" => (with_reducible refine stop_here ?_)
    k_steps
    refine ⟨?_⟩
    rename_i h4 tk4 tv4 h5 F5 N5
    exact cont _ _ t5' tv4 (fr_back1 _ hps F5) (news_sub N5 fun p hp => .tail _ hp) K'
end Mine

end
section
open PySem PySem.W PyProof.Rows in
theorem Mine.freshS7 {prog : Program} {w : World} {A : Around} {env : Env} {E : Value → Shared → Prop} {Q : Flow → Shared → Prop} {s : Shared} (h : Q .next s) : wpAny (model prog w) A (execs [] env) Q E s := by w_top off; k_with_none; walk1; exact h
open PySem PySem.W PyProof.Rows PyProof.Rows.LCg PyProof.Rows.LCt
set_option Elab.async false
set_option maxRecDepth 100000
set_option maxHeartbeats 4000000
set_option pp.deepTerms false
set_option pp.deepTerms.threshold 6
namespace Mine
local macro_rules | `(tactic| walk_at "storeName") => `(tactic| k_extra "storeName")
local macro_rules | `(tactic| walk_at "binaryOp Mult ref int") => `(tactic| k_extra "binaryOp Mult ref int")
theorem rep0_led {prog : Program} {w : World} {A : Around} {E : Value → Shared → Prop} {s : Shared} {h₀ : Heap} {L : Addr} {m : Str → Option Value} {news : Led} {l : Addr} {kk : Nat} {x : Int} {t u : Tok} {Q : Value → Shared → Prop} (F : Fr h₀ L s.heap m) (N : News h₀ L s.heap news) (hm : (l, listOf #[Value.int 0 t] kk) ∈ news) (k : Nat) (hx : x = (k : Int)) (hk : k ≤ 100000)
    (h : ∀ D h' vs, IntsAre vs (List.replicate k 0) → vs.length = k → Fr h₀ L h' m → News h₀ L h' ((D, listOf vs.toArray 0) :: news) → (∀ p ∈ news, p.1 < D) → Q (.ref D) { s with heap := h' }) :
    wpAny (model prog w) A (binaryOp .Mult (.ref l) (.int x u)) Q E s :=
  rep_led F N hm k hx hk fun D h' F' N' hD => h D h' _ (ints_rep t k) List.length_replicate F' N' hD
theorem st7 (w : World) {p : Program} {loose : List Str} {mean : ExcName → Option Value} {mg mb : Str → Option Value} {base : Heap} (St : Stands w base p loose mean mg mb) (L fa : Addr) (cd : Value) (m : Str → Option Value) (s : Shared) (Q : Flow → Shared → Prop) (E : Value → Shared → Prop) (t4 t5 rest : Led) (cD cC cL cW : Obj) (F : Fr base L s.heap m) (N : News base L s.heap (whole L t4 t5 cD cC cL cW rest)) (K : LedOk L t4 t5 rest)
    (Ct : Addr) (cv : List Value) (cs : List Int) (kc wd : Nat) (tw tt : Tok) (TT : Int) (hw : 0 < wd) (hw2 : wd < 64) (hcW : cW.data = .cell (some (.int (wd : Int) tw))) (hcC : cC.data = .cell (some (.ref Ct))) (hcD : cD.data = .cell none)
    (hT : m (Str.ofString "total") = some (.int TT tt)) (hcm : (Ct, listOf cv.toArray kc) ∈ rest) (hcv : IntsAre cv cs) (hT0 : 0 ≤ TT) (hTn : nd TT wd ≤ 12) (hTc : padd (digs TT wd) = cs)
    (cont : ∀ (h' : Heap) (tk' : Nat) (t4' : Led) (cD' : Obj) (Dt : Addr) (dv : List Value) (kd : Nat), Fr base L h' m → News base L h' (whole L t4' t5 cD' cC cL cW ((Dt, listOf dv.toArray kd) :: rest)) → LedOk L t4' t5 ((Dt, listOf dv.toArray kd) :: rest) → cD'.data = .cell (some (.ref Dt)) → IntsAre dv (digs TT wd) →
      wpAny (model PR w) (lawA L fa cd) (execs ((dBody lawS).drop 9) (lawEnv L fa cd)) Q E { s with heap := h', toks := tk' }) :
    wpAny (model PR w) (lawA L fa cd) (execs ((dBody lawS).drop 7) (lawEnv L fa cd)) Q E s := by
  have := lawRef
  refine hide fun kH => ?_
  obtain ⟨B, X, T, C1, C2⟩ := St
  refine kH ?_
  clear kH
  revert this X
  k_fill
  intro _ X
  have hps : ∀ p ∈ [(Str.ofString "total", Value.int TT tt)], m p.1 = some p.2 := List.forall_mem_cons.mpr ⟨hT, fun _ h => nomatch h⟩
  have F1 := fr_see _ F hps
  dsimp only [kstB] at F1
  clear F
  have hcWm : (L + 1, cW) ∈ whole L t4 t5 cD cC cL cW rest := mem_core (.tail _ (.tail _ (.tail _ (.head _))))
  conv in (List.drop 7 (dBody lawS)) => whnf
  refine hide fun kH => ?_
  obtain ⟨sc, hsc⟩ : ∃ sc, dScope lawS = sc := ⟨_, rfl⟩
  refine kH ?_
  clear kH
  dsimp only [lawA, lawEnv] at cont ⊢
  rw [hsc] at cont ⊢
  conv at hsc => lhs; whnf
  subst hsc
  try k_fold
  k_with_none
  k_with "eval Name" => (k_here; k_dflt (refine' nameX_L2 ?F ?_ ?v ?a ?b; (case F => k_asm); (case a => exact rfl); (case b => exact rfl); (case v => exact rfl); k_whole))
  k_with "call ref" => (with_reducible refine stop_here ?_)
  k_with "CompSrcT" => (with_reducible refine stop_here ?_)
  k_with "CompSrc" => (with_reducible refine stop_here ?_)
  k_with "eval ListComp" => (with_reducible refine stop_here ?_)
  k_with "exec Assign cons ListComp" => (with_reducible refine stop_here ?_)
  k_with "compareOp NotEq ref ref" => (with_reducible refine stop_here ?_)
  k_with "compareOp Eq ref ref" => (with_reducible refine stop_here ?_)
  k_steps
  refine ⟨?_⟩
  have N1 : News base L s.heap (t4 ++ (t5 ++ (core L cD cC cL cW ++ rest))) := N
  k_dflt (refine' Does.use (i2d_any w TT wd _ _ t4 (t5 ++ (core L cD cC cL cW ++ rest)) K.k4 K.not44 hT0 (Nat.le_trans hTn (by decide)) hw hw2) ?_ ?_ ?_ ?_ ?_ ?_ ?_ ?_ ?_ ?_ ?_)
  all_goals try (first | ((with_reducible show Below _ _ _ _); k_asm) | ((with_reducible show Fr _ _ _ _); k_asm) | ((with_reducible show Frag.In _ _); k_asm) | ((with_reducible show News _ _ _ _); k_asm) | ((with_reducible show Top _ _ _ _ _ _); k_asm) | ((with_reducible show CodeHd _ _ _); first | assumption | exact CodeHd.keeps (by assumption) (Fr.keep (by assumption))) | ((with_reducible show Scope.kind _ = _); exact rfl) | ((with_reducible show _ < recursionLimit); first | exact droom (by with_reducible assumption) rfl | exact Nat.le_of_ble_eq_true rfl | ktr_room) | ((with_reducible show _ < cLine); first | exact uroom (by with_reducible assumption) rfl | exact Nat.le_of_ble_eq_true rfl | ktr_units))
  refine hide2 ?_
  rintro PH kH r news' ⟨Dt, us, k2, t4', rfl, hus, k4', rfl, hD2, h44D, ht4⟩
  refine kH _ _ ?_
  clear kH PH
  intro h5 tk5 F5 N7
  have N8 : News base L h5 (whole L t4' t5 cD cC cL cW ((Dt, listOf us.toArray k2) :: rest)) := ins0 N7
  have K8 : LedOk L t4' t5 ((Dt, listOf us.toArray k2) :: rest) := (K.turn4 k4' ht4 (fun p hp => hp)).new4 (cD := cD) (cC := cC) (cL := cL) (cW := cW) (fun p hp => hp) hD2 h44D
  clear N7 N1
  k_with "storeName" => (with_reducible refine stop_here ?_)
  k_steps
  refine ⟨?_⟩
  refine store_cell F5 (outD N8) hcD (offD K8) ?_ rfl rfl rfl
  intro h7 cD' hoc F7 N9
  have N10 := backD N9
  clear N9 N8
  have hnl : (digs TT wd).length ≤ 12 := by rw [digs_len]; exact hTn
  have hul := hus.length
  have m1 : (L + 1 + 1 + 1 + 1, cD') ∈ whole L t4' t5 cD' cC cL cW ((Dt, listOf us.toArray k2) :: rest) := mem_core (.head _)
  have m2 : (L + 1 + 1 + 1, cC) ∈ whole L t4' t5 cD' cC cL cW ((Dt, listOf us.toArray k2) :: rest) := mem_core (.tail _ (.head _))
  have m3 : (Dt, listOf us.toArray k2) ∈ whole L t4' t5 cD' cC cL cW ((Dt, listOf us.toArray k2) :: rest) := mem_whole (.head _)
  have m4 : (Ct, listOf cv.toArray kc) ∈ whole L t4' t5 cD' cC cL cW ((Dt, listOf us.toArray k2) :: rest) := mem_whole (.tail _ hcm)
  k_with_none
  k_with "eval Name" => (k_here; k_dflt (refine' nameX_L2 ?F ?_ ?v ?a ?b; (case F => k_asm); (case a => exact rfl); (case b => exact rfl); (case v => exact rfl); k_whole))
  k_with "compareOp NotEq ref ref" => (with_reducible refine stop_here ?_)
  k_with "compareOp Eq ref ref" => (with_reducible refine stop_here ?_)
  k_with "binaryOp Mult ref int" => (with_reducible refine stop_here ?_)
  k_steps
  refine ⟨?_⟩
  rename_i A1 ws1 h8 l8 hI8 _ _ B1 h9 F9 N9 l9
  refine eqI_led (us := [Value.int 0 _]) N9 (.tail _ (.head _)) hI8 (.head _) (.cons 0 _ .nil) (by first | exact Nat.le_of_ble_eq_true rfl | ktr_units) ?_
  simp only [digs_top hT0 hw, decide_false]
  have N11 := news_sub (b := whole L t4' t5 cD' cC cL cW ((Dt, listOf us.toArray k2) :: rest)) N9 fun p hp => .tail _ (.tail _ hp)
  clear N9
  k_steps
  rename_i l6 h10 F10 N12 l10
  refine len_led N12 (.tail _ m3) (digs TT wd).length hul (by rw [hul]; exact Nat.lt_of_le_of_lt hnl (by decide)) ?_
  intro t8 tk8
  k_steps
  refine ⟨?_⟩
  refine rep0_led F10 N12 (.head _) (12 - (digs TT wd).length) (Int.ofNat_sub hnl).symm (Nat.le_trans (Nat.sub_le _ _) (by decide)) ?_
  intro D8 h11 zs hzs hzl F11 N13 hD8
  have hL8 : (List.replicate (12 - (digs TT wd).length) (0 : Int)).length = 12 - (digs TT wd).length := List.length_replicate
  k_steps
  refine ⟨?_⟩
  rename_i D9 ws9 h12 F12 N14 hI12 l12
  refine neI_led N14 (.head _) hI12 (.tail _ (.tail _ (.tail _ m4))) hcv (by first | exact Nat.le_of_ble_eq_true rfl | ktr_units) ?_
  have e : digs TT wd ++ List.replicate (12 - (digs TT wd).length) 0 = cs := hTc
  simp only [e, decide_true, Bool.not_true]
  k_with "execs cons" => (with_reducible refine stop_here ?_)
  k_steps
  refine ⟨?_⟩
  exact cont _ _ t4' cD' Dt us k2 (fr_back _ hps F12) (news_sub N14 fun p hp => .tail _ (.tail _ (.tail _ hp))) K8 hoc hus
end Mine

end
section
open PySem PySem.W PyProof.Rows in
theorem Mine.freshS8 {prog : Program} {w : World} {A : Around} {env : Env} {E : Value → Shared → Prop} {Q : Flow → Shared → Prop} {s : Shared} (h : Q .next s) : wpAny (model prog w) A (execs [] env) Q E s := by w_top off; k_with_none; walk1; exact h
open PySem PySem.W PyProof.Rows PyProof.Rows.LCg PyProof.Rows.LCt
set_option Elab.async false
set_option maxRecDepth 100000
set_option maxHeartbeats 4000000
set_option pp.deepTerms false
set_option pp.deepTerms.threshold 6
namespace Mine
local macro_rules | `(tactic| walk_at "binaryOp Pow int int") => `(tactic| k_extra "binaryOp Pow int int")
theorem pow2_to {prog : Program} {w : World} {A : Around} {E : Value → Shared → Prop} {s : Shared} {t u : Tok} {Q : Value → Shared → Prop} {x : Int} (n : Nat) (hx : x = (n : Int)) (hn : n ≤ 1000) (h : Q (.int (2 ^ n) s.toks) { s with toks := s.toks + 1 }) : wpAny (model prog w) A (binaryOp .Pow (.int 2 t) (.int x u)) Q E s := by
  subst hx
  refine AutoIntOpsIf.pow ?_
  rw [if_pos (by lia)]
  by_cases h0 : n = 0
  · subst h0
    rw [if_pos (by decide)]
    exact h
  · rw [if_neg (by simpa using h0), if_neg (by decide), if_neg (by decide), if_neg ?_]
    · rw [Int.toNat_natCast]; exact h
    · have e : Builtin.Int.intBits 2 = 2 := by decide
      rw [e]
      unfold Builtin.Int.intTooBig
      have hb : bitsLine = 134217728 := by decide
      simp only [hb, decide_eq_true_eq]
      lia
theorem out5w {h₀ h : Heap} {L : Addr} {t4 t5 rest : Led} {cD cC cL cW : Obj} (N : News h₀ L h (whole L t4 t5 cD cC cL cW rest)) : News h₀ L h (t5 ++ (t4 ++ (core L cD cC cL cW ++ rest))) :=
  news_sub N fun _ hp => app_swap (A := t5) (B := t4) hp
theorem back5w {h₀ h : Heap} {L : Addr} {t4 t5 rest : Led} {cD cC cL cW : Obj} (N : News h₀ L h (t5 ++ (t4 ++ (core L cD cC cL cW ++ rest)))) : News h₀ L h (whole L t4 t5 cD cC cL cW rest) :=
  news_sub N fun _ hp => app_swap (A := t4) (B := t5) hp
theorem st8 (w : World) {p : Program} {loose : List Str} {mean : ExcName → Option Value} {mg mb : Str → Option Value} {base : Heap} (St : Stands w base p loose mean mg mb) (L fa : Addr) (cd : Value) (m : Str → Option Value) (s : Shared) (Q : Flow → Shared → Prop) (E : Value → Shared → Prop) (t4 t5 rest : Led) (cD cC cL cW : Obj) (F : Fr base L s.heap m) (N : News base L s.heap (whole L t4 t5 cD cC cL cW rest)) (K : LedOk L t4 t5 rest)
    (Ct : Addr) (cv : List Value) (cs : List Int) (kc wd : Nat) (tw tt : Tok) (TT : Int) (hw : 0 < wd) (hw2 : wd < 64) (hcW : cW.data = .cell (some (.int (wd : Int) tw))) (hcC : cC.data = .cell (some (.ref Ct)))
    (hT : m (Str.ofString "total") = some (.int TT tt)) (hcm : (Ct, listOf cv.toArray kc) ∈ rest) (hcv : IntsAre cv cs) (hcl : cs.length = 12)
    (hR0 : 0 ≤ 2 ^ (12 * wd) - 1 - TT) (hRn : nd (2 ^ (12 * wd) - 1 - TT) wd ≤ 12) (hRd : digs (2 ^ (12 * wd) - 1 - TT) wd = cs.map fun c => 2 ^ wd - 1 - c) (hRv : val wd (cs.map fun c => 2 ^ wd - 1 - c) 0 12 = 2 ^ (12 * wd) - 1 - TT) (hlb : ∀ i, 0 ≤ (cs.map fun c => 2 ^ wd - 1 - c).getD i 0 ∧ (cs.map fun c => 2 ^ wd - 1 - c).getD i 0 < (2 : Int) ^ 64)
    (cont : ∀ (h' : Heap) (tk' : Nat) (t4' t5' : Led) (v1 v2 : Value), Fr base L h' (fun y => if y = Str.ofString "lacks" then some v1 else if y = Str.ofString "rest" then some v2 else m y) → News base L h' (whole L t4' t5' cD cC cL cW rest) → LedOk L t4' t5' rest →
      wpAny (model PR w) (lawA L fa cd) (execs ((dBody lawS).drop 11) (lawEnv L fa cd)) Q E { s with heap := h', toks := tk' }) :
    wpAny (model PR w) (lawA L fa cd) (execs ((dBody lawS).drop 9) (lawEnv L fa cd)) Q E s := by
  have := lawRef
  refine hide fun kH => ?_
  obtain ⟨B, X, T, C1, C2⟩ := St
  refine kH ?_
  clear kH
  revert this X
  k_fill
  intro _ X
  have hps : ∀ p ∈ [(Str.ofString "total", Value.int TT tt)], m p.1 = some p.2 := List.forall_mem_cons.mpr ⟨hT, fun _ h => nomatch h⟩
  have F1 := fr_see _ F hps
  dsimp only [kstB] at F1
  clear F
  have m1 : (L + 1, cW) ∈ whole L t4 t5 cD cC cL cW rest := mem_core (.tail _ (.tail _ (.tail _ (.head _))))
  have m2 : (L + 1 + 1 + 1, cC) ∈ whole L t4 t5 cD cC cL cW rest := mem_core (.tail _ (.head _))
  conv in (List.drop 9 (dBody lawS)) => whnf
  refine hide fun kH => ?_
  obtain ⟨sc, hsc⟩ : ∃ sc, dScope lawS = sc := ⟨_, rfl⟩
  refine kH ?_
  clear kH
  dsimp only [lawA, lawEnv] at cont ⊢
  rw [hsc] at cont ⊢
  conv at hsc => lhs; whnf
  subst hsc
  try k_fold
  k_with_none
  k_with "eval Name" => (k_here; k_dflt (refine' nameX_L2 ?F ?_ ?v ?a ?b; (case F => k_asm); (case a => exact rfl); (case b => exact rfl); (case v => exact rfl); k_whole))
  k_with "call ref" => (with_reducible refine stop_here ?_)
  k_with "CompSrcT" => (with_reducible refine stop_here ?_)
  k_with "CompSrc" => (with_reducible refine stop_here ?_)
  k_with "eval ListComp" => (with_reducible refine stop_here ?_)
  k_with "exec Assign cons ListComp" => (with_reducible refine stop_here ?_)
  k_with "compareOp NotEq ref ref" => (with_reducible refine stop_here ?_)
  k_with "compareOp Eq ref ref" => (with_reducible refine stop_here ?_)
  k_with "binaryOp Pow int int" => (with_reducible refine stop_here ?_)
  k_steps
  refine ⟨?_⟩
  k_dflt (refine LCg.ListComp_U (F₀ := by k_asm) (by with_unfolding_all rfl) (by decide) (by rfl) (by decide) (by rfl) ?_)
  k_steps
  refine ⟨?_⟩
  refine src_ledC (vs := cv) (fun i ys => IntsAre ys ((cs.take i).map fun c => 2 ^ wd - 1 - c)) (mem_whole hcm) rfl F1 N (by rw [hcv.length]; lia) .nil ?turn1 ?done1
  case turn1 =>
    intro i v I oI C oC D m₂ h3 tk3 E' zs Qturn1 hv hzs hC hmm F3 N3 off n1 n2 n3 hQturn1
    refine hide fun kH => ?_
    obtain ⟨z, t, rfl, hz⟩ := ints_at hcv hv
    refine kH ?_
    clear kH
    k_steps
    refine ⟨?_⟩
    refine pow2_to wd rfl (by lia) ?_
    k_steps
    refine hQturn1 _ _ _ F3 N3 ?_
    try dsimp only
    rw [take_snoc hz, List.map_append]
    exact ints_snoc hzs _ _
  case done1 =>
    intro g zs hzs Ll h3 tk3 F3 N3 o3
    rw [hcv.length, List.take_length] at hzs
    k_steps
    refine ⟨?_⟩
    refine pow2_to (12 * wd) (by lia) (by lia) ?_
    k_steps
    refine ⟨?_⟩
    rename_i Tp h4 lT h5 h6 h7 F7 N7
    have N8 := ins0 (news_sub (b := (Ll, lst zs) :: whole L t4 t5 cD cC cL cW rest) N7 fun p hp => .tail _ hp)
    have K8 : LedOk L t4 t5 ((Ll, lst zs) :: rest) := K.add (cD := cD) (cC := cC) (cL := cL) (cW := cW) (off1_mem o3)
    clear N7
    have N9 : News base L h7 (t4 ++ (t5 ++ (core L cD cC cL cW ++ ((Ll, lst zs) :: rest)))) := N8
    k_dflt (refine' Does.use (i2d_any w (2 ^ (12 * wd) - 1 - TT) wd _ _ t4 (t5 ++ (core L cD cC cL cW ++ ((Ll, lst zs) :: rest))) K8.k4 K8.not44 hR0 (Nat.le_trans hRn (by decide)) hw hw2) ?_ ?_ ?_ ?_ ?_ ?_ ?_ ?_ ?_ ?_ ?_)
    all_goals try (first | ((with_reducible show Below _ _ _ _); k_asm) | ((with_reducible show Fr _ _ _ _); k_asm) | ((with_reducible show Frag.In _ _); k_asm) | ((with_reducible show News _ _ _ _); k_asm) | ((with_reducible show Top _ _ _ _ _ _); k_asm) | ((with_reducible show CodeHd _ _ _); first | assumption | exact CodeHd.keeps (by assumption) (Fr.keep (by assumption))) | ((with_reducible show Scope.kind _ = _); exact rfl) | ((with_reducible show _ < recursionLimit); first | exact droom (by with_reducible assumption) rfl | exact Nat.le_of_ble_eq_true rfl | ktr_room) | ((with_reducible show _ < cLine); first | exact uroom (by with_reducible assumption) rfl | exact Nat.le_of_ble_eq_true rfl | ktr_units))
    refine hide2 ?_
    rintro PH kH r news' ⟨Dn, us, k2, t4', rfl, hus, k4', rfl, hD2, h44D, ht4⟩
    refine kH _ _ ?_
    clear kH PH
    intro h8 tk8 F8 N10
    rw [hRd] at hus
    have N11 : News base L h8 (whole L t4' t5 cD cC cL cW ((Dn, listOf us.toArray k2) :: (Ll, lst zs) :: rest)) := ins0 N10
    have K11 : LedOk L t4' t5 ((Dn, listOf us.toArray k2) :: (Ll, lst zs) :: rest) := (K8.turn4 k4' ht4 (fun p hp => hp)).new4 (cD := cD) (cC := cC) (cL := cL) (cW := cW) (fun p hp => hp) hD2 h44D
    clear N10 N9
    k_steps
    refine ⟨?_⟩
    refine neI_led N11 (mem_whole (.head _)) hus (mem_whole (.tail _ (.head _))) hzs (by first | exact Nat.le_of_ble_eq_true rfl | ktr_units) ?_
    have m3 : (L + 1, cW) ∈ whole L t4' t5 cD cC cL cW ((Dn, listOf us.toArray k2) :: (Ll, lst zs) :: rest) := mem_core (.tail _ (.tail _ (.tail _ (.head _))))
    simp only [decide_true, Bool.not_true]
    k_steps
    refine ⟨?_⟩
    have N12 := out5w N11
    have hzl : (cs.map fun c => 2 ^ wd - 1 - c).length = 12 := by rw [List.length_map]; exact hcl
    k_dflt (refine' Does.use (d2i_any w wd _ t5 (t4' ++ (core L cD cC cL cW ++ ((Dn, listOf us.toArray k2) :: (Ll, lst zs) :: rest))) Ll zs (cs.map fun c => 2 ^ wd - 1 - c) zs.length K11.k5 (List.mem_append_right _ (List.mem_append_right _ (.tail _ (.head _)))) hzs (by lia) hlb K11.not51 hw hw2) ?_ ?_ ?_ ?_ ?_ ?_ ?_ ?_ ?_ ?_ ?_)
    all_goals try (first | ((with_reducible show Below _ _ _ _); k_asm) | ((with_reducible show Fr _ _ _ _); k_asm) | ((with_reducible show Frag.In _ _); k_asm) | ((with_reducible show News _ _ _ _); k_asm) | ((with_reducible show Top _ _ _ _ _ _); k_asm) | ((with_reducible show CodeHd _ _ _); first | assumption | exact CodeHd.keeps (by assumption) (Fr.keep (by assumption))) | ((with_reducible show Scope.kind _ = _); exact rfl) | ((with_reducible show _ < recursionLimit); first | exact droom (by with_reducible assumption) rfl | exact Nat.le_of_ble_eq_true rfl | ktr_room) | ((with_reducible show _ < cLine); first | exact uroom (by with_reducible assumption) rfl | exact Nat.le_of_ble_eq_true rfl | ktr_units))
    refine hide2 ?_
    rintro PH kH r news' ⟨⟨t, rfl⟩, t5', k5', rfl, ht5⟩
    refine kH _ _ ?_
    clear kH PH
    intro h9 tk9 F9 N13
    rw [hzl, hRv]
    have N14 := back5w N13
    have K14 : LedOk L t4' t5' ((Dn, listOf us.toArray k2) :: (Ll, lst zs) :: rest) := K11.turn5 (cD := cD) (cC := cC) (cL := cL) (cW := cW) k5' ht5 (fun p hp => hp)
    clear N12 N13
    k_with "execs cons" => (with_reducible refine stop_here ?_)
    k_steps
    · rename_i hne
      exact absurd rfl hne
    · refine ⟨?_⟩
      exact cont _ _ t4' t5' _ _ (fr_back2 _ hps F9) (news_sub N14 (fun p hp => by
        rcases List.mem_append.mp hp with hp | hp
        · exact List.mem_append_left _ hp
        · rcases List.mem_append.mp hp with hp | hp
          · exact List.mem_append_right _ (List.mem_append_left _ hp)
          · rcases List.mem_append.mp hp with hp | hp
            · exact mem_core hp
            · exact mem_whole (.tail _ (.tail _ hp)))) (K14.sub fun p hp => .inl (.tail _ (.tail _ hp)))
end Mine

end
section
open PySem PySem.W PyProof.Rows in
theorem Mine.freshS9 {prog : Program} {w : World} {A : Around} {env : Env} {E : Value → Shared → Prop} {Q : Flow → Shared → Prop} {s : Shared} (h : Q .next s) : wpAny (model prog w) A (execs [] env) Q E s := by w_top off; k_with_none; walk1; exact h
open PySem PySem.W PyProof.Rows PyProof.Rows.LCg PyProof.Rows.LCt
set_option Elab.async false
set_option maxRecDepth 100000
set_option maxHeartbeats 4000000
set_option pp.deepTerms false
set_option pp.deepTerms.threshold 6
namespace Mine
noncomputable def marks (ds : List Int) (k : Nat) : List Int := ds.map fun c => if (k : Int) < c then 1 else 0
noncomputable def fileOf (ds : List Int) (k : Nat) : Int := val 1 (marks ds k) 0 ds.length
theorem marks_b (ds : List Int) (k i : Nat) : 0 ≤ (marks ds k).getD i 0 ∧ (marks ds k).getD i 0 < 2 ^ 64 := by
  unfold marks
  rw [List.getD_eq_getElem?_getD, List.getElem?_map]
  cases ds[i]? with
  | none => exact ⟨Int.le_refl _, (by decide : (0 : Int) < 2 ^ 64)⟩
  | some c =>
    simp only [Option.map_some, Option.getD_some]
    split <;> decide
theorem range_n0 (n : Nat) : Builtin.Range.rangeSize 0 (n : Int) 1 = (n : Int) := by
  have := range_n 0 n
  rwa [Int.zero_add] at this
theorem out5x {h₀ h : Heap} {L : Addr} {a b c d e : Addr × Obj} {t4 t5 rest : Led} {cD cC cL cW : Obj} (N : News h₀ L h (a :: b :: c :: d :: e :: whole L t4 t5 cD cC cL cW rest)) : News h₀ L h (t5 ++ (a :: b :: c :: d :: e :: (t4 ++ (core L cD cC cL cW ++ rest)))) :=
  news_sub N fun _ hp => app_swap (A := t5) (B := a :: b :: c :: d :: e :: t4) hp
theorem back5x {h₀ h : Heap} {L : Addr} {a b c d e : Addr × Obj} {t4 t5 rest : Led} {cD cC cL cW : Obj} (N : News h₀ L h (t5 ++ (a :: b :: c :: d :: e :: (t4 ++ (core L cD cC cL cW ++ rest))))) : News h₀ L h (b :: c :: d :: e :: whole L t4 t5 cD cC cL cW rest) :=
  news_sub N fun _ hp => app_swap (A := a :: b :: c :: d :: e :: t4) (B := t5) (.tail _ hp)
theorem off5x {L : Addr} {t4 t5 rest t5' R : Led} {cD cC cL cW : Obj} {I C c D : Addr} {d0 : Addr × Obj} {oI oC oc oD : Obj} (k5 : T51 t5) (hR : R = d0 :: (I, oI) :: (C, oC) :: (c, oc) :: (D, oD) :: (t4 ++ (core L cD cC cL cW ++ rest))) (off : ∀ p ∈ whole L t4 t5 cD cC cL cW rest, p.1 ≠ I ∧ p.1 ≠ C ∧ p.1 ≠ c ∧ p.1 ≠ D)
    (h : ∀ p ∈ t5', p ∈ t5 ∨ p.1 = 51 ∨ ∀ q ∈ R, q.1 < p.1) : ∀ p ∈ whole L t4 t5' cD cC cL cW rest, p.1 ≠ I ∧ p.1 ≠ C ∧ p.1 ≠ c ∧ p.1 ≠ D := by
  refine hide fun kH => ?_
  obtain ⟨o4, h4⟩ := k5.has
  refine kH ?_
  clear kH
  have x4 := off _ (List.mem_append_right _ (List.mem_append_left _ h4))
  subst hR
  intro p hp
  rcases List.mem_append.mp hp with hp | hp
  · exact off p (List.mem_append_left _ hp)
  · rcases List.mem_append.mp hp with hp | hp
    · rcases h p hp with z | z | z
      · exact off p (List.mem_append_right _ (List.mem_append_left _ z))
      · rw [z]; exact x4
      · exact ⟨Nat.ne_of_gt (z _ (.tail _ (.head _))), Nat.ne_of_gt (z _ (.tail _ (.tail _ (.head _)))), Nat.ne_of_gt (z _ (.tail _ (.tail _ (.tail _ (.head _))))), Nat.ne_of_gt (z _ (.tail _ (.tail _ (.tail _ (.tail _ (.head _))))))⟩
    · rcases List.mem_append.mp hp with hp | hp
      · exact off p (mem_core hp)
      · exact off p (mem_whole hp)
theorem d2i_one (w : World) (t2 : Tok) (tl rest : Led) (Dg : Addr) (vs : List Value) (ns : List Int) (k : Nat) (hT : T51 tl) (hm : (Dg, listOf vs.toArray k) ∈ rest) (hi : IntsAre vs ns) (hnl : ns.length < 600) (hb : ∀ i, 0 ≤ ns.getD i 0 ∧ ns.getD i 0 < 2 ^ 64) (h51 : ∀ p ∈ rest, p.1 ≠ 51) :
    Does w 56 [.ref Dg, .int 1 t2] 650 (tl ++ rest) (fun r news' => (∃ t, r = .int (val 1 ns 0 ns.length) t) ∧ ∃ tl', T51 tl' ∧ news' = tl' ++ rest ∧ (∀ p ∈ tl', p ∈ tl ∨ p.1 = 51 ∨ ∀ q ∈ rest, q.1 < p.1)) :=
  d2i_any w 1 t2 tl rest Dg vs ns k hT hm hi hnl hb h51 (by decide) (by decide)
theorem st9 (w : World) {p : Program} {loose : List Str} {mean : ExcName → Option Value} {mg mb : Str → Option Value} {base : Heap} (St : Stands w base p loose mean mg mb) (L fa : Addr) (cd : Value) (m : Str → Option Value) (s : Shared) (Q : Flow → Shared → Prop) (E : Value → Shared → Prop) (t4 t5 rest : Led) (cD cC cL cW : Obj) (F : Fr base L s.heap m) (N : News base L s.heap (whole L t4 t5 cD cC cL cW rest)) (K : LedOk L t4 t5 rest)
    (M Dt : Addr) (mv dv : List Value) (ms ds : List Int) (kM kd : Nat) (hM : m (Str.ofString "modes") = some (.ref M)) (hcD : cD.data = .cell (some (.ref Dt))) (hmm : (M, listOf mv.toArray kM) ∈ rest) (hmi : IntsAre mv ms) (hml : ms.length ≤ 7)
    (hdm : (Dt, listOf dv.toArray kd) ∈ rest) (hdi : IntsAre dv ds) (hdl : ds.length ≤ 12)
    (cont : ∀ (h' : Heap) (tk' : Nat) (t5' : Led) (Ft : Addr) (fv : List Value) (kf : Nat), Fr base L h' (fun y => if y = Str.ofString "files" then some (.ref Ft) else m y) → News base L h' (whole L t4 t5' cD cC cL cW ((Ft, listOf fv.toArray kf) :: rest)) → LedOk L t4 t5' ((Ft, listOf fv.toArray kf) :: rest) →
      IntsAre fv ((List.range ms.length).map (fileOf ds)) →
      wpAny (model PR w) (lawA L fa cd) (execs ((dBody lawS).drop 12) (lawEnv L fa cd)) Q E { s with heap := h', toks := tk' }) :
    wpAny (model PR w) (lawA L fa cd) (execs ((dBody lawS).drop 11) (lawEnv L fa cd)) Q E s := by
  have := lawRef
  refine hide fun kH => ?_
  obtain ⟨B, X, T, C1, C2⟩ := St
  refine kH ?_
  clear kH
  revert this X
  k_fill
  intro _ X
  have hps : ∀ p ∈ [(Str.ofString "modes", Value.ref M)], m p.1 = some p.2 := List.forall_mem_cons.mpr ⟨hM, fun _ h => nomatch h⟩
  have F1 := fr_see _ F hps
  dsimp only [kstB] at F1
  clear F
  have m1 : (M, listOf mv.toArray kM) ∈ whole L t4 t5 cD cC cL cW rest := mem_whole hmm
  have hmvl := hmi.length
  have hdvl := hdi.length
  conv in (List.drop 11 (dBody lawS)) => whnf
  refine hide fun kH => ?_
  obtain ⟨sc, hsc⟩ : ∃ sc, dScope lawS = sc := ⟨_, rfl⟩
  refine kH ?_
  clear kH
  dsimp only [lawA, lawEnv] at cont ⊢
  rw [hsc] at cont ⊢
  conv at hsc => lhs; whnf
  subst hsc
  try k_fold
  k_with_none
  k_with "eval Name" => (k_here; k_dflt (refine' nameX_L2 ?F ?_ ?v ?a ?b; (case F => k_asm); (case a => exact rfl); (case b => exact rfl); (case v => exact rfl); k_whole))
  k_with "call ref" => (with_reducible refine stop_here ?_)
  k_with "CompSrcT" => (with_reducible refine stop_here ?_)
  k_with "CompSrc" => (with_reducible refine stop_here ?_)
  k_with "eval ListComp" => (with_reducible refine stop_here ?_)
  k_with "exec Assign cons ListComp" => (with_reducible refine stop_here ?_)
  k_with "compareOp NotEq ref ref" => (with_reducible refine stop_here ?_)
  k_with "compareOp Eq ref ref" => (with_reducible refine stop_here ?_)
  k_with "pyIter ref" => (with_reducible refine stop_here ?_)
  k_steps
  refine ⟨?_⟩
  k_dflt (refine assign_comp (by with_unfolding_all rfl) (by with_unfolding_all rfl) (by rfl) (by decide) ?_)
  k_steps
  refine len_led N m1 ms.length hmvl (by lia) ?_
  intro t8 tk8
  k_steps
  refine ⟨?_⟩
  rename_i h1 _ t1 u1 v1 hR1 F1 N1 _
  refine comp_cellA (L := L) (n := ms.length) (fun i ys nw' => ∃ t5', nw' = whole L t4 t5' cD cC cL cW rest ∧ LedOk L t4 t5' rest ∧ IntsAre ys ((List.range i).map (fileOf ds))) rfl (fun _ => rfl) (fun _ => rfl) (by rfl) (by rfl) (by rfl) (by rfl) (by rfl) hR1 (range_s (by decide) (by decide) (by lia) (by lia)) (range_n0 _) (by lia) F1 N1 ⟨t5, rfl, K, .nil⟩ ?turn1 ?done1
  case turn1 =>
    intro i ti I oI C oC c oc D h2 tk2 E' ys nw' hi z0H hoc F2 N2 off hyl
    refine hide fun kH => ?_
    obtain ⟨t5', rfl, K', hys⟩ := z0H
    refine kH ?_
    clear kH
    rw [Int.zero_add] at hoc
    have m2 : (L + 1 + 1 + 1 + 1, cD) ∈ whole L t4 t5' cD cC cL cW rest := mem_core (.head _)
    refine absW fun Q1 hQ1 => ?_
    k_steps
    refine ⟨?_⟩
    k_dflt (refine LCg.ListComp_U (F₀ := by k_asm) (by with_unfolding_all rfl) (by decide) (by rfl) (by decide) (by rfl) ?_)
    k_steps
    refine ⟨?_⟩
    refine src_ledC (vs := dv) (fun k zs => IntsAre zs ((ds.take k).map fun c => if (i : Int) < c then 1 else 0)) (.tail _ (.tail _ (.tail _ (.tail _ (mem_whole hdm))))) rfl F2 N2 (by lia) .nil ?turn2 ?done2
    case turn2 =>
      intro j v I2 oI2 C2' oC2 D2 m₂ h3 tk3 E'' zs Qturn2 hv hzs hC2 hmm F3 N3 off3 n1 n2 n3 hQturn2
      refine hide fun kH => ?_
      obtain ⟨z, t, rfl, hz⟩ := ints_at hdi hv
      refine kH ?_
      clear kH
      k_steps
      · rename_i hlt
        refine hQturn2 _ _ _ F3 N3 ?_
        try dsimp only
        rw [take_snoc hz, List.map_append, List.map_singleton, if_pos hlt]
        exact ints_snoc hzs _ _
      · rename_i hlt
        refine hQturn2 _ _ _ F3 N3 ?_
        try dsimp only
        rw [take_snoc hz, List.map_append, List.map_singleton, if_neg hlt]
        exact ints_snoc hzs _ _
    case done2 =>
      intro g zs hzs D2 h3 tk3 F3 N3 o3
      rw [hdvl, List.take_length] at hzs
      have hzl : (marks ds i).length = ds.length := by simp [marks]
      k_steps
      refine ⟨?_⟩
      have N4 := out5x N3
      refine hide fun kH => ?_
      obtain ⟨o5, h5m⟩ := K'.k5.has
      refine kH ?_
      clear kH
      have x5 := off _ (List.mem_append_right _ (List.mem_append_left _ h5m))
      have y5 := off1_mem o3 _ (.tail _ (.tail _ (.tail _ (.tail _ (List.mem_append_right _ (List.mem_append_left _ h5m))))))
      k_dflt (refine' Does.use (d2i_one w _ t5' ((D2, lst zs) :: (I, oI) :: (C, oC) :: (c, oc) :: (D, lst ys) :: (t4 ++ (core L cD cC cL cW ++ rest))) D2 zs (marks ds i) _ K'.k5 (.head _) hzs (by lia) (marks_b ds i) ?h51) ?_ ?_ ?_ ?_ ?_ ?_ ?_ ?_ ?_ ?_ ?_)
      case h51 => exact off_cons (Ne.symm y5) (off_cons (Ne.symm x5.1) (off_cons (Ne.symm x5.2.1) (off_cons (Ne.symm x5.2.2.1) (off_cons (Ne.symm x5.2.2.2) K'.not51))))
      all_goals try (first | ((with_reducible show Below _ _ _ _); k_asm) | ((with_reducible show Fr _ _ _ _); k_asm) | ((with_reducible show Frag.In _ _); k_asm) | ((with_reducible show News _ _ _ _); k_asm) | ((with_reducible show Top _ _ _ _ _ _); k_asm) | ((with_reducible show CodeHd _ _ _); first | assumption | exact CodeHd.keeps (by assumption) (Fr.keep (by assumption))) | ((with_reducible show Scope.kind _ = _); exact rfl) | ((with_reducible show _ < recursionLimit); first | exact droom (by with_reducible assumption) rfl | exact Nat.le_of_ble_eq_true rfl | ktr_room) | ((with_reducible show _ < cLine); first | exact uroom (by with_reducible assumption) rfl | exact Nat.le_of_ble_eq_true rfl | ktr_units))
      refine hide2 ?_
      rintro PH kH r news' ⟨⟨t, rfl⟩, t5'', k5'', rfl, ht5⟩
      refine kH _ _ ?_
      clear kH PH
      intro h5 tk5 F5 N7
      rw [hzl]
      k_steps
      refine hQ1 _ _ ?_
      refine ce_end4 F5 (back5x N7) (off5x K'.k5 rfl off ht5) ⟨t5'', rfl, K'.turn5 (cD := cD) (cC := cC) (cL := cL) (cW := cW) k5'' ht5 (fun p hp => .tail _ (.tail _ (.tail _ (.tail _ (.tail _ hp))))), ?_⟩
      rw [List.range_succ, List.map_append]
      exact ints_snoc hys _ _
  case done1 =>
    intro ys nw' Ft h3 tk3 z0H F3 N3 o3
    refine hide fun kH => ?_
    obtain ⟨t5', rfl, K', hys⟩ := z0H
    refine kH ?_
    clear kH
    exact cont _ _ t5' Ft ys _ (fr_back1 _ hps F3) (ins0 N3) (K'.add (cD := cD) (cC := cC) (cL := cL) (cW := cW) o3) hys
end Mine

end
section
open PySem PySem.W PyProof.Rows PySem.Spec
set_option Elab.async false
set_option maxRecDepth 100000
namespace Mine
theorem args_sum2 (a b : Value) : argsOk "sum" ⟨[a, b], []⟩ := by unfold argsOk; kernel_rfl
theorem sub_list_strS : isSubtype (.type "list") (.type "str") = pure false := by rw [isSubtype_type]; kernel_rfl
theorem sub_list_bytesS : isSubtype (.type "list") (.type "bytes") = pure false := by rw [isSubtype_type]; kernel_rfl
theorem sub_list_bytearrayS : isSubtype (.type "list") (.type "bytearray") = pure false := by rw [isSubtype_type]; kernel_rfl
theorem takeS {α : Type} {l : List α} {i : Nat} {x : α} (h : l[i]? = some x) : l.take (i + 1) = l.take i ++ [x] := by
  rw [List.take_add_one, h]; rfl
theorem led_change {h₀ h h' : Heap} {L a : Addr} {o : Obj} {nw : Led} (N : News h₀ L h ((a, o) :: nw)) (off : ∀ p ∈ nw, p.1 ≠ a) (hs : Heap.SameBut a h h') {o' : Obj} (ho : h'.get? a = some o') : News h₀ L h' ((a, o') :: nw) := by
  intro p hp
  rcases List.mem_cons.mp hp with rfl | hp
  · exact ⟨ho, (N (a, o) (.head _)).2⟩
  · have z := N p (.tail _ hp)
    exact ⟨(hs.2 _ (off p hp)).trans z.1, z.2⟩
theorem fr_ext {h₀ h h' : Heap} {L b : Addr} {m : Str → Option Value} (F : Fr h₀ L h m) (hs : Heap.ExtBut b h h') (hL : b ≠ L) (hn : h₀.get? b = none) : Fr h₀ L h' m := by
  refine ⟨F.ns.extBut hs (Ne.symm hL), fun c x e => hs c x ?_ (F.keep c x e), F.above⟩
  rintro rfl
  rw [hn] at e
  cases e
theorem news_ext {h₀ h h' : Heap} {L b : Addr} {nw : Led} (N : News h₀ L h nw) (hs : Heap.ExtBut b h h') (off : ∀ p ∈ nw, p.1 ≠ b) : News h₀ L h' nw :=
  fun p hp => ⟨hs _ _ (off p hp) (N p hp).1, (N p hp).2⟩
section
variable {prog : Program} {w : World} {A : Around} {R : Result → Shared → Prop} {h₀ : Heap} {L : Addr} {m : Str → Option Value}
theorem sum_rows_loop (hh : A.in1.handled = none) (I B S : Addr) (bv : List Value) (kb : Nat) (nss : List (List Int)) (nw : Led) (hB : (B, listOf bv.toArray kb) ∈ nw) (hr : RowsAre nw bv nss) (hIS : I ≠ S) (offI : ∀ p ∈ nw, p.1 ≠ I) (offS : ∀ p ∈ nw, p.1 ≠ S)
    (hb : ∀ i, (nss.take i).flatten.length ≤ 2000) (hb1 : ∀ ns ∈ nss, ns.length ≤ 2000) :
    ∀ (k i : Nat) (s : Shared) (T : Addr) (oI : Obj) (tv : List Value) (kt c : Nat), bv.length - i = k → i ≤ bv.length → Fr h₀ L s.heap m → News h₀ L s.heap ((S, listOf #[.ref T] c) :: (I, oI) :: (T, listOf tv.toArray kt) :: nw) →
    oI.cls = .type "list_iterator" → oI.data = .fields #[.ref B, .int (i : Int) 0] → T ≠ I → T ≠ S → IntsAre tv (nss.take i).flatten →
    (∀ h' D vs kd, Fr h₀ L h' m → News h₀ L h' ((D, listOf vs.toArray kd) :: nw) → IntsAre vs nss.flatten → R (.ok (.ret (.ref D))) { s with heap := h' }) →
    codeAny (model prog w) A (.builtin "sum.loop" ⟨[.ref I, .ref S, rawInt 2, rawInt 0], []⟩) R s := by
  intro k
  induction k with
  | zero =>
    intro i s T oI tv kt c hk hi F N hcI hdI hTI hTS hiv hR
    have hie : i = bv.length := by lia
    subst hie
    refine codeAny_builtin PySem.F.entry_sum_loop ?_
    rw [Around.under_plainId PySem.F.plain_sum_loop _]
    show wpAny _ A.in1 (seqItems? (.ref S) >>= _) _ _ s
    refine wpAny_bind (wpAny_seqItems (N.get (.head _)) rfl ?_)
    show wpAny _ A.in1 (tryCatch (pyNext (.ref I)) _ >>= _) _ _ s
    have hit : s.heap.IsListIter I B bv.length := ⟨oI, N.get (.tail _ (.head _)), hcI, hdI⟩
    have hls : s.heap.IsList B bv.toArray := ⟨_, N.get (.tail _ (.tail _ (.tail _ hB))), rfl, _, rfl⟩
    refine wpAny_bind (wpAny_tryCatch (wpAny_pyNext_list_end hh hit hls (by simp) fun h' hx => ?_))
    have x2 := N (I, oI) (.tail _ (.head _))
    have hfl : nss.take bv.length = nss := by rw [hr.length, List.take_length]
    rw [hfl] at hiv
    refine wpAny_pure (hR h' T tv kt (fr_ext F hx x2.2.1 x2.2.2) (news_ext (news_sub N fun p hp => .tail _ (.tail _ hp)) hx fun p hp => ?_) hiv)
    rcases List.mem_cons.mp hp with rfl | hp
    · exact hTI
    · exact offI p hp
  | succ k ih =>
    intro i s T oI tv kt c hk hi F N hcI hdI hTI hTS hiv hR
    have hlt : i < bv.length := by lia
    refine hide fun kH => ?_
    obtain ⟨v, hv⟩ : ∃ v, bv[i]? = some v := ⟨bv[i], List.getElem?_eq_getElem hlt⟩
    obtain ⟨a, us, ka, ns, rfl, hma, hus, hns⟩ := hr.at hv
    refine kH ?_
    clear kH
    refine codeAny_builtin PySem.F.entry_sum_loop ?_
    rw [Around.under_plainId PySem.F.plain_sum_loop _]
    show wpAny _ A.in1 (seqItems? (.ref S) >>= _) _ _ s
    refine wpAny_bind (wpAny_seqItems (N.get (.head _)) rfl ?_)
    show wpAny _ A.in1 (tryCatch (pyNext (.ref I)) _ >>= _) _ _ s
    have hit : s.heap.IsListIter I B i := ⟨oI, N.get (.tail _ (.head _)), hcI, hdI⟩
    have hls : s.heap.IsList B bv.toArray := ⟨_, N.get (.tail _ (.tail _ (.tail _ hB))), rfl, _, rfl⟩
    refine wpAny_bind (wpAny_tryCatch (wpAny_pyNext_list_item hit hls (by simpa using hv) fun h' hit' hsb => ?_))
    have x2 := N (I, oI) (.tail _ (.head _))
    refine hide fun kH => ?_
    obtain ⟨oI', hoI', hcI', hdI'⟩ := hit'
    refine kH ?_
    clear kH
    have F1 := F.change hsb x2.2.1 x2.2.2
    have N1 : News h₀ L h' ((I, oI') :: (S, listOf #[.ref T] c) :: (T, listOf tv.toArray kt) :: nw) :=
      led_change (o := oI) (news_sub N (by intro p hp; simp only [List.mem_cons] at hp ⊢; rcases hp with h | h | h | h <;> simp [h]))
        (by intro p hp; rcases List.mem_cons.mp hp with rfl | hp
            · exact Ne.symm hIS
            · rcases List.mem_cons.mp hp with rfl | hp
              · exact hTI
              · exact offI p hp) hsb hoI'
    clear N F
    have hnl : (nss.take (i + 1)).flatten = (nss.take i).flatten ++ ns := by
      rw [takeS hns, List.flatten_append, List.flatten_cons, List.flatten_nil, List.append_nil]
    show wpAny _ A.in1 ((holding [Value.ref a] (binaryOp .Add (.ref T) (.ref a))).attempt >>= _) _ _ _
    have hadd : ∀ {Q : Value → Shared → Prop} {E : Value → Shared → Prop}, (∀ h2, Fr h₀ L h2 m → News h₀ L h2 ((h'.objs.size, { cls := .type "list", data := .seq (tv ++ us).toArray }) :: (I, oI') :: (S, listOf #[.ref T] c) :: (T, listOf tv.toArray kt) :: nw) → IntsAre (tv ++ us) ((nss.take (i + 1)).flatten) → Q (.ref h'.objs.size) { s with heap := h2 }) →
        wpAny (model prog w) A.in1 (binaryOp .Add (.ref T) (.ref a)) Q E { s with heap := h' } := by
      intro Q E hq
      refine add_arrays_ints (s := { s with heap := h' }) (its := tv.toArray) (its2 := us.toArray) F1 N1 ⟨_, N1.get (.tail _ (.tail _ (.head _))), rfl, _, rfl⟩ ⟨_, N1.get (.tail _ (.tail _ (.tail _ hma))), rfl, _, rfl⟩ hiv hus (fun h2 F2 N2 hi2 => hq h2 F2 N2 (by rw [hnl]; exact hi2)) ?_
      have := hb i
      have := hb1 ns (List.mem_of_getElem? hns)
      rw [sizeLine_eq]
      lia
    refine wpAny_bind (wpAny_attempt (wpAny_holding (hadd fun h2 F2 N2 hi2 => ?_)))
    have hsz : ∀ p ∈ (I, oI') :: (S, listOf #[.ref T] c) :: (T, listOf tv.toArray kt) :: nw, p.1 ≠ h'.objs.size := fun p hp => Nat.ne_of_lt (Heap.lt_size (N1 p hp).1)
    have hS2 : h2.get? S = some (listOf #[.ref T] c) := N2.get (.tail _ (.tail _ (.head _)))
    have xS := N2 (S, listOf #[.ref T] c) (.tail _ (.tail _ (.head _)))
    show wpAny _ A.in1 (updateSeq S (fun _ => #[.ref h'.objs.size]) >>= _) _ _ _
    refine wpAny_bind (wpAny_updateSeq hS2 rfl ?_)
    have hS3 := Heap.get?_update_self (Obj.mapSeq fun _ => #[Value.ref h'.objs.size]) hS2 rfl
    refine wpAny_bind (wpAny_letGo ?_)
    refine wpAny_bind (wpAny_updateSeq hS3 rfl (wpAny_pure ⟨plainId_quiet PySem.F.plain_sum_loop _, ?_⟩))
    have hS4 := Heap.get?_update_self (Obj.mapSeq fun _ => #[Value.ref h'.objs.size]) hS3 rfl
    have hsb4 : Heap.SameBut S h2 ((h2.update S (Obj.mapSeq fun _ => #[Value.ref h'.objs.size])).update S (Obj.mapSeq fun _ => #[Value.ref h'.objs.size])) := by
      have z1 := Heap.SameBut.update h2 S (Obj.mapSeq fun _ => #[Value.ref h'.objs.size])
      have z2 := Heap.SameBut.update (h2.update S (Obj.mapSeq fun _ => #[Value.ref h'.objs.size])) S (Obj.mapSeq fun _ => #[Value.ref h'.objs.size])
      exact ⟨z2.1.trans z1.1, fun b hb => (z2.2 b hb).trans (z1.2 b hb)⟩
    have N4 := led_change (o := listOf #[.ref T] c) (nw := (I, oI') :: (h'.objs.size, { cls := .type "list", data := .seq (tv ++ us).toArray }) :: nw) (news_sub N2 (by intro p hp; simp only [List.mem_cons] at hp ⊢; rcases hp with h | h | h | h <;> simp [h]))
        (by intro p hp; rcases List.mem_cons.mp hp with rfl | hp
            · exact hIS
            · rcases List.mem_cons.mp hp with rfl | hp
              · exact Ne.symm (hsz _ (.tail _ (.head _)))
              · exact offS p hp) hsb4 hS4
    refine ih (i + 1) _ h'.objs.size oI' (tv ++ us) 0 _ (by lia) hlt (F2.change hsb4 xS.2.1 xS.2.2) N4 hcI' hdI' (Ne.symm (hsz _ (.head _))) (Ne.symm (hsz _ (.tail _ (.head _)))) hi2 ?_
    intro h5 D vs kd F5 N5 h6
    exact hR h5 D vs kd F5 N5 h6
end
section
variable {prog : Program} {w : World} {A : Around} {E : Value → Shared → Prop} {s : Shared} {h₀ : Heap} {L : Addr} {m : Str → Option Value}
/-- sum(a list of lists of ints, []) -/
theorem sum_rows (hh : A.in1.handled = none) {B S0 : Addr} {bv : List Value} {kb k0 : Nat} {nss : List (List Int)} {nw : Led} {Q : Value → Shared → Prop} (F : Fr h₀ L s.heap m) (N : News h₀ L s.heap nw) (hB : (B, listOf bv.toArray kb) ∈ nw) (h0 : (S0, listOf #[] k0) ∈ nw) (hr : RowsAre nw bv nss)
    (hb : ∀ i, (nss.take i).flatten.length ≤ 2000) (hb1 : ∀ ns ∈ nss, ns.length ≤ 2000)
    (h : ∀ h' D vs kd, Fr h₀ L h' m → News h₀ L h' ((D, listOf vs.toArray kd) :: nw) → IntsAre vs nss.flatten → Q (.ref D) { s with heap := h' }) :
    wpAny (model prog w) A (call (.builtin "sum") [.ref B, .ref S0]) Q E s := by
  refine call_function_tree PySem.F.kind_sum PySem.F.plain_sum PySem.F.entry_sum (args_sum2 _ _) ?_
  unfold Builtin.«sum»
  simp only [List.length_cons, List.length_nil]
  rw [if_neg (by decide)]
  refine wpAny_bind (wpAny_of_eq (show Builtin.Builtins.bindParams "sum" ["start"] 0 ⟨[.ref S0], []⟩ = pure [some (.ref S0)] from rfl) ?_)
  refine wpAny_bind (wpAny_pyIter_list ⟨_, N.get hB, rfl, _, rfl⟩ ?_)
  have F1 := F.push { cls := .type "list_iterator", data := .fields #[.ref B, .int 0 0] }
  have N1 := N.push F { cls := .type "list_iterator", data := .fields #[.ref B, .int 0 0] }
  have hTy : ∀ (h' : Heap) (tk : Nat), h'.get? S0 = some (listOf #[] k0) → ({ s with heap := h', toks := tk } : Shared).TypeIs (.ref S0) "list" := fun h' tk e => ⟨_, e, rfl⟩
  refine wpAny_bind (wpAny_pure ?_)
  simp only [List.forIn_cons, List.forIn_nil]
  have m0 := N1.get (.tail _ h0)
  refine wpAny_bind (wpAny_bind (wpAny_bind (wpAny_isInstance (T := "list") (b := false) ⟨_, m0, rfl⟩ sub_list_strS ?_)))
  simp only [Bool.false_eq_true, if_false]
  refine wpAny_pure (wpAny_bind (wpAny_bind (wpAny_isInstance (T := "list") (b := false) ⟨_, m0, rfl⟩ sub_list_bytesS ?_)))
  simp only [Bool.false_eq_true, if_false]
  refine wpAny_pure (wpAny_bind (wpAny_bind (wpAny_isInstance (T := "list") (b := false) ⟨_, m0, rfl⟩ sub_list_bytearrayS ?_)))
  simp only [Bool.false_eq_true, if_false]
  refine wpAny_pure (wpAny_pure ?_)
  refine wpAny_bind (newList_K F1 N1 ?_)
  intro S h2 F2 N2 hlt
  have hIlt : ∀ p ∈ nw, p.1 ≠ s.heap.objs.size := fun p hp => Nat.ne_of_lt (Heap.lt_size (N p hp).1)
  refine wpAny_pure ⟨plainId_quiet PySem.F.plain_sum_loop _, sum_rows_loop hh s.heap.objs.size B S bv kb nss nw hB hr (Nat.ne_of_lt (hlt _ (.head _))) hIlt (fun p hp => Nat.ne_of_lt (hlt p (.tail _ hp))) hb hb1 bv.length 0 { s with heap := h2 } S0 { cls := .type "list_iterator", data := .fields #[.ref B, .int 0 0] } [] k0 0 rfl (Nat.zero_le _) F2 (news_sub N2 ?_) rfl rfl (hIlt _ h0) (Nat.ne_of_lt (hlt _ (.tail _ h0))) .nil ?_⟩
  · intro p hp
    rcases List.mem_cons.mp hp with rfl | hp
    · exact .head _
    · rcases List.mem_cons.mp hp with rfl | hp
      · exact .tail _ (.head _)
      · rcases List.mem_cons.mp hp with rfl | hp
        · exact .tail _ (.tail _ h0)
        · exact .tail _ (.tail _ hp)
  · intro h' D vs kd F5 N5 h6
    exact h h' D vs kd F5 N5 h6
end
end Mine

end
section
open PySem PySem.W PyProof.Rows in
theorem Mine.freshS10 {prog : Program} {w : World} {A : Around} {env : Env} {E : Value → Shared → Prop} {Q : Flow → Shared → Prop} {s : Shared} (h : Q .next s) : wpAny (model prog w) A (execs [] env) Q E s := by w_top off; k_with_none; walk1; exact h
open PySem PySem.W PyProof.Rows PyProof.Rows.LCg PyProof.Rows.LCt
set_option Elab.async false
set_option maxRecDepth 100000
set_option maxHeartbeats 4000000
set_option pp.deepTerms false
set_option pp.deepTerms.threshold 6
namespace Mine
local macro_rules | `(tactic| walk_at "call builtin:sum") => `(tactic| k_extra "call builtin:sum")
theorem Does1.use {w : World} {f : Addr} {args : List Value} {sz : Nat} {news : Led} {Out : Value → Led → Prop} (H : Does1 w f args sz news Out)
    {p : Program} {loose : List Str} {mean : ExcName → Option Value} {mg mb : Str → Option Value} {dp un : Nat} {gd : Option (List Code)} {cn : Str} {cs : Scope} {a : Addr} {ccd : Value} {cl : List (Str × Addr)} {A₀ : Around} {base h₀ : Heap} {L : Addr} {m : Str → Option Value} {s : Shared} {Q E : Value → Shared → Prop}
    (B : Below A₀ base [] h₀) (F : Fr h₀ L s.heap m) (X : (Mine.hd.heap_39 w.params).In h₀) (N : News h₀ L s.heap news) (T : Top p loose mean mg mb h₀) (C1 : CodeHd h₀ 55 51) (C2 : CodeHd h₀ 48 44) (hk : cs.kind = .function)
    (hd : dp + sz < recursionLimit) (hu : un + 8 * sz < cLine)
    (ret : ∀ r news', Out r news' → ∀ h' tk', Fr h₀ L h' m → News h₀ L h' news' → Q r { s with heap := h', toks := tk' }) :
    wpAny (model PR w) (ktrTop dp un gd cn cs L a ccd cl []) (call (.ref f) args) Q E s := H _ _ _ _ _ _ _ _ _ _ _ _ _ _ _ _ _ _ _ _ _ B F X N T C1 C2 hk hd hu fun r n h' tk' o => ret r n o h' tk'
theorem st10 (w : World) {p : Program} {loose : List Str} {mean : ExcName → Option Value} {mg mb : Str → Option Value} {base : Heap} (St : Stands w base p loose mean mg mb) (L fa : Addr) (cd : Value) (m : Str → Option Value) (s : Shared) (Q : Flow → Shared → Prop) (E : Value → Shared → Prop) (t4 t5 rest : Led) (cD cC cL cW : Obj) (F : Fr base L s.heap m) (N : News base L s.heap (whole L t4 t5 cD cC cL cW rest))
    (Rg Dt Bt Ft : Addr) (gv dv bv fv : List Value) (gs ds fs : List Int) (bss : List (List Int)) (kG kd kb kf : Nat) (hRg : m (Str.ofString "rights") = some (.ref Rg)) (hBt : m (Str.ofString "bits") = some (.ref Bt)) (hFt : m (Str.ofString "files") = some (.ref Ft)) (hcD : cD.data = .cell (some (.ref Dt)))
    (hgm : (Rg, listOf gv.toArray kG) ∈ rest) (hg : IntsAre gv gs) (hgl : gs.length ≤ 7) (hdm : (Dt, listOf dv.toArray kd) ∈ rest) (hdi : IntsAre dv ds) (hdl : ds.length ≤ 12)
    (hbm : (Bt, listOf bv.toArray kb) ∈ rest) (hbr : RowsAre rest bv bss) (hbl : ∀ i, (bss.take i).flatten.length ≤ 200) (hb1 : ∀ ns ∈ bss, ns.length ≤ 200)
    (hfm : (Ft, listOf fv.toArray kf) ∈ rest) (hfi : IntsAre fv fs) (hfl : fs.length ≤ 7) (hround : ∀ xs, Rounds gs xs → xs = fs)
    (cont : ∀ (h' : Heap) (tk' : Nat), Fr base L h' m → News base L h' (whole L t4 t5 cD cC cL cW rest) →
      wpAny (model PR w) (lawA L fa cd) (execs ((dBody lawS).drop 13) (lawEnv L fa cd)) Q E { s with heap := h', toks := tk' }) :
    wpAny (model PR w) (lawA L fa cd) (execs ((dBody lawS).drop 12) (lawEnv L fa cd)) Q E s := by
  have := lawRef
  refine hide fun kH => ?_
  obtain ⟨B, X, T, C1, C2⟩ := St
  refine kH ?_
  clear kH
  revert this X
  k_fill
  intro _ X
  have hps : ∀ p ∈ [(Str.ofString "rights", Value.ref Rg), (Str.ofString "bits", Value.ref Bt), (Str.ofString "files", Value.ref Ft)], m p.1 = some p.2 := List.forall_mem_cons.mpr ⟨hRg, List.forall_mem_cons.mpr ⟨hBt, List.forall_mem_cons.mpr ⟨hFt, fun _ h => nomatch h⟩⟩⟩
  have F1 := fr_see _ F hps
  dsimp only [kstB] at F1
  clear F
  have m1 : (Rg, listOf gv.toArray kG) ∈ whole L t4 t5 cD cC cL cW rest := mem_whole hgm
  have m2 : (L + 1 + 1 + 1 + 1, cD) ∈ whole L t4 t5 cD cC cL cW rest := mem_core (.head _)
  have m3 : (Dt, listOf dv.toArray kd) ∈ whole L t4 t5 cD cC cL cW rest := mem_whole hdm
  have m4 : (Ft, listOf fv.toArray kf) ∈ whole L t4 t5 cD cC cL cW rest := mem_whole hfm
  have m5 : (Bt, listOf bv.toArray kb) ∈ whole L t4 t5 cD cC cL cW rest := mem_whole hbm
  have hgvl := hg.length
  have hdvl := hdi.length
  have hfvl := hfi.length
  conv in (List.drop 12 (dBody lawS)) => whnf
  refine hide fun kH => ?_
  obtain ⟨sc, hsc⟩ : ∃ sc, dScope lawS = sc := ⟨_, rfl⟩
  refine kH ?_
  clear kH
  dsimp only [lawA, lawEnv] at cont ⊢
  rw [hsc] at cont ⊢
  conv at hsc => lhs; whnf
  subst hsc
  try k_fold
  k_with_none
  k_with "eval Name" => (k_here; k_dflt (refine' nameX_L2 ?F ?_ ?v ?a ?b; (case F => k_asm); (case a => exact rfl); (case b => exact rfl); (case v => exact rfl); k_whole))
  k_with "call ref" => (with_reducible refine stop_here ?_)
  k_with "call builtin:sum" => (with_reducible refine stop_here ?_)
  k_with "compareOp NotEq ref ref" => (with_reducible refine stop_here ?_)
  k_with "compareOp Eq ref ref" => (with_reducible refine stop_here ?_)
  k_with "pyIter ref" => (with_reducible refine stop_here ?_)
  k_steps
  refine ⟨?_⟩
  rename_i hI1 _ _ _ hI2 l2 l0 h2 F2 N2 l3
  refine sum_rows rfl F2 N2 (.tail _ (.tail _ (.tail _ m5))) (.head _) (hbr.mono fun p hp => .tail _ (.tail _ (.tail _ (mem_whole hp)))) (fun i => Nat.le_trans (hbl i) (by decide)) (fun ns hn => Nat.le_trans (hb1 ns hn) (by decide)) ?_
  intro h3 Sm sv ks F3 N3 hSi
  have hsl := hSi.length
  have hfll : bss.flatten.length ≤ 200 := by have := hbl bss.length; rwa [List.take_length] at this
  have hw2 := hI2.length
  simp only [List.length_append] at hw2
  k_steps
  refine ⟨?_⟩
  rename_i D4 ws4 h4 F4 N4 hI4 l4
  k_dflt (refine' Does.use (whole_does w D4 ws4 _ 0 ((D4, listOf ws4.toArray 0) :: (Sm, listOf sv.toArray ks) :: (l0, listOf #[] 0) :: (_, listOf _ 0) :: (_, listOf _ 0) :: whole L t4 t5 cD cC cL cW rest) (.head _) hI4 ?hl4) ?_ ?_ ?_ N4 ?_ ?_ ?_ ?_ ?_ ?_ ?_)
  case hl4 => simp only [List.length_append]; lia
  all_goals try (first | ((with_reducible show Below _ _ _ _); k_asm) | ((with_reducible show Fr _ _ _ _); k_asm) | ((with_reducible show Frag.In _ _); k_asm) | ((with_reducible show News _ _ _ _); k_asm) | ((with_reducible show Top _ _ _ _ _ _); k_asm) | ((with_reducible show CodeHd _ _ _); first | assumption | exact CodeHd.keeps (by assumption) (Fr.keep (by assumption))) | ((with_reducible show Scope.kind _ = _); exact rfl) | ((with_reducible show _ < recursionLimit); first | exact droom (by with_reducible assumption) rfl | exact Nat.le_of_ble_eq_true rfl | ktr_room) | ((with_reducible show _ < cLine); first | exact uroom (by with_reducible assumption) rfl | exact Nat.le_of_ble_eq_true rfl | ktr_units))
  refine hide2 ?_
  rintro PH kH r news' ⟨rfl, rfl⟩
  refine kH _ _ ?_
  clear kH PH
  intro h5 tk5 F5 N5
  k_steps
  refine list_copyK F5 N5 ⟨_, N5.get (.tail _ (.tail _ (.tail _ (.tail _ (.tail _ m1))))), rfl, _, rfl⟩ ?_ (by rw [sizeLine_eq, List.size_toArray]; lia)
  intro D6 c6 h6 F6 N6 l6
  k_steps
  refine ⟨?_⟩
  k_dflt (refine' Does1.use (rounds_does w D6 c6 gv gs ((D4, listOf ws4.toArray 0) :: (Sm, listOf sv.toArray ks) :: (l0, listOf #[] 0) :: (_, listOf _ 0) :: (_, listOf _ 0) :: whole L t4 t5 cD cC cL cW rest) hg (fun p hp => Nat.ne_of_lt (l6 p hp)) ?hl6) ?_ F6 ?_ N6 ?_ ?_ ?_ ?_ ?_ ?_ ?_)
  case hl6 => lia
  all_goals try (first | ((with_reducible show Below _ _ _ _); k_asm) | ((with_reducible show Fr _ _ _ _); k_asm) | ((with_reducible show Frag.In _ _); k_asm) | ((with_reducible show News _ _ _ _); k_asm) | ((with_reducible show Top _ _ _ _ _ _); k_asm) | ((with_reducible show CodeHd _ _ _); first | assumption | exact CodeHd.keeps (by assumption) (Fr.keep (by assumption))) | ((with_reducible show Scope.kind _ = _); exact rfl) | ((with_reducible show _ < recursionLimit); first | exact droom (by with_reducible assumption) rfl | exact Nat.le_of_ble_eq_true rfl | ktr_room) | ((with_reducible show _ < cLine); first | exact uroom (by with_reducible assumption) rfl | exact Nat.le_of_ble_eq_true rfl | ktr_units))
  refine hide2 ?_
  rintro PH kH r news' ⟨D7, us7, k7, xs7, rfl, hi7, hrd, rfl, l7⟩
  refine kH _ _ ?_
  clear kH PH
  intro h7 tk7 F7 N7
  have hxs := hround _ hrd
  subst hxs
  k_steps
  refine ⟨?_⟩
  refine neI_led N7 (.head _) hi7 (.tail _ (.tail _ (.tail _ (.tail _ (.tail _ (.tail _ m4)))))) hfi (by first | exact Nat.le_of_ble_eq_true rfl | ktr_units) ?_
  simp only [decide_true, Bool.not_true]
  k_with "execs cons" => (with_reducible refine stop_here ?_)
  k_steps
  refine ⟨?_⟩
  exact cont _ _ (fr_back _ hps F7) (news_sub N7 fun p hp => .tail _ (.tail _ (.tail _ (.tail _ (.tail _ (.tail _ hp))))))
end Mine

end
section
open PySem PySem.W PyProof.Rows in
theorem Mine.freshS11 {prog : Program} {w : World} {A : Around} {env : Env} {E : Value → Shared → Prop} {Q : Flow → Shared → Prop} {s : Shared} (h : Q .next s) : wpAny (model prog w) A (execs [] env) Q E s := by w_top off; k_with_none; walk1; exact h
open PySem PySem.W PyProof.Rows PyProof.Rows.LCg PyProof.Rows.LCt
set_option Elab.async false
set_option maxRecDepth 100000
set_option maxHeartbeats 4000000
set_option pp.deepTerms false
set_option pp.deepTerms.threshold 6
namespace Mine
local macro_rules | `(tactic| walk_at "binaryOp Pow int int") => `(tactic| k_extra "binaryOp Pow int int")
noncomputable def dueOf (cs : List Int) (k : Nat) : Int := (((List.range 12).filter fun p => decide ((k : Int) < cs.getD p 0)).map fun p => (2 : Int) ^ p).sum
theorem filt_snoc_t (f : Nat → Bool) (i : Nat) (h : f i = true) : (List.range (i + 1)).filter f = (List.range i).filter f ++ [i] := by
  rw [List.range_succ, List.filter_append, List.filter_cons, if_pos h, List.filter_nil]
theorem filt_snoc_f (f : Nat → Bool) (i : Nat) (h : f i = false) : (List.range (i + 1)).filter f = (List.range i).filter f := by
  rw [List.range_succ, List.filter_append, List.filter_cons, if_neg (by simp [h]), List.filter_nil, List.append_nil]
theorem st11 (w : World) {p : Program} {loose : List Str} {mean : ExcName → Option Value} {mg mb : Str → Option Value} {base : Heap} (St : Stands w base p loose mean mg mb) (L fa : Addr) (cd : Value) (m : Str → Option Value) (s : Shared) (Q : Flow → Shared → Prop) (E : Value → Shared → Prop) (t4 t5 rest : Led) (cD cC cL cW : Obj) (F : Fr base L s.heap m) (N : News base L s.heap (whole L t4 t5 cD cC cL cW rest))
    (M Ct Ft : Addr) (mv cv fv : List Value) (ms cs fs : List Int) (kM kc kf : Nat) (hM : m (Str.ofString "modes") = some (.ref M)) (hFt : m (Str.ofString "files") = some (.ref Ft)) (hcC : cC.data = .cell (some (.ref Ct)))
    (hmm : (M, listOf mv.toArray kM) ∈ rest) (hmi : IntsAre mv ms) (hml : ms.length ≤ 7) (hcm : (Ct, listOf cv.toArray kc) ∈ rest) (hci : IntsAre cv cs) (hcl : cs.length = 12)
    (hfm : (Ft, listOf fv.toArray kf) ∈ rest) (hfi : IntsAre fv fs) (hdue : (List.range ms.length).map (dueOf cs) = fs)
    (fin : ∀ (h' : Heap) (tk' : Nat) (m' : Str → Option Value), Fr base L h' m' → News base L h' (whole L t4 t5 cD cC cL cW rest) → Q (.ret (.bool true)) { s with heap := h', toks := tk' }) :
    wpAny (model PR w) (lawA L fa cd) (execs ((dBody lawS).drop 13) (lawEnv L fa cd)) Q E s := by
  have := lawRef
  refine hide fun kH => ?_
  obtain ⟨B, X, T, C1, C2⟩ := St
  refine kH ?_
  clear kH
  revert this X
  k_fill
  intro _ X
  have hps : ∀ p ∈ [(Str.ofString "modes", Value.ref M), (Str.ofString "files", Value.ref Ft)], m p.1 = some p.2 := List.forall_mem_cons.mpr ⟨hM, List.forall_mem_cons.mpr ⟨hFt, fun _ h => nomatch h⟩⟩
  have F1 := fr_see _ F hps
  dsimp only [kstB] at F1
  clear F
  have m1 : (M, listOf mv.toArray kM) ∈ whole L t4 t5 cD cC cL cW rest := mem_whole hmm
  have hmvl := hmi.length
  have hcvl := hci.length
  have hfvl := hfi.length
  have hfsl : fs.length = ms.length := by rw [← hdue, List.length_map, List.length_range]
  conv in (List.drop 13 (dBody lawS)) => whnf
  refine hide fun kH => ?_
  obtain ⟨sc, hsc⟩ : ∃ sc, dScope lawS = sc := ⟨_, rfl⟩
  refine kH ?_
  clear kH
  dsimp only [lawA, lawEnv]
  rw [hsc]
  conv at hsc => lhs; whnf
  subst hsc
  try k_fold
  k_with_none
  k_with "eval Name" => (k_here; k_dflt (refine' nameX_L2 ?F ?_ ?v ?a ?b; (case F => k_asm); (case a => exact rfl); (case b => exact rfl); (case v => exact rfl); k_whole))
  k_with "call ref" => (with_reducible refine stop_here ?_)
  k_with "CompSrcT" => (with_reducible refine stop_here ?_)
  k_with "CompSrc" => (with_reducible refine stop_here ?_)
  k_with "eval ListComp" => (with_reducible refine stop_here ?_)
  k_with "exec Assign cons ListComp" => (with_reducible refine stop_here ?_)
  k_with "compareOp NotEq ref ref" => (with_reducible refine stop_here ?_)
  k_with "compareOp Eq ref ref" => (with_reducible refine stop_here ?_)
  k_with "binaryOp Pow int int" => (with_reducible refine stop_here ?_)
  k_with "pyIter ref" => (with_reducible refine stop_here ?_)
  k_steps
  refine ⟨?_⟩
  k_dflt (refine assign_comp (by with_unfolding_all rfl) (by with_unfolding_all rfl) (by rfl) (by decide) ?_)
  k_steps
  refine len_led N m1 ms.length hmvl (by lia) ?_
  intro t8 tk8
  k_steps
  refine ⟨?_⟩
  rename_i h1 _ t1 u1 v1 hR1 F1 N1 _
  refine comp_cellA (L := L) (n := ms.length) (fun i ys nw' => nw' = whole L t4 t5 cD cC cL cW rest ∧ IntsAre ys ((List.range i).map (dueOf cs))) rfl (fun _ => rfl) (fun _ => rfl) (by rfl) (by rfl) (by rfl) (by rfl) (by rfl) hR1 (range_s (by decide) (by decide) (Int.le_trans (by decide : (-1000000 : Int) ≤ 0) (Int.natCast_nonneg _)) (Int.ofNat_lt.mpr (Nat.lt_of_le_of_lt hml (by decide)))) (range_n0 _) (by lia) F1 N1 ⟨rfl, .nil⟩ ?turn1 ?done1
  case turn1 =>
    intro i ti I oI C oC c oc D h2 tk2 E' ys nw' hi z0H hoc F2 N2 off hyl
    refine hide fun kH => ?_
    obtain ⟨rfl, hys⟩ := z0H
    refine kH ?_
    clear kH
    rw [Int.zero_add] at hoc
    have m2 : (L + 1 + 1 + 1, cC) ∈ whole L t4 t5 cD cC cL cW rest := mem_core (.tail _ (.head _))
    have m3 : (Ct, listOf cv.toArray kc) ∈ whole L t4 t5 cD cC cL cW rest := mem_whole hcm
    refine absW fun Q0 hQ0 => ?_
    k_steps
    refine ⟨?_⟩
    k_dflt (refine LCt.ListComp_T (F₀ := by k_asm) (by rfl) (by decide) (by rfl) (by decide) (by rfl) ?_)
    k_steps
    refine ⟨?_⟩
    rename_i hR2 F3 N3 _
    refine srcT_rangeC (n := 12) (fun j zs => IntsAre zs (((List.range j).filter fun p => decide ((i : Int) < cs.getD p 0)).map fun p => (2 : Int) ^ p)) rfl F3 N3 hR2 rfl rfl (by decide) .nil ?turn2 ?done2
    case turn2 =>
      intro j tj I2 oI2 C2' oC2 D2 m₂ h4 tk4 E'' zs Q1 Q2 hj hzs hC2 hmm2 F4 N4 off4 n1 n2 n3 hQ1 hQ2 hQ3
      rw [Int.zero_add] at hmm2
      k_steps
      refine decQ (fun hlt => ?_) (fun hlt => ?_)
      · rw [Int.toNat_natCast] at hlt
        refine hQ3 _ ?_
        k_steps
        refine ⟨?_⟩
        refine pow2_to j rfl (by lia) ?_
        k_steps
        refine hQ1 _ _ _ F4 N4 ?_
        try dsimp only
        rw [filt_snoc_t _ _ (decide_eq_true hlt), List.map_append]
        exact ints_snoc hzs _ _
      · rw [Int.toNat_natCast] at hlt
        refine hQ2 _ _ F4 N4 ?_
        try dsimp only
        rw [filt_snoc_f _ _ (decide_eq_false hlt)]
        exact hzs
    case done2 =>
      intro g zs hzs D2 h4 tk4 F4 N4 o4
      have hzl : zs.length ≤ 12 := by
        rw [hzs.length, List.length_map]
        exact Nat.le_trans (List.length_filter_le _ _) (by rw [List.length_range]; exact Nat.le_refl _)
      k_steps
      rename_i h5 tk5 tv5 F5 N5
      refine hQ0 _ _ ?_
      refine ce_end4 F5 (news_sub N5 fun p hp => .tail _ hp) off ⟨rfl, ?_⟩
      have e12 : (List.range (i + 1)).map (dueOf cs) = (List.range i).map (dueOf cs) ++ [dueOf cs i] := by
        rw [List.range_succ (n := i), List.map_append]; rfl
      rw [e12]
      exact ints_snoc hys _ _
  case done1 =>
    intro ys nw' Du h3 tk3 z0H F3 N3 o3
    refine hide fun kH => ?_
    obtain ⟨rfl, hys⟩ := z0H
    refine kH ?_
    clear kH
    rw [hdue] at hys
    have m4 : (Ft, listOf fv.toArray kf) ∈ (Du, lst ys) :: whole L t4 t5 cD cC cL cW rest := .tail _ (mem_whole hfm)
    have hysl := hys.length
    k_steps
    refine ⟨?_⟩
    k_dflt (refine LCg.ListComp_U (F₀ := by k_asm) (by with_unfolding_all rfl) (by decide) (by rfl) (by decide) (by rfl) ?_)
    k_steps
    refine ⟨?_⟩
    refine src_ledC (vs := fv) (fun i zs => StrsAre zs ((fs.take i).map fun v => mkS (fmRow (32768 + v)))) (m4) rfl F3 N3 (by lia) .nil ?turn3 ?done3
    case turn3 =>
      intro i v I oI C oC D m₂ h4 tk4 E' zs Qturn3 hv hzs hC hmm F4 N4 off n1 n2 n3 hQturn3
      refine hide fun kH => ?_
      obtain ⟨z, t, rfl, hz⟩ := ints_at hfi hv
      refine kH ?_
      clear kH
      k_steps
      refine ⟨?_⟩
      k_dflt (refine' Does.use (filemode_does w (32768 + z) _ _) ?_ ?_ ?_ ?_ ?_ ?_ ?_ ?_ ?_ ?_ ?_)
      all_goals try (first | ((with_reducible show Below _ _ _ _); k_asm) | ((with_reducible show Fr _ _ _ _); k_asm) | ((with_reducible show Frag.In _ _); k_asm) | ((with_reducible show News _ _ _ _); k_asm) | ((with_reducible show Top _ _ _ _ _ _); k_asm) | ((with_reducible show CodeHd _ _ _); first | assumption | exact CodeHd.keeps (by assumption) (Fr.keep (by assumption))) | ((with_reducible show Scope.kind _ = _); exact rfl) | ((with_reducible show _ < recursionLimit); first | exact droom (by with_reducible assumption) rfl | exact Nat.le_of_ble_eq_true rfl | ktr_room) | ((with_reducible show _ < cLine); first | exact uroom (by with_reducible assumption) rfl | exact Nat.le_of_ble_eq_true rfl | ktr_units))
      refine hide2 ?_
      rintro PH kH r news' ⟨⟨u, rfl⟩, rfl⟩
      refine kH _ _ ?_
      clear kH PH
      intro h5 tk5 F5 N5
      k_steps
      refine hQturn3 _ _ _ F5 N5 ?_
      try dsimp only
      rw [take_snoc hz, List.map_append]
      exact strs_snoc hzs _ _
    case done3 =>
      intro g zs hzs A1 h4 tk4 F4 N4 o4
      rw [hfvl, List.take_length] at hzs
      k_steps
      refine ⟨?_⟩
      k_dflt (refine LCg.ListComp_U (F₀ := by k_asm) (by with_unfolding_all rfl) (by decide) (by rfl) (by decide) (by rfl) ?_)
      k_steps
      refine ⟨?_⟩
      refine src_ledC (vs := ys) (fun i us => StrsAre us ((fs.take i).map fun v => mkS (lrow (32768 + v)))) (.tail _ (.head _)) rfl F4 N4 (by lia) .nil ?turn4 ?done4
      case turn4 =>
        intro i v I oI C oC D m₂ h5 tk5 E' us Qturn4 hv hus hC hmm F5 N5 off n1 n2 n3 hQturn4
        refine hide fun kH => ?_
        obtain ⟨z, t, rfl, hz⟩ := ints_at hys hv
        refine kH ?_
        clear kH
        k_steps
        refine ⟨?_⟩
        k_dflt (refine' Does.use (lawrow_does w (32768 + z) _ _) ?_ ?_ ?_ ?_ ?_ ?_ ?_ ?_ ?_ ?_ ?_)
        all_goals try (first | ((with_reducible show Below _ _ _ _); k_asm) | ((with_reducible show Fr _ _ _ _); k_asm) | ((with_reducible show Frag.In _ _); k_asm) | ((with_reducible show News _ _ _ _); k_asm) | ((with_reducible show Top _ _ _ _ _ _); k_asm) | ((with_reducible show CodeHd _ _ _); first | assumption | exact CodeHd.keeps (by assumption) (Fr.keep (by assumption))) | ((with_reducible show Scope.kind _ = _); exact rfl) | ((with_reducible show _ < recursionLimit); first | exact droom (by with_reducible assumption) rfl | exact Nat.le_of_ble_eq_true rfl | ktr_room) | ((with_reducible show _ < cLine); first | exact uroom (by with_reducible assumption) rfl | exact Nat.le_of_ble_eq_true rfl | ktr_units))
        refine hide2 ?_
        rintro PH kH r news' ⟨⟨u, rfl⟩, rfl⟩
        refine kH _ _ ?_
        clear kH PH
        intro h6 tk6 F6 N6
        k_steps
        refine hQturn4 _ _ _ F6 N6 ?_
        try dsimp only
        rw [take_snoc hz, List.map_append]
        exact strs_snoc hus _ _
      case done4 =>
        intro g us hus A2 h5 tk5 F5 N5 o5
        rw [hysl, List.take_length] at hus
        k_steps
        refine ⟨?_⟩
        have hok : ∀ f : Int → List Nat, (∀ v, f v = fmRow v) → ∀ x ∈ fs.map fun v => mkS (f (32768 + v)), PyData.strOk x = true := by
          intro f hf x hx
          refine hide fun kH => ?_
          obtain ⟨v, _, rfl⟩ := List.mem_map.mp hx
          refine kH ?_
          clear kH
          show Array.all _ _ = true
          rw [hf]
          simp only [mkS, List.all_toArray, List.all_eq_true, decide_eq_true_eq]
          exact row_ok _
        refine eqS_led (hok _ fun _ => rfl) (hok _ fun v => (row_same v).symm) N5 (.tail _ (.head _)) hzs (.head _) hus (by first | exact Nat.le_of_ble_eq_true rfl | ktr_units) ?_
        have e : (fs.map fun v => mkS (fmRow (32768 + v))) = fs.map fun v => mkS (lrow (32768 + v)) := by
          apply List.map_congr_left
          intro v _
          rw [row_same]
        simp only [e, decide_true]
        k_steps
        exact fin _ _ _ F5 (news_sub N5 fun p hp => .tail _ (.tail _ (.tail _ hp)))
end Mine

end
section
open PySem PySem.W PyProof.Rows
set_option Elab.async false
set_option maxRecDepth 100000
set_option maxHeartbeats 4000000
namespace Mine
structure PlainOk (ms gs cs fs : List Int) (wd : Nat) (TT : Int) : Prop where
  gb : ∀ x ∈ gs, 0 ≤ x ∧ x < 4096
  cl : cs.length = 12
  T0 : 0 ≤ TT
  Tn : nd TT wd ≤ 12
  Tc : padd (digs TT wd) = cs
  R0 : 0 ≤ 2 ^ (12 * wd) - 1 - TT
  Rn : nd (2 ^ (12 * wd) - 1 - TT) wd ≤ 12
  Rd : digs (2 ^ (12 * wd) - 1 - TT) wd = cs.map fun c => 2 ^ wd - 1 - c
  Rv : val wd (cs.map fun c => 2 ^ wd - 1 - c) 0 12 = 2 ^ (12 * wd) - 1 - TT
  lb : ∀ i, 0 ≤ (cs.map fun c => 2 ^ wd - 1 - c).getD i 0 ∧ (cs.map fun c => 2 ^ wd - 1 - c).getD i 0 < (2 : Int) ^ 64
  fl : (List.range ms.length).map (fileOf (digs TT wd)) = fs
  round : ∀ xs, Rounds gs xs → xs = fs
  due : (List.range ms.length).map (dueOf cs) = fs
  bl : ∀ i, ((gs.map fun v => digs v 1).take i).flatten.length ≤ 200
  b1 : ∀ ns ∈ gs.map fun v => digs v 1, ns.length ≤ 200
theorem name_off {m : Str → Option Value} {x y : Str} {v v' : Value} (hne : y ≠ x) (h : m y = some v) : (fun z => if z = x then some v' else m z) y = some v := by
  show (if y = x then _ else _) = _
  rw [if_neg hne]; exact h
theorem law_rest (w : World) {p : Program} {loose : List Str} {mean : ExcName → Option Value} {mg mb : Str → Option Value} {base : Heap} (St : Stands w base p loose mean mg mb) (L fa : Addr) (cd : Value) (m : Str → Option Value) (s : Shared) (Q : Flow → Shared → Prop) (E : Value → Shared → Prop) (t4 t5 : Led) (cD cC cL cW : Obj)
    (M : Addr) (mv : List Value) (ms fs : List Int) (kM : Nat) (F : Fr base L s.heap m) (N : News base L s.heap (whole L t4 t5 cD cC cL cW [(M, listOf mv.toArray kM)])) (K : LedOk L t4 t5 [(M, listOf mv.toArray kM)]) (hM : m (Str.ofString "modes") = some (.ref M)) (hi : IntsAre mv ms) (hl : ms.length ≤ 7)
    (wd : Nat) (tw : Tok) (hw : 0 < wd) (hw2 : wd < 64) (hcW : cW.data = .cell (some (.int (wd : Int) tw))) (hcD : cD.data = .cell none) (hcC : cC.data = .cell none) (hcL : cL.data = .cell none)
    (h12 : ∀ v ∈ ms, (lettersOf (fmRow v)).length = 12)
    (P : PlainOk ms (ms.map fun v => Builtin.bitAnd v 4095) (countsOf (ms.map fun v => lettersOf (fmRow v))) fs wd (totalOf wd (ms.map fun v => Builtin.bitAnd v 4095)).sum)
    (fin : ∀ (h' : Heap) (tk' : Nat) (m' : Str → Option Value) (t4' t5' rest' : Led) (cD' cC' cL' cW' : Obj), Fr base L h' m' → News base L h' (whole L t4' t5' cD' cC' cL' cW' rest') → T44 t4' → T51 t5' → Q (.ret (.bool true)) { s with heap := h', toks := tk' }) :
    wpAny (model PR w) (lawA L fa cd) (execs ((dBody lawS).drop 1) (lawEnv L fa cd)) Q E s := by
  refine st1 w St L fa cd m s Q E _ M mv ms kM F N hM (mem_whole (.head _)) hi hl ?_
  intro h1 tk1 m1 Rw Rg rv gv kr kg F1 N1 off1 hM1 hRw hRg hrv hgv
  refine st2 w St L fa cd m1 _ Q E _ F1 N1 M Rw mv rv ms kM kr hM1 hRw (.tail _ (.tail _ (mem_whole (.head _)))) (.head _) hi hrv hl ?_
  intro h2 tk2 F2 N2
  have K1 : LedOk L t4 t5 ((Rw, listOf rv.toArray kr) :: (Rg, listOf gv.toArray kg) :: [(M, listOf mv.toArray kM)]) :=
    ⟨K.k4, K.k5, K.s4, K.s5, List.forall_mem_cons.mpr ⟨K.all (cD := cD) (cC := cC) (cL := cL) (cW := cW) fun p hp => (off1 p hp).1, List.forall_mem_cons.mpr ⟨K.all (cD := cD) (cC := cC) (cL := cL) (cW := cW) fun p hp => (off1 p hp).2, K.sr⟩⟩, K.big⟩
  have N3 : News base L h2 (whole L t4 t5 cD cC cL cW ((Rw, listOf rv.toArray kr) :: (Rg, listOf gv.toArray kg) :: [(M, listOf mv.toArray kM)])) :=
    news_sub N2 (by
      intro p hp
      simp only [whole, List.mem_cons, List.mem_append, List.not_mem_nil, or_false] at hp ⊢
      rcases hp with h | h | h | h | h | h <;> simp only [h, true_or, or_true])
  refine st3 w St L fa cd m1 _ Q E t4 t5 _ cD cC cL cW F2 N3 K1 hcL Rw Rg rv gv ms _ kr kg hRw hRg (.head _) (.tail _ (.head _)) hrv hgv hl (by rw [List.length_map]; exact hl) P.gb ?_
  intro h4 tk4 t4b rest4 cL4 Lt Bt lv bv kl kb F4 N4 K4 hsub hcL4 hlm hlr hbm hbr
  refine st4 w St L fa cd _ _ Q E t4b t5 rest4 cD cC cL4 cW F4 N4 K4 Lt Bt lv bv ms _ kl kb (if_pos rfl) hcL4 hlm hlr hbm hbr rfl hl ?_
  intro h5 tk5 F5 N5
  refine st5 w St L fa cd _ _ Q E t4b t5 rest4 cD cC cL4 cW F5 N5 K4 Lt lv (ms.map fun v => lettersOf (fmRow v)) kl hcL4 hcC hlm hlr (by
    intro l hl'
    refine hide fun kH => ?_
    obtain ⟨v, hv, rfl⟩ := List.mem_map.mp hl'
    refine kH ?_
    clear kH
    exact h12 v hv) (by rw [List.length_map]; exact hl) ?_
  intro h6 tk6 cC6 Ct cv kc F6 N6 K6 hcC6 hcv
  have hsub6 : ∀ p ∈ rest4, p ∈ (Ct, listOf cv.toArray kc) :: rest4 := fun p hp => .tail _ hp
  refine st6 w St L fa cd _ _ Q E t4b t5 _ cD cC6 cL4 cW F6 N6 K6 Bt bv (ms.map fun v => Builtin.bitAnd v 4095) kb wd tw hw hw2 hcW (if_pos rfl) (hsub6 _ hbm) (hbr.mono hsub6) P.gb (by rw [List.length_map]; exact hl) ?_
  intro h7 tk7 t5b tt F7 N7 K7
  refine st7 w St L fa cd _ _ Q E t4b t5b _ cD cC6 cL4 cW F7 N7 K7 Ct cv _ kc wd tw tt _ hw hw2 hcW hcC6 hcD (if_pos rfl) (.head _) hcv P.T0 P.Tn P.Tc ?_
  intro h8 tk8 t4c cD8 Dt dv kd F8 N8 K8 hcD8 hdv
  have hdl : (digs (totalOf wd (ms.map fun v => Builtin.bitAnd v 4095)).sum wd).length ≤ 12 := by rw [digs_len]; exact P.Tn
  refine st8 w St L fa cd _ _ Q E t4c t5b _ cD8 cC6 cL4 cW F8 N8 K8 Ct cv _ kc wd tw tt _ hw hw2 hcW hcC6 (if_pos rfl) (.tail _ (.head _)) hcv P.cl P.R0 P.Rn P.Rd P.Rv P.lb ?_
  intro h9 tk9 t4d t5d v1 v2 F9 N9 K9
  have hM9 : (fun y => if y = Str.ofString "lacks" then some v1 else if y = Str.ofString "rest" then some v2 else if y = Str.ofString "total" then some (.int (totalOf wd (ms.map fun v => Builtin.bitAnd v 4095)).sum tt) else if y = Str.ofString "bits" then some (.ref Bt) else m1 y) (Str.ofString "modes") = some (.ref M) := by
    dsimp only
    rw [if_neg (by decide), if_neg (by decide), if_neg (by decide), if_neg (by decide)]; exact hM1
  have hR9 : (fun y => if y = Str.ofString "lacks" then some v1 else if y = Str.ofString "rest" then some v2 else if y = Str.ofString "total" then some (.int (totalOf wd (ms.map fun v => Builtin.bitAnd v 4095)).sum tt) else if y = Str.ofString "bits" then some (.ref Bt) else m1 y) (Str.ofString "rights") = some (.ref Rg) := by
    dsimp only
    rw [if_neg (by decide), if_neg (by decide), if_neg (by decide), if_neg (by decide)]; exact hRg
  have hB9 : (fun y => if y = Str.ofString "lacks" then some v1 else if y = Str.ofString "rest" then some v2 else if y = Str.ofString "total" then some (.int (totalOf wd (ms.map fun v => Builtin.bitAnd v 4095)).sum tt) else if y = Str.ofString "bits" then some (.ref Bt) else m1 y) (Str.ofString "bits") = some (.ref Bt) := by
    dsimp only
    rw [if_neg (by decide), if_neg (by decide), if_neg (by decide), if_pos rfl]
  generalize hm9 : (fun y => if y = Str.ofString "lacks" then some v1 else if y = Str.ofString "rest" then some v2 else if y = Str.ofString "total" then some (Value.int (totalOf wd (ms.map fun v => Builtin.bitAnd v 4095)).sum tt) else if y = Str.ofString "bits" then some (.ref Bt) else m1 y) = m9 at F9 hM9 hR9 hB9
  have hmem : ∀ p ∈ (Rw, listOf rv.toArray kr) :: (Rg, listOf gv.toArray kg) :: [(M, listOf mv.toArray kM)], p ∈ (Dt, listOf dv.toArray kd) :: (Ct, listOf cv.toArray kc) :: rest4 := fun p hp => .tail _ (.tail _ (hsub p hp))
  refine st9 w St L fa cd m9 _ Q E t4d t5d _ cD8 cC6 cL4 cW F9 N9 K9 M Dt mv dv ms _ kM kd hM9 hcD8 (hmem _ (.tail _ (.tail _ (.head _)))) hi hl (.head _) hdv hdl ?_
  intro h10 tk10 t5e Ft fv kf F10 N10 K10 hfv
  rw [P.fl] at hfv
  have hup : ∀ p ∈ (Dt, listOf dv.toArray kd) :: (Ct, listOf cv.toArray kc) :: rest4, p ∈ (Ft, listOf fv.toArray kf) :: (Dt, listOf dv.toArray kd) :: (Ct, listOf cv.toArray kc) :: rest4 := fun p hp => .tail _ hp
  have hfsl : fs.length = ms.length := by rw [← P.fl, List.length_map, List.length_range]
  refine st10 w St L fa cd _ _ Q E t4d t5e _ cD8 cC6 cL4 cW F10 N10 Rg Dt Bt Ft gv dv bv fv _ _ fs _ kg kd kb kf (name_off (by decide) hR9) (name_off (by decide) hB9) (if_pos rfl) hcD8 (hup _ (hmem _ (.tail _ (.head _)))) hgv (by rw [List.length_map]; exact hl) (.tail _ (.head _)) hdv hdl (hup _ (.tail _ (hsub6 _ hbm))) (hbr.mono fun p hp => hup _ (.tail _ (hsub6 _ hp))) P.bl P.b1 (.head _) hfv (by lia) P.round ?_
  intro h11 tk11 F11 N11
  refine st11 w St L fa cd _ _ Q E t4d t5e _ cD8 cC6 cL4 cW F11 N11 M Ct Ft mv cv fv ms _ fs kM kc kf (name_off (by decide) hM9) (if_pos rfl) hcC6 (hup _ (hmem _ (.tail _ (.tail _ (.head _))))) hi hl (.tail _ (.tail _ (.head _))) hcv P.cl (.head _) hfv P.due ?_
  intro h12' tk12 m12 F12 N12
  exact fin h12' tk12 m12 t4d t5e _ cD8 cC6 cL4 cW F12 N12 K10.k4 K10.k5
end Mine

end
section
set_option Elab.async false
set_option maxRecDepth 100000
namespace Mine
open PySem PySem.W PyProof.Rows
/-! bits of the bitwise -/
theorem or_and (x y : Int) : Builtin.bitOr x y = x + y - Builtin.bitAnd x y := by
  have h1 := bitXor_and x y
  have h2 : Builtin.bitXor x y = Builtin.bitOr x y - Builtin.bitAnd x y := rfl
  lia
theorem and_half (x y : Int) : Builtin.bitAnd x y / 2 = Builtin.bitAnd (x / 2) (y / 2) := by
  have := kbt_halves x y
  split at this <;> lia
theorem and_par (x y : Int) : Builtin.bitAnd x y % 2 = if x % 2 = 1 ∧ y % 2 = 1 then 1 else 0 := by
  have := kbt_halves x y
  split at this <;> rename_i h
  · rw [if_pos h]; lia
  · rw [if_neg h]; lia
theorem or_half (x y : Int) : Builtin.bitOr x y / 2 = Builtin.bitOr (x / 2) (y / 2) := by
  rw [or_and, or_and]
  have := kbt_halves x y
  split at this <;> lia
theorem or_par (x y : Int) : Builtin.bitOr x y % 2 = if x % 2 = 1 ∨ y % 2 = 1 then 1 else 0 := by
  rw [or_and]
  have := and_par x y
  split at this <;> split <;> lia
theorem div_succ (x : Int) (j : Nat) : x / 2 ^ (j + 1) = x / 2 / 2 ^ j := by
  rw [Int.pow_succ, Int.mul_comm, ← Int.ediv_ediv_of_nonneg (by decide)]
theorem and_div (j : Nat) : ∀ x y : Int, Builtin.bitAnd x y / 2 ^ j = Builtin.bitAnd (x / 2 ^ j) (y / 2 ^ j) := by
  induction j with
  | zero => intro x y; simp
  | succ j ih => intro x y; rw [div_succ, div_succ, div_succ, and_half, ih]
theorem or_div (j : Nat) : ∀ x y : Int, Builtin.bitOr x y / 2 ^ j = Builtin.bitOr (x / 2 ^ j) (y / 2 ^ j) := by
  induction j with
  | zero => intro x y; simp
  | succ j ih => intro x y; rw [div_succ, div_succ, div_succ, or_half, ih]
theorem or_small {x y : Int} (hx : 0 ≤ x ∧ x < 4096) (hy : 0 ≤ y ∧ y < 4096) : 0 ≤ Builtin.bitOr x y ∧ Builtin.bitOr x y < 4096 := by
  have h := or_div 12 x y
  have e : (2 : Int) ^ 12 = 4096 := by decide
  rw [e, Int.ediv_eq_zero_of_lt hx.1 hx.2, Int.ediv_eq_zero_of_lt hy.1 hy.2] at h
  have h0 : Builtin.bitOr 0 0 = 0 := by decide
  rw [h0] at h
  lia
theorem and_small {x y : Int} (hx : 0 ≤ x ∧ x < 4096) (hy : 0 ≤ y ∧ y < 4096) : 0 ≤ Builtin.bitAnd x y ∧ Builtin.bitAnd x y < 4096 := by
  have h := and_div 12 x y
  have e : (2 : Int) ^ 12 = 4096 := by decide
  rw [e, Int.ediv_eq_zero_of_lt hx.1 hx.2, Int.ediv_eq_zero_of_lt hy.1 hy.2] at h
  have h0 : Builtin.bitAnd 0 0 = 0 := by decide
  rw [h0] at h
  lia
noncomputable def cntI (l : List Int) (j : Nat) : Int := (l.map fun v => v / 2 ^ j % 2).sum
theorem cntI_cons (x : Int) (l : List Int) (j : Nat) : cntI (x :: l) j = x / 2 ^ j % 2 + cntI l j := by simp [cntI]
theorem cntI_perm {a b : List Int} (h : a.Perm b) (j : Nat) : cntI a j = cntI b j := by
  unfold cntI
  induction h with
  | nil => rfl
  | cons x _ ih => simp only [List.map_cons, List.sum_cons, ih]
  | swap x y l => simp only [List.map_cons, List.sum_cons]; lia
  | trans _ _ h1 h2 => exact h1.trans h2
theorem cntI_b (l : List Int) (j : Nat) : 0 ≤ cntI l j ∧ cntI l j ≤ l.length := by
  induction l with
  | nil => exact ⟨Int.le_refl _, Int.le_refl _⟩
  | cons x l ih =>
    rw [cntI_cons]
    have := bit01 x j
    have e : ((x :: l).length : Int) = l.length + 1 := by simp
    rw [e]; lia
theorem lay_len (a : Int) (xs : List Int) : (lay a xs).2.length = xs.length := by
  induction xs generalizing a with
  | nil => rfl
  | cons x xs ih => simp only [lay, List.length_cons, ih]
theorem lay_cnt (a : Int) (xs : List Int) (j : Nat) : (lay a xs).1 / 2 ^ j % 2 + cntI (lay a xs).2 j = a / 2 ^ j % 2 + cntI xs j := by
  induction xs generalizing a with
  | nil => rfl
  | cons x xs ih =>
    simp only [lay, cntI_cons]
    have h1 := ih (Builtin.bitOr a x)
    have h2 : Builtin.bitOr a x / 2 ^ j % 2 + Builtin.bitAnd a x / 2 ^ j % 2 = a / 2 ^ j % 2 + x / 2 ^ j % 2 := by
      rw [or_div, and_div, or_par, and_par]
      have ha := bit01 a j
      have hx := bit01 x j
      split <;> split <;> lia
    lia
theorem lay_top (a : Int) (xs : List Int) (j : Nat) : (lay a xs).1 / 2 ^ j % 2 = if 0 < a / 2 ^ j % 2 + cntI xs j then 1 else 0 := by
  induction xs generalizing a with
  | nil =>
    have ha := bit01 a j
    have e : cntI [] j = 0 := rfl
    simp only [lay, e]
    split <;> lia
  | cons x xs ih =>
    simp only [lay, cntI_cons]
    rw [ih, or_div, or_par]
    have ha := bit01 a j
    have hx := bit01 x j
    have hc := (cntI_b xs j).1
    repeat' split
    all_goals first | rfl | lia
theorem lay_small {a : Int} {xs : List Int} (ha : 0 ≤ a ∧ a < 4096) (hx : ∀ x ∈ xs, 0 ≤ x ∧ x < 4096) : (0 ≤ (lay a xs).1 ∧ (lay a xs).1 < 4096) ∧ ∀ x ∈ (lay a xs).2, 0 ≤ x ∧ x < 4096 := by
  induction xs generalizing a with
  | nil => exact ⟨ha, fun _ h => nomatch h⟩
  | cons x xs ih =>
    have h1 := hx x (.head _)
    obtain ⟨h2, h3⟩ := ih (or_small ha h1) fun y hy => hx y (.tail _ hy)
    refine ⟨h2, ?_⟩
    intro y hy
    simp only [lay] at hy
    rcases List.mem_cons.mp hy with rfl | hy
    · exact and_small ha h1
    · exact h3 y hy
/-- the file of level k -/
noncomputable def levF (c : Nat → Int) (k : Nat) : Int := val 1 ((List.range 12).map fun j => if (k : Int) < c j then 1 else 0) 0 12
theorem val_bits (f : List Int) : ∀ (k L : Nat) (v : Int), 0 ≤ v → v < 2 ^ k → (∀ j, j < k → f.getD (L + j) 0 = v / 2 ^ j % 2) → val 1 f L k = v
  | 0, L, v, h0, h1, _ => by
    rw [val]
    exact Int.le_antisymm h0 (Int.lt_add_one_iff.mp h1)
  | k + 1, L, v, h0, h1, h => by
    have e := h 0 (Nat.succ_pos _)
    rw [Nat.add_zero, Int.pow_zero, Int.ediv_one] at e
    have i := val_bits f k (L + 1) (v / 2) (Int.ediv_nonneg h0 (by decide)) (Int.ediv_lt_of_lt_mul (by decide) (by rw [← Int.pow_succ]; exact h1)) fun j hj => by
      have := h (j + 1) (Nat.succ_lt_succ hj)
      rw [Nat.add_assoc, Nat.add_comm 1 j, this, Int.pow_succ, Int.mul_comm, dd v (by decide) rfl]
    rw [val, i, e]
    exact Int.emod_add_mul_ediv v 2
theorem small_val {v : Int} (hv : 0 ≤ v ∧ v < 4096) : val 1 ((List.range 12).map fun j => v / 2 ^ j % 2) 0 12 = v :=
  val_bits _ 12 0 v hv.1 hv.2 fun j hj => by
    rw [Nat.zero_add, List.getD_eq_getElem?_getD, List.getElem?_map, List.getElem?_range hj]; rfl
theorem rounds_eq {ns fs : List Int} (h : Rounds ns fs) : (∀ x ∈ ns, 0 ≤ x ∧ x < 4096) → fs = (List.range ns.length).map (levF (cntI ns)) := by
  induction h with
  | nil => intro _; rfl
  | @step ns fs xs x hp _ ih =>
    intro hb
    have hbx : ∀ y ∈ x :: xs, 0 ≤ y ∧ y < 4096 := fun y hy => hb y (hp.subset hy)
    obtain ⟨h1, h2⟩ := lay_small (hbx x (.head _)) fun y hy => hbx y (.tail _ hy)
    have ih := ih h2
    have hc : ∀ j, cntI ns j = x / 2 ^ j % 2 + cntI xs j := fun j => by rw [← cntI_perm hp j, cntI_cons]
    have hlen : ns.length = xs.length + 1 := by rw [← hp.length_eq, List.length_cons]
    rw [hlen, List.range_succ_eq_map, List.map_cons, List.map_map, ih, lay_len]
    congr 1
    · rw [← small_val h1]
      unfold levF
      apply val_congr
      intro i _ hi
      have hi' : i < 12 := by lia
      rw [getD_range, getD_range, if_pos hi', if_pos hi', lay_top, hc]
      simp only [Int.natCast_zero]
    · apply List.map_congr_left
      intro k _
      show levF _ k = levF _ (k + 1)
      unfold levF
      apply val_congr
      intro i _ hi
      have hi' : i < 12 := by lia
      rw [getD_range, getD_range, if_pos hi', if_pos hi']
      have h3 := lay_cnt x xs i
      have h4 := lay_top x xs i
      have h5 := hc i
      rw [← h5] at h3 h4
      have h6 := (cntI_b ns i).1
      rw [h4] at h3
      have e : ((k + 1 : Nat) : Int) = k + 1 := by simp
      rw [e]
      split at h3 <;> split <;> split <;> lia
end Mine

end
section
set_option Elab.async false
set_option maxRecDepth 100000
namespace Mine
open PySem PySem.W PyProof.Rows
theorem padd_getD (l : List Int) (i : Nat) : (padd l).getD i 0 = l.getD i 0 := by
  unfold padd
  rw [List.getD_eq_getElem?_getD, List.getD_eq_getElem?_getD]
  rcases Nat.lt_or_ge i l.length with h | h
  · rw [List.getElem?_append_left h]
  · rw [List.getElem?_append_right h, List.getElem?_replicate, List.getElem?_eq_none h]
    split <;> rfl
theorem val_padd (n : Nat) (l : List Int) (hl : l.length ≤ 12) : val n l 0 l.length = val n (padd l) 0 12 := by
  have e : val n (padd l) 0 12 = val n l 0 12 := val_congr fun i _ _ => padd_getD l i
  have e2 : val n l 0 (l.length + (12 - l.length)) = val n l 0 l.length + 2 ^ (n * l.length) * val n l (0 + l.length) (12 - l.length) := val_add ..
  have e3 : val n l (0 + l.length) (12 - l.length) = 0 := val_zero fun i h1 _ => by
    rw [List.getD_eq_getElem?_getD, List.getElem?_eq_none (by lia)]; rfl
  rw [e3, Int.mul_zero, Int.add_zero, Nat.add_sub_cancel' hl] at e2
  rw [e, e2]
theorem bit_len (v : Int) : (digs (Builtin.bitAnd v 4095) 1).length ≤ 12 := by
  rw [digs_len]
  have hb := imode_b v
  have e12 : (2 : Int) ^ (1 * 12) = 4096 := by decide
  exact nd_of_lt (by decide) hb.1 (by rw [e12]; exact hb.2)
theorem tot_eq (wd : Nat) (ms : List Int) : (totalOf wd (ms.map fun v => Builtin.bitAnd v 4095)).sum = val wd ((List.range 12).map (cntI ms)) 0 12 := by
  induction ms with
  | nil =>
    rw [val_zero fun i _ h => by rw [getD_range, if_pos (by lia)]; rfl]
    rfl
  | cons v ms ih =>
    have e1 : (totalOf wd ((v :: ms).map fun v => Builtin.bitAnd v 4095)).sum = val wd (digs (Builtin.bitAnd v 4095) 1) 0 (digs (Builtin.bitAnd v 4095) 1).length + (totalOf wd (ms.map fun v => Builtin.bitAnd v 4095)).sum := by
      simp only [totalOf, List.map_cons, List.sum_cons]
    rw [e1, ih, val_padd wd _ (bit_len v), letters_bits, letters_eq]
    symm
    apply val_sum
    intro i _ hi
    have hi' : i < 12 := by lia
    unfold bits12
    rw [getD_range, getD_range, getD_range, if_pos hi', if_pos hi', if_pos hi', cntI_cons]
theorem counts_eq (ms : List Int) : countsOf (ms.map fun v => lettersOf (fmRow v)) = (List.range 12).map (cntI ms) := by
  unfold countsOf cntI
  apply List.map_congr_left
  intro j hj
  have hj' := List.mem_range.mp hj
  rw [List.map_map]
  congr 1
  apply List.map_congr_left
  intro v _
  show (lettersOf (fmRow v)).getD j 0 = _
  rw [letters_eq]
  unfold bits12
  rw [getD_range, if_pos hj']
theorem low_cnt (ms : List Int) {j : Nat} (hj : j < 12) : cntI (ms.map fun v => Builtin.bitAnd v 4095) j = cntI ms j := by
  unfold cntI
  rw [List.map_map]
  congr 1
  apply List.map_congr_left
  intro v _
  show Builtin.bitAnd v 4095 / 2 ^ j % 2 = _
  have := dig_low v 1 12 j hj
  rw [a4095]
  have e : (4096 : Int) = 2 ^ (1 * 12) := by decide
  rw [e]
  simpa using this
theorem marks_getD (ds : List Int) (k i : Nat) : (marks ds k).getD i 0 = if (k : Int) < ds.getD i 0 then 1 else 0 := by
  unfold marks
  rw [List.getD_eq_getElem?_getD, List.getD_eq_getElem?_getD, List.getElem?_map]
  cases ds[i]? with
  | none =>
    have h : ¬ ((k : Int) < 0) := by lia
    simp only [Option.map_none, Option.getD_none]
    rw [if_neg h]
  | some c => rfl
theorem filt_val (q : Nat → Bool) : ∀ N, N ≤ 12 → (((List.range N).filter q).map fun p => (2 : Int) ^ p).sum = val 1 ((List.range 12).map fun j => if q j = true then 1 else 0) 0 N := by
  intro N
  induction N with
  | zero => intro _; rfl
  | succ N ih =>
    intro hN
    have ih := ih (by lia)
    have e := val_add 1 ((List.range 12).map fun j => if q j = true then (1 : Int) else 0) N 1 0
    rw [e, ← ih, val, val, Nat.zero_add, getD_range, if_pos (show N < 12 by lia), Nat.one_mul]
    cases hq : q N with
    | true => rw [filt_snoc_t q N hq, List.map_append, List.sum_append]; simp
    | false => rw [filt_snoc_f q N hq]; simp
theorem flat_len (ls : List (List Int)) (h : ∀ l ∈ ls, l.length ≤ 12) : ls.flatten.length ≤ 12 * ls.length := by
  induction ls with
  | nil => simp
  | cons l ls ih =>
    have h1 := h l (.head _)
    have h2 := ih fun x hx => h x (.tail _ hx)
    simp only [List.flatten_cons, List.length_append, List.length_cons]
    lia
theorem plain_ok (xs : List Int) (hx : xs.length ≤ 4) (wd : Nat) (h1 : 3 ≤ wd) (h2 : wd < 64) : ∃ fs, PlainOk ([33206, 16872, 34285] ++ xs) (([33206, 16872, 34285] ++ xs).map fun v => Builtin.bitAnd v 4095) (countsOf (([33206, 16872, 34285] ++ xs).map fun v => lettersOf (fmRow v))) fs wd (totalOf wd (([33206, 16872, 34285] ++ xs).map fun v => Builtin.bitAnd v 4095)).sum := by
  generalize hms : [33206, 16872, 34285] ++ xs = ms
  have hml : ms.length ≤ 7 := by rw [← hms]; simp; lia
  have h11 : cntI ms 11 ≤ 4 := by
    rw [← hms]
    simp only [List.cons_append, List.nil_append, cntI_cons]
    have := (cntI_b xs 11).2
    lia
  have hp : (8 : Int) ≤ 2 ^ wd := by
    have := pow_le_pow2 h1
    have e : (2 : Int) ^ 3 = 8 := by decide
    lia
  have hp64 : (2 : Int) ^ wd ≤ 2 ^ 64 := pow_le_pow2 (by lia)
  have hf : ∀ j, 0 ≤ cntI ms j ∧ cntI ms j ≤ 7 := fun j => by have := cntI_b ms j; lia
  refine ⟨(List.range ms.length).map (levF (cntI ms)), ?_⟩
  rw [counts_eq, tot_eq]
  generalize hT : val wd ((List.range 12).map (cntI ms)) 0 12 = TT
  have hcb : ∀ i, 0 ≤ ((List.range 12).map (cntI ms)).getD i 0 ∧ ((List.range 12).map (cntI ms)).getD i 0 < 2 ^ wd := by
    intro i
    rw [getD_range]
    have := hf i
    split <;> lia
  have hTb := val_lt hcb 12 0
  rw [hT] at hTb
  have hwd : 0 < wd := by lia
  have hTn := nd_of_lt hwd hTb.1 hTb.2
  have hlk : ((List.range 12).map (cntI ms)).map (fun c => 2 ^ wd - 1 - c) = (List.range 12).map fun j => 2 ^ wd - 1 - cntI ms j := by rw [List.map_map]; rfl
  have hlb : ∀ i, 0 ≤ ((List.range 12).map fun j => 2 ^ wd - 1 - cntI ms j).getD i 0 ∧ ((List.range 12).map fun j => 2 ^ wd - 1 - cntI ms j).getD i 0 < (2 : Int) ^ wd := by
    intro i
    rw [getD_range]
    have := hf i
    split <;> lia
  have hRv : val wd ((List.range 12).map fun j => 2 ^ wd - 1 - cntI ms j) 0 12 = 2 ^ (12 * wd) - 1 - TT := by
    have e1 : val wd ((List.range 12).map fun _ => (2 : Int) ^ wd - 1) 0 12 = 2 ^ (wd * 12) - 1 := val_full fun i _ hi => by
      have hi' : i < 12 := by lia
      rw [getD_range, if_pos hi']
    have e2 : val wd ((List.range 12).map fun _ => (2 : Int) ^ wd - 1) 0 12 = val wd ((List.range 12).map fun j => 2 ^ wd - 1 - cntI ms j) 0 12 + val wd ((List.range 12).map (cntI ms)) 0 12 := val_sum fun i _ hi => by
      have hi' : i < 12 := by lia
      rw [getD_range, getD_range, getD_range, if_pos hi', if_pos hi', if_pos hi']
      lia
    rw [Nat.mul_comm 12 wd]
    lia
  have hRb := val_lt hlb 12 0
  rw [hRv] at hRb
  have hRn := nd_of_lt hwd hRb.1 hRb.2
  have hRp : padd (digs (2 ^ (12 * wd) - 1 - TT) wd) = (List.range 12).map fun j => 2 ^ wd - 1 - cntI ms j := by
    rw [padd_digs hwd hRb.1 hRn]
    apply List.map_congr_left
    intro j hj
    have hj' := List.mem_range.mp hj
    rw [← hRv, val_dig hlb hj', getD_range, if_pos hj']
  have hR12 : ¬ nd (2 ^ (12 * wd) - 1 - TT) wd ≤ 11 := by
    intro h
    have a := nd_pow hwd hRb.1
    have b : (2 : Int) ^ (wd * nd (2 ^ (12 * wd) - 1 - TT) wd) ≤ 2 ^ (wd * 11) := pow_le_pow2 (Nat.mul_le_mul_left wd h)
    have c := val_dig hlb (N := 12) (j := 11) (by decide)
    rw [hRv, Int.ediv_eq_zero_of_lt hRb.1 (by lia), getD_range, if_pos (by decide)] at c
    simp at c
    lia
  have hRd : digs (2 ^ (12 * wd) - 1 - TT) wd = (List.range 12).map fun j => 2 ^ wd - 1 - cntI ms j := by
    rw [← hRp]
    unfold padd
    rw [digs_len, show 12 - nd (2 ^ (12 * wd) - 1 - TT) wd = 0 by lia]
    simp
  have hTc : padd (digs TT wd) = (List.range 12).map (cntI ms) := by
    rw [padd_digs hwd hTb.1 hTn]
    apply List.map_congr_left
    intro j hj
    have hj' := List.mem_range.mp hj
    rw [← hT, val_dig hcb hj', getD_range, if_pos hj']
  have hgb : ∀ x ∈ ms.map fun v => Builtin.bitAnd v 4095, 0 ≤ x ∧ x < 4096 := by
    intro x hx
    obtain ⟨v, _, rfl⟩ := List.mem_map.mp hx
    exact imode_b v
  have hgl : ∀ l ∈ (ms.map fun v => Builtin.bitAnd v 4095).map fun v => digs v 1, l.length ≤ 12 := by
    intro l hl
    obtain ⟨x, hx, rfl⟩ := List.mem_map.mp hl
    obtain ⟨v, _, rfl⟩ := List.mem_map.mp hx
    exact bit_len v
  refine { gb := hgb, cl := by simp, T0 := hTb.1, Tn := hTn, Tc := hTc, R0 := hRb.1, Rn := hRn, Rd := by rw [hlk]; exact hRd, Rv := by rw [hlk]; exact hRv, lb := ?_, fl := ?_, round := ?_, due := ?_, bl := ?_, b1 := fun l hl => Nat.le_trans (hgl l hl) (by decide) }
  · intro i
    rw [hlk]
    exact ⟨(hlb i).1, Int.lt_of_lt_of_le (hlb i).2 hp64⟩
  · apply List.map_congr_left
    intro k _
    unfold fileOf levF
    have e : (digs TT wd).length = (marks (digs TT wd) k).length := by simp [marks]
    rw [e, val_padd 1 _ (by rw [← e, digs_len]; exact hTn)]
    apply val_congr
    intro i _ hi
    have hi' : i < 12 := by lia
    rw [padd_getD, marks_getD, getD_range, if_pos hi', ← padd_getD, hTc, getD_range, if_pos hi']
  · intro fs hr
    rw [rounds_eq hr hgb, List.length_map]
    apply List.map_congr_left
    intro k _
    unfold levF
    apply val_congr
    intro i _ hi
    have hi' : i < 12 := by lia
    rw [getD_range, getD_range, if_pos hi', if_pos hi', low_cnt ms hi']
  · apply List.map_congr_left
    intro k _
    unfold dueOf levF
    rw [filt_val _ 12 (Nat.le_refl _)]
    apply val_congr
    intro i _ hi
    have hi' : i < 12 := by lia
    rw [getD_range, getD_range, if_pos hi', if_pos hi', getD_range, if_pos hi']
    simp only [decide_eq_true_eq]
  · intro i
    have a := flat_len (((ms.map fun v => Builtin.bitAnd v 4095).map fun v => digs v 1).take i) fun l hl => hgl l (List.mem_of_mem_take hl)
    have b : (((ms.map fun v => Builtin.bitAnd v 4095).map fun v => digs v 1).take i).length ≤ 7 := by
      rw [List.length_take, List.length_map, List.length_map]; lia
    lia
end Mine

end
section
open PySem PySem.W PyProof.Rows in
theorem Mine.freshAS {prog : Program} {w : World} {A : Around} {env : Env} {E : Value → Shared → Prop} {Q : Flow → Shared → Prop} {s : Shared} (h : Q .next s) : wpAny (model prog w) A (execs [] env) Q E s := by w_top off; k_with_none; walk1; exact h
open PySem PySem.W PyProof.Rows PyProof.Rows.LCg PyProof.Rows.LCt
set_option Elab.async false
set_option maxRecDepth 100000
set_option maxHeartbeats 8000000
set_option pp.deepTerms false
set_option pp.deepTerms.threshold 6
namespace Mine
local macro_rules | `(tactic| k_ne) => `(tactic| k_extra "ne")
local macro_rules | `(tactic| walk_at "storeName") => `(tactic| k_extra "storeName")
theorem t44_grown {t : Led} (h : T44 t) : ∃ ps, ((44 : Nat), tabObj ps) ∈ t := by
  rcases h with rfl | ⟨q, _, rfl⟩
  · exact ⟨_, .head _⟩
  · exact ⟨_, .head _⟩
theorem t51_grown {t : Led} (h : T51 t) : ∃ ps, ((51 : Nat), tabObj ps) ∈ t := by
  rcases h with rfl | ⟨q, _, rfl⟩
  · exact ⟨_, .head _⟩
  · exact ⟨_, .head _⟩
theorem grown_end {h₀ h : Heap} {L : Addr} {t4 t5 rest : Led} {cD cC cL cW : Obj} (N : News h₀ L h (whole L t4 t5 cD cC cL cW rest)) (h4 : T44 t4) (h5 : T51 t5) : GrownAll [(55, 51), (48, 44)] h := by
  refine hide fun kH => ?_
  obtain ⟨p4, m4⟩ := t44_grown h4
  obtain ⟨p5, m5⟩ := t51_grown h5
  refine kH ?_
  clear kH
  exact ⟨GrownAt.of N (List.mem_append_right _ (List.mem_append_left _ m5)), GrownAt.of N (List.mem_append_left _ m4), trivial⟩
theorem law_walk : PySem.Challenge.rw_oy0149_01.Holds := Mine.hd (by
  k_with_none
  k_with "eval Name" => (k_here; k_dflt (refine' nameX_L2 ?F ?_ ?v ?a ?b; (case F => k_asm); (case a => exact rfl); (case b => exact rfl); (case v => exact rfl); k_whole))
  k_with "ne" => (refine neN ?_; (try dsimp only); first | (refine Nat.ne_of_gt ?_; (repeat (first | assumption | exact Nat.lt_succ_self _ | exact Nat.lt_of_succ_lt (by assumption) | exact And.left (by assumption) | exact And.right (by assumption) | exact And.left (And.right (by assumption)) | exact And.right (And.right (by assumption)) | exact And.left (And.right (And.right (by assumption))) | exact And.right (And.right (And.right (by assumption))) | exact And.left (And.right (And.right (And.right (by assumption)))) | exact And.right (And.right (And.right (And.right (by assumption)))) | exact And.left (And.right (And.right (And.right (And.right (by assumption))))) | exact And.right (And.right (And.right (And.right (And.right (by assumption))))) | exact And.left (And.right (And.right (And.right (And.right (And.right (by assumption)))))) | exact And.right (And.right (And.right (And.right (And.right (And.right (by assumption)))))) | exact And.left (And.right (And.right (And.right (And.right (And.right (And.right (by assumption))))))) | exact And.right (And.right (And.right (And.right (And.right (And.right (And.right (by assumption))))))) | exact And.left (And.right (And.right (And.right (And.right (And.right (And.right (And.right (by assumption)))))))) | exact And.right (And.right (And.right (And.right (And.right (And.right (And.right (And.right (by assumption)))))))) | exact And.left (And.right (And.right (And.right (And.right (And.right (And.right (And.right (And.right (by assumption))))))))) | exact And.right (And.right (And.right (And.right (And.right (And.right (And.right (And.right (And.right (by assumption))))))))) | exact And.left (And.right (And.right (And.right (And.right (And.right (And.right (And.right (And.right (And.right (by assumption)))))))))) | exact And.right (And.right (And.right (And.right (And.right (And.right (And.right (And.right (And.right (And.right (by assumption)))))))))) | refine Nat.lt_succ_of_lt ?_)); done) | (refine Nat.ne_of_lt ?_; (repeat (first | assumption | exact Nat.lt_succ_self _ | exact Nat.lt_of_succ_lt (by assumption) | exact And.left (by assumption) | exact And.right (by assumption) | exact And.left (And.right (by assumption)) | exact And.right (And.right (by assumption)) | exact And.left (And.right (And.right (by assumption))) | exact And.right (And.right (And.right (by assumption))) | exact And.left (And.right (And.right (And.right (by assumption)))) | exact And.right (And.right (And.right (And.right (by assumption)))) | exact And.left (And.right (And.right (And.right (And.right (by assumption))))) | exact And.right (And.right (And.right (And.right (And.right (by assumption))))) | exact And.left (And.right (And.right (And.right (And.right (And.right (by assumption)))))) | exact And.right (And.right (And.right (And.right (And.right (And.right (by assumption)))))) | exact And.left (And.right (And.right (And.right (And.right (And.right (And.right (by assumption))))))) | exact And.right (And.right (And.right (And.right (And.right (And.right (And.right (by assumption))))))) | exact And.left (And.right (And.right (And.right (And.right (And.right (And.right (And.right (by assumption)))))))) | exact And.right (And.right (And.right (And.right (And.right (And.right (And.right (And.right (by assumption)))))))) | exact And.left (And.right (And.right (And.right (And.right (And.right (And.right (And.right (And.right (by assumption))))))))) | exact And.right (And.right (And.right (And.right (And.right (And.right (And.right (And.right (And.right (by assumption))))))))) | exact And.left (And.right (And.right (And.right (And.right (And.right (And.right (And.right (And.right (And.right (by assumption)))))))))) | exact And.right (And.right (And.right (And.right (And.right (And.right (And.right (And.right (And.right (And.right (by assumption)))))))))) | refine Nat.lt_succ_of_lt ?_)); done))
  k_go0
  all_goals try k_fold
  k_with "storeName" => (with_reducible refine stop_here ?_)
  k_steps
  refine ⟨?_⟩
  k_with_none
  k_with "eval Name" => (k_here; k_dflt (refine' nameX_L2 ?F ?_ ?v ?a ?b; (case F => k_asm); (case a => exact rfl); (case b => exact rfl); (case v => exact rfl); k_whole))
  k_with "ne" => (refine neN ?_; (try dsimp only); first | (refine Nat.ne_of_gt ?_; (repeat (first | assumption | exact Nat.lt_succ_self _ | exact Nat.lt_of_succ_lt (by assumption) | exact And.left (by assumption) | exact And.right (by assumption) | exact And.left (And.right (by assumption)) | exact And.right (And.right (by assumption)) | exact And.left (And.right (And.right (by assumption))) | exact And.right (And.right (And.right (by assumption))) | exact And.left (And.right (And.right (And.right (by assumption)))) | exact And.right (And.right (And.right (And.right (by assumption)))) | exact And.left (And.right (And.right (And.right (And.right (by assumption))))) | exact And.right (And.right (And.right (And.right (And.right (by assumption))))) | exact And.left (And.right (And.right (And.right (And.right (And.right (by assumption)))))) | exact And.right (And.right (And.right (And.right (And.right (And.right (by assumption)))))) | exact And.left (And.right (And.right (And.right (And.right (And.right (And.right (by assumption))))))) | exact And.right (And.right (And.right (And.right (And.right (And.right (And.right (by assumption))))))) | exact And.left (And.right (And.right (And.right (And.right (And.right (And.right (And.right (by assumption)))))))) | exact And.right (And.right (And.right (And.right (And.right (And.right (And.right (And.right (by assumption)))))))) | exact And.left (And.right (And.right (And.right (And.right (And.right (And.right (And.right (And.right (by assumption))))))))) | exact And.right (And.right (And.right (And.right (And.right (And.right (And.right (And.right (And.right (by assumption))))))))) | exact And.left (And.right (And.right (And.right (And.right (And.right (And.right (And.right (And.right (And.right (by assumption)))))))))) | exact And.right (And.right (And.right (And.right (And.right (And.right (And.right (And.right (And.right (And.right (by assumption)))))))))) | refine Nat.lt_succ_of_lt ?_)); done) | (refine Nat.ne_of_lt ?_; (repeat (first | assumption | exact Nat.lt_succ_self _ | exact Nat.lt_of_succ_lt (by assumption) | exact And.left (by assumption) | exact And.right (by assumption) | exact And.left (And.right (by assumption)) | exact And.right (And.right (by assumption)) | exact And.left (And.right (And.right (by assumption))) | exact And.right (And.right (And.right (by assumption))) | exact And.left (And.right (And.right (And.right (by assumption)))) | exact And.right (And.right (And.right (And.right (by assumption)))) | exact And.left (And.right (And.right (And.right (And.right (by assumption))))) | exact And.right (And.right (And.right (And.right (And.right (by assumption))))) | exact And.left (And.right (And.right (And.right (And.right (And.right (by assumption)))))) | exact And.right (And.right (And.right (And.right (And.right (And.right (by assumption)))))) | exact And.left (And.right (And.right (And.right (And.right (And.right (And.right (by assumption))))))) | exact And.right (And.right (And.right (And.right (And.right (And.right (And.right (by assumption))))))) | exact And.left (And.right (And.right (And.right (And.right (And.right (And.right (And.right (by assumption)))))))) | exact And.right (And.right (And.right (And.right (And.right (And.right (And.right (And.right (by assumption)))))))) | exact And.left (And.right (And.right (And.right (And.right (And.right (And.right (And.right (And.right (by assumption))))))))) | exact And.right (And.right (And.right (And.right (And.right (And.right (And.right (And.right (And.right (by assumption))))))))) | exact And.left (And.right (And.right (And.right (And.right (And.right (And.right (And.right (And.right (And.right (by assumption)))))))))) | exact And.right (And.right (And.right (And.right (And.right (And.right (And.right (And.right (And.right (And.right (by assumption)))))))))) | refine Nat.lt_succ_of_lt ?_)); done))
  k_with "execs cons" => (with_reducible refine stop_here ?_)
  k_steps
  refine ⟨?_⟩
  rename_i script hs hlay0 hL1 hr1 hl2 w8 w7 w6 w5 w4 hL ra w1 r0 hI0 hr hcond1 hcond hD h₁ tk₁ oD oC oL oW dD dC dL dW X0 X1 T1 K1 cH1 l0 D3 ws3 h8 hI3 hC3 hL3 l3 h7 tk t' T0 h6 l2 D2 ws2 h5 hI2 hC2 hL2 l22 M mv h4 hI lM Dt h3 l1 h2 h22 oW2 dW2 hh F N
  replace dD : oD.data = .cell none := dD
  replace dC : oC.data = .cell none := dC
  replace dL : oL.data = .cell none := dL
  refine hide fun kH => ?_
  obtain ⟨wd, hwd, hw1, hw2⟩ : ∃ wd : Nat, 3 + (List.take 1 script).sum.fmod 61 = (wd : Int) ∧ 3 ≤ wd ∧ wd < 64 := by
    have a := Int.fmod_nonneg_of_pos (List.take 1 script).sum (by decide : (0 : Int) < 61)
    have b := Int.fmod_lt_of_pos (List.take 1 script).sum (by decide : (0 : Int) < 61)
    obtain ⟨wd, e⟩ := Int.eq_ofNat_of_zero_le (Int.add_nonneg (by decide : (0 : Int) ≤ 3) a)
    exact ⟨wd, e, Int.ofNat_le.mp (by rw [← e]; exact Int.le_add_of_nonneg_right a), Int.ofNat_lt.mp (by rw [← e]; exact Int.add_lt_add_left b 3)⟩
  refine kH ?_
  clear kH
  rw [hwd] at dW2
  have hxl : (List.take (min 5 script.length - 1) (List.drop 1 script)).length ≤ 4 := by
    rw [List.length_take]; exact Nat.le_trans (Nat.min_le_left _ _) (Nat.sub_le_sub_right (Nat.min_le_left 5 _) 1)
  refine hide fun kH => ?_
  obtain ⟨fs, P⟩ := plain_ok _ hxl wd hw1 hw2
  refine kH ?_
  clear kH
  have l0a := l0.1
  have l0b := l0.2
  refine law_rest _ ⟨K1, X1, T1, cH1, codeHd⟩ _ _ _ _ _ _ _ [((44 : Nat), tabObj #[])] [((51 : Nat), tabObj #[])] oD oC oL oW2 M mv _ fs 0 F ?N ?K ?hM hI ?hl wd _ (Nat.lt_of_lt_of_le (by decide) hw1) hw2 dW2 dD dC dL (fun v _ => letters12 v) P ?fin
  case N =>
    refine news_sub N (List.forall_mem_cons.mpr ⟨?_, List.forall_mem_cons.mpr ⟨?_, List.forall_mem_cons.mpr ⟨?_, List.forall_mem_cons.mpr ⟨?_, List.forall_mem_cons.mpr ⟨?_, List.forall_mem_cons.mpr ⟨?_, List.forall_mem_cons.mpr ⟨?_, fun _ h => nomatch h⟩⟩⟩⟩⟩⟩⟩)
    all_goals (repeat (first | exact List.Mem.head _ | refine List.Mem.tail _ ?_))
  case K =>
    refine hide fun kH => ?_
    obtain ⟨_, _, _, c4, c3, c2, c1, m51, m44⟩ := lM
    refine kH ?_
    clear kH
    refine ⟨.inl rfl, .inl rfl, ?_, ?_, ?_, l0.1⟩
    · intro p hp; rw [List.mem_singleton.mp hp]; exact .inl rfl
    · intro p hp; rw [List.mem_singleton.mp hp]; exact .inl rfl
    · intro p hp
      rw [List.mem_singleton.mp hp]
      intro hm
      rcases List.mem_cons.mp hm with h | hm
      · exact Nat.ne_of_gt m44 h
      rcases List.mem_cons.mp hm with h | hm
      · exact Nat.ne_of_gt m51 h
      rcases List.mem_cons.mp hm with h | hm
      · exact Nat.ne_of_gt c1 h
      rcases List.mem_cons.mp hm with h | hm
      · exact Nat.ne_of_gt c2 h
      rcases List.mem_cons.mp hm with h | hm
      · exact Nat.ne_of_gt c3 h
      rcases List.mem_cons.mp hm with h | hm
      · exact Nat.ne_of_gt c4 h
      exact nomatch hm
  case hM => exact if_pos rfl
  case hl => simp only [List.length_append, List.length_cons, List.length_nil]; exact Nat.add_le_add_left hxl 3
  case fin =>
    intro h' tk' m' t4' t5' rest' a b c d Fe Ne T4 T5
    refine ⟨?_, grown_end Ne T4 T5⟩
    dsimp only
    kc_bool
    refine goodW_bool Fe (by assumption) (raisesW_false ?_) ?_
    · wrow_none_raised
    · kc_post)
end Mine

end
theorem PySem.Challenge.cw_oy0149_01_holds : PySem.Challenge.rw_oy0149_01.Holds := by
  exact Mine.law_walk
