import PyProof.Rows.All
import Wide.All
import OpenK.AllK
import Wide.FinOn
import PySem.Challenge.RW_dn0059_06
set_option Elab.async false
set_option maxRecDepth 100000
set_option maxHeartbeats 8000000
section
open PySem PySem.W PyProof.Rows
namespace Mine
noncomputable def Stop (P : Prop) : Prop := P
theorem stop_intro {P : Prop} (h : Stop P) : P := h
theorem Stop.out {P : Prop} (h : P) : Stop P := h
theorem ite_ntt {P Q : Prop} (h : Q) : if (!true) = true then P else Q := h
theorem ite_nff {P Q : Prop} (h : P) : if (!false) = true then P else Q := h
theorem ite_bt {b : Bool} {P Q : Prop} (e : b = true) (h : P) : if b = true then P else Q := by subst e; exact h
theorem ite_bf {b : Bool} {P Q : Prop} (e : b = false) (h : Q) : if b = true then P else Q := by subst e; exact h
structure Mk (n : Nat) : Prop where
noncomputable def inS (c : Nat) (y : Str) : Bool := decide (c ∈ y.cps.toList)
noncomputable def inT (x y : Str) : Bool := !(Builtin.Str.occurrences y x 0 y.length 1).isEmpty
noncomputable def isS (c : Nat) (y : Str) : Bool := (Str.mk #[c] == y)
section
variable {prog : Program} {w : World} {A : Around} {E : Value → Shared → Prop} {s : Shared} {Q : Value → Shared → Prop} {c : Nat} {y : Str} {u t : Tok} {b : Bool}
theorem in_one (h : inS c y = b) (k : Q (.bool b) s) : wpAny (model prog w) A (compareOp .In (.str ⟨#[c]⟩ u) (.str y t)) Q E s :=
  in_str (by rw [StrLaws.found_one]; exact (show decide (c ∈ y.cps.toList) = b from h) ▸ k)
theorem in_fact {x : Str} (h : inT x y = b) (k : Q (.bool b) s) : wpAny (model prog w) A (compareOp .In (.str x u) (.str y t)) Q E s :=
  in_str ((show (!(Builtin.Str.occurrences y x 0 y.length 1).isEmpty) = b from h) ▸ k)
theorem notIn_one (h : inS c y = b) (k : Q (.bool (!b)) s) : wpAny (model prog w) A (compareOp .NotIn (.str ⟨#[c]⟩ u) (.str y t)) Q E s :=
  notIn_str (by rw [StrLaws.found_one]; exact (show decide (c ∈ y.cps.toList) = b from h) ▸ k)
theorem eq_one (h : isS c y = b) (k : Q (.bool b) s) : wpAny (model prog w) A (compareOp .Eq (.str ⟨#[c]⟩ u) (.str y t)) Q E s :=
  eq_str ((show (Str.mk #[c] == y) = b from h) ▸ k)
theorem truthy_one {Q : Bool → Shared → Prop} (k : ∀ tk, Q true { s with toks := tk }) : wpAny (model prog w) A (truthy (.str ⟨#[c]⟩ t)) Q E s :=
  KXt.truthy (by rfl) (Nat.le_of_ble_eq_true rfl) k
theorem truthy_fact {Q : Bool → Shared → Prop} {x : Str} (e : ((x.length : Int) != 0) = b) (hl : x.length ≤ 16777216) (k : ∀ tk, Q b { s with toks := tk }) : wpAny (model prog w) A (truthy (.str x t)) Q E s :=
  KXt.truthy e hl k
end
theorem News.sub {h₀ h : Heap} {L : Addr} {l l' : List (Addr × Obj)} (N : News h₀ L h l) (hs : ∀ p ∈ l', p ∈ l) : News h₀ L h l' := fun p hp => N p (hs p hp)
noncomputable def over : List (Str × Value) → (Str → Option Value) → Str → Option Value
  | [], m => m
  | (a, v) :: r, m => fun y => if y = a then some v else over r m y
theorem over_eq {m : Str → Option Value} : ∀ {ps : List (Str × Value)}, (∀ p ∈ ps, m p.1 = some p.2) → over ps m = m
  | [], _ => rfl
  | (a, v) :: r, h => by
    funext y
    show (if y = a then some v else over r m y) = m y
    rw [over_eq (ps := r) fun p hp => h p (.tail _ hp)]
    split
    · rename_i e; subst e; exact (h (y, v) (.head _)).symm
    · rfl
theorem fr_over {h₀ h : Heap} {L : Addr} {m : Str → Option Value} (ps : List (Str × Value)) (F : Fr h₀ L h m) (hp : ∀ p ∈ ps, m p.1 = some p.2) : Fr h₀ L h (over ps m) := by
  rw [over_eq hp]; exact F
theorem eq_fact {prog : Program} {w : World} {A : Around} {E : Value → Shared → Prop} {s : Shared} {Q : Value → Shared → Prop} {x y : Str} {u t : Tok} {b : Bool} (h : (x == y) = b) (k : Q (.bool b) s) : wpAny (model prog w) A (compareOp .Eq (.str x u) (.str y t)) Q E s :=
  eq_str (h ▸ k)

/-- the lexer's states -/
inductive LS where
  | non | sp | sq | dq | esc | a
noncomputable def LS.val (t : Tok) : LS → Value
  | .non => .none
  | .sp => .str (Str.ofString " ") t
  | .sq => .str ⟨#[39]⟩ t
  | .dq => .str ⟨#[34]⟩ t
  | .esc => .str ⟨#[92]⟩ t
  | .a => .str (Str.ofString "a") t
noncomputable def ws (c : Nat) : Bool := c == 32 || c == 9 || c == 13 || c == 10
noncomputable def finT (q : Bool) (tok : Str) : Option Str := if !q && tok.length == 0 then none else some tok
/-- what read_token gives back, the state and the input that it leaves; none: not asked here (a raise) -/
noncomputable def lexGo : List Nat → LS → Bool → Str → Option (Option Str × LS × List Nat)
  | rs, .non, q, _ => if q then none else some (none, .non, rs.tail)
  | [], .sp, q, tok => some (finT q tok, .non, [])
  | [], .a, q, tok => some (finT q tok, .non, [])
  | [], .sq, _, _ => none
  | [], .dq, _, _ => none
  | [], .esc, _, _ => none
  | c :: r, .sp, q, tok =>
    if (tok.length != 0 || q) then none
    else if ws c then lexGo r .sp q tok
    else if c = 92 then lexGo r .esc q tok
    else if c = 39 then lexGo r .sq q tok
    else if c = 34 then lexGo r .dq q tok
    else lexGo r .a q ⟨#[c]⟩
  | c :: r, .sq, _, tok => if c = 39 then lexGo r .a true tok else lexGo r .sq true (tok ++ ⟨#[c]⟩)
  | c :: r, .dq, _, tok => if c = 34 then lexGo r .a true tok else if c = 92 then none else lexGo r .dq true (tok ++ ⟨#[c]⟩)
  | c :: r, .esc, q, tok => lexGo r .a q (tok ++ ⟨#[c]⟩)
  | c :: r, .a, q, tok =>
    if ws c then (if (tok.length != 0 || q) then some (finT q tok, .sp, r) else none)
    else if c = 39 then lexGo r .sq q tok
    else if c = 34 then lexGo r .dq q tok
    else if c = 92 then lexGo r .esc q tok
    else lexGo r .a q (tok ++ ⟨#[c]⟩)
theorem isS_iff {c d : Nat} : isS c ⟨#[d]⟩ = decide (c = d) := by
  unfold isS
  by_cases h : c = d
  · subst h; simp
  · rw [decide_eq_false h, beq_eq_false_iff_ne]
    intro e; apply h
    have := congrArg (fun x : Str => x.cps.toList) e
    simpa using this
theorem ofS_nl : Str.ofString "\n" = ⟨#[10]⟩ := by decide
theorem ofS_ws : (Str.ofString " \t\r\n").cps.toList = [32, 9, 13, 10] := by decide
theorem ofS_q : (Str.ofString "'\"").cps.toList = [39, 34] := by decide
theorem ofS_e : (Str.ofString "\\").cps.toList = [92] := by decide
theorem ofS_d : (Str.ofString "\"").cps.toList = [34] := by decide
theorem inS_nil (c : Nat) : inS c (Str.ofString "") = false := by
  unfold inS; rw [show (Str.ofString "").cps.toList = [] from by decide]; simp
theorem cls (c : Nat) : c = 10 ∨ c = 92 ∨ c = 39 ∨ c = 34 ∨ (isS c (Str.ofString "\n") = false ∧ inS c (Str.ofString " \t\r\n") = true ∧ ws c = true) ∨
    (isS c (Str.ofString "\n") = false ∧ inS c (Str.ofString " \t\r\n") = false ∧ ws c = false ∧ inS c (Str.ofString "\\") = false ∧ inS c (Str.ofString "'\"") = false ∧ inS c (Str.ofString "\"") = false ∧ isS c ⟨#[39]⟩ = false ∧ isS c ⟨#[34]⟩ = false ∧ isS c ⟨#[92]⟩ = false ∧ c ≠ 92 ∧ c ≠ 39 ∧ c ≠ 34) := by
  by_cases h1 : c = 10; · exact .inl h1
  by_cases h2 : c = 92; · exact .inr (.inl h2)
  by_cases h3 : c = 39; · exact .inr (.inr (.inl h3))
  by_cases h4 : c = 34; · exact .inr (.inr (.inr (.inl h4)))
  by_cases h5 : ws c = true
  · refine .inr (.inr (.inr (.inr (.inl ⟨?_, ?_, h5⟩))))
    · rw [ofS_nl, isS_iff]; simpa using h1
    · unfold inS; rw [ofS_ws]; unfold ws at h5; simp only [Bool.or_eq_true, beq_iff_eq] at h5; simp; omega
  · refine .inr (.inr (.inr (.inr (.inr ⟨?_, ?_, ?_, ?_, ?_, ?_, ?_, ?_, ?_, h2, h3, h4⟩))))
    · rw [ofS_nl, isS_iff]; simpa using h1
    · unfold inS; rw [ofS_ws]; unfold ws at h5; simp only [Bool.or_eq_true, beq_iff_eq] at h5; simp; omega
    · simpa using h5
    · unfold inS; rw [ofS_e]; simpa using h2
    · unfold inS; rw [ofS_q]; simp; omega
    · unfold inS; rw [ofS_d]; simpa using h4
    · rw [isS_iff]; simpa using h3
    · rw [isS_iff]; simpa using h4
    · rw [isS_iff]; simpa using h2
theorem len1 (c : Nat) : (Str.mk #[c]).length = 1 := rfl
theorem finT_ne {tok : Str} (h : tok ≠ Str.ofString "") : finT false tok = some tok := by
  unfold finT
  rw [if_neg]
  intro e
  apply h
  have e1 : tok.length = 0 := by simpa using e
  cases tok with
  | mk a =>
    have : a = #[] := Array.eq_empty_of_size_eq_zero e1
    subst this; decide
inductive Lexes : List Nat → LS → List Str → Prop
  | stop {rs rs' : List Nat} {st st' : LS} : st ≠ .esc → lexGo rs st false (Str.ofString "") = some (none, st', rs') → Lexes rs st []
  | tok {rs rs' : List Nat} {st st' : LS} {x : Str} {xs : List Str} : st ≠ .esc → lexGo rs st false (Str.ofString "") = some (some x, st', rs') → Lexes rs' st' xs → Lexes rs st (x :: xs)
noncomputable def optVal (t : Tok) : Option Str → Value
  | none => .none
  | some x => .str x t
/-- a block of one statement -/
theorem execs_one {prog : Program} {w : World} {A : Around} {E : Value → Shared → Prop} {s : Shared} {Q : Flow → Shared → Prop} {st : Stmt} {env : Env} (h : wpAny (model prog w) A (exec st env) Q E s) : wpAny (model prog w) A (execs [st] env) Q E s := by
  refine wpAny_execs_cons (wpAny_mono h (fun f s' hq => ?_) fun _ _ e => e)
  cases f with
  | next => exact wpAny_execs_nil hq
  | _ => exact hq
end Mine
end
section
open PySem PySem.W PyProof.Rows
namespace Mine
/-! the deque: made without arguments; its truth while it is empty -/
noncomputable abbrev deqObj : Obj := { cls := .type "collections.deque", data := .fields #[.none, .int 0 0] }
theorem deq_mro : mroOf (.type "collections.deque") = pure [.type "collections.deque", .type "object"] := by rw [mroOf_type]; kernel_rfl
theorem deq_new : typeLookup (.type "collections.deque") "__new__" = pure (some (.builtin "collections.deque.__new__")) := by rw [typeLookup_type, builtinLookup_eq_fast]; kernel_rfl
theorem deq_noBool : typeLookup (.type "collections.deque") "__bool__" = pure none := by rw [typeLookup_type, builtinLookup_eq_fast]; kernel_rfl
theorem deq_slot_len : Slot "collections.deque" "__len__" "collections.deque.__len__" :=
  .of (owner := "collections.deque") (n := "__len__") (by rw [typeLookup_type, builtinLookup_eq_fast]; kernel_rfl) (by decide +kernel) (by decide +kernel) (by decide +kernel)
    (.inl (by rw [PySem.W.Fast.findQ_eq]; decide +kernel)) (by rw [isSubtype_type]; kernel_rfl)
theorem deq_slot_init : Slot "collections.deque" "__init__" "collections.deque.__init__" :=
  .of (owner := "collections.deque") (n := "__init__") (by rw [typeLookup_type, builtinLookup_eq_fast]; kernel_rfl) (by decide +kernel) (by decide +kernel) (by decide +kernel)
    (.inl (by rw [PySem.W.Fast.findQ_eq]; decide +kernel)) (by rw [isSubtype_type]; kernel_rfl)
theorem deq_entry_len : entryFor table "collections.deque.__len__" = some Builtin.«collections.deque.__len__» := entryFor_of_tree (by kernel_rfl)
theorem deq_entry_new : entryFor table "collections.deque.__new__" = some Builtin.«collections.deque.__new__» := entryFor_of_tree (by kernel_rfl)
theorem deq_entry_init : entryFor table "collections.deque.__init__" = some Builtin.«collections.deque.__init__» := entryFor_of_tree (by kernel_rfl)
theorem deq_args_len (a : Value) : argsOk "collections.deque.__len__" ⟨[a], []⟩ := by unfold argsOk; rw [PySem.W.Fast.signatureQ_eq]; kernel_rfl
theorem deq_args_init (a : Value) : argsOk "collections.deque.__init__" ⟨[a], []⟩ := by unfold argsOk; rw [PySem.W.Fast.signatureQ_eq]; kernel_rfl
theorem deq_typeCall : checkTypeCall "collections.deque" ⟨[], []⟩ = pure () := by unfold checkTypeCall; rw [PySem.W.Fast.signatureQ_eq]; kernel_rfl
theorem deq_newCall : checkBuiltinCall "collections.deque.__new__" ⟨[.type "collections.deque"], []⟩ = pure () := by unfold checkBuiltinCall; rw [PySem.W.Fast.signatureQ_eq, PySem.W.Fast.findQ_eq, PySem.W.Fast.canonicalQ_eq]; kernel_rfl
theorem deq_called : TypeCalled "collections.deque" "collections.deque.__new__" "collections.deque.__init__" :=
  ⟨by decide +kernel, by rw [PySem.W.Fast.findQ_eq]; decide +kernel, ⟨_, _, deq_mro⟩, madeBy_type deq_mro deq_new (by decide +kernel), by decide +kernel, by rw [isSubtype_type]; kernel_rfl, deq_slot_init⟩
theorem deq_sub : isSubtype (.type "collections.deque") (.type "collections.deque") = pure true := by rw [isSubtype_type]; kernel_rfl
section
variable {prog : Program} {w : World} {A : Around} {E : Value → Shared → Prop} {s : Shared}
theorem truthy_deq {d : Addr} {Q : Bool → Shared → Prop} (hd : s.heap.get? d = some deqObj) (h : ∀ tk, Q false { s with toks := tk }) : wpAny (model prog w) A (truthy (.ref d)) Q E s := by
  have hT : s.TypeIs (.ref d) "collections.deque" := ⟨_, hd, rfl⟩
  have key : wpAny (model prog w) A (runValue (.builtin "len" ⟨[.ref d], []⟩)) (fun r s' => (∃ t, r = .int 0 t) ∧ ∃ tk, s' = { s with toks := tk }) E s := by
    refine wpAny_runValue (codeAny_builtin entry_len ?_)
    rw [Around.under_plainId plain_len _]
    unfold Builtin.«len»
    refine wpAny_bind (m := oneArg "len" _) (wpAny_pure ?_)
    refine wpAny_bind (m := callSpecial? (.ref d) (Str.ofString "__len__")) (wpAny_callSpecial?_slot (name := Str.ofString "__len__") hT deq_slot_len
      (wpAny_call_entry deq_slot_len hT deq_entry_len ?_ (deq_args_len _)))
    show wpAny _ _ (Builtin.Deque.size (.ref d) >>= fun n => retInt (n : Nat)) _ _ s
    refine wpAny_bind ?_
    unfold Builtin.Deque.size fieldsOf
    refine wpAny_bind (wpAny_bind (wpAny_load hd ?_))
    refine wpAny_pure (wpAny_pure (wpAny_bind (wpAny_mkInt (wpAny_pure ⟨_, rfl, ?_⟩))))
    refine wpAny_bind (wpAny_holding (wpAny_pure ?_))
    refine wpAny_bind (wpAny_letGo ?_)
    refine wpAny_bind (wpAny_mkInt (wpAny_pure ⟨⟨_, rfl⟩, _, rfl⟩))
  unfold truthy
  first
    | refine wpAny_bind (wpAny_callSpecial?_none (name := Str.ofString "__bool__") hT deq_noBool ?_)
    | refine wpAny_bind (wpAny_pure (wpAny_bind (wpAny_callSpecial?_none (name := Str.ofString "__bool__") hT deq_noBool ?_)))
  first
    | refine wpAny_bind (wpAny_specialOf (name := Str.ofString "__len__") hT deq_slot_len.lookup ?_)
    | refine wpAny_bind (wpAny_pure (wpAny_bind (wpAny_specialOf (name := Str.ofString "__len__") hT deq_slot_len.lookup ?_)))
  first
    | exact wpAny_bind (wpAny_mono key (fun r s' h' => by obtain ⟨⟨t, rfl⟩, tk, rfl⟩ := h'; exact wpAny_pure (h tk)) fun _ _ e => e)
    | exact wpAny_bind (wpAny_pure (wpAny_bind (wpAny_mono key (fun r s' h' => by obtain ⟨⟨t, rfl⟩, tk, rfl⟩ := h'; exact wpAny_pure (h tk)) fun _ _ e => e)))
theorem call_deq {Q : Value → Shared → Prop} {h₀ : Heap} {L : Addr} {m : Str → Option Value} {news : List (Addr × Obj)} (F : Fr h₀ L s.heap m) (N : News h₀ L s.heap news)
    (h : ∀ d h', Fr h₀ L h' m → News h₀ L h' ((d, deqObj) :: news) → (∀ p ∈ news, p.1 < d) → Q (.ref d) { s with heap := h' }) : wpAny (model prog w) A (call (.type "collections.deque") []) Q E s := by
  refine callType_meets (Q₁ := fun obj s₁ => obj = .ref s.heap.objs.size ∧ s₁ = { s with heap := s.heap.push deqObj }) deq_called deq_typeCall deq_newCall deq_entry_new deq_entry_init
    (S := fun _ R s => R (.ok (.ret (.ref s.heap.objs.size))) { s with heap := s.heap.push deqObj }) ?_ ?_ ?_
  · refine Meets.of_wp fun prog w A R s hs => ?_
    unfold Builtin.«collections.deque.__new__» Builtin.Deque.newArgs Builtin.Deque.new
    have hsub : isSubtype (.type "collections.deque") (.type Builtin.Deque.ty) = pure true := deq_sub
    obtain ⟨hp, g, d, tk, os⟩ := s
    wp_walk
    exact ⟨_, rfl, hs⟩
  · exact ⟨rfl, rfl⟩
  · rintro obj s₁ ⟨rfl, rfl⟩
    have hg : (s.heap.push deqObj).get? s.heap.objs.size = some deqObj := Heap.get?_push_size _ rfl
    refine ⟨⟨_, hg, rfl⟩, deq_args_init _, fun _ R s' => s' = { s with heap := s.heap.push deqObj } ∧ R (.ok (.ret .none)) { s' with heap := s'.heap.update s.heap.objs.size (Obj.mapFields fun x => x.setIfInBounds 0 .none) }, ?_, ⟨rfl, rfl, ?_⟩⟩
    · refine Meets.of_wp fun prog w A R s' hs => ?_
      obtain ⟨rfl, hs⟩ := hs
      unfold Builtin.«collections.deque.__init__»
      wp_walk
      exact ⟨_, rfl, hs⟩
    · have F₁ := F.push deqObj
      have N₁ := N.push F deqObj
      obtain ⟨F₂, N₂⟩ := news_upd (pre := []) (post := news) (f := Obj.mapFields fun x => x.setIfInBounds 0 .none) (o' := deqObj) F₁ N₁ (fun _ hp => nomatch hp) (fun p hp => Nat.ne_of_lt (Heap.lt_size (N p hp).1)) rfl rfl
      exact h _ _ F₂ N₂ fun p hp => Heap.lt_size (N p hp).1
end
end Mine
end
section
open PySem PySem.W PyProof.Rows
namespace Mine
/-! the one pattern's search -/
noncomputable def codeP : Array Nat := #[14, 17, 4, 1, 1, 21, 9, 0, 604043296, 1, 0, 0, 0, 0, 0, 8, 4, 0, 13, 14, 21, 9, 0, 604043296, 1, 0, 0, 0, 0, 0, 8, 4, 0, 1]
noncomputable def bitP (c : Nat) : Bool := c < 256 && (codeP.getD (6 + (1 + c / 32)) 0).testBit (c % 32)
noncomputable def unsafeC (c : Nat) : Bool := !(bitP c || Sre.isWord c)
theorem cat4 (c : Nat) : Sre.category 4 c = .ok (Sre.isWord c) := by
  unfold Sre.category
  simp [Except.map]
noncomputable def bitQ (c : Nat) : Bool := c < 256 && (codeP.getD (21 + (1 + c / 32)) 0).testBit (c % 32)
theorem tabs_eq : ∀ j : Nat, j < 8 → codeP.getD (21 + (1 + j)) 0 = codeP.getD (6 + (1 + j)) 0 := by decide
theorem bitQ_eq (c : Nat) : bitQ c = bitP c := by
  unfold bitQ bitP
  by_cases h : c < 256
  · rw [tabs_eq (c / 32) (by omega)]
  · simp [h]
theorem inSet5 (c : Nat) (seen : Sre.Seen) : ∃ s', Sre.inSet codeP c 34 5 true seen = .ok (unsafeC c, s') := by
  have e : ∃ s2 s3 s4, Sre.inSet codeP c 34 5 true seen = (if bitP c = true then .ok (false, s2) else (do if ← Sre.category 4 c then pure (false, s3) else .ok (true, s4))) := ⟨_, _, _, rfl⟩
  obtain ⟨s2, s3, s4, e⟩ := e
  rw [e]
  unfold unsafeC
  cases hb : bitP c with
  | true => exact ⟨s2, rfl⟩
  | false =>
    have hc := cat4 c
    rw [if_neg Bool.false_ne_true, hc]
    cases hw : Sre.isWord c with
    | true => exact ⟨s3, rfl⟩
    | false => exact ⟨s4, rfl⟩
theorem inSet20 (c : Nat) (seen : Sre.Seen) : ∃ s', Sre.inSet codeP c 34 20 true seen = .ok (unsafeC c, s') := by
  have e : ∃ s2 s3 s4, Sre.inSet codeP c 34 20 true seen = (if bitQ c = true then .ok (false, s2) else (do if ← Sre.category 4 c then pure (false, s3) else .ok (true, s4))) := ⟨_, _, _, rfl⟩
  obtain ⟨s2, s3, s4, e⟩ := e
  rw [e, bitQ_eq]
  unfold unsafeC
  cases hb : bitP c with
  | true => exact ⟨s2, rfl⟩
  | false =>
    have hc := cat4 c
    rw [if_neg Bool.false_ne_true, hc]
    cases hw : Sre.isWord c with
    | true => exact ⟨s3, rfl⟩
    | false => exact ⟨s4, rfl⟩
theorem admitted_spec (m : Sre.M) (hc : m.code = codeP) : ∀ (fuel s : Nat) (seen : Sre.Seen), m.lim = m.text.size → m.lim < fuel + s →
    ∃ s', ((m.text.toList.drop s).any unsafeC = false ∧ Sre.M.admitted m fuel s seen = .ok (none, s')) ∨ ∃ q, q < m.lim ∧ unsafeC (m.text.getD q 0) = true ∧ (m.text.toList.drop s).any unsafeC = true ∧ Sre.M.admitted m fuel s seen = .ok (some q, s')
  | 0, s, seen, hl, hf => ⟨seen, .inl ⟨by rw [List.drop_of_length_le (by simp; omega)]; rfl, rfl⟩⟩
  | fuel + 1, s, seen, hl, hf => by
    unfold Sre.M.admitted
    by_cases hs : s ≥ m.lim
    · rw [if_pos hs]
      exact ⟨seen, .inl ⟨by rw [List.drop_of_length_le (by simp; omega)]; rfl, rfl⟩⟩
    · rw [if_neg hs]
      have hlt : s < m.text.size := by omega
      obtain ⟨s1, h1⟩ := inSet5 (m.text.getD s 0) seen
      have hd : m.text.toList.drop s = m.text.getD s 0 :: m.text.toList.drop (s + 1) := by
        rw [List.drop_eq_getElem_cons (by simpa using hlt)]
        congr 1
        simp [Array.getD, hlt]
      rw [hc, show codeP.size = 34 from rfl, h1]
      cases hu : unsafeC (m.text.getD s 0) with
      | true =>
        exact ⟨s1, .inr ⟨s, by omega, hu, by rw [hd, List.any_cons, hu]; rfl, rfl⟩⟩
      | false =>
        obtain ⟨s', h⟩ := admitted_spec m hc fuel (s + 1) s1 hl (by omega)
        rw [hd, List.any_cons, hu, Bool.false_or]
        exact ⟨s', h⟩
/-- what the machine comes to -/
noncomputable abbrev m0 (x : Array Nat) : Sre.M := { code := codeP, text := x, lim := x.size, start := 0, lastStart := x.size, pc := 18, pos := 0, handed := 0, marks := #[], mustAdvance := false, seen := ({} : Sre.Seen).add 14 }
theorem forSearch_is {x : Array Nat} (hx : 0 < x.size) : Sre.forSearch codeP x 0 0 x.size false = Sre.M.attemptFrom (m0 x) 0 true := by
  have e : ∃ r, Sre.forSearch codeP x 0 0 x.size false = (if (decide (0 > x.size) || decide (x.size - 0 < 1)) = true then r else Sre.M.attemptFrom (m0 x) 0 true) := ⟨_, rfl⟩
  obtain ⟨r, e⟩ := e
  rw [e, if_neg]
  intro hcon
  simp only [Bool.or_eq_true, decide_eq_true_eq] at hcon
  omega
theorem search_fail {x : Array Nat} (h : x.toList.any unsafeC = false) (hx : 0 < x.size) : ((Sre.forSearch codeP x 0 0 x.size false).runFor 4).outcome = some .failed := by
  rw [forSearch_is hx]
  obtain ⟨s', h1 | ⟨q, _, _, h2, _⟩⟩ := admitted_spec (m0 x) rfl ((m0 x).lim + 1 - 0) 0 (m0 x).seen rfl (by show x.size < x.size + 1 - 0 + 0; omega)
  · have e : Sre.M.attemptFrom (m0 x) 0 true = Sre.M.say { m0 x with seen := s' } false := by
      unfold Sre.M.attemptFrom
      rw [h1.2]
      rfl
    rw [e]
    rfl
  · rw [show (m0 x).text.toList.drop 0 = x.toList from rfl, h] at h2; cases h2
theorem search_hit {x : Array Nat} (h : x.toList.any unsafeC = true) (hx : 0 < x.size) : ((Sre.forSearch codeP x 0 0 x.size false).runFor 4).outcome = some .matched := by
  rw [forSearch_is hx]
  obtain ⟨s', h1 | ⟨q, hq, hu, h2, h3⟩⟩ := admitted_spec (m0 x) rfl ((m0 x).lim + 1 - 0) 0 (m0 x).seen rfl (by show x.size < x.size + 1 - 0 + 0; omega)
  · rw [show (m0 x).text.toList.drop 0 = x.toList from rfl, h] at h1; cases h1.1
  · have e : Sre.M.attemptFrom (m0 x) 0 true = { m0 x with start := q, pos := q, handed := q, frames := [{ wait := .nextStart, pc := 18, pos := q, outermost := true }], weight := 1, seen := s' } := by
      unfold Sre.M.attemptFrom
      rw [h3]
      rfl
    rw [e]
    obtain ⟨s2, h4⟩ := inSet20 (x.getD q 0) (s'.add 13)
    rw [show unsafeC (x.getD q 0) = true from hu] at h4
    have st1 : Sre.M.step { m0 x with start := q, pos := q, handed := q, frames := [{ wait := .nextStart, pc := 18, pos := q, outermost := true }], weight := 1, seen := s' } =
        { m0 x with start := q, pos := q + 1, handed := q, pc := 33, frames := [{ wait := .nextStart, pc := 18, pos := q, outermost := true }], weight := 1, seen := s2 } := by
      have e1 : Sre.M.step { m0 x with start := q, pos := q, handed := q, frames := [{ wait := .nextStart, pc := 18, pos := q, outermost := true }], weight := 1, seen := s' } =
        (if q ≥ x.size then _ else match Sre.inSet codeP (x.getD q 0) 34 20 true (s'.add 13) with
          | .error why => _
          | .ok (false, seen) => _
          | .ok (true, seen) => { m0 x with start := q, pos := q + 1, handed := q, pc := 33, frames := [{ wait := .nextStart, pc := 18, pos := q, outermost := true }], weight := 1, seen := seen }) := rfl
      rw [e1, if_neg (Nat.not_le.mpr hq), h4]
    show (Sre.M.runFor 3 (Sre.M.step _)).outcome = _
    rw [st1]
    rfl
/-! the call of the bound method -/
noncomputable abbrev boundSearch (P : Addr) : Obj := { cls := .type "builtin_function_or_method", data := .fields #[.builtin "re.Pattern.search", .ref P] }
noncomputable abbrev patObj (src fl : Value) (C : Addr) : Obj := { cls := .type "re.Pattern", data := .fields #[src, fl, .int 0 0, .none, .none, .ref C, .int 0 0] }
noncomputable abbrev codeVals : Array Value := #[.int 14 0, .int 17 0, .int 4 0, .int 1 0, .int 1 0, .int 21 0, .int 9 0, .int 0 0, .int 604043296 0, .int 1 0, .int 0 0, .int 0 0, .int 0 0, .int 0 0, .int 0 0, .int 8 0, .int 4 0, .int 0 0, .int 13 0, .int 14 0, .int 21 0, .int 9 0, .int 0 0, .int 604043296 0, .int 1 0, .int 0 0, .int 0 0, .int 0 0, .int 0 0, .int 0 0, .int 8 0, .int 4 0, .int 0 0, .int 1 0]
noncomputable abbrev codeTup (n : Nat) : Obj := { cls := .type "tuple", data := .seq codeVals n }
theorem entry_search : entryFor table "re.Pattern.search" = some Builtin.«re.Pattern.search» := entryFor_of_tree (by kernel_rfl)
theorem plain_search : plainId "re.Pattern.search" = true := by decide +kernel
section
variable {prog : Program} {w : World} {A : Around} {E : Value → Shared → Prop} {s : Shared}
theorem named_ok (x : Str) (t : Tok) : Builtin.Re.reNamed "re.Pattern.search" "search" ["string", "pos", "endpos"] 1 [.str x t] [] = pure [some (.str x t), none, none] := by kernel_rfl
theorem rules_ok {m : Sre.M} {Q : PUnit → Shared → Prop} (h : Q ⟨⟩ s) : ∀ l : List Nat, wpAny (model prog w) A (forIn l PUnit.unit fun i _ => if m.seen.has i = true then rule (Sre.names.getD i "") >>= fun _ => pure (ForInStep.yield PUnit.unit) else pure (ForInStep.yield PUnit.unit)) Q E s
  | [] => wpAny_pure h
  | i :: r => by
    rw [List.forIn_cons]
    refine wpAny_bind ?_
    split
    · exact wpAny_bind (wpAny_rule (wpAny_pure (rules_ok h r)))
    · exact wpAny_pure (rules_ok h r)
theorem drive_done {m : Sre.M} (n : Nat) (h : (m.runFor 4).outcome.isSome = true) : Builtin.Re.reDrive (n + 1) m = pure (m.runFor 4) := by
  show (if (m.runFor Builtin.Re.reTurnSteps).outcome.isSome = true then pure (m.runFor Builtin.Re.reTurnSteps) else _) = _
  rw [if_pos (show (m.runFor Builtin.Re.reTurnSteps).outcome.isSome = true from h)]
  rfl
theorem pow64 : (2 : Nat) ^ 64 = 18446744073709551615 + 1 := by decide
theorem search_tree {P C : Addr} {src fl : Value} {n : Nat} {x : Str} {t : Tok} {Q : Fin → Shared → Prop} (hx : 0 < x.length) (hl : x.length ≤ 16777216)
    (hp : s.heap.get? P = some (patObj src fl C)) (hc : s.heap.get? C = some (codeTup n))
    (h0 : x.cps.toList.any unsafeC = false → Q (.done (.ret .none)) s)
    (h1 : x.cps.toList.any unsafeC = true → ∀ (o1 o2 : Obj), o1.isFreed = false → o2.isFreed = false → Q (.done (.ret (.ref (s.heap.push o1).objs.size))) { s with heap := (s.heap.push o1).push o2 }) :
    wpAny (model prog w) A (Builtin.«re.Pattern.search» ⟨[.ref P, .str x t], []⟩) Q E s := by
  unfold Builtin.«re.Pattern.search» Builtin.Re.reTarget
  refine wpAny_bind ?_
  dsimp only
  refine wpAny_bind (wpAny_of_eq (named_ok x t) ?_)
  dsimp only
  refine wpAny_bind (wpAny_pure (wpAny_bind (wpAny_pure ?_)))
  unfold fieldsOf
  refine wpAny_bind (wpAny_bind (wpAny_load hp (wpAny_pure ?_)))
  refine wpAny_bind (wpAny_of_eq (a := (x.cps, 0)) rfl ?_)
  dsimp only
  refine KFB.if_not rfl (KFB.if_not rfl ?_)
  refine wpAny_bind (wpAny_of_eq (a := ()) rfl ?_)
  unfold Builtin.Re.reRawItems
  refine wpAny_bind (wpAny_bind ?_)
  show wpAny _ _ (seqItems? (.ref C)) _ _ _
  unfold seqItems?
  refine wpAny_bind (wpAny_load hc (wpAny_pure (wpAny_pure (wpAny_pure ?_))))
  have e3 : Array.map (fun z : Int => z.toNat) (Array.map Builtin.Re.reRawOf ((some codeVals).getD #[])) = codeP := by decide +kernel
  have e2 : min (2 ^ 63 - 1 : Int).toNat x.cps.size = x.cps.size := by
    have : (2 ^ 63 - 1 : Int).toNat = 9223372036854775807 := by decide
    have hl' : x.cps.size ≤ 16777216 := hl
    rw [this]; omega
  have e1 : min (0 : Int).toNat x.cps.size = 0 := Nat.zero_min _
  dsimp only
  rw [e3, e2, e1]
  unfold Builtin.Re.reAnswer Builtin.Re.reRunToEnd
  show wpAny _ _ ((Builtin.Re.reDrive (2 ^ 64) (Sre.forSearch codeP x.cps 0 0 x.cps.size false) >>= fun m => _) >>= _) _ _ _
  rw [pow64]
  cases hu : x.cps.toList.any unsafeC with
  | false =>
    have ho := search_fail hu hx
    rw [drive_done _ (by rw [ho]; rfl)]
    refine wpAny_bind (wpAny_bind (wpAny_pure ?_))
    refine wpAny_bind (rules_ok ?_ _)
    dsimp only
    rw [ho]
    exact wpAny_pure (wpAny_pure (h0 hu))
  | true =>
    have ho := search_hit hu hx
    rw [drive_done _ (by rw [ho]; rfl)]
    refine wpAny_bind (wpAny_bind (wpAny_pure ?_))
    refine wpAny_bind (rules_ok ?_ _)
    dsimp only
    rw [ho]
    refine wpAny_pure ?_
    show wpAny _ _ (Builtin.Re.reNewMatch (.ref P) (.str x t) 0 0 x.cps.size _ >>= fun v => ret v) _ _ _
    generalize Sre.M.runFor 4 (Sre.forSearch codeP x.cps 0 0 x.cps.size false) = mm
    unfold Builtin.Re.reNewMatch
    refine wpAny_bind ?_
    show wpAny _ _ (newTuple [rawInt mm.start, rawInt mm.handed] >>= fun tv => newFields "re.Match" [.str x t, .ref P, rawInt (0 : Nat), rawInt (x.cps.size : Nat), rawInt mm.lastindex, tv]) _ _ _
    refine wpAny_bind (wpAny_newObj_type ?_)
    unfold newFields
    refine wpAny_newObj_type ?_
    exact wpAny_pure (h1 hu _ _ rfl rfl)
end
end Mine
end
section
open PySem PySem.W PyProof.Rows
namespace Mine
/-! texts as lists of signs -/
noncomputable def ofL (l : List Nat) : Str := ⟨l.toArray⟩
theorem ofL_toL (l : List Nat) : (ofL l).cps.toList = l := rfl
theorem toL_ofL (x : Str) : ofL x.cps.toList = x := by cases x; rfl
theorem ofL_len (l : List Nat) : (ofL l).length = l.length := rfl
theorem ofL_append (a b : List Nat) : ofL a ++ ofL b = ofL (a ++ b) := by
  show Str.mk (a.toArray ++ b.toArray) = Str.mk (a ++ b).toArray
  rw [List.append_toArray]
theorem Str_ext {x y : Str} (h : x.cps.toList = y.cps.toList) : x = y := by
  rw [← toL_ofL x, ← toL_ofL y, h]
noncomputable def sub1 (c : Nat) (z l : List Nat) : List Nat := l.flatMap fun k => if k = c then z else [k]
theorem sub1_append (c : Nat) (z a b : List Nat) : sub1 c z (a ++ b) = sub1 c z a ++ sub1 c z b := List.flatMap_append
theorem sub1_free (c : Nat) (z : List Nat) : ∀ l : List Nat, c ∉ l → sub1 c z l = l
  | [], _ => rfl
  | k :: r, h => by
    have h1 : ¬ k = c := fun e => h (e ▸ List.mem_cons_self ..)
    have h2 : c ∉ r := fun m => h (List.mem_cons_of_mem _ m)
    show (if k = c then z else [k]) ++ sub1 c z r = _
    rw [if_neg h1, sub1_free c z r h2]; rfl
theorem sub1_join (c : Nat) (z : Str) : ∀ parts : List Str, (∀ p ∈ parts, c ∉ p.cps.toList) → sub1 c z.cps.toList (Str.join ⟨#[c]⟩ parts).cps.toList = (Str.join z parts).cps.toList
  | [], _ => rfl
  | [p], h => sub1_free c _ _ (h p (List.mem_singleton.mpr rfl))
  | p :: q :: r, h => by
    have ih := sub1_join c z (q :: r) fun a ha => h a (List.mem_cons_of_mem _ ha)
    show sub1 c z.cps.toList (p ++ ⟨#[c]⟩ ++ Str.join ⟨#[c]⟩ (q :: r)).cps.toList = (p ++ z ++ Str.join z (q :: r)).cps.toList
    simp only [Str.cps_append, Array.toList_append]
    rw [sub1_append, sub1_append, ih, sub1_free c _ _ (h p (List.mem_cons_self ..))]
    show _ ++ sub1 c _ [c] ++ _ = _
    rw [show sub1 c z.cps.toList [c] = z.cps.toList from by simp [sub1]]
theorem replace_sub (x z : Str) (c : Nat) : Txt.replace x ⟨#[c]⟩ z = ofL (sub1 c z.cps.toList x.cps.toList) := by
  refine Str_ext ?_
  rw [ofL_toL, StrLaws.replace_one, ← sub1_join c z _ (StrLaws.split_free x c), StrLaws.join_split]
theorem sub1_len (c : Nat) (z : List Nat) (n : Nat) (hn : 1 ≤ n) (hz : z.length ≤ n) : ∀ l : List Nat, (sub1 c z l).length ≤ n * l.length
  | [] => Nat.zero_le _
  | k :: r => by
    show ((if k = c then z else [k]) ++ sub1 c z r).length ≤ _
    have ih := sub1_len c z n hn hz r
    rw [List.length_append, List.length_cons, Nat.mul_add, Nat.mul_one]
    split
    · omega
    · simp only [List.length_cons, List.length_nil]; omega
/-- html.escape, sign by sign -/
noncomputable def escC (q : Bool) (k : Nat) : List Nat :=
  if k = 38 then [38, 97, 109, 112, 59] else if k = 60 then [38, 108, 116, 59] else if k = 62 then [38, 103, 116, 59]
  else if q = true ∧ k = 34 then [38, 113, 117, 111, 116, 59] else if q = true ∧ k = 39 then [38, 35, 120, 50, 55, 59] else [k]
noncomputable def escL (q : Bool) (l : List Nat) : List Nat := l.flatMap (escC q)
theorem flat_flat {f g : Nat → List Nat} (l : List Nat) : (l.flatMap f).flatMap g = l.flatMap fun k => (f k).flatMap g := List.flatMap_assoc
theorem esc3 (l : List Nat) : sub1 62 [38, 103, 116, 59] (sub1 60 [38, 108, 116, 59] (sub1 38 [38, 97, 109, 112, 59] l)) = escL false l := by
  unfold sub1 escL
  rw [flat_flat, flat_flat]
  congr 1; funext k
  unfold escC
  by_cases h1 : k = 38; · subst h1; rfl
  by_cases h2 : k = 60; · subst h2; rfl
  by_cases h3 : k = 62; · subst h3; rfl
  simp [h1, h2, h3]
theorem esc5 (l : List Nat) : sub1 39 [38, 35, 120, 50, 55, 59] (sub1 34 [38, 113, 117, 111, 116, 59] (escL false l)) = escL true l := by
  unfold sub1 escL
  rw [flat_flat, flat_flat]
  congr 1; funext k
  unfold escC
  by_cases h1 : k = 38; · subst h1; rfl
  by_cases h2 : k = 60; · subst h2; rfl
  by_cases h3 : k = 62; · subst h3; rfl
  by_cases h4 : k = 34; · subst h4; rfl
  by_cases h5 : k = 39; · subst h5; rfl
  simp [h1, h2, h3, h4, h5]
theorem flat_len {f : Nat → List Nat} {n : Nat} (hf : ∀ k, (f k).length ≤ n) : ∀ l : List Nat, (l.flatMap f).length ≤ n * l.length
  | [] => Nat.zero_le _
  | k :: r => by
    have ih := flat_len hf r
    have := hf k
    rw [List.flatMap_cons, List.length_append, List.length_cons, Nat.mul_add, Nat.mul_one]; omega
theorem escC_len (q : Bool) (k : Nat) : (escC q k).length ≤ 6 := by
  unfold escC
  (repeat' split) <;> simp
theorem escL_len (q : Bool) (l : List Nat) : (escL q l).length ≤ 6 * l.length := flat_len (escC_len q) l
/-- shlex.quote -/
noncomputable def qt (l : List Nat) : List Nat := if l = [] then [39, 39] else if l.any unsafeC then 39 :: (sub1 39 [39, 34, 39, 34, 39] l ++ [39]) else l
theorem qt_len (l : List Nat) : (qt l).length ≤ 5 * l.length + 2 := by
  unfold qt
  split
  · simp
  · split
    · have := sub1_len 39 [39, 34, 39, 34, 39] 5 (by decide) (by decide) l
      simp only [List.length_cons, List.length_append, List.length_nil]; omega
    · omega
theorem ofS_apos : Str.ofString "'" = ofL [39] := by decide
theorem ofS_qapos : Str.ofString "'\"'\"'" = ofL [39, 34, 39, 34, 39] := by decide
theorem ofS_two : Str.ofString "''" = ofL [39, 39] := by decide
theorem replace_lit {x y z : Str} {c : Nat} {zl : List Nat} (hy : y = ofL [c]) (hz : z = ofL zl) : Txt.replace x y z = ofL (sub1 c zl x.cps.toList) := by
  subst hy; subst hz; exact replace_sub x (ofL zl) c
section
variable {prog : Program} {w : World} {A : Around} {E : Value → Shared → Prop} {s : Shared} {x y z : Str} {t u v : Tok} {Q : Value → Shared → Prop}
/-- str.replace, the tokens' count told -/
theorem replace_mono (hu : u ≠ 0) (hv : v ≠ 0) (huv : u ≠ v) (hyz : (y == z) = false) (hx : x.length ≤ 1000000) (hz : z.length ≤ 14)
    (hq : ∀ t' k, s.toks ≤ k → Q (.str (Txt.replace x y z) t') { s with toks := k }) : wpAny (model prog w) A (call (.builtin "str.replace") [.str x t, .str y u, .str z v]) Q E s := by
  have hb : x.length + (x.length + 1) * z.length ≤ 16777216 := by
    have h1 : (x.length + 1) * z.length ≤ (x.length + 1) * 14 := Nat.mul_le_mul_left _ hz
    omega
  have hl : Builtin.Str.tooLong (x.length + (Builtin.Str.occurrences x y 0 x.length (x.length + 1)).length * z.length) = false := by
    have h1 := StrLaws.occ_length_le x y 0 x.length (x.length + 1)
    have h2 := Nat.mul_le_mul_right z.length h1
    unfold Builtin.Str.tooLong
    rw [sizeLine_eq]
    exact decide_eq_false (by omega)
  refine call_gives PySem.F.slot_str_replace (typeIs_str _ _ _) PySem.F.entry_str_replace (PySem.F.args_str_replace_3 _ _ _)
    (gives_str_replace x y z t u v fun _ => ⟨by simp [hu, hv], by simp [huv], hyz, hl⟩) ?_
  unfold Txt.replace at hq
  split at hq
  · rename_i hc
    rw [if_pos hc]
    exact hq t s.toks (Nat.le_refl _)
  · rename_i hc
    rw [if_neg hc]
    exact ⟨fits_replaced y hb, hq _ _ (Nat.le_succ _)⟩
end
noncomputable def safeS : Str := Str.ofString "abcdefghijklmnopqrstuvwxyzABCDEFGHIJKLMNOPQRSTUVWXYZ0123456789_@%+=:,./-"
noncomputable def inS' (c : Nat) (y : Str) : Bool := decide (c ∈ y.cps.toList)
theorem safe_small : ∀ c : Nat, c < 128 → inS' c safeS = !unsafeC c := by decide +kernel
theorem safe_all : ∀ c ∈ safeS.cps.toList, c < 128 := by decide +kernel
theorem tab_big : ∀ j : Nat, j < 8 → 4 ≤ j → codeP.getD (6 + (1 + j)) 0 = 0 := by decide
theorem safe_unsafe (c : Nat) : inS' c safeS = !unsafeC c := by
  by_cases h : c < 128
  · exact safe_small c h
  · have h1 : inS' c safeS = false := decide_eq_false fun hm => h (safe_all c hm)
    have h2 : bitP c = false := by
      unfold bitP
      by_cases h5 : c < 256
      · rw [tab_big (c / 32) (by omega) (by omega)]; simp
      · simp [h5]
    have h3 : Sre.isWord c = false := by
      unfold Sre.isWord Sre.isDigit
      simp only [Bool.or_eq_false_iff, Bool.and_eq_false_iff, decide_eq_false_iff_not, beq_eq_false_iff_ne]
      omega
    rw [h1]; unfold unsafeC; rw [h2, h3]; rfl
/-- the law's own test -/
noncomputable def isSafe (l : List Nat) : Bool := !l.isEmpty && !l.any unsafeC
noncomputable def joinL (z : List Nat) : List (List Nat) → List Nat
  | [] => []
  | [x] => x
  | x :: y :: r => x ++ z ++ joinL z (y :: r)
theorem join_ofL (z : List Nat) : ∀ ls : List (List Nat), Str.join (ofL z) (ls.map ofL) = ofL (joinL z ls)
  | [] => rfl
  | [x] => rfl
  | x :: y :: r => by
    have ih := join_ofL z (y :: r)
    show ofL x ++ ofL z ++ Str.join (ofL z) ((y :: r).map ofL) = ofL (x ++ z ++ joinL z (y :: r))
    rw [ih, ofL_append, ofL_append]
theorem joinT_ofL (z : List Nat) (ls : List (List Nat)) : Txt.join (ofL z) (ls.map ofL) = ofL (joinL z ls) := by
  unfold Txt.join
  rw [StrLaws.glued_eq_join, join_ofL]
theorem joinL_nil : ∀ ls : List (List Nat), joinL [] ls = ls.flatten
  | [] => rfl
  | [x] => by simp [joinL]
  | x :: y :: r => by
    show x ++ [] ++ joinL [] (y :: r) = _
    rw [joinL_nil (y :: r)]; simp
theorem ofS_nil : Str.ofString "" = ofL [] := by decide
theorem ofS_sp : Str.ofString " " = ofL [32] := by decide
end Mine
end
section
open PySem PySem.W PyProof.Rows PyProof.V PySem.Spec
namespace Mine
/-! lists of texts compared -/
theorem st_canLay : ∀ ns : List Str, (∀ x ∈ ns, PyData.strOk x = true) → PyData.canLayAll0 (ns.map PyData.str) = true
  | [], _ => rfl
  | x :: r, h => by simp [PyData.canLayAll0, PyData.canLay0, st_canLay r fun y hy => h y (.tail _ hy), h x (.head _)]
theorem st_depth : ∀ ns : List Str, PyData.depthAll (ns.map PyData.str) = 0
  | [] => rfl
  | _ :: r => by simp [PyData.depthAll, PyData.depth, st_depth r]
theorem st_shaped (ns : List Str) (h : ∀ x ∈ ns, PyData.strOk x = true) : SeqAt.shaped (.list (ns.map PyData.str)) = true := by
  simp [SeqAt.shaped, PyData.canLay0, PyData.depth, st_canLay ns h, st_depth]
theorem st_same : ∀ ns ms : List Str, PySem.Spec.sameAll (ns.map PyData.str) (ms.map PyData.str) = decide (ns = ms)
  | [], [] => by simp [PySem.Spec.sameAll]
  | [], _ :: _ => by simp [PySem.Spec.sameAll]
  | _ :: _, [] => by simp [PySem.Spec.sameAll]
  | a :: r, b :: t => by
    simp only [List.map_cons, PySem.Spec.sameAll, PySem.Spec.same, st_same r t]
    by_cases h : a = b <;> by_cases h' : r = t <;> simp [h, h']
section
variable {prog : Program} {w : World} {A : Around} {E : Value → Shared → Prop} {s : Shared} {a b : Addr} {xs ys : List Value} {ns ms : List Str} {Q : Value → Shared → Prop}
theorem eq_strs (ha : s.heap.IsList a xs.toArray) (hb : s.heap.IsList b ys.toArray) (hi : StrsAre xs ns) (hj : StrsAre ys ms) (oi : ∀ x ∈ ns, PyData.strOk x = true) (oj : ∀ x ∈ ms, PyData.strOk x = true) (hu : A.units + 64 < cLine) (h : Q (.bool (decide (ns = ms))) s) :
    wpAny (model prog w) A (compareOp .Eq (.ref a) (.ref b)) Q E s :=
  eq_dataH_same (reads_newData ha hi.carried) (reads_newData hb hj.carried) (st_shaped _ oi) (st_shaped _ oj) hu (SeqAt.noMix_of_shape (.list .str) rfl _ _ (list_map_has fun _ => rfl) (list_map_has fun _ => rfl)) (by simp only [PySem.Spec.same]; rw [st_same]; exact h)
theorem ne_strs (ha : s.heap.IsList a xs.toArray) (hb : s.heap.IsList b ys.toArray) (hi : StrsAre xs ns) (hj : StrsAre ys ms) (oi : ∀ x ∈ ns, PyData.strOk x = true) (oj : ∀ x ∈ ms, PyData.strOk x = true) (hu : A.units + 64 < cLine) (h : Q (.bool (!decide (ns = ms))) s) :
    wpAny (model prog w) A (compareOp .NotEq (.ref a) (.ref b)) Q E s :=
  ne_dataH_same (reads_newData ha hi.carried) (reads_newData hb hj.carried) (st_shaped _ oi) (st_shaped _ oj) hu (SeqAt.noMix_of_shape (.list .str) rfl _ _ (list_map_has fun _ => rfl) (list_map_has fun _ => rfl)) (by simp only [PySem.Spec.same]; rw [st_same]; exact h)
end
/-! a comprehension over a text's signs -/
open LCg LCt
section
variable {prog : Program} {w : World} {A : Around} {E : Value → Shared → Prop} {s : Shared} {h₀ : Heap} {L : Addr} {m : Str → Option Value} {env : Env}
noncomputable def TxSrc (prog : Program) (w : World) (A : Around) (h₀ : Heap) (L : Addr) (m : Str → Option Value) (env : Env) (elt : Expr) (x : Str) (scope : Scope) (cl : List (Str × Addr)) (Fin : Shared → List Value → List (Addr × Obj) → Prop) (xv : Value) (s₁ : Shared) : Prop :=
  ∃ y t news, xv = .str y t ∧ A.handled = none ∧ Fr h₀ L s₁.heap m ∧ News h₀ L s₁.heap news ∧ y.cps.size ≤ sizeLine ∧
    ∀ s₂ : Shared, (∃ h, s₂ = { s₁ with heap := h }) → CompRest prog w A h₀ L m env elt x scope cl s₂ (fun _ => True) (SignAt y) (Fin s₂) y.cps.size 0 [] news
noncomputable def TxSrcT (prog : Program) (w : World) (A : Around) (h₀ : Heap) (L : Addr) (m : Str → Option Value) (env : Env) (ct elt : Expr) (x : Str) (scope : Scope) (cl : List (Str × Addr)) (Fin : Shared → List Value → List (Addr × Obj) → Prop) (xv : Value) (s₁ : Shared) : Prop :=
  ∃ y t news, xv = .str y t ∧ A.handled = none ∧ Fr h₀ L s₁.heap m ∧ News h₀ L s₁.heap news ∧ y.cps.size ≤ sizeLine ∧
    ∀ s₂ : Shared, (∃ h, s₂ = { s₁ with heap := h }) → CompRestT prog w A h₀ L m env ct elt x scope cl s₂ (fun _ => True) (SignAt y) (Fin s₂) y.cps.size 0 [] news
theorem strIter_has {I : Addr} {T : String} {y : Str} {t : Tok} (i : Nat) (h : Heap) (st : h.IsStrIter I T y t i) : ∃ o, h.get? I = some o := by obtain ⟨o, e, _⟩ := st; exact ⟨o, e⟩
theorem strIter_st {I : Addr} {T : String} {y : Str} {t : Tok} (i : Nat) (h h' : Heap) (o : Obj) (nw : List (Addr × Obj)) (st : h.IsStrIter I T y t i) (e : h.get? I = some o) (e' : h'.get? I = some o)
    (_ : ∀ b o, h₀.get? b = some o → h'.get? b = some o) (_ : News h₀ L h' nw) (_ : (fun _ : List (Addr × Obj) => True) nw) : h'.IsStrIter I T y t i := by
  obtain ⟨o', e₁, r⟩ := st
  rw [e] at e₁
  cases e₁
  exact ⟨o, e', r⟩
theorem fin_back {scope : Scope} {s₂ : Shared} {Q : Value → Shared → Prop} {D C : Addr} {h : Heap} {tk : Nat} {ys : List Value} {news' : List (Addr × Obj)}
    (F' : Fr h₀ L h m) (N' : News h₀ L h ((D, lst ys) :: news')) (o1 : Off1 D news') (hC₀ : h₀.get? C = none) (hCL : C ≠ L) (hCD : C ≠ D) (offC : ∀ p ∈ news', p.1 ≠ C) (fin : FinE h₀ L m s₂ Q ys news') :
    ∀ h'', Heap.SameBut C h h'' → Q (.ref D) { s₂ with heap := h'', toks := tk } := fun h'' hs'' => by
  refine fin D h'' tk (F'.change hs'' hCL hC₀) (fun p hp => ⟨hs''.extBut _ _ ?_ (N' p hp).1, (N' p hp).2⟩) o1
  rcases List.mem_cons.mp hp with rfl | hp
  · exact Ne.symm hCD
  · exact offC p hp
theorem ListComp_tx {elt iter : Expr} {x : Str} {px : Pos} {scope : Scope} {cl : List (Str × Addr)} {pos : Pos} {Q : Value → Shared → Prop} (_F₀ : Fr h₀ L s.heap m)
    (hclos : closureFor scope env = pure cl) (hcell : ∀ y ∈ scope.names, y.2 ≠ .cell) (hkind : scope.kind = .function)
    (hnames : ∀ y ∈ scope.names, y.2 = .local → scope.names.lookup y.1 = some .local) (hx : scope.names.lookup x = some .local)
    (h : wpAny (model prog w) A (eval iter env) (TxSrc prog w A h₀ L m env elt x scope cl (fun s₂ => FinE h₀ L m s₂ Q)) E s)
    (hs : ∀ x, foldedSetIterable iter env x = pure x := by intro _; rfl) :
    wpAny (model prog w) A (eval (.ListComp elt [⟨.Name x px, iter, [], 0⟩] scope pos) env) Q E s := by
  rw [eval_ListComp]
  refine wpAny_comprehension_free (use := none) rfl hs hclos hkind hnames (wpAny_mono h (fun xv s₁ h₁ => ?_) fun _ _ e => e)
  obtain ⟨y, t, news, rfl, hh, F, N, hsz, R⟩ := h₁
  have hlt : ∀ o, ∀ b ∈ [s₁.heap.objs.size], b < (s₁.heap.push o).objs.size := fun o b hb => by
    rw [List.mem_singleton.mp hb, Heap.size_push]; exact Nat.lt_succ_self _
  cases ha : y.cps.all (· < 128)
  · refine wpAny_pyIter_wide ha ?_
    refine block_U (Walks.strWide hh s₁.heap.objs.size y t) hsz strIter_has strIter_st hcell hkind hx ⟨_, Heap.get?_push_size _ rfl, rfl, rfl⟩ (hlt _) (F.push _) (N.grown fun b o e => Heap.get?_push_of_some _ e) (Nat.ne_of_lt F.ns.lt) (next_is_new F) (fun p hp => Nat.ne_of_lt (Heap.lt_size (N p hp).1)) trivial (R _ ⟨_, rfl⟩) ?_
    intro D C h tk m' ys news' F' N' o1 hn hC₀ hD₀ hCL hDL hCD offC fin
    exact ⟨m', hn, fin_back (scope := scope) F' N' o1 hC₀ hCL hCD offC fin⟩
  · refine wpAny_pyIter_ascii ha ?_
    refine block_U (Walks.strAscii hh s₁.heap.objs.size y t) hsz strIter_has strIter_st hcell hkind hx ⟨_, Heap.get?_push_size _ rfl, rfl, rfl⟩ (hlt _) (F.push _) (N.grown fun b o e => Heap.get?_push_of_some _ e) (Nat.ne_of_lt F.ns.lt) (next_is_new F) (fun p hp => Nat.ne_of_lt (Heap.lt_size (N p hp).1)) trivial (R _ ⟨_, rfl⟩) ?_
    intro D C h tk m' ys news' F' N' o1 hn hC₀ hD₀ hCL hDL hCD offC fin
    exact ⟨m', hn, fin_back (scope := scope) F' N' o1 hC₀ hCL hCD offC fin⟩
theorem ListComp_txT {ct elt iter : Expr} {x : Str} {px : Pos} {scope : Scope} {cl : List (Str × Addr)} {pos : Pos} {Q : Value → Shared → Prop} (_F₀ : Fr h₀ L s.heap m)
    (hclos : closureFor scope env = pure cl) (hcell : ∀ y ∈ scope.names, y.2 ≠ .cell) (hkind : scope.kind = .function)
    (hnames : ∀ y ∈ scope.names, y.2 = .local → scope.names.lookup y.1 = some .local) (hx : scope.names.lookup x = some .local)
    (h : wpAny (model prog w) A (eval iter env) (TxSrcT prog w A h₀ L m env ct elt x scope cl (fun s₂ => FinE h₀ L m s₂ Q)) E s)
    (hs : ∀ x, foldedSetIterable iter env x = pure x := by intro _; rfl) :
    wpAny (model prog w) A (eval (.ListComp elt [⟨.Name x px, iter, [ct], 0⟩] scope pos) env) Q E s := by
  rw [eval_ListComp]
  refine wpAny_comprehension_free (use := none) rfl hs hclos hkind hnames (wpAny_mono h (fun xv s₁ h₁ => ?_) fun _ _ e => e)
  obtain ⟨y, t, news, rfl, hh, F, N, hsz, R⟩ := h₁
  have hlt : ∀ o, ∀ b ∈ [s₁.heap.objs.size], b < (s₁.heap.push o).objs.size := fun o b hb => by
    rw [List.mem_singleton.mp hb, Heap.size_push]; exact Nat.lt_succ_self _
  cases ha : y.cps.all (· < 128)
  · refine wpAny_pyIter_wide ha ?_
    refine block_T (Walks.strWide hh s₁.heap.objs.size y t) hsz strIter_has strIter_st hcell hkind hx ⟨_, Heap.get?_push_size _ rfl, rfl, rfl⟩ (hlt _) (F.push _) (N.grown fun b o e => Heap.get?_push_of_some _ e) (Nat.ne_of_lt F.ns.lt) (next_is_new F) (fun p hp => Nat.ne_of_lt (Heap.lt_size (N p hp).1)) trivial (R _ ⟨_, rfl⟩) ?_
    intro D C h tk m' ys news' F' N' o1 hn hC₀ hD₀ hCL hDL hCD offC fin
    exact ⟨m', hn, fin_back (scope := scope) F' N' o1 hC₀ hCL hCD offC fin⟩
  · refine wpAny_pyIter_ascii ha ?_
    refine block_T (Walks.strAscii hh s₁.heap.objs.size y t) hsz strIter_has strIter_st hcell hkind hx ⟨_, Heap.get?_push_size _ rfl, rfl, rfl⟩ (hlt _) (F.push _) (N.grown fun b o e => Heap.get?_push_of_some _ e) (Nat.ne_of_lt F.ns.lt) (next_is_new F) (fun p hp => Nat.ne_of_lt (Heap.lt_size (N p hp).1)) trivial (R _ ⟨_, rfl⟩) ?_
    intro D C h tk m' ys news' F' N' o1 hn hC₀ hD₀ hCL hDL hCD offC fin
    exact ⟨m', hn, fin_back (scope := scope) F' N' o1 hC₀ hCL hCD offC fin⟩
/-- what a comprehension's items gave -/
inductive Outs {α : Type} (out : α → Value → Prop) : List α → List Value → Prop
  | nil : Outs out [] []
  | snoc {as : List α} {ys : List Value} {a : α} {y : Value} : Outs out as ys → out a y → Outs out (as ++ [a]) (ys ++ [y])
theorem take_snoc {α : Type} {l : List α} {i : Nat} {a : α} (h : l[i]? = some a) : l.take (i + 1) = l.take i ++ [a] := by
  rw [List.take_add_one, h]; rfl
section
variable {α : Type} {elt ct : Expr} {x : Str} {scope : Scope} {cl : List (Str × Addr)} {S : List (Addr × Obj) → Prop} {P : Nat → Value → Prop} {Fin : List Value → List (Addr × Obj) → Prop} {news : List (Addr × Obj)} {items : List α} {rel out : α → Value → Prop}
theorem rest_fold (hP : ∀ i v, P i v → ∃ a, items[i]? = some a ∧ rel a v)
    (turn : ∀ a v I oI C oC D m₂ ys h tk (E' : Value → Shared → Prop), a ∈ items → rel a v → ys.length ≤ items.length → NsObj oC m₂ → m₂ x = some v → Fr h₀ L h m → News h₀ L h ((I, oI) :: (C, oC) :: (D, lst ys) :: news) → Off3 I C D news → ((@Ne Nat I C) ∧ (@Ne Nat I D) ∧ (@Ne Nat C D)) →
      wpAny (model prog w) A (eval elt (compEnvC scope cl C env)) (CompEnd h₀ L m { s with heap := h, toks := tk } I oI C oC D (lst ys) S (fun y news' => news' = news ∧ out a y)) E' { s with heap := h, toks := tk })
    (fin : ∀ ys, Outs out items ys → Fin ys news) : CompRest prog w A h₀ L m env elt x scope cl s S P Fin items.length 0 [] news := by
  have key : ∀ (j i : Nat) (ys : List Value), i + j = items.length → ys.length = i → Outs out (items.take i) ys → CompRest prog w A h₀ L m env elt x scope cl s S P Fin j i ys news := by
    intro j
    induction j with
    | zero =>
      intro i ys hi _ hy
      rw [show i = items.length by omega, List.take_length] at hy
      exact fin ys hy
    | succ j ih =>
      intro i ys hi hl hy v I oI C oC D m₂ h tk E' hv hC hx F N off ne
      obtain ⟨a, ha, hr⟩ := hP i v hv
      refine wpAny_mono (turn a v I oI C oC D m₂ ys h tk E' (List.mem_of_getElem? ha) hr (by omega) hC hx F N off ne) (fun y s₂ hq => ?_) fun _ _ e => e
      obtain ⟨h', tk', nw, e, F', N', off', hS, rfl, ho⟩ := hq
      exact ⟨h', tk', nw, e, F', N', off', hS, ih (i + 1) _ (by omega) (by simp [hl]) (by rw [take_snoc ha]; exact hy.snoc ho)⟩
  exact key items.length 0 [] (by omega) rfl .nil
theorem rest_foldT (keep : α → Bool) (hP : ∀ i v, P i v → ∃ a, items[i]? = some a ∧ rel a v)
    (turn : ∀ a v I oI C oC D m₂ ys h tk (E' : Value → Shared → Prop), a ∈ items → rel a v → ys.length ≤ items.length → NsObj oC m₂ → m₂ x = some v → Fr h₀ L h m → News h₀ L h ((I, oI) :: (C, oC) :: (D, lst ys) :: news) → Off3 I C D news → ((@Ne Nat I C) ∧ (@Ne Nat I D) ∧ (@Ne Nat C D)) →
      wpAny (model prog w) A (isTrue ct (compEnvC scope cl C env) (eval ct (compEnvC scope cl C env))) (fun ok s' => Stop (ok = keep a ∧
        (ok = true → wpAny (model prog w) A (eval elt (compEnvC scope cl C env)) (CompEnd h₀ L m { s with heap := h, toks := tk } I oI C oC D (lst ys) S (fun y news' => news' = news ∧ out a y)) E' s') ∧
        (ok = false → CompEnd h₀ L m { s with heap := h, toks := tk } I oI C oC D (lst ys) S (fun _ news' => news' = news) Value.none s'))) E' { s with heap := h, toks := tk })
    (fin : ∀ ys, Outs out (items.filter keep) ys → Fin ys news) : CompRestT prog w A h₀ L m env ct elt x scope cl s S P Fin items.length 0 [] news := by
  have key : ∀ (j i : Nat) (ys : List Value), i + j = items.length → ys.length ≤ i → Outs out ((items.take i).filter keep) ys → CompRestT prog w A h₀ L m env ct elt x scope cl s S P Fin j i ys news := by
    intro j
    induction j with
    | zero =>
      intro i ys hi _ hy
      rw [show i = items.length by omega, List.take_length] at hy
      exact fin ys hy
    | succ j ih =>
      intro i ys hi hl hy v I oI C oC D m₂ h tk E' hv hC hx F N off ne
      obtain ⟨a, ha, hr⟩ := hP i v hv
      refine wpAny_mono (turn a v I oI C oC D m₂ ys h tk E' (List.mem_of_getElem? ha) hr (by omega) hC hx F N off ne) (fun ok s₂ hq => ?_) fun _ _ e => e
      obtain ⟨hk, hT, hF⟩ := hq
      cases ok with
      | true =>
        rw [if_pos rfl]
        refine wpAny_mono (hT rfl) (fun y s₃ hq => ?_) fun _ _ e => e
        obtain ⟨h', tk', nw, e, F', N', off', hS, rfl, ho⟩ := hq
        exact ⟨h', tk', nw, e, F', N', off', hS, ih (i + 1) _ (by omega) (by simp; omega) (by rw [take_snoc ha, List.filter_append, List.filter_cons, ← hk]; exact hy.snoc ho)⟩
      | false =>
        rw [if_neg Bool.false_ne_true]
        obtain ⟨h', tk', nw, e, F', N', off', hS, rfl⟩ := hF rfl
        exact ⟨h', tk', nw, e, F', N', off', hS, ih (i + 1) _ (by omega) (by omega) (by rw [take_snoc ha, List.filter_append, List.filter_cons, ← hk]; simpa using hy)⟩
  exact key items.length 0 [] (by omega) (Nat.le_refl _) .nil
end
end
theorem strs_snoc {y : Str} {t : Tok} : ∀ {vs : List Value} {ys : List Str}, StrsAre vs ys → StrsAre (vs ++ [.str y t]) (ys ++ [y]) := kct_snoc
theorem outs_strs {α : Type} {f : α → Str} {as : List α} {ys : List Value} (h : Outs (fun a v => ∃ u, v = .str (f a) u) as ys) : StrsAre ys (as.map f) := by
  induction h with
  | nil => exact .nil
  | snoc _ ho ih =>
    obtain ⟨u, rfl⟩ := ho
    rw [List.map_append]
    exact strs_snoc ih
theorem ok_one {c : Nat} (h : c < 0x110000) : PyData.strOk ⟨#[c]⟩ = true := by simp [PyData.strOk, h]
theorem ok_mem {x : Str} (h : PyData.strOk x = true) {c : Nat} (hc : c ∈ x.cps.toList) : c < 0x110000 := by
  unfold PyData.strOk at h
  rw [Array.all_eq_true_iff_forall_mem] at h
  simpa using h c (Array.mem_toList_iff.mp hc)
end Mine
end
section
open PySem PySem.W PyProof.Rows
namespace Mine
theorem allLt_to {d : Nat} : ∀ {l : List (Addr × Obj)}, AllLt d l → ∀ p ∈ l, p.1 < d
  | [], _, _, hp => nomatch hp
  | q :: r, h, p, hp => by
    rcases List.mem_cons.mp hp with rfl | hp
    · exact h.1
    · exact allLt_to h.2 p hp
/-! for loops with an invariant of one's own -/
section
variable {prog : Program} {w : World} {A : Around} {E : Value → Shared → Prop} {s : Shared} {env : Env} {h₀ : Heap} {Q : Flow → Shared → Prop}
noncomputable def Tail (prog : Program) (w : World) (A : Around) (env : Env) (target : Expr) (body : List Stmt) (Q : Flow → Shared → Prop) (E : Value → Shared → Prop) (it : Value) (s₂ : Shared) : Prop :=
  codeAny (model prog w) A (.forLoop target it body [] env) (fun r s' => match r with | .ok f => Q f s' | .error e => cameBackBy (model prog w) A env E e s') s₂
theorem for_mine {target iter : Expr} {body : List Stmt} {pos : Pos}
    (h : wpAny (model prog w) A (eval iter env) (fun xv s₁ => wpAny (model prog w) A (pyIter xv) (fun it s₂ => Tail prog w A env target body Q E it s₂) E s₁) E s)
    (hs : ∀ x, foldedSetIterable iter env x = pure x := by intro _; rfl) : wpAny (model prog w) A (exec (.For target iter body [] pos) env) Q E s := wpAny_For h hs
/-- how a turn may end -/
noncomputable def LE (h₀ : Heap) (L : Addr) (wr : List Addr) (own : List (Addr × Obj)) (J : (Str → Option Value) → List (Addr × Obj) → Prop) (s : Shared) (Q : Flow → Shared → Prop) (f : Flow) (s₂ : Shared) : Prop :=
  match f with
  | .ret v => Q (.ret v) s₂
  | .brk => Q .next s₂
  | _ => ∃ h' tk m₂ news₂, s₂ = { s with heap := h', toks := tk } ∧ Fr h₀ L h' m₂ ∧ News h₀ L h' (own ++ news₂) ∧ (∀ p ∈ news₂, p.1 ∉ wr) ∧ J m₂ news₂
theorem LE.next {L : Addr} {wr : List Addr} {own news₂ : List (Addr × Obj)} {J : (Str → Option Value) → List (Addr × Obj) → Prop} {h' : Heap} {tk : Nat} {m₂ : Str → Option Value}
    (F : Fr h₀ L h' m₂) (N : News h₀ L h' (own ++ news₂)) (ho : ∀ p ∈ news₂, p.1 ∉ wr) (hJ : J m₂ news₂) : LE h₀ L wr own J s Q .next { s with heap := h', toks := tk } :=
  ⟨h', tk, m₂, news₂, rfl, F, N, ho, hJ⟩
theorem tail_anyS {target : Expr} {body : List Stmt} {I : Addr} {fp wr : List Addr} {n : Nat} {P : Nat → Value → Prop} {St : Nat → Heap → Prop} {m : Str → Option Value} {news : List (Addr × Obj)}
    (W : Walks prog w A I fp wr n P St) (hLf : env.locals ∉ fp) (hwr : ∀ b ∈ wr, h₀.get? b = none) (hnw : ∀ p ∈ news, p.1 ∉ wr)
    (hst : St 0 s.heap) (F : Fr h₀ env.locals s.heap m) (N : News h₀ env.locals s.heap news) (hE : PassesOwn (model prog w) A env E)
    (hgo : ∀ i (s' : Shared) v (Q' : Unit → Shared → Prop) (E' : Value → Shared → Prop), P i v → St (i + 1) s'.heap → Q' () s' → wpAny (model prog w) A (letOwnedTupleGo target (.ref I) v) Q' E' s')
    (J : Nat → (Str → Option Value) → List (Addr × Obj) → Prop) (h0 : J 0 m news)
    (step : ∀ i v m₁ news₁ h tk own, i < n → P i v → St (i + 1) h → (∀ b ∈ fp, h₀.get? b = none → ∀ o, h.get? b = some o → (b, o) ∈ own) → J i m₁ news₁ → (∀ p ∈ news₁, p.1 ∉ wr) → (∀ p ∈ own, p.1 ∈ fp) → Fr h₀ env.locals h m₁ → News h₀ env.locals h (own ++ news₁) →
      wpAny (model prog w) A (assign target env v) (fun _ s₂ => wpAny (model prog w) A (execs body env) (LE h₀ env.locals wr own (J (i + 1)) s Q) E s₂) E { s with heap := h, toks := tk })
    (done : ∀ h' tk m' news', Fr h₀ env.locals h' m' → News h₀ env.locals h' news' → J n m' news' → Q .next { s with heap := h', toks := tk }) :
    Tail prog w A env target body Q E (.ref I) s := by
  have old : ∀ b o, h₀.get? b = some o → b ∉ wr := fun b o e hb => by rw [hwr b hb] at e; cases e
  have hLw : env.locals ∉ wr := fun h => hLf (W.sub _ h)
  unfold Tail
  refine codeAny_forLoop_any (fun k s' => ∃ i h' tk m' news', s' = { s with heap := h', toks := tk } ∧ i + k = n + 1 ∧ i ≤ n ∧ St i h' ∧ Fr h₀ env.locals h' m' ∧ News h₀ env.locals h' news' ∧ (∀ p ∈ news', p.1 ∉ wr) ∧ J i m' news')
    ?_ (n + 1) ⟨0, s.heap, s.toks, m, news, rfl, by omega, Nat.zero_le _, hst, F, N, hnw, h0⟩
  rintro k s' ⟨i, h', tk, m', news', rfl, hik, hi, st, F', N', off, hJ⟩
  have carry : ∀ h₁ : Heap, (∀ b o, b ∉ wr → h'.get? b = some o → h₁.get? b = some o) → Fr h₀ env.locals h₁ m' ∧ News h₀ env.locals h₁ news' := fun h₁ hk =>
    ⟨⟨F'.ns.at' fun o e => hk _ o hLw e, fun b o e => hk b o (old b o e) (F'.keep b o e), F'.above⟩, fun p hp => ⟨hk _ _ (off p hp) (N' p hp).1, (N' p hp).2⟩⟩
  rcases Nat.lt_or_ge i n with hlt | hge
  · refine W.item i _ _ _ hlt st fun v h₁ tk₁ hP st₁ hk₁ => ?_
    obtain ⟨F₁, N₁⟩ := carry h₁ hk₁
    have No : News h₀ env.locals h₁ (ownOf h₀ fp h₁) := news_ownOf hLf
    refine hgo i _ v _ _ hP st₁ ?_
    refine wpAny_mono (step i v m' news' h₁ tk₁ (ownOf h₀ fp h₁) hlt hP st₁ (fun b hb hn o e => mem_ownOf hb hn e) hJ off ownOf_sub F₁ (No.append N₁)) (fun _ s₂ h₂ => wpAny_mono (wpAny_passesOwn hE h₂) (fun f s₃ h₃ => ?_) fun _ _ e => e) hE
    have again : (∃ h' tk m₂ news₂, s₃ = { s with heap := h', toks := tk } ∧ Fr h₀ env.locals h' m₂ ∧ News h₀ env.locals h' (ownOf h₀ fp h₁ ++ news₂) ∧ (∀ p ∈ news₂, p.1 ∉ wr) ∧ J (i + 1) m₂ news₂) →
        ∃ m, m < k ∧ ∃ i h' tk m' news', s₃ = { s with heap := h', toks := tk } ∧ i + m = n + 1 ∧ i ≤ n ∧ St i h' ∧ Fr h₀ env.locals h' m' ∧ News h₀ env.locals h' news' ∧ (∀ p ∈ news', p.1 ∉ wr) ∧ J i m' news' := by
      rintro ⟨hz, tk₃, m₃, news₃, rfl, F₃, N₃, off₃, J₃⟩
      refine ⟨k - 1, by omega, i + 1, hz, tk₃, m₃, news₃, rfl, by omega, hlt, ?_, F₃, N₃.right, off₃, J₃⟩
      refine W.frame _ _ _ st₁ fun b hb o e => ?_
      cases hn : h₀.get? b with
      | some o₀ =>
        have h1 := F₁.keep b o₀ hn
        rw [e] at h1
        cases h1
        exact F₃.keep b _ hn
      | none => exact (N₃ _ (List.mem_append_left _ (mem_ownOf hb hn e))).1
    cases f with
    | ret v => exact h₃
    | brk => exact h₃
    | cont => exact again h₃
    | next => exact again h₃
  · have e : i = n := by omega
    subst e
    refine W.done _ _ _ st fun h₁ tk₁ hk₁ => wpAny_execs_nil ?_
    obtain ⟨F₁, N₁⟩ := carry h₁ hk₁
    exact done h₁ tk₁ m' news' F₁ N₁ hJ
theorem tail_any {target : Expr} {body : List Stmt} {I : Addr} {fp wr : List Addr} {n : Nat} {P : Nat → Value → Prop} {St : Nat → Heap → Prop} {m : Str → Option Value} {news : List (Addr × Obj)}
    (W : Walks prog w A I fp wr n P St) (hLf : env.locals ∉ fp) (hwr : ∀ b ∈ wr, h₀.get? b = none) (hnw : ∀ p ∈ news, p.1 ∉ wr)
    (hst : St 0 s.heap) (F : Fr h₀ env.locals s.heap m) (N : News h₀ env.locals s.heap news) (hE : PassesOwn (model prog w) A env E)
    (hgo : ∀ i (s' : Shared) v (Q' : Unit → Shared → Prop) (E' : Value → Shared → Prop), P i v → St (i + 1) s'.heap → Q' () s' → wpAny (model prog w) A (letOwnedTupleGo target (.ref I) v) Q' E' s')
    (J : Nat → (Str → Option Value) → List (Addr × Obj) → Prop) (h0 : J 0 m news)
    (step : ∀ i v m₁ news₁ h tk own, i < n → P i v → J i m₁ news₁ → (∀ p ∈ news₁, p.1 ∉ wr) → (∀ p ∈ own, p.1 ∈ fp) → Fr h₀ env.locals h m₁ → News h₀ env.locals h (own ++ news₁) →
      wpAny (model prog w) A (assign target env v) (fun _ s₂ => wpAny (model prog w) A (execs body env) (LE h₀ env.locals wr own (J (i + 1)) s Q) E s₂) E { s with heap := h, toks := tk })
    (done : ∀ h' tk m' news', Fr h₀ env.locals h' m' → News h₀ env.locals h' news' → J n m' news' → Q .next { s with heap := h', toks := tk }) :
    Tail prog w A env target body Q E (.ref I) s :=
  tail_anyS W hLf hwr hnw hst F N hE hgo J h0 (fun i v m₁ news₁ h tk own hi hP _ _ hJ off hsub F₁ N₁ => step i v m₁ news₁ h tk own hi hP hJ off hsub F₁ N₁) done
theorem tail_name {x : Str} {px : Pos} {body : List Stmt} {I : Addr} {fp wr : List Addr} {n : Nat} {P : Nat → Value → Prop} {St : Nat → Heap → Prop} {m : Str → Option Value} {news : List (Addr × Obj)}
    (W : Walks prog w A I fp wr n P St) (hx : env.kindOf x = some .local) (hp : (env.scope.kind == .class || (env.scope.kind == .module && env.locals != env.globals)) = false)
    (hLf : env.locals ∉ fp) (hwr : ∀ b ∈ wr, h₀.get? b = none) (hnw : ∀ p ∈ news, p.1 ∉ wr)
    (hst : St 0 s.heap) (F : Fr h₀ env.locals s.heap m) (N : News h₀ env.locals s.heap news) (hE : PassesOwn (model prog w) A env E)
    (J : Nat → (Str → Option Value) → List (Addr × Obj) → Prop) (h0 : J 0 m news)
    (step : ∀ i v m₁ news₁ h tk own, 0 < tk → i < n → P i v → J i m₁ news₁ → (∀ p ∈ news₁, p.1 ∉ wr) → (∀ p ∈ own, p.1 ∈ fp) → Fr h₀ env.locals h (fun y => if y = x then some v else m₁ y) → News h₀ env.locals h (own ++ news₁) →
      wpAny (model prog w) A (execs body env) (LE h₀ env.locals wr own (J (i + 1)) s Q) E { s with heap := h, toks := tk })
    (done : ∀ h' tk m' news', Fr h₀ env.locals h' m' → News h₀ env.locals h' news' → J n m' news' → Q .next { s with heap := h', toks := tk }) :
    Tail prog w A env (.Name x px) body Q E (.ref I) s := by
  refine tail_any W hLf hwr hnw hst F N hE (fun i s' v Q' E' _ _ hQ => wpAny_pure hQ) J h0 (fun i v m₁ news₁ h tk own hi hP hJ off hsub F₁ N₁ => ?_) done
  refine wpAny_assign_Name (wpAny_storeName_local hx F₁.ns (fun h₂ hn₂ hs₂ => ?_) hp)
  exact step i v m₁ news₁ h₂ (tk + 1) own (Nat.succ_pos _) hi hP hJ off hsub (F₁.set hn₂ hs₂) (N₁.set hs₂)
/-- over a list -/
theorem iter_name {x : Str} {px : Pos} {body : List Stmt} {D : Addr} {vs : List Value} {m : Str → Option Value} {news : List (Addr × Obj)}
    (hh : A.handled = none) (hl : s.heap.IsList D vs.toArray) (hDL : D ≠ env.locals) (hx : env.kindOf x = some .local) (hp : (env.scope.kind == .class || (env.scope.kind == .module && env.locals != env.globals)) = false)
    (F : Fr h₀ env.locals s.heap m) (N : News h₀ env.locals s.heap news) (hE : PassesOwn (model prog w) A env E)
    (J : Nat → (Str → Option Value) → List (Addr × Obj) → Prop) (h0 : J 0 m news)
    (step : ∀ i v m₁ news₁ h tk own I, I = s.heap.objs.size → 0 < tk → vs[i]? = some v → J i m₁ news₁ → (∀ p ∈ news₁, p.1 ≠ I) → (∀ p ∈ own, p.1 = I ∨ p.1 = D) → Fr h₀ env.locals h (fun y => if y = x then some v else m₁ y) → News h₀ env.locals h (own ++ news₁) →
      wpAny (model prog w) A (execs body env) (LE h₀ env.locals [I] own (J (i + 1)) s Q) E { s with heap := h, toks := tk })
    (done : ∀ h' tk m' news', Fr h₀ env.locals h' m' → News h₀ env.locals h' news' → J vs.length m' news' → Q .next { s with heap := h', toks := tk }) :
    wpAny (model prog w) A (pyIter (.ref D)) (fun it s₂ => Tail prog w A env (.Name x px) body Q E it s₂) E s := by
  obtain ⟨o, ho, hr⟩ := id hl
  have hlt : D < s.heap.objs.size := Heap.lt_size ho
  refine wpAny_pyIter_list hl ?_
  have W := Walks.list (prog := prog) (w := w) hh s.heap.objs.size D (Nat.ne_of_lt hlt) vs.toArray
  rw [List.size_toArray] at W
  refine tail_name (s := { s with heap := _ }) W hx hp ?_ ?_ ?_ ⟨⟨_, Heap.get?_push_size _ rfl, rfl, rfl⟩, hl.at fun o e => Heap.get?_push_of_some _ e⟩ (F.push _) (fun p hp => ⟨Heap.get?_push_of_some _ (N p hp).1, (N p hp).2⟩) hE J h0 ?_ done
  · intro hm
    rcases List.mem_cons.mp hm with e | hm
    · exact absurd F.ns.lt (e ▸ Nat.lt_irrefl _)
    · exact hDL (List.mem_singleton.mp hm).symm
  · intro b hb
    rw [List.mem_singleton.mp hb]
    exact next_is_new F
  · intro p hp hI
    exact absurd (Heap.lt_size (N p hp).1) ((List.mem_singleton.mp hI) ▸ Nat.lt_irrefl _)
  · intro i v m₁ news₁ h tk own htk hi hP hJ off hsub F₁ N₁
    exact step i v m₁ news₁ h tk own _ rfl htk (by simpa using hP) hJ (fun p hp e => off p hp (by rw [e]; exact .head _)) (fun p hp => by simpa using hsub p hp) F₁ N₁
theorem LE.sub {L : Addr} {I D : Addr} {own : List (Addr × Obj)} {J : (Str → Option Value) → List (Addr × Obj) → Prop} {f : Flow} {s₂ : Shared}
    (h : LE h₀ L [I, D] own J s Q f s₂) : LE h₀ L [I] own (fun m n => J m n ∧ ∀ p ∈ n, p.1 ≠ D) s Q f s₂ := by
  have go : (∃ h' tk m₂ news₂, s₂ = { s with heap := h', toks := tk } ∧ Fr h₀ L h' m₂ ∧ News h₀ L h' (own ++ news₂) ∧ (∀ p ∈ news₂, p.1 ∉ [I, D]) ∧ J m₂ news₂) →
      ∃ h' tk m₂ news₂, s₂ = { s with heap := h', toks := tk } ∧ Fr h₀ L h' m₂ ∧ News h₀ L h' (own ++ news₂) ∧ (∀ p ∈ news₂, p.1 ∉ [I]) ∧ J m₂ news₂ ∧ ∀ p ∈ news₂, p.1 ≠ D := by
    rintro ⟨h', tk, m₂, news₂, e, F, N, off, hJ⟩
    exact ⟨h', tk, m₂, news₂, e, F, N, fun p hp hm => off p hp (List.mem_cons.mpr (.inl (List.mem_singleton.mp hm))), hJ, fun p hp hm => off p hp (by rw [hm]; simp)⟩
  cases f with
  | ret v => exact h
  | brk => exact h
  | cont => exact go h
  | next => exact go h
/-- over a list that the ledger leaves out meanwhile -/
theorem iter_name' {x : Str} {px : Pos} {body : List Stmt} {D : Addr} {vs : List Value} {m : Str → Option Value} {news : List (Addr × Obj)}
    (hh : A.handled = none) (hl : s.heap.IsList D vs.toArray) (hDL : D ≠ env.locals) (hx : env.kindOf x = some .local) (hp : (env.scope.kind == .class || (env.scope.kind == .module && env.locals != env.globals)) = false)
    (F : Fr h₀ env.locals s.heap m) (N : News h₀ env.locals s.heap news) (hD : ∀ p ∈ news, p.1 ≠ D) (hE : PassesOwn (model prog w) A env E)
    (J : Nat → (Str → Option Value) → List (Addr × Obj) → Prop) (h0 : J 0 m news)
    (step : ∀ i v m₁ news₁ h tk own I D, 0 < tk → vs[i]? = some v → J i m₁ news₁ → (∀ p ∈ news₁, p.1 ∉ [I, D]) → (∀ p ∈ own, p.1 ∈ [I, D]) → Fr h₀ env.locals h (fun y => if y = x then some v else m₁ y) → News h₀ env.locals h (own ++ news₁) →
      wpAny (model prog w) A (execs body env) (LE h₀ env.locals [I, D] own (J (i + 1)) s Q) E { s with heap := h, toks := tk })
    (done : ∀ h' tk m' news', Fr h₀ env.locals h' m' → News h₀ env.locals h' news' → J vs.length m' news' → Q .next { s with heap := h', toks := tk }) :
    wpAny (model prog w) A (pyIter (.ref D)) (fun it s₂ => Tail prog w A env (.Name x px) body Q E it s₂) E s := by
  refine iter_name hh hl hDL hx hp F N hE (fun i m n => J i m n ∧ ∀ p ∈ n, p.1 ≠ D) ⟨h0, hD⟩ ?_ (fun h' tk m' n F' N' hJ => done h' tk m' n F' N' hJ.1)
  rintro i v m₁ news₁ h tk own I _ htk hv ⟨hJ, hn⟩ off hsub F₁ N₁
  refine wpAny_mono (step i v m₁ news₁ h tk own I D htk hv hJ (fun p hp hm => ?_) (fun p hp => ?_) F₁ N₁) (fun _ _ h => LE.sub h) fun _ _ e => e
  · rcases List.mem_cons.mp hm with e | hm
    · exact off p hp e
    · exact hn p hp (List.mem_singleton.mp hm)
  · rcases hsub p hp with e | e <;> simp [e]
/-- over a list of tuples -/
theorem iter_tup {elts : List Expr} {x1} {px : Pos} {body : List Stmt} {D : Addr} {vs : List Value} {m : Str → Option Value} {news : List (Addr × Obj)}
    (hh : A.handled = none) (hl : s.heap.IsList D vs.toArray) (hDL : D ≠ env.locals) (hvs : ∀ v ∈ vs, ∃ T, v = .ref T)
    (F : Fr h₀ env.locals s.heap m) (N : News h₀ env.locals s.heap news) (hE : PassesOwn (model prog w) A env E)
    (J : Nat → (Str → Option Value) → List (Addr × Obj) → Prop) (h0 : J 0 m news)
    (step : ∀ i v m₁ news₁ h tk own I, I = s.heap.objs.size → vs[i]? = some v → J i m₁ news₁ → (∀ p ∈ news₁, p.1 ≠ I) → (∀ p ∈ own, p.1 = I ∨ p.1 = D) → Fr h₀ env.locals h m₁ → News h₀ env.locals h (own ++ news₁) →
      wpAny (model prog w) A (assign (.Tuple elts x1 px) env v) (fun _ s₂ => wpAny (model prog w) A (execs body env) (LE h₀ env.locals [I] own (J (i + 1)) s Q) E s₂) E { s with heap := h, toks := tk })
    (done : ∀ h' tk m' news', Fr h₀ env.locals h' m' → News h₀ env.locals h' news' → J vs.length m' news' → Q .next { s with heap := h', toks := tk }) :
    wpAny (model prog w) A (pyIter (.ref D)) (fun it s₂ => Tail prog w A env (.Tuple elts x1 px) body Q E it s₂) E s := by
  obtain ⟨o, ho, hr⟩ := id hl
  have hlt : D < s.heap.objs.size := Heap.lt_size ho
  refine wpAny_pyIter_list hl ?_
  have W := Walks.list (prog := prog) (w := w) hh s.heap.objs.size D (Nat.ne_of_lt hlt) vs.toArray
  rw [List.size_toArray] at W
  refine tail_any (s := { s with heap := _ }) W ?_ ?_ ?_ ⟨⟨_, Heap.get?_push_size _ rfl, rfl, rfl⟩, hl.at fun o e => Heap.get?_push_of_some _ e⟩ (F.push _) (fun p hp => ⟨Heap.get?_push_of_some _ (N p hp).1, (N p hp).2⟩) hE ?_ J h0 ?_ done
  · intro hm
    rcases List.mem_cons.mp hm with e | hm
    · exact absurd F.ns.lt (e ▸ Nat.lt_irrefl _)
    · exact hDL (List.mem_singleton.mp hm).symm
  · intro b hb
    rw [List.mem_singleton.mp hb]
    exact next_is_new F
  · intro p hp hI
    exact absurd (Heap.lt_size (N p hp).1) ((List.mem_singleton.mp hI) ▸ Nat.lt_irrefl _)
  · intro i s' v Q' E' hP st hQ
    obtain ⟨T, rfl⟩ := hvs v (List.mem_of_getElem? (by simpa using hP))
    exact wpAny_letOwnedTupleGo_listiter st.1 hQ
  · intro i v m₁ news₁ h tk own hi hP hJ off hsub F₁ N₁
    exact step i v m₁ news₁ h tk own _ rfl (by simpa using hP) hJ (fun p hp e => off p hp (by rw [e]; exact .head _)) (fun p hp => by simpa using hsub p hp) F₁ N₁
/-- over a list of tuples; the iterator and the list stand in the turn's own part of the ledger -/
theorem iter_tup2 {elts : List Expr} {x1} {px : Pos} {body : List Stmt} {D : Addr} {vs : List Value} {m : Str → Option Value} {news : List (Addr × Obj)}
    (hh : A.handled = none) (hl : s.heap.IsList D vs.toArray) (hDL : D ≠ env.locals) (hD0 : h₀.get? D = none) (hvs : ∀ v ∈ vs, ∃ T, v = .ref T)
    (F : Fr h₀ env.locals s.heap m) (N : News h₀ env.locals s.heap news) (hD : ∀ p ∈ news, p.1 ≠ D) (hE : PassesOwn (model prog w) A env E)
    (J : Nat → (Str → Option Value) → List (Addr × Obj) → Prop) (h0 : J 0 m news)
    (step : ∀ i v m₁ news₁ h tk own I D, vs[i]? = some v → J i m₁ news₁ → (∃ oI oD, (I, oI) ∈ own ∧ (D, oD) ∈ own) → (∀ p ∈ news₁, p.1 ∉ [I, D]) → (∀ p ∈ own, p.1 ∈ [I, D]) → Fr h₀ env.locals h m₁ → News h₀ env.locals h (own ++ news₁) →
      wpAny (model prog w) A (assign (.Tuple elts x1 px) env v) (fun _ s₂ => wpAny (model prog w) A (execs body env) (LE h₀ env.locals [I, D] own (J (i + 1)) s Q) E s₂) E { s with heap := h, toks := tk })
    (done : ∀ h' tk m' news', Fr h₀ env.locals h' m' → News h₀ env.locals h' news' → J vs.length m' news' → Q .next { s with heap := h', toks := tk }) :
    wpAny (model prog w) A (pyIter (.ref D)) (fun it s₂ => Tail prog w A env (.Tuple elts x1 px) body Q E it s₂) E s := by
  obtain ⟨o, ho, hr⟩ := id hl
  have hlt : D < s.heap.objs.size := Heap.lt_size ho
  refine wpAny_pyIter_list hl ?_
  have W := Walks.list (prog := prog) (w := w) hh s.heap.objs.size D (Nat.ne_of_lt hlt) vs.toArray
  rw [List.size_toArray] at W
  have hI0 := next_is_new F
  refine tail_anyS (s := { s with heap := _ }) W ?_ ?_ ?_ ⟨⟨_, Heap.get?_push_size _ rfl, rfl, rfl⟩, hl.at fun o e => Heap.get?_push_of_some _ e⟩ (F.push _) (fun p hp => ⟨Heap.get?_push_of_some _ (N p hp).1, (N p hp).2⟩) hE ?_ (fun i m n => J i m n ∧ ∀ p ∈ n, p.1 ≠ D) ⟨h0, hD⟩ ?_ (fun h' tk m' n F' N' hJ => done h' tk m' n F' N' hJ.1)
  · intro hm
    rcases List.mem_cons.mp hm with e | hm
    · exact absurd F.ns.lt (e ▸ Nat.lt_irrefl _)
    · exact hDL (List.mem_singleton.mp hm).symm
  · intro b hb
    rw [List.mem_singleton.mp hb]
    exact hI0
  · intro p hp hI
    exact absurd (Heap.lt_size (N p hp).1) ((List.mem_singleton.mp hI) ▸ Nat.lt_irrefl _)
  · intro i s' v Q' E' hP st hQ
    obtain ⟨T, rfl⟩ := hvs v (List.mem_of_getElem? (by simpa using hP))
    exact wpAny_letOwnedTupleGo_listiter st.1 hQ
  · rintro i v m₁ news₁ h tk own hi hP ⟨⟨oI, eI, _⟩, ⟨oD, eD, _⟩⟩ hown ⟨hJ, hn⟩ off hsub F₁ N₁
    refine wpAny_mono (step i v m₁ news₁ h tk own s.heap.objs.size D (by simpa using hP) hJ ⟨oI, oD, hown _ (.head _) hI0 _ eI, hown _ (.tail _ (.head _)) hD0 _ eD⟩ (fun p hp hm => ?_) (fun p hp => hsub p hp) F₁ N₁) (fun _ _ h => wpAny_mono h (fun _ _ h => LE.sub h) fun _ _ e => e) fun _ _ e => e
    rcases List.mem_cons.mp hm with e | hm
    · exact off p hp (by rw [e]; exact .head _)
    · exact hn p hp (List.mem_singleton.mp hm)
/-- over a list that stays in the ledger; the iterator stands in the turn's own part -/
theorem iter_name2 {x : Str} {px : Pos} {body : List Stmt} {D : Addr} {vs : List Value} {m : Str → Option Value} {news : List (Addr × Obj)}
    (hh : A.handled = none) (hl : s.heap.IsList D vs.toArray) (hDL : D ≠ env.locals) (hx : env.kindOf x = some .local) (hp : (env.scope.kind == .class || (env.scope.kind == .module && env.locals != env.globals)) = false)
    (F : Fr h₀ env.locals s.heap m) (N : News h₀ env.locals s.heap news) (hE : PassesOwn (model prog w) A env E)
    (J : Nat → (Str → Option Value) → List (Addr × Obj) → Prop) (h0 : J 0 m news)
    (step : ∀ i v m₁ news₁ h tk own I, 0 < tk → vs[i]? = some v → J i m₁ news₁ → (∃ oI, (I, oI) ∈ own) → (∀ p ∈ news₁, p.1 ≠ I) → (∀ p ∈ own, p.1 = I ∨ p.1 = D) → Fr h₀ env.locals h (fun y => if y = x then some v else m₁ y) → News h₀ env.locals h (own ++ news₁) →
      wpAny (model prog w) A (execs body env) (LE h₀ env.locals [I] own (J (i + 1)) s Q) E { s with heap := h, toks := tk })
    (done : ∀ h' tk m' news', Fr h₀ env.locals h' m' → News h₀ env.locals h' news' → J vs.length m' news' → Q .next { s with heap := h', toks := tk }) :
    wpAny (model prog w) A (pyIter (.ref D)) (fun it s₂ => Tail prog w A env (.Name x px) body Q E it s₂) E s := by
  obtain ⟨o, ho, hr⟩ := id hl
  have hlt : D < s.heap.objs.size := Heap.lt_size ho
  refine wpAny_pyIter_list hl ?_
  have W := Walks.list (prog := prog) (w := w) hh s.heap.objs.size D (Nat.ne_of_lt hlt) vs.toArray
  rw [List.size_toArray] at W
  have hI0 := next_is_new F
  refine tail_anyS (s := { s with heap := _ }) W ?_ ?_ ?_ ⟨⟨_, Heap.get?_push_size _ rfl, rfl, rfl⟩, hl.at fun o e => Heap.get?_push_of_some _ e⟩ (F.push _) (fun p hp => ⟨Heap.get?_push_of_some _ (N p hp).1, (N p hp).2⟩) hE (fun i s' v Q' E' _ _ hQ => wpAny_pure hQ) J h0 ?_ done
  · intro hm
    rcases List.mem_cons.mp hm with e | hm
    · exact absurd F.ns.lt (e ▸ Nat.lt_irrefl _)
    · exact hDL (List.mem_singleton.mp hm).symm
  · intro b hb
    rw [List.mem_singleton.mp hb]
    exact hI0
  · intro p hp hI
    exact absurd (Heap.lt_size (N p hp).1) ((List.mem_singleton.mp hI) ▸ Nat.lt_irrefl _)
  · rintro i v m₁ news₁ h tk own hi hP ⟨⟨oI, eI, _⟩, _⟩ hown hJ off hsub F₁ N₁
    have hI : (s.heap.objs.size, oI) ∈ own := hown _ (.head _) hI0 _ eI
    refine wpAny_assign_Name (wpAny_storeName_local hx F₁.ns (fun h₂ hn₂ hs₂ => ?_) hp)
    exact step i v m₁ news₁ h₂ (tk + 1) own _ (Nat.succ_pos _) (by simpa using hP) hJ ⟨oI, hI⟩ (fun p hp e => off p hp (by rw [e]; exact .head _)) (fun p hp => by simpa using hsub p hp) (F₁.set hn₂ hs₂) (N₁.set hs₂)
end
/-- what follows, by a name (the walk's terms stay small) -/
theorem gen_QE {α : Type} {M : Model} {A : Around} {x : Sem α} {Q : α → Shared → Prop} {E : Value → Shared → Prop} {s : Shared} (h : ∀ (Q' : α → Shared → Prop) (E' : Value → Shared → Prop), (∀ f s', Q f s' → Q' f s') → wpAny M A x Q' E' s) : wpAny M A x Q E s := h Q E fun _ _ h => h
theorem gen_while {M : Model} {A : Around} {x : Sem Bool} {y : Sem Flow} {Q : Flow → Shared → Prop} {R : Shared → Prop} {E : Value → Shared → Prop} {s : Shared}
    (h : ∀ (Q' : Flow → Shared → Prop) (R' : Shared → Prop) (E' : Value → Shared → Prop), (∀ f s', Q f s' → Q' f s') → (∀ s', R s' → R' s') → wpAny M A x (fun b s₂ => if b = true then wpAny M A y Q' E' s₂ else R' s₂) E' s) :
    wpAny M A x (fun b s₂ => if b = true then wpAny M A y Q E s₂ else R s₂) E s := h Q R E (fun _ _ h => h) fun _ h => h
end Mine
end
section
open PySem PySem.W PyProof.Rows
namespace Mine
/-! the plain law of 07 -/
noncomputable def splitL (c : Nat) : List Nat → List (List Nat)
  | [] => [[]]
  | k :: r => if k = c then [] :: splitL c r else match splitL c r with | [] => [[k]] | p :: ps => (k :: p) :: ps
theorem splitL_ne (c : Nat) : ∀ l : List Nat, ∃ p ps, splitL c l = p :: ps
  | [] => ⟨_, _, rfl⟩
  | k :: r => by
    obtain ⟨p, ps, e⟩ := splitL_ne c r
    show ∃ p ps, (if k = c then [] :: splitL c r else match splitL c r with | [] => [[k]] | p :: ps => (k :: p) :: ps) = p :: ps
    split
    · exact ⟨_, _, rfl⟩
    · rw [e]; exact ⟨_, _, rfl⟩
theorem splitL_free {c : Nat} {b p : List Nat} {ps : List (List Nat)} (e : splitL c b = p :: ps) : ∀ a : List Nat, c ∉ a → splitL c (a ++ b) = (a ++ p) :: ps
  | [], _ => e
  | k :: r, h => by
    have h1 : ¬ k = c := fun e => h (e ▸ List.mem_cons_self ..)
    have ih := splitL_free e r fun m => h (List.mem_cons_of_mem _ m)
    show (if k = c then [] :: splitL c (r ++ b) else match splitL c (r ++ b) with | [] => [[k]] | p :: ps => (k :: p) :: ps) = _
    rw [if_neg h1, ih]; rfl
theorem splitL_joinL (c : Nat) : ∀ ps : List (List Nat), ps ≠ [] → (∀ p ∈ ps, c ∉ p) → splitL c (joinL [c] ps) = ps
  | [], h, _ => absurd rfl h
  | [p], _, h => by
    have := splitL_free (c := c) (b := []) (p := []) (ps := []) rfl p (h p (List.mem_singleton.mpr rfl))
    show splitL c p = _
    simpa using this
  | p :: q :: r, _, h => by
    have ih := splitL_joinL c (q :: r) (List.cons_ne_nil _ _) fun a ha => h a (List.mem_cons_of_mem _ ha)
    have e : splitL c (c :: joinL [c] (q :: r)) = [] :: (q :: r) := by
      show (if c = c then [] :: splitL c (joinL [c] (q :: r)) else _) = _
      rw [if_pos rfl, ih]
    have := splitL_free e p (h p (List.mem_cons_self ..))
    show splitL c (p ++ [c] ++ joinL [c] (q :: r)) = _
    rw [List.append_assoc]
    simpa using this
noncomputable def toL (x : Str) : List Nat := x.cps.toList
theorem split_is (x : Str) (c : Nat) : (Txt.split x ⟨#[c]⟩).map toL = splitL c x.cps.toList := by
  have h1 := StrLaws.join_split x ⟨#[c]⟩
  have h2 := StrLaws.split_free x c
  have h3 : (Txt.split x ⟨#[c]⟩) ≠ [] := fun e => by have := split_pos x ⟨#[c]⟩; rw [e] at this; exact absurd this (by decide)
  have h4 := join_ofL [c] ((Txt.split x ⟨#[c]⟩).map toL)
  have h5 : ((Txt.split x ⟨#[c]⟩).map toL).map ofL = Txt.split x ⟨#[c]⟩ := by
    rw [List.map_map]
    conv => rhs; rw [← List.map_id (Txt.split x ⟨#[c]⟩)]
    exact List.map_congr_left fun a _ => toL_ofL a
  rw [h5] at h4
  have h6 : x = ofL (joinL [c] ((Txt.split x ⟨#[c]⟩).map toL)) := by
    rw [← h4]; exact h1.symm
  have h7 : x.cps.toList = joinL [c] ((Txt.split x ⟨#[c]⟩).map toL) := by
    conv => lhs; rw [h6]
    rfl
  rw [h7, splitL_joinL c _ (by simpa using h3)]
  intro p hp
  obtain ⟨y, hy, rfl⟩ := List.mem_map.mp hp
  exact h2 y hy
/-! the lexer's answer on a quoted text -/
theorem sq_run : ∀ (l : List Nat) (q : Bool) (tok : Str), lexGo (sub1 39 [39, 34, 39, 34, 39] l ++ [39]) .sq q tok = some (some (tok ++ ofL l), .non, [])
  | [], q, tok => by
    have : tok ++ ofL [] = tok := Str_ext (by simp [Str.cps_append, ofL])
    rw [this]
    simp [sub1, lexGo, finT]
  | c :: r, q, tok => by
    have ih := sq_run r true (tok ++ ⟨#[c]⟩)
    have e : tok ++ ⟨#[c]⟩ ++ ofL r = tok ++ ofL (c :: r) := Str_ext (by simp [Str.cps_append, ofL])
    rw [e] at ih
    show lexGo ((if c = 39 then [39, 34, 39, 34, 39] else [c]) ++ sub1 39 [39, 34, 39, 34, 39] r ++ [39]) .sq q tok = _
    by_cases h : c = 39
    · subst h
      rw [if_pos rfl]
      simp only [List.cons_append, List.nil_append, lexGo, if_true]
      rw [if_neg (by decide), if_neg (by decide), if_neg (by decide)]
      rw [if_neg (by decide)]
      exact ih
    · rw [if_neg h]
      simp only [List.cons_append, List.nil_append, lexGo]
      rw [if_neg h]
      exact ih
noncomputable def q39 (l : List Nat) : List Nat := 39 :: (sub1 39 [39, 34, 39, 34, 39] l ++ [39])
theorem lexes_q39 (l : List Nat) : Lexes (q39 l) .sp [ofL l] := by
  refine .tok (st' := .non) (rs' := []) (by intro e; cases e) ?_ (.stop (st' := .non) (rs' := []) (by intro e; cases e) rfl)
  unfold q39
  rw [lexGo, if_neg (by decide), if_neg (by decide), if_neg (by decide), if_pos rfl, sq_run]
  have : Str.ofString "" ++ ofL l = ofL l := Str_ext (by rw [show Str.ofString "" = ofL [] by decide, ofL_append]; rfl)
  rw [this]
theorem a_run : ∀ (l : List Nat) (tok : Str), tok.length ≠ 0 → (∀ c ∈ l, ws c = false ∧ c ≠ 39 ∧ c ≠ 34 ∧ c ≠ 92) → lexGo l .a false tok = some (some (tok ++ ofL l), .non, [])
  | [], tok, h, _ => by
    have : tok ++ ofL [] = tok := Str_ext (by simp [Str.cps_append, ofL])
    rw [this]
    simp [lexGo, finT, h]
  | c :: r, tok, h, hc => by
    obtain ⟨h1, h2, h3, h4⟩ := hc c (List.mem_cons_self ..)
    have ih := a_run r (tok ++ ⟨#[c]⟩) (by rw [Str.length_append]; show tok.length + 1 ≠ 0; omega) fun k hk => hc k (List.mem_cons_of_mem _ hk)
    have e : tok ++ ⟨#[c]⟩ ++ ofL r = tok ++ ofL (c :: r) := Str_ext (by simp [Str.cps_append, ofL])
    rw [e] at ih
    rw [lexGo, if_neg (by simp [h1]), if_neg h2, if_neg h3, if_neg h4]
    exact ih
theorem uns_small : unsafeC 32 = true ∧ unsafeC 9 = true ∧ unsafeC 13 = true ∧ unsafeC 10 = true ∧ unsafeC 39 = true ∧ unsafeC 34 = true ∧ unsafeC 92 = true ∧ unsafeC 38 = true ∧ unsafeC 60 = true ∧ unsafeC 62 = true := by
  have h := fun c (hc : c < 128) => safe_small c hc
  have g : ∀ c ∈ [32, 9, 13, 10, 39, 34, 92, 38, 60, 62], inS' c safeS = false := by decide +kernel
  have k : ∀ c ∈ [32, 9, 13, 10, 39, 34, 92, 38, 60, 62], unsafeC c = true := fun c hc => by
    have h1 := g c hc
    have h2 : c < 128 := by
      simp only [List.mem_cons, List.not_mem_nil, or_false] at hc
      omega
    rw [safe_small c h2] at h1
    simpa using h1
  exact ⟨k _ (by decide), k _ (by decide), k _ (by decide), k _ (by decide), k _ (by decide), k _ (by decide), k _ (by decide), k _ (by decide), k _ (by decide), k _ (by decide)⟩
theorem safe_plain {c : Nat} (h : unsafeC c = false) : ws c = false ∧ c ≠ 39 ∧ c ≠ 34 ∧ c ≠ 92 ∧ c ≠ 38 ∧ c ≠ 60 ∧ c ≠ 62 := by
  obtain ⟨a1, a2, a3, a4, a5, a6, a7, a8, a9, a10⟩ := uns_small
  have n : ∀ d, unsafeC d = true → c ≠ d := fun d hd e => by rw [e, hd] at h; cases h
  refine ⟨?_, n _ a5, n _ a6, n _ a7, n _ a8, n _ a9, n _ a10⟩
  have := n _ a1; have := n _ a2; have := n _ a3; have := n _ a4
  unfold ws
  simp [*]
theorem lexes_qt (l : List Nat) : Lexes (qt l) .sp [ofL l] := by
  unfold qt
  split
  · rename_i h; subst h; exact lexes_q39 []
  · rename_i h
    split
    · exact lexes_q39 l
    · rename_i hu
      have hs : ∀ c ∈ l, unsafeC c = false := by
        intro c hc
        cases hx : unsafeC c with
        | false => rfl
        | true => exact absurd (List.any_eq_true.mpr ⟨c, hc, hx⟩) hu
      refine .tok (st' := .non) (rs' := []) (by intro e; cases e) ?_ (.stop (st' := .non) (rs' := []) (by intro e; cases e) rfl)
      cases l with
      | nil => exact absurd rfl h
      | cons c r =>
        obtain ⟨h1, h2, h3, h4, _⟩ := safe_plain (hs c (List.mem_cons_self ..))
        rw [lexGo, if_neg (by decide), if_neg (by simp [h1]), if_neg h4, if_neg h2, if_neg h3]
        have := a_run r ⟨#[c]⟩ (by show (1 : Nat) ≠ 0; decide) fun k hk => by
          obtain ⟨g1, g2, g3, g4, _⟩ := safe_plain (hs k (List.mem_cons_of_mem _ hk))
          exact ⟨g1, g2, g3, g4⟩
        rw [this]
        have e : Str.mk #[c] ++ ofL r = ofL (c :: r) := Str_ext (by simp [Str.cps_append, ofL])
        rw [e]
/-! pairs of a sign and its depth -/
noncomputable def nm5 (c : Nat) : List Nat := if c = 38 then [97, 109, 112, 59] else if c = 60 then [108, 116, 59] else if c = 62 then [103, 116, 59] else if c = 34 then [113, 117, 111, 116, 59] else [35, 120, 50, 55, 59]
noncomputable def special (c : Nat) : Bool := c == 38 || c == 60 || c == 62 || c == 34 || c == 39
noncomputable def amps (n : Nat) : List Nat := (List.replicate n [97, 109, 112, 59]).flatten
noncomputable def rd (o : Nat) (p : Nat × Nat) : List Nat := if 0 < p.2 + o ∧ special p.1 = true then 38 :: (amps (p.2 + o - 1) ++ nm5 p.1) else [p.1]
noncomputable def R (o : Nat) (ps : List (Nat × Nat)) : List Nat := ps.flatMap (rd o)
theorem escC_plain {c : Nat} (h : special c = false) : escC true c = [c] := by
  unfold special at h
  simp only [Bool.or_eq_false_iff, beq_eq_false_iff_ne, ne_eq] at h
  obtain ⟨⟨⟨⟨h1, h2⟩, h3⟩, h4⟩, h5⟩ := h
  unfold escC
  simp [h1, h2, h3, h4, h5]
theorem escL_plain : ∀ l : List Nat, (∀ c ∈ l, special c = false) → escL true l = l
  | [], _ => rfl
  | c :: r, h => by
    show escC true c ++ escL true r = _
    rw [escC_plain (h c (List.mem_cons_self ..)), escL_plain r fun k hk => h k (List.mem_cons_of_mem _ hk)]; rfl
noncomputable def inner (t : Nat) (p : Nat × Nat) : List (Nat × Nat) := if p.1 = 39 ∧ p.2 + t = 0 then [(39, 0), (34, 0), (39, 0), (34, 0), (39, 0)] else [(p.1, p.2 + t)]
noncomputable def stepP (t : Nat) (ps : List (Nat × Nat)) : List (Nat × Nat) := (39, 0) :: (ps.flatMap (inner t) ++ [(39, 0)])
noncomputable def pairs (l : List Nat) (ts : List Nat) : List (Nat × Nat) := ts.foldl (fun ps t => stepP t ps) (l.map fun c => (c, 0))
noncomputable def due (l : List Nat) (ts : List Nat) (o : Nat) : List Nat := if isSafe l then l else R o (pairs l ts)
theorem safe_fix {l : List Nat} (h : isSafe l = true) : escL true l = l ∧ qt l = l := by
  unfold isSafe at h
  simp only [Bool.and_eq_true, Bool.not_eq_true', List.isEmpty_eq_false_iff] at h
  obtain ⟨h1, h2⟩ := h
  have hs : ∀ c ∈ l, unsafeC c = false := by
    intro c hc
    cases hx : unsafeC c with
    | false => rfl
    | true => rw [List.any_eq_true.mpr ⟨c, hc, hx⟩] at h2; cases h2
  refine ⟨escL_plain l fun c hc => ?_, ?_⟩
  · obtain ⟨_, g1, g2, _, g3, g4, g5⟩ := safe_plain (hs c hc)
    unfold special
    simp [g1, g2, g3, g4, g5]
  · unfold qt
    rw [if_neg h1, if_neg (by rw [h2]; decide)]
/-! lengths -/
end Mine
end
section
open PySem PySem.W PyProof.Rows
namespace Mine
/-! the plain law of 06 -/
theorem escL_cons (q : Bool) (c : Nat) (l : List Nat) : escL q (c :: l) = escC q c ++ escL q l := rfl
theorem escL_append (q : Bool) (a b : List Nat) : escL q (a ++ b) = escL q a ++ escL q b := List.flatMap_append
theorem escC_sp (q : Bool) : escC q 32 = [32] := by cases q <;> rfl
theorem escL_join (q : Bool) : ∀ ps : List (List Nat), escL q (joinL [32] ps) = joinL [32] (ps.map (escL q))
  | [] => rfl
  | [x] => rfl
  | x :: y :: r => by
    have ih := escL_join q (y :: r)
    show escL q (x ++ [32] ++ joinL [32] (y :: r)) = escL q x ++ [32] ++ joinL [32] ((y :: r).map (escL q))
    rw [escL_append, escL_append, ih]
    show escL q x ++ (escC q 32 ++ []) ++ _ = _
    rw [escC_sp]; rfl
theorem esc_sub (l : List Nat) : escL false (sub1 39 [39, 34, 39, 34, 39] l) = sub1 39 [39, 34, 39, 34, 39] (escL false l) := by
  unfold escL sub1
  rw [List.flatMap_assoc, List.flatMap_assoc]
  congr 1; funext c
  unfold escC
  by_cases h1 : c = 39; · subst h1; decide
  by_cases h2 : c = 38; · subst h2; decide
  by_cases h3 : c = 60; · subst h3; decide
  by_cases h4 : c = 62; · subst h4; decide
  simp [h1, h2, h3, h4]
theorem esc_id {q : Bool} : ∀ {l : List Nat}, (∀ c ∈ l, unsafeC c = false) → escL q l = l
  | [], _ => rfl
  | c :: r, h => by
    obtain ⟨_, g1, g2, _, g3, g4, g5⟩ := safe_plain (h c (List.mem_cons_self ..))
    rw [escL_cons, esc_id fun k hk => h k (List.mem_cons_of_mem _ hk)]
    unfold escC
    simp [g1, g2, g3, g4, g5]
theorem any_false {l : List Nat} (h : ¬ l.any unsafeC = true) : ∀ c ∈ l, unsafeC c = false := by
  intro c hc
  cases hx : unsafeC c with
  | false => rfl
  | true => exact absurd (List.any_eq_true.mpr ⟨c, hc, hx⟩) h
theorem escC_unsafe {q : Bool} {c : Nat} (h : unsafeC c = true) : (escC q c).any unsafeC = true := by
  unfold escC
  have u := uns_small
  split
  · simp [u.2.2.2.2.2.2.2.1]
  split
  · simp [u.2.2.2.2.2.2.2.1]
  split
  · simp [u.2.2.2.2.2.2.2.1]
  split
  · simp [u.2.2.2.2.2.2.2.1]
  split
  · simp [u.2.2.2.2.2.2.2.1]
  · simp [h]
theorem esc_unsafe {q : Bool} {l : List Nat} (h : l.any unsafeC = true) : (escL q l).any unsafeC = true := by
  obtain ⟨c, hc, hu⟩ := List.any_eq_true.mp h
  obtain ⟨d, hd, hv⟩ := List.any_eq_true.mp (escC_unsafe (q := q) hu)
  exact List.any_eq_true.mpr ⟨d, List.mem_flatMap.mpr ⟨c, hc, hd⟩, hv⟩
theorem any_ne {l : List Nat} (h : l.any unsafeC = true) : l ≠ [] := by rintro rfl; cases h
theorem esc_qt (l : List Nat) : escL false (qt l) = qt (escL false l) := by
  unfold qt
  by_cases h : l = []
  · subst h; rfl
  rw [if_neg h]
  by_cases hu : l.any unsafeC = true
  · rw [if_pos hu, if_neg (any_ne (esc_unsafe hu)), if_pos (esc_unsafe hu), escL_cons, escL_append, esc_sub]
    rfl
  · rw [if_neg hu, esc_id (any_false hu), if_neg h, if_neg hu]
theorem line1 (ws : List (List Nat)) : escL false (joinL [32] (ws.map qt)) = joinL [32] ((ws.map (escL false)).map qt) := by
  rw [escL_join, List.map_map, List.map_map]
  congr 1
  exact List.map_congr_left fun l _ => esc_qt l
/-! split of a joined line -/
theorem sq_sp : ∀ (l : List Nat) (q : Bool) (tok : Str) (rest : List Nat), lexGo (sub1 39 [39, 34, 39, 34, 39] l ++ 39 :: 32 :: rest) .sq q tok = some (some (tok ++ ofL l), .sp, rest)
  | [], q, tok, rest => by
    have : tok ++ ofL [] = tok := Str_ext (by simp [Str.cps_append, ofL])
    rw [this]
    simp [sub1, lexGo, finT, show ws 32 = true by decide]
  | c :: r, q, tok, rest => by
    have ih := sq_sp r true (tok ++ ⟨#[c]⟩) rest
    have e : tok ++ ⟨#[c]⟩ ++ ofL r = tok ++ ofL (c :: r) := Str_ext (by simp [Str.cps_append, ofL])
    rw [e] at ih
    show lexGo ((if c = 39 then [39, 34, 39, 34, 39] else [c]) ++ sub1 39 [39, 34, 39, 34, 39] r ++ 39 :: 32 :: rest) .sq q tok = _
    by_cases h : c = 39
    · subst h
      rw [if_pos rfl]
      simp only [List.cons_append, List.nil_append, lexGo, if_true]
      rw [if_neg (by decide), if_neg (by decide), if_neg (by decide)]
      rw [if_neg (by decide)]
      exact ih
    · rw [if_neg h]
      simp only [List.cons_append, List.nil_append, lexGo]
      rw [if_neg h]
      exact ih
theorem a_sp : ∀ (l : List Nat) (tok : Str) (rest : List Nat), tok.length ≠ 0 → (∀ c ∈ l, ws c = false ∧ c ≠ 39 ∧ c ≠ 34 ∧ c ≠ 92) → lexGo (l ++ 32 :: rest) .a false tok = some (some (tok ++ ofL l), .sp, rest)
  | [], tok, rest, h, _ => by
    have : tok ++ ofL [] = tok := Str_ext (by simp [Str.cps_append, ofL])
    rw [this]
    simp [lexGo, finT, h, show ws 32 = true by decide]
  | c :: r, tok, rest, h, hc => by
    obtain ⟨h1, h2, h3, h4⟩ := hc c (List.mem_cons_self ..)
    have ih := a_sp r (tok ++ ⟨#[c]⟩) rest (by rw [Str.length_append]; show tok.length + 1 ≠ 0; omega) fun k hk => hc k (List.mem_cons_of_mem _ hk)
    have e : tok ++ ⟨#[c]⟩ ++ ofL r = tok ++ ofL (c :: r) := Str_ext (by simp [Str.cps_append, ofL])
    rw [e] at ih
    rw [List.cons_append, lexGo, if_neg (by simp [h1]), if_neg h2, if_neg h3, if_neg h4]
    exact ih
theorem nil_ofL (l : List Nat) : Str.ofString "" ++ ofL l = ofL l := Str_ext (by rw [show Str.ofString "" = ofL [] by decide, ofL_append]; rfl)
theorem q39_sp (l rest : List Nat) : lexGo (39 :: (sub1 39 [39, 34, 39, 34, 39] l ++ 39 :: 32 :: rest)) .sp false (Str.ofString "") = some (some (ofL l), .sp, rest) := by
  rw [lexGo, if_neg (by decide), if_neg (by decide), if_neg (by decide), if_pos rfl, sq_sp, nil_ofL]
theorem qt_sp (l rest : List Nat) : lexGo (qt l ++ 32 :: rest) .sp false (Str.ofString "") = some (some (ofL l), .sp, rest) := by
  unfold qt
  split
  · rename_i h; subst h; exact q39_sp [] rest
  · rename_i h
    split
    · have := q39_sp l rest
      simpa [List.append_assoc] using this
    · rename_i hu
      have hs := any_false hu
      cases l with
      | nil => exact absurd rfl h
      | cons c r =>
        obtain ⟨h1, h2, h3, h4, _⟩ := safe_plain (hs c (List.mem_cons_self ..))
        rw [List.cons_append, lexGo, if_neg (by decide), if_neg (by simp [h1]), if_neg h4, if_neg h2, if_neg h3]
        have := a_sp r ⟨#[c]⟩ rest (by show (1 : Nat) ≠ 0; decide) fun k hk => by
          obtain ⟨g1, g2, g3, g4, _⟩ := safe_plain (hs k (List.mem_cons_of_mem _ hk))
          exact ⟨g1, g2, g3, g4⟩
        rw [this]
        have e : Str.mk #[c] ++ ofL r = ofL (c :: r) := Str_ext (by simp [Str.cps_append, ofL])
        rw [e]
theorem lexes_join : ∀ ws : List (List Nat), Lexes (joinL [32] (ws.map qt)) .sp (ws.map ofL)
  | [] => .stop (st' := .non) (rs' := []) (by intro e; cases e) rfl
  | [x] => lexes_qt x
  | x :: y :: r => by
    have ih := lexes_join (y :: r)
    refine .tok (st' := .sp) (rs' := joinL [32] ((y :: r).map qt)) (by intro e; cases e) ?_ ih
    have := qt_sp x (joinL [32] ((y :: r).map qt))
    rw [← this]
    show lexGo (qt x ++ [32] ++ joinL [32] ((y :: r).map qt)) _ _ _ = _
    rw [List.append_assoc]; rfl
/-! the second line -/
theorem isSafe_all {l : List Nat} (h : isSafe l = true) : l ≠ [] ∧ ∀ c ∈ l, unsafeC c = false := by
  unfold isSafe at h
  simp only [Bool.and_eq_true, Bool.not_eq_true', List.isEmpty_eq_false_iff] at h
  exact ⟨h.1, any_false (by rw [h.2]; decide)⟩
theorem isSafe_not {l : List Nat} (h : isSafe l = false) : l = [] ∨ l.any unsafeC = true := by
  unfold isSafe at h
  cases l with
  | nil => exact .inl rfl
  | cons c r => right; cases hu : (c :: r).any unsafeC with
    | true => rfl
    | false => rw [hu] at h; cases h
theorem qt_unsafe {l : List Nat} (h : isSafe l = false) : qt l = q39 l := by
  unfold qt q39
  rcases isSafe_not h with rfl | h
  · rfl
  · rw [if_neg (any_ne h), if_pos h]
theorem unsafe_heads {l : List Nat} (h : isSafe l = false) : ∃ a b, escL true (qt l) = 38 :: a ∧ qt (escL true l) = 39 :: b := by
  have h2 : isSafe (escL true l) = false := by
    rcases isSafe_not h with rfl | h
    · rfl
    · unfold isSafe; rw [esc_unsafe h]; simp
  rw [qt_unsafe h, qt_unsafe h2]
  exact ⟨_, _, rfl, rfl⟩
theorem line2_eq : ∀ ws : List (List Nat), (joinL [32] ((ws.map qt).map (escL true)) = joinL [32] ((ws.map (escL true)).map qt)) ↔ ∀ l ∈ ws, isSafe l = true
  | [] => by simp
  | x :: r => by
    have ih := line2_eq r
    cases hx : isSafe x with
    | true =>
      have e := safe_fix hx
      have e1 : escL true (qt x) = x := by rw [e.2, e.1]
      have e2 : qt (escL true x) = x := by rw [e.1, e.2]
      cases r with
      | nil => simp [joinL, e1, e2, hx]
      | cons y r =>
        have : (joinL [32] (((x :: y :: r).map qt).map (escL true)) = joinL [32] (((x :: y :: r).map (escL true)).map qt)) ↔ (joinL [32] (((y :: r).map qt).map (escL true)) = joinL [32] (((y :: r).map (escL true)).map qt)) := by
          show (escL true (qt x) ++ [32] ++ joinL [32] (((y :: r).map qt).map (escL true)) = qt (escL true x) ++ [32] ++ joinL [32] (((y :: r).map (escL true)).map qt)) ↔ _
          rw [e1, e2]
          exact List.append_right_inj _
        rw [this, ih]
        simp [hx]
    | false =>
      obtain ⟨a, b, ha, hb⟩ := unsafe_heads hx
      have hn : ¬ (joinL [32] (((x :: r).map qt).map (escL true)) = joinL [32] (((x :: r).map (escL true)).map qt)) := by
        cases r with
        | nil =>
          show ¬ (escL true (qt x) = qt (escL true x))
          rw [ha, hb]; intro e; cases e
        | cons y r =>
          show ¬ (escL true (qt x) ++ [32] ++ joinL [32] (((y :: r).map qt).map (escL true)) = qt (escL true x) ++ [32] ++ joinL [32] (((y :: r).map (escL true)).map qt))
          rw [ha, hb]; intro e
          have := congrArg List.head? e
          simp at this
      constructor
      · intro e; exact absurd e hn
      · intro h; have := h x (List.mem_cons_self ..); rw [hx] at this; cases this
/-- a word of the line that the law tells -/
noncomputable def wordL (l : List Nat) : List Nat := if isSafe l then l else escL true (joinL [34, 39, 34] ((splitL 39 l).map fun p => 39 :: (p ++ [39])))
noncomputable def lineL (ws : List (List Nat)) : List Nat := joinL [32] (ws.map wordL)
theorem join_parts : ∀ (p : List Nat) (ps : List (List Nat)), joinL [34, 39, 34] ((p :: ps).map fun p => 39 :: (p ++ [39])) = 39 :: (joinL [39, 34, 39, 34, 39] (p :: ps) ++ [39])
  | p, [] => rfl
  | p, q :: r => by
    have ih := join_parts q r
    show (39 :: (p ++ [39])) ++ [34, 39, 34] ++ joinL [34, 39, 34] ((q :: r).map fun p => 39 :: (p ++ [39])) = 39 :: ((p ++ [39, 34, 39, 34, 39] ++ joinL [39, 34, 39, 34, 39] (q :: r)) ++ [39])
    rw [ih]
    simp [List.append_assoc]
theorem sub_split (z : List Nat) : ∀ l : List Nat, joinL z (splitL 39 l) = sub1 39 z l
  | [] => rfl
  | c :: r => by
    have ih := sub_split z r
    obtain ⟨p, ps, e⟩ := splitL_ne 39 r
    rw [e] at ih
    show joinL z (if c = 39 then [] :: splitL 39 r else match splitL 39 r with | [] => [[c]] | p :: ps => (c :: p) :: ps) = (if c = 39 then z else [c]) ++ sub1 39 z r
    rw [e, ← ih]
    split
    · show [] ++ z ++ joinL z (p :: ps) = _
      rw [List.nil_append]
    · show joinL z ((c :: p) :: ps) = _
      cases ps with
      | nil => rfl
      | cons q r => simp [joinL]
theorem word_is (l : List Nat) : wordL l = escL true (qt l) := by
  unfold wordL
  cases h : isSafe l with
  | true =>
    have e := safe_fix h
    rw [e.2, e.1]; rfl
  | false =>
    rw [qt_unsafe h, if_neg (by decide)]
    obtain ⟨p, ps, e⟩ := splitL_ne 39 l
    have e2 := sub_split [39, 34, 39, 34, 39] l
    rw [e] at e2 ⊢
    rw [join_parts, e2]; rfl
theorem line_is (ws : List (List Nat)) : escL true (joinL [32] (ws.map qt)) = lineL ws := by
  unfold lineL
  rw [escL_join, List.map_map]
  congr 1
  exact List.map_congr_left fun l _ => (word_is l).symm
/-! the law's own cutting -/
noncomputable def addLast (ws : List (List Nat)) (x : List Nat) : List (List Nat) := ws.dropLast ++ [ws.getLastD [] ++ x]
theorem addLast_snoc (ws : List (List Nat)) (a x : List Nat) : addLast (ws ++ [a]) x = ws ++ [a ++ x] := by
  unfold addLast; simp
noncomputable def cutGo : List Nat → Bool → List (List Nat) → List (List Nat)
  | [], _, wds => wds
  | c :: r, b, wds =>
    if ws c then cutGo r false wds
    else if c = 92 then
      match r with
      | [] => addLast (if b then wds else wds ++ [[]]) []
      | d :: r' => cutGo r' true (addLast (if b then wds else wds ++ [[]]) [d])
    else cutGo r true (addLast (if b then wds else wds ++ [[]]) [c])
theorem cut_w {c : Nat} {r : List Nat} {b : Bool} {wds : List (List Nat)} (h : ws c = true) : cutGo (c :: r) b wds = cutGo r false wds := by cases r <;> simp [cutGo, h]
theorem cut_e {d : Nat} {r : List Nat} {b : Bool} {wds : List (List Nat)} : cutGo (92 :: d :: r) b wds = cutGo r true (addLast (if b then wds else wds ++ [[]]) [d]) := by
  rw [cutGo, if_neg (by decide), if_pos rfl]
theorem cut_p {c : Nat} {r : List Nat} {b : Bool} {wds : List (List Nat)} (hw : ¬ ws c = true) (h : ¬ c = 92) : cutGo (c :: r) b wds = cutGo r true (addLast (if b then wds else wds ++ [[]]) [c]) := by cases r <;> simp [cutGo, h, hw]
structure Bare (l : List Nat) : Prop where
  q1 : 39 ∉ l
  q2 : 34 ∉ l
  lst : l.getLast? ≠ some 92
theorem Bare.tail {c : Nat} {r : List Nat} (h : Bare (c :: r)) : Bare r := by
  refine ⟨fun m => h.q1 (List.mem_cons_of_mem _ m), fun m => h.q2 (List.mem_cons_of_mem _ m), ?_⟩
  cases r with
  | nil => simp
  | cons d r => have := h.lst; simpa using this
theorem ofL_one (tok : List Nat) (c : Nat) : ofL tok ++ ⟨#[c]⟩ = ofL (tok ++ [c]) := ofL_append tok [c]
theorem cut_a : ∀ (n : Nat) (l tok : List Nat), l.length ≤ n → tok ≠ [] → Bare l → ∃ tok' st rest, lexGo l .a false (ofL tok) = some (some (ofL tok'), st, rest) ∧ (st = .sp ∨ (st = .non ∧ rest = [])) ∧ Bare rest ∧ rest.length ≤ l.length ∧
    ∀ wds, cutGo l true (wds ++ [tok]) = cutGo rest false (wds ++ [tok'])
  | n, [], tok, _, ht, _ => by
    have h0 : tok.length ≠ 0 := by simpa using ht
    refine ⟨tok, .non, [], ?_, .inr ⟨rfl, rfl⟩, ⟨by simp, by simp, by simp⟩, Nat.le_refl _, fun _ => rfl⟩
    simp [lexGo, finT, ofL_len, h0]
  | 0, c :: r, _, h, _, _ => absurd h (by simp)
  | n + 1, c :: r, tok, hn, ht, hb => by
    have h0 : tok.length ≠ 0 := by simpa using ht
    have hc39 : c ≠ 39 := fun e => hb.q1 (e ▸ List.mem_cons_self ..)
    have hc34 : c ≠ 34 := fun e => hb.q2 (e ▸ List.mem_cons_self ..)
    rw [List.length_cons] at hn
    by_cases hw : ws c = true
    · refine ⟨tok, .sp, r, ?_, .inl rfl, hb.tail, Nat.le_succ _, fun wds => ?_⟩
      · rw [lexGo, if_pos hw]
        simp [finT, ofL_len, h0]
      · rw [cut_w hw]
    · by_cases h92 : c = 92
      · subst h92
        cases r with
        | nil => exact absurd rfl hb.lst
        | cons d r' =>
          obtain ⟨tok', st, rest, h1, h2, h3, h4, h5⟩ := cut_a n r' (tok ++ [d]) (by rw [List.length_cons] at hn; omega) (by simp) hb.tail.tail
          refine ⟨tok', st, rest, ?_, h2, h3, by simp only [List.length_cons]; omega, fun wds => ?_⟩
          · rw [lexGo, if_neg hw, if_neg hc39, if_neg hc34, if_pos rfl, lexGo, ofL_one]; exact h1
          · rw [cut_e]
            show cutGo r' true (addLast (wds ++ [tok]) [d]) = _
            rw [addLast_snoc]; exact h5 wds
      · obtain ⟨tok', st, rest, h1, h2, h3, h4, h5⟩ := cut_a n r (tok ++ [c]) (by omega) (by simp) hb.tail
        refine ⟨tok', st, rest, ?_, h2, h3, by simp only [List.length_cons]; omega, fun wds => ?_⟩
        · rw [lexGo, if_neg hw, if_neg hc39, if_neg hc34, if_neg h92, ofL_one]; exact h1
        · rw [cut_p hw h92]
          show cutGo r true (addLast (wds ++ [tok]) [c]) = _
          rw [addLast_snoc]; exact h5 wds
theorem lexes_same {l r : List Nat} {xs : List Str} (h : Lexes r .sp xs) (e : lexGo l .sp false (Str.ofString "") = lexGo r .sp false (Str.ofString "")) : Lexes l .sp xs := by
  cases h with
  | stop h1 h2 => exact .stop h1 (e.trans h2)
  | tok h1 h2 h3 => exact .tok h1 (e.trans h2) h3
theorem cut_b : ∀ (n : Nat) (l : List Nat), l.length ≤ n → Bare l → ∃ xs : List (List Nat), Lexes l .sp (xs.map ofL) ∧ ∀ wds, cutGo l false wds = wds ++ xs
  | n, [], _, _ => ⟨[], .stop (st' := .non) (rs' := []) (by intro e; cases e) rfl, fun wds => by simp [cutGo]⟩
  | 0, c :: r, h, _ => absurd h (by simp)
  | n + 1, c :: r, hn, hb => by
    have hc39 : c ≠ 39 := fun e => hb.q1 (e ▸ List.mem_cons_self ..)
    have hc34 : c ≠ 34 := fun e => hb.q2 (e ▸ List.mem_cons_self ..)
    rw [List.length_cons] at hn
    have fin : ∀ (tok l' : List Nat), tok ≠ [] → Bare l' → l'.length ≤ n → lexGo (c :: r) .sp false (Str.ofString "") = lexGo l' .a false (ofL tok) → (∀ wds, cutGo (c :: r) false wds = cutGo l' true (wds ++ [tok])) →
        ∃ xs : List (List Nat), Lexes (c :: r) .sp (xs.map ofL) ∧ ∀ wds, cutGo (c :: r) false wds = wds ++ xs := by
      intro tok l' ht hb' hl' e1 e2
      obtain ⟨tok', st, rest, h1, h2, h3, h4, h5⟩ := cut_a n l' tok hl' ht hb'
      rcases h2 with rfl | ⟨rfl, rfl⟩
      · obtain ⟨xs, g1, g2⟩ := cut_b n rest (by omega) h3
        refine ⟨tok' :: xs, .tok (by intro e; cases e) (e1.trans h1) g1, fun wds => ?_⟩
        rw [e2, h5, g2]; simp
      · refine ⟨[tok'], .tok (by intro e; cases e) (e1.trans h1) (.stop (st' := .non) (rs' := []) (by intro e; cases e) rfl), fun wds => ?_⟩
        rw [e2, h5]; rfl
    by_cases hw : ws c = true
    · obtain ⟨xs, g1, g2⟩ := cut_b n r (by omega) hb.tail
      refine ⟨xs, lexes_same g1 ?_, fun wds => ?_⟩
      · rw [lexGo, if_neg (by decide), if_pos hw]
      · rw [cut_w hw]; exact g2 wds
    · by_cases h92 : c = 92
      · subst h92
        cases r with
        | nil => exact absurd rfl hb.lst
        | cons d r' =>
          refine fin [d] r' (by simp) hb.tail.tail (by rw [List.length_cons] at hn; omega) ?_ ?_
          · rw [lexGo, if_neg (by decide), if_neg hw, if_pos rfl, lexGo]; rfl
          · intro wds
            rw [cut_e]
            show cutGo r' true (addLast (wds ++ [[]]) [d]) = _
            rw [addLast_snoc]; rfl
      · refine fin [c] r (by simp) hb.tail (by omega) ?_ ?_
        · rw [lexGo, if_neg (by decide), if_neg hw, if_neg h92, if_neg hc39, if_neg hc34]; rfl
        · intro wds
          rw [cut_p hw h92]
          show cutGo r true (addLast (wds ++ [[]]) [c]) = _
          rw [addLast_snoc]; rfl
theorem lexes_cut {l : List Nat} (h : Bare l) : Lexes l .sp ((cutGo l false []).map ofL) := by
  obtain ⟨xs, h1, h2⟩ := cut_b l.length l (Nat.le_refl _) h
  rw [h2]; exact h1
theorem esc_free {l : List Nat} : 39 ∉ escL true l ∧ 34 ∉ escL true l := by
  have : ∀ c, 39 ∉ escC true c ∧ 34 ∉ escC true c := by
    intro c
    unfold escC
    by_cases h1 : c = 38; · subst h1; decide
    by_cases h2 : c = 60; · subst h2; decide
    by_cases h3 : c = 62; · subst h3; decide
    by_cases h4 : c = 34; · subst h4; decide
    by_cases h5 : c = 39; · subst h5; decide
    simp [h1, h2, h3, h4, h5, Ne.symm h4, Ne.symm h5]
  constructor <;> (intro h; obtain ⟨c, _, hc⟩ := List.mem_flatMap.mp h)
  · exact (this c).1 hc
  · exact (this c).2 hc
theorem last_word (l : List Nat) : (wordL l) ≠ [] ∧ (wordL l).getLast? ≠ some 92 := by
  cases h : isSafe l with
  | true =>
    obtain ⟨h1, h2⟩ := isSafe_all h
    unfold wordL
    rw [if_pos h]
    refine ⟨h1, fun e => ?_⟩
    have := h2 92 (List.mem_of_getLast? e)
    rw [uns_small.2.2.2.2.2.2.1] at this; cases this
  | false =>
    rw [word_is, qt_unsafe h]
    unfold q39
    rw [escL_cons, escL_append]
    have e : escL true [39] = [38, 35, 120, 50, 55, 59] := rfl
    rw [e]
    refine ⟨by simp, ?_⟩
    rw [← List.append_assoc]
    simp
theorem last_join : ∀ ps : List (List Nat), (∀ p ∈ ps, p ≠ [] ∧ p.getLast? ≠ some 92) → (joinL [32] ps).getLast? ≠ some 92
  | [], _ => by simp [joinL]
  | [x], h => (h x (List.mem_singleton.mpr rfl)).2
  | x :: y :: r, h => by
    have ih := last_join (y :: r) fun p hp => h p (List.mem_cons_of_mem _ hp)
    show (x ++ [32] ++ joinL [32] (y :: r)).getLast? ≠ some 92
    rw [List.getLast?_append]
    cases hj : (joinL [32] (y :: r)).getLast? with
    | none => simp
    | some k => rw [hj] at ih; simpa using ih
theorem bare_line (ws : List (List Nat)) : Bare (lineL ws) := by
  refine ⟨?_, ?_, ?_⟩
  · rw [← line_is]; exact esc_free.1
  · rw [← line_is]; exact esc_free.2
  · unfold lineL
    refine last_join _ fun p hp => ?_
    obtain ⟨l, _, rfl⟩ := List.mem_map.mp hp
    exact last_word l
end Mine
end
section
open PySem PySem.W PyProof.Rows
namespace Mine
/-! the signs of the law's texts -/
theorem ofL_eq {a b : List Nat} (h : ofL a = ofL b) : a = b := congrArg (fun z : Str => z.cps.toList) h
theorem sub1_signs {c n : Nat} {z : List Nat} (hz : ∀ k ∈ z, k < n) {l : List Nat} (h : ∀ k ∈ l, k < n) : ∀ k ∈ sub1 c z l, k < n := fun k hk => by
  obtain ⟨q, hq, hk⟩ := List.mem_flatMap.mp hk
  by_cases e : q = c
  · rw [if_pos e] at hk; exact hz k hk
  · rw [if_neg e, List.mem_singleton] at hk; rw [hk]; exact h q hq
theorem escC_signs (q : Bool) {c : Nat} (h : c < 1114112) : ∀ k ∈ escC q c, k < 1114112 := by
  unfold escC
  (repeat' split) <;> simp <;> omega
theorem escL_signs {q : Bool} {l : List Nat} (h : ∀ c ∈ l, c < 1114112) : ∀ c ∈ escL q l, c < 1114112 := fun k hk => by
  obtain ⟨c, hc, hk⟩ := List.mem_flatMap.mp hk
  exact escC_signs q (h c hc) k hk
theorem qt_signs {l : List Nat} (h : ∀ c ∈ l, c < 1114112) : ∀ c ∈ qt l, c < 1114112 := by
  unfold qt
  split
  · simp
  · split
    · intro c hc
      rcases List.mem_cons.mp hc with rfl | hc
      · decide
      rcases List.mem_append.mp hc with hc | hc
      · exact sub1_signs (by decide) h c hc
      · rw [List.mem_singleton.mp hc]; decide
    · exact h
theorem joinL_signs {z : List Nat} (hz : ∀ c ∈ z, c < 1114112) : ∀ ls : List (List Nat), (∀ l ∈ ls, ∀ c ∈ l, c < 1114112) → ∀ c ∈ joinL z ls, c < 1114112
  | [], _ => fun _ h => nomatch h
  | [x], h => h x (.head _)
  | x :: y :: r, h => fun c hc => by
    rcases List.mem_append.mp (show c ∈ (x ++ z) ++ joinL z (y :: r) from hc) with hc | hc
    · rcases List.mem_append.mp hc with hc | hc
      · exact h x (.head _) c hc
      · exact hz c hc
    · exact joinL_signs hz (y :: r) (fun l hl => h l (.tail _ hl)) c hc
theorem last_signs {P : Nat → Prop} {wds : List (List Nat)} (h : ∀ l ∈ wds, ∀ c ∈ l, P c) {x : List Nat} (hx : ∀ c ∈ x, P c) : ∀ l ∈ addLast wds x, ∀ c ∈ l, P c := fun l hl c hc => by
  unfold addLast at hl
  rcases List.mem_append.mp hl with hl | hl
  · exact h l (List.dropLast_subset _ hl) c hc
  · rw [List.mem_singleton] at hl
    subst hl
    rcases List.mem_append.mp hc with hc | hc
    · cases hw : wds.getLast? with
      | none => rw [List.getLastD_eq_getLast?, hw] at hc; exact nomatch hc
      | some w => rw [List.getLastD_eq_getLast?, hw] at hc; exact h w (List.mem_of_getLast? hw) c hc
    · exact hx c hc
theorem more_signs {P : Nat → Prop} {wds : List (List Nat)} {b : Bool} (h : ∀ l ∈ wds, ∀ c ∈ l, P c) : ∀ l ∈ (if b then wds else wds ++ [[]]), ∀ c ∈ l, P c := by
  cases b
  · intro l hl
    rcases List.mem_append.mp (show l ∈ wds ++ [[]] from hl) with hl | hl
    · exact h l hl
    · rw [List.mem_singleton.mp hl]; exact fun _ h => nomatch h
  · exact h
theorem cut_signs {P : Nat → Prop} : ∀ (n : Nat) (l : List Nat) (b : Bool) (wds : List (List Nat)), l.length ≤ n → (∀ c ∈ l, P c) → (∀ l ∈ wds, ∀ c ∈ l, P c) → ∀ w ∈ cutGo l b wds, ∀ c ∈ w, P c
  | _, [], _, _, _, _, hw => hw
  | 0, _ :: _, _, _, hl, _, _ => by simp at hl
  | n + 1, c :: r, b, wds, hl, h, hw => by
    have hr : r.length ≤ n := by simpa using hl
    by_cases e : ws c = true
    · rw [cut_w e]; exact cut_signs n r false wds hr (fun k hk => h k (.tail _ hk)) hw
    by_cases e2 : c = 92
    · subst e2
      cases r with
      | nil =>
        show ∀ w ∈ addLast (if b then wds else wds ++ [[]]) [], ∀ c ∈ w, P c
        exact last_signs (more_signs hw) (fun _ h => nomatch h)
      | cons d r' =>
        rw [cut_e]
        exact cut_signs n r' true _ (by simp at hr; omega) (fun k hk => h k (.tail _ (.tail _ hk))) (last_signs (more_signs hw) (fun k hk => by rw [List.mem_singleton.mp hk]; exact h d (.tail _ (.head _))))
    · rw [cut_p e e2]
      exact cut_signs n r true _ hr (fun k hk => h k (.tail _ hk)) (last_signs (more_signs hw) (fun k hk => by rw [List.mem_singleton.mp hk]; exact h c (.head _)))
theorem line_signs {wds : List (List Nat)} (h : ∀ l ∈ wds, ∀ c ∈ l, c < 1114112) : ∀ c ∈ lineL wds, c < 1114112 := by
  rw [← line_is]
  refine escL_signs (joinL_signs (by decide) _ fun l hl => ?_)
  obtain ⟨l', hl', rfl⟩ := List.mem_map.mp hl
  exact qt_signs (h l' hl')
theorem due_signs {wds : List (List Nat)} (h : ∀ l ∈ wds, ∀ c ∈ l, c < 1114112) : ∀ w ∈ cutGo (lineL wds) false [], ∀ c ∈ w, c < 1114112 :=
  cut_signs _ _ _ _ (Nat.le_refl _) (line_signs h) (fun _ h => nomatch h)
theorem bare_is (wds : List (List Nat)) : decide ((wds.filter fun l => !isSafe l).map ofL = []) = wds.all isSafe := by
  rw [Bool.eq_iff_iff]
  simp [List.filter_eq_nil_iff]
theorem both_is (wds : List (List Nat)) : (ofL (escL true (joinL [32] (wds.map qt))) == ofL (joinL [32] ((wds.map (escL true)).map qt))) = wds.all isSafe := by
  rw [Bool.eq_iff_iff, beq_iff_eq, List.all_eq_true, ← line2_eq, escL_join]
  exact ⟨ofL_eq, fun h => congrArg ofL h⟩
theorem cutGo_len : ∀ (n : Nat) (l : List Nat) (b : Bool) (wds : List (List Nat)), l.length ≤ n → (cutGo l b wds).length ≤ l.length + wds.length
  | _, [], b, wds, _ => by show wds.length ≤ _; simp
  | 0, _ :: _, _, _, hl => by simp at hl
  | n + 1, c :: r, b, wds, hl => by
    have hr : r.length ≤ n := by simpa using hl
    have hadd : ∀ x, (addLast (if b then wds else wds ++ [[]]) x).length ≤ wds.length + 1 := by
      intro x
      unfold addLast
      cases b <;> simp
    by_cases e : ws c = true
    · rw [cut_w e]
      have := cutGo_len n r false wds hr
      simp at this ⊢; omega
    by_cases e2 : c = 92
    · subst e2
      cases r with
      | nil =>
        show (addLast (if b then wds else wds ++ [[]]) []).length ≤ _
        have := hadd []
        simp; omega
      | cons d r' =>
        rw [cut_e]
        have h1 := hadd [d]
        have := cutGo_len n r' true (addLast (if b then wds else wds ++ [[]]) [d]) (by simp at hr; omega)
        simp at this ⊢; omega
    · rw [cut_p e e2]
      have h1 := hadd [c]
      have := cutGo_len n r true (addLast (if b then wds else wds ++ [[]]) [c]) hr
      simp at this ⊢; omega
end Mine
end
section
open PySem PySem.W PyProof.Rows
namespace Mine
/-! a text's single signs; a list's last item -/
theorem slice1 (x : Str) (i : Nat) : Txt.slice x (some (i : Int)) (some ((i : Int) + 1)) = ofL ((x.cps.toList.drop i).take 1) := by
  rcases Nat.lt_or_ge i x.length with h | h
  · have := StrLaws.sliceText_nat x (a := i) (b := i + 1) (Nat.le_succ _) h
    rw [show i + 1 - i = 1 by omega] at this
    exact this
  · have hd : x.cps.toList.drop i = [] := List.drop_eq_nil_of_le (by rw [Array.length_toList]; exact h)
    rw [hd]
    have hl : x.cps.toList.drop x.length = [] := List.drop_eq_nil_of_le (by rw [Array.length_toList]; exact Nat.le_refl _)
    have e : Builtin.Str.strSliceIndices (some (i : Int)) (some ((i : Int) + 1)) 1 x.length = Builtin.Str.strSliceIndices (some (x.length : Int)) (some (x.length : Int)) 1 x.length := by
      unfold Builtin.Str.strSliceIndices
      have h1 : ¬ ((i : Int) < 0) := by omega
      have h2 : ¬ ((i : Int) + 1 < 0) := by omega
      have h3 : ¬ ((x.length : Int) < 0) := by omega
      have h4 : min (i : Int) (x.length : Int) = (x.length : Int) := by omega
      have h5 : min ((i : Int) + 1) (x.length : Int) = (x.length : Int) := by omega
      simp [h1, h2, h3, h4, h5]
    have := StrLaws.sliceText_nat x (a := x.length) (b := x.length) (Nat.le_refl _) (Nat.le_refl _)
    rw [hl] at this
    have e2 : StrLaws.sliceText x (some (i : Int)) (some ((i : Int) + 1)) = StrLaws.sliceText x (some (x.length : Int)) (some (x.length : Int)) := by
      unfold StrLaws.sliceText
      rw [e]
    rw [List.take_nil] at this
    exact e2.trans this
theorem item_is {x : Str} {i c : Nat} (h : x.cps.toList[i]? = some c) : Txt.item x (i : Int) = ⟨#[c]⟩ := by
  unfold Txt.item
  have h' : x.cps[i]? = some c := by rw [← Array.getElem?_toList]; exact h
  have hi : i < x.length := (Array.getElem?_eq_some_iff.mp h').1
  have hs : seqIndex? (i : Int) x.length = some i := by
    unfold seqIndex?
    have h1 : ¬ ((i : Int) < 0) := by omega
    simp only [h1, if_false]
    rw [if_pos (by simp only [Bool.and_eq_true, decide_eq_true_eq]; omega)]
    rfl
  unfold Txt.charAt
  simp [hs, h']
section
variable {prog : Program} {w : World} {A : Around} {E : Value → Shared → Prop} {s : Shared} {h₀ : Heap} {L D : Addr} {m : Str → Option Value} {news news' : List (Addr × Obj)} {us : List Value} {n : Nat} {y v : Value} {t : Tok}
theorem get_last {Q : Value → Shared → Prop} (N : News h₀ L s.heap news) (hm : (D, listOf (us ++ [y]).toArray n) ∈ news) (k : Q y s) : wpAny (model prog w) A (getItem (.ref D) (.int (-1) t)) Q E s := by
  refine wpAny_getItem_list_neg (N.isList hm) (by decide) ?_ (by decide) ?_ k
  · simp; omega
  · have : (-1 + ((us ++ [y]).toArray.size : Int)).toNat = us.length := by simp; omega
    rw [this]; simp
theorem ki_last (y v : Value) : ∀ us : List Value, ki_setL (us ++ [y]) us.length v = some (us ++ [v])
  | [] => rfl
  | a :: r => by
    have ih := ki_last y v r
    show (match ki_setL (r ++ [y]) r.length v with | some q => some (a :: q) | none => none) = _
    rw [ih]; rfl
theorem set_last {Q : Unit → Shared → Prop} (F : Fr h₀ L s.heap m) (N : News h₀ L s.heap news) (U : Upd D (listOf (us ++ [y]).toArray n) (listOf (us ++ [v]).toArray n) news news')
    (h : ∀ h', Fr h₀ L h' m → News h₀ L h' news' → Q () { s with heap := h' }) : wpAny (model prog w) A (setItem (.ref D) (.int (-1) t) v) Q E s := by
  refine ki_setNeg (j := us.length) F N (by decide) (by decide) ?_ (ki_last y v us) U h
  have := PySem.seqIndex_neg (k := -1) (n := (us ++ [y]).toArray.size) (by decide) (by simp; omega)
  rw [this]
  simp
  omega
end
theorem strs_last : ∀ {us : List Value} {ws : List Str}, StrsAre us ws → ws ≠ [] → ∃ us' y t ws', us = us' ++ [.str y t] ∧ ws = ws' ++ [y] ∧ StrsAre us' ws'
  | _, _, .cons m t .nil, _ => ⟨[], m, t, [], rfl, rfl, .nil⟩
  | _, _, .cons m t (.cons m' t' h), _ => by
    obtain ⟨us', y, u, ws', e1, e2, h'⟩ := strs_last (.cons m' t' h) (by simp)
    exact ⟨.str m t :: us', y, u, m :: ws', by rw [e1]; rfl, by rw [e2]; rfl, .cons m t h'⟩
theorem map_last {wds : List (List Nat)} {ws' : List Str} {y : Str} (h : wds.map ofL = ws' ++ [y]) : ∃ w0 z, wds = w0 ++ [z] ∧ ws' = w0.map ofL ∧ y = ofL z := by
  obtain ⟨w0, b, e, h1, h2⟩ := List.map_eq_append_iff.mp h
  obtain ⟨z, h3, h4⟩ : ∃ z, b = [z] ∧ ofL z = y := by
    cases b with
    | nil => cases h2
    | cons z r =>
      rw [List.map_cons] at h2
      obtain ⟨h5, h6⟩ := List.cons.inj h2
      exact ⟨z, by rw [List.map_eq_nil_iff.mp h6], h5⟩
  exact ⟨w0, z, by rw [e, h3], h1.symm, h4.symm⟩
end Mine
end
section
open PySem PySem.W PyProof.Rows
namespace Mine
section
variable {prog : Program} {w : World} {A : Around} {E : Value → Shared → Prop} {s : Shared} {env : Env} {h₀ : Heap} {Q : Flow → Shared → Prop}
/-- over range(n) -/
theorem iter_range {x : Str} {px : Pos} {body : List Stmt} {R : Addr} {n : Nat} {t u v : Tok} {m : Str → Option Value} {news : List (Addr × Obj)}
    (hh : A.handled = none) (hr : IsRange s.heap R 0 (n : Int) 1 t u v) (hn : n ≤ 1000000) (hx : env.kindOf x = some .local) (hp : (env.scope.kind == .class || (env.scope.kind == .module && env.locals != env.globals)) = false)
    (F : Fr h₀ env.locals s.heap m) (N : News h₀ env.locals s.heap news) (hE : PassesOwn (model prog w) A env E)
    (J : Nat → (Str → Option Value) → List (Addr × Obj) → Prop) (h0 : J 0 m news)
    (step : ∀ i v m₁ news₁ h tk own I, 0 < tk → i < n → J i m₁ news₁ → (∃ oI, (I, oI) ∈ own) → (∀ p ∈ news₁, p.1 ≠ I) → (∀ p ∈ own, p.1 = I) → Fr h₀ env.locals h (fun y => if y = x then some v else m₁ y) → News h₀ env.locals h (own ++ news₁) →
      wpAny (model prog w) A (execs body env) (LE h₀ env.locals [I] own (J (i + 1)) s Q) E { s with heap := h, toks := tk })
    (done : ∀ h' tk m' news', Fr h₀ env.locals h' m' → News h₀ env.locals h' news' → J n m' news' → Q .next { s with heap := h', toks := tk }) :
    wpAny (model prog w) A (pyIter (.ref R)) (fun it s₂ => Tail prog w A env (.Name x px) body Q E it s₂) E s := by
  refine wpAny_pyIter_range hr (small_one (by decide) (by decide) (by omega) (by omega)) ?_
  have W := Walks.range (prog := prog) (w := w) hh s.heap.objs.size 0 1 n
  have hI0 := next_is_new F
  have hst : IsRangeIter (s.heap.push { cls := .type "range_iterator", data := .fields #[rawInt 0, rawInt (Builtin.Range.rangeSize 0 (n : Int) 1), rawInt 1] }) s.heap.objs.size (0 + ((0 : Nat) : Int) * 1) ((n : Int) - ((0 : Nat) : Int)) 1 := by
    rw [rangeSize_nat, show ((n : Int) - 0).toNat = n by omega, show (0 + ((0 : Nat) : Int) * 1) = 0 by omega, show (n : Int) - ((0 : Nat) : Int) = (n : Int) by omega]
    exact Heap.get?_push_size _ rfl
  refine tail_anyS (s := { s with heap := _ }) W ?_ ?_ ?_ hst (F.push _) (fun p hp => ⟨Heap.get?_push_of_some _ (N p hp).1, (N p hp).2⟩) hE (fun i s' v Q' E' _ _ hQ => wpAny_pure hQ) J h0 ?_ done
  · intro hm
    exact absurd F.ns.lt (List.mem_singleton.mp hm ▸ Nat.lt_irrefl _)
  · intro b hb
    rw [List.mem_singleton.mp hb]
    exact hI0
  · intro p hp hI
    exact absurd (Heap.lt_size (N p hp).1) ((List.mem_singleton.mp hI) ▸ Nat.lt_irrefl _)
  · intro i v m₁ news₁ h tk own hi hP st hown hJ off hsub F₁ N₁
    have hI : (s.heap.objs.size, _) ∈ own := hown _ (.head _) hI0 _ st
    refine wpAny_assign_Name (wpAny_storeName_local hx F₁.ns (fun h₂ hn₂ hs₂ => ?_) hp)
    exact step i v m₁ news₁ h₂ (tk + 1) own _ (Nat.succ_pos _) hi hJ ⟨_, hI⟩ (fun p hp e => off p hp (by rw [e]; exact .head _)) (fun p hp => List.mem_singleton.mp (hsub p hp)) (F₁.set hn₂ hs₂) (N₁.set hs₂)
end
end Mine
end
section
open PySem PySem.W PyProof.Rows
namespace Mine
/-! a generator expression without tests, whose element may call: the surroundings of the element are told, and it may turn the block's own names' object -/
section
variable {prog : Program} {w : World} {A : Around}
noncomputable abbrev gx (elt iter : Expr) (x : Str) (px : Pos) (scope : Scope) (pos : Pos) : Expr := .GeneratorExp elt [⟨.Name x px, iter, [], 0⟩] scope pos
noncomputable def all1 : Nat → Bool := fun _ => true
/-- what the element does -/
noncomputable def EltX (prog : Program) (w : World) (A : Around) (elt iter : Expr) (x : Str) (px : Pos) (scope : Scope) (pos : Pos) (I : Addr) (cenv : Env) (fp wr : List Addr) (P : Nat → Value → Prop) (F : Nat → Value → Prop) (href : Heap) : Prop :=
  ∀ E' i v (s₂ : Shared) m₂, P i v → s₂.heap.Ns cenv.locals m₂ → m₂ x = some v → (∀ b ∈ fp, b ∉ wr → ∀ o, href.get? b = some o → s₂.heap.get? b = some o) →
    wpAny (model prog w) (A.over (.compLoop (gx elt iter x px scope pos) 0 (.ref I) .none cenv) []) (eval elt cenv)
      (fun y s₃ => F i y ∧ ∃ h' tk, s₃ = { s₂ with heap := h', toks := tk } ∧ h'.Ns cenv.locals m₂ ∧ ∀ b o, b ≠ cenv.locals → s₂.heap.get? b = some o → h'.get? b = some o) E' s₂
theorem seg_loopX {elt iter : Expr} {x : Str} {px : Pos} {scope : Scope} {pos : Pos} {I : Addr} {fp wr : List Addr} {n₀ : Nat} {P : Nat → Value → Prop} {St₀ : Nat → Heap → Prop} {cenv : Env}
    (hh : A.handled = none) (W₀ : ∀ A' : Around, A'.handled = none → Walks prog w A' I fp wr n₀ P St₀) (F : Nat → Value → Prop) (href : Heap)
    (hx : cenv.kindOf x = some .local) (hp : (cenv.scope.kind == .class || (cenv.scope.kind == .module && cenv.locals != cenv.globals)) = false)
    (hco : cenv.scope.isCoroutine = false) (hCf : cenv.locals ∉ fp) (hq : EltX prog w A elt iter x px scope pos I cenv fp wr P F href) :
    ∀ (k i : Nat) (s₀ s : Shared) (m : Str → Option Value), n₀ - i = k → i ≤ n₀ → St₀ i s.heap → s.heap.Ns cenv.locals m → GenSince cenv.locals wr s₀ s →
      (∀ b ∈ fp, b ∉ wr → ∀ o, href.get? b = some o → s.heap.get? b = some o) →
      Seg (model prog w) A (fun n s₀ r s₁ => r = .ok .next ∧ (n = 0 ∧ GenSince cenv.locals wr s₀ s₁)) (genProto cenv.locals fp wr all1 n₀ F) (passing all1 n₀ i).length s₀
        (.compLoop (gx elt iter x px scope pos) 0 (.ref I) .none cenv)
        ((model prog w).den (.compLoop (gx elt iter x px scope pos) 0 (.ref I) .none cenv)) [] s := by
  have hh' : (A.over (.compLoop (gx elt iter x px scope pos) 0 (.ref I) .none cenv) []).handled = none := hh
  have hCw : cenv.locals ∉ wr := fun h => hCf ((W₀ A hh).sub _ h)
  intro k
  induction k with
  | zero =>
    intro i s₀ s m hk hi hst hn hsince hkp
    have hin : i = n₀ := by omega
    subst hin
    show Seg _ A _ _ _ s₀ _ ((compTurn (gx elt iter x px scope pos) 0 (.ref I) .none cenv).onRaise (leaving cenv)) [] s
    rw [compTurn_gen, Sem.onRaise_eq_wrap]
    refine seg_bind_wrap (wpAny_standAt ?_)
    refine seg_bind_wrap ((W₀ _ hh').done s _ _ hst fun h' tk hk' => ?_)
    exact seg_end (.ok .next) ⟨rfl, by rw [passing_end]; rfl, hsince.step fun b o _ hw e => hk' b o hw e⟩
  | succ k ih =>
    intro i s₀ s m hk hi hst hn hsince hkp
    have hlt : i < n₀ := by omega
    show Seg _ A _ _ _ s₀ _ ((compTurn (gx elt iter x px scope pos) 0 (.ref I) .none cenv).onRaise (leaving cenv)) [] s
    rw [compTurn_gen, Sem.onRaise_eq_wrap]
    refine seg_bind_wrap (wpAny_standAt ?_)
    refine seg_bind_wrap ((W₀ _ hh').item i s _ _ hlt hst fun v h₁ tk₁ hPv hst₁ hk₁ => ?_)
    refine seg_bind_wrap (wpAny_of_eq (rfl : letOwnedTupleGo (.Name x px) (.ref I) v = pure ()) ?_)
    refine seg_bind_wrap (wpAny_assign_Name (wpAny_storeName_local hx (hn.at' fun o e => hk₁ _ o hCw e) (fun h₂ hn₂ hs₂ => ?_) hp))
    have up₂ : ∀ b o, b ≠ cenv.locals → b ∉ wr → s.heap.get? b = some o → h₂.get? b = some o := fun b o hbC hbw e => hs₂.extBut b o hbC (hk₁ b o hbw e)
    have hst₂ : St₀ (i + 1) h₂ := (W₀ A hh).frame _ _ _ hst₁ fun b hb o e => hs₂.extBut b o (fun h => hCf (h ▸ hb)) e
    have hkp₂ : ∀ b ∈ fp, b ∉ wr → ∀ o, href.get? b = some o → h₂.get? b = some o := fun b hb hbw o e => up₂ b o (fun h => hCf (h ▸ hb)) hbw (hkp b hb hbw o e)
    refine seg_bind_wrap (wpAny_pure ?_)
    rw [passing_true hlt rfl, List.length_cons]
    simp only [if_true]
    have hy : ∀ v, yieldOut cenv v = yieldValue v := fun v => by simp only [yieldOut, hco, Bool.false_eq_true, if_false]
    simp only [hy]
    rw [Sem.bind_eq_wrap', Sem.bind_eq_wrap', Sem.wrap_wrap, Sem.wrap_wrap]
    refine seg_wrap (wpAny_mono (hq _ i v _ _ hPv hn₂ (by simp) hkp₂) (fun y s₄ h₄ => ?_) fun _ _ e => e)
    obtain ⟨hFy, h₄, tk₄, rfl, hn₄, hk₄⟩ := h₄
    have hst₄ : St₀ (i + 1) h₄ := (W₀ A hh).frame _ _ _ hst₂ fun b hb o e => hk₄ b o (fun h => hCf (h ▸ hb)) e
    refine seg_at (seg_yield rfl rfl rfl ⟨⟨i, passing_here hlt rfl, hFy⟩, hsince.step fun b o hbC hbw e => hk₄ b o hbC (up₂ b o hbC hbw e), fun s'' hal => ?_⟩)
    refine seg_again rfl (ih (i + 1) s'' s'' _ (by omega) hlt ((W₀ A hh).frame _ _ _ hst₄ fun b hb o e => hal b (List.mem_cons_of_mem _ hb) o e)
      (hn₄.at' fun o e => hal _ (List.mem_cons_self ..) o e) (GenSince.refl _ _ _) fun b hb hbw o e => hal b (List.mem_cons_of_mem _ hb) o (hk₄ b o (fun h => hCf (h ▸ hb)) (hkp₂ b hb hbw o e)))
theorem seg_startX {elt iter : Expr} {x : Str} {px : Pos} {scope : Scope} {pos : Pos} {I : Addr} {fp wr : List Addr} {n₀ : Nat} {P : Nat → Value → Prop} {St₀ : Nat → Heap → Prop} {cenv : Env}
    (hh : A.handled = none) (W₀ : ∀ A' : Around, A'.handled = none → Walks prog w A' I fp wr n₀ P St₀) (F : Nat → Value → Prop) (href : Heap)
    (hx : cenv.kindOf x = some .local) (hp : (cenv.scope.kind == .class || (cenv.scope.kind == .module && cenv.locals != cenv.globals)) = false)
    (hco : cenv.scope.isCoroutine = false) (hCf : cenv.locals ∉ fp) (hq : EltX prog w A elt iter x px scope pos I cenv fp wr P F href)
    (s₀ s : Shared) (m : Str → Option Value) (hst : St₀ 0 s.heap) (hn : s.heap.Ns cenv.locals m) (hsince : GenSince cenv.locals wr s₀ s)
    (hkp : ∀ b ∈ fp, b ∉ wr → ∀ o, href.get? b = some o → s.heap.get? b = some o) :
    Seg (model prog w) A (fun n s₀ r s₁ => r = .ok .next ∧ (n = 0 ∧ GenSince cenv.locals wr s₀ s₁)) (genProto cenv.locals fp wr all1 n₀ F) (passing all1 n₀ 0).length s₀
      (.compStart (gx elt iter x px scope pos) 0 (.ref I) .none cenv)
      ((model prog w).den (.compStart (gx elt iter x px scope pos) 0 (.ref I) .none cenv)) [] s := by
  have hh' : (A.over (.compStart (gx elt iter x px scope pos) 0 (.ref I) .none cenv) []).handled = none := hh
  have loop := seg_loopX (iter := iter) (px := px) (scope := scope) (pos := pos) hh W₀ F href hx hp hco hCf hq n₀ 0 s₀ s m (Nat.sub_zero _) (Nat.zero_le _) hst hn hsince hkp
  show Seg _ A _ _ _ s₀ _ ((compStart (gx elt iter x px scope pos) 0 (.ref I) .none cenv).onRaise (leaving cenv)) [] s
  unfold compStart
  rw [Sem.onRaise_eq_wrap]
  show Seg _ A _ _ _ s₀ _ ((ask >>= _).wrap _ _ _ _) [] s
  refine seg_bind_wrap (wpAny_askSetting ?_)
  split
  · exact seg_again rfl loop
  · refine seg_bind_wrap (wpAny_rule ?_)
    show Seg _ A _ _ _ s₀ _ ((standAt iter.pos >>= _).wrap _ _ _ _) [] s
    exact seg_bind_wrap (wpAny_standAt (seg_bind_wrap ((W₀ _ hh').self 0 s _ _ hst (seg_again rfl loop))))
theorem gen_freshX {elt iter : Expr} {x : Str} {px : Pos} {scope : Scope} {pos : Pos} {I a : Addr} {g : Nat} {fp wr : List Addr} {n₀ : Nat} {P : Nat → Value → Prop} {St₀ : Nat → Heap → Prop} {cenv : Env}
    (hh : A.handled = none) (W₀ : ∀ A' : Around, A'.handled = none → Walks prog w A' I fp wr n₀ P St₀) (F : Nat → Value → Prop)
    (hx : cenv.kindOf x = some .local) (hp : (cenv.scope.kind == .class || (cenv.scope.kind == .module && cenv.locals != cenv.globals)) = false)
    (hco : cenv.scope.isCoroutine = false) (hCf : cenv.locals ∉ fp) {s : Shared} {m : Str → Option Value} (hq : EltX prog w A.in1 elt iter x px scope pos I cenv fp wr P F s.heap)
    (hg : s.heap.IsGen a g) (hgs : s.gens[g]? = some (.fresh (.compStart (gx elt iter x px scope pos) 0 (.ref I) .none cenv)))
    (hst : St₀ 0 s.heap) (hn : s.heap.Ns cenv.locals m) (hl : s.heap.NoLimit) : GenAt prog w A a g cenv.locals fp wr all1 n₀ F 0 s :=
  ⟨hg, hl, _, hgs, fun s'' hal => ⟨rfl, seg_startX (A := A.in1) hh W₀ F s.heap hx hp hco hCf hq s'' s'' m ((W₀ A hh).frame _ _ _ hst fun b hb o e => hal b (List.mem_cons_of_mem _ hb) o e)
    (hn.at' fun o e => hal _ (List.mem_cons_self ..) o e) (GenSince.refl _ _ _) fun b hb _ o e => hal b (List.mem_cons_of_mem _ hb) o e⟩⟩
end
section
variable {prog : Program} {w : World} {A : Around} {E : Value → Shared → Prop} {s : Shared}
theorem GenExp_X {env : Env} {elt iter : Expr} {x : Str} {px : Pos} {scope : Scope} {cl : List (Str × Addr)} {pos : Pos} {Q : Value → Shared → Prop}
    (hh : A.handled = none) (hco : scope.isCoroutine = false) (hclos : closureFor scope env = pure cl) (hcell : ∀ y ∈ scope.names, y.2 ≠ .cell) (h0 : scope.names.lookup (".0" : Str) = some NameKind.local)
    (hx : scope.names.lookup x = some .local) (hkind : scope.kind = .function) (hroom : A.depth < recursionLimit)
    (h : wpAny (model prog w) A (eval iter env) (fun xv s₁ => wpAny (model prog w) A (pyIter xv) (fun it s₂ => s₂.heap.NoLimit ∧
      wpAny (model prog w) A (genexprCode env pos (env.qual ++ "<genexpr>") scope) (fun code s₃ => wpAny (model prog w) A (builtinsFor env.globals env.builtins) (fun bi s₄ =>
        ∃ I fp wr n₀ P St₀ F, it = .ref I ∧ (∀ A' : Around, A'.handled = none → Walks prog w A' I fp wr n₀ P St₀) ∧ St₀ 0 s₄.heap ∧ (∀ b ∈ fp, b < s₄.heap.objs.size) ∧ s₄.heap.NoLimit ∧ cStatics ∉ wr ∧
          (∀ href : Heap, (∀ b o, s₄.heap.get? b = some o → href.get? b = some o) →
            EltX prog w A.in4.in1 elt iter x px scope pos I (genEnv scope cl s₄.heap.objs.size code bi env) (List.range s₄.heap.objs.size) wr P F href) ∧
          (∀ a h₅ tk gs, gs.bare = true → s₄.heap.objs.size < a → h₅.objs.size = a + 1 → (∀ b o, s₄.heap.get? b = some o → h₅.get? b = some o) →
            WalksS prog w A.in4 a (a :: s₄.heap.objs.size :: List.range s₄.heap.objs.size) (s₄.heap.objs.size :: wr) (GenOnlyQ s₄.gens.size) (passing all1 n₀ 0).length
              (fun j y => ∃ i, (passing all1 n₀ 0)[j]? = some i ∧ F i y) (GenAt prog w A.in4 a s₄.gens.size s₄.heap.objs.size (List.range s₄.heap.objs.size) wr all1 n₀ F) →
            GenAt prog w A.in4 a s₄.gens.size s₄.heap.objs.size (List.range s₄.heap.objs.size) wr all1 n₀ F 0 { s₄ with gens := s₄.gens.push gs, toks := tk, heap := h₅ } →
            Q (.ref a) { s₄ with gens := s₄.gens.push gs, toks := tk, heap := h₅ })) E s₃) E s₂) E s₁) E s)
    (hs : ∀ x, genFold iter env x = pure x) :
    wpAny (model prog w) A (eval (gx elt iter x px scope pos) env) Q E s := by
  refine wpAny_GeneratorExp_make hco hclos hcell h0 hkind hroom (wpAny_mono h (fun xv s₁ h₁ => wpAny_mono h₁ (fun it s₂ h₂ => ⟨h₂.1, wpAny_mono h₂.2 (fun code s₃ h₃ => wpAny_mono h₃ (fun bi s₄ h₄ => ?_)
    fun _ _ e => e) fun _ _ e => e⟩) fun _ _ e => e) fun _ _ e => e) hs
  obtain ⟨I, fp, wr, n₀, P, St₀, F, rfl, W₀, hst, hfp, hl₄, hcw, hq, hQ⟩ := h₄
  have hclt : cStatics < s₄.heap.objs.size := let ⟨_, hn, _⟩ := hl₄; hn.lt
  intro h' hn' hs'
  have hsz : h'.objs.size = s₄.heap.objs.size + 1 := by rw [hs'.1, Heap.size_push]
  have keep' : ∀ b o, s₄.heap.get? b = some o → h'.get? b = some o := fun b o e => hs'.extBut b o (Nat.ne_of_lt (Heap.lt_size e)) (Heap.get?_push_of_some _ e)
  have hsub : ∀ b ∈ wr, b ∈ List.range s₄.heap.objs.size := fun b hb => List.mem_range.mpr (hfp b ((W₀ A hh).sub b hb))
  have haC : h'.objs.size ≠ s₄.heap.objs.size := by rw [hsz]; exact Nat.succ_ne_self _
  have haf : h'.objs.size ∉ List.range s₄.heap.objs.size := fun hm => by have := List.mem_range.mp hm; omega
  have keep₅ : ∀ b o, s₄.heap.get? b = some o → (h'.push { cls := .type "generator", data := .fields #[.int s₄.gens.size 0, .str "<genexpr>" (s₄.toks + 1), .str (env.qual ++ "<genexpr>") (s₄.toks + 1 + 1)] }).get? b = some o :=
    fun b o e => Heap.get?_push_of_some _ (keep' b o e)
  refine hQ _ _ _ _ rfl (by omega) (by rw [Heap.size_push]) keep₅ (WalksS.genexpQ (A := A.in4) hh _ _ _ _ wr all1 n₀ F haC haf hsub hroom (List.mem_range.mpr hclt) (Nat.ne_of_lt hclt) hcw) ?_
  exact gen_freshX (A := A.in4) (cenv := genEnv scope cl s₄.heap.objs.size code bi env) (m := fun y => if y = ".0" then some (.ref I) else none) hh
    (fun A' hA => (W₀ A' hA).mono_fp fun b hb => List.mem_range.mpr (hfp b hb)) F hx (by simp [genEnv, hkind]) hco
    (fun hm => Nat.lt_irrefl _ (List.mem_range.mp hm)) (hq _ keep₅) ⟨_, _, _, Heap.get?_push_size _ rfl, rfl, rfl, rfl⟩ (Array.getElem?_push_size ..) ((W₀ A hh).frame _ _ _ hst fun b _ o e => keep₅ b o e) (hn'.push _) (hl₄.keeps keep₅)
end
end Mine
end
section
open PySem PySem.W PyProof.Rows
namespace Mine
theorem passing_all (n : Nat) : passing all1 n 0 = List.range n := by
  unfold passing
  rw [List.drop_zero]
  exact List.filter_eq_self.mpr fun _ _ => rfl
section
variable {prog : Program} {w : World} {A : Around} {E : Value → Shared → Prop} {s : Shared} {h₀ : Heap} {c P L D : Addr} {ps : Array Value} {m mg : Str → Option Value} {bm : Addr} {ob : Obj} {news : List (Addr × Obj)} {n : Nat} {vs : List Value}
/-- a generator expression over a list of the ledger, in a frame whose code's table stands in the ledger too -/
theorem GenExp_L {env : Env} {elt iter : Expr} {x : Str} {px : Pos} {scope : Scope} {cl : List (Str × Addr)} {pos : Pos} {Q : Value → Shared → Prop}
    (F : Fr h₀ L s.heap m) (N : News h₀ L s.heap ((P, tabObj ps) :: (D, { cls := .type "list", data := .seq vs.toArray n }) :: news)) (C : CodeHd h₀ c P) (M : BMod h₀ env.globals mg bm ob) (hlim : h₀.NoLimit) (ht : TriplesOk ps.toList) (G : AllBare s.gens)
    (hcode : env.code = .ref c)
    (hh : A.handled = none) (hco : scope.isCoroutine = false) (hclos : closureFor scope env = pure cl) (hcell : ∀ y ∈ scope.names, y.2 ≠ .cell) (h0 : scope.names.lookup (".0" : Str) = some NameKind.local)
    (hx : scope.names.lookup x = some .local) (hkind : scope.kind = .function) (hroom : A.depth < recursionLimit)
    (hit : ∀ Q' : Value → Shared → Prop, Q' (.ref D) s → wpAny (model prog w) A (eval iter env) Q' E s) (Fo : Nat → Value → Prop)
    (hq : ∀ (code : Value) (h₄ href : Heap) (oI : Obj), Fr h₀ L h₄ m → News h₀ L h₄ [(s.heap.objs.size, oI)] → (∀ b o, h₄.get? b = some o → href.get? b = some o) →
      EltX prog w A.in4.in1 elt iter x px scope pos s.heap.objs.size (genEnv scope cl h₄.objs.size code builtinsNs env) (List.range h₄.objs.size) [s.heap.objs.size] (fun i v => vs.toArray[i]? = some v) Fo href)
    (hQ : ∀ a ps' (s₅ : Shared), TriplesOk ps'.toList → Fr h₀ L s₅.heap m → News h₀ L s₅.heap ((P, tabObj ps') :: (D, { cls := .type "list", data := .seq vs.toArray n }) :: news) → AllBare s₅.gens → s₅.os = s.os →
      (∀ b o, b ≠ P → s.heap.get? b = some o → s₅.heap.get? b = some o) → Gen prog w A (s.heap.objs.size - 1) a vs.length (fun j y => ∃ i, (passing all1 vs.toArray.size 0)[j]? = some i ∧ Fo i y) s₅ → Q (.ref a) s₅)
    (hs : ∀ x, genFold iter env x = pure x) (hoff : ∀ p ∈ news, p.1 ≠ P) :
    wpAny (model prog w) A (eval (gx elt iter x px scope pos) env) Q E s := by
  have hD := (N _ (.tail _ (.head _))).1
  have hP0 := (N _ (.head _)).1
  have hl : s.heap.IsList D vs.toArray := ⟨_, hD, rfl, n, rfl⟩
  have hlt : D < s.heap.objs.size := Heap.lt_size hD
  have hPlt : P < s.heap.objs.size := Heap.lt_size hP0
  have hPD : D ≠ P := fun e => by
    have h1 := hD; dsimp only at h1; rw [e] at h1; rw [show s.heap.get? P = some (tabObj ps) from hP0] at h1; cases h1
  have hcP : cStatics ≠ P := fun e => by
    obtain ⟨_, hns, _⟩ := hlim
    obtain ⟨o, es, ep, ho, hd, _⟩ := hns
    have := (N _ (.head _)).2.2
    dsimp only at this
    rw [← e, ho] at this; cases this
  refine GenExp_X hh hco hclos hcell h0 hx hkind hroom (hit _ ?_) hs
  refine wpAny_pyIter_list hl ⟨(hlim.keeps F.keep).push _, ?_⟩
  generalize hoI : ({ cls := .type "list_iterator", data := .fields #[.ref D, .int 0 0] } : Obj) = oI
  have hP := Heap.get?_push_of_some oI hP0
  have C2 : CodeHd (s.heap.push oI) c P := C.keeps fun b o e => Heap.get?_push_of_some oI (F.keep b o e)
  have key : wpAny (model prog w) A (genexprCode env pos (env.qual ++ "<genexpr>") scope) (fun code s₃ => ∃ (h₃ : Heap) (tk₃ : Nat) (ps' : Array Value), s₃ = { s with heap := h₃, toks := tk₃ } ∧ TriplesOk ps'.toList ∧
      Heap.ExtBut P (s.heap.push oI) h₃ ∧ (s.heap.push oI).objs.size ≤ h₃.objs.size ∧ h₃.get? P = some (tabObj ps')) E { s with heap := s.heap.push oI } := by
    cases hf : codeAmong pos ps.toList with
    | some c' => exact wpAny_genexprCode_hit hcode (C2.code hP ht) hf ⟨_, _, ps, rfl, ht, fun _ _ _ e => e, Nat.le_refl _, hP⟩
    | none =>
      refine wpAny_genexprCodeX hcode (C2.code hP ht) (C2.tab hP) hf fun c' h₃ tk₃ hx₃ hge hlt hcode₃ _ htab₃ _ => ⟨h₃, tk₃, _, rfl, ?_, hx₃, Nat.le_trans hge (Nat.le_of_lt hlt), htab₃.2⟩
      obtain ⟨_, _, _, _, _, _, _, _, _, _, _, _, _, _, _, _, _, hp1, hp2, htr, _⟩ := hcode₃
      rw [htab₃.2] at hp1; cases hp1; cases hp2
      exact htr
  refine wpAny_mono key (fun code s₃ h₃' => ?_) fun _ _ e => e
  obtain ⟨h₃, tk₃, ps', rfl, ht', hx₃, hsz₃, hP₃⟩ := h₃'
  have hsz : s.heap.objs.size + 1 ≤ h₃.objs.size := by rw [Heap.size_push] at hsz₃; exact hsz₃
  have up : ∀ b o, b ≠ P → s.heap.get? b = some o → h₃.get? b = some o := fun b o hb e => hx₃ b o hb (Heap.get?_push_of_some _ e)
  have hPn : h₀.get? P = none := (N _ (.head _)).2.2
  have F₃ : Fr h₀ L h₃ m := ⟨F.ns.extBut up (N _ (.head _)).2.1.symm, fun b o e => up b o (fun q => by rw [q, hPn] at e; cases e) (F.keep b o e), F.above⟩
  have M₃ : BMod h₃ env.globals mg bm ob := M.keeps F₃.keep
  refine wpAny_builtinsFor M₃.ns M₃.name M₃.ne M₃.obj M₃.cls M₃.dict M₃.data ?_
  have hIlt : s.heap.objs.size < h₃.objs.size := hsz
  have hIP : s.heap.objs.size ≠ P := Nat.ne_of_gt hPlt
  have hI₃ : h₃.get? s.heap.objs.size = some oI := hx₃ _ _ hIP (Heap.get?_push_size _ (by subst hoI; rfl))
  have hI0 : h₀.get? s.heap.objs.size = none := by
    cases q : h₀.get? s.heap.objs.size with
    | none => rfl
    | some o => exact absurd (Heap.lt_size (F.keep _ _ q)) (Nat.lt_irrefl _)
  have hIL : s.heap.objs.size ≠ L := by
    obtain ⟨oL, _, _, hL, _⟩ := F.ns
    exact Nat.ne_of_gt (Heap.lt_size hL)
  have hcl : cStatics < s.heap.objs.size := let ⟨_, hn, _⟩ := hlim.keeps F.keep; hn.lt
  have hl₃ : h₃.IsList D vs.toArray := ⟨_, up D _ hPD hD, rfl, n, rfl⟩
  refine ⟨s.heap.objs.size, [s.heap.objs.size, D], [s.heap.objs.size], vs.toArray.size, _, _, Fo, rfl, (fun A' hA => Walks.list hA _ _ (Nat.ne_of_lt hlt) vs.toArray), ⟨⟨oI, hI₃, by subst hoI; rfl, by subst hoI; rfl⟩, hl₃⟩, ?_, hlim.keeps F₃.keep, ?_, ?_, ?_⟩
  · intro b hb
    rcases List.mem_cons.mp hb with rfl | hb
    · exact hIlt
    · rcases List.mem_cons.mp hb with rfl | hb
      · exact Nat.lt_trans hlt hIlt
      · cases hb
  · intro hm
    rcases List.mem_cons.mp hm with e | hb
    · exact absurd (e ▸ hcl) (Nat.lt_irrefl _)
    · cases hb
  · intro href hhref
    exact hq code h₃ href oI F₃ (fun p hp => by rcases List.mem_cons.mp hp with rfl | hp; exact ⟨hI₃, hIL, hI0⟩; cases hp) hhref
  · intro a h₅ tk gs hgb hag hsz₅ hk₅ W hat
    have hlen : (passing all1 vs.toArray.size 0).length = vs.length := by rw [passing_all, List.length_range, List.size_toArray]
    rw [hlen] at W
    refine hQ a ps' _ ht' (F₃.keeps hk₅) (fun p hp => ?_) (G.push hgb) rfl (fun b o hb e => hk₅ b o (up b o hb e)) ⟨_, _, _, _, W, hat, (fun i s' st => st.1.typeIs), List.mem_cons_self, ?_, ?_⟩
    · rcases List.mem_cons.mp hp with rfl | hp
      · exact ⟨hk₅ _ _ hP₃, (N _ (.head _)).2.1, hPn⟩
      · have q := N _ (.tail _ hp)
        refine ⟨hk₅ _ _ (up _ _ (fun e => ?_) q.1), q.2⟩
        rcases List.mem_cons.mp hp with rfl | hp
        · exact hPD e
        · exact hoff p hp e
    · intro b hb
      show b < h₅.objs.size
      rw [hsz₅]
      rcases List.mem_cons.mp hb with rfl | hb
      · exact Nat.lt_succ_self _
      · rcases List.mem_cons.mp hb with rfl | hb
        · exact Nat.lt_succ_of_lt hag
        · exact Nat.lt_succ_of_lt (Nat.lt_trans (List.mem_range.mp hb) hag)
    · intro b hb
      rcases List.mem_cons.mp hb with rfl | hb
      · show s.heap.objs.size - 1 < h₃.objs.size
        omega
      · rcases List.mem_cons.mp hb with rfl | hb
        · exact Nat.sub_lt (Nat.lt_of_le_of_lt (Nat.zero_le _) hPlt) Nat.one_pos
        · cases hb
end
end Mine
end
section
open PySem PySem.W PyProof.Rows
namespace Mine
section
local macro_rules | `(tactic| o_head $_) => `(tactic| assumption)
theorem pre (h : PySem.Challenge.rw_dn0059_06.row.Holds) : PySem.Challenge.rw_dn0059_06.row.Holds := by
  k_head
end
end Mine
end
open PySem PySem.W PyProof.Rows
namespace Mine
theorem all_ne_lt {l : List (Addr × Obj)} {d c : Nat} (h : ∀ p ∈ l, p.1 < d) (hc : d ≤ c) : ∀ p ∈ l, p.1 ≠ c := fun p hp => Nat.ne_of_lt (Nat.lt_of_lt_of_le (h p hp) hc)
local macro_rules | `(tactic| k_all) => `(tactic| first | assumption | (refine all_ne_lt (by assumption) ?_; omega))
local macro_rules | `(tactic| k_room) => `(tactic| ktr_room)
local macro_rules | `(tactic| walk_at "my enter") => `(tactic| (refine' code_def ?k1 ?k2 ?k3 ?k4 ?k5 ?kA ?kF ?kK ?k6 ?k7 ?k8 ?k9 ?kB ?_ ?c2 ?c3 ?c4 ?c5; (case kA => exact rfl); (case kF => exact rfl); (case kK => assumption); (case k1 => k_asm); (case k2 => k_asm); (case k3 => k_asm); (case k4 => k_asm); (case k5 => k_asm); (case k6 => k_is); (case k7 => k_is); (case k8 => ktr_room); (case k9 => first | exact BindsTo.of_eq rfl | exact binds_K (by k_in) rfl (by k_is) rfl rfl rfl | fail "k_enter: no rule for these arguments"); (case c5 => decide); (case kB => exact locs rfl); (case c2 => exact rfl); (case c3 => exact rfl); (case c4 => exact rfl); k_whole; intro g' L' h' FG' F' N' B' X' T'; (try dsimp only); (try k_lift B'); (try k_fold)))
local macro_rules | `(tactic| walk_at "execs cons") => `(tactic| first | (k_here; k_gentoks) | ((with_reducible refine execs_one ?_); try dsimp only))
local macro_rules | `(tactic| walk_at "ite") => `(tactic| first | with_reducible refine ite_tt ?_ | with_reducible refine ite_ff ?_ | with_reducible refine ite_ntt ?_ | with_reducible refine ite_nff ?_ | (k_closed; first | with_reducible refine ite_bf (by decide) ?_ | with_reducible refine ite_bt (by decide) ?_))
local macro_rules | `(tactic| walk_at "getAttr ref") => `(tactic| (k_here; k_dflt (refine' get_own ?k1 ?k2 ?k3 ?k4 ?k5 ?k6 ?k7 ?k8 ?k9 ?_; (case k1 => k_asm); (case k2 => k_asm); (case k3 => k_inst); (case k8 => k_get); (case k4 => k_is); (case k5 => k_is); (case k6 => k_is); (case k7 => k_is); (case k9 => k_handed); k_whole)))
local macro_rules | `(tactic| walk_at "callWith ref") => `(tactic| (k_here; k_dflt (first | (refine' callWith_K ?k1 ?k2 ?_; (case k1 => k_asm); (case k2 => k_is); k_whole) | (refine' callWith_K0 ?k1 ?k2 ?_; (case k1 => k_in); (case k2 => k_is); k_whole))))

local macro_rules | `(tactic| walk_at $s:str) => `(tactic| k_extra $s)
section
noncomputable abbrev ent (w : World) (k : String) (t : Tok) (v : Value) : DictEntry := ⟨PyData.keyHash w.params (Str.ofString k), .str (Str.ofString k) t, v⟩
noncomputable abbrev sioD (w : World) (u : Nat → Tok) (tp : Tok) (buf : Str) (pos : Int) : List DictEntry :=
  [ent w "_StringIO__newline" (u 0) (.str (Str.ofString "\n") (u 3)), ent w "_StringIO__buf" (u 1) (.str buf (u 4)), ent w "_StringIO__pos" (u 2) (.int pos tp)]
theorem slice_one {buf : Str} {pos : Nat} {c : Nat} {r : List Nat} (h : buf.cps.toList.drop pos = c :: r) : Txt.slice buf (some (pos : Int)) (some ((pos : Int) + 1)) = ⟨#[c]⟩ := by
  have hl : pos < buf.cps.size := by
    have := congrArg List.length h
    simp only [List.length_drop, Array.length_toList, List.length_cons] at this
    omega
  have hc : buf.cps[pos]? = some c := by
    rw [← Array.getElem?_toList, ← List.head?_drop, h]; rfl
  have hi : Builtin.Str.strSliceIndices (some (pos : Int)) (some ((pos : Int) + 1)) 1 buf.length = [pos] := by
    have hl' : pos < buf.length := hl
    unfold Builtin.Str.strSliceIndices sliceRange
    simp only [show (1 : Int) > 0 from by decide, if_true]
    rw [if_neg (show ¬ ((pos : Int) < 0) by omega), if_neg (show ¬ ((pos : Int) + 1 < 0) by omega), show max (0 : Int) (min (pos : Int) (buf.length : Int)) = pos by omega, show max (0 : Int) (min ((pos : Int) + 1) (buf.length : Int)) = pos + 1 by omega, if_pos (by omega), Int.ediv_one, show ((pos : Int) + 1 - pos + 1 - 1).toNat = 1 by omega]
    simp
  unfold Txt.slice
  rw [hi]
  split
  · rename_i h1
    have h2 : buf.cps.size = 1 := by
      have : (1 == buf.length) = true := by simpa using h1
      exact (beq_iff_eq.mp this).symm
    have h3 : pos = 0 := by omega
    subst h3
    cases buf with
    | mk a =>
      congr 1
      refine Array.ext' ?_
      have : a.toList = c :: r := by simpa using h
      have hlen : a.toList.length = 1 := by simpa using h2
      rw [this] at hlen ⊢
      cases r with
      | nil => rfl
      | cons _ _ => simp at hlen
  · simp [hc]
theorem read_any {w : World} {p : Program} {loose : List Str} {mean : ExcName → Option Value} {mg mb : Str → Option Value}
    {dp un : Nat} {gd : Option (List Code)} {cn : Str} {cs : Scope} {a : Addr} {ccd : Value} {cl : List (Str × Addr)} {outer : List Env} {A₀ : Around} {base h₀ : Heap} {L : Addr} {m : Str → Option Value} {s : Shared} {Q E : Value → Shared → Prop}
    {x dx : Addr} {rest : List (Addr × Obj)} {u : Nat → Tok} {t tp : Tok} {buf : Str} {pos : Nat}
    (B : Below A₀ base outer h₀) (F : Fr h₀ L s.heap m) (X : (pre.heap_1 w.params).In h₀)
    (N : News h₀ L s.heap ((x, instObj 597 dx) :: (dx, dictOf (sioD w u tp buf (pos : Int)) 3) :: rest)) (T : Top p loose mean mg mb h₀)
    (hxd : @Ne Nat x dx) (hr : ∀ p ∈ rest, p.1 ≠ dx)
    (hk : cs.kind = .function) (hbl : buf.length ≤ 1000000) (hdp : dp + 3 < recursionLimit) (hun : un + 20 < cLine)
    (hnil : buf.length ≤ pos → ∀ t' h' tk', Fr h₀ L h' m → News h₀ L h' ((x, instObj 597 dx) :: (dx, dictOf (sioD w u tp buf (pos : Int)) 3) :: rest) → Q (.str (Str.ofString "") t') { s with heap := h', toks := tk' })
    (hcons : pos < buf.length → ∀ z : Int, z = ((pos + 1 : Nat) : Int) → ∀ t' tp' h' tk', Fr h₀ L h' m → News h₀ L h' ((x, instObj 597 dx) :: (dx, dictOf (sioD w u tp' buf z) 3) :: rest) → Q (.str (Txt.slice buf (some (pos : Int)) (some z)) t') { s with heap := h', toks := tk' }) :
    wpAny (model Challenge.rw_dn0059_06.row.prog w) (ktrTop dp un gd cn cs L a ccd cl outer) (call (.ref 543) [.ref x, .int 1 t]) Q E s := by
  w_on
  k_with_none
  k_with "subscriptTail" => (k_here; (fail_if_success (with_reducible show wpAny _ _ (subscriptTail (PySem.Expr.Name _ _) _ _ _) _ _ _)); k_dflt (refine kba_turn (value' := PySem.Expr.Name (PySem.Str.ofString "_") ⟨0, 0, 0, 0⟩) (fun _ => rfl) ?_))
  revert X; k_fill; intro X
  refine wpAny_call ?_
  k_dflt (walk_at "my enter")
  k_steps
  all_goals (rename_i kF kN _ _)
  · exact hnil (by omega) _ _ _ kF kN
  · exact hcons (by omega) _ (by omega) _ _ _ _ kF kN
  · exact hcons (by omega) _ (by omega) _ _ _ _ kF kN
theorem read_nil {w : World} {p : Program} {loose : List Str} {mean : ExcName → Option Value} {mg mb : Str → Option Value}
    {dp un : Nat} {gd : Option (List Code)} {cn : Str} {cs : Scope} {a : Addr} {ccd : Value} {cl : List (Str × Addr)} {outer : List Env} {A₀ : Around} {base h₀ : Heap} {L : Addr} {m : Str → Option Value} {s : Shared} {Q E : Value → Shared → Prop}
    {x dx : Addr} {rest : List (Addr × Obj)} {u : Nat → Tok} {t tp : Tok} {buf : Str} {pos : Nat}
    (B : Below A₀ base outer h₀) (F : Fr h₀ L s.heap m) (X : (pre.heap_1 w.params).In h₀)
    (N : News h₀ L s.heap ((x, instObj 597 dx) :: (dx, dictOf (sioD w u tp buf (pos : Int)) 3) :: rest)) (T : Top p loose mean mg mb h₀)
    (hxd : @Ne Nat x dx) (hr : ∀ p ∈ rest, p.1 ≠ dx)
    (hk : cs.kind = .function) (hbl : buf.length ≤ 1000000) (hdp : dp + 3 < recursionLimit) (hun : un + 20 < cLine) (hrs : buf.cps.toList.drop pos = [])
    (hnil : ∀ t' h' tk', Fr h₀ L h' m → News h₀ L h' ((x, instObj 597 dx) :: (dx, dictOf (sioD w u tp buf (pos : Int)) 3) :: rest) → Q (.str (Str.ofString "") t') { s with heap := h', toks := tk' }) :
    wpAny (model Challenge.rw_dn0059_06.row.prog w) (ktrTop dp un gd cn cs L a ccd cl outer) (call (.ref 543) [.ref x, .int 1 t]) Q E s := by
  have hl : buf.length ≤ pos := by
    have := congrArg List.length hrs
    simp only [List.length_drop, Array.length_toList, List.length_nil] at this
    have e : buf.length = buf.cps.size := rfl
    omega
  exact read_any B F X N T hxd hr hk hbl hdp hun (fun _ => hnil) (fun h => absurd h (by omega))
theorem read_cons {w : World} {p : Program} {loose : List Str} {mean : ExcName → Option Value} {mg mb : Str → Option Value}
    {dp un : Nat} {gd : Option (List Code)} {cn : Str} {cs : Scope} {a : Addr} {ccd : Value} {cl : List (Str × Addr)} {outer : List Env} {A₀ : Around} {base h₀ : Heap} {L : Addr} {m : Str → Option Value} {s : Shared} {Q E : Value → Shared → Prop}
    {x dx : Addr} {rest : List (Addr × Obj)} {u : Nat → Tok} {t tp : Tok} {buf : Str} {pos c : Nat} {r : List Nat}
    (B : Below A₀ base outer h₀) (F : Fr h₀ L s.heap m) (X : (pre.heap_1 w.params).In h₀)
    (N : News h₀ L s.heap ((x, instObj 597 dx) :: (dx, dictOf (sioD w u tp buf (pos : Int)) 3) :: rest)) (T : Top p loose mean mg mb h₀)
    (hxd : @Ne Nat x dx) (hr : ∀ p ∈ rest, p.1 ≠ dx)
    (hk : cs.kind = .function) (hbl : buf.length ≤ 1000000) (hdp : dp + 3 < recursionLimit) (hun : un + 20 < cLine) (hrs : buf.cps.toList.drop pos = c :: r)
    (hcons : ∀ t' tp' h' tk', Fr h₀ L h' m → News h₀ L h' ((x, instObj 597 dx) :: (dx, dictOf (sioD w u tp' buf ((pos + 1 : Nat) : Int)) 3) :: rest) → Q (.str ⟨#[c]⟩ t') { s with heap := h', toks := tk' }) :
    wpAny (model Challenge.rw_dn0059_06.row.prog w) (ktrTop dp un gd cn cs L a ccd cl outer) (call (.ref 543) [.ref x, .int 1 t]) Q E s := by
  have hl : pos < buf.length := by
    have := congrArg List.length hrs
    simp only [List.length_drop, Array.length_toList, List.length_cons] at this
    have e : buf.length = buf.cps.size := rfl
    omega
  refine read_any B F X N T hxd hr hk hbl hdp hun (fun h => absurd h (by omega)) (fun _ z hz t' tp' h' tk' F' N' => ?_)
  subst hz
  rw [Int.natCast_add] at *
  rw [show ((1 : Nat) : Int) = 1 from rfl, slice_one hrs]
  exact hcons t' tp' h' tk' F' N'
end
section
noncomputable def wordC : Str := Str.ofString "abcdfeghijklmnopqrstuvwxyzABCDEFGHIJKLMNOPQRSTUVWXYZ0123456789_ßàáâãäåæçèéêëìíîïðñòóôõöøùúûüýþÿÀÁÂÃÄÅÆÇÈÉÊËÌÍÎÏÐÑÒÓÔÕÖØÙÚÛÜÝÞ"
noncomputable abbrev lexD (w : World) (t : Nat → Tok) (x pb fs : Addr) (st : Value) (ln : Int) (tl : Tok) (tok : Str) (tt : Tok) : List DictEntry :=
  [ent w "instream" (t 0) (.ref x), ent w "infile" (t 1) .none, ent w "posix" (t 2) (.bool true), ent w "eof" (t 3) .none,
   ent w "commenters" (t 4) (.str (Str.ofString "") (t 20)), ent w "wordchars" (t 5) (.str wordC (t 21)),
   ent w "whitespace" (t 6) (.str (Str.ofString " \t\r\n") (t 22)), ent w "whitespace_split" (t 7) (.bool true),
   ent w "quotes" (t 8) (.str (Str.ofString "'\"") (t 23)), ent w "escape" (t 9) (.str (Str.ofString "\\") (t 24)), ent w "escapedquotes" (t 10) (.str (Str.ofString "\"") (t 25)),
   ent w "state" (t 11) st, ent w "pushback" (t 12) (.ref pb), ent w "lineno" (t 13) (.int ln tl), ent w "debug" (t 14) (.int 0 (t 26)),
   ent w "token" (t 15) (.str tok tt), ent w "filestack" (t 16) (.ref fs), ent w "source" (t 17) .none, ent w "_punctuation_chars" (t 18) (.str (Str.ofString "") (t 27))]
/-- what a lexer is, but what turns -/
structure LexAt where
  x : Addr
  dx : Addr
  lx : Addr
  ld : Addr
  pb : Addr
  fs : Addr
  t : Nat → Tok
  u : Nat → Tok
  buf : Str
/-- what turns -/
structure LexSt where
  st : LS
  ts : Tok
  tok : Str
  tt : Tok
  ln : Int
  tl : Tok
  pos : Nat
  tp : Tok
noncomputable abbrev lexLed (w : World) (c : LexAt) (k : LexSt) (rest : List (Addr × Obj)) : List (Addr × Obj) :=
  (c.x, instObj 597 c.dx) :: (c.dx, dictOf (sioD w c.u k.tp c.buf (k.pos : Int)) 3) ::
  (c.lx, instObj 732 c.ld) :: (c.ld, dictOf (lexD w c.t c.x c.pb c.fs (k.st.val k.ts) k.ln k.tl k.tok k.tt) 19) :: rest
structure Apart (c : LexAt) (rest : List (Addr × Obj)) : Prop where
  h1 : @Ne Nat c.x c.dx
  h2 : @Ne Nat c.x c.lx
  h3 : @Ne Nat c.x c.ld
  h4 : @Ne Nat c.dx c.lx
  h5 : @Ne Nat c.dx c.ld
  h6 : @Ne Nat c.lx c.ld
  r1 : ∀ p ∈ rest, p.1 ≠ c.dx
  r2 : ∀ p ∈ rest, p.1 ≠ c.ld
section
variable {prog : Program} {w : World} {A : Around} {E : Value → Shared → Prop} {Q : Unit → Shared → Prop} {s : Shared} {h₀ : Heap} {L lx ld x pb fs : Addr} {m : Str → Option Value} {news news' : List (Addr × Obj)} {t : Nat → Tok} {st st' : Value} {ln ln' : Int} {tl tl' tt tt' : Tok} {tok tok' : Str}
theorem lex_tok (F : Fr h₀ L s.heap m) (X₀ : (pre.heap_1 w.params).In h₀) (N : News h₀ L s.heap news) (h1 : (lx, instObj 732 ld) ∈ news) (h2 : (ld, dictOf (lexD w t x pb fs st ln tl tok tt) 19) ∈ news)
    (U : Upd ld (dictOf (lexD w t x pb fs st ln tl tok tt) 19) (dictOf (lexD w t x pb fs st ln tl tok' tt') 19) news news') (h : ∀ h', Fr h₀ L h' m → News h₀ L h' news' → Q () { s with heap := h', toks := s.toks + 2 }) :
    wpAny (model Challenge.rw_dn0059_06.row.prog w) A (setAttr (.ref lx) (Str.ofString "token") (.str tok' tt')) Q E s := by
  w_on
  revert X₀; k_fill; intro X₀
  refine' set_dict F X₀ N (InstAt.of_news N h1 h2) rfl ?k6 ?k7 ?k8 ?k9 ?k10 ?k11 U ?k13 h
  case k6 => k_is
  case k7 => k_is
  case k8 => k_is
  case k9 => k_is
  case k10 => k_get
  case k11 => k_put
  case k13 => exact Nat.le_of_ble_eq_true rfl
theorem lex_st (F : Fr h₀ L s.heap m) (X₀ : (pre.heap_1 w.params).In h₀) (N : News h₀ L s.heap news) (h1 : (lx, instObj 732 ld) ∈ news) (h2 : (ld, dictOf (lexD w t x pb fs st ln tl tok tt) 19) ∈ news)
    (U : Upd ld (dictOf (lexD w t x pb fs st ln tl tok tt) 19) (dictOf (lexD w t x pb fs st' ln tl tok tt) 19) news news') (h : ∀ h', Fr h₀ L h' m → News h₀ L h' news' → Q () { s with heap := h', toks := s.toks + 2 }) :
    wpAny (model Challenge.rw_dn0059_06.row.prog w) A (setAttr (.ref lx) (Str.ofString "state") st') Q E s := by
  w_on
  revert X₀; k_fill; intro X₀
  refine' set_dict F X₀ N (InstAt.of_news N h1 h2) rfl ?k6 ?k7 ?k8 ?k9 ?k10 ?k11 U ?k13 h
  case k6 => k_is
  case k7 => k_is
  case k8 => k_is
  case k9 => k_is
  case k10 => k_get
  case k11 => k_put
  case k13 => exact Nat.le_of_ble_eq_true rfl
theorem lex_ln (F : Fr h₀ L s.heap m) (X₀ : (pre.heap_1 w.params).In h₀) (N : News h₀ L s.heap news) (h1 : (lx, instObj 732 ld) ∈ news) (h2 : (ld, dictOf (lexD w t x pb fs st ln tl tok tt) 19) ∈ news)
    (U : Upd ld (dictOf (lexD w t x pb fs st ln tl tok tt) 19) (dictOf (lexD w t x pb fs st ln' tl' tok tt) 19) news news') (h : ∀ h', Fr h₀ L h' m → News h₀ L h' news' → Q () { s with heap := h', toks := s.toks + 2 }) :
    wpAny (model Challenge.rw_dn0059_06.row.prog w) A (setAttr (.ref lx) (Str.ofString "lineno") (.int ln' tl')) Q E s := by
  w_on
  revert X₀; k_fill; intro X₀
  refine' set_dict F X₀ N (InstAt.of_news N h1 h2) rfl ?k6 ?k7 ?k8 ?k9 ?k10 ?k11 U ?k13 h
  case k6 => k_is
  case k7 => k_is
  case k8 => k_is
  case k9 => k_is
  case k10 => k_get
  case k11 => k_put
  case k13 => exact Nat.le_of_ble_eq_true rfl
end
/-- what the loop of read_token leaves -/
noncomputable abbrev RtQ (w : World) (c : LexAt) (rest : List (Addr × Obj)) (s : Shared) (g : Heap) (L' : Addr) (res : Option Str) (st' : LS) (rs' : List Nat) (f : Flow) (s₂ : Shared) : Prop :=
  f = Flow.next ∧ ∃ (k₂ : LexSt) (q : Bool) (h' : Heap) (tk' : Nat) (m₂ : Str → Option Value), s₂ = { s with heap := h', toks := tk' } ∧ Fr g L' h' m₂ ∧ News g L' h' (lexLed w c k₂ rest) ∧
      m₂ (Str.ofString "self") = some (.ref c.lx) ∧ m₂ (Str.ofString "quoted") = some (.bool q) ∧ k₂.st = st' ∧ c.buf.cps.toList.drop k₂.pos = rs' ∧ k₂.tok.length ≤ 1000000 ∧ res = finT q k₂.tok
/-- what holds between its turns -/
noncomputable abbrev RtJ (w : World) (c : LexAt) (rest : List (Addr × Obj)) (res : Option Str) (st' : LS) (rs' : List Nat) (n : Nat) (m₁ : Str → Option Value) (news₁ : List (Addr × Obj)) : Prop :=
  ∃ (k₁ : LexSt) (q : Bool) (ve : Value), news₁ = lexLed w c k₁ rest ∧ m₁ (Str.ofString "self") = some (.ref c.lx) ∧ m₁ (Str.ofString "quoted") = some (.bool q) ∧ m₁ (Str.ofString "escapedstate") = some ve ∧
      (k₁.st = .esc → ∃ te, ve = .str (Str.ofString "a") te) ∧ n = (c.buf.cps.toList.drop k₁.pos).length ∧ lexGo (c.buf.cps.toList.drop k₁.pos) k₁.st q k₁.tok = some (res, st', rs') ∧ k₁.tok.length + n ≤ 1000000
theorem rt {w : World} {p : Program} {loose : List Str} {mean : ExcName → Option Value} {mg mb : Str → Option Value}
    {dp un : Nat} {gd : Option (List Code)} {cn : Str} {cs : Scope} {a : Addr} {ccd : Value} {cl : List (Str × Addr)} {outer : List Env} {A₀ : Around} {base h₀ : Heap} {L : Addr} {m : Str → Option Value} {s : Shared} {Q E : Value → Shared → Prop}
    {c : LexAt} {k : LexSt} {rest : List (Addr × Obj)} {res : Option Str} {st' : LS} {rs' : List Nat}
    (B : Below A₀ base outer h₀) (F : Fr h₀ L s.heap m) (X : (pre.heap_1 w.params).In h₀)
    (N : News h₀ L s.heap (lexLed w c k rest)) (T : Top p loose mean mg mb h₀) (ap : Apart c rest)
    (hk : cs.kind = .function) (hbl : c.buf.length ≤ 1000000) (hdp : dp + 5 < recursionLimit) (hun : un + 30 < cLine)
    (hgo : lexGo (c.buf.cps.toList.drop k.pos) k.st false k.tok = some (res, st', rs')) (htk : k.tok.length + (c.buf.cps.toList.drop k.pos).length ≤ 1000000) (hne : k.st ≠ .esc)
    (hret : ∀ k' : LexSt, k'.st = st' → c.buf.cps.toList.drop k'.pos = rs' → k'.tok = Str.ofString "" → ∀ t' h' tk', Fr h₀ L h' m → News h₀ L h' (lexLed w c k' rest) → Q (optVal t' res) { s with heap := h', toks := tk' }) :
    wpAny (model Challenge.rw_dn0059_06.row.prog w) (ktrTop dp un gd cn cs L a ccd cl outer) (call (.ref 700) [.ref c.lx]) Q E s := by
  w_on
  k_with_none
  k_with "setAttr ref" => (k_here; k_dflt (first | ((with_reducible show wpAny _ _ (setAttr _ (Str.ofString "token") _) _ _ _); refine' lex_tok ?k1 ?k2 ?k3 ?k4 ?k5 ?k6 ?_; (case k1 => k_asm); (case k2 => k_in); (case k3 => k_asm); (case k4 => k_mem); (case k5 => k_mem); (case k6 => k_upd)) | ((with_reducible show wpAny _ _ (setAttr _ (Str.ofString "state") _) _ _ _); refine' lex_st ?k1 ?k2 ?k3 ?k4 ?k5 ?k6 ?_; (case k1 => k_asm); (case k2 => k_in); (case k3 => k_asm); (case k4 => k_mem); (case k5 => k_mem); (case k6 => k_upd)) | ((with_reducible show wpAny _ _ (setAttr _ (Str.ofString "lineno") _) _ _ _); refine' lex_ln ?k1 ?k2 ?k3 ?k4 ?k5 ?k6 ?_; (case k1 => k_asm); (case k2 => k_in); (case k3 => k_asm); (case k4 => k_mem); (case k5 => k_mem); (case k6 => k_upd))); k_whole; intro zh' zF' zN'; (try k_sweep))
  k_with "exec If" => (with_reducible refine wpAny_If ?_)
  k_with "exec If" => ((with_reducible rename Mk 1 => zhM1); (with_reducible show wpAny _ _ (exec (Stmt.If (Expr.Compare (Expr.Name _ _) [CmpOp.Eq] [Expr.Constant _ _ _] _) [Stmt.AugAssign _ _ _ _] _ _) _) _ _ _); clear zhM1; refine stop_intro ?_)
  k_with "exec While" => refine stop_intro ?_
  k_with "compareOp In str str" => first | (refine in_one (by assumption) ?_) | (refine in_fact (by assumption) ?_)
  k_with "compareOp NotIn str str" => (refine notIn_one (by assumption) ?_)
  k_with "compareOp Eq str str" => first | (refine eq_one (by assumption) ?_) | (refine eq_fact (by assumption) ?_)
  k_with "truthy str" => first | (refine truthy_one ?_; intro _) | (refine truthy_fact (by assumption) (by omega) ?_; intro _)
  k_with "call ref" => ((with_reducible show wpAny _ _ (call (Value.ref 543) _ _) _ _ _); k_dflt (first | (refine' read_cons ?k1 ?k2 ?k3 ?k4 ?k5 ?k6 ?k7 ?k8 ?k9 ?k10 ?k11 ?k12 ?_; (case k1 => k_asm); (case k2 => k_asm); (case k3 => k_asm); (case k4 => k_asm); (case k5 => k_asm); (case k6 => k_ne); (case k7 => k_all); (case k8 => exact rfl); (case k9 => assumption); (case k10 => ktr_room); (case k11 => ktr_units); (case k12 => assumption); intro zt' ztp' zh' ztk' zF' zN'; (try k_sweep); (try dsimp only)) | (refine' read_nil ?k1 ?k2 ?k3 ?k4 ?k5 ?k6 ?k7 ?k8 ?k9 ?k10 ?k11 ?k12 ?_; (case k1 => k_asm); (case k2 => k_asm); (case k3 => k_asm); (case k4 => k_asm); (case k5 => k_asm); (case k6 => k_ne); (case k7 => k_all); (case k8 => exact rfl); (case k9 => assumption); (case k10 => ktr_room); (case k11 => ktr_units); (case k12 => assumption); intro zt' zh' ztk' zF' zN'; (try k_sweep); (try dsimp only))))
  k_with "truthy str" => ((with_reducible rename Mk 2 => zhM2); (with_reducible show wpAny _ _ (truthy (Value.str (Str.mk _) _)) _ _ _); clear zhM2; refine stop_intro ?_)
  revert X; k_fill; intro X
  refine wpAny_call ?_
  k_dflt (walk_at "my enter")
  k_steps
  refine Stop.out ?_
  rename_i g L' hz FG' B' X' T' hy hx F' N'
  refine wpAny_mono (Q := RtQ w c rest s g L' res st' rs') (While_inv2 (RtJ w c rest res st' rs')
      F' N' ⟨k, false, _, rfl, rfl, rfl, rfl, ?_, rfl, hgo, htk⟩ ?_) ?_ (fun _ _ e => e)
  · exact fun e => absurd e hne
  · clear N' F' N F hret hgo htk
    rintro n m₁ news₁ h₁ tk₁ F₁ N₁ ⟨⟨st, ts, tok, tt, ln, tl, pos, tp⟩, q, ve, rfl, hs, hq, he, hes, rfl, hgo, htk⟩
    have F₂ := fr_over [(Str.ofString "self", .ref c.lx), (Str.ofString "quoted", .bool q), (Str.ofString "escapedstate", ve)] F₁ (by simp [hs, hq, he])
    clear F₁ hs hq he
    refine gen_while ?_
    intro Q' R' E' hQ hR
    dsimp only at *
    have ga1 : inT (Str.ofString "a") (Str.ofString "'\"") = false := by decide +kernel
    have ga2 : inT (Str.ofString "a") (Str.ofString "\\") = false := by decide +kernel
    have gb1 : inS 39 (Str.ofString "'\"") = true := by decide +kernel
    have gb2 : inS 34 (Str.ofString "'\"") = true := by decide +kernel
    have gb3 : inS 92 (Str.ofString "'\"") = false := by decide +kernel
    have gb4 : inS 92 (Str.ofString "\\") = true := by decide +kernel
    obtain ⟨a1, a2, a3, a4, a5, a6, r1, r2⟩ := ap
    rcases hrs : c.buf.cps.toList.drop pos with _ | ⟨ch, r⟩
    · rw [hrs] at hgo htk
      have hM : Mk 1 := ⟨⟩
      k_steps
      refine Stop.out ?_
      rename News _ _ _ _ => N₃; rename Fr _ _ _ _ => F₃
      cases st with
      | non =>
        cases q with
        | true => simp [lexGo] at hgo
        | false =>
          dsimp only [lexLed, LS.val] at N₃
          k_steps
          all_goals (rename News _ _ _ _ => NN; rename Fr _ _ _ _ => FF)
          obtain ⟨e1, e2, e3⟩ : res = none ∧ st' = .non ∧ rs' = [] := by simpa [lexGo, eq_comm] using hgo
          exact hQ _ _ ⟨rfl, ⟨.non, 0, _, _, _, _, pos, _⟩, false, _, _, _, rfl, FF, NN, rfl, rfl, e2.symm, by rw [hrs, e3], by exact Nat.zero_le _, e1⟩
      | sp =>
        dsimp only [lexLed, LS.val] at N₃
        k_steps
        all_goals (rename News _ _ _ _ => NN; rename Fr _ _ _ _ => FF)
        obtain ⟨e1, e2, e3⟩ : res = finT q tok ∧ st' = .non ∧ rs' = [] := by simpa [lexGo, eq_comm] using hgo
        exact hQ _ _ ⟨rfl, ⟨.non, 0, _, _, _, _, pos, _⟩, q, _, _, _, rfl, FF, NN, rfl, rfl, e2.symm, by rw [hrs, e3], by simp only [List.length_nil] at htk; dsimp only; omega, e1⟩
      | a =>
        dsimp only [lexLed, LS.val] at N₃
        k_steps
        all_goals (rename News _ _ _ _ => NN; rename Fr _ _ _ _ => FF)
        obtain ⟨e1, e2, e3⟩ : res = finT q tok ∧ st' = .non ∧ rs' = [] := by simpa [lexGo, eq_comm] using hgo
        exact hQ _ _ ⟨rfl, ⟨.non, 0, _, _, _, _, pos, _⟩, q, _, _, _, rfl, FF, (News.sub NN (fun p hp => List.Mem.tail _ hp)), rfl, rfl, e2.symm, by rw [hrs, e3], by simp only [List.length_nil] at htk; dsimp only; omega, e1⟩
      | sq => simp [lexGo] at hgo
      | dq => simp [lexGo] at hgo
      | esc => simp [lexGo] at hgo
    · rw [hrs] at hgo htk
      have hr1 : c.buf.cps.toList.drop (pos + 1) = r := by rw [← List.tail_drop, hrs]; rfl
      have hin := inS_nil ch
      have htk2 : tok.length ≤ 1000000 := by omega
      have hM : Mk 1 := ⟨⟩
      k_steps
      refine Stop.out ?_
      rename News _ _ _ _ => N₃; rename Fr _ _ _ _ => F₃
      refine wpAny_mono (Q := fun f s₂ => Stop (f = Flow.next ∧ ∃ (ln' : Int) (tl' tp' t9 : Tok) (h' : Heap) (tk' : Nat), s₂ = { s with heap := h', toks := tk' } ∧ Fr g L' h' (over [(Str.ofString "nextchar", .str ⟨#[ch]⟩ t9), (Str.ofString "self", .ref c.lx), (Str.ofString "quoted", .bool q), (Str.ofString "escapedstate", ve)] m₁) ∧ News g L' h' (lexLed w c ⟨st, ts, tok, tt, ln', tl', pos + 1, tp'⟩ rest))) ?_ ?_ (fun _ _ e => e)
      · cases hnl : isS ch (Str.ofString "\n")
        · k_steps
          exact Stop.out ⟨rfl, _, _, _, _, _, _, rfl, F₃, N₃⟩
        · k_steps
          rename News _ _ _ _ => NN; rename Fr _ _ _ _ => FF
          exact Stop.out ⟨rfl, _, _, _, _, _, _, rfl, FF, NN⟩
      clear N₃ F₃
      rintro f s₂ ⟨rfl, ln', tl', tp', t9, h₂, tk₂, rfl, F₃, N₃⟩
      dsimp only
      cases st with
      | non =>
        cases q with
        | true => simp [lexGo] at hgo
        | false =>
          dsimp only [lexLed, LS.val] at N₃
          k_steps
          all_goals (rename News _ _ _ _ => NN; rename Fr _ _ _ _ => FF)
          obtain ⟨e1, e2, e3⟩ : res = none ∧ st' = .non ∧ rs' = r := by simpa [lexGo, eq_comm] using hgo
          exact hQ _ _ ⟨rfl, ⟨.non, 0, _, _, _, _, pos + 1, _⟩, false, _, _, _, rfl, FF, NN, rfl, rfl, e2.symm, by rw [hr1, e3], by exact Nat.zero_le _, e1⟩
      | sp =>
        dsimp only [lexLed, LS.val] at N₃
        have hM : Mk 2 := ⟨⟩
        k_steps
        refine Stop.out ?_
        have hq : (tok.length != 0 || q) = false := by
          cases hq : (tok.length != 0 || q) with
          | false => rfl
          | true => simp [lexGo, hq] at hgo
        obtain ⟨hz2, rfl⟩ := Bool.or_eq_false_iff.mp hq
        have hz1 : ((tok.length : Int) != 0) = false := by simpa using hz2
        have hz3 : tok.length = 0 := by simpa using hz2
        rcases cls ch with hc | hc | hc | hc | ⟨c1, c2, c3⟩ | ⟨c1, c2, c3, c4, c5, c6, c7, c8, c9, c10, c11, c12⟩
        · subst hc
          have f_ws : inS 10 (Str.ofString " \t\r\n") = true := by decide +kernel
          k_steps
          all_goals (rename News _ _ _ _ => NN; rename Fr _ _ _ _ => FF)
          exact hQ _ _ ⟨_, _, _, _, _, rfl, FF, NN, by rw [hr1, hrs]; exact Nat.lt_succ_self _, ⟨.sp, _, _, _, _, _, pos + 1, _⟩, false, ve, rfl, rfl, rfl, rfl, (by intro e; cases e), rfl, by rw [hr1]; simpa [lexGo, hz3, ws] using hgo, by rw [hr1]; simp only [List.length_cons, Str.length_append, len1] at *; omega⟩
        · subst hc
          have f_ws : inS 92 (Str.ofString " \t\r\n") = false := by decide +kernel
          have f_e : inS 92 (Str.ofString "\\") = true := by decide +kernel
          k_steps
          all_goals (rename News _ _ _ _ => NN; rename Fr _ _ _ _ => FF)
          exact hQ _ _ ⟨_, _, _, _, _, rfl, FF, NN, by rw [hr1, hrs]; exact Nat.lt_succ_self _, ⟨.esc, _, _, _, _, _, pos + 1, _⟩, false, _, rfl, rfl, rfl, rfl, (fun _ => ⟨_, rfl⟩), rfl, by rw [hr1]; simpa [lexGo, hz3, ws] using hgo, by rw [hr1]; simp only [List.length_cons, Str.length_append, len1] at *; omega⟩
        · subst hc
          have f_ws : inS 39 (Str.ofString " \t\r\n") = false := by decide +kernel
          have f_e : inS 39 (Str.ofString "\\") = false := by decide +kernel
          have f_wc : inS 39 wordC = false := by decide +kernel
          have f_q : inS 39 (Str.ofString "'\"") = true := by decide +kernel
          k_steps
          all_goals (rename News _ _ _ _ => NN; rename Fr _ _ _ _ => FF)
          exact hQ _ _ ⟨_, _, _, _, _, rfl, FF, NN, by rw [hr1, hrs]; exact Nat.lt_succ_self _, ⟨.sq, _, _, _, _, _, pos + 1, _⟩, false, ve, rfl, rfl, rfl, rfl, (by intro e; cases e), rfl, by rw [hr1]; simpa [lexGo, hz3, ws] using hgo, by rw [hr1]; simp only [List.length_cons, Str.length_append, len1] at *; omega⟩
        · subst hc
          have f_ws : inS 34 (Str.ofString " \t\r\n") = false := by decide +kernel
          have f_e : inS 34 (Str.ofString "\\") = false := by decide +kernel
          have f_wc : inS 34 wordC = false := by decide +kernel
          have f_q : inS 34 (Str.ofString "'\"") = true := by decide +kernel
          k_steps
          all_goals (rename News _ _ _ _ => NN; rename Fr _ _ _ _ => FF)
          exact hQ _ _ ⟨_, _, _, _, _, rfl, FF, NN, by rw [hr1, hrs]; exact Nat.lt_succ_self _, ⟨.dq, _, _, _, _, _, pos + 1, _⟩, false, ve, rfl, rfl, rfl, rfl, (by intro e; cases e), rfl, by rw [hr1]; simpa [lexGo, hz3, ws] using hgo, by rw [hr1]; simp only [List.length_cons, Str.length_append, len1] at *; omega⟩
        · k_steps
          all_goals (rename News _ _ _ _ => NN; rename Fr _ _ _ _ => FF)
          exact hQ _ _ ⟨_, _, _, _, _, rfl, FF, NN, by rw [hr1, hrs]; exact Nat.lt_succ_self _, ⟨.sp, _, _, _, _, _, pos + 1, _⟩, false, ve, rfl, rfl, rfl, rfl, (by intro e; cases e), rfl, by rw [hr1]; simpa [lexGo, hz3, c3] using hgo, by rw [hr1]; simp only [List.length_cons, Str.length_append, len1] at *; omega⟩
        · cases hwc : inS ch wordC
          · k_steps
            all_goals (rename News _ _ _ _ => NN; rename Fr _ _ _ _ => FF)
            exact hQ _ _ ⟨_, _, _, _, _, rfl, FF, NN, by rw [hr1, hrs]; exact Nat.lt_succ_self _, ⟨.a, _, _, _, _, _, pos + 1, _⟩, false, ve, rfl, rfl, rfl, rfl, (by intro e; cases e), rfl, by rw [hr1]; simpa [lexGo, hz3, c3, c10, c11, c12] using hgo, by rw [hr1]; simp only [List.length_cons, Str.length_append, len1] at *; omega⟩
          · k_steps
            all_goals (rename News _ _ _ _ => NN; rename Fr _ _ _ _ => FF)
            exact hQ _ _ ⟨_, _, _, _, _, rfl, FF, NN, by rw [hr1, hrs]; exact Nat.lt_succ_self _, ⟨.a, _, _, _, _, _, pos + 1, _⟩, false, ve, rfl, rfl, rfl, rfl, (by intro e; cases e), rfl, by rw [hr1]; simpa [lexGo, hz3, c3, c10, c11, c12] using hgo, by rw [hr1]; simp only [List.length_cons, Str.length_append, len1] at *; omega⟩
      | sq =>
        dsimp only [lexLed, LS.val] at N₃
        have hM : Mk 2 := ⟨⟩
        k_steps
        refine Stop.out ?_
        have g1 : inS 39 (Str.ofString "\"") = false := by decide +kernel
        by_cases hc : ch = 39
        · subst hc
          have f1 : isS 39 ⟨#[39]⟩ = true := by decide
          k_steps
          all_goals (rename News _ _ _ _ => NN; rename Fr _ _ _ _ => FF)
          exact hQ _ _ ⟨_, _, _, _, _, rfl, FF, NN, by rw [hr1, hrs]; exact Nat.lt_succ_self _, ⟨.a, _, _, _, _, _, pos + 1, _⟩, true, ve, rfl, rfl, rfl, rfl, (by intro e; cases e), rfl, by rw [hr1]; simpa [lexGo] using hgo, by rw [hr1]; simp only [List.length_cons, Str.length_append, len1] at *; omega⟩
        · have f1 : isS ch ⟨#[39]⟩ = false := by rw [isS_iff]; simpa using hc
          cases f2 : inS ch (Str.ofString "\\")
          · k_steps
            all_goals (rename News _ _ _ _ => NN; rename Fr _ _ _ _ => FF)
            exact hQ _ _ ⟨_, _, _, _, _, rfl, FF, NN, by rw [hr1, hrs]; exact Nat.lt_succ_self _, ⟨.sq, _, _, _, _, _, pos + 1, _⟩, true, ve, rfl, rfl, rfl, rfl, (by intro e; cases e), rfl, by rw [hr1]; simpa [lexGo, hc] using hgo, by rw [hr1]; simp only [List.length_cons, Str.length_append, len1] at *; omega⟩
          · k_steps
            all_goals (rename News _ _ _ _ => NN; rename Fr _ _ _ _ => FF)
            exact hQ _ _ ⟨_, _, _, _, _, rfl, FF, NN, by rw [hr1, hrs]; exact Nat.lt_succ_self _, ⟨.sq, _, _, _, _, _, pos + 1, _⟩, true, ve, rfl, rfl, rfl, rfl, (by intro e; cases e), rfl, by rw [hr1]; simpa [lexGo, hc] using hgo, by rw [hr1]; simp only [List.length_cons, Str.length_append, len1] at *; omega⟩
      | dq =>
        dsimp only [lexLed, LS.val] at N₃
        have hM : Mk 2 := ⟨⟩
        k_steps
        refine Stop.out ?_
        by_cases hc : ch = 34
        · subst hc
          have f1 : isS 34 ⟨#[34]⟩ = true := by decide
          k_steps
          all_goals (rename News _ _ _ _ => NN; rename Fr _ _ _ _ => FF)
          exact hQ _ _ ⟨_, _, _, _, _, rfl, FF, NN, by rw [hr1, hrs]; exact Nat.lt_succ_self _, ⟨.a, _, _, _, _, _, pos + 1, _⟩, true, ve, rfl, rfl, rfl, rfl, (by intro e; cases e), rfl, by rw [hr1]; simpa [lexGo] using hgo, by rw [hr1]; simp only [List.length_cons, Str.length_append, len1] at *; omega⟩
        · have f1 : isS ch ⟨#[34]⟩ = false := by rw [isS_iff]; simpa using hc
          by_cases hc2 : ch = 92
          · subst hc2; simp [lexGo] at hgo
          have f2 : inS ch (Str.ofString "\\") = false := by unfold inS; rw [ofS_e]; simpa using hc2
          k_steps
          all_goals (rename News _ _ _ _ => NN; rename Fr _ _ _ _ => FF)
          exact hQ _ _ ⟨_, _, _, _, _, rfl, FF, NN, by rw [hr1, hrs]; exact Nat.lt_succ_self _, ⟨.dq, _, _, _, _, _, pos + 1, _⟩, true, ve, rfl, rfl, rfl, rfl, (by intro e; cases e), rfl, by rw [hr1]; simpa [lexGo, hc, hc2] using hgo, by rw [hr1]; simp only [List.length_cons, Str.length_append, len1] at *; omega⟩
      | esc =>
        obtain ⟨te, rfl⟩ := hes rfl
        dsimp only [lexLed, LS.val] at N₃
        k_steps
        all_goals (rename News _ _ _ _ => NN; rename Fr _ _ _ _ => FF)
        exact hQ _ _ ⟨_, _, _, _, _, rfl, FF, NN, by rw [hr1, hrs]; exact Nat.lt_succ_self _, ⟨.a, _, _, _, _, _, pos + 1, _⟩, q, _, rfl, rfl, rfl, rfl, (by intro e; cases e), rfl, by rw [hr1]; simpa [lexGo] using hgo, by rw [hr1]; simp only [List.length_cons, Str.length_append, len1] at *; omega⟩
      | a =>
        dsimp only [lexLed, LS.val] at N₃
        have hM : Mk 2 := ⟨⟩
        k_steps
        refine Stop.out ?_
        rcases cls ch with hc | hc | hc | hc | ⟨c1, c2, c3⟩ | ⟨c1, c2, c3, c4, c5, c6, c7, c8, c9, c10, c11, c12⟩
        · subst hc
          have f_ws : inS 10 (Str.ofString " \t\r\n") = true := by decide +kernel
          cases hz1 : ((tok.length : Int) != 0)
          · have hz3 : tok.length = 0 := by simpa using hz1
            cases q with
            | false => simp [lexGo, hz3, ws] at hgo
            | true =>
              k_steps
              all_goals (rename News _ _ _ _ => NN; rename Fr _ _ _ _ => FF)
              obtain ⟨e1, e2, e3⟩ : res = finT true tok ∧ st' = .sp ∧ rs' = r := by (simp [lexGo, hz3, ws] at hgo; exact ⟨hgo.1.symm, hgo.2.1.symm, hgo.2.2.symm⟩)
              exact hQ _ _ ⟨rfl, ⟨.sp, _, _, _, _, _, pos + 1, _⟩, true, _, _, _, rfl, FF, (News.sub NN (fun p hp => List.Mem.tail _ hp)), rfl, rfl, e2.symm, by rw [hr1, e3], by dsimp only; omega, e1⟩
          · have hz3 : ¬ tok.length = 0 := by simpa using hz1
            k_steps
            all_goals (rename News _ _ _ _ => NN; rename Fr _ _ _ _ => FF)
            obtain ⟨e1, e2, e3⟩ : res = finT q tok ∧ st' = .sp ∧ rs' = r := by (simp [lexGo, hz3, ws] at hgo; exact ⟨hgo.1.symm, hgo.2.1.symm, hgo.2.2.symm⟩)
            exact hQ _ _ ⟨rfl, ⟨.sp, _, _, _, _, _, pos + 1, _⟩, q, _, _, _, rfl, FF, (News.sub NN (fun p hp => List.Mem.tail _ hp)), rfl, rfl, e2.symm, by rw [hr1, e3], by dsimp only; omega, e1⟩
        · subst hc
          have f_ws : inS 92 (Str.ofString " \t\r\n") = false := by decide +kernel
          have f_q : inS 92 (Str.ofString "'\"") = false := by decide +kernel
          have f_e : inS 92 (Str.ofString "\\") = true := by decide +kernel
          k_steps
          all_goals (rename News _ _ _ _ => NN; rename Fr _ _ _ _ => FF)
          exact hQ _ _ ⟨_, _, _, _, _, rfl, FF, (News.sub NN (fun p hp => List.Mem.tail _ hp)), by rw [hr1, hrs]; exact Nat.lt_succ_self _, ⟨.esc, _, _, _, _, _, pos + 1, _⟩, q, _, rfl, rfl, rfl, rfl, (fun _ => ⟨_, rfl⟩), rfl, by rw [hr1]; simpa [lexGo, ws] using hgo, by rw [hr1]; simp only [List.length_cons, Str.length_append, len1] at *; omega⟩
        · subst hc
          have f_ws : inS 39 (Str.ofString " \t\r\n") = false := by decide +kernel
          have f_q : inS 39 (Str.ofString "'\"") = true := by decide +kernel
          k_steps
          all_goals (rename News _ _ _ _ => NN; rename Fr _ _ _ _ => FF)
          exact hQ _ _ ⟨_, _, _, _, _, rfl, FF, (News.sub NN (fun p hp => List.Mem.tail _ hp)), by rw [hr1, hrs]; exact Nat.lt_succ_self _, ⟨.sq, _, _, _, _, _, pos + 1, _⟩, q, ve, rfl, rfl, rfl, rfl, (by intro e; cases e), rfl, by rw [hr1]; simpa [lexGo, ws] using hgo, by rw [hr1]; simp only [List.length_cons, Str.length_append, len1] at *; omega⟩
        · subst hc
          have f_ws : inS 34 (Str.ofString " \t\r\n") = false := by decide +kernel
          have f_q : inS 34 (Str.ofString "'\"") = true := by decide +kernel
          k_steps
          all_goals (rename News _ _ _ _ => NN; rename Fr _ _ _ _ => FF)
          exact hQ _ _ ⟨_, _, _, _, _, rfl, FF, (News.sub NN (fun p hp => List.Mem.tail _ hp)), by rw [hr1, hrs]; exact Nat.lt_succ_self _, ⟨.dq, _, _, _, _, _, pos + 1, _⟩, q, ve, rfl, rfl, rfl, rfl, (by intro e; cases e), rfl, by rw [hr1]; simpa [lexGo, ws] using hgo, by rw [hr1]; simp only [List.length_cons, Str.length_append, len1] at *; omega⟩
        · cases hz1 : ((tok.length : Int) != 0)
          · have hz3 : tok.length = 0 := by simpa using hz1
            cases q with
            | false => simp [lexGo, hz3, c3] at hgo
            | true =>
              k_steps
              all_goals (rename News _ _ _ _ => NN; rename Fr _ _ _ _ => FF)
              obtain ⟨e1, e2, e3⟩ : res = finT true tok ∧ st' = .sp ∧ rs' = r := by (simp [lexGo, hz3, c3] at hgo; exact ⟨hgo.1.symm, hgo.2.1.symm, hgo.2.2.symm⟩)
              exact hQ _ _ ⟨rfl, ⟨.sp, _, _, _, _, _, pos + 1, _⟩, true, _, _, _, rfl, FF, (News.sub NN (fun p hp => List.Mem.tail _ hp)), rfl, rfl, e2.symm, by rw [hr1, e3], by dsimp only; omega, e1⟩
          · have hz3 : ¬ tok.length = 0 := by simpa using hz1
            k_steps
            all_goals (rename News _ _ _ _ => NN; rename Fr _ _ _ _ => FF)
            obtain ⟨e1, e2, e3⟩ : res = finT q tok ∧ st' = .sp ∧ rs' = r := by (simp [lexGo, hz3, c3] at hgo; exact ⟨hgo.1.symm, hgo.2.1.symm, hgo.2.2.symm⟩)
            exact hQ _ _ ⟨rfl, ⟨.sp, _, _, _, _, _, pos + 1, _⟩, q, _, _, _, rfl, FF, (News.sub NN (fun p hp => List.Mem.tail _ hp)), rfl, rfl, e2.symm, by rw [hr1, e3], by dsimp only; omega, e1⟩
        · cases hwc : inS ch wordC
          · k_steps
            all_goals (rename News _ _ _ _ => NN; rename Fr _ _ _ _ => FF)
            exact hQ _ _ ⟨_, _, _, _, _, rfl, FF, (News.sub NN (fun p hp => List.Mem.tail _ hp)), by rw [hr1, hrs]; exact Nat.lt_succ_self _, ⟨.a, _, _, _, _, _, pos + 1, _⟩, q, ve, rfl, rfl, rfl, rfl, (by intro e; cases e), rfl, by rw [hr1]; simpa [lexGo, c3, c10, c11, c12] using hgo, by rw [hr1]; simp only [List.length_cons, Str.length_append, len1] at *; omega⟩
          · k_steps
            all_goals (rename News _ _ _ _ => NN; rename Fr _ _ _ _ => FF)
            exact hQ _ _ ⟨_, _, _, _, _, rfl, FF, (News.sub NN (fun p hp => List.Mem.tail _ hp)), by rw [hr1, hrs]; exact Nat.lt_succ_self _, ⟨.a, _, _, _, _, _, pos + 1, _⟩, q, ve, rfl, rfl, rfl, rfl, (by intro e; cases e), rfl, by rw [hr1]; simpa [lexGo, c3, c10, c11, c12] using hgo, by rw [hr1]; simp only [List.length_cons, Str.length_append, len1] at *; omega⟩
  · clear N' F' hgo htk
    rintro f s₂ ⟨rfl, ⟨st, ts, tok, tt, ln, tl, pos, tp⟩, q, h₂, tk₂, m₂, rfl, F₂, N₂, hs, hq, e1, e2, e3, e4⟩
    have F₃ := fr_over [(Str.ofString "self", .ref c.lx), (Str.ofString "quoted", .bool q)] F₂ (by simp [hs, hq])
    clear F₂ hs hq
    dsimp only at *
    obtain ⟨a1, a2, a3, a4, a5, a6, r1, r2⟩ := ap
    subst e4
    cases q with
    | true =>
      k_steps
      rename News _ _ _ _ => NN; rename Fr _ _ _ _ => FF
      exact hret ⟨st, _, _, _, _, _, pos, _⟩ e1 e2 rfl _ _ _ FF NN
    | false =>
      cases he : (tok == Str.ofString "") with
      | true =>
        k_steps
        rename News _ _ _ _ => NN; rename Fr _ _ _ _ => FF
        have e5 : finT false tok = none := by rw [eq_of_beq he]; rfl
        rw [e5] at hret
        exact hret ⟨st, _, _, _, _, _, pos, _⟩ e1 e2 rfl 0 _ _ FF NN
      | false =>
        k_steps
        rename News _ _ _ _ => NN; rename Fr _ _ _ _ => FF
        have e5 : finT false tok = some tok := finT_ne (ne_of_beq_false he)
        rw [e5] at hret
        exact hret ⟨st, _, _, _, _, _, pos, _⟩ e1 e2 rfl _ _ _ FF NN
end
section
local macro_rules | `(tactic| walk_at "exec While") => `(tactic| (k_here; k_dflt (refine whl_start 100 ?_)))
local macro_rules | `(tactic| walk_at "truthy ref") => `(tactic| ((with_reducible rename News _ _ _ _ => nN); refine truthy_deq (nN (_, deqObj) (by k_mem)).1 ?_; intro _))
local macro_rules | `(tactic| walk_at "call ref") => `(tactic| ((with_reducible show wpAny _ _ (call (Value.ref 700) _ _) _ _ _); k_dflt (
   (refine' rt ?k1 ?k2 ?k3 ?k4 ?k5 ?k6 ?k7 ?k8 ?k9 ?k10 ?k11 ?k12 ?k13 ?_; (case k1 => k_asm); (case k2 => k_asm); (case k3 => k_asm); (case k4 => k_asm); (case k5 => k_asm); (case k6 => assumption); (case k7 => exact rfl); (case k8 => assumption); (case k9 => ktr_room); (case k10 => ktr_units); (case k11 => assumption); (case k12 => assumption); (case k13 => assumption); intro k' hk1 hk2 hk3 t' h' tk' F' N'; (try k_sweep); (try dsimp only [optVal])))))
theorem next_tok {w : World} {p : Program} {loose : List Str} {mean : ExcName → Option Value} {mg mb : Str → Option Value}
    {dp un : Nat} {gd : Option (List Code)} {cn : Str} {cs : Scope} {a : Addr} {ccd : Value} {cl : List (Str × Addr)} {outer : List Env} {A₀ : Around} {base h₀ : Heap} {L : Addr} {m : Str → Option Value} {s : Shared} {Q E : Value → Shared → Prop}
    {c : LexAt} {k : LexSt} {rest : List (Addr × Obj)} {res : Str} {st' : LS} {rs' : List Nat}
    (B : Below A₀ base outer h₀) (F : Fr h₀ L s.heap m) (X : (pre.heap_1 w.params).In h₀)
    (N : News h₀ L s.heap (lexLed w c k ((c.pb, deqObj) :: (c.fs, deqObj) :: rest))) (T : Top p loose mean mg mb h₀) (ap : Apart c ((c.pb, deqObj) :: (c.fs, deqObj) :: rest))
    (hk : cs.kind = .function) (hbl : c.buf.length ≤ 1000000) (hdp : dp + 8 < recursionLimit) (hun : un + 40 < cLine)
    (hgo : lexGo (c.buf.cps.toList.drop k.pos) k.st false k.tok = some (some res, st', rs')) (htk : k.tok.length + (c.buf.cps.toList.drop k.pos).length ≤ 1000000) (hne : k.st ≠ .esc)
    (hret : ∀ k' : LexSt, k'.st = st' → c.buf.cps.toList.drop k'.pos = rs' → k'.tok = Str.ofString "" → ∀ t' h' tk', Fr h₀ L h' m → News h₀ L h' (lexLed w c k' ((c.pb, deqObj) :: (c.fs, deqObj) :: rest)) → Q (.str res t') { s with heap := h', toks := tk' }) :
    wpAny (model Challenge.rw_dn0059_06.row.prog w) (ktrTop dp un gd cn cs L a ccd cl outer) (call (.ref 729) [.ref c.lx]) Q E s := by
  w_on
  k_with_none
  revert X; k_fill; intro X
  refine wpAny_call ?_
  k_dflt (walk_at "my enter")
  k_steps
  rename News _ _ _ _ => NN; rename Fr _ _ _ _ => FF
  rename_i hk1 hk2 hk3 _ _ _ _ _ _ _ _ _
  exact hret _ (by assumption) (by assumption) (by assumption) _ _ _ FF NN
theorem stop_facts {M : Model} {A : Around} {E : Value → Shared → Prop} {s : Shared} {Q : Option Value → Shared → Prop} {l : List Env} {base : Heap} {e t : Addr} {vs : List Value} {news : List (Addr × Obj)} {X : String}
    (R : RaisedK base l e (.type X) t vs news s.heap) (hsub : isSubtype (.type X) (.type "StopIteration") = pure true)
    (k : base.StaysIn s.heap → (∀ q ∈ news, s.heap.get? q.1 = some q.2) → Q none s) : OwitStop M A Q E (.ref e) s := by
  obtain ⟨⟨B, hB, hl, hfl, _⟩, _⟩ := R
  have hf' := flyingW_base hB hfl
  obtain ⟨ob, hob, hobc⟩ := hf'.there
  have hT : s.TypeIs (.ref e) X := (show ∃ o, s.heap.get? e = some o ∧ o.cls = .type X from ⟨ob, hob, hobc⟩)
  unfold OwitStop
  refine wpAny_isInstance hT hsub ?_
  show (if true = true then Q none s else E (.ref e) s)
  rw [if_pos rfl]
  exact k hf'.1 fun q hq => hfl.1 _ _ (hl q hq).1
theorem next_stop {w : World} {p : Program} {loose : List Str} {mean : ExcName → Option Value} {mg mb : Str → Option Value}
    {dp un : Nat} {gd : Option (List Code)} {cn : Str} {cs : Scope} {a : Addr} {ccd : Value} {cl : List (Str × Addr)} {outer : List Env} {A₀ : Around} {base h₀ : Heap} {L : Addr} {m : Str → Option Value} {s : Shared} {Q : Option Value → Shared → Prop} {Qv E : Value → Shared → Prop}
    {c : LexAt} {k : LexSt} {rest : List (Addr × Obj)} {st' : LS} {rs' : List Nat}
    (B : Below A₀ base outer h₀) (F : Fr h₀ L s.heap m) (X : (pre.heap_1 w.params).In h₀)
    (N : News h₀ L s.heap (lexLed w c k ((c.pb, deqObj) :: (c.fs, deqObj) :: rest))) (T : Top p loose mean mg mb h₀) (ap : Apart c ((c.pb, deqObj) :: (c.fs, deqObj) :: rest))
    (hk : cs.kind = .function) (hbl : c.buf.length ≤ 1000000) (hdp : dp + 8 < recursionLimit) (hun : un + 40 < cLine)
    (hgo : lexGo (c.buf.cps.toList.drop k.pos) k.st false k.tok = some (none, st', rs')) (htk : k.tok.length + (c.buf.cps.toList.drop k.pos).length ≤ 1000000) (hne : k.st ≠ .esc)
    (hret : ∀ k' : LexSt, ∀ h' tk', base.StaysIn h' → h₀.UpToSlots h' → (∀ q ∈ lexLed w c k' ((c.pb, deqObj) :: (c.fs, deqObj) :: rest), h'.get? q.1 = some q.2) → Q none { s with heap := h', toks := tk' }) :
    wpAny (model Challenge.rw_dn0059_06.row.prog w) (ktrTop dp un gd cn cs L a ccd cl outer) (call (.ref 729) [.ref c.lx]) Qv (OwitStop (model Challenge.rw_dn0059_06.row.prog w) (ktrTop dp un gd cn cs L a ccd cl outer) Q E) s := by
  w_on
  k_with_none
  revert X; k_fill; intro X
  refine wpAny_call ?_
  k_dflt (walk_at "my enter")
  k_steps
  rename RaisedK _ _ _ _ _ _ _ _ => RK; rename Heap.UpToSlots _ _ => UK
  refine stop_facts RK (by first | rfl | kernel_rfl | decide) fun hb hn => ?_
  exact hret _ _ _ hb (fun b o e hnf => UK b o ((by assumption : Fr h₀ L _ m).keep b o e) hnf) hn
end
section
theorem dropLen (x : Str) (n : Nat) : (x.cps.toList.drop n).length ≤ x.length := by
  rw [List.length_drop, Array.length_toList]; exact Nat.sub_le _ _
theorem lex_loop {w : World} {p : Program} {loose : List Str} {mean : ExcName → Option Value} {mg mb : Str → Option Value}
    {dp un : Nat} {gd : Option (List Code)} {cn : Str} {cs : Scope} {a : Addr} {ccd : Value} {cl : List (Str × Addr)} {outer : List Env} {A₀ : Around} {base h₀ : Heap} {L : Addr} {m : Str → Option Value} {R : Result → Shared → Prop}
    {c : LexAt} {S : Addr} {rest : List (Addr × Obj)}
    (B : Below A₀ base outer h₀) (X : (pre.heap_1 w.params).In h₀) (T : Top p loose mean mg mb h₀)
    (hk : cs.kind = .function) (hbl : c.buf.length ≤ 1000000) (hdp : dp + 8 < recursionLimit) (hun : un + 41 < cLine)
    (ap : ∀ o, Apart c ((c.pb, deqObj) :: (c.fs, deqObj) :: (S, o) :: rest)) (hS : S ≠ c.x ∧ S ≠ c.dx ∧ S ≠ c.lx ∧ S ≠ c.ld ∧ S ≠ c.pb ∧ S ≠ c.fs ∧ ∀ q ∈ rest, q.1 ≠ S) :
    ∀ (xs : List Str) (rs : List Nat) (st : LS), Lexes rs st xs → ∀ (k : LexSt) (s : Shared) (vs : List Value) (pre : List Str) (n : Nat), c.buf.cps.toList.drop k.pos = rs → k.st = st → k.tok = Str.ofString "" →
    Fr h₀ L s.heap m → News h₀ L s.heap (lexLed w c k ((c.pb, deqObj) :: (c.fs, deqObj) :: (S, listOf vs.toArray n) :: rest)) → StrsAre vs pre → vs.length + xs.length ≤ 1000000 →
    (∀ (k' : LexSt) vs' n' h' tk', base.StaysIn h' → h₀.UpToSlots h' → StrsAre vs' (pre ++ xs) → (∀ q ∈ lexLed w c k' ((c.pb, deqObj) :: (c.fs, deqObj) :: (S, listOf vs'.toArray n') :: rest), h'.get? q.1 = some q.2) → R (.ok (.ret .none)) { s with heap := h', toks := tk' }) →
    codeAny (model Challenge.rw_dn0059_06.row.prog w) (ktrTop dp un gd cn cs L a ccd cl outer) (.builtin "list.extend.loop" ⟨[.ref S, .ref c.lx, .none], []⟩) R s := by
  w_on
  revert X; k_fill; intro X
  intro xs rs st hx
  induction hx with
  | stop hne hgo =>
    intro k s vs pre n e1 e2 e3 F N hv hlen hR
    have I : InstAt s.heap c.lx _ _ _ := InstAt.of_news N (.tail _ (.tail _ (.head _))) (.tail _ (.tail _ (.tail _ (.head _))))
    refine codeAny_builtin PySem.F.entry_extend_loop ?_
    rw [Around.under_plainId PySem.F.plain_extend_loop _]
    show wpAny _ (ktrTop dp (un + 1) gd cn cs L a ccd cl outer) (pyNext (.ref c.lx) >>= _) _ _ s
    refine wpAny_bind (owit_next F X I (by k_is) (by k_is) (next_stop B F X N T (ap _) hk hbl hdp (by omega) (by rw [e1, e2, e3]; exact hgo) (by rw [e3]; have := dropLen c.buf k.pos; have : (Str.ofString "").length = 0 := rfl; omega) (by rw [e2]; exact hne) fun k' h' tk' hb hu hn => ?_))
    exact wpAny_pure (hR k' vs n h' tk' hb hu (by rw [List.append_nil]; exact hv) hn)
  | tok hne hgo hrest ih =>
    intro k s vs pre n e1 e2 e3 F N hv hlen hR
    have I : InstAt s.heap c.lx _ _ _ := InstAt.of_news N (.tail _ (.tail _ (.head _))) (.tail _ (.tail _ (.tail _ (.head _))))
    refine codeAny_builtin PySem.F.entry_extend_loop ?_
    rw [Around.under_plainId PySem.F.plain_extend_loop _]
    show wpAny _ (ktrTop dp (un + 1) gd cn cs L a ccd cl outer) (pyNext (.ref c.lx) >>= _) _ _ s
    refine wpAny_bind (owit_next F X I (by k_is) (by k_is) (next_tok B F X N T (ap _) hk hbl hdp (by omega) (by rw [e1, e2, e3]; exact hgo) (by rw [e3]; have := dropLen c.buf k.pos; have : (Str.ofString "").length = 0 := rfl; omega) (by rw [e2]; exact hne) fun k' a1 a2 a3 t' h' tk' F' N' => ?_))
    rename_i x xs
    have hm : (S, listOf vs.toArray n) ∈ lexLed w c k' ((c.pb, deqObj) :: (c.fs, deqObj) :: (S, listOf vs.toArray n) :: rest) := .tail _ (.tail _ (.tail _ (.tail _ (.tail _ (.tail _ (.head _))))))
    show wpAny _ (ktrTop dp (un + 1) gd cn cs L a ccd cl outer) (updateSeq S (fun ys : Array Value => ys.push (Value.str x t')) >>= _) _ _ _
    refine wpAny_bind ?_
    have hlen' : vs.length + (xs.length + 1) ≤ 1000000 := hlen
    have U := news_upd (pre := [(c.x, instObj 597 c.dx), (c.dx, dictOf (sioD w c.u k'.tp c.buf (k'.pos : Int)) 3), (c.lx, instObj 732 c.ld), (c.ld, dictOf (lexD w c.t c.x c.pb c.fs (k'.st.val k'.ts) k'.ln k'.tl k'.tok k'.tt) 19), (c.pb, deqObj), (c.fs, deqObj)]) (post := rest) (f := Obj.mapSeq (fun ys : Array Value => ys.push (Value.str x t')))
      (o' := listOf (vs ++ [Value.str x t']).toArray (if (vs.toArray.push (Value.str x t')).size == vs.toArray.size then n else n + 1)) F' N' ?_ (fun q hq => hS.2.2.2.2.2.2 q hq) ?_ rfl
    · refine wpAny_updateSeq (N' _ hm).1 rfl (wpAny_pure ⟨plainId_quiet PySem.F.plain_extend_loop _, ih k' _ _ (pre ++ [x]) _ a2 a1 a3 U.1 U.2 (kct_snoc hv) ?_ ?_⟩) ?_ ?_
      · simp only [List.length_append, List.length_cons, List.length_nil]; omega
      · intro k'' vs' n' h'' tk'' hb hu hv' hn
        rw [List.append_assoc] at hv'
        exact hR k'' vs' n' h'' tk'' hb hu hv' hn
      · show vs.toArray.size ≤ sizeLine; rw [List.size_toArray, sizeLine_eq]; omega
      · show (vs.toArray.push (Value.str x t')).size ≤ sizeLine + 1; rw [Array.size_push, List.size_toArray, sizeLine_eq]; omega
    · intro q hq
      simp only [List.mem_cons, List.not_mem_nil, or_false] at hq
      obtain ⟨b1, b2, b3, b4, b5, b6, _⟩ := hS
      rcases hq with rfl | rfl | rfl | rfl | rfl | rfl
      · exact Ne.symm b1
      · exact Ne.symm b2
      · exact Ne.symm b3
      · exact Ne.symm b4
      · exact Ne.symm b5
      · exact Ne.symm b6
    · simp [Obj.mapSeq]
theorem iter_ok {w : World} {p : Program} {loose : List Str} {mean : ExcName → Option Value} {mg mb : Str → Option Value}
    {dp un : Nat} {gd : Option (List Code)} {cn : Str} {cs : Scope} {a : Addr} {ccd : Value} {cl : List (Str × Addr)} {outer : List Env} {A₀ : Around} {base h₀ : Heap} {L : Addr} {m : Str → Option Value} {s : Shared} {Q E : Value → Shared → Prop}
    {lx : Addr} {news : List (Addr × Obj)}
    (B : Below A₀ base outer h₀) (F : Fr h₀ L s.heap m) (X : (pre.heap_1 w.params).In h₀) (N : News h₀ L s.heap news) (T : Top p loose mean mg mb h₀)
    (hk : cs.kind = .function) (hdp : dp + 8 < recursionLimit) (hun : un + 30 < cLine)
    (hret : ∀ h' tk', Fr h₀ L h' m → News h₀ L h' news → Q (.ref lx) { s with heap := h', toks := tk' }) :
    wpAny (model Challenge.rw_dn0059_06.row.prog w) (ktrTop dp un gd cn cs L a ccd cl outer) (call (.ref 722) [.ref lx]) Q E s := by
  w_on
  k_with_none
  revert X; k_fill; intro X
  refine wpAny_call ?_
  k_dflt (walk_at "my enter")
  k_steps
  rename News _ _ _ _ => NN; rename Fr _ _ _ _ => FF
  exact hret _ _ FF NN
theorem list_lex {w : World} {p : Program} {loose : List Str} {mean : ExcName → Option Value} {mg mb : Str → Option Value}
    {dp un : Nat} {gd : Option (List Code)} {cn : Str} {cs : Scope} {a : Addr} {ccd : Value} {cl : List (Str × Addr)} {outer : List Env} {A₀ : Around} {base h₀ : Heap} {L : Addr} {m : Str → Option Value} {s : Shared} {Q E : Value → Shared → Prop}
    {c : LexAt} {k : LexSt} {rest : List (Addr × Obj)} {xs : List Str}
    (B : Below A₀ base outer h₀) (F : Fr h₀ L s.heap m) (X : (pre.heap_1 w.params).In h₀)
    (N : News h₀ L s.heap (lexLed w c k ((c.pb, deqObj) :: (c.fs, deqObj) :: rest))) (T : Top p loose mean mg mb h₀) (ap : Apart c ((c.pb, deqObj) :: (c.fs, deqObj) :: rest))
    (hk : cs.kind = .function) (hbl : c.buf.length ≤ 1000000) (hdp : dp + 8 < recursionLimit) (hun : un + 50 < cLine)
    (hx : Lexes (c.buf.cps.toList.drop k.pos) k.st xs) (htk : k.tok = Str.ofString "") (hlen : xs.length ≤ 1000000)
    (hret : ∀ S vs n k' h' tk', base.StaysIn h' → h₀.UpToSlots h' → StrsAre vs xs → (∀ q ∈ lexLed w c k' ((c.pb, deqObj) :: (c.fs, deqObj) :: (S, listOf vs.toArray n) :: rest), h'.get? q.1 = some q.2) → s.heap.objs.size ≤ S → Q (.ref S) { s with heap := h', toks := tk' }) :
    wpAny (model Challenge.rw_dn0059_06.row.prog w) (ktrTop dp un gd cn cs L a ccd cl outer) (call (.type "list") [.ref c.lx]) Q E s := by
  w_on
  revert X; k_fill; intro X
  refine callType_codes (Q₁ := fun obj s₁ => obj = .ref s.heap.objs.size ∧ s₁ = { s with heap := s.heap.push { cls := .type "list", data := .seq #[] } }) PySem.F.called_list (PySem.F.typeCall_list_1 _) PySem.F.entry_list_init
    (code_list_new _ ⟨rfl, rfl⟩) fun obj s₁ h₁ => ?_
  obtain ⟨rfl, rfl⟩ := h₁
  have hlt : ∀ q ∈ lexLed w c k ((c.pb, deqObj) :: (c.fs, deqObj) :: rest), q.1 < s.heap.objs.size := fun q hq => Heap.lt_size (N q hq).1
  have hS : (s.heap.push { cls := .type "list", data := .seq #[] }).get? s.heap.objs.size = some { cls := .type "list", data := .seq #[] } := Heap.get?_push_size _ rfl
  have F₁ := F.push { cls := .type "list", data := .seq #[] }
  have N₁ : News h₀ L _ ((s.heap.objs.size, listOf (#[] : Array Value) 0) :: lexLed w c k ((c.pb, deqObj) :: (c.fs, deqObj) :: rest)) := N.push F { cls := .type "list", data := .seq #[] }
  have hne : ∀ q ∈ lexLed w c k ((c.pb, deqObj) :: (c.fs, deqObj) :: rest), q.1 ≠ s.heap.objs.size := fun q hq => Nat.ne_of_lt (hlt q hq)
  generalize s.heap.objs.size = S at *
  refine ⟨⟨_, hS, rfl⟩, PySem.F.args_list_init_2 _ _, ?_⟩
  show wpAny _ (ktrTop dp (un + 2) gd cn cs L a ccd cl outer) (do let old ← Builtin.List.listItems (.ref S); Builtin.List.listUpdate (.ref S) (fun _ => #[]); letGo old.toList.reverse; Builtin.List.listExtendWith (.ref S) (.ref c.lx) .none) _ _ _
  refine wpAny_bind ?_
  unfold Builtin.List.listItems
  refine wpAny_bind (wpAny_seqItems hS rfl (wpAny_pure ?_))
  show wpAny _ (ktrTop dp (un + 2) gd cn cs L a ccd cl outer) (updateSeq S (fun _ => #[]) >>= fun _ => letGo (#[] : Array Value).toList.reverse >>= fun _ => Builtin.List.listExtendWith (.ref S) (.ref c.lx) .none) _ _ _
  refine wpAny_bind (wpAny_updateSeq hS rfl ?_)
  obtain ⟨F₂, N₂⟩ := news_upd (pre := []) (f := Obj.mapSeq (fun _ => (#[] : Array Value))) (o' := listOf (#[] : Array Value) 0) F₁ N₁ (fun _ hp => nomatch hp) hne rfl rfl
  refine wpAny_bind (wpAny_letGo ?_)
  clear F₁ N₁ hS
  generalize (Heap.push s.heap { cls := .type "list", data := .seq #[] }).update S (Obj.mapSeq fun _ => #[]) = h₂ at *
  unfold Builtin.List.listExtendWith
  have I₂ : InstAt h₂ c.lx _ _ _ := InstAt.of_news N₂ (.tail _ (.tail _ (.tail _ (.head _)))) (.tail _ (.tail _ (.tail _ (.tail _ (.head _)))))
  refine wpAny_bind (I₂.type.here ?_)
  have hSl : S ≠ c.lx := fun e => hne _ (.tail _ (.tail _ (.head _))) e.symm
  have h1 : Builtin.List.listSameRef (.ref S) (.ref c.lx) = false := by simp [Builtin.List.listSameRef, hSl]
  simp only [h1, Bool.false_or]
  rw [if_neg (by decide)]
  refine wpAny_bind (owit_iter F₂ X I₂ (by k_is) (by k_is) (iter_ok B F₂ X N₂ T hk hdp (by omega) fun h₃ tk₃ F₃ N₃ => ?_))
  have I₃ : InstAt h₃ c.lx _ _ _ := InstAt.of_news N₃ (.tail _ (.tail _ (.tail _ (.head _)))) (.tail _ (.tail _ (.tail _ (.tail _ (.head _)))))
  refine owit_it F₃ X I₃ (by k_is) ?_
  refine wpAny_bind (wpAny_holding ?_)
  unfold Builtin.List.listLengthHint
  refine wpAny_bind (wpAny_bind (I₃.type.here ((looks_findIn (X.keeps F₃.keep) (by k_is)).here ?_)))
  show wpAny _ (ktrTop dp (un + 2) gd cn cs L a ccd cl outer) (specialOf (Value.ref c.lx) (Str.ofString "__length_hint__") >>= _) _ _ _
  refine wpAny_bind (wpAny_bind (I₃.type.here ((looks_findIn (X.keeps F₃.keep) (by k_is)).here ?_)))
  refine wpAny_pure ?_
  show wpAny _ (ktrTop dp (un + 2) gd cn cs L a ccd cl outer) (rule "list.extend.makes-room" >>= fun _ => Builtin.List.listTouch (.ref S) >>= fun _ =>
    again (.builtin "list.extend.loop" ⟨[.ref S, .ref c.lx, .none], []⟩)) _ _ _
  refine wpAny_bind (wpAny_rule ?_)
  refine wpAny_bind ?_
  show wpAny _ _ (updateSeq S (·.push .none) >>= fun _ => updateSeq S (·.pop)) _ _ _
  have hS₃ := (N₃ (S, listOf (#[] : Array Value) 0) (.head _)).1
  refine wpAny_bind (wpAny_updateSeq hS₃ rfl ?_)
  obtain ⟨F₄, N₄⟩ := news_upd (pre := []) (f := Obj.mapSeq (·.push Value.none)) (o' := listOf (#[Value.none] : Array Value) 1) F₃ N₃ (fun _ hp => nomatch hp) hne rfl rfl
  have hS₄ := (N₄ (S, listOf (#[Value.none] : Array Value) 1) (.head _)).1
  refine wpAny_updateSeq hS₄ rfl ?_ (by size_fits) (by seq_fits)
  obtain ⟨F₅, N₅⟩ := news_upd (pre := []) (f := Obj.mapSeq (·.pop)) (o' := listOf (#[] : Array Value) 2) F₄ N₄ (fun _ hp => nomatch hp) hne rfl rfl
  have N₆ : News h₀ L _ (lexLed w c k ((c.pb, deqObj) :: (c.fs, deqObj) :: (S, listOf ([] : List Value).toArray 2) :: rest)) := News.sub N₅ (by
    intro p hp
    simp only [lexLed, List.mem_cons, List.nil_append] at hp ⊢
    rcases hp with h | h | h | h | h | h | h | h
    · exact .inr (.inl h)
    · exact .inr (.inr (.inl h))
    · exact .inr (.inr (.inr (.inl h)))
    · exact .inr (.inr (.inr (.inr (.inl h))))
    · exact .inr (.inr (.inr (.inr (.inr (.inl h)))))
    · exact .inr (.inr (.inr (.inr (.inr (.inr (.inl h))))))
    · exact .inl h
    · exact .inr (.inr (.inr (.inr (.inr (.inr (.inr h)))))))
  have hmem : ∀ q ∈ rest, q ∈ lexLed w c k ((c.pb, deqObj) :: (c.fs, deqObj) :: rest) := fun q hq => .tail _ (.tail _ (.tail _ (.tail _ (.tail _ (.tail _ hq)))))
  have e1 := hne _ (.head _)
  have e2 := hne _ (.tail _ (.head _))
  have e3 := hne _ (.tail _ (.tail _ (.head _)))
  have e4 := hne _ (.tail _ (.tail _ (.tail _ (.head _))))
  have e5 := hne _ (.tail _ (.tail _ (.tail _ (.tail _ (.head _)))))
  have e6 := hne _ (.tail _ (.tail _ (.tail _ (.tail _ (.tail _ (.head _))))))
  refine wpAny_pure ⟨plainId_quiet PySem.F.plain_extend_loop _, lex_loop (un := un + 1) (S := S) (rest := rest) B X T hk hbl hdp (by omega) (fun o => ?_) ⟨Ne.symm e1, Ne.symm e2, Ne.symm e3, Ne.symm e4, Ne.symm e5, Ne.symm e6, fun q hq => hne q (hmem q hq)⟩ xs _ _ hx k _ [] [] 2 rfl rfl htk F₅ N₆ .nil (by simpa using hlen) fun k' vs' n' h' tk' hb hu hv hn => ⟨rfl, ?_⟩⟩
  · obtain ⟨a1, a2, a3, a4, a5, a6, r1, r2⟩ := ap
    refine ⟨a1, a2, a3, a4, a5, a6, fun p hp => ?_, fun p hp => ?_⟩
    · simp only [List.mem_cons] at hp
      rcases hp with rfl | rfl | rfl | hp
      · exact r1 _ (.head _)
      · exact r1 _ (.tail _ (.head _))
      · exact Ne.symm e2
      · exact r1 _ (.tail _ (.tail _ hp))
    · simp only [List.mem_cons] at hp
      rcases hp with rfl | rfl | rfl | hp
      · exact r2 _ (.head _)
      · exact r2 _ (.tail _ (.head _))
      · exact Ne.symm e4
      · exact r2 _ (.tail _ (.tail _ hp))
  · exact hret S vs' n' k' h' tk' hb hu hv hn (Nat.le_refl _)
end
section
noncomputable def SioBack (K : Frag) (A : Around) (prog : Program) (w : World) (rest : List Value) (Q E : Value → Shared → Prop) (obj : Value) (s₁ : Shared) : Prop :=
  ∃ x dx od, obj = .ref x ∧ InstAt s₁.heap x (instObj 597 dx) 597 (some od) ∧ K.In s₁.heap ∧ wpAny (model prog w) A (call (.ref 367) (.ref x :: rest)) (fun r s₂ => r = .none ∧ Q (.ref x) s₂) E s₁
theorem sio_make {w : World} {h₀ : Heap} {L : Addr} {m : Str → Option Value} {A : Around} {s : Shared} {Q E : Value → Shared → Prop} {rest : List Value}
    (F : Fr h₀ L s.heap m) (X₀ : (pre.heap_1 w.params).In h₀)
    (h : wpAny (model Challenge.rw_dn0059_06.row.prog w) (A.under (.builtin "type.__call__" ⟨.ref 597 :: rest, []⟩)) (call (.ref 90) (.ref 597 :: rest))
      (SioBack (pre.heap_1 w.params) (A.under (.builtin "type.__call__" ⟨.ref 597 :: rest, []⟩)) Challenge.rw_dn0059_06.row.prog w rest Q E) E { s with toks := s.toks + 1 }) :
    wpAny (model Challenge.rw_dn0059_06.row.prog w) A (call (.ref 597) rest) Q E s := by
  revert X₀; k_fill; intro X₀
  have X := X₀.keeps F.keep
  obtain ⟨oc, od, dt, sl, hC⟩ : ∃ oc od cd sl, (pre.heap_1 w.params).lookup 597 = some ⟨oc, od, .cls cd, sl⟩ := ⟨_, _, _, _, by k_is⟩
  have made : Looks (model Challenge.rw_dn0059_06.row.prog w) s.heap (Bind.madeBy (.ref 597)) none := Looks.of_peek X (by kernel_rfl)
  have hcall : Looks (model Challenge.rw_dn0059_06.row.prog w) s.heap (specialOf (.ref 597) "__call__") (some (.builtin "type.__call__")) := Looks.of_peek X (by kernel_rfl)
  have typ : Looks (model Challenge.rw_dn0059_06.row.prog w) s.heap (isInstance (.ref 597) (.type "type")) true := Looks.of_peek X (by kernel_rfl)
  have mro : Looks (model Challenge.rw_dn0059_06.row.prog w) s.heap (mroOf (.ref 597)) [.ref 597, .ref 120, .ref 93, .type "object"] := Looks.of_peek X (by kernel_rfl)
  refine wpAny_call (codeAny_of_tree ?_)
  show wpAny _ _ (callAny (.ref 597) _) _ _ _
  simp only [callAny]
  refine wpAny_bind (wpAny_load (X _ _ hC) ?_)
  show wpAny _ _ (callAny.viaDunder (.ref 597) _) _ _ _
  unfold callAny.viaDunder
  refine wpAny_bind (hcall.here ?_)
  dsimp only
  rw [tc_bind]
  refine wpAny_bind (wpAny_pure (wpAny_bind (wpAny_pure ?_)))
  refine wpAny_pure (a := Fin.again (.call (.builtin "type.__call__") ⟨.ref 597 :: rest, []⟩)) (And.intro rfl ?_)
  refine codeAny_call_builtin_at (Code.quiet_builtin _ (by decide +kernel)) entry_typeCall ?_
  with_reducible refine check_slot tc_kind tc_split typ (tc_args _ _ _) ?_
  unfold Builtin.«type.__call__»
  refine wpAny_bind (mro.here ?_)
  refine wpAny_bind (made.here ?_)
  refine wpAny_bind (cls_sm (mc := .type "type") (p := 94) F X₀ (by k_is) (by k_is) (by k_is) (by k_is) (by k_handed) ?_)
  refine wpAny_bind (wpAny_holding (wpAny_mono h (fun obj s₁ hs => ?_) fun _ _ z => z))
  obtain ⟨x, dx, od, rfl, I, X₁, hs⟩ := hs
  have sub : Looks (model Challenge.rw_dn0059_06.row.prog w) s₁.heap (isSubtype (.ref 597) (.ref 597)) true := Looks.of_peek X₁ (by kernel_rfl)
  refine wpAny_bind ?_
  unfold isInstance
  refine wpAny_bind (I.type.here (sub.here ?_))
  show wpAny _ _ (holding [Value.ref x] (callSpecial? (.ref x) (Str.ofString "__init__") rest []) >>= _) _ _ _
  refine wpAny_bind (wpAny_holding (special_fn X₁ I (f := 367) (by k_is) (by k_is) (wpAny_mono hs (fun v s₂ hv => ?_) fun _ _ z => z)))
  obtain ⟨rfl, hv⟩ := hv
  exact wpAny_pure hv
theorem new_args : Bind.checkArgs "object.__new__" ⟨.hand, "object.__new__", "__new__", .cls, []⟩ ⟨[.ref 597], []⟩ = pure () := by kernel_rfl
section
variable {w : World} {h : Heap}
theorem new_isT (X : (pre.heap_1 w.params).In h) : Looks (model Challenge.rw_dn0059_06.row.prog w) h (isType (.ref 597)) true := Looks.of_peek X (by kernel_rfl)
theorem new_base (X : (pre.heap_1 w.params).In h) : Looks (model Challenge.rw_dn0059_06.row.prog w) h (Bind.staticBase (.ref 597)) (.type "object") := Looks.of_peek X (by kernel_rfl)
theorem new_made (X : (pre.heap_1 w.params).In h) : Looks (model Challenge.rw_dn0059_06.row.prog w) h (Bind.madeBy (.type "object")) (some "object.__new__") := Looks.of_peek X (by kernel_rfl)
theorem new_chk (X : (pre.heap_1 w.params).In h) : Looks (model Challenge.rw_dn0059_06.row.prog w) h (checkBuiltinCall "object.__new__" ⟨[.ref 597], []⟩) () := by
  have F := PySem.F.objNew
  simp only [checkBuiltinCall, F.kind, F.split, F.row]
  rw [new_args]
  refine (new_isT X).andThen ?_
  simp only [Bool.not_true, Bool.false_eq_true, if_false]
  refine Looks.andThen (a := true) (Looks.of_peek X (by kernel_rfl)) ?_
  simp only [Bool.not_true, Bool.false_eq_true, if_false]
  refine (new_base X).andThen ((new_made X).andThen ?_)
  simp only [bne_self_eq_false, Bool.false_eq_true, if_false]
  exact .now
theorem new_here (X : (pre.heap_1 w.params).In h) : Looks (model Challenge.rw_dn0059_06.row.prog w) h (Bind.madeHere "object.__new__" (.ref 597)) () := by
  refine (new_base X).andThen ((new_made X).andThen (Looks.of_pure ?_))
  simp only [Option.map_some, bne_self_eq_false, Bool.false_eq_true, if_false]
end
theorem obj_new {w : World} {h₀ : Heap} {L : Addr} {m : Str → Option Value} {A : Around} {s : Shared} {Q E : Value → Shared → Prop} {news : List (Addr × Obj)}
    (F : Fr h₀ L s.heap m) (X₀ : (pre.heap_1 w.params).In h₀) (N : News h₀ L s.heap news)
    (h : ∀ x dx h', Fr h₀ L h' m → News h₀ L h' ((x, instObj 597 dx) :: (dx, dictOf [] 0) :: news) → (∀ p ∈ news, p.1 < dx) → dx < x → Q (.ref x) { s with heap := h' }) :
    wpAny (model Challenge.rw_dn0059_06.row.prog w) A (call (.builtin "object.__new__") [.ref 597]) Q E s := by
  revert X₀; k_fill; intro X₀
  have X := X₀.keeps F.keep
  have here := new_here X
  have chk := new_chk X
  have isT := new_isT X
  obtain ⟨oc, od, cd, sl, hC, hab, hdel⟩ : ∃ oc od cd sl, (pre.heap_1 w.params).lookup 597 = some ⟨oc, od, .cls cd, sl⟩ ∧ cd.abstract = false ∧ cd.hasDel = false := ⟨_, _, _, _, by k_is, rfl, rfl⟩
  have hcd : Looks (model Challenge.rw_dn0059_06.row.prog w) s.heap (classData 597) cd := (Looks.ld (part := none) (X _ _ hC)).andThen .now
  refine wpAny_call (codeAny_of_tree ?_)
  show wpAny _ _ (do checkBuiltinCall "object.__new__" ⟨[.ref 597], []⟩; again (.builtin "object.__new__" ⟨[.ref 597], []⟩)) _ _ _
  refine wpAny_bind (chk.here (wpAny_pure ⟨Code.quiet_builtin _ PySem.F.objNew.quiet, codeAny_builtin PySem.F.objNew.entry ?_⟩))
  unfold Builtin.«object.__new__»
  refine wpAny_bind (isT.here ?_)
  refine wpAny_bind (here.here ?_)
  refine wpAny_bind (hcd.here ?_)
  dsimp only
  rw [hab]
  show wpAny _ _ ((alloc emptyDict >>= fun x => pure (some x)) >>= _) _ _ _
  refine wpAny_bind (wpAny_bind (wpAny_alloc (wpAny_pure (wpAny_bind ?_))))
  show wpAny _ _ (newObjAsIs _ _ _) _ _ _
  unfold newObjAsIs classHasDel
  have k : ∀ b o, s.heap.get? b = some o → ((s.heap.push emptyDict).push (instObj 597 s.heap.objs.size)).get? b = some o := fun b o e => Heap.get?_push_of_some _ (Heap.get?_push_of_some _ e)
  refine wpAny_bind (wpAny_alloc (wpAny_bind (wpAny_bind (wpAny_load ((X.keeps k) _ _ hC) (wpAny_pure ?_)))))
  rw [hdel]
  have N' := (N.push F emptyDict).push (F.push _) (instObj 597 s.heap.objs.size)
  have F' := (F.push emptyDict).push (instObj 597 s.heap.objs.size)
  exact wpAny_pure (wpAny_pure (h _ s.heap.objs.size _ F' N' (fun p hp => Heap.lt_size (N p hp).1) (by rw [Heap.size_push]; exact Nat.lt_succ_self _)))
end
section
section
variable {prog : Program} {w : World} {A A₀ : Around} {s : Shared} {K : Frag} {L : Addr} {h₀ base : Heap} {m mg mb : Str → Option Value} {news : List (Addr × Obj)} {p : Program} {loose : List Str} {mean : ExcName → Option Value}
/-- a call entered; what it gives back is shown by the caller's own facts -/
theorem code_defR {env : Env} {outer : List Env} {R : Result → Shared → Prop} {name qual : Str} {params : Arguments} {body : List Stmt} {scope : Scope} {dV kV doc pm cdv ct oc : Value} {an od : Option Addr} {osl : Array (Option Value)} {f : Addr} {args : Args} {binds : List (Str × Value)}
    (B : Below A₀ base outer h₀) (F : Fr h₀ L s.heap m) (X₀ : K.In h₀) (N : News h₀ L s.heap news) (T : Top p loose mean mg mb h₀) (hA : A.frames = some (env :: outer)) (hf : env.frame = some L) (hke : env.scope.kind = .function)
    (ho : K.lookup f = some ⟨oc, od, .func (fnOf name qual params body scope dV kV doc pm an cdv ct), osl⟩) (hcd : codeIn K cdv qual = true) (hroom : A.depth < recursionLimit)
    (hbind : BindsTo s (fnOf name qual params body scope dV kV doc pm an cdv ct) args binds) (hloc : ∀ y ∈ binds, scope.names.lookup y.1 = some .local)
    (h : ∀ g L' h₁, Fr h₀ L g m → Fr g L' h₁ (fun y => binds.reverse.lookup y) → News g L' h₁ news → Below A base (env :: outer) g → K.In g → Top p loose mean mg mb g → L' = s.heap.objs.size →
      wpAny (model prog w) (A.deeper (envOf qual scope L' f cdv)) (execs body (envOf qual scope L' f cdv))
        (fun fl s' => R (.ok (.ret (match fl with | .ret v => v | _ => .none))) s')
        (fun e s' => wpAny (model prog w) (A.deeper (envOf qual scope L' f cdv)) (leaving (envOf qual scope L' f cdv) e) (fun _ s'' => R (.error e) s'') (fun e' s'' => R (.error e') s'') s')
        { s with heap := h₁, toks := s.toks + binds.length })
    (hco : scope.isCoroutine = false) (hgen : scope.isGenerator = false) (hk : scope.kind = .function)
    (hcell : ∀ x ∈ scope.names, x.2 ≠ .cell) : codeAny (model prog w) A (.call (.ref f) args) R s := by
  obtain ⟨FG, BG, st, _⟩ := groundX (R := R) B F N hA hf hke
  have X := X₀.keeps F.keep
  refine codeAny_call_def (fd := fnOf name qual params body scope dV kV doc pm an cdv ct) (body := body) (binds := binds) hroom (X _ _ ho) rfl (T.nolimit.keeps F.keep) (codeRec_of X hcd) rfl hbind hcell hloc (fun h₁ hns hk₁ => ?_) hco hgen hk
  exact h _ s.heap.objs.size h₁ FG ⟨hns, fun b o e => hk₁ b o (of_hideAll _ e), Nat.le_of_eq (hideAll_size _ _)⟩ (fun p hp => ⟨hk₁ _ _ (N p hp).1, Nat.ne_of_lt (Heap.lt_size (N p hp).1), hideAll_none _ (List.mem_map_of_mem hp)⟩) BG (X₀.keeps st) (T.keeps st) rfl
end
theorem to_led {w : World} {g h : Heap} {L fs pb x dx lx ld : Addr} {u t : Nat → Tok} {tp tl tt ts : Tok} {line tok : Str} {ln : Int} {p1 p2 : Addr × Obj} {news : List (Addr × Obj)}
    (N : News g L h ((fs, deqObj) :: (pb, deqObj) :: (x, instObj 597 dx) :: (dx, dictOf (sioD w u tp line 0) 3) :: p1 :: p2 :: (lx, instObj 732 ld) :: (ld, dictOf (lexD w t x pb fs (.str (Str.ofString " ") ts) ln tl tok tt) 19) :: news)) :
    News g L h (lexLed w ⟨x, dx, lx, ld, pb, fs, t, u, line⟩ ⟨.sp, ts, tok, tt, ln, tl, 0, tp⟩ ((pb, deqObj) :: (fs, deqObj) :: news)) := by
  refine News.sub N fun p hp => ?_
  simp only [lexLed, LS.val, List.mem_cons] at hp ⊢
  rcases hp with h | h | h | h | h | h | h
  · exact .inr (.inr (.inl h))
  · exact .inr (.inr (.inr (.inl h)))
  · exact .inr (.inr (.inr (.inr (.inr (.inr (.inl h))))))
  · exact .inr (.inr (.inr (.inr (.inr (.inr (.inr (.inl h)))))))
  · exact .inr (.inl h)
  · exact .inl h
  · exact .inr (.inr (.inr (.inr (.inr (.inr (.inr (.inr h)))))))
theorem split_ok {w : World} {p : Program} {loose : List Str} {mean : ExcName → Option Value} {mg mb : Str → Option Value}
    {dp un : Nat} {gd : Option (List Code)} {cn : Str} {cs : Scope} {a : Addr} {ccd : Value} {cl : List (Str × Addr)} {A₀ : Around} {h₀ : Heap} {L : Addr} {m : Str → Option Value} {s : Shared} {Q E : Value → Shared → Prop}
    {news : List (Addr × Obj)} {line : Str} {t : Tok} {xs : List Str}
    (B : Below A₀ h₀ [] h₀) (F : Fr h₀ L s.heap m) (X : (pre.heap_1 w.params).In h₀) (N : News h₀ L s.heap news) (T : Top p loose mean mg mb h₀)
    (hk : cs.kind = .function) (hbl : line.length ≤ 1000000) (hdp : dp + 12 < recursionLimit) (hun : un + 80 < cLine)
    (hx : Lexes line.cps.toList .sp xs) (hlen : xs.length ≤ 1000000)
    (hret : ∀ S vs n h' tk', Fr h₀ L h' m → News h₀ L h' ((S, listOf vs.toArray n) :: news) → (∀ p ∈ news, p.1 < S) → StrsAre vs xs → Q (.ref S) { s with heap := h', toks := tk' }) :
    wpAny (model Challenge.rw_dn0059_06.row.prog w) (ktrTop dp un gd cn cs L a ccd cl []) (call (.ref 744) [.str line t]) Q E s := by
  w_on
  k_with_none
  k_with "call ref" => ((with_reducible show wpAny _ _ (call (Value.ref 597) _ _) _ _ _); k_dflt (refine' sio_make ?k1 ?k2 ?_; (case k1 => k_asm); (case k2 => k_asm)))
  k_with "SioBack" => (k_dflt (refine' ⟨_, _, _, rfl, ?k1, ?k2, ?_⟩; (case k1 => k_inst); (case k2 => k_in)))
  k_with "call builtin:object.__new__" => (k_dflt (refine' obj_new ?k1 ?k2 ?k3 ?_; (case k1 => k_asm); (case k2 => k_asm); (case k3 => k_asm)); intro zx' zd' zh' zF' zN' zl1 zl2; (try k_lt zl1); (try k_lt2 zl2); (try k_sweep))
  k_with "call type:list" => (refine stop_intro ?_)
  k_with "call type:collections.deque" => (k_dflt (refine' call_deq ?k1 ?k2 ?_; (case k1 => k_asm); (case k2 => k_asm); k_whole); intro zd' zh' zF' zN' zl1; (try k_lt zl1); (try k_sweep))
  k_with "my enterR" => (refine' code_defR ?k1 ?k2 ?k3 ?k4 ?k5 ?kA ?kF ?kK ?k6 ?k7 ?k8 ?k9 ?kB ?_ ?c2 ?c3 ?c4 ?c5; (case kA => exact rfl); (case kF => exact rfl); (case kK => assumption); (case k1 => k_asm); (case k2 => k_asm); (case k3 => k_asm); (case k4 => k_asm); (case k5 => k_asm); (case k6 => k_is); (case k7 => k_is); (case k8 => ktr_room); (case k9 => first | exact BindsTo.of_eq rfl | exact binds_K (by k_in) rfl (by k_is) rfl rfl rfl | fail "k_enter: no rule for these arguments"); (case c5 => decide); (case kB => exact locs rfl); (case c2 => exact rfl); (case c3 => exact rfl); (case c4 => exact rfl); k_whole; intro zg' zL' zh' zFG' zF' zN' zB' zX' zT' zeL'; (try dsimp only); (try k_fold))
  revert X; k_fill; intro X
  refine wpAny_call ?_
  k_dflt (walk_at "my enterR")
  k_steps
  refine Stop.out ?_
  rename News _ _ _ _ => NN; rename Fr _ _ _ _ => FF; rename @Eq Nat _ s.heap.objs.size => eL
  rename Fr h₀ L _ m => FG
  have N₂ := to_led (u := fun i => ([_, _, _, _, _] : List Tok).getD i 0) (t := fun i => ([_, _, _, _, _, _, _, _, _, _, _, _, _, _, _, _, _, _, _, 0, _, _, _, _, _, _, _, _] : List Tok).getD i 0) NN
  have hbig := FF.ns.lt
  rename (∀ p ∈ news, p.1 < _) => hnl
  have hn : ∀ p ∈ news, p.1 < s.heap.objs.size := fun p hp => Heap.lt_size (N p hp).1
  refine list_lex (c := ⟨_, _, _, _, _, _, _, _, line⟩) (by k_asm) FF (by k_asm) N₂ (by k_asm) ?ap rfl hbl (by ktr_room) (by ktr_units) hx rfl hlen fun S vs n k' h' tk' hb hu hv hq hS => ?_
  case ap =>
    refine ⟨?_, ?_, ?_, ?_, ?_, ?_, ?_, ?_⟩
    all_goals (try k_ne)
    all_goals (refine List.forall_mem_cons.mpr ⟨?_, List.forall_mem_cons.mpr ⟨?_, fun p hp => ?_⟩⟩; k_ne; k_ne; (have h9 := ltN (hnl p hp)); k_ne)
  have hlt : s.heap.objs.size < S := by rw [eL] at hbig; exact Nat.lt_of_lt_of_le hbig hS
  refine hret S vs n h' tk' ⟨hu.ns FG.ns, hb, F.above⟩ (fun q hq' => ?_) (fun q hq' => Nat.lt_trans (hn q hq') hlt) hv
  rcases List.mem_cons.mp hq' with rfl | hq'
  · refine ⟨hq _ (.tail _ (.tail _ (.tail _ (.tail _ (.tail _ (.tail _ (.head _))))))), ?_, ?_⟩
    · exact Nat.ne_of_gt (Nat.lt_trans F.ns.lt hlt)
    · cases hz : h₀.get? S with
      | none => rfl
      | some o => exact absurd (Heap.lt_size (F.keep _ _ hz)) (Nat.not_lt.mpr (Nat.le_of_lt hlt))
  · exact ⟨hq _ (.tail _ (.tail _ (.tail _ (.tail _ (.tail _ (.tail _ (.tail _ hq'))))))), (N q hq').2⟩
end
section
section
variable {w : World} {h₀ : Heap} {L : Addr} {m : Str → Option Value} {A : Around} {s : Shared} {Q E : Value → Shared → Prop} {news : List (Addr × Obj)}
theorem find_call {x : Str} {t : Tok} (F : Fr h₀ L s.heap m) (X₀ : (pre.heap_1 w.params).In h₀) (N : News h₀ L s.heap news) (hx : 0 < x.length) (hl : x.length ≤ 16777216)
    (h0 : x.cps.toList.any unsafeC = false → Q .none s)
    (h1 : x.cps.toList.any unsafeC = true → ∀ r h', Fr h₀ L h' m → News h₀ L h' news → Q (.ref r) { s with heap := h' }) :
    wpAny (model Challenge.rw_dn0059_06.row.prog w) A (call (.ref 752) [.str x t]) Q E s := by
  revert X₀; k_fill; intro X₀
  have X := X₀.keeps F.keep
  have chk : Looks (model Challenge.rw_dn0059_06.row.prog w) s.heap (checkBoundCall "re.Pattern.search" ⟨[.ref 49, .str x t], []⟩) () := Looks.of_peek X (by kernel_rfl)
  have hb : (pre.heap_1 w.params).lookup 752 = some (boundSearch 49) := by k_is
  have hp : ∃ src fl, (pre.heap_1 w.params).lookup 49 = some (patObj src fl 48) := ⟨_, _, by k_is⟩
  obtain ⟨src, fl, hp⟩ := hp
  have hc : (pre.heap_1 w.params).lookup 48 = some (codeTup 0) := by k_is
  refine wpAny_call (codeAny_of_tree ?_)
  show wpAny _ _ (callAny (.ref 752) _) _ _ _
  simp only [callAny]
  refine wpAny_bind (wpAny_load (X _ _ hb) ?_)
  simp only [show (Value.type "builtin_function_or_method" == Value.type "method" || Value.type "builtin_function_or_method" == Value.type "builtin_function_or_method" || Value.type "builtin_function_or_method" == Value.type "method-wrapper") = true by decide, if_true]
  refine KFB.if_so (by decide) ?_
  refine wpAny_bind (chk.here ?_)
  refine wpAny_bind (wpAny_pure (wpAny_pure ?_))
  refine ⟨plainId_quiet plain_search _, codeAny_builtin entry_search (search_tree hx hl (X _ _ hp) (X _ _ hc) (fun hu => h0 hu) fun hu o1 o2 f1 f2 => ?_)⟩
  have F₁ := F.push o1
  have N₁ := N.push F o1 f1
  exact h1 hu _ _ (F₁.push o2) (News.sub (N₁.push F₁ o2 f2) fun p hp => .tail _ (.tail _ hp))
theorem callWith_find {env : Env} {pos : Pos} {first : List Value} {e : Expr} {rest : List Expr} (_X : (pre.heap_1 w.params).In h₀)
    (h : wpAny (model Challenge.rw_dn0059_06.row.prog w) A (spliced (backTo pos (starEach (e :: rest) env))) (fun vs s₁ => (pre.heap_1 w.params).In s₁.heap ∧ wpAny (model Challenge.rw_dn0059_06.row.prog w) A (call (.ref 752) (first ++ vs)) Q E s₁) E s)
    (he : starEach (e :: rest) env = (false, eval e env) :: starEach rest env := by rfl) (hplain : (backTo pos (starEach rest env)).any (·.1) = false := by rfl) :
    wpAny (model Challenge.rw_dn0059_06.row.prog w) A (callWith pos (.ref 752) first (backTo pos (starEach (e :: rest) env)) []) Q E s := by
  rw [he] at h ⊢
  exact callWith_of (by show ((false || (backTo pos (starEach rest env)).any (·.1)) || false) = false; rw [hplain]; rfl) (fun h' X' => ⟨.machine, .inr (.inl rfl), Looks.of_peek X' (by kernel_rfl)⟩) (Calls.evalArgs_plain h)
end
theorem sub1_ge (c : Nat) (z : List Nat) (hz : 1 ≤ z.length) : ∀ l : List Nat, l.length ≤ (sub1 c z l).length
  | [] => Nat.zero_le _
  | k :: r => by
    show _ ≤ ((if k = c then z else [k]) ++ sub1 c z r).length
    have ih := sub1_ge c z hz r
    rw [List.length_append, List.length_cons]
    split
    · omega
    · simp only [List.length_cons, List.length_nil]; omega
theorem rep_ge {x y z : Str} {c : Nat} {zl : List Nat} (hy : y = ofL [c]) (hz : z = ofL zl) (h : 1 ≤ zl.length) : x.length ≤ (Txt.replace x y z).length := by
  rw [replace_lit hy hz, ofL_len]
  exact Nat.le_trans (Nat.le_of_eq Array.length_toList.symm) (sub1_ge c zl h x.cps.toList)
section
variable {prog : Program} {w : World} {A : Around} {E : Value → Shared → Prop} {s : Shared} {x y : Str} {t u : Tok} {b : Bool}
theorem truthy_pos {Q : Bool → Shared → Prop} (e : ((x.length : Int) != 0) = b) (hl : x.length ≤ 16777216) (k : Q b { s with toks := s.toks + 1 + 1 }) : wpAny (model prog w) A (truthy (.str x t)) Q E s :=
  P.truthy_str (by omega) (e ▸ k)
theorem add_pos {Q : Value → Shared → Prop} (hx : x.length ≠ 0) (hy : y.length ≠ 0) (hsz : x.length + y.length ≤ 16777216) (k : ∀ t', Q (.str (x ++ y) t') { s with toks := s.toks + 1 }) :
    wpAny (model prog w) A (binaryOp .Add (.str x t) (.str y u)) Q E s := by
  refine P.add_str ?_
  rw [if_neg (by simpa using hx), if_neg (by simpa using hy)]
  exact ⟨by rw [sizeLine_eq, Str.length_append]; exact hsz, k _⟩
end
theorem ofS_amp : Str.ofString "&" = ofL [38] := by decide
theorem ofS_lt : Str.ofString "<" = ofL [60] := by decide
theorem ofS_gt : Str.ofString ">" = ofL [62] := by decide
theorem ofS_dq : Str.ofString "\"" = ofL [34] := by decide
theorem ofS_eamp : Str.ofString "&amp;" = ofL [38, 97, 109, 112, 59] := by decide
theorem ofS_elt : Str.ofString "&lt;" = ofL [38, 108, 116, 59] := by decide
theorem ofS_egt : Str.ofString "&gt;" = ofL [38, 103, 116, 59] := by decide
theorem ofS_equot : Str.ofString "&quot;" = ofL [38, 113, 117, 111, 116, 59] := by decide
theorem ofS_eapos : Str.ofString "&#x27;" = ofL [38, 35, 120, 50, 55, 59] := by decide
noncomputable def r1 (x : Str) : Str := Txt.replace x (Str.ofString "&") (Str.ofString "&amp;")
noncomputable def r2 (x : Str) : Str := Txt.replace (r1 x) (Str.ofString "<") (Str.ofString "&lt;")
noncomputable def r3 (x : Str) : Str := Txt.replace (r2 x) (Str.ofString ">") (Str.ofString "&gt;")
noncomputable def r4 (x : Str) : Str := Txt.replace (r3 x) (Str.ofString "\"") (Str.ofString "&quot;")
noncomputable def r5 (x : Str) : Str := Txt.replace (r4 x) (Str.ofString "'") (Str.ofString "&#x27;")
theorem r3_is (x : Str) : r3 x = ofL (escL false x.cps.toList) := by
  unfold r3 r2 r1
  rw [replace_lit ofS_amp ofS_eamp, replace_lit ofS_lt ofS_elt, replace_lit ofS_gt ofS_egt, ofL_toL, ofL_toL, esc3]
theorem r5_is (x : Str) : r5 x = ofL (escL true x.cps.toList) := by
  unfold r5 r4
  rw [r3_is, replace_lit ofS_dq ofS_equot, replace_lit ofS_apos ofS_eapos, ofL_toL, ofL_toL, esc5]
theorem escape_ok {w : World} {p : Program} {loose : List Str} {mean : ExcName → Option Value} {mg mb : Str → Option Value}
    {dp un : Nat} {gd : Option (List Code)} {cn : Str} {cs : Scope} {a : Addr} {ccd : Value} {cl : List (Str × Addr)} {outer : List Env} {A₀ : Around} {base h₀ : Heap} {L : Addr} {m : Str → Option Value} {s : Shared} {Q E : Value → Shared → Prop}
    {news : List (Addr × Obj)} {x : Str} {t : Tok} {q : Bool} {tl : List Value} (htl : tl = [.bool q] ∨ (tl = [] ∧ q = true))
    (B : Below A₀ base outer h₀) (F : Fr h₀ L s.heap m) (X : (pre.heap_1 w.params).In h₀) (N : News h₀ L s.heap news) (T : Top p loose mean mg mb h₀)
    (hk : cs.kind = .function) (hl : (escL true x.cps.toList).length ≤ 1000000) (hdp : dp + 8 < recursionLimit) (hun : un + 40 < cLine)
    (hret : ∀ t' h' tk', 0 < tk' → Fr h₀ L h' m → News h₀ L h' news → Q (.str (ofL (escL q x.cps.toList)) t') { s with heap := h', toks := tk' }) :
    wpAny (model Challenge.rw_dn0059_06.row.prog w) (ktrTop dp un gd cn cs L a ccd cl outer) (call (.ref 767) (.str x t :: tl)) Q E s := by
  w_on
  k_with_none
  k_with "callWith" => (with_reducible refine callWith_method1 (first := _ :: _) (he := ?he) (hplain := ?hp) ?_; (case he => k_dflt (exact rfl)); (case hp => k_dflt (exact rfl)))
  k_with "callWith ref" => ((with_reducible show wpAny _ _ (callWith _ (Value.ref 752) _ _ _) _ _ _); k_dflt (refine' callWith_find ?k1 ?_; (case k1 => k_asm)))
  k_with "call ref" => ((with_reducible show wpAny _ _ (call (Value.ref 752) _ _) _ _ _); k_dflt (refine' find_call ?k1 ?k2 ?k3 ?k4 ?k5 ?_ ?_; (case k1 => k_asm); (case k2 => k_asm); (case k3 => k_asm); (case k4 => omega); (case k5 => omega)); all_goals (intro zhU; try (intro zr' zh' zF' zN'; (try k_sweep))))
  k_with "truthy str" => (refine truthy_pos (by assumption) (by omega) ?_)
  k_with "binaryOp Add str str" => (refine add_pos ?k1 ?k2 ?k3 ?_; (case k1 => ((try rw [Str.length_append]); omega)); (case k2 => omega); (case k3 => ((try rw [Str.length_append]); omega)); intro _)
  k_with "execs cons" => first | ((with_reducible refine execs_one ?_); try dsimp only) | ((with_reducible refine wpAny_execs_cons ?_); try dsimp only)
  k_with "execs nil" => (refine wpAny_execs_nil ?_)
  k_with "LeaveK" => (k_dflt (refine' leaveK_ ?k1 ?k2 ?_; (case k1 => k_asm); (case k2 => k_asm); k_whole); intro zkF zkN; refine stop_intro ?_)
  k_with "call builtin:str.replace" => (refine replace_mono (by (try dsimp only); omega) (by (try dsimp only); omega) (by (try dsimp only); omega) (by decide) (by (try dsimp only); omega) (by decide) ?_; intro zt' zk' zhk'; (try dsimp only at zhk'))
  revert X; k_fill; intro X
  have h5 : (r5 x).length ≤ 1000000 := by rw [r5_is]; exact hl
  have h4 : (r4 x).length ≤ 1000000 := Nat.le_trans (rep_ge ofS_apos ofS_eapos (by decide)) h5
  have h3 : (r3 x).length ≤ 1000000 := Nat.le_trans (rep_ge ofS_dq ofS_equot (by decide)) h4
  have h2 : (r2 x).length ≤ 1000000 := Nat.le_trans (rep_ge ofS_gt ofS_egt (by decide)) h3
  have h1 : (r1 x).length ≤ 1000000 := Nat.le_trans (rep_ge ofS_lt ofS_elt (by decide)) h2
  have h0 : x.length ≤ 1000000 := Nat.le_trans (rep_ge ofS_amp ofS_eamp (by decide)) h1
  unfold r1 at h1
  unfold r2 r1 at h2
  unfold r3 r2 r1 at h3
  unfold r4 r3 r2 r1 at h4
  refine wpAny_call ?_
  rcases htl with rfl | ⟨rfl, rfl⟩
  · cases q
    · k_dflt (walk_at "my enter")
      k_steps
      rename News _ _ _ _ => NN; rename Fr _ _ _ _ => FF
      rw [← r3_is] at hret
      exact Stop.out (hret _ _ _ (by (try dsimp only); omega) FF NN)
    · k_dflt (walk_at "my enter")
      k_steps
      rename News _ _ _ _ => NN; rename Fr _ _ _ _ => FF
      rw [← r5_is] at hret
      exact Stop.out (hret _ _ _ (by (try dsimp only); omega) FF NN)
  · k_dflt (walk_at "my enter")
    k_steps
    rename News _ _ _ _ => NN; rename Fr _ _ _ _ => FF
    rw [← r5_is] at hret
    exact Stop.out (hret _ _ _ (by (try dsimp only); omega) FF NN)
end
section
theorem ne_fact {prog : Program} {w : World} {A : Around} {E : Value → Shared → Prop} {s : Shared} {Q : Value → Shared → Prop} {x y : Str} {u t : Tok} {b : Bool} (h : (x != y) = b) (k : Q (.bool b) s) : wpAny (model prog w) A (compareOp .NotEq (.str x u) (.str y t)) Q E s :=
  ne_str (h ▸ k)
theorem safe_ok {w : World} {p : Program} {loose : List Str} {mean : ExcName → Option Value} {mg mb : Str → Option Value}
    {dp un : Nat} {gd : Option (List Code)} {cn : Str} {cs : Scope} {a : Addr} {ccd : Value} {cl : List (Str × Addr)} {outer : List Env} {A₀ : Around} {base h₀ : Heap} {L : Addr} {m : Str → Option Value} {s : Shared} {Q E : Value → Shared → Prop}
    {news : List (Addr × Obj)} {x : Str} {t : Tok}
    (B : Below A₀ base outer h₀) (F : Fr h₀ L s.heap m) (X : (pre.heap_1 w.params).In h₀) (N : News h₀ L s.heap news) (T : Top p loose mean mg mb h₀)
    (hk : cs.kind = .function) (hl : x.length ≤ 1000000) (hok : PyData.strOk x = true) (hdp : dp + 8 < recursionLimit) (hun : un + 100 < cLine)
    (hret : ∀ h' tk', Fr h₀ L h' m → News h₀ L h' news → Q (.bool (isSafe x.cps.toList)) { s with heap := h', toks := tk' }) :
    wpAny (model Challenge.rw_dn0059_06.row.prog w) (ktrTop dp un gd cn cs L a ccd cl outer) (call (.ref 784) [.str x t]) Q E s := by
  w_on
  k_with_none
  k_with "my enterC" => (refine' code_defC ?k1 ?k2 ?k3 ?k4 ?k5 ?kA ?kF ?kK ?k6 ?k7 ?k8 ?k9 ?kB ?kD ?_ ?c2 ?c3 ?c4; (case kA => exact rfl); (case kF => exact rfl); (case kK => assumption); (case k1 => k_asm); (case k2 => k_asm); (case k3 => k_asm); (case k4 => k_asm); (case k5 => k_asm); (case k6 => k_is); (case k7 => k_is); (case k8 => ktr_room); (case k9 => first | exact BindsTo.of_eq rfl | exact binds_K (by k_in) rfl (by k_is) rfl rfl rfl | fail "k_enter: no rule for these arguments"); (case kB => exact rfl); (case kD => decide +kernel); (case c2 => exact rfl); (case c3 => exact rfl); (case c4 => exact rfl); k_whole; intro zg' zL' zh' ztk' zcells' zFG' zF' zN' zY' zB' zX' zT' zl1; (try k_lt zl1); k_cells zY'; (try simp only [List.cons_append, List.nil_append] at zN'); (try dsimp only); (try k_lift zB'); (try k_fold))
  k_with "eval ListComp" => (k_dflt (refine ListComp_txT (by k_asm) (by with_unfolding_all rfl) (by decide) (by rfl) (by decide) (by rfl) ?_))
  k_with "compareOp Eq ref ref" => (refine stop_intro ?_)
  k_with "TxSrcT" => (refine stop_intro ?_)
  revert X; k_fill; intro X
  refine wpAny_call ?_
  k_dflt (walk_at "my enterC")
  cases hne : (x != Str.ofString "")
  · k_steps
    rename News _ _ _ _ => NN; rename Fr _ _ _ _ => FF
    have e : isSafe x.cps.toList = (x != Str.ofString "") := by
      rw [hne, show x = Str.ofString "" by simpa using hne]; rfl
    rw [e] at hret
    exact hret _ _ FF (News.sub NN fun p hp => .tail _ hp)
  · k_steps
    refine Stop.out ?_
    rename News _ _ _ _ => NN; rename Fr _ _ _ _ => FF
    refine ⟨x, t, _, rfl, rfl, FF, NN, by rw [sizeLine_eq]; show x.length ≤ _; omega, ?_⟩
    rintro s₂ ⟨hz, rfl⟩
    rw [show x.cps.size = x.cps.toList.length from (Array.length_toList).symm]
    refine rest_foldT (items := x.cps.toList) (rel := fun c v => ∃ u, v = .str ⟨#[c]⟩ u) (out := fun c v => ∃ u, v = .str ⟨#[c]⟩ u) (keep := fun c => !inS c safeS) ?_ ?_ ?_
    · rintro i v ⟨c, u, hc, rfl⟩
      exact ⟨c, by rw [Array.getElem?_toList]; exact hc, u, rfl⟩
    · clear FF NN
      rintro c v I oI C oC D m₂ ys h tk E' hcm ⟨u, rfl⟩ hyl hC hx F₁ N₁ off ⟨n1, n2, n3⟩
      k_steps
      refine Stop.out ⟨?_, fun _ => ?_, fun _ => ?_⟩
      · rw [StrLaws.found_one]; rfl
      · k_steps
        rename News _ _ _ _ => NN; rename Fr _ _ _ _ => FF
        exact LCg.CompEnd.intro FF NN _ (fun _ h => h) off trivial ⟨rfl, _, rfl⟩
      · exact LCg.CompEnd.intro F₁ N₁ _ (fun _ h => h) off trivial rfl
    · clear FF NN
      intro ys hys D h tk F₁ N₁ o1
      have hst := outs_strs hys
      k_steps
      refine Stop.out ?_
      rename News _ _ _ _ => NN; rename Fr _ _ _ _ => FF
      refine eq_strs (xs := ys) (ys := []) (NN.isList (.tail _ (.head _))) (NN.isList (.head _)) hst .nil ?_ (fun _ h => nomatch h) (by ktr_units) ?_
      · intro z hz'
        obtain ⟨c, hc, rfl⟩ := List.mem_map.mp hz'
        exact ok_one (ok_mem hok (List.mem_filter.mp hc).1)
      have e : decide (List.map (fun a : Nat => Str.mk #[a]) (List.filter (fun c => !inS c safeS) x.cps.toList) = []) = isSafe x.cps.toList := by
        have h1 : x.cps.toList.isEmpty = false := by
          cases hx : x.cps.toList with
          | nil =>
            have : x = Str.ofString "" := by rw [← toL_ofL x, hx]; decide
            rw [this] at hne; simp at hne
          | cons _ _ => rfl
        unfold isSafe
        rw [h1, Bool.not_false, Bool.true_and, Bool.eq_iff_iff]
        simp only [decide_eq_true_eq, List.map_eq_nil_iff, List.filter_eq_nil_iff, Bool.not_eq_true', Bool.not_eq_false, List.any_eq_false]
        refine forall_congr' fun c => forall_congr' fun _ => ?_
        rw [show inS c safeS = !unsafeC c from safe_unsafe c]
        cases unsafeC c <;> simp
      rw [e]
      k_steps
      rename News _ _ _ _ => NN; rename Fr _ _ _ _ => FF
      exact hret _ _ FF (News.sub NN fun p hp => .tail _ (.tail _ (.tail _ hp)))
end
section
local macro_rules | `(tactic| walk_at "my enterE") => `(tactic| (refine' code_def ?k1 ?k2 ?k3 ?k4 ?k5 ?kA ?kF ?kK ?k6 ?k7 ?k8 ?k9 ?kB ?_ ?c2 ?c3 ?c4 ?c5; (case kA => exact rfl); (case kF => assumption); (case kK => assumption); (case k1 => k_asm); (case k2 => k_asm); (case k3 => k_asm); (case k4 => k_asm); (case k5 => k_asm); (case k6 => k_is); (case k7 => k_is); (case k8 => ktr_room); (case k9 => first | exact BindsTo.of_eq rfl | exact binds_K (by k_in) rfl (by k_is) rfl rfl rfl | fail "k_enter: no rule for these arguments"); (case c5 => decide); (case kB => exact locs rfl); (case c2 => exact rfl); (case c3 => exact rfl); (case c4 => exact rfl); k_whole; intro g' L' h' FG' F' N' B' X' T'; (try dsimp only); (try k_lift B'); (try k_fold)))
/-- the surroundings in a frame of any kind -/
noncomputable abbrev topE (dp un : Nat) (gd : Option (List Code)) (env : Env) (outer : List Env) : Around := { handled := none, depth := dp, frames := some (env :: outer), guards := gd, units := un }
theorem quote_okE {w : World} {p : Program} {loose : List Str} {mean : ExcName → Option Value} {mg mb : Str → Option Value}
    {dp un : Nat} {gd : Option (List Code)} {env : Env} {outer : List Env} {A₀ : Around} {base h₀ : Heap} {L : Addr} {m : Str → Option Value} {s : Shared} {Q E : Value → Shared → Prop}
    {news : List (Addr × Obj)} {x : Str} {t : Tok}
    (B : Below A₀ base outer h₀) (F : Fr h₀ L s.heap m) (X : (pre.heap_1 w.params).In h₀) (N : News h₀ L s.heap news) (T : Top p loose mean mg mb h₀)
    (hf : env.frame = some L) (hk : env.scope.kind = .function) (hl : x.length ≤ 1000000) (hdp : dp + 8 < recursionLimit) (hun : un + 40 < cLine)
    (hret : ∀ t' h' tk', 0 < tk' → Fr h₀ L h' m → News h₀ L h' news → Q (.str (ofL (qt x.cps.toList)) t') { s with heap := h', toks := tk' }) :
    wpAny (model Challenge.rw_dn0059_06.row.prog w) (topE dp un gd env outer) (call (.ref 759) [.str x t]) Q E s := by
  w_on
  k_with_none
  k_with "callWith ref" => ((with_reducible show wpAny _ _ (callWith _ (Value.ref 752) _ _ _) _ _ _); k_dflt (refine' callWith_find ?k1 ?_; (case k1 => k_asm)))
  k_with "call ref" => ((with_reducible show wpAny _ _ (call (Value.ref 752) _ _) _ _ _); k_dflt (refine' find_call ?k1 ?k2 ?k3 ?k4 ?k5 ?_ ?_; (case k1 => k_asm); (case k2 => k_asm); (case k3 => k_asm); (case k4 => omega); (case k5 => omega)); all_goals (intro zhU; try (intro zr' zh' zF' zN'; (try k_sweep))))
  k_with "truthy str" => (refine truthy_pos (by assumption) (by omega) ?_)
  k_with "binaryOp Add str str" => (refine add_pos ?k1 ?k2 ?k3 ?_; (case k1 => ((try rw [Str.length_append]); omega)); (case k2 => omega); (case k3 => ((try rw [Str.length_append]); omega)); intro _)
  k_with "execs cons" => first | ((with_reducible refine execs_one ?_); try dsimp only) | ((with_reducible refine wpAny_execs_cons ?_); try dsimp only)
  k_with "execs nil" => (refine wpAny_execs_nil ?_)
  k_with "LeaveK" => (k_dflt (refine' leaveK_ ?k1 ?k2 ?_; (case k1 => k_asm); (case k2 => k_asm); k_whole); intro zkF zkN; refine stop_intro ?_)
  revert X; k_fill; intro X
  have hrep : (Txt.replace x (Str.ofString "'") (Str.ofString "'\"'\"'")).length ≤ 5 * x.length := by
    rw [replace_lit ofS_apos ofS_qapos, ofL_len]
    exact sub1_len 39 [39, 34, 39, 34, 39] 5 (by decide) (by decide) x.cps.toList
  have hl1 : (Str.ofString "'").length = 1 := rfl
  have hge : x.length ≤ (Txt.replace x (Str.ofString "'") (Str.ofString "'\"'\"'")).length := rep_ge ofS_apos ofS_qapos (by decide)
  refine wpAny_call ?_
  k_dflt (walk_at "my enterE")
  rcases Nat.eq_zero_or_pos x.length with h0 | h0
  · have hz : ((x.length : Int) != 0) = false := by rw [h0]; rfl
    k_steps
    rename News _ _ _ _ => NN; rename Fr _ _ _ _ => FF
    have e : ofL (qt x.cps.toList) = Str.ofString "''" := by
      rw [List.eq_nil_of_length_eq_zero (l := x.cps.toList) (by rw [Array.length_toList]; exact h0), ofS_two]; rfl
    rw [e] at hret
    exact Stop.out (hret _ _ _ (by (try dsimp only); omega) FF NN)
  · have hz : ((x.length : Int) != 0) = true := by simp; omega
    have hne : x.cps.toList ≠ [] := fun e => by
      have : x.length = 0 := by show x.cps.size = 0; rw [← Array.length_toList, e]; rfl
      omega
    k_steps
    all_goals (rename List.any _ _ = _ => hU; rename News _ _ _ _ => NN; rename Fr _ _ _ _ => FF)
    · have e : ofL (qt x.cps.toList) = x := by
        unfold qt; rw [if_neg hne, if_neg (by rw [hU]; decide), toL_ofL]
      rw [e] at hret
      exact Stop.out (hret _ _ _ (by (try dsimp only); omega) FF NN)
    · have e : ofL (qt x.cps.toList) = Str.ofString "'" ++ Txt.replace x (Str.ofString "'") (Str.ofString "'\"'\"'") ++ Str.ofString "'" := by
        unfold qt; rw [if_neg hne, if_pos hU, replace_lit ofS_apos ofS_qapos, ofS_apos, ofL_append, ofL_append]; rfl
      rw [e] at hret
      exact Stop.out (hret _ _ _ (by (try dsimp only); omega) FF NN)
end
section
/-- quote(arg) as the element of a generator expression -/
theorem elt_quote {w : World} {p : Program} {loose : List Str} {mean : ExcName → Option Value} {mg mb : Str → Option Value}
    {A A₀ : Around} {base g h₄ href : Heap} {outer : List Env} {env : Env} {L I : Addr} {m : Str → Option Value} {oI : Obj} {iter : Expr} {px p1 p2 p3 pos : Pos} {scope : Scope} {code : Value} {bi : Addr} {items : Array Value} {ws : List Str}
    (B : Below A₀ base outer g) (F : Fr g L h₄ m) (N : News g L h₄ [(I, oI)]) (X : (pre.heap_1 w.params).In g) (T : Top p loose mean mg mb g)
    (hA : A.frames = some (env :: outer)) (hh : A.handled = none) (hf : env.frame = some L) (hke : env.scope.kind = .function) (hg : env.globals = mainGlobals)
    (hsk : scope.kind = .function) (hq1 : scope.names.lookup (Str.ofString "quote") = some .globalImplicit) (hq2 : scope.names.lookup (Str.ofString "arg") = some .local)
    (hdp : A.depth + 12 < recursionLimit) (hun : A.units + 100 < cLine)
    (hv : StrsAre items.toList ws) (hl : ∀ x ∈ ws, x.length ≤ 1000000) (hk : ∀ b o, h₄.get? b = some o → href.get? b = some o) :
    EltX Challenge.rw_dn0059_06.row.prog w A.in4.in1 (.Call (.Name (Str.ofString "quote") p1) [.Name (Str.ofString "arg") p2] [] p3) iter (Str.ofString "arg") px scope pos I (genEnv scope [] h₄.objs.size code bi env)
      (List.range h₄.objs.size) [I] (fun i v => items[i]? = some v) (fun i y => ∃ x t, ws[i]? = some x ∧ y = .str (ofL (qt x.cps.toList)) t) href := by
  intro E' i v s₂ m₂ hiv hns hm hkeep
  obtain ⟨x, t, rfl, hx⟩ := hv.item i v (by rw [Array.getElem?_toList]; exact hiv)
  obtain ⟨FG, BG, st, _⟩ := groundX (R := fun _ _ => True) (s := { s₂ with heap := h₄ }) (A := A) B F N hA hf hke
  have X' := X.keeps st
  have T' := T.keeps st
  have F' : Fr (hideAll h₄ [I]) h₄.objs.size s₂.heap m₂ := ⟨hns, fun b o e => by
    have e4 := of_hideAll _ e
    exact hkeep b (List.mem_range.mpr (Heap.lt_size e4)) (fun q => by rw [hideAll_none _ q] at e; cases e) o (hk b o e4), Nat.le_of_eq (hideAll_size _ _)⟩
  have N' : News (hideAll h₄ [I]) h₄.objs.size s₂.heap (PyProof.Rows.ownOf (hideAll h₄ [I]) ((List.range s₂.heap.objs.size).filter (· ≠ h₄.objs.size)) s₂.heap) := news_ownOf (by simp)
  have hq : (pre.heap_1 w.params).In s₂.heap := X'.keeps F'.keep
  refine wpAny_Call_NameR (Calls.Name_function_global (env := genEnv scope [] h₄.objs.size code bi env) hsk hq1 (Calls.loadGlobal_global (env := genEnv scope [] h₄.objs.size code bi env) (mg := mg) (by show s₂.heap.Ns env.globals mg; rw [hg]; exact T'.g.keeps F'.keep) (mg_of X' T'.g (v := .ref 759) (by kernel_rfl)) ?_) (by decide))
  refine callWith_K X' (by kernel_rfl) (args_cons (wpAny_Name (wpAny_loadName_local (env := genEnv scope [] h₄.objs.size code bi env) hsk hq2 hns hm (args_nil ⟨hq, ?_⟩)) (by decide)))
  have hover : A.in4.in1.over (.compLoop (gx (.Call (.Name (Str.ofString "quote") p1) [.Name (Str.ofString "arg") p2] [] p3) iter (Str.ofString "arg") px scope pos) 0 (.ref I) .none (genEnv scope [] h₄.objs.size code bi env)) [] =
      topE (A.in4.in1.over (.compLoop (gx (.Call (.Name (Str.ofString "quote") p1) [.Name (Str.ofString "arg") p2] [] p3) iter (Str.ofString "arg") px scope pos) 0 (.ref I) .none (genEnv scope [] h₄.objs.size code bi env)) []).depth
        (A.in4.in1.over (.compLoop (gx (.Call (.Name (Str.ofString "quote") p1) [.Name (Str.ofString "arg") p2] [] p3) iter (Str.ofString "arg") px scope pos) 0 (.ref I) .none (genEnv scope [] h₄.objs.size code bi env)) []).units
        (A.in4.in1.over (.compLoop (gx (.Call (.Name (Str.ofString "quote") p1) [.Name (Str.ofString "arg") p2] [] p3) iter (Str.ofString "arg") px scope pos) 0 (.ref I) .none (genEnv scope [] h₄.objs.size code bi env)) []).guards
        (genEnv scope [] h₄.objs.size code bi env) (env :: outer) := by
    obtain ⟨hd0, d0, fr0, gd0, un0⟩ := A
    cases hh; cases hA
    rfl
  rw [hover]
  refine quote_okE (env := genEnv scope [] h₄.objs.size code bi env) BG F' X' N' T' rfl hsk (hl x (List.mem_of_getElem? hx)) ?_ ?_ ?_
  · obtain ⟨hd0, d0, fr0, gd0, un0⟩ := A
    show d0 + 0 + 1 + 8 < recursionLimit
    have : d0 + 12 < recursionLimit := hdp
    omega
  · obtain ⟨hd0, d0, fr0, gd0, un0⟩ := A
    have : un0 + 100 < cLine := hun
    dsimp only [Around.over, Around.in4, Around.in1, unitsOf, List.map, Code.cUnits, Code.frames, List.sum_nil, List.sum, List.foldr]
    split <;> omega
  · intro t' h' tk' _ F₃ N₃
    refine ⟨⟨x, t', hx, rfl⟩, h', tk', rfl, F₃.ns, fun b o hb e => ?_⟩
    cases hq3 : (hideAll h₄ [I]).get? b with
    | some o' =>
      have e2 := F'.keep b o' hq3
      rw [e] at e2; cases e2
      exact F₃.keep b _ hq3
    | none => exact (N₃ _ (PyProof.Rows.mem_ownOf (List.mem_filter.mpr ⟨List.mem_range.mpr (Heap.lt_size e), by simpa using (show b ≠ h₄.objs.size from hb)⟩) hq3 e)).1
end
section
theorem join_ok {w : World} {p : Program} {loose : List Str} {mean : ExcName → Option Value} {mg mb : Str → Option Value}
    {dp un : Nat} {gd : Option (List Code)} {cn : Str} {cs : Scope} {a : Addr} {ccd : Value} {cl : List (Str × Addr)} {outer : List Env} {A₀ : Around} {base h₀ : Heap} {L : Addr} {m : Str → Option Value} {s : Shared} {Q E : Value → Shared → Prop}
    {news : List (Addr × Obj)} {D : Addr} {vs : List Value} {n : Nat} {ws : List Str} {ps : Array Value}
    (B : Below A₀ base outer h₀) (F : Fr h₀ L s.heap m) (X : (pre.heap_1 w.params).In h₀) (N : News h₀ L s.heap ((746, tabObj ps) :: (D, listOf vs.toArray n) :: news)) (T : Top p loose mean mg mb h₀)
    (hk : cs.kind = .function) (hv : StrsAre vs ws) (hl : ∀ x ∈ ws, x.length ≤ 1000000) (ht : TriplesOk ps.toList) (G : AllBare s.gens) (hoff : ∀ p ∈ news, p.1 ≠ 746) (hdp : dp + 20 < recursionLimit) (hun : un + 200 < cLine)
    (hjo : JoinOk (Str.ofString " ") (ws.map fun x => ofL (qt x.cps.toList)) = true) (hsz : ws.length ≤ 1000)
    (hret : ∀ t' s' ps', TriplesOk ps'.toList → AllBare s'.gens → s'.os = s.os → Fr h₀ L s'.heap m → News h₀ L s'.heap ((746, tabObj ps') :: (D, listOf vs.toArray n) :: news) →
      Q (.str (Txt.join (Str.ofString " ") (ws.map fun x => ofL (qt x.cps.toList))) t') s') :
    wpAny (model Challenge.rw_dn0059_06.row.prog w) (ktrTop dp un gd cn cs L a ccd cl outer) (call (.ref 751) [.ref D]) Q E s := by
  w_on
  k_with_none
  k_with "eval GeneratorExp" => (refine stop_intro ?_)
  revert X; k_fill; intro X
  refine wpAny_call ?_
  k_dflt (walk_at "my enter")
  k_steps
  refine Stop.out ?_
  rename News _ _ _ _ => NN; rename Fr _ _ _ _ => FF
  rename Below _ _ (_ :: _) _ => BB
  rename Top _ _ _ _ _ _ => TT
  rename Frag.In _ _ => XX
  obtain ⟨bm, ob, MM⟩ := bmod_of_top TT
  refine GenExp_L FF NN (codeHd_of_K (c := 750) (P := 746) XX (by kernel_rfl)) MM TT.nolimit ht G rfl rfl rfl rfl (by decide) rfl rfl rfl ?kr ?ki (fun i y => ∃ x t, ws[i]? = some x ∧ y = .str (ofL (qt x.cps.toList)) t) ?kq ?kQ (fun _ => rfl) hoff
  case kr => ktr_room
  case ki =>
    intro Q' hQ'
    k_steps
    exact hQ'
  case kq =>
    intro code h₄ href oI F₄ N₄ hk₄
    refine elt_quote BB F₄ N₄ XX TT rfl rfl rfl rfl rfl rfl rfl rfl ?_ ?_ (by simpa using hv) hl hk₄
    · ktr_room
    · ktr_units
  case kQ =>
    intro a' ps' s₅ ht' F₅ N₅ G₅ hos hup hgen
    refine args_nil ?_
    have hps : passing all1 vs.toArray.size 0 = List.range vs.length := by rw [passing_all, List.size_toArray]
    have hwl : vs.length = ws.length := hv.len_eq
    have hmap : (List.range vs.length).map (fun j => ofL (qt ((ws[j]?.getD (Str.ofString "")).cps.toList))) = ws.map fun x => ofL (qt x.cps.toList) := by
      apply List.ext_getElem?
      intro j
      by_cases hj : j < ws.length
      · simp [hwl, hj]
      · simp [hwl, hj]
    refine join_rowsK F₅ G₅ hgen ?_ (fun j => ofL (qt ((ws[j]?.getD (Str.ofString "")).cps.toList))) ?_ ?_ ?_ ?_
    · have := FF.ns.lt
      exact Nat.le_sub_one_of_lt this
    · rintro j v ⟨i, hi, x, t, hx, rfl⟩
      rw [hps] at hi
      have : j = i := by
        rw [List.getElem?_range (by
          rcases Nat.lt_or_ge j vs.length with h | h
          · exact h
          · rw [List.getElem?_eq_none (by simpa using h)] at hi; cases hi)] at hi
        exact Option.some.inj hi
      subst this
      exact ⟨t, by rw [hx]; rfl⟩
    · rw [hmap]; exact hjo
    · intro s₆ t₆ F₆ G₆ hos₆ hk₆
      rw [hmap]
      have N₆ := fun p hp => (⟨hk₆ p.1 p.2 (Nat.le_sub_one_of_lt (by
        rcases List.mem_cons.mp hp with rfl | hp
        · exact Heap.lt_size (NN _ (.head _)).1
        · exact Heap.lt_size (NN _ (.tail _ hp)).1)) (N₅ p hp).1, (N₅ p hp).2⟩ : _ ∧ _ ∧ _)
      have N₆' : News _ _ s₆.heap ((746, tabObj ps') :: (D, listOf vs.toArray n) :: news) := N₆
      clear N₆ NN FF F₅ N₅ hk₆ hgen
      have hos' : s₆.os = s.os := hos₆.trans hos
      k_steps
      rename News _ _ _ _ => NN; rename Fr _ _ _ _ => FF
      exact hret _ _ _ ht' G₆ hos' FF NN
    · rw [hwl, sizeLine_eq]; omega
end
section
theorem sum_qt : ∀ (ws : List (List Nat)) (b : Nat), (∀ l ∈ ws, l.length ≤ b) → ((ws.map fun l => ofL (qt l)).map (·.length)).sum ≤ ws.length * (5 * b + 2)
  | [], _, _ => Nat.zero_le _
  | l :: r, b, h => by
    have ih := sum_qt r b fun q hq => h q (.tail _ hq)
    have h1 := h l (.head _)
    have h2 := qt_len l
    simp only [List.map_cons, List.sum_cons, List.length_cons, ofL_len] at ih ⊢
    rw [Nat.add_mul]
    omega
theorem tab_ne {h₀ h : Heap} {L P D : Addr} {ps items : Array Value} {n : Nat} {news : List (Addr × Obj)} (N : News h₀ L h news) (hP : (P, tabObj ps) ∈ news) (hD : (D, listOf items n) ∈ news) : D ≠ P := fun e => by
  have h1 := (N _ hP).1
  have h2 := (N _ hD).1
  dsimp only at h1 h2
  rw [e, h1] at h2
  cases h2
/-- join on a list of the ledger -/
theorem join_okL {w : World} {p : Program} {loose : List Str} {mean : ExcName → Option Value} {mg mb : Str → Option Value}
    {dp un : Nat} {gd : Option (List Code)} {cn : Str} {cs : Scope} {a : Addr} {ccd : Value} {cl : List (Str × Addr)} {outer : List Env} {A₀ : Around} {base h₀ : Heap} {L : Addr} {m : Str → Option Value} {s : Shared} {Q E : Value → Shared → Prop}
    {news : List (Addr × Obj)} {D : Addr} {vs : List Value} {n : Nat} {ws : List (List Nat)} {ps : Array Value}
    (B : Below A₀ base outer h₀) (F : Fr h₀ L s.heap m) (X : (pre.heap_1 w.params).In h₀) (N : News h₀ L s.heap ((746, tabObj ps) :: (D, listOf vs.toArray n) :: news)) (T : Top p loose mean mg mb h₀)
    (hk : cs.kind = .function) (hv : StrsAre vs (ws.map ofL)) (hl : ∀ l ∈ ws, l.length ≤ 1440) (ht : TriplesOk ps.toList) (G : AllBare s.gens) (hoff : ∀ p ∈ news, p.1 ≠ 746) (hdp : dp + 20 < recursionLimit) (hun : un + 200 < cLine)
    (hsz : ws.length ≤ 240)
    (hret : ∀ t' s' ps', TriplesOk ps'.toList → AllBare s'.gens → s'.os = s.os → Fr h₀ L s'.heap m → News h₀ L s'.heap ((746, tabObj ps') :: (D, listOf vs.toArray n) :: news) →
      Q (.str (ofL (joinL [32] (ws.map qt))) t') s') :
    wpAny (model Challenge.rw_dn0059_06.row.prog w) (ktrTop dp un gd cn cs L a ccd cl outer) (call (.ref 751) [.ref D]) Q E s := by
  have e1 : (ws.map ofL).map (fun x => ofL (qt x.cps.toList)) = ws.map fun l => ofL (qt l) := by rw [List.map_map]; rfl
  have e2 : (ws.map fun l => ofL (qt l)) = (ws.map qt).map ofL := by rw [List.map_map]; rfl
  refine join_ok B F X N T hk hv ?_ ht G hoff hdp hun ?_ (by rw [List.length_map]; omega) ?_
  · intro x hx
    obtain ⟨l, hl', rfl⟩ := List.mem_map.mp hx
    have := hl l hl'
    rw [ofL_len]; omega
  · rw [e1]
    refine joinOk_of ?_
    have h1 := sum_qt ws 1440 hl
    have h2 : ws.length * (5 * 1440 + 2) ≤ 240 * (5 * 1440 + 2) := Nat.mul_le_mul_right _ hsz
    rw [List.length_map, show (Str.ofString " ").length = 1 by decide]
    omega
  · intro t' s' ps' a1 a2 a3 a4 a5
    rw [e1, e2, ofS_sp, joinT_ofL]
    exact hret t' s' ps' a1 a2 a3 a4 a5
end
section
theorem ofS_amp' : Str.ofString "&" = ofL [38] := by decide
theorem ofS_lt' : Str.ofString "<" = ofL [60] := by decide
theorem ofS_gt' : Str.ofString ">" = ofL [62] := by decide
theorem ofS_dq' : Str.ofString "\"" = ofL [34] := by decide
theorem sum_len : ∀ ls : List (List Nat), (ls.map (Str.length ∘ ofL)).sum = ls.flatten.length
  | [] => rfl
  | a :: r => by simp [sum_len r, ofL_len]
theorem same_s (a b : Str) : PySem.Spec.same (.str a) (.str b) = decide (a = b) := by
  simp only [PySem.Spec.same]
  by_cases h : a = b <;> simp [h]
theorem one_ne {c d : Nat} : (ofL [d] = Str.mk #[c]) ↔ d = c := by
  constructor
  · intro h
    have := congrArg (fun x : Str => x.cps.toList) h
    simpa [ofL] using this
  · rintro rfl; rfl
theorem lk3 {a1 b1 a2 b2 a3 b3 : Tok} (c : Nat) : (Spec.lookup (PyData.str ⟨#[c]⟩) (strData [(.str (Str.ofString "&") a1, .str (Str.ofString "&amp;") b1), (.str (Str.ofString "<") a2, .str (Str.ofString "&lt;") b2), (.str (Str.ofString ">") a3, .str (Str.ofString "&gt;") b3)])).getD (PyData.str ⟨#[c]⟩) = .str (ofL (escC false c)) := by
  simp only [strData, Spec.lookup, same_s, ofS_amp', ofS_lt', ofS_gt', one_ne, decide_eq_true_eq]
  unfold escC
  by_cases h1 : 38 = c; · subst h1; rfl
  by_cases h2 : 60 = c; · subst h2; rfl
  by_cases h3 : 62 = c; · subst h3; rfl
  simp [h1, h2, h3, Ne.symm h1, Ne.symm h2, Ne.symm h3, eq_comm]
  rfl
theorem lk5 {a1 b1 a2 b2 a3 b3 : Tok} (c : Nat) : (Spec.lookup (PyData.str ⟨#[c]⟩) (PyProof.V.putD (PyData.str (Str.ofString "'")) (PyData.str (Str.ofString "&#x27;")) (PyProof.V.putD (PyData.str (Str.ofString "\"")) (PyData.str (Str.ofString "&quot;"))
    (strData [(.str (Str.ofString "&") a1, .str (Str.ofString "&amp;") b1), (.str (Str.ofString "<") a2, .str (Str.ofString "&lt;") b2), (.str (Str.ofString ">") a3, .str (Str.ofString "&gt;") b3)])))).getD (PyData.str ⟨#[c]⟩) = .str (ofL (escC true c)) := by
  have e : (PyProof.V.putD (PyData.str (Str.ofString "'")) (PyData.str (Str.ofString "&#x27;")) (PyProof.V.putD (PyData.str (Str.ofString "\"")) (PyData.str (Str.ofString "&quot;"))
    (strData [(.str (Str.ofString "&") a1, .str (Str.ofString "&amp;") b1), (.str (Str.ofString "<") a2, .str (Str.ofString "&lt;") b2), (.str (Str.ofString ">") a3, .str (Str.ofString "&gt;") b3)]))) =
    [(.str (Str.ofString "&"), .str (Str.ofString "&amp;")), (.str (Str.ofString "<"), .str (Str.ofString "&lt;")), (.str (Str.ofString ">"), .str (Str.ofString "&gt;")), (.str (Str.ofString "\""), .str (Str.ofString "&quot;")), (.str (Str.ofString "'"), .str (Str.ofString "&#x27;"))] := by kernel_rfl
  rw [e]
  simp only [Spec.lookup, same_s, ofS_amp', ofS_lt', ofS_gt', ofS_dq', ofS_apos, one_ne, decide_eq_true_eq]
  unfold escC
  by_cases h1 : 38 = c; · subst h1; rfl
  by_cases h2 : 60 = c; · subst h2; rfl
  by_cases h3 : 62 = c; · subst h3; rfl
  by_cases h4 : 34 = c; · subst h4; rfl
  by_cases h5 : 39 = c; · subst h5; rfl
  have g1 : ¬ c = 38 := fun e => h1 e.symm
  have g2 : ¬ c = 60 := fun e => h2 e.symm
  have g3 : ¬ c = 62 := fun e => h3 e.symm
  have g4 : ¬ c = 34 := fun e => h4 e.symm
  have g5 : ¬ c = 39 := fun e => h5 e.symm
  simp [h1, h2, h3, h4, h5, g1, g2, g3, g4, g5]
  rfl
theorem written_ok {w : World} {p : Program} {loose : List Str} {mean : ExcName → Option Value} {mg mb : Str → Option Value}
    {dp un : Nat} {gd : Option (List Code)} {cn : Str} {cs : Scope} {a : Addr} {ccd : Value} {cl : List (Str × Addr)} {outer : List Env} {A₀ : Around} {base h₀ : Heap} {L : Addr} {m : Str → Option Value} {s : Shared} {Q E : Value → Shared → Prop}
    {news : List (Addr × Obj)} {x : Str} {t : Tok} {q : Bool}
    (B : Below A₀ base outer h₀) (F : Fr h₀ L s.heap m) (X : (pre.heap_1 w.params).In h₀) (N : News h₀ L s.heap news) (T : Top p loose mean mg mb h₀)
    (hk : cs.kind = .function) (hl : 6 * x.length ≤ 1000000) (hdp : dp + 8 < recursionLimit) (hun : un + 100 < cLine)
    (hret : ∀ t' h' tk', Fr h₀ L h' m → News h₀ L h' news → Q (.str (ofL (escL q x.cps.toList)) t') { s with heap := h', toks := tk' }) :
    wpAny (model Challenge.rw_dn0059_06.row.prog w) (ktrTop dp un gd cn cs L a ccd cl outer) (call (.ref 779) [.str x t, .bool q]) Q E s := by
  w_on
  k_with_none
  k_with "my enterC" => (refine' code_defC ?k1 ?k2 ?k3 ?k4 ?k5 ?kA ?kF ?kK ?k6 ?k7 ?k8 ?k9 ?kB ?kD ?_ ?c2 ?c3 ?c4; (case kA => exact rfl); (case kF => exact rfl); (case kK => assumption); (case k1 => k_asm); (case k2 => k_asm); (case k3 => k_asm); (case k4 => k_asm); (case k5 => k_asm); (case k6 => k_is); (case k7 => k_is); (case k8 => ktr_room); (case k9 => first | exact BindsTo.of_eq rfl | exact binds_K (by k_in) rfl (by k_is) rfl rfl rfl | fail "k_enter: no rule for these arguments"); (case kB => exact rfl); (case kD => decide +kernel); (case c2 => exact rfl); (case c3 => exact rfl); (case c4 => exact rfl); k_whole; intro zg' zL' zh' ztk' zcells' zFG' zF' zN' zY' zB' zX' zT' zl1; (try k_lt zl1); k_cells zY'; (try simp only [List.cons_append, List.nil_append] at zN'); (try dsimp only); (try k_lift zB'); (try k_fold))
  k_with "eval ListComp" => (k_dflt (refine ListComp_tx (by k_asm) (by with_unfolding_all rfl) (by decide) (by rfl) (by decide) (by rfl) ?_))
  k_with "call builtin:str.join" => (refine stop_intro ?_)
  k_with "TxSrc" => (refine stop_intro ?_)
  revert X; k_fill; intro X
  refine wpAny_call ?_
  k_dflt (walk_at "my enterC")
  cases q
  · k_steps
    refine Stop.out ?_
    rename News _ _ _ _ => NN; rename Fr _ _ _ _ => FF
    refine ⟨x, t, _, rfl, rfl, FF, NN, by rw [sizeLine_eq]; show x.length ≤ _; omega, ?_⟩
    rintro s₂ ⟨hz, rfl⟩
    rw [show x.cps.size = x.cps.toList.length from (Array.length_toList).symm]
    refine rest_fold (items := x.cps.toList) (rel := fun c v => ∃ u, v = .str ⟨#[c]⟩ u) (out := fun c v => ∃ u, v = .str (ofL (escC false c)) u) ?_ ?_ ?_
    · rintro i v ⟨c, u, hc, rfl⟩
      exact ⟨c, by rw [Array.getElem?_toList]; exact hc, u, rfl⟩
    · clear FF NN
      rintro c v I oI C oC D m₂ ys h tk E' hcm ⟨u, rfl⟩ hyl hC hx F₁ N₁ off ⟨n1, n2, n3⟩
      k_steps
      rename PyProof.V.Flat _ _ => hv
      rw [lk3] at hv
      cases hv h
      rename News _ _ _ _ => NN; rename Fr _ _ _ _ => FF
      exact LCg.CompEnd.intro FF NN _ (fun _ h => h) off trivial ⟨rfl, _, rfl⟩
    · clear FF NN
      intro ys hys D h tk F₁ N₁ o1
      have hst := outs_strs hys
      k_steps
      refine Stop.out ?_
      rename News _ _ _ _ => NN; rename Fr _ _ _ _ => FF
      have e0 : x.cps.toList.map (fun a => ofL (escC false a)) = (x.cps.toList.map (escC false)).map ofL := by rw [List.map_map]; rfl
      have hle := escL_len false x.cps.toList
      refine join_listC (items := ys.toArray) (ys := x.cps.toList.map fun a => ofL (escC false a)) (NN.isList (.head _)) (by simpa using hst) (by decide) ?_ ?_
      · rw [e0, List.map_map, List.length_map, List.length_map]
        have h1 := sum_len (x.cps.toList.map (escC false))
        have h2 : (x.cps.toList.map (escC false)).flatten = escL false x.cps.toList := rfl
        rw [h2] at h1
        have h3 : x.cps.toList.length = x.length := Array.length_toList
        rw [h3] at hle
        show (List.map (Str.length ∘ ofL) (x.cps.toList.map (escC false))).sum + _ ≤ _
        rw [h1, h3]
        omega
      · intro t' k'
        rw [e0, ofS_nil, joinT_ofL, joinL_nil]
        k_steps
        rename News _ _ _ _ => NN; rename Fr _ _ _ _ => FF
        exact hret _ _ _ FF (News.sub NN fun p hp => .tail _ (.tail _ (.tail _ hp)))
  · k_steps
    refine Stop.out ?_
    rename News _ _ _ _ => NN; rename Fr _ _ _ _ => FF
    refine ⟨x, t, _, rfl, rfl, FF, NN, by rw [sizeLine_eq]; show x.length ≤ _; omega, ?_⟩
    rintro s₂ ⟨hz, rfl⟩
    rw [show x.cps.size = x.cps.toList.length from (Array.length_toList).symm]
    refine rest_fold (items := x.cps.toList) (rel := fun c v => ∃ u, v = .str ⟨#[c]⟩ u) (out := fun c v => ∃ u, v = .str (ofL (escC true c)) u) ?_ ?_ ?_
    · rintro i v ⟨c, u, hc, rfl⟩
      exact ⟨c, by rw [Array.getElem?_toList]; exact hc, u, rfl⟩
    · clear FF NN
      rintro c v I oI C oC D m₂ ys h tk E' hcm ⟨u, rfl⟩ hyl hC hx F₁ N₁ off ⟨n1, n2, n3⟩
      k_steps
      rename PyProof.V.Flat _ _ => hv
      rw [lk5] at hv
      cases hv h
      rename News _ _ _ _ => NN; rename Fr _ _ _ _ => FF
      exact LCg.CompEnd.intro FF NN _ (fun _ h => h) off trivial ⟨rfl, _, rfl⟩
    · clear FF NN
      intro ys hys D h tk F₁ N₁ o1
      have hst := outs_strs hys
      k_steps
      refine Stop.out ?_
      rename News _ _ _ _ => NN; rename Fr _ _ _ _ => FF
      have e0 : x.cps.toList.map (fun a => ofL (escC true a)) = (x.cps.toList.map (escC true)).map ofL := by rw [List.map_map]; rfl
      have hle := escL_len true x.cps.toList
      refine join_listC (items := ys.toArray) (ys := x.cps.toList.map fun a => ofL (escC true a)) (NN.isList (.head _)) (by simpa using hst) (by decide) ?_ ?_
      · rw [e0, List.map_map, List.length_map, List.length_map]
        have h1 := sum_len (x.cps.toList.map (escC true))
        have h2 : (x.cps.toList.map (escC true)).flatten = escL true x.cps.toList := rfl
        rw [h2] at h1
        have h3 : x.cps.toList.length = x.length := Array.length_toList
        rw [h3] at hle
        show (List.map (Str.length ∘ ofL) (x.cps.toList.map (escC true))).sum + _ ≤ _
        rw [h1, h3]
        omega
      · intro t' k'
        rw [e0, ofS_nil, joinT_ofL, joinL_nil]
        k_steps
        rename News _ _ _ _ => NN; rename Fr _ _ _ _ => FF
        exact hret _ _ _ FF (News.sub NN fun p hp => .tail _ (.tail _ (.tail _ hp)))
end
section
/-- what _law_words gives, with lf signs still to come -/
structure Worded (lf : Nat) (ws : List (List Nat)) : Prop where
  sum : (ws.map List.length).sum + lf ≤ 240
  len : ws.length + lf ≤ 240
  signs : ∀ l ∈ ws, ∀ c ∈ l, c < 1114112
theorem newsTl' {h₀ h : Heap} {L : Addr} {a : Addr × Obj} {r : List (Addr × Obj)} (N : News h₀ L h (a :: r)) : News h₀ L h r := fun q hq => N q (.tail _ hq)
theorem item14 : ∀ z : Nat, z < 14 → (Txt.item (Str.ofString "a& <>'\"\\#\n;b=%") (z : Int)).length = 1 ∧ ∀ c ∈ (Txt.item (Str.ofString "a& <>'\"\\#\n;b=%") (z : Int)).cps.toList, c < 1114112 := by decide +kernel
theorem item14' {z : Int} (h0 : 0 ≤ z) (h1 : z < 14) : (Txt.item (Str.ofString "a& <>'\"\\#\n;b=%") z).length = 1 ∧ ∀ c ∈ (Txt.item (Str.ofString "a& <>'\"\\#\n;b=%") z).cps.toList, c < 1114112 := by
  have e : z = ((z.toNat : Nat) : Int) := by omega
  rw [e]
  exact item14 z.toNat (by omega)
theorem Worded.more {lf : Nat} {ws : List (List Nat)} (h : Worded (lf + 1) ws) : Worded lf (ws ++ [[]]) :=
  ⟨by have := h.sum; simp; omega, by have := h.len; simp; omega, fun l hl => by
    rcases List.mem_append.mp hl with hl | hl
    · exact h.signs l hl
    · rw [List.mem_singleton.mp hl]; intro c hc; cases hc⟩
theorem Worded.grow {lf : Nat} {w0 : List (List Nat)} {z a : List Nat} (h : Worded (lf + 1) (w0 ++ [z])) (ha : a.length ≤ 1) (hs : ∀ c ∈ a, c < 1114112) : Worded lf (w0 ++ [z ++ a]) :=
  ⟨by have := h.sum; simp at this ⊢; omega, by have := h.len; simp at this ⊢; omega, fun l hl => by
    rcases List.mem_append.mp hl with hl | hl
    · exact h.signs l (List.mem_append_left _ hl)
    · rw [List.mem_singleton.mp hl]; intro c hc
      rcases List.mem_append.mp hc with hc | hc
      · exact h.signs z (List.mem_append_right _ (.head _)) c hc
      · exact hs c hc⟩
theorem Worded.new {lf : Nat} {ws : List (List Nat)} {a : List Nat} (h : Worded (lf + 1) ws) (ha : a.length ≤ 1) (hs : ∀ c ∈ a, c < 1114112) : Worded lf (ws ++ [[] ++ a]) :=
  ⟨by have := h.sum; simp; omega, by have := h.len; simp; omega, fun l hl => by
    rcases List.mem_append.mp hl with hl | hl
    · exact h.signs l hl
    · rw [List.mem_singleton.mp hl]; exact hs⟩
theorem strs_grow {us : List Value} {w0 : List (List Nat)} {z a : List Nat} {x : Str} {t : Tok} (h : StrsAre us (w0.map ofL)) (e : x = ofL a) : StrsAre (us ++ [.str (ofL z ++ x) t]) ((w0 ++ [z ++ a]).map ofL) := by
  subst e
  rw [List.map_append, ofL_append]
  exact strs_snoc h
theorem one_len {a : Nat} : [a].length ≤ 1 := Nat.le_refl _
theorem words_ok {w : World} {p : Program} {loose : List Str} {mean : ExcName → Option Value} {mg mb : Str → Option Value}
    {dp un : Nat} {gd : Option (List Code)} {cn : Str} {cs : Scope} {a : Addr} {ccd : Value} {cl : List (Str × Addr)} {outer : List Env} {A₀ : Around} {base h₀ : Heap} {L : Addr} {m : Str → Option Value} {s : Shared} {Q E : Value → Shared → Prop}
    {news : List (Addr × Obj)} {S : Addr} {vs : List Value} {ns : List Int}
    (B : Below A₀ base outer h₀) (F : Fr h₀ L s.heap m) (X : (pre.heap_1 w.params).In h₀) (N : News h₀ L s.heap news) (T : Top p loose mean mg mb h₀)
    (hk : cs.kind = .function) (hS : h₀.IsList S vs.toArray) (hi : IntsAre vs ns) (hl : ns.length ≤ 63) (hdp : dp + 8 < recursionLimit) (hun : un + 100 < cLine)
    (hret : ∀ Wd us k ws h' tk', Worded 0 ws → StrsAre us (ws.map ofL) → Fr h₀ L h' m → News h₀ L h' ((Wd, listOf us.toArray k) :: news) → (∀ p ∈ news, p.1 ≠ Wd) → Q (.ref Wd) { s with heap := h', toks := tk' }) :
    wpAny (model Challenge.rw_dn0059_06.row.prog w) (ktrTop dp un gd cn cs L a ccd cl outer) (call (.ref 774) [.ref S]) Q E s := by
  w_on
  k_with_none
  k_with "callWith" => (with_reducible refine callWith_method1 (first := _ :: _) (he := ?he) (hplain := ?hp) ?_; (case he => k_dflt (exact rfl)); (case hp => k_dflt (exact rfl)))
  k_with "exec For" => (k_dflt (refine for_mine ?_))
  k_with "exec For Name Name cons nil" => (k_dflt (refine for_mine ?_))
  k_with "exec For Name Subscript cons nil" => (k_dflt (refine for_mine ?_))
  k_with "exec For Name Call cons nil" => (k_dflt (refine for_mine ?_))
  k_with "exec For Tuple Name cons nil" => (k_dflt (refine for_mine ?_))
  k_with "exec For Name Subscript cons nil" => (k_dflt (refine for_mine ?_))
  k_with "pyIter ref" => (refine stop_intro ?_)
  k_with "exec While" => (refine stop_intro ?_)
  k_with "exec While BoolOp cons nil" => (refine stop_intro ?_)
  k_with "getItem ref int" => (refine stop_intro ?_)
  k_with "setItem ref int" => (refine stop_intro ?_)
  k_with "inplaceOp Add str str" => (refine stop_intro ?_)
  k_with "compareOp Eq ref ref" => (refine stop_intro ?_)
  k_with "call builtin:list.append" => (refine stop_intro ?_)
  revert X; k_fill; intro X
  refine wpAny_call ?_
  k_dflt (walk_at "my enter")
  rename Fr h₀ L _ m => FG'
  have hS' := hS.at (h' := _) fun o e => FG'.keep _ o e
  k_steps
  refine Stop.out ?_
  rename News _ _ _ _ => NN; rename Fr _ _ _ _ => FF
  rename IntsAre _ _ => hI
  rename _ ∧ AllLt _ news => lt1
  rename ∀ p ∈ news, p.1 < _ => lt0
  refine iter_name' rfl (NN.isList (.head _)) (NN _ (.head _)).2.1 rfl rfl FF (News.sub (l' := (_ :: news)) NN (fun q hq => .tail _ hq)) ?_ (by passes_own)
    (fun i m₁ news₁ => ∃ Wd us k lf ws tl ts, m₁ (Str.ofString "words") = some (.ref Wd) ∧ m₁ (Str.ofString "left") = some (.int ((lf : Nat) : Int) tl) ∧ m₁ (Str.ofString "signs") = some (.str (Str.ofString "a& <>'\"\\#\n;b=%") ts) ∧
      news₁ = (Wd, listOf us.toArray k) :: news ∧ (∀ p ∈ news, p.1 ≠ Wd) ∧ StrsAre us (ws.map ofL) ∧ Worded lf ws)
    ?h0 ?_ ?_
  case h0 => exact ⟨_, [], _, 240, [], _, _, rfl, rfl, rfl, rfl, fun q hq => Nat.ne_of_lt (lt0 q hq), .nil, ⟨by decide, by decide, fun l hl => by cases hl⟩⟩
  · intro q hq
    rcases List.mem_cons.mp hq with rfl | hq
    · exact Nat.ne_of_lt lt1.1
    · exact Nat.ne_of_lt (allLt_to lt1.2 q hq)
  · clear NN FF
    rintro i v m₁ news₁ h tk own I D' htk hv ⟨Wd, us, k, lf, ws, tl, ts, e1, e2, e3, rfl, hWd, hus, hwd⟩ off hsub F₁ N₁
    obtain ⟨y, ty, rfl, hy⟩ := hI.at i v hv
    have F₂ := fr_over [(Str.ofString "x", .int y ty), (Str.ofString "words", .ref Wd), (Str.ofString "left", .int ((lf : Nat) : Int) tl), (Str.ofString "signs", .str (Str.ofString "a& <>'\"\\#\n;b=%") ts)] F₁ (by
      intro q hq
      simp only [List.mem_cons, List.not_mem_nil, or_false] at hq
      rcases hq with rfl | rfl | rfl | rfl
      · rfl
      · exact (if_neg (show ¬ Str.ofString "words" = Str.ofString "x" by decide)).trans e1
      · exact (if_neg (show ¬ Str.ofString "left" = Str.ofString "x" by decide)).trans e2
      · exact (if_neg (show ¬ Str.ofString "signs" = Str.ofString "x" by decide)).trans e3)
    clear F₁ e1 e2 e3
    k_steps
    refine Stop.out ?_
    rename News _ _ _ _ => NN; rename Fr _ _ _ _ => FF
    have hoT : ∀ q ∈ own ++ news, q.1 ≠ Wd := fun q hq e => by
      rcases List.mem_append.mp hq with hq | hq
      · exact off _ (.head _) (e ▸ hsub q hq)
      · exact hWd q hq e
    refine While_inv2 (fun q m₁ news₁ => ∃ us k lf ws tl ts nv tn, m₁ (Str.ofString "words") = some (.ref Wd) ∧ m₁ (Str.ofString "left") = some (.int ((lf : Nat) : Int) tl) ∧ m₁ (Str.ofString "signs") = some (.str (Str.ofString "a& <>'\"\\#\n;b=%") ts) ∧
        m₁ (Str.ofString "n") = some (.int nv tn) ∧ 0 ≤ nv ∧ q = nv.toNat ∧
        news₁ = (Wd, listOf us.toArray k) :: (own ++ news) ∧ StrsAre us (ws.map ofL) ∧ Worded lf ws)
      FF (News.sub NN (by
        intro q hq
        rcases List.mem_cons.mp hq with rfl | hq
        · exact List.mem_append_right _ (.head _)
        rcases List.mem_append.mp hq with hq | hq
        · exact List.mem_append_left _ hq
        · exact List.mem_append_right _ (.tail _ hq))) ⟨us, k, lf, ws, _, _, _, _, rfl, rfl, rfl, rfl, ?_, rfl, rfl, hus, hwd⟩ ?_
    · have := fmod_lo (if y < 0 then -y else y) (n := 16 ^ 48) (by decide)
      show 0 ≤ Int.fmod (if y < 0 then -y else y) (16 ^ 48) + 1
      omega
    · clear NN FF
      rintro q m₂ news₂ h₂ tk₂ F₂ N₂ ⟨us, k, lf, ws, tl, ts, nv, tn, e1, e2, e3, e4, hn0, rfl, rfl, hus, hwd⟩
      have F₃ := fr_over [(Str.ofString "n", .int nv tn), (Str.ofString "words", .ref Wd), (Str.ofString "left", .int ((lf : Nat) : Int) tl), (Str.ofString "signs", .str (Str.ofString "a& <>'\"\\#\n;b=%") ts)] F₂ (by
        intro q hq
        simp only [List.mem_cons, List.not_mem_nil, or_false] at hq
        rcases hq with rfl | rfl | rfl | rfl
        · exact e4
        · exact e1
        · exact e2
        · exact e3)
      clear F₂ e1 e2 e3 e4
      refine gen_while ?_
      intro Q' R' E' hQ hR
      have offW : Wd ∉ [I, D'] := off _ (.head _)
      have f0 := fmod_lo (nv - 1) (n := 16) (by decide)
      have f1 := fmod_hi (nv - 1) (n := 16) (by decide)
      have dv1 : 0 < nv → 0 ≤ (nv - 1).fdiv 16 ∧ ((nv - 1).fdiv 16).toNat < nv.toNat := fun h => by
        rw [Int.fdiv_eq_ediv_of_nonneg _ (by decide)]; omega
      have dv2 : 0 < nv → 0 ≤ ((nv - 1).fdiv 16).fdiv 1112064 ∧ (((nv - 1).fdiv 16).fdiv 1112064).toNat < nv.toNat := fun h => by
        rw [Int.fdiv_eq_ediv_of_nonneg _ (by decide), Int.fdiv_eq_ediv_of_nonneg _ (by decide)]; omega
      have c0 := fmod_lo ((nv - 1).fdiv 16) (n := 1112064) (by decide)
      have c1 := fmod_hi ((nv - 1).fdiv 16) (n := 1112064) (by decide)
      by_cases hgo : 0 < nv ∧ 0 < lf
      · obtain ⟨hn1, hl1⟩ := hgo
        obtain ⟨lf, rfl⟩ : ∃ l, lf = l + 1 := ⟨lf - 1, by omega⟩
        have elf : ((lf + 1 : Nat) : Int) - 1 = (lf : Int) := by omega
        have hul : us.length ≤ sizeLine := by
          rw [hus.length, List.length_map, sizeLine_eq]
          have := hwd.len
          omega
        by_cases hk14 : (nv - 1).fmod 16 = 14
        · k_steps
          all_goals (try (exfalso; omega))
          refine Stop.out ?_
          rename News _ _ _ _ => NN; rename Fr _ _ _ _ => FF
          dsimp only at NN FF ⊢
          refine append_K FF (newsTl' NN) (.head hoT) ?_ (by rw [List.size_toArray]; exact hul)
          clear FF NN
          intro h' F' N'
          k_steps
          all_goals (try (exfalso; omega))
          rename News _ _ _ _ => NN; rename Fr _ _ _ _ => FF
          simp only [List.push_toArray, ofS_nil] at NN
          refine hQ _ _ ⟨_, _, _, _, _, rfl, FF, NN, (dv1 hn1).2, _, _, lf, ws ++ [[]], _, _, _, _, rfl, congrArg (fun z => some (Value.int z _)) elf, rfl, rfl, (dv1 hn1).1, rfl, rfl, ?_, hwd.more⟩
          rw [List.map_append]
          exact strs_snoc hus
        · have hcmp : ∀ l' ∈ (ws.map ofL), PyData.strOk l' = true := by
            intro l' hl'
            obtain ⟨l, hl, rfl⟩ := List.mem_map.mp hl'
            unfold PyData.strOk
            rw [Array.all_eq_true_iff_forall_mem]
            intro c hc
            simpa using hwd.signs l hl c (Array.mem_toList_iff.mpr hc)
          by_cases hk15 : (nv - 1).fmod 16 = 15
          · rcases List.eq_nil_or_concat ws with rfl | ⟨w0, z, rfl⟩
            · k_steps
              all_goals (try (exfalso; omega))
              refine Stop.out ?_
              rename News _ _ _ _ => NN; rename Fr _ _ _ _ => FF
              dsimp only at NN FF ⊢
              refine eq_strs (ys := []) (ns := ([] : List (List Nat)).map ofL) (ms := []) (NN.isList (.tail _ (.tail _ (.head _)))) (NN.isList (.head _)) hus .nil hcmp (fun x hx => by cases hx) (by ktr_units) ?_
              rw [show decide (([] : List (List Nat)).map ofL = ([] : List Str)) = true from rfl]
              k_steps
              all_goals (try (exfalso; omega))
              refine Stop.out ?_
              rename News _ _ _ _ => NN; rename Fr _ _ _ _ => FF
              dsimp only at NN FF ⊢
              refine append_K FF (newsTl' (newsTl' NN)) (.head hoT) ?_ (by rw [List.size_toArray]; exact hul)
              clear FF NN
              intro h' F' N'
              simp only [List.push_toArray, ofS_nil] at N'
              have hus0 := hus
              k_steps
              all_goals (try (exfalso; omega))
              refine Stop.out ?_
              rename News _ _ _ _ => NN; rename Fr _ _ _ _ => FF
              dsimp only at NN FF ⊢
              refine get_last (newsTl' (NN)) (.head _) ?_
              k_steps
              all_goals (try (exfalso; omega))
              · refine Stop.out ?_
                refine iadd_str (hsz := ?hsz) ?_
                case hsz =>
                  rw [ofL_len, sizeLine_eq]
                  show _ + 1 ≤ _
                  simp only [List.length_nil]; omega
                intro _ _
                k_steps
                all_goals (try (exfalso; omega))
                refine Stop.out ?_
                rename News _ _ _ _ => NN; rename Fr _ _ _ _ => FF
                dsimp only at NN FF ⊢
                refine set_last FF (newsTl' (NN)) (.head hoT) ?_
                clear FF NN
                intro h' F' N'
                k_steps
                all_goals (try (exfalso; omega))
                rename News _ _ _ _ => NN; rename Fr _ _ _ _ => FF
                refine hQ _ _ ⟨_, _, _, _, _, rfl, FF, NN, (dv2 hn1).2, _, _, lf, _, _, _, _, _, rfl, congrArg (fun z => some (Value.int z _)) elf, rfl, rfl, (dv2 hn1).1, rfl, rfl, strs_grow (z := []) hus0 rfl, hwd.new one_len ?_⟩
                intro c hc
                rw [List.mem_singleton.mp hc]
                omega
              · refine Stop.out ?_
                refine iadd_str (hsz := ?hsz) ?_
                case hsz =>
                  rw [ofL_len, sizeLine_eq]
                  show _ + 1 ≤ _
                  simp only [List.length_nil]; omega
                intro _ _
                k_steps
                all_goals (try (exfalso; omega))
                refine Stop.out ?_
                rename News _ _ _ _ => NN; rename Fr _ _ _ _ => FF
                dsimp only at NN FF ⊢
                refine set_last FF (newsTl' (NN)) (.head hoT) ?_
                clear FF NN
                intro h' F' N'
                k_steps
                all_goals (try (exfalso; omega))
                rename News _ _ _ _ => NN; rename Fr _ _ _ _ => FF
                refine hQ _ _ ⟨_, _, _, _, _, rfl, FF, NN, (dv2 hn1).2, _, _, lf, _, _, _, _, _, rfl, congrArg (fun z => some (Value.int z _)) elf, rfl, rfl, (dv2 hn1).1, rfl, rfl, strs_grow (z := []) hus0 rfl, hwd.new one_len ?_⟩
                intro c hc
                rw [List.mem_singleton.mp hc]
                omega
            · rw [List.concat_eq_append] at hus hwd hcmp
              obtain ⟨us0, y, ty, ws', rfl, hws', hus0⟩ := strs_last hus (by simp)
              obtain ⟨w0', z', ew, rfl, rfl⟩ := map_last hws'
              obtain ⟨rfl, e2⟩ := List.append_inj' ew rfl
              obtain rfl : z = z' := by simpa using e2
              have hzz : z.length ≤ 240 := by
                have := hwd.sum
                simp at this
                omega
              k_steps
              all_goals (try (exfalso; omega))
              refine Stop.out ?_
              rename News _ _ _ _ => NN; rename Fr _ _ _ _ => FF
              dsimp only at NN FF ⊢
              refine eq_strs (ys := []) (ns := (w0 ++ [z]).map ofL) (ms := []) (NN.isList (.tail _ (.tail _ (.head _)))) (NN.isList (.head _)) hus .nil hcmp (fun x hx => by cases hx) (by ktr_units) ?_
              rw [show decide ((w0 ++ [z]).map ofL = ([] : List Str)) = false from decide_eq_false (by simp)]
              k_steps
              all_goals (try (exfalso; omega))
              refine Stop.out ?_
              rename News _ _ _ _ => NN; rename Fr _ _ _ _ => FF
              dsimp only at NN FF ⊢
              refine get_last (newsTl' (newsTl' (newsTl' (NN)))) (.head _) ?_
              k_steps
              all_goals (try (exfalso; omega))
              · refine Stop.out ?_
                refine iadd_str (hsz := ?hsz) ?_
                case hsz =>
                  rw [ofL_len, sizeLine_eq]
                  show _ + 1 ≤ _
                  omega
                intro _ _
                k_steps
                all_goals (try (exfalso; omega))
                refine Stop.out ?_
                rename News _ _ _ _ => NN; rename Fr _ _ _ _ => FF
                dsimp only at NN FF ⊢
                refine set_last FF (newsTl' (newsTl' (newsTl' (NN)))) (.head hoT) ?_
                clear FF NN
                intro h' F' N'
                k_steps
                all_goals (try (exfalso; omega))
                rename News _ _ _ _ => NN; rename Fr _ _ _ _ => FF
                refine hQ _ _ ⟨_, _, _, _, _, rfl, FF, NN, (dv2 hn1).2, _, _, lf, _, _, _, _, _, rfl, congrArg (fun z => some (Value.int z _)) elf, rfl, rfl, (dv2 hn1).1, rfl, rfl, strs_grow (z := z) hus0 rfl, hwd.grow one_len ?_⟩
                intro c hc
                rw [List.mem_singleton.mp hc]
                omega
              · refine Stop.out ?_
                refine iadd_str (hsz := ?hsz) ?_
                case hsz =>
                  rw [ofL_len, sizeLine_eq]
                  show _ + 1 ≤ _
                  omega
                intro _ _
                k_steps
                all_goals (try (exfalso; omega))
                refine Stop.out ?_
                rename News _ _ _ _ => NN; rename Fr _ _ _ _ => FF
                dsimp only at NN FF ⊢
                refine set_last FF (newsTl' (newsTl' (newsTl' (NN)))) (.head hoT) ?_
                clear FF NN
                intro h' F' N'
                k_steps
                all_goals (try (exfalso; omega))
                rename News _ _ _ _ => NN; rename Fr _ _ _ _ => FF
                refine hQ _ _ ⟨_, _, _, _, _, rfl, FF, NN, (dv2 hn1).2, _, _, lf, _, _, _, _, _, rfl, congrArg (fun z => some (Value.int z _)) elf, rfl, rfl, (dv2 hn1).1, rfl, rfl, strs_grow (z := z) hus0 rfl, hwd.grow one_len ?_⟩
                intro c hc
                rw [List.mem_singleton.mp hc]
                omega
          · have hk13 : (nv - 1).fmod 16 < 14 := by omega
            have hl14 : (Str.ofString "a& <>'\"\\#\n;b=%").length = 14 := by decide +kernel
            rcases List.eq_nil_or_concat ws with rfl | ⟨w0, z, rfl⟩
            · k_steps
              all_goals (try (exfalso; omega))
              refine Stop.out ?_
              rename News _ _ _ _ => NN; rename Fr _ _ _ _ => FF
              dsimp only at NN FF ⊢
              refine eq_strs (ys := []) (ns := ([] : List (List Nat)).map ofL) (ms := []) (NN.isList (.tail _ (.tail _ (.head _)))) (NN.isList (.head _)) hus .nil hcmp (fun x hx => by cases hx) (by ktr_units) ?_
              rw [show decide (([] : List (List Nat)).map ofL = ([] : List Str)) = true from rfl]
              k_steps
              all_goals (try (exfalso; omega))
              refine Stop.out ?_
              rename News _ _ _ _ => NN; rename Fr _ _ _ _ => FF
              dsimp only at NN FF ⊢
              refine append_K FF (newsTl' (newsTl' NN)) (.head hoT) ?_ (by rw [List.size_toArray]; exact hul)
              clear FF NN
              intro h' F' N'
              simp only [List.push_toArray, ofS_nil] at N'
              have hus0 := hus
              k_steps
              all_goals (try (exfalso; omega))
              refine Stop.out ?_
              rename News _ _ _ _ => NN; rename Fr _ _ _ _ => FF
              dsimp only at NN FF ⊢
              refine get_last (NN) (.head _) ?_
              k_steps
              all_goals (try (exfalso; omega))
              refine Stop.out ?_
              obtain ⟨hi1, hi2⟩ := item14' f0 (by omega)
              refine iadd_str (hsz := ?hsz) ?_
              case hsz =>
                rw [ofL_len, sizeLine_eq, hi1]
                simp only [List.length_nil]; omega
              intro _ _
              k_steps
              all_goals (try (exfalso; omega))
              refine Stop.out ?_
              rename News _ _ _ _ => NN; rename Fr _ _ _ _ => FF
              dsimp only at NN FF ⊢
              refine set_last FF (NN) (.head hoT) ?_
              clear FF NN
              intro h' F' N'
              k_steps
              all_goals (try (exfalso; omega))
              rename News _ _ _ _ => NN; rename Fr _ _ _ _ => FF
              refine hQ _ _ ⟨_, _, _, _, _, rfl, FF, NN, (dv1 hn1).2, _, _, lf, _, _, _, _, _, rfl, congrArg (fun z => some (Value.int z _)) elf, rfl, rfl, (dv1 hn1).1, rfl, rfl, strs_grow (z := []) hus0 (toL_ofL _).symm, hwd.new (Nat.le_of_eq hi1) hi2⟩
            · rw [List.concat_eq_append] at hus hwd hcmp
              obtain ⟨us0, y, ty, ws', rfl, hws', hus0⟩ := strs_last hus (by simp)
              obtain ⟨w0', z', ew, rfl, rfl⟩ := map_last hws'
              obtain ⟨rfl, e2⟩ := List.append_inj' ew rfl
              obtain rfl : z = z' := by simpa using e2
              have hzz : z.length ≤ 240 := by
                have := hwd.sum
                simp at this
                omega
              k_steps
              all_goals (try (exfalso; omega))
              refine Stop.out ?_
              rename News _ _ _ _ => NN; rename Fr _ _ _ _ => FF
              dsimp only at NN FF ⊢
              refine eq_strs (ys := []) (ns := (w0 ++ [z]).map ofL) (ms := []) (NN.isList (.tail _ (.tail _ (.head _)))) (NN.isList (.head _)) hus .nil hcmp (fun x hx => by cases hx) (by ktr_units) ?_
              rw [show decide ((w0 ++ [z]).map ofL = ([] : List Str)) = false from decide_eq_false (by simp)]
              k_steps
              all_goals (try (exfalso; omega))
              refine Stop.out ?_
              rename News _ _ _ _ => NN; rename Fr _ _ _ _ => FF
              dsimp only at NN FF ⊢
              refine get_last (newsTl' (newsTl' (NN))) (.head _) ?_
              k_steps
              all_goals (try (exfalso; omega))
              refine Stop.out ?_
              obtain ⟨hi1, hi2⟩ := item14' f0 (by omega)
              refine iadd_str (hsz := ?hsz) ?_
              case hsz =>
                rw [ofL_len, sizeLine_eq, hi1]
                omega
              intro _ _
              k_steps
              all_goals (try (exfalso; omega))
              refine Stop.out ?_
              rename News _ _ _ _ => NN; rename Fr _ _ _ _ => FF
              dsimp only at NN FF ⊢
              refine set_last FF (newsTl' (newsTl' (NN))) (.head hoT) ?_
              clear FF NN
              intro h' F' N'
              k_steps
              all_goals (try (exfalso; omega))
              rename News _ _ _ _ => NN; rename Fr _ _ _ _ => FF
              refine hQ _ _ ⟨_, _, _, _, _, rfl, FF, NN, (dv1 hn1).2, _, _, lf, _, _, _, _, _, rfl, congrArg (fun z => some (Value.int z _)) elf, rfl, rfl, (dv1 hn1).1, rfl, rfl, strs_grow (z := z) hus0 (toL_ofL _).symm, hwd.grow (Nat.le_of_eq hi1) hi2⟩
      · k_steps
        all_goals (try (exfalso; omega))
        · rename News _ _ _ _ => NN; rename Fr _ _ _ _ => FF
          refine hR _ ?_
          refine LE.next FF (News.sub NN ?_) ?_ ⟨Wd, us, k, lf, ws, _, _, rfl, rfl, rfl, rfl, hWd, hus, hwd⟩
          · intro q hq
            rcases List.mem_append.mp hq with hq | hq
            · exact .tail _ (List.mem_append_left _ hq)
            rcases List.mem_cons.mp hq with rfl | hq
            · exact .head _
            · exact .tail _ (List.mem_append_right _ hq)
          · intro q hq
            rcases List.mem_cons.mp hq with rfl | hq
            · exact offW
            · exact off q (.tail _ hq)
        · rename News _ _ _ _ => NN; rename Fr _ _ _ _ => FF
          refine hR _ ?_
          refine LE.next FF (News.sub NN ?_) ?_ ⟨Wd, us, k, lf, ws, _, _, rfl, rfl, rfl, rfl, hWd, hus, hwd⟩
          · intro q hq
            rcases List.mem_append.mp hq with hq | hq
            · exact .tail _ (List.mem_append_left _ hq)
            rcases List.mem_cons.mp hq with rfl | hq
            · exact .head _
            · exact .tail _ (List.mem_append_right _ hq)
          · intro q hq
            rcases List.mem_cons.mp hq with rfl | hq
            · exact offW
            · exact off q (.tail _ hq)
  · clear NN FF
    rintro h tk m₁ news₁ F₁ N₁ ⟨Wd, us, k, lf, ws, tl, ts, e1, e2, e3, rfl, hWd, hus, hwd⟩
    have F₂ := fr_over [(Str.ofString "words", .ref Wd)] F₁ (by
      intro q hq
      rw [List.mem_singleton.mp hq]
      exact e1)
    clear F₁
    dsimp only
    k_steps
    rename News _ _ _ _ => NN; rename Fr _ _ _ _ => FF
    exact hret _ _ _ ws _ _ ⟨by have := hwd.sum; omega, by have := hwd.len; omega, hwd.signs⟩ hus FF NN hWd
end
section
theorem strOk_of {l : List Nat} (h : ∀ c ∈ l, c < 1114112) : PyData.strOk (ofL l) = true := by
  unfold PyData.strOk
  rw [Array.all_eq_true_iff_forall_mem]
  intro c hc
  simpa using h c (Array.mem_toList_iff.mpr hc)
theorem Worded.one {lf : Nat} {ws : List (List Nat)} (h : Worded lf ws) : ∀ l ∈ ws, l.length ≤ 240 := by
  intro l hl
  have := h.sum
  have hs : l.length ≤ (ws.map List.length).sum := by
    clear this h
    induction ws with
    | nil => cases hl
    | cons a r ih =>
      rw [List.map_cons, List.sum_cons]
      rcases List.mem_cons.mp hl with rfl | hl
      · omega
      · have := ih hl; omega
  omega
theorem splitL_le (c : Nat) : ∀ (l : List Nat), ∀ p ∈ splitL c l, p.length ≤ l.length
  | [], p, hp => by
    rw [List.mem_singleton.mp hp]; exact Nat.le_refl _
  | k :: r, p, hp => by
    have ih := splitL_le c r
    obtain ⟨a, b, e⟩ := splitL_ne c r
    have hp' : p ∈ (if k = c then [] :: splitL c r else match splitL c r with | [] => [[k]] | p :: ps => (k :: p) :: ps) := hp
    rw [e] at hp' ih
    rw [List.length_cons]
    split at hp'
    · rcases List.mem_cons.mp hp' with rfl | hp'
      · exact Nat.zero_le _
      · exact Nat.le_succ_of_le (ih p hp')
    · rcases List.mem_cons.mp hp' with rfl | hp'
      · have := ih a (.head _)
        rw [List.length_cons]; omega
      · exact Nat.le_succ_of_le (ih p (.tail _ hp'))
theorem splitL_len (c : Nat) : ∀ (l : List Nat), (splitL c l).length ≤ l.length + 1
  | [] => Nat.le_refl _
  | k :: r => by
    have ih := splitL_len c r
    obtain ⟨a, b, e⟩ := splitL_ne c r
    show (if k = c then [] :: splitL c r else match splitL c r with | [] => [[k]] | p :: ps => (k :: p) :: ps).length ≤ _
    rw [e] at ih ⊢
    simp only [List.length_cons] at ih ⊢
    split
    · simp only [List.length_cons]; omega
    · simp only [List.length_cons]; omega
theorem parts_q39 (l : List Nat) : joinL [34, 39, 34] ((splitL 39 l).map fun p => 39 :: (p ++ [39])) = q39 l := by
  obtain ⟨p, ps, e⟩ := splitL_ne 39 l
  have e2 := sub_split [39, 34, 39, 34, 39] l
  rw [e] at e2 ⊢
  rw [join_parts, e2]; rfl
theorem q39_len (l : List Nat) : (q39 l).length ≤ 5 * l.length + 2 := by
  have := sub1_len 39 [39, 34, 39, 34, 39] 5 (by decide) (by decide) l
  unfold q39
  simp only [List.length_cons, List.length_append, List.length_nil]; omega
theorem split39 (l : List Nat) : Txt.split (ofL l) (Str.ofString "'") = (splitL 39 l).map ofL := by
  have h1 := split_is (ofL l) 39
  have h2 := congrArg (List.map ofL) h1
  rw [List.map_map] at h2
  have h3 : (Txt.split (ofL l) ⟨#[39]⟩).map (ofL ∘ toL) = Txt.split (ofL l) ⟨#[39]⟩ := by
    conv => rhs; rw [← List.map_id (Txt.split (ofL l) ⟨#[39]⟩)]
    exact List.map_congr_left fun a _ => toL_ofL a
  rw [h3] at h2
  exact h2
theorem sum_parts : ∀ (ps : List (List Nat)) (b : Nat), (∀ p ∈ ps, p.length ≤ b) → ((ps.map fun p => ofL (39 :: (p ++ [39]))).map (·.length)).sum ≤ ps.length * (b + 2)
  | [], _, _ => Nat.zero_le _
  | p :: r, b, h => by
    have ih := sum_parts r b fun q hq => h q (.tail _ hq)
    have := h p (.head _)
    simp only [List.map_cons, List.sum_cons, List.length_cons, ofL_len, List.length_append, List.length_nil] at ih ⊢
    rw [Nat.add_mul]
    omega
theorem ofS_dqd : Str.ofString "\"'\"" = ofL [34, 39, 34] := by decide
theorem ofS_ap : Str.ofString "'" = ofL [39] := by decide
theorem wordL_len (l : List Nat) : (wordL l).length ≤ 6 * (5 * l.length + 2) := by
  rw [word_is]
  have h1 := escL_len true (qt l)
  have h2 := qt_len l
  omega
theorem sum_words : ∀ (ws : List (List Nat)) (b : Nat), (∀ l ∈ ws, l.length ≤ b) → ((ws.map fun l => ofL (wordL l)).map (·.length)).sum ≤ ws.length * (6 * (5 * b + 2))
  | [], _, _ => Nat.zero_le _
  | l :: r, b, h => by
    have ih := sum_words r b fun q hq => h q (.tail _ hq)
    have h1 := h l (.head _)
    have h2 := wordL_len l
    simp only [List.map_cons, List.sum_cons, List.length_cons, ofL_len] at ih ⊢
    rw [Nat.add_mul]
    omega
theorem newsLi {h₀ h : Heap} {L : Addr} {a : Addr × Obj} {own r : List (Addr × Obj)} (N : News h₀ L h (a :: (own ++ r))) : News h₀ L h (own ++ a :: r) := News.sub N (by
  intro q hq
  simp only [List.mem_append, List.mem_cons] at hq ⊢
  rcases hq with h | h | h <;> simp [h])
theorem line_ok {w : World} {p : Program} {loose : List Str} {mean : ExcName → Option Value} {mg mb : Str → Option Value}
    {dp un : Nat} {gd : Option (List Code)} {cn : Str} {cs : Scope} {a : Addr} {ccd : Value} {cl : List (Str × Addr)} {outer : List Env} {A₀ : Around} {base h₀ : Heap} {L : Addr} {m : Str → Option Value} {s : Shared} {Q E : Value → Shared → Prop}
    {rest : List (Addr × Obj)} {Wd : Addr} {vs : List Value} {n : Nat} {ws : List (List Nat)}
    (B : Below A₀ base outer h₀) (F : Fr h₀ L s.heap m) (X : (pre.heap_1 w.params).In h₀) (N : News h₀ L s.heap ((Wd, listOf vs.toArray n) :: rest)) (T : Top p loose mean mg mb h₀)
    (hk : cs.kind = .function) (hv : StrsAre vs (ws.map ofL)) (hwd : Worded 0 ws) (hdp : dp + 12 < recursionLimit) (hun : un + 200 < cLine)
    (hret : ∀ t' h' tk', Fr h₀ L h' m → News h₀ L h' ((Wd, listOf vs.toArray n) :: rest) → Q (.str (ofL (lineL ws)) t') { s with heap := h', toks := tk' }) :
    wpAny (model Challenge.rw_dn0059_06.row.prog w) (ktrTop dp un gd cn cs L a ccd cl outer) (call (.ref 789) [.ref Wd]) Q E s := by
  w_on
  k_with_none
  k_with "exec For" => (k_dflt (refine for_mine ?_))
  k_with "exec For Name Name cons nil" => (k_dflt (refine for_mine ?_))
  k_with "exec For Name Subscript cons nil" => (k_dflt (refine for_mine ?_))
  k_with "exec For Name Call cons nil" => (k_dflt (refine for_mine ?_))
  k_with "exec For Tuple Name cons nil" => (k_dflt (refine for_mine ?_))
  k_with "exec For Name Name cons nil" => (k_dflt (refine for_mine ?_))
  k_with "pyIter ref" => (refine stop_intro ?_)
  k_with "call ref" => (refine stop_intro ?_)
  k_with "call builtin:str.join" => (refine stop_intro ?_)
  k_with "call builtin:list.append" => (refine stop_intro ?_)
  k_with "eval ListComp" => (k_here; k_dflt (refine LCg.ListComp_U (F₀ := by k_asm) (by rfl) (by decide) (by rfl) (by decide) (by rfl) ?_))
  k_with "CompSrc" => (refine stop_intro ?_)
  k_with "call builtin:str.split" => (refine KSpl.split1 (by k_asm) (by k_asm) (by decide) ?_ (by rw [sizeLine_eq]; omega); intro zD' zl' zh' zk' ze' za' zF' zN' zl1; (try k_lt zl1))
  revert X; k_fill; intro X
  refine wpAny_call ?_
  k_dflt (walk_at "my enter")
  k_steps
  refine Stop.out ?_
  rename News _ _ _ _ => NN; rename Fr _ _ _ _ => FF
  rename _ ∧ AllLt _ rest => lt1
  refine iter_name2 rfl (NN.isList (.tail _ (.head _))) (NN _ (.tail _ (.head _))).2.1 rfl rfl FF NN (by passes_own)
    (fun i m₁ news₁ => ∃ Ln us k, m₁ (Str.ofString "line") = some (.ref Ln) ∧ news₁ = (Ln, listOf us.toArray k) :: (Wd, listOf vs.toArray n) :: rest ∧ (∀ p ∈ (Wd, listOf vs.toArray n) :: rest, p.1 ≠ Ln) ∧ StrsAre us ((ws.take i).map fun l => ofL (wordL l)))
    ?h0 ?_ ?_
  case h0 => exact ⟨_, [], _, rfl, rfl, (fun q hq => by
    rcases List.mem_cons.mp hq with rfl | hq
    · exact Nat.ne_of_lt lt1.1
    · exact Nat.ne_of_lt (allLt_to lt1.2 q hq)), .nil⟩
  · clear NN FF
    rintro i v m₁ news₁ h₁ tk₁ own I htk hvi ⟨Ln, us, k, e1, rfl, hLn, hus⟩ ⟨oI, hoI⟩ off hsub F₁ N₁
    obtain ⟨y, ty, rfl, hy⟩ := hv.item i v hvi
    obtain ⟨l, hl, rfl⟩ : ∃ l, ws[i]? = some l ∧ ofL l = y := by
      rw [List.getElem?_map] at hy
      cases hpi : ws[i]? with
      | none => rw [hpi] at hy; cases hy
      | some q => rw [hpi] at hy; exact ⟨q, rfl, Option.some.inj hy⟩
    have hl240 := hwd.one l (List.mem_of_getElem? hl)
    have hok := strOk_of (hwd.signs l (List.mem_of_getElem? hl))
    have F₂ := fr_over [(Str.ofString "word", .str (ofL l) ty), (Str.ofString "line", .ref Ln)] F₁ (by
      intro q hq
      simp only [List.mem_cons, List.not_mem_nil, or_false] at hq
      rcases hq with rfl | rfl
      · rfl
      · exact (if_neg (show ¬ Str.ofString "line" = Str.ofString "word" by decide)).trans e1)
    clear F₁ e1
    have offL : Ln ≠ I := off _ (.head _)
    have hrL : ∀ q ∈ own ++ ((Wd, listOf vs.toArray n) :: rest), q.1 ≠ Ln := fun q hq e => by
      rcases List.mem_append.mp hq with hq | hq
      · rcases hsub q hq with h | h
        · exact offL (e.symm.trans h)
        · exact hLn _ (.head _) (h.symm.trans e)
      · exact hLn q hq e
    have N₂ : News _ _ h₁ ((Ln, listOf us.toArray k) :: (own ++ ((Wd, listOf vs.toArray n) :: rest))) := News.sub N₁ (by
      intro q hq
      rcases List.mem_cons.mp hq with rfl | hq
      · exact List.mem_append_right _ (.head _)
      rcases List.mem_append.mp hq with hq | hq
      · exact List.mem_append_left _ hq
      · exact List.mem_append_right _ (.tail _ hq))
    clear N₁
    have hul : us.length ≤ sizeLine := by
      rw [hus.length, List.length_map, sizeLine_eq, List.length_take]
      have := hwd.len
      omega
    have hlast : ∀ z t', z = ofL (wordL l) → StrsAre (us ++ [.str z t']) ((ws.take (i + 1)).map fun l => ofL (wordL l)) := by
      rintro z t' rfl
      rw [List.take_add_one, hl, List.map_append]
      exact strs_snoc hus
    have hoff : ∀ us' k', ∀ q ∈ (Ln, listOf us' k') :: (Wd, listOf vs.toArray n) :: rest, q.1 ∉ [I] := by
      intro us' k' q hq hm
      rcases List.mem_cons.mp hq with rfl | hq
      · exact offL (List.mem_singleton.mp hm)
      · exact off q (.tail _ hq) (List.mem_singleton.mp hm)
    k_steps
    refine Stop.out ?_
    rename News _ _ _ _ => NN; rename Fr _ _ _ _ => FF
    refine' safe_ok ?k1 FF ?k3 NN ?k5 ?k6 ?k7 hok ?k9 ?k10 ?_
    case k1 => k_asm
    case k3 => k_asm
    case k5 => k_asm
    case k6 => exact rfl
    case k7 => rw [ofL_len]; omega
    case k9 => ktr_room
    case k10 => ktr_units
    clear FF NN
    intro h₃ tk₃ F₃ N₃
    rw [ofL_toL]
    have hlx : (ofL l).length ≤ 240 := hl240
    cases hsf : isSafe l
    · k_steps
      refine Stop.out ?_
      rename News _ _ _ _ => NN; rename Fr _ _ _ _ => FF
      rename List.map _ _ = Txt.split _ _ => hsp
      rename StrsAre (strValues _) _ => hst
      rw [hsp, split39] at hst
      have hln := hst.length
      rw [List.length_map] at hln
      have hsl := splitL_len 39 l
      have hsp1 := splitL_le 39 l
      refine LCg.CompSrc.ledger (by rfl) FF NN (.head _) (by rw [sizeLine_eq, List.size_toArray, hln]; omega) ?_
      clear FF
      intro g
      rw [show (List.toArray _).size = (splitL 39 l).length by rw [List.size_toArray]; exact hln]
      refine rest_fold (items := splitL 39 l) (rel := fun p v => ∃ u, v = .str (ofL p) u) (out := fun p v => ∃ u, v = .str (ofL (39 :: (p ++ [39]))) u) ?_ ?_ ?_
      · intro j v hv
        obtain ⟨y, ty, rfl, hy⟩ := hst.item j v (by simpa using hv)
        rw [List.getElem?_map] at hy
        cases hpi : (splitL 39 l)[j]? with
        | none => rw [hpi] at hy; cases hy
        | some q => rw [hpi] at hy; exact ⟨q, rfl, ty, by rw [Option.some.inj hy]⟩
      · clear NN
        rintro pt v I' oI' C oC D m₂ ys h tk E' hpm ⟨u, rfl⟩ hyl hC hx F₄ N₄ off' ⟨n1, n2, n3⟩
        have hp1 := hsp1 pt hpm
        have hp2 : (ofL pt).length ≤ 240 := by rw [ofL_len]; omega
        have hp3 : (Str.ofString "'").length = 1 := by decide
        have hp4 : (Str.ofString "'" ++ ofL pt).length ≤ 241 := by rw [Str.length_append]; omega
        k_steps
        rename News _ _ _ _ => NN; rename Fr _ _ _ _ => FF
        refine LCg.CompEnd.intro FF NN _ (fun _ h => h) off' (.inr ⟨_, .head _, rfl, _, rfl⟩) ⟨rfl, _, congrArg (fun z => Value.str z _) ?_⟩
        rw [ofS_ap, ofL_append, ofL_append]; rfl
      · clear NN
        intro ys hys D h tk F₄ N₄ o1
        have hst2 := outs_strs hys
        k_steps
        refine Stop.out ?_
        rename News _ _ _ _ => NN; rename Fr _ _ _ _ => FF
        have e0 : ((splitL 39 l).map fun p => ofL (39 :: (p ++ [39]))) = ((splitL 39 l).map fun p => 39 :: (p ++ [39])).map ofL := by rw [List.map_map]; rfl
        have hsm := sum_parts (splitL 39 l) 240 fun q hq => Nat.le_trans (hsp1 q hq) hl240
        refine join_list (items := ys.toArray) (ys := (splitL 39 l).map fun p => ofL (39 :: (p ++ [39]))) (NN.isList (.head _)) (by simpa using hst2) ?_ ?_
        · rw [List.length_map, show (Str.ofString "\"'\"").length = 3 by decide]
          have h1 : (splitL 39 l).length * (240 + 2) ≤ 241 * 242 := Nat.mul_le_mul_right _ (by omega)
          omega
        intro tj kj
        rw [e0, ofS_dqd, joinT_ofL, parts_q39]
        k_steps
        refine Stop.out ?_
        rename News _ _ _ _ => NN; rename Fr _ _ _ _ => FF
        have hql := q39_len l
        refine' written_ok (q := true) ?k1 FF ?k3 NN ?k5 ?k6 ?k7 ?k9 ?k10 ?_
        case k1 => k_asm
        case k3 => k_asm
        case k5 => k_asm
        case k6 => exact rfl
        case k7 => rw [ofL_len]; omega
        case k9 => ktr_room
        case k10 => ktr_units
        clear FF NN
        intro tw hw₅ tk₅ F₅ N₅
        k_steps
        refine Stop.out ?_
        rename News _ _ _ _ => NN; rename Fr _ _ _ _ => FF
        dsimp only at NN FF ⊢
        refine append_K FF (newsTl' (newsTl' NN)) (.head hrL) ?_ (by rw [List.size_toArray]; exact hul)
        clear FF NN
        intro h' F' N'
        k_steps
        rename News _ _ _ _ => NN; rename Fr _ _ _ _ => FF
        simp only [List.push_toArray] at NN
        refine LE.next FF (newsLi NN) (hoff _ _) ⟨Ln, _, _, rfl, rfl, hLn, hlast _ _ ?_⟩
        rw [ofL_toL, word_is, qt_unsafe hsf]
    · k_steps
      refine Stop.out ?_
      rename News _ _ _ _ => NN; rename Fr _ _ _ _ => FF
      dsimp only at NN FF ⊢
      refine append_K FF NN (.head hrL) ?_ (by rw [List.size_toArray]; exact hul)
      clear FF NN
      intro h' F' N'
      k_steps
      rename News _ _ _ _ => NN; rename Fr _ _ _ _ => FF
      simp only [List.push_toArray] at NN
      exact LE.next FF (newsLi NN) (hoff _ _) ⟨Ln, _, _, rfl, rfl, hLn, hlast _ _ (by unfold wordL; rw [if_pos hsf])⟩
  · clear NN FF
    rintro h₁ tk₁ m₁ news₁ F₁ N₁ ⟨Ln, us, k, e1, rfl, hLn, hus⟩
    rw [hv.length, List.length_map, List.take_length] at hus
    have F₂ := fr_over [(Str.ofString "line", .ref Ln)] F₁ (by
      intro q hq
      rw [List.mem_singleton.mp hq]
      exact e1)
    clear F₁
    dsimp only
    k_steps
    refine Stop.out ?_
    rename News _ _ _ _ => NN; rename Fr _ _ _ _ => FF
    have e0 : (ws.map fun l => ofL (wordL l)) = (ws.map wordL).map ofL := by rw [List.map_map]; rfl
    refine join_list (items := us.toArray) (ys := ws.map fun l => ofL (wordL l)) (NN.isList (.head _)) (by simpa using hus) ?_ ?_
    · rw [List.length_map, show (Str.ofString " ").length = 1 by decide]
      have h1 := sum_words ws 240 hwd.one
      have := hwd.len
      have h2 : ws.length * (6 * (5 * 240 + 2)) ≤ 240 * (6 * (5 * 240 + 2)) := Nat.mul_le_mul_right _ (by omega)
      omega
    · intro t' k'
      rw [e0, ofS_sp, joinT_ofL]
      k_steps
      rename News _ _ _ _ => NN; rename Fr _ _ _ _ => FF
      exact hret _ _ _ FF (News.sub NN fun q hq => .tail _ hq)
end
section
theorem item_c {prog : Program} {w : World} {A : Around} {E : Value → Shared → Prop} {s : Shared} {value slice : Expr} {x : Str} {t u : Tok} {i c : Nat} {Q : Value → Shared → Prop} (h : x.cps.toList[i]? = some c) (hl : x.length ≤ 1000000) (k : Q (.str ⟨#[c]⟩ s.toks) { s with toks := s.toks + 1 })
    (hs : subscripted slice false (.str x t) (.int (i : Int) u) = operate [.str x t, .int (i : Int) u] (getItem (.str x t) (.int (i : Int) u)) := by with_unfolding_all rfl)
    (ht : ∀ r, letTemporaryGo value (.str x t) r = pure () := by intro _; with_unfolding_all rfl) :
    wpAny (model prog w) A (subscriptTail value slice (.str x t) (.int (i : Int) u)) Q E s := by
  have hi : i < x.length := by
    have := (List.getElem?_eq_some_iff.mp h).1
    rw [Array.length_toList] at this
    exact this
  refine item_str (fitsSsize_of (N := 9223372036854775808) (by omega) (by omega) (Int.le_refl _)) (by omega) (by omega) (fun _ => ?_) hs ht
  rw [item_is h]
  exact k
theorem cut_esc {r : List Nat} {b : Bool} {wds : List (List Nat)} : cutGo (92 :: r) b wds = cutGo (r.drop 1) true (addLast (if b then wds else wds ++ [[]]) (r.take 1)) := by
  cases r with
  | nil => rw [cutGo, if_neg (by decide), if_pos rfl]; rfl
  | cons d r => rw [cut_e]; rfl
theorem take1_len (l : List Nat) : (l.take 1).length ≤ 1 := by rw [List.length_take]; omega
theorem slice1' (x : Str) (i : Nat) : Txt.slice x (some ((i : Int) + 1)) (some ((i : Int) + 1 + 1)) = ofL ((x.cps.toList.drop (i + 1)).take 1) := slice1 x (i + 1)
theorem cut_ok {w : World} {p : Program} {loose : List Str} {mean : ExcName → Option Value} {mg mb : Str → Option Value}
    {dp un : Nat} {gd : Option (List Code)} {cn : Str} {cs : Scope} {a : Addr} {ccd : Value} {cl : List (Str × Addr)} {outer : List Env} {A₀ : Around} {base h₀ : Heap} {L : Addr} {m : Str → Option Value} {s : Shared} {Q E : Value → Shared → Prop}
    {news : List (Addr × Obj)} {x : Str} {t : Tok}
    (B : Below A₀ base outer h₀) (F : Fr h₀ L s.heap m) (X : (pre.heap_1 w.params).In h₀) (N : News h₀ L s.heap news) (T : Top p loose mean mg mb h₀)
    (hk : cs.kind = .function) (hl : x.length ≤ 1000000) (hdp : dp + 8 < recursionLimit) (hun : un + 100 < cLine)
    (hret : ∀ S vs n h' tk', Fr h₀ L h' m → News h₀ L h' ((S, listOf vs.toArray n) :: news) → (∀ p ∈ news, p.1 ≠ S) → StrsAre vs ((cutGo x.cps.toList false []).map ofL) → Q (.ref S) { s with heap := h', toks := tk' }) :
    wpAny (model Challenge.rw_dn0059_06.row.prog w) (ktrTop dp un gd cn cs L a ccd cl outer) (call (.ref 796) [.str x t]) Q E s := by
  w_on
  k_with_none
  k_with "exec While" => (refine stop_intro ?_)
  k_with "exec While Compare cons nil" => (refine stop_intro ?_)
  k_with "getItem ref int" => (refine stop_intro ?_)
  k_with "setItem ref int" => (refine stop_intro ?_)
  k_with "subscriptTail Name Name str int" => (refine item_c (by assumption) (by assumption) ?_)
  k_with "compareOp In str str" => (refine in_one (by assumption) ?_)
  k_with "compareOp Eq str str" => (refine eq_one (by assumption) ?_)
  k_with "call builtin:list.append" => ((try simp only [List.cons_append, List.nil_append]); (refine append_K (by k_asm) (by k_asm) (.head (by assumption)) ?_ (by rw [List.size_toArray]; assumption)); intro zh' zF' zN'; (try k_sweep))
  k_with "subscriptTail Name Slice str ref" => ((with_reducible rename Fr _ _ _ _ => zF'); (with_reducible rename News _ _ _ _ => zN'); (refine slice_strN_ss (hsz := ?hsz) (s := ⟨_, _, _, _, _⟩) zF' zN' ?_); (case hsz => (rw [sizeLine_eq]; omega)); intro _ _ _ _ _)
  k_with "inplaceOp Add str str" => (refine stop_intro ?_)
  revert X; k_fill; intro X
  refine wpAny_call ?_
  k_dflt (walk_at "my enter")
  k_steps
  refine Stop.out ?_
  rename News _ _ _ _ => NN; rename Fr _ _ _ _ => FF
  rename ∀ p ∈ news, p.1 < _ => lt0
  refine While_inv2 (fun q m₁ news₁ => ∃ Wd us kk bg wds kv tk tb, m₁ (Str.ofString "words") = some (.ref Wd) ∧ m₁ (Str.ofString "begun") = some (.bool bg) ∧ m₁ (Str.ofString "k") = some (.int ((kv : Nat) : Int) tk) ∧ m₁ (Str.ofString "text") = some (.str x tb) ∧
      news₁ = (Wd, listOf us.toArray kk) :: news ∧ (∀ p ∈ news, p.1 ≠ Wd) ∧ StrsAre us (wds.map ofL) ∧ cutGo (x.cps.toList.drop kv) bg wds = cutGo x.cps.toList false [] ∧ (bg = true → wds ≠ []) ∧
      (∀ z ∈ wds, z.length ≤ kv) ∧ wds.length ≤ kv ∧ q = x.length + 1 - kv ∧ kv ≤ x.length + 1)
    FF NN ⟨_, [], _, false, [], 0, _, _, rfl, rfl, rfl, rfl, rfl, ?_, .nil, rfl, by decide, by simp, by decide, rfl, by omega⟩ ?_
  · exact fun q hq => Nat.ne_of_lt (lt0 q hq)
  · clear NN FF
    rintro q m₁ news₁ h₁ tk₁ F₁ N₁ ⟨Wd, us, kk, bg, wds, kv, tk, tb, e1, e2, e3, e4, rfl, hWd, hus, hcg, hbg, hzl, hwl, rfl, hkv⟩
    have F₂ := fr_over [(Str.ofString "words", .ref Wd), (Str.ofString "begun", .bool bg), (Str.ofString "k", .int ((kv : Nat) : Int) tk), (Str.ofString "text", .str x tb)] F₁ (by
      intro q hq
      simp only [List.mem_cons, List.not_mem_nil, or_false] at hq
      rcases hq with rfl | rfl | rfl | rfl
      · exact e1
      · exact e2
      · exact e3
      · exact e4)
    clear F₁ e1 e2 e3 e4
    refine gen_while ?_
    intro Q' R' E' hQ hR
    have hxs : x.length ≤ 1000000 := hl
    have hul : us.length = wds.length := by rw [hus.length, List.length_map]
    have hsz : us.length ≤ sizeLine := by rw [sizeLine_eq]; omega
    by_cases hlt : kv < x.length
    · obtain ⟨c, hc⟩ : ∃ c, x.cps.toList[kv]? = some c := ⟨_, List.getElem?_eq_getElem (by rw [Array.length_toList]; exact hlt)⟩
      have hdr : x.cps.toList.drop kv = c :: x.cps.toList.drop (kv + 1) := by
        rw [List.drop_eq_getElem_cons (by rw [Array.length_toList]; exact hlt)]
        congr 1
        exact (List.getElem?_eq_some_iff.mp hc).2
      cases hw : ws c
      · have hin : inS c (Str.ofString " \t\r\n") = false := by unfold inS; rw [ofS_ws]; unfold ws at hw; simp only [Bool.or_eq_false_iff, beq_eq_false_iff_ne] at hw; simp; omega
        by_cases h92 : c = 92
        · subst h92
          have hq : isS 92 (Str.ofString "\\") = true := by decide +kernel
          cases bg
          · k_steps
            refine Stop.out ?_
            rename News _ _ _ _ => NN; rename Fr _ _ _ _ => FF
            simp only [List.push_toArray, ofS_nil] at NN
            refine get_last NN (.head _) ?_
            obtain ⟨w0, z, us0, hz0, hus0, hw1, hl0⟩ : ∃ (w0 : List (List Nat)) (z : List Nat) (us0 : List Value), us = us0 ∧ StrsAre us0 (w0.map ofL) ∧ wds ++ [[]] = w0 ++ [z] ∧ z = [] := ⟨wds, [], us, rfl, hus, rfl, rfl⟩
            subst hz0 hl0
            have hzz : ([] : List Nat).length ≤ kv := Nat.zero_le _
            have hw0 : ∀ y ∈ w0, y.length ≤ kv := fun y hy => by
              have : y ∈ wds ++ [[]] := hw1 ▸ List.mem_append_left _ hy
              rcases List.mem_append.mp this with h | h
              · exact hzl y h
              · rw [List.mem_singleton.mp h]; exact Nat.zero_le _
            have hwl' : w0.length ≤ kv := by have := congrArg List.length hw1; simp at this; omega
            k_steps
            refine Stop.out ?_
            have hsl := slice1' x kv
            have hta := take1_len (x.cps.toList.drop (kv + 1))
            refine iadd_str (hsz := ?hsz) ?_
            case hsz => rw [hsl, ofL_len, ofL_len, sizeLine_eq]; omega
            intro ts tks
            k_steps
            refine Stop.out ?_
            rename News _ _ _ _ => NN; rename Fr _ _ _ _ => FF
            refine set_last FF NN (.head hWd) ?_
            clear FF NN
            intro h' F' N'
            k_steps
            rename News _ _ _ _ => NN; rename Fr _ _ _ _ => FF
            rw [hsl, ofL_append] at NN
            rw [hdr, cut_esc] at hcg
            rw [if_neg (by decide), hw1, addLast_snoc] at hcg
            rw [List.drop_drop] at hcg
            refine hQ _ _ ⟨_, _, _, _, _, rfl, FF, NN, by omega, Wd, _, _, true, w0 ++ [[] ++ ((x.cps.toList.drop (kv + 1)).take 1)], kv + 2, _, _, rfl, rfl, rfl, rfl, rfl, hWd, ?_, hcg, fun _ => by simp, ?_, ?_, rfl, by omega⟩
            · rw [List.map_append]
              exact strs_snoc hus0
            · intro y hy
              rcases List.mem_append.mp hy with h | h
              · have := hw0 y h; omega
              · rw [List.mem_singleton.mp h, List.length_append]
                have := hta
                omega
            · rw [List.length_append]; simp only [List.length_cons, List.length_nil]; omega
          · obtain ⟨us0, y, ty, ws', rfl, hws', hus0⟩ := strs_last hus (by simpa using hbg rfl)
            obtain ⟨w0, z, rfl, rfl, rfl⟩ := map_last hws'
            k_steps
            refine Stop.out ?_
            rename News _ _ _ _ => NN; rename Fr _ _ _ _ => FF
            refine get_last NN (.head _) ?_
            have hzz : z.length ≤ kv := hzl z (by simp)
            have hw0 : ∀ y ∈ w0, y.length ≤ kv := fun y hy => hzl y (by simp [hy])
            have hwl' : w0.length + 1 ≤ kv := by simpa using hwl
            k_steps
            refine Stop.out ?_
            have hsl := slice1' x kv
            have hta := take1_len (x.cps.toList.drop (kv + 1))
            refine iadd_str (hsz := ?hsz) ?_
            case hsz => rw [hsl, ofL_len, ofL_len, sizeLine_eq]; omega
            intro ts tks
            k_steps
            refine Stop.out ?_
            rename News _ _ _ _ => NN; rename Fr _ _ _ _ => FF
            refine set_last FF NN (.head hWd) ?_
            clear FF NN
            intro h' F' N'
            k_steps
            rename News _ _ _ _ => NN; rename Fr _ _ _ _ => FF
            rw [hsl, ofL_append] at NN
            rw [hdr, cut_esc] at hcg
            rw [if_pos rfl, addLast_snoc] at hcg
            rw [List.drop_drop] at hcg
            refine hQ _ _ ⟨_, _, _, _, _, rfl, FF, NN, by omega, Wd, _, _, true, w0 ++ [z ++ ((x.cps.toList.drop (kv + 1)).take 1)], kv + 2, _, _, rfl, rfl, rfl, rfl, rfl, hWd, ?_, hcg, fun _ => by simp, ?_, ?_, rfl, by omega⟩
            · rw [List.map_append]
              exact strs_snoc hus0
            · intro y hy
              rcases List.mem_append.mp hy with h | h
              · have := hw0 y h; omega
              · rw [List.mem_singleton.mp h, List.length_append]
                have := hta
                omega
            · rw [List.length_append]; simp only [List.length_cons, List.length_nil]; omega
        · have hq : isS c (Str.ofString "\\") = false := by rw [show Str.ofString "\\" = ⟨#[92]⟩ by decide, isS_iff]; exact decide_eq_false h92
          cases bg
          · k_steps
            refine Stop.out ?_
            rename News _ _ _ _ => NN; rename Fr _ _ _ _ => FF
            simp only [List.push_toArray, ofS_nil] at NN
            refine get_last NN (.head _) ?_
            obtain ⟨w0, z, us0, hz0, hus0, hw1, hl0⟩ : ∃ (w0 : List (List Nat)) (z : List Nat) (us0 : List Value), us = us0 ∧ StrsAre us0 (w0.map ofL) ∧ wds ++ [[]] = w0 ++ [z] ∧ z = [] := ⟨wds, [], us, rfl, hus, rfl, rfl⟩
            subst hz0 hl0
            have hzz : ([] : List Nat).length ≤ kv := Nat.zero_le _
            have hw0 : ∀ y ∈ w0, y.length ≤ kv := fun y hy => by
              have : y ∈ wds ++ [[]] := hw1 ▸ List.mem_append_left _ hy
              rcases List.mem_append.mp this with h | h
              · exact hzl y h
              · rw [List.mem_singleton.mp h]; exact Nat.zero_le _
            have hwl' : w0.length ≤ kv := by have := congrArg List.length hw1; simp at this; omega
            k_steps
            refine Stop.out ?_
            have hsl : Txt.slice x (some (kv : Int)) (some ((kv : Int) + 1)) = ofL [c] := by rw [slice1, hdr]; rfl
            refine iadd_str (hsz := ?hsz) ?_
            case hsz => rw [hsl, ofL_len, ofL_len, sizeLine_eq]; simp only [List.length_cons, List.length_nil]; omega
            intro ts tks
            k_steps
            refine Stop.out ?_
            rename News _ _ _ _ => NN; rename Fr _ _ _ _ => FF
            refine set_last FF NN (.head hWd) ?_
            clear FF NN
            intro h' F' N'
            k_steps
            rename News _ _ _ _ => NN; rename Fr _ _ _ _ => FF
            rw [hsl, ofL_append] at NN
            rw [hdr, cut_p (by rw [hw]; decide) h92] at hcg
            rw [if_neg (by decide), hw1, addLast_snoc] at hcg
            refine hQ _ _ ⟨_, _, _, _, _, rfl, FF, NN, by omega, Wd, _, _, true, w0 ++ [[] ++ [c]], kv + 1, _, _, rfl, rfl, rfl, rfl, rfl, hWd, ?_, hcg, fun _ => by simp, ?_, ?_, rfl, by omega⟩
            · rw [List.map_append]
              exact strs_snoc hus0
            · intro y hy
              rcases List.mem_append.mp hy with h | h
              · have := hw0 y h; omega
              · rw [List.mem_singleton.mp h, List.length_append]
                simp only [List.length_cons, List.length_nil]
                omega
            · rw [List.length_append]; simp only [List.length_cons, List.length_nil]; omega
          · obtain ⟨us0, y, ty, ws', rfl, hws', hus0⟩ := strs_last hus (by simpa using hbg rfl)
            obtain ⟨w0, z, rfl, rfl, rfl⟩ := map_last hws'
            k_steps
            refine Stop.out ?_
            rename News _ _ _ _ => NN; rename Fr _ _ _ _ => FF
            refine get_last NN (.head _) ?_
            have hzz : z.length ≤ kv := hzl z (by simp)
            have hw0 : ∀ y ∈ w0, y.length ≤ kv := fun y hy => hzl y (by simp [hy])
            have hwl' : w0.length + 1 ≤ kv := by simpa using hwl
            k_steps
            refine Stop.out ?_
            have hsl : Txt.slice x (some (kv : Int)) (some ((kv : Int) + 1)) = ofL [c] := by rw [slice1, hdr]; rfl
            refine iadd_str (hsz := ?hsz) ?_
            case hsz => rw [hsl, ofL_len, ofL_len, sizeLine_eq]; simp only [List.length_cons, List.length_nil]; omega
            intro ts tks
            k_steps
            refine Stop.out ?_
            rename News _ _ _ _ => NN; rename Fr _ _ _ _ => FF
            refine set_last FF NN (.head hWd) ?_
            clear FF NN
            intro h' F' N'
            k_steps
            rename News _ _ _ _ => NN; rename Fr _ _ _ _ => FF
            rw [hsl, ofL_append] at NN
            rw [hdr, cut_p (by rw [hw]; decide) h92] at hcg
            rw [if_pos rfl, addLast_snoc] at hcg
            refine hQ _ _ ⟨_, _, _, _, _, rfl, FF, NN, by omega, Wd, _, _, true, w0 ++ [z ++ [c]], kv + 1, _, _, rfl, rfl, rfl, rfl, rfl, hWd, ?_, hcg, fun _ => by simp, ?_, ?_, rfl, by omega⟩
            · rw [List.map_append]
              exact strs_snoc hus0
            · intro y hy
              rcases List.mem_append.mp hy with h | h
              · have := hw0 y h; omega
              · rw [List.mem_singleton.mp h, List.length_append]
                simp only [List.length_cons, List.length_nil]
                omega
            · rw [List.length_append]; simp only [List.length_cons, List.length_nil]; omega
      · have hin : inS c (Str.ofString " \t\r\n") = true := by unfold inS; rw [ofS_ws]; unfold ws at hw; simp only [Bool.or_eq_true, beq_iff_eq] at hw; simp; omega
        k_steps
        rename News _ _ _ _ => NN; rename Fr _ _ _ _ => FF
        rw [hdr, cut_w hw] at hcg
        exact hQ _ _ ⟨_, _, _, _, _, rfl, FF, NN, by omega, Wd, us, kk, false, wds, kv + 1, _, _, rfl, rfl, rfl, rfl, rfl, hWd, hus, hcg, (fun e => by cases e), fun z hz => Nat.le_succ_of_le (hzl z hz), by omega, rfl, by omega⟩
    · k_steps
      refine hR _ ?_
      (try dsimp only)
      k_steps
      rename News _ _ _ _ => NN; rename Fr _ _ _ _ => FF
      have hd0 : x.cps.toList.drop kv = [] := List.drop_eq_nil_of_le (by rw [Array.length_toList]; exact Nat.le_of_not_lt hlt)
      rw [hd0] at hcg
      have hcg' : wds = cutGo x.cps.toList false [] := by rw [← hcg]; rfl
      rw [← hcg'] at hret
      exact hret _ _ _ _ _ FF NN hWd hus
end
section
theorem Worded.len0 {ws : List (List Nat)} (h : Worded 0 ws) : ws.length ≤ 240 := by have := h.len; omega
theorem joinL_len (z : List Nat) : ∀ ls : List (List Nat), (joinL z ls).length ≤ (ls.map List.length).sum + ls.length * z.length
  | [] => Nat.zero_le _
  | [x] => by simp [joinL]
  | x :: y :: r => by
    have ih := joinL_len z (y :: r)
    simp only [joinL, List.length_append, List.map_cons, List.sum_cons, List.length_cons] at ih ⊢
    rw [Nat.add_mul, Nat.one_mul] at ih ⊢
    rw [Nat.add_mul, Nat.one_mul]
    omega
theorem sum_qt' : ∀ (ws : List (List Nat)), ((ws.map qt).map List.length).sum ≤ 5 * (ws.map List.length).sum + 2 * ws.length
  | [] => Nat.zero_le _
  | l :: r => by
    have ih := sum_qt' r
    have h2 := qt_len l
    simp only [List.map_cons, List.sum_cons, List.length_cons] at ih ⊢
    omega
theorem esc_line {ws : List (List Nat)} (h : Worded 0 ws) (q : Bool) : (escL q (joinL [32] (ws.map qt))).length ≤ 1000000 := by
  have h1 := escL_len q (joinL [32] (ws.map qt))
  have h2 := joinL_len [32] (ws.map qt)
  have h4 : (ws.map qt).length = ws.length := List.length_map _
  rw [h4, List.length_singleton, Nat.mul_one] at h2
  have h3 := sum_qt' ws
  have := h.len
  have := h.sum
  omega
theorem strs_item {us : List Value} {ws : List (List Nat)} (h : StrsAre us (ws.map ofL)) : ∀ (i : Nat) (v : Value), us[i]? = some v → ∃ a, ws[i]? = some a ∧ ∃ u, v = .str (ofL a) u := fun i v hv => by
  obtain ⟨y, ty, rfl, hy⟩ := h.item i v hv
  rw [List.getElem?_map] at hy
  cases hpi : ws[i]? with
  | none => rw [hpi] at hy; cases hy
  | some q => rw [hpi] at hy; exact ⟨q, rfl, ty, by rw [Option.some.inj hy]⟩
theorem esc1440 {q : Bool} {l : List Nat} (h : l.length ≤ 240) : (escL q l).length ≤ 1440 := by have := escL_len q l; omega
theorem strs_ok {wds : List (List Nat)} (h : ∀ l ∈ wds, ∀ c ∈ l, c < 1114112) : ∀ x ∈ wds.map ofL, PyData.strOk x = true := fun x hx => by
  obtain ⟨l, hl, rfl⟩ := List.mem_map.mp hx
  exact strOk_of (h l hl)
end
section
noncomputable def Ends6 (h₁ : Heap) (s₁ : Shared) (tabs : List (Addr × Addr)) (r : Result) (s' : Shared) : Prop :=
  r = .ok (.ret (.bool true)) ∧ (∀ b o, (ghostOf h₁ tabs).get? b = some o → s'.heap.get? b = some o) ∧ GrownAll tabs s'.heap ∧ s'.os = s₁.os ∧ AllBare s'.gens
theorem kg_post {M : Model} {A : Around} {cd : Code} {s s₁ : Shared} {cw : ClaimW} {cl : Str → Option Addr} {mean : ExcName → Option Value} {args : List WData} {tabs : List (Addr × Addr)} (hT : TabsAt tabs s₁.heap)
    (hr : ∀ x, cw.raises args x = false) (hp : cw.post args (.bool true) args = true)
    (h : codeAny M A cd (Ends6 s₁.heap s₁ tabs) s) : codeAny M A cd (GoodWG cw cl mean args s₁) s :=
  codeAny_mono h fun r s' ⟨e, hk, hgr, hos, hb⟩ => by
    subst e
    have keep : ∀ b o, b ∉ tabs.map (·.2) → s₁.heap.get? b = some o → s'.heap.get? b = some o := fun b o hb e => hk b o (ghost_ne e hb)
    have grown : ∀ b o, b ∈ tabs.map (·.2) → s₁.heap.get? b = some o → isCodeTable s₁.heap b ∧ o = tabObj #[] ∧ ∃ ps, s'.heap.get? b = some (tabObj ps) := fun b o hb e => by
      obtain ⟨q, hq, rfl⟩ := List.mem_map.mp hb
      have e2 := (hT q hq).2
      rw [e] at e2
      exact ⟨((hT q hq).1.tab (hT q hq).2).isCodeTable, Option.some.inj e2, hgr.get q hq⟩
    refine ⟨.inl ⟨_, _, [], rfl, hr, ReadsW.bool true, hp, fun _ => ⟨List.nodup_nil, fun _ hm => (nomatch hm)⟩⟩, ⟨fun b o e => ?_, fun b o e => ?_⟩, hos, hb⟩
    · by_cases hb : b ∈ tabs.map (·.2)
      · obtain ⟨ht, rfl, ps, hP⟩ := grown b o hb e
        exact .inr (.inl ⟨ht, rfl, #[], ps, rfl, by rw [Array.empty_append]; exact hP⟩)
      · exact .inl (keep b o hb e)
    · by_cases hb : b ∈ tabs.map (·.2)
      · obtain ⟨_, _, ps, hP⟩ := grown b o hb e
        exact ⟨_, hP⟩
      · exact ⟨o, keep b o hb e⟩
section
variable {prog : Program} {w : World} {A : Around} {E : Value → Shared → Prop} {s : Shared} {env : Env} {h₀ : Heap} {Q : Flow → Shared → Prop} {st : Stmt} {rest : List Stmt} {L : Addr} {Wd : Addr} {us : List Value} {k : Nat}
/-- what holds between two statements of the law: the words, the table, and J of the names -/
noncomputable def Cut6 (h₀ : Heap) (L Wd : Addr) (us : List Value) (k : Nat) (J : (Str → Option Value) → Prop) (s : Shared) (f : Flow) (s' : Shared) : Prop :=
  f = .next ∧ ∃ m' ps, s'.os = s.os ∧ AllBare s'.gens ∧ TriplesOk ps.toList ∧ Fr h₀ L s'.heap m' ∧ News h₀ L s'.heap [(746, tabObj ps), (Wd, listOf us.toArray k)] ∧ m' (Str.ofString "words") = some (.ref Wd) ∧ J m'
theorem cut6 (J : (Str → Option Value) → Prop) (h1 : wpAny (model prog w) A (exec st env) (Cut6 h₀ L Wd us k J s) E s)
    (h2 : ∀ s' m' ps, s'.os = s.os → AllBare s'.gens → TriplesOk ps.toList → Fr h₀ L s'.heap m' → News h₀ L s'.heap [(746, tabObj ps), (Wd, listOf us.toArray k)] → m' (Str.ofString "words") = some (.ref Wd) → J m' →
      wpAny (model prog w) A (execs rest env) Q E s') : wpAny (model prog w) A (execs (st :: rest) env) Q E s := by
  refine wpAny_execs_cons (wpAny_mono h1 (fun f s' h => ?_) fun _ _ e => e)
  obtain ⟨rfl, m', ps, a1, a2, a3, a4, a5, a6, a7⟩ := h
  exact h2 s' m' ps a1 a2 a3 a4 a5 a6 a7
/-- the words themselves -/
noncomputable def CutW (h₀ : Heap) (L : Addr) (s : Shared) (f : Flow) (s' : Shared) : Prop :=
  f = .next ∧ ∃ m' Wd us k ws, s'.os = s.os ∧ AllBare s'.gens ∧ Worded 0 ws ∧ StrsAre us (ws.map ofL) ∧ Fr h₀ L s'.heap m' ∧ News h₀ L s'.heap [(746, tabObj #[]), (Wd, listOf us.toArray k)] ∧ m' (Str.ofString "words") = some (.ref Wd)
theorem cutW (h1 : wpAny (model prog w) A (exec st env) (CutW h₀ L s) E s)
    (h2 : ∀ s' m' Wd us k ws, s'.os = s.os → AllBare s'.gens → Worded 0 ws → StrsAre us (ws.map ofL) → Fr h₀ L s'.heap m' → News h₀ L s'.heap [(746, tabObj #[]), (Wd, listOf us.toArray k)] → m' (Str.ofString "words") = some (.ref Wd) →
      wpAny (model prog w) A (execs rest env) Q E s') : wpAny (model prog w) A (execs (st :: rest) env) Q E s := by
  refine wpAny_execs_cons (wpAny_mono h1 (fun f s' h => ?_) fun _ _ e => e)
  obtain ⟨rfl, m', Wd, us, k, ws, a1, a2, a3, a4, a5, a6, a7⟩ := h
  exact h2 s' m' Wd us k ws a1 a2 a3 a4 a5 a6 a7
end
theorem swap2 {h₀ h : Heap} {L : Addr} {a b : Addr × Obj} (N : News h₀ L h [a, b]) : News h₀ L h [b, a] := News.sub N fun q hq => by
  simp only [List.mem_cons, List.not_mem_nil, or_false] at hq ⊢
  exact hq.symm
noncomputable def lineJ (b : Bool) (ws : List (List Nat)) (m : Str → Option Value) : Prop := ∃ t, m (Str.ofString "line") = some (.str (ofL (escL b (joinL [32] (ws.map qt)))) t)
noncomputable def bareJ (ws : List (List Nat)) (m : Str → Option Value) : Prop := lineJ true ws m ∧ m (Str.ofString "bare") = some (.bool (ws.all isSafe))
noncomputable def dueJ (ws : List (List Nat)) (m : Str → Option Value) : Prop := lineJ true ws m ∧ ∃ t, m (Str.ofString "due") = some (.str (ofL (lineL ws)) t)
theorem two_in {m : Str → Option Value} {a b : Str} {va vb : Value} (h1 : m a = some va) (h2 : m b = some vb) : ∀ q ∈ [(a, va), (b, vb)], m q.1 = some q.2 := fun q hq => by
  simp only [List.mem_cons, List.not_mem_nil, or_false] at hq
  rcases hq with rfl | rfl
  · exact h1
  · exact h2
theorem three_in {m : Str → Option Value} {a b c : Str} {va vb vc : Value} (h1 : m a = some va) (h2 : m b = some vb) (h3 : m c = some vc) : ∀ q ∈ [(a, va), (b, vb), (c, vc)], m q.1 = some q.2 := fun q hq => by
  simp only [List.mem_cons, List.not_mem_nil, or_false] at hq
  rcases hq with rfl | rfl | rfl
  · exact h1
  · exact h2
  · exact h3
theorem one_in {m : Str → Option Value} {a : Str} {va : Value} (h1 : m a = some va) : ∀ q ∈ [(a, va)], m q.1 = some q.2 := fun q hq => by
  rw [List.mem_singleton.mp hq]; exact h1
theorem law_holds.tw926570990666696690 : True := trivial
theorem law_holds.tw5062152199769849712 : True := trivial
theorem law_holds.tw13295216738931412298 : True := trivial
theorem law_holds.tw8887659393814298030 : True := trivial
theorem law_holds.tw5389484754426515990 : True := trivial
theorem law_holds.tw15012669898789001497 : True := trivial
theorem law_holds.tw8575972342014700945 : True := trivial
theorem law_holds.tw610735814493277092 : True := trivial
theorem law_holds.tw16774741363034127393 : True := trivial
theorem law_holds.tw13766487248619392586 : True := trivial
theorem law_holds.tw6747315666322679634 : True := trivial
theorem law_holds.tw12395405093167943222 : True := trivial
theorem law_holds.tw9629251133229016361 : True := trivial
theorem law_holds.tw1819244514083003361 : True := trivial
theorem law_holds.tw14918994710005357087 : True := trivial
theorem law_holds.tw7067974818453428095 : True := trivial
theorem law_holds.tw3625451137614018508 : True := trivial
theorem law_holds.tw6890789416708739275 : True := trivial
theorem law_holds.tw12423290165067640415 : True := trivial
theorem law_holds.tw10786798759134214714 : True := trivial
theorem law_holds.tw8957123355933967898 : True := trivial
theorem law_holds.tw2643161274291862537 : True := trivial
theorem law_holds.tw15917412866852771543 : True := trivial
theorem law_holds.tw3602377517896009648 : True := trivial
theorem law_holds.tw6122225920155410508 : True := trivial
theorem law_holds.tw12610764987094191714 : True := trivial
theorem law_holds.tw8685087848568736164 : True := trivial
theorem law_holds.tw1499712698015984848 : True := trivial
theorem law_holds.tw11378576750377235499 : True := trivial
theorem law_holds.tw2039724139929955007 : True := trivial
theorem law_holds.tw2384872892506856444 : True := trivial
theorem law_holds.tw12303009252429188658 : True := trivial
theorem law_holds.tw11599213532126039444 : True := trivial
theorem law_holds.tw9965324091349369512 : True := trivial
theorem law_holds.tw6856271012784772064 : True := trivial
theorem law_holds.tw4358403320081769719 : True := trivial
theorem law_holds.tw8069529665006113395 : True := trivial
theorem law_holds.tw8131574967351443871 : True := trivial
theorem law_holds.tw3607733795294823564 : True := trivial
theorem law_holds.tw217386770830766740 : True := trivial
theorem law_holds.tw10024915671413155879 : True := trivial
theorem law_holds.tw16871385213344756426 : True := trivial
theorem law_holds.tw12780804625047726367 : True := trivial
theorem law_holds.tw8989625286065859495 : True := trivial
theorem law_holds.tw8796305342591271336 : True := trivial
theorem law_holds.tw9611832331244035263 : True := trivial
theorem law_holds.tw17248354013995264833 : True := trivial
theorem law_holds.tw16122234104351945819 : True := trivial
theorem law_holds.tw6119071299663865417 : True := trivial
theorem law_holds.tw1117575151148589468 : True := trivial
theorem law_holds.tw17352347295132562470 : True := trivial
theorem law_holds.tw11129157725520112330 : True := trivial
theorem law_holds.tw12547139144490466682 : True := trivial
theorem law_holds.tw718173064312146323 : True := trivial
theorem law_holds.tw2823118279179183905 : True := trivial
theorem law_holds.tw4080157896497106081 : True := trivial
theorem law_holds.tw6319825239189999033 : True := trivial
theorem law_holds.tw11417216600806533712 : True := trivial
theorem law_holds.tw16190568399584723965 : True := trivial
theorem law_holds.tw2829063650774624953 : True := trivial
theorem law_holds.tw1419239623039772522 : True := trivial
theorem law_holds.tw11240126127631740588 : True := trivial
theorem law_holds.tw3381667417286267614 : True := trivial
theorem law_holds.tw6726159173723076276 : True := trivial
theorem law_holds.tw16614716721108272449 : True := trivial
theorem law_holds.tw17044581251229063488 : True := trivial
theorem law_holds.tw16170062445108390699 : True := trivial
theorem law_holds.tw6833386782581465115 : True := trivial
theorem law_holds.tw6837162412863275959 : True := trivial
theorem law_holds.tw17333074002647195236 : True := trivial
theorem law_holds.tw5514985750730242732 : True := trivial
theorem law_holds.tw3152906847767001463 : True := trivial
theorem law_holds.tw8585773674032094923 : True := trivial
theorem law_holds.tw4124640904062056756 : True := trivial
theorem law_holds.tw6603102845771900818 : True := trivial
theorem law_holds.tw13709617746848070560 : True := trivial
theorem law_holds.tw4012412122566942357 : True := trivial
theorem law_holds.tw2327590871639926724 : True := trivial
theorem law_holds.tw2798143973674455058 : True := trivial
theorem law_holds.tw180908045013255413 : True := trivial
theorem law_holds.tw14637292938222569738 : True := trivial
theorem law_holds.tw5788490908846893860 : True := trivial
theorem law_holds.tw7356349956106387506 : True := trivial
theorem law_holds.tw12134956360726941196 : True := trivial
theorem law_holds.tw14844349234554566270 : True := trivial
theorem law_holds.tw2665602086022161900 : True := trivial
theorem law_holds.tw602461330855297101 : True := trivial
theorem law_holds.tw12624917743002284683 : True := trivial
theorem law_holds.tw17122233677790987533 : True := trivial
theorem law_holds.tw13012089966726956846 : True := trivial
theorem law_holds.tw7699555767970713544 : True := trivial
theorem law_holds.tw15039968919637362723 : True := trivial
theorem law_holds.tw3772654092419426264 : True := trivial
theorem law_holds.tw3584490593718003838 : True := trivial
theorem law_holds.tw10944507229479926786 : True := trivial
theorem law_holds.tw1980014416275693142 : True := trivial
theorem law_holds.tw3077249439568447194 : True := trivial
theorem law_holds.tw18326849912455186884 : True := trivial
theorem law_holds.tw13014204117121516432 : True := trivial
theorem law_holds.tw4114491029794296638 : True := trivial
theorem law_holds.tw8534950812830455928 : True := trivial
theorem law_holds.tw8334431915071622068 : True := trivial
theorem law_holds.tw15607887362523206001 : True := trivial
theorem law_holds.tw4958777108401626986 : True := trivial
theorem law_holds.tw15470072684735142199 : True := trivial
theorem law_holds.tw4538803929270698141 : True := trivial
theorem law_holds.tw8509427752941578312 : True := trivial
theorem law_holds.tw10093647634046251098 : True := trivial
theorem law_holds.tw15049334964525308263 : True := trivial
theorem law_holds.tw14754953459478485650 : True := trivial
theorem law_holds.tw12294157821550436875 : True := trivial
theorem law_holds.tw7759241980135008877 : True := trivial
theorem law_holds.tw7630923327383168834 : True := trivial
theorem law_holds.tw12831907817818079685 : True := trivial
theorem law_holds.tw9387504603337931229 : True := trivial
theorem law_holds.tw3852827713774964812 : True := trivial
theorem law_holds.tw3222016081226267511 : True := trivial
theorem law_holds.tw8398172748654082301 : True := trivial
theorem law_holds.tw3345943897349945916 : True := trivial
theorem law_holds.tw4084692197679721580 : True := trivial
theorem law_holds.tw4010602895031118862 : True := trivial
theorem law_holds.tw7034799258891941112 : True := trivial
theorem law_holds.tw6803784606104104915 : True := trivial
theorem law_holds.tw14421849669547354848 : True := trivial
theorem law_holds.tw17499823404086765753 : True := trivial
theorem law_holds.tw13871441588494700760 : True := trivial
theorem law_holds.tw14804154826342961292 : True := trivial
theorem law_holds.tw9276237560276512257 : True := trivial
theorem law_holds.tw631828861560075746 : True := trivial
theorem law_holds.tw5224811545321949972 : True := trivial
theorem law_holds.tw6960227901761818539 : True := trivial
theorem law_holds.tw6925759287387000477 : True := trivial
theorem law_holds.tw5033615099794278105 : True := trivial
theorem law_holds.tw10966922599951484296 : True := trivial
theorem law_holds.tw3585619396377516438 : True := trivial
theorem law_holds.tw15544829507116839252 : True := trivial
theorem law_holds.tw2210835177313872025 : True := trivial
theorem law_holds.tw16961963742403092116 : True := trivial
theorem law_holds.tw8499850393483014974 : True := trivial
theorem law_holds.tw13907478101703683472 : True := trivial
theorem law_holds.tw12533077332658259058 : True := trivial
theorem law_holds.tw3904345055887950832 : True := trivial
theorem law_holds.tw550416813572682631 : True := trivial
theorem law_holds.tw14199385797764061990 : True := trivial
theorem law_holds.tw1786514562438141433 : True := trivial
theorem law_holds.tw8701503649254672115 : True := trivial
theorem law_holds.tw16836969012518115619 : True := trivial
theorem law_holds.tw12987194180023231900 : True := trivial
theorem law_holds.tw9658750610502535773 : True := trivial
theorem law_holds.tw14688257501491213770 : True := trivial
theorem law_holds.tw15616788800653401546 : True := trivial
theorem law_holds.tw9785522067705436687 : True := trivial
theorem law_holds.tw10288635621117254392 : True := trivial
theorem law_holds.tw11258418251754256542 : True := trivial
theorem law_holds.tw4000965053056674031 : True := trivial
theorem law_holds.tw10817052189556005596 : True := trivial
theorem law_holds.tw15382015402350562565 : True := trivial
theorem law_holds.tw16650043561916937667 : True := trivial
theorem law_holds.tw8844300528656570046 : True := trivial
theorem law_holds.tw16643359273071845452 : True := trivial
theorem law_holds.tw664576680770170031 : True := trivial
theorem law_holds.tw10690591221887355590 : True := trivial
theorem law_holds.tw18207237522527388385 : True := trivial
theorem law_holds.tw18207139094907211405 : True := trivial
theorem law_holds.tw15559820383661478762 : True := trivial
theorem law_holds.tw11576763624814078588 : True := trivial
theorem law_holds.tw3438298445031660282 : True := trivial
theorem law_holds.tw17744747089408723468 : True := trivial
theorem law_holds.tw16804138575897400367 : True := trivial
theorem law_holds.tw5298563615123868993 : True := trivial
theorem law_holds.tw18255678716917950113 : True := trivial
theorem law_holds.tw436970716684534385 : True := trivial
theorem law_holds.tw7428356162208057594 : True := trivial
theorem law_holds.tw5587736956042788999 : True := trivial
theorem law_holds.tw12280936224243050094 : True := trivial
theorem law_holds.tw13953844522926457337 : True := trivial
theorem law_holds.tw6401299144993235711 : True := trivial
theorem law_holds.tw10188763426450519768 : True := trivial
theorem law_holds.tw15621117886176486297 : True := trivial
theorem law_holds.tw932483933274728699 : True := trivial
theorem law_holds.tw480292947269760891 : True := trivial
theorem law_holds.tw12293519974356525696 : True := trivial
theorem law_holds.tw17570675385486235261 : True := trivial
theorem law_holds.tw18174757765527757658 : True := trivial
theorem law_holds.tw10660274270002163016 : True := trivial
theorem law_holds.tw5914870393513715829 : True := trivial
theorem law_holds.tw13974142956242929375 : True := trivial
theorem law_holds.tw2885242317795153321 : True := trivial
theorem law_holds.tw3426384778480675251 : True := trivial
theorem law_holds.tw8041847919771144911 : True := trivial
theorem law_holds.tw5052586510891348487 : True := trivial
theorem law_holds.tw6592492639990696916 : True := trivial
theorem law_holds.tw5718591165246717604 : True := trivial
theorem law_holds.tw15480323770066655214 : True := trivial
theorem law_holds.tw866902197054423042 : True := trivial
theorem law_holds.tw9030029362784504949 : True := trivial
theorem law_holds.tw9161201516280946379 : True := trivial
theorem law_holds.tw17012788314835774953 : True := trivial
theorem law_holds.tw1914425252493584057 : True := trivial
theorem law_holds.tw2387193687640843687 : True := trivial
theorem law_holds.tw2029103588110406671 : True := trivial
theorem law_holds.tw732671015094016272 : True := trivial
theorem law_holds.tw9054384006715261796 : True := trivial
theorem law_holds.tw7705907089059582203 : True := trivial
theorem law_holds.tw7062847971049655297 : True := trivial
theorem law_holds.tw2661426283462663331 : True := trivial
theorem law_holds.tw14704515778605914334 : True := trivial
theorem law_holds.tw4150838340823326808 : True := trivial
theorem law_holds.tw4943266373159272645 : True := trivial
theorem law_holds.tw15778187320301009095 : True := trivial
theorem law_holds.tw4781243967656130014 : True := trivial
theorem law_holds.tw13841927423027058892 : True := trivial
theorem law_holds.tw2389365564930886873 : True := trivial
theorem law_holds.tw12267387818898314102 : True := trivial
theorem law_holds.tw18200972181404202854 : True := trivial
theorem law_holds.tw6948224671027582040 : True := trivial
theorem law_holds.tw1956609002073499237 : True := trivial
theorem law_holds.tw3438159455049519851 : True := trivial
theorem law_holds.tw16493337721930434605 : True := trivial
theorem law_holds.tw16473692458595752123 : True := trivial
theorem law_holds.tw5317712747687158720 : True := trivial
theorem law_holds.tw4441770287765753910 : True := trivial
theorem law_holds.tw9758457651398904439 : True := trivial
theorem law_holds.tw9895272294310442608 : True := trivial
theorem law_holds.tw12230812552461218233 : True := trivial
theorem law_holds.tw18225134555866732589 : True := trivial
theorem law_holds.tw12866619843771512703 : True := trivial
theorem law_holds.tw3713387574879085296 : True := trivial
theorem law_holds.tw15711721202313437401 : True := trivial
theorem law_holds.tw12080120384591051744 : True := trivial
theorem law_holds.tw569041148215803771 : True := trivial
theorem law_holds.tw15332971116118236329 : True := trivial
theorem law_holds.tw8652346329174877282 : True := trivial
theorem law_holds.tw17078278762921784054 : True := trivial
theorem law_holds.tw18243743400395545900 : True := trivial
theorem law_holds.tw1378268572249521416 : True := trivial
theorem law_holds.tw16457280410452015341 : True := trivial
theorem law_holds.tw5605356248273646047 : True := trivial
theorem law_holds.tw13359578995793934705 : True := trivial
theorem law_holds.tw17945400426158229696 : True := trivial
theorem law_holds.tw6429003314605503815 : True := trivial
theorem law_holds.tw16085450786879632459 : True := trivial
theorem law_holds.tw2199771004791424345 : True := trivial
theorem law_holds.tw12116493165278983582 : True := trivial
theorem law_holds.tw3528666605387839750 : True := trivial
theorem law_holds.tw2524451447272701541 : True := trivial
theorem law_holds.tw860077500063870494 : True := trivial
theorem law_holds.tw6463668430954543056 : True := trivial
theorem law_holds.tw3497416489672200475 : True := trivial
theorem law_holds.tw14381716576446811386 : True := trivial
theorem law_holds.tw12614398338856665164 : True := trivial
theorem law_holds.tw2168529811784733145 : True := trivial
theorem law_holds.tw8226277913771197264 : True := trivial
theorem law_holds.tw223059019891838383 : True := trivial
theorem law_holds.tw13280740594461564331 : True := trivial
theorem law_holds.tw8135941239458229972 : True := trivial
theorem law_holds.tw15202307301556495182 : True := trivial
theorem law_holds.tw6156673074769690058 : True := trivial
theorem law_holds.tw13730824268290810741 : True := trivial
theorem law_holds.tw770865349035796089 : True := trivial
theorem law_holds.tw16321023544550192223 : True := trivial
theorem law_holds.tw2267570414399663512 : True := trivial
theorem law_holds.tw9964428425899171237 : True := trivial
theorem law_holds.tw2334766641761910077 : True := trivial
theorem law_holds.tw545109181885906688 : True := trivial
theorem law_holds.tw7954183362391743935 : True := trivial
theorem law_holds.tw12776737443520724447 : True := trivial
theorem law_holds.tw16561980033783445034 : True := trivial
theorem law_holds.tw6693162373230288027 : True := trivial
theorem law_holds.tw3707715988154104229 : True := trivial
theorem law_holds.tw521618093562937032 : True := trivial
theorem law_holds.tw9782971633488464159 : True := trivial
theorem law_holds.tw11779019793772500504 : True := trivial
theorem law_holds.tw11956893519032503956 : True := trivial
theorem law_holds.tw74008026257707556 : True := trivial
theorem law_holds.tw12115171985352901274 : True := trivial
theorem law_holds.tw6156424641528512876 : True := trivial
theorem law_holds.tw11047685208138227551 : True := trivial
theorem law_holds.tw1021771657429519781 : True := trivial
theorem law_holds.tw2053967980211584130 : True := trivial
theorem law_holds.tw4926307855859175397 : True := trivial
theorem law_holds.tw13253626941996190775 : True := trivial
theorem law_holds.tw9669672807639750606 : True := trivial
theorem law_holds.tw13024233884710821808 : True := trivial
theorem law_holds.tw7511139251322460048 : True := trivial
theorem law_holds.tw1898673134495410930 : True := trivial
theorem law_holds.tw17713402740875732926 : True := trivial
theorem law_holds.tw7761691375167764622 : True := trivial
theorem law_holds.tw13405347812287781512 : True := trivial
theorem law_holds.tw16113039383946167999 : True := trivial
theorem law_holds.tw16060522237011120904 : True := trivial
theorem law_holds.tw14559193561218252903 : True := trivial
theorem law_holds.tw3313065913633700124 : True := trivial
theorem law_holds.tw6127397645498528670 : True := trivial
theorem law_holds.tw13815461657215205959 : True := trivial
theorem law_holds.tw17648194123239954510 : True := trivial
theorem law_holds.tw1083727906915337341 : True := trivial
theorem law_holds.tw724200737284857819 : True := trivial
theorem law_holds.tw15198507701814350386 : True := trivial
theorem law_holds.tw17702717118452817820 : True := trivial
theorem law_holds.tw416829872822806524 : True := trivial
theorem law_holds.tw2340080995546993249 : True := trivial
theorem law_holds.tw10585544012083477974 : True := trivial
theorem law_holds.tw7748021459863145133 : True := trivial
theorem law_holds.tw2564268380859428801 : True := trivial
theorem law_holds.tw6649348088445503080 : True := trivial
theorem law_holds.tw8083882435365906211 : True := trivial
theorem law_holds.tw10072288433597638986 : True := trivial
theorem law_holds.tw7221428835167493151 : True := trivial
theorem law_holds.tw8858119530156839631 : True := trivial
theorem law_holds.tw15973758155804705043 : True := trivial
theorem law_holds.tw8505831140886102350 : True := trivial
theorem law_holds.tw13334914271144262431 : True := trivial
theorem law_holds.tw13791147489807684654 : True := trivial
theorem law_holds.tw3860281307899837418 : True := trivial
theorem law_holds.tw12707488347032175617 : True := trivial
theorem law_holds.tw6742561413780372231 : True := trivial
theorem law_holds.tw6485157915934633976 : True := trivial
theorem law_holds.tw95925638660483881 : True := trivial
theorem law_holds.tw11755603022844944925 : True := trivial
theorem law_holds.tw13037468584768466635 : True := trivial
theorem law_holds.tw9634777828066323256 : True := trivial
theorem law_holds.tw660876830718362288 : True := trivial
theorem law_holds.tw8099904116099004137 : True := trivial
theorem law_holds.tw13003355079707919389 : True := trivial
theorem law_holds.tw17903290773200042623 : True := trivial
theorem law_holds.tw6368222172908013342 : True := trivial
theorem law_holds.tw15825954081357454955 : True := trivial
theorem law_holds.tw9731194254967571310 : True := trivial
theorem law_holds.tw15305978602068356694 : True := trivial
theorem law_holds.tw8187936588198008344 : True := trivial
theorem law_holds.tw10726727282670432768 : True := trivial
theorem law_holds.tw1369749317851641660 : True := trivial
theorem law_holds.tw5471263015024950418 : True := trivial
theorem law_holds.tw2353898745366128913 : True := trivial
theorem law_holds.tw12246973334233011070 : True := trivial
theorem law_holds.tw7408322871517469003 : True := trivial
theorem law_holds.tw2785223865569585226 : True := trivial
theorem law_holds.tw3707998875871990840 : True := trivial
theorem law_holds.tw471691501087554491 : True := trivial
theorem law_holds.tw14741324775375369589 : True := trivial
theorem law_holds.tw17910646669766240164 : True := trivial
theorem law_holds.tw14052961738847306570 : True := trivial
theorem law_holds.tw7143754711056708316 : True := trivial
theorem law_holds.tw11347954631545130290 : True := trivial
theorem law_holds.tw12980350795982273224 : True := trivial
theorem law_holds.tw3794388667547904515 : True := trivial
theorem law_holds.tw9770219792253218338 : True := trivial
theorem law_holds.tw14484030737994471886 : True := trivial
theorem law_holds.tw8401860817304669148 : True := trivial
theorem law_holds.tw18111123423493105736 : True := trivial
theorem law_holds.tw8432627066985610756 : True := trivial
theorem law_holds.tw13528501647155650410 : True := trivial
theorem law_holds.tw69833769963255967 : True := trivial
theorem law_holds.tw2928182479919356999 : True := trivial
theorem law_holds.tw11764581739189218997 : True := trivial
theorem law_holds.tw131357086916946640 : True := trivial
theorem law_holds.tw5385890167983211742 : True := trivial
theorem law_holds.tw265737237460583615 : True := trivial
theorem law_holds.tw12595757733621342550 : True := trivial
theorem law_holds.tw10323716446218800225 : True := trivial
theorem law_holds.tw16104154289035658226 : True := trivial
theorem law_holds.tw1803770708003208005 : True := trivial
theorem law_holds.tw12147325966686110327 : True := trivial
theorem law_holds.tw7204803676362476211 : True := trivial
theorem law_holds.tw10460793220074676658 : True := trivial
theorem law_holds.tw8984712037535005518 : True := trivial
theorem law_holds.tw6057113334529873379 : True := trivial
theorem law_holds.tw14986940661400309508 : True := trivial
theorem law_holds.tw10009549156579704288 : True := trivial
theorem law_holds.tw11201986876333184995 : True := trivial
theorem law_holds.tw13227533145525514938 : True := trivial
theorem law_holds.tw3989893010996989713 : True := trivial
theorem law_holds.tw4777767981643802736 : True := trivial
theorem law_holds.tw5753924415299393750 : True := trivial
theorem law_holds.tw9291465448432399564 : True := trivial
theorem law_holds.tw17776234225285570622 : True := trivial
theorem law_holds.tw2043166853727251185 : True := trivial
theorem law_holds.tw3441294181031003726 : True := trivial
theorem law_holds.tw10219052351128147325 : True := trivial
theorem law_holds.tw8295506355032047333 : True := trivial
theorem law_holds.tw4038704711768132658 : True := trivial
theorem law_holds.tw10405103093626408476 : True := trivial
theorem law_holds.tw1605662777757193095 : True := trivial
theorem law_holds.tw8872494088307768188 : True := trivial
theorem law_holds.tw8447111591413142418 : True := trivial
theorem law_holds.tw11179126903783522316 : True := trivial
theorem law_holds.tw16895252004520475267 : True := trivial
theorem law_holds.tw7185456241796803578 : True := trivial
theorem law_holds.tw15985639844270965063 : True := trivial
theorem law_holds.tw18254395454411644717 : True := trivial
theorem law_holds.tw15543422488883774174 : True := trivial
theorem law_holds.tw8825677053947959099 : True := trivial
theorem law_holds.tw3315642898252998016 : True := trivial
theorem law_holds.tw939789544308352329 : True := trivial
theorem law_holds.tw6254736894362409555 : True := trivial
theorem law_holds.tw17334856725959723724 : True := trivial
theorem law_holds.tw5633279544325282263 : True := trivial
theorem law_holds.tw13109879092706997587 : True := trivial
theorem law_holds.tw3776956092104397036 : True := trivial
theorem law_holds.tw14331520008513703237 : True := trivial
theorem law_holds.tw5188343433887887888 : True := trivial
theorem law_holds.tw9648503400671879409 : True := trivial
theorem law_holds.tw18313054686088952622 : True := trivial
theorem law_holds.tw2871364008783790576 : True := trivial
theorem law_holds.tw693293372831425869 : True := trivial
theorem law_holds.tw2002369845011919132 : True := trivial
theorem law_holds.tw7754230317916052659 : True := trivial
theorem law_holds.tw8377264794811688176 : True := trivial
theorem law_holds.tw5020664805780731950 : True := trivial
theorem law_holds.tw3035144380315620824 : True := trivial
theorem law_holds.tw246019281492129680 : True := trivial
theorem law_holds.tw12163923063683932303 : True := trivial
theorem law_holds.tw1317935238547563538 : True := trivial
theorem law_holds.tw6971163664164004865 : True := trivial
theorem law_holds.tw8970147916757833333 : True := trivial
theorem law_holds.tw9207643191828677137 : True := trivial
theorem law_holds.tw498061464947678834 : True := trivial
theorem law_holds.tw4287175125982129218 : True := trivial
theorem law_holds.tw3692965976522172469 : True := trivial
theorem law_holds.tw2897034200560062308 : True := trivial
theorem law_holds.tw10311235223148433555 : True := trivial
theorem law_holds.tw10179629685781626857 : True := trivial
theorem law_holds.tw3763229848946978566 : True := trivial
theorem law_holds.tw476746816491698631 : True := trivial
theorem law_holds.tw784011647948385275 : True := trivial
theorem law_holds.tw6991859651787742975 : True := trivial
theorem law_holds.tw8916135115820964548 : True := trivial
theorem law_holds.tw1074212747506456669 : True := trivial
theorem law_holds.tw3361303092190944451 : True := trivial
theorem law_holds.tw9306350457970066959 : True := trivial
theorem law_holds.tw17031892589824847239 : True := trivial
theorem law_holds.tw3253568177066640346 : True := trivial
theorem law_holds.tw2271277622628899897 : True := trivial
theorem law_holds.tw7546098664982757538 : True := trivial
theorem law_holds.tw897403712396507413 : True := trivial
theorem law_holds.tw4192584870193575311 : True := trivial
theorem law_holds.tw13663051387528795968 : True := trivial
theorem law_holds.tw10320256576048536287 : True := trivial
theorem law_holds.tw3588475368690217884 : True := trivial
theorem law_holds.tw11187323696070517052 : True := trivial
theorem law_holds.tw18254337876149969668 : True := trivial
theorem law_holds.tw3624585105083129037 : True := trivial
theorem law_holds.tw465778155523134757 : True := trivial
theorem law_holds.tw2981358437369204500 : True := trivial
theorem law_holds.tw15797154033454416878 : True := trivial
theorem law_holds.tw6131411735021997470 : True := trivial
theorem law_holds.tw1861640637056946757 : True := trivial
theorem law_holds.tw1514840783567845737 : True := trivial
theorem law_holds.tw18016632835344607894 : True := trivial
theorem law_holds.tw5506821171919863439 : True := trivial
theorem law_holds.tw1799985010008347273 : True := trivial
theorem law_holds.tw4847869748599069932 : True := trivial
theorem law_holds.tw15344568305301671732 : True := trivial
theorem law_holds.tw18042531781279621341 : True := trivial
theorem law_holds.tw15325848393653090309 : True := trivial
theorem law_holds.tw2289978600566156860 : True := trivial
theorem law_holds.tw6776455111828631412 : True := trivial
theorem law_holds.tw1318344884933261103 : True := trivial
theorem law_holds.tw12292296566931358977 : True := trivial
theorem law_holds.tw15236117334343867423 : True := trivial
theorem law_holds.tw835187532416916751 : True := trivial
theorem law_holds.tw16827908438139842105 : True := trivial
theorem law_holds.tw3099879526859125934 : True := trivial
theorem law_holds.tw2644812543463305238 : True := trivial
theorem law_holds.tw15403546387958509730 : True := trivial
theorem law_holds.tw14925382992726071281 : True := trivial
theorem law_holds.tw9494663832590456537 : True := trivial
theorem law_holds.tw18253983147426064995 : True := trivial
theorem law_holds.tw13232312132910849962 : True := trivial
theorem law_holds.tw16384666884567717180 : True := trivial
theorem law_holds.tw4464252984393422682 : True := trivial
theorem law_holds.tw9473953674100734253 : True := trivial
theorem law_holds.tw13860468906599667430 : True := trivial
theorem law_holds.tw13387019031968454983 : True := trivial
theorem law_holds.tw129971469095190092 : True := trivial
theorem law_holds.tw6831172337001670884 : True := trivial
theorem law_holds.tw18394933952373947069 : True := trivial
theorem law_holds.tw9552830710289189752 : True := trivial
theorem law_holds.tw10886391378514542500 : True := trivial
theorem law_holds.tw11571458074648584396 : True := trivial
theorem law_holds.tw5700548256593830582 : True := trivial
theorem law_holds.tw11013469107912001948 : True := trivial
theorem law_holds.tw15948226213815290510 : True := trivial
theorem law_holds.tw9431515893933034641 : True := trivial
theorem law_holds.tw2503670479209048990 : True := trivial
theorem law_holds.tw13025991283127020399 : True := trivial
theorem law_holds.tw9799618781358891383 : True := trivial
theorem law_holds.tw11338645046769961968 : True := trivial
theorem law_holds.tw8245722687374795370 : True := trivial
theorem law_holds.tw8227121040935265200 : True := trivial
theorem law_holds.tw6860709855171689206 : True := trivial
theorem law_holds.tw135376982182812190 : True := trivial
theorem law_holds.tw3282303694031485612 : True := trivial
theorem law_holds.tw16590925698619810712 : True := trivial
theorem law_holds.tw9402628398232685979 : True := trivial
theorem law_holds.tw16591509995828177608 : True := trivial
theorem law_holds.tw446147798399107303 : True := trivial
theorem law_holds.tw1916294596573696209 : True := trivial
theorem law_holds.tw7213053830331083432 : True := trivial
theorem law_holds.tw14774650325386425613 : True := trivial
theorem law_holds.tw11922287391821623965 : True := trivial
theorem law_holds.tw3656870457663478016 : True := trivial
theorem law_holds.tw6083682147560416338 : True := trivial
theorem law_holds.tw9682718004065560343 : True := trivial
theorem law_holds.tw15918243181743599057 : True := trivial
theorem law_holds.tw11100686419730198450 : True := trivial
theorem law_holds.tw10666784280354678857 : True := trivial
theorem law_holds.tw10371022188087798493 : True := trivial
theorem law_holds.tw1414043511812021011 : True := trivial
theorem law_holds.tw653560878884961445 : True := trivial
theorem law_holds.tw2102315897755806987 : True := trivial
theorem law_holds.tw12459966957829302596 : True := trivial
theorem law_holds.tw14385925486924208373 : True := trivial
theorem law_holds.tw11846676642670509255 : True := trivial
theorem law_holds.tw18090433342136740992 : True := trivial
theorem law_holds.tw16098122237329998606 : True := trivial
theorem law_holds.tw17911580528928914924 : True := trivial
theorem law_holds.tw15448297888555860652 : True := trivial
theorem law_holds.tw14390095281932903014 : True := trivial
theorem law_holds.tw18203989763732354715 : True := trivial
theorem law_holds.tw3158129796062787159 : True := trivial
theorem law_holds.tw9255152265573255198 : True := trivial
theorem law_holds.tw14497384708736915567 : True := trivial
theorem law_holds.tw2136269947727277649 : True := trivial
theorem law_holds.tw6934448944433832347 : True := trivial
theorem law_holds.tw123295346585929383 : True := trivial
theorem law_holds.tw3366817510852727610 : True := trivial
theorem law_holds.tw10028117763298573888 : True := trivial
theorem law_holds.tw6896717019858035522 : True := trivial
theorem law_holds.tw14160533322030094474 : True := trivial
theorem law_holds.tw18269650602155537469 : True := trivial
theorem law_holds.tw10958410103948607464 : True := trivial
theorem law_holds.tw6499956759230125245 : True := trivial
theorem law_holds.tw8266603773606604290 : True := trivial
theorem law_holds.tw13397297893571687751 : True := trivial
theorem law_holds.tw5112083995522966620 : True := trivial
theorem law_holds.tw13780023080261437657 : True := trivial
theorem law_holds.tw16883458599210261866 : True := trivial
theorem law_holds.tw1905533677188600702 : True := trivial
theorem law_holds.tw1670043908289496885 : True := trivial
theorem law_holds.tw15802469936163623734 : True := trivial
theorem law_holds.tw16470317323979864763 : True := trivial
theorem law_holds.tw11609493526922420660 : True := trivial
theorem law_holds.tw519298541982818421 : True := trivial
theorem law_holds.tw14983226153234331074 : True := trivial
theorem law_holds.tw10486713781251687710 : True := trivial
theorem law_holds.tw12342728606916771844 : True := trivial
theorem law_holds.tw13392613628428298086 : True := trivial
theorem law_holds.tw4889031023730116350 : True := trivial
theorem law_holds.tw3956099054510807996 : True := trivial
theorem law_holds.tw576407869801174206 : True := trivial
theorem law_holds.tw3850375180904979519 : True := trivial
theorem law_holds.tw9606376775287448836 : True := trivial
theorem law_holds.tw9849722394096787677 : True := trivial
theorem law_holds.tw1689763614830377041 : True := trivial
theorem law_holds.tw575232530192455986 : True := trivial
theorem law_holds.tw15014403891855920072 : True := trivial
theorem law_holds.tw2643271747718453845 : True := trivial
theorem law_holds.tw12223724995276690173 : True := trivial
theorem law_holds.tw11484002064277903863 : True := trivial
theorem law_holds.tw6159533029260741167 : True := trivial
theorem law_holds.tw13182730311906835528 : True := trivial
theorem law_holds.tw7910590604623066228 : True := trivial
theorem law_holds.tw12889673554181485818 : True := trivial
theorem law_holds.tw7820799176418779761 : True := trivial
theorem law_holds.tw9779807473162285230 : True := trivial
theorem law_holds.tw3910120701321347557 : True := trivial
theorem law_holds.tw17255088995462705879 : True := trivial
theorem law_holds.tw8441880690091102137 : True := trivial
theorem law_holds.tw7019463264422422977 : True := trivial
theorem law_holds.tw3186734533307500241 : True := trivial
theorem law_holds.tw1385162719727133579 : True := trivial
theorem law_holds.tw8634839017697508684 : True := trivial
theorem law_holds.tw2075624079617657780 : True := trivial
theorem law_holds.tw11098625913536864229 : True := trivial
theorem law_holds.tw9168033884955339765 : True := trivial
theorem law_holds.tw11633083819707477107 : True := trivial
theorem law_holds.tw12134408205421670959 : True := trivial
theorem law_holds.tw10024239376800412576 : True := trivial
theorem law_holds.tw2907507879108658156 : True := trivial
theorem law_holds.tw11097350217990362986 : True := trivial
theorem law_holds.tw2578278018795888234 : True := trivial
theorem law_holds.tw14545874151571354728 : True := trivial
theorem law_holds.tw11781800970755023335 : True := trivial
theorem law_holds.tw6765152471904792315 : True := trivial
theorem law_holds.tw16406091861079842607 : True := trivial
theorem law_holds.tw14326059299131336239 : True := trivial
theorem law_holds.tw8785698371604719795 : True := trivial
theorem law_holds.tw8191475993861738794 : True := trivial
theorem law_holds.tw11966672015165255308 : True := trivial
theorem law_holds.tw676263390381983339 : True := trivial
theorem law_holds.tw1989176631692091739 : True := trivial
theorem law_holds.tw8249079356659094474 : True := trivial
theorem law_holds.tw3882201998751590657 : True := trivial
theorem law_holds.tw4614512636035447770 : True := trivial
theorem law_holds.tw13800757232730249582 : True := trivial
theorem law_holds.tw10264638600885302300 : True := trivial
theorem law_holds.tw3912811242725288453 : True := trivial
theorem law_holds.tw3756308257209627903 : True := trivial
theorem law_holds.tw4593294709026258786 : True := trivial
theorem law_holds.tw2269544990204364226 : True := trivial
theorem law_holds.tw8909828626151137519 : True := trivial
theorem law_holds.tw3850404396616230974 : True := trivial
theorem law_holds.tw15006436103509636135 : True := trivial
theorem law_holds.tw3943428198234077543 : True := trivial
theorem law_holds.tw14883556706271630602 : True := trivial
theorem law_holds.tw5731563423909890137 : True := trivial
theorem law_holds.tw8666519363043736892 : True := trivial
theorem law_holds.tw907578622648922086 : True := trivial
theorem law_holds.tw7636989558263936852 : True := trivial
theorem law_holds.tw6869992995446874880 : True := trivial
theorem law_holds.tw12835091436910803158 : True := trivial
theorem law_holds.tw8553002610548859549 : True := trivial
theorem law_holds.tw13402424001964919149 : True := trivial
theorem law_holds.tw17942709131360195518 : True := trivial
theorem law_holds.tw3850334171643177529 : True := trivial
theorem law_holds.tw11182679623053108816 : True := trivial
theorem law_holds.tw12626328134170644701 : True := trivial
theorem law_holds.tw7356724547972884604 : True := trivial
theorem law_holds.tw6564709946809587534 : True := trivial
theorem law_holds.tw13028658284911697911 : True := trivial
theorem law_holds.tw1622690429015379626 : True := trivial
theorem law_holds.tw9288214680346807717 : True := trivial
theorem law_holds.tw8176227357466254829 : True := trivial
theorem law_holds.tw6317479115527610633 : True := trivial
theorem law_holds.tw15694993059591697976 : True := trivial
theorem law_holds.tw2295933128562542503 : True := trivial
theorem law_holds.tw9069877914133315304 : True := trivial
theorem law_holds.tw4439653461905209652 : True := trivial
theorem law_holds.tw7407239408455114201 : True := trivial
theorem law_holds.tw2856731137302751260 : True := trivial
theorem law_holds.tw18340598423539479173 : True := trivial
theorem law_holds.tw3742325753681652743 : True := trivial
theorem law_holds.tw8330938851228082562 : True := trivial
theorem law_holds.tw4515466672771955728 : True := trivial
theorem law_holds.tw4992725456586698614 : True := trivial
theorem law_holds.tw13220211186989608806 : True := trivial
theorem law_holds.tw1928719863018725356 : True := trivial
theorem law_holds.tw17253903310271361901 : True := trivial
theorem law_holds.tw14335913921861858828 : True := trivial
theorem law_holds.tw8857742495270377987 : True := trivial
theorem law_holds.tw699380112222796084 : True := trivial
theorem law_holds.tw1762888911704233025 : True := trivial
theorem law_holds.tw6667284449218939238 : True := trivial
theorem law_holds.tw9875236377963488844 : True := trivial
theorem law_holds.tw15472126771306010800 : True := trivial
theorem law_holds.tw2006301483956418059 : True := trivial
theorem law_holds.tw8854015012368427407 : True := trivial
theorem law_holds.tw14991590004735058009 : True := trivial
theorem law_holds.tw4030767218360268280 : True := trivial
theorem law_holds.tw14596297492920191028 : True := trivial
theorem law_holds.tw6723812968561706957 : True := trivial
theorem law_holds.tw8720880381367431298 : True := trivial
theorem law_holds.tw2558664710541493025 : True := trivial
theorem law_holds.tw15150646450996357022 : True := trivial
theorem law_holds.tw18261290160731607033 : True := trivial
theorem law_holds.tw11223184984439025696 : True := trivial
theorem law_holds.tw15154110283740273250 : True := trivial
theorem law_holds.tw2322801206320994539 : True := trivial
theorem law_holds.tw1186782194237197914 : True := trivial
theorem law_holds.tw4370086069003782432 : True := trivial
theorem law_holds.tw13478230802861573701 : True := trivial
theorem law_holds.tw10465528174321978529 : True := trivial
theorem law_holds.tw15617896438947887921 : True := trivial
theorem law_holds.tw17237755526102222789 : True := trivial
theorem law_holds.tw6709271908398517637 : True := trivial
theorem law_holds.tw4503035019201841076 : True := trivial
theorem law_holds.tw15527639110640922598 : True := trivial
theorem law_holds.tw17253691774821329096 : True := trivial
theorem law_holds.tw7696488724909661519 : True := trivial
theorem law_holds.tw17993387198741990920 : True := trivial
theorem law_holds.tw6911747868599837429 : True := trivial
theorem law_holds.tw13882729330811710610 : True := trivial
theorem law_holds.tw4329158554759489670 : True := trivial
theorem law_holds.tw1341266762083198811 : True := trivial
theorem law_holds.tw11803358882649189518 : True := trivial
theorem law_holds.tw15609566024721092083 : True := trivial
theorem law_holds.tw6861490101519172755 : True := trivial
theorem law_holds.tw8369274380968253667 : True := trivial
theorem law_holds.tw9843604407834444796 : True := trivial
theorem law_holds.tw8549365171731915398 : True := trivial
theorem law_holds.tw445335354869643106 : True := trivial
theorem law_holds.tw10609929442622069884 : True := trivial
theorem law_holds.tw2152083551845799040 : True := trivial
theorem law_holds.tw11677100312832694166 : True := trivial
theorem law_holds.tw2055734563569237896 : True := trivial
theorem law_holds.tw14904137174637212347 : True := trivial
theorem law_holds.tw3253820488102484341 : True := trivial
theorem law_holds.tw11924911360389889469 : True := trivial
theorem law_holds.tw11126432536435168541 : True := trivial
theorem law_holds.tw16106779387088534511 : True := trivial
theorem law_holds.tw3682559726232862161 : True := trivial
theorem law_holds.tw15162217921772873613 : True := trivial
theorem law_holds.tw13650905803964671038 : True := trivial
theorem law_holds.tw1767730674963353768 : True := trivial
theorem law_holds.tw11690447701083486646 : True := trivial
theorem law_holds.tw6727219029552735585 : True := trivial
theorem law_holds.tw8514742172934523775 : True := trivial
theorem law_holds.tw11289095316329951393 : True := trivial
theorem law_holds.tw17974257514489008736 : True := trivial
theorem law_holds.tw5769158387606399586 : True := trivial
theorem law_holds.tw2842810181116790245 : True := trivial
theorem law_holds.tw5274592661964301406 : True := trivial
theorem law_holds.tw1819975233463548508 : True := trivial
theorem law_holds.tw455179833554555240 : True := trivial
theorem law_holds.tw14051398506283589457 : True := trivial
theorem law_holds.tw10296202853966499060 : True := trivial
theorem law_holds.tw11470271118054631628 : True := trivial
theorem law_holds.tw2124134355350193313 : True := trivial
theorem law_holds.tw11544315989524547432 : True := trivial
theorem law_holds.tw16563099163409725306 : True := trivial
theorem law_holds.tw8763168800255643514 : True := trivial
theorem law_holds.tw1035469204868569938 : True := trivial
theorem law_holds.tw12296726922439171297 : True := trivial
theorem law_holds.tw15732109348078318572 : True := trivial
theorem law_holds.tw15883345262158282383 : True := trivial
theorem law_holds.tw11097158420108258118 : True := trivial
theorem law_holds.tw745255978533919091 : True := trivial
theorem law_holds.tw10876394233666535175 : True := trivial
theorem law_holds.tw16760957895259694429 : True := trivial
theorem law_holds.tw16381176275627223697 : True := trivial
theorem law_holds.tw8472228645029834797 : True := trivial
theorem law_holds.tw16947615914383616782 : True := trivial
theorem law_holds.tw5920216800500632969 : True := trivial
theorem law_holds.tw12977093529070104392 : True := trivial
theorem law_holds.tw4524032621918665186 : True := trivial
theorem law_holds.tw6265907326580845545 : True := trivial
theorem law_holds.tw14872900085578418628 : True := trivial
theorem law_holds.tw15829985883664642994 : True := trivial
theorem law_holds.tw3756957479349018193 : True := trivial
theorem law_holds.tw13250372474279835810 : True := trivial
theorem law_holds.tw16978406815995349258 : True := trivial
theorem law_holds.tw12419048959643632839 : True := trivial
theorem law_holds.tw7495221243884187115 : True := trivial
theorem law_holds.tw12456547296908542839 : True := trivial
theorem law_holds.tw18006792725990754497 : True := trivial
theorem law_holds.tw8417186165934385351 : True := trivial
theorem law_holds.tw5455921660152230842 : True := trivial
theorem law_holds.tw11426015686315989412 : True := trivial
theorem law_holds.tw2090888555730037645 : True := trivial
theorem law_holds.tw11017292853192552079 : True := trivial
theorem law_holds.tw9634471323475708679 : True := trivial
theorem law_holds.tw13958071646730322851 : True := trivial
theorem law_holds.tw16009327648451700120 : True := trivial
theorem law_holds.tw607667584577438428 : True := trivial
theorem law_holds.tw2139172203440323022 : True := trivial
theorem law_holds.tw3049941959672503198 : True := trivial
theorem law_holds.tw8570087061310353148 : True := trivial
theorem law_holds.tw7472407996622490835 : True := trivial
theorem law_holds.tw10968802771074238664 : True := trivial
theorem law_holds.tw3974387499553966400 : True := trivial
theorem law_holds.tw10442559174759676424 : True := trivial
theorem law_holds.tw3005452535816212104 : True := trivial
theorem law_holds.tw10812634152524527747 : True := trivial
theorem law_holds.tw1973129929022764952 : True := trivial
theorem law_holds.tw5364902710198789758 : True := trivial
theorem law_holds.tw14377833709258309704 : True := trivial
theorem law_holds.tw17899081815984039989 : True := trivial
theorem law_holds.tw18388893480867403737 : True := trivial
theorem law_holds.tw6881874429007886204 : True := trivial
theorem law_holds.tw18430954121086234272 : True := trivial
theorem law_holds.tw12622292602297523153 : True := trivial
theorem law_holds.tw17028624522117568015 : True := trivial
theorem law_holds.tw3494445600050047599 : True := trivial
theorem law_holds.tw4995542688137877417 : True := trivial
theorem law_holds.tw6927793712695671261 : True := trivial
theorem law_holds.tw4146061822495498468 : True := trivial
theorem law_holds.tw1791086108937442324 : True := trivial
theorem law_holds.tw2887050238494874643 : True := trivial
theorem law_holds.tw7769649832755249146 : True := trivial
theorem law_holds.tw1909877003179415225 : True := trivial
theorem law_holds.tw9889521400790421688 : True := trivial
theorem law_holds.tw17865009358878524859 : True := trivial
theorem law_holds.tw11881114122080957857 : True := trivial
theorem law_holds.tw18221428039690301666 : True := trivial
theorem law_holds.tw2446358144275080391 : True := trivial
theorem law_holds.tw4072507727158212662 : True := trivial
theorem law_holds.tw14892801356780361778 : True := trivial
theorem law_holds.tw1685627985566243432 : True := trivial
theorem law_holds.tw850272041215511910 : True := trivial
theorem law_holds.tw10362271348294423435 : True := trivial
theorem law_holds.tw13190408463805328480 : True := trivial
theorem law_holds.tw18135211599370774712 : True := trivial
theorem law_holds.tw7311554392007033315 : True := trivial
theorem law_holds.tw3033269912633744064 : True := trivial
theorem law_holds.tw17274716441693411508 : True := trivial
theorem law_holds.tw2618386414584295968 : True := trivial
theorem law_holds.tw5117662029339320154 : True := trivial
theorem law_holds.tw7566432030715092817 : True := trivial
theorem law_holds.tw5858263632927829637 : True := trivial
theorem law_holds.tw6333624483447246961 : True := trivial
theorem law_holds.tw15293083901398250104 : True := trivial
theorem law_holds.tw10108825076125807744 : True := trivial
theorem law_holds.tw1496123403401453975 : True := trivial
theorem law_holds.tw1778412455037948541 : True := trivial
theorem law_holds.tw3896150654470677357 : True := trivial
theorem law_holds.tw5451054884063135654 : True := trivial
theorem law_holds.tw16720094985154256693 : True := trivial
theorem law_holds.tw15333956030411951890 : True := trivial
theorem law_holds.tw6719018230134327050 : True := trivial
theorem law_holds.tw8040771413219435098 : True := trivial
theorem law_holds.tw1096898596823417342 : True := trivial
theorem law_holds.tw3595789414353437717 : True := trivial
theorem law_holds.tw981846192996546977 : True := trivial
theorem law_holds.tw14354538779393863138 : True := trivial
theorem law_holds.tw2078624436916829710 : True := trivial
theorem law_holds.tw10983241140555628109 : True := trivial
theorem law_holds.tw3307954989432871184 : True := trivial
theorem law_holds.tw9992725586745946429 : True := trivial
theorem law_holds.tw17923851452625207687 : True := trivial
theorem law_holds.tw6677821561840896501 : True := trivial
theorem law_holds.tw3955097671198598788 : True := trivial
theorem law_holds.tw14789792462180790578 : True := trivial
theorem law_holds.tw15272395603832836080 : True := trivial
theorem law_holds.tw10516828495840041881 : True := trivial
theorem law_holds.tw1335265377702380343 : True := trivial
theorem law_holds.tw14746732674962391887 : True := trivial
theorem law_holds.tw12291295341487003417 : True := trivial
theorem law_holds.tw11946022803392826334 : True := trivial
theorem law_holds.tw302768837105346163 : True := trivial
theorem law_holds.tw12687621791434340054 : True := trivial
theorem law_holds.tw17598101756349436640 : True := trivial
theorem law_holds.tw3046938939346580660 : True := trivial
theorem law_holds.tw16873799427995575018 : True := trivial
theorem law_holds.tw7604666192120794032 : True := trivial
theorem law_holds.tw41732636909640268 : True := trivial
theorem law_holds.tw11463670642173560981 : True := trivial
theorem law_holds.tw881140697980615281 : True := trivial
theorem law_holds.tw2557128651999224082 : True := trivial
theorem law_holds.tw11977050620070087417 : True := trivial
theorem law_holds.tw11026575858783421537 : True := trivial
theorem law_holds.tw7089819591129360890 : True := trivial
theorem law_holds.tw2602977815382960713 : True := trivial
theorem law_holds.tw6260460797876433568 : True := trivial
theorem law_holds.tw5907203647135998699 : True := trivial
theorem law_holds.tw8312341600987523519 : True := trivial
theorem law_holds.tw3979707639553702691 : True := trivial
theorem law_holds.tw660297872995803996 : True := trivial
theorem law_holds.tw1053317679998426468 : True := trivial
theorem law_holds.tw8790382262760724670 : True := trivial
theorem law_holds.tw3390839446522356110 : True := trivial
theorem law_holds.tw16887194039231368127 : True := trivial
theorem law_holds.tw6674817763981286723 : True := trivial
theorem law_holds.tw1550374771381668074 : True := trivial
theorem law_holds.tw5914491427308094424 : True := trivial
theorem law_holds.tw10350734228115807855 : True := trivial
theorem law_holds.tw9317688335297629284 : True := trivial
theorem law_holds.tw10726639523019406850 : True := trivial
theorem law_holds.tw1258919526383655059 : True := trivial
theorem law_holds.tw10093380194815717143 : True := trivial
theorem law_holds.tw8386679336120195906 : True := trivial
theorem law_holds.tw10441050188594101415 : True := trivial
theorem law_holds.tw17295586203589526084 : True := trivial
theorem law_holds.tw2695550118857162214 : True := trivial
theorem law_holds.tw3927331946688356228 : True := trivial
theorem law_holds.tw5950301352895977177 : True := trivial
theorem law_holds.tw12149405283708829123 : True := trivial
theorem law_holds.tw18051328159682125866 : True := trivial
theorem law_holds.tw7408472829698581751 : True := trivial
theorem law_holds.tw15140378357190847165 : True := trivial
theorem law_holds.tw1099259369241382048 : True := trivial
theorem law_holds.tw440325148559900515 : True := trivial
theorem law_holds.tw1172607208729018732 : True := trivial
theorem law_holds.tw16190678330180157336 : True := trivial
theorem law_holds.tw13281950902743806629 : True := trivial
theorem law_holds.tw5898729028444588960 : True := trivial
theorem law_holds.tw8984152853971343422 : True := trivial
theorem law_holds.tw3959601488294255719 : True := trivial
theorem law_holds.tw10027879121665395642 : True := trivial
theorem law_holds.tw59864651932915081 : True := trivial
theorem law_holds.tw16462895619179043833 : True := trivial
theorem law_holds.tw7404543985812422374 : True := trivial
theorem law_holds.tw13956741780833797525 : True := trivial
theorem law_holds.tw2903333896348957400 : True := trivial
theorem law_holds.tw14646867148444618371 : True := trivial
theorem law_holds.tw2175471002772951711 : True := trivial
theorem law_holds.tw17470365217354309832 : True := trivial
theorem law_holds.tw13190703287169160282 : True := trivial
theorem law_holds.tw17345407343664743607 : True := trivial
theorem law_holds.tw16935243356766158856 : True := trivial
theorem law_holds.tw10301956948240465243 : True := trivial
theorem law_holds.tw13983371404066579822 : True := trivial
theorem law_holds.tw4008084134468147086 : True := trivial
theorem law_holds.tw15352839923633478061 : True := trivial
theorem law_holds.tw5981114437932730796 : True := trivial
theorem law_holds.tw3136910860242942599 : True := trivial
theorem law_holds.tw5989267464594152519 : True := trivial
theorem law_holds.tw8481075993509181622 : True := trivial
theorem law_holds.tw12847567107135931479 : True := trivial
theorem law_holds.tw15726739188670627701 : True := trivial
theorem law_holds.tw8890443458166856008 : True := trivial
theorem law_holds.tw5037970770195530229 : True := trivial
theorem law_holds.tw5045712524691215523 : True := trivial
theorem law_holds.tw12645607732203181651 : True := trivial
theorem law_holds.tw16273140198857503625 : True := trivial
theorem law_holds.tw11795792742502079742 : True := trivial
theorem law_holds.tw228058311090241170 : True := trivial
theorem law_holds.tw4643041051132140158 : True := trivial
theorem law_holds.tw12684681026606017882 : True := trivial
theorem law_holds.tw16074064945343616743 : True := trivial
theorem law_holds.tw3808703085821546077 : True := trivial
theorem law_holds.tw11330957891505755796 : True := trivial
theorem law_holds.tw6553333263825352884 : True := trivial
theorem law_holds.tw908389787484368193 : True := trivial
theorem law_holds.tw8806649888931605024 : True := trivial
theorem law_holds.tw631266038723830076 : True := trivial
theorem law_holds.tw10222300733896627045 : True := trivial
theorem law_holds.tw3329330481660614911 : True := trivial
theorem law_holds.tw8715444014776630742 : True := trivial
theorem law_holds.tw12481875629721207810 : True := trivial
theorem law_holds.tw16332274672890094952 : True := trivial
theorem law_holds.tw12394330538082041428 : True := trivial
theorem law_holds.tw3028213030429885723 : True := trivial
theorem law_holds.tw8860054118572591635 : True := trivial
theorem law_holds.tw1710076424337546998 : True := trivial
theorem law_holds.tw6189876280036216102 : True := trivial
theorem law_holds.tw6507877686720480950 : True := trivial
theorem law_holds.tw13429453918920967058 : True := trivial
theorem law_holds.tw18155623678392573649 : True := trivial
theorem law_holds.tw160851071654074740 : True := trivial
theorem law_holds.tw1031057903888850656 : True := trivial
theorem law_holds.tw13336368349410954346 : True := trivial
theorem law_holds.tw13087128984098923117 : True := trivial
theorem law_holds.tw9887912731928775018 : True := trivial
theorem law_holds.tw6746360682218282392 : True := trivial
theorem law_holds.tw11586273756423631628 : True := trivial
theorem law_holds.tw8804120190785687885 : True := trivial
theorem law_holds.tw18234560199702728603 : True := trivial
theorem law_holds.tw194939583717160490 : True := trivial
theorem law_holds.tw3572487005457819259 : True := trivial
theorem law_holds.tw11067727234611919522 : True := trivial
theorem law_holds.tw13342137609418717338 : True := trivial
theorem law_holds.tw4741859662064258567 : True := trivial
theorem law_holds.tw17169043682955552997 : True := trivial
theorem law_holds.tw808278469055374699 : True := trivial
theorem law_holds.tw17183477848116922584 : True := trivial
theorem law_holds.tw16963379459963715452 : True := trivial
theorem law_holds.tw3110860835449505704 : True := trivial
theorem law_holds.tw4916342969005030805 : True := trivial
theorem law_holds.tw10767655046202684341 : True := trivial
theorem law_holds.tw15031514592837009168 : True := trivial
theorem law_holds.tw11315637435222106236 : True := trivial
theorem law_holds.tw10189704592693192966 : True := trivial
theorem law_holds.tw12874571214893485439 : True := trivial
theorem law_holds.tw3258674603298201628 : True := trivial
theorem law_holds.tw13092103797297032270 : True := trivial
theorem law_holds.tw7480714314260584917 : True := trivial
theorem law_holds.tw11956458263131016624 : True := trivial
theorem law_holds.tw9758593294864014727 : True := trivial
theorem law_holds.tw14289194402921355359 : True := trivial
theorem law_holds.tw12663309570017281627 : True := trivial
theorem law_holds.tw10954758410522031216 : True := trivial
theorem law_holds.tw18221580467831097590 : True := trivial
theorem law_holds.tw11297062200503488469 : True := trivial
theorem law_holds.tw6041440012092600215 : True := trivial
theorem law_holds.tw17830944117370523080 : True := trivial
theorem law_holds.tw9403268196540146800 : True := trivial
theorem law_holds.tw17137235678499792623 : True := trivial
theorem law_holds.tw2142710703020379005 : True := trivial
theorem law_holds.tw10242277825702978295 : True := trivial
theorem law_holds.tw1376783240425437725 : True := trivial
theorem law_holds.tw2667362832866536986 : True := trivial
theorem law_holds.tw17264387287909652857 : True := trivial
theorem law_holds.tw15522444059895599089 : True := trivial
theorem law_holds.tw16691439815215545270 : True := trivial
theorem law_holds.tw5640673133297012132 : True := trivial
theorem law_holds.tw9187647767651647856 : True := trivial
theorem law_holds.tw14064573792008682920 : True := trivial
theorem law_holds.tw2127001594154878533 : True := trivial
theorem law_holds.tw11714151634956498000 : True := trivial
theorem law_holds.tw13482675847692870326 : True := trivial
theorem law_holds.tw7484302960587174374 : True := trivial
theorem law_holds.tw14957179600199517237 : True := trivial
theorem law_holds.tw7544913113114293122 : True := trivial
theorem law_holds.tw2887994833065977647 : True := trivial
theorem law_holds.tw2788888992717563140 : True := trivial
theorem law_holds.tw12476058986133298565 : True := trivial
theorem law_holds.tw14281342344845405768 : True := trivial
theorem law_holds.tw16057390660189216267 : True := trivial
theorem law_holds.tw17309000430359075326 : True := trivial
theorem law_holds.tw8829074647290719032 : True := trivial
theorem law_holds.tw15644819842384902770 : True := trivial
theorem law_holds.tw15341342317828512493 : True := trivial
theorem law_holds.tw12108977868540685583 : True := trivial
theorem law_holds.tw15123554796541802991 : True := trivial
theorem law_holds.tw8591876402714022951 : True := trivial
theorem law_holds.tw15695062497276918967 : True := trivial
theorem law_holds.tw15806970514647361693 : True := trivial
theorem law_holds.tw3672438013989251361 : True := trivial
theorem law_holds.tw8061732933902216757 : True := trivial
theorem law_holds.tw11666318101497114028 : True := trivial
theorem law_holds.tw12949845418750544790 : True := trivial
theorem law_holds.tw972601921857779769 : True := trivial
theorem law_holds.tw15848713872586308078 : True := trivial
theorem law_holds.tw15567558954438479688 : True := trivial
theorem law_holds.tw13667737974841707781 : True := trivial
theorem law_holds.tw5087963091746180759 : True := trivial
theorem law_holds.tw17458534234597298029 : True := trivial
theorem law_holds.tw447027507633508388 : True := trivial
theorem law_holds.tw13642005409729077643 : True := trivial
theorem law_holds.tw17156363617357476176 : True := trivial
theorem law_holds.tw10458381655096516384 : True := trivial
theorem law_holds.tw4991859449750346478 : True := trivial
theorem law_holds.tw8572072892066365893 : True := trivial
theorem law_holds.tw12253411696296436870 : True := trivial
theorem law_holds.tw4492043994082249198 : True := trivial
theorem law_holds.tw293627430662643474 : True := trivial
theorem law_holds.tw2016121425191149895 : True := trivial
theorem law_holds.tw7767266014307106701 : True := trivial
theorem law_holds.tw16461882675039125421 : True := trivial
theorem law_holds.tw13294052699122959228 : True := trivial
theorem law_holds.tw16612359704951912572 : True := trivial
theorem law_holds.tw3674665740742831893 : True := trivial
theorem law_holds.tw1722738952054099684 : True := trivial
theorem law_holds.tw12001131798957381970 : True := trivial
theorem law_holds.tw13342518741750886279 : True := trivial
theorem law_holds.tw2303879751551577860 : True := trivial
theorem law_holds.tw17580165497215679439 : True := trivial
theorem law_holds.tw17942499455142895165 : True := trivial
theorem law_holds.tw17046799393618780204 : True := trivial
theorem law_holds.tw16893121556090616931 : True := trivial
theorem law_holds.tw11303081109005220762 : True := trivial
theorem law_holds.tw3012480247710183994 : True := trivial
theorem law_holds.tw7775064044895347852 : True := trivial
theorem law_holds.tw17758146289354676595 : True := trivial
theorem law_holds.tw10517181812226103804 : True := trivial
theorem law_holds.tw15514866124879379921 : True := trivial
theorem law_holds.tw9032369906271771983 : True := trivial
theorem law_holds.tw14390602165704524457 : True := trivial
theorem law_holds.tw6381524096760519305 : True := trivial
theorem law_holds.tw811035903429128223 : True := trivial
theorem law_holds.tw1377309892636839040 : True := trivial
theorem law_holds.tw2731376850318366449 : True := trivial
theorem law_holds.tw2782419253953178936 : True := trivial
theorem law_holds.tw6580623548314892615 : True := trivial
theorem law_holds.tw14489315793263303861 : True := trivial
theorem law_holds.tw687851300278632918 : True := trivial
theorem law_holds.tw18116031599527039140 : True := trivial
theorem law_holds.tw9871626496009991038 : True := trivial
theorem law_holds.tw5842969613912506279 : True := trivial
theorem law_holds.tw13454136545276886934 : True := trivial
theorem law_holds.tw11532970265236058100 : True := trivial
theorem law_holds.tw10007947361888340627 : True := trivial
theorem law_holds.tw1247253217256132012 : True := trivial
theorem law_holds.tw5542243279508502960 : True := trivial
theorem law_holds.tw3586223124089845285 : True := trivial
theorem law_holds.tw3127913417769977931 : True := trivial
theorem law_holds.tw7345768897557615242 : True := trivial
theorem law_holds.tw16771549258648962210 : True := trivial
theorem law_holds.tw10079444305495103266 : True := trivial
theorem law_holds.tw15796309260620551687 : True := trivial
theorem law_holds.tw17545576798567701639 : True := trivial
theorem law_holds.tw4963573110770748834 : True := trivial
theorem law_holds.tw1285599515219305098 : True := trivial
theorem law_holds.tw13840902789983287329 : True := trivial
theorem law_holds.tw17553930602362091883 : True := trivial
theorem law_holds.tw2096525686368166746 : True := trivial
theorem law_holds.tw12597187120891498251 : True := trivial
theorem law_holds.tw5994716906283268228 : True := trivial
theorem law_holds.tw7983211939772527470 : True := trivial
theorem law_holds.tw17249539165995611551 : True := trivial
theorem law_holds.tw18153520721480276881 : True := trivial
theorem law_holds.tw17419225075052043924 : True := trivial
theorem law_holds.tw16765433158599729185 : True := trivial
theorem law_holds.tw10841264019214440115 : True := trivial
theorem law_holds.tw8856317710758748564 : True := trivial
theorem law_holds.tw9432226000188453795 : True := trivial
theorem law_holds.tw11169275537108399364 : True := trivial
theorem law_holds.tw1588742098881680585 : True := trivial
theorem law_holds.tw12320438053989627958 : True := trivial
theorem law_holds.tw1681173693875575501 : True := trivial
theorem law_holds.tw7695934317539461687 : True := trivial
theorem law_holds.tw1242418559920758562 : True := trivial
theorem law_holds.tw9548147230944474901 : True := trivial
theorem law_holds.tw17792525830624384078 : True := trivial
theorem law_holds.tw5212653520564569363 : True := trivial
theorem law_holds.tw16098570224071239113 : True := trivial
theorem law_holds.tw2325693721150917532 : True := trivial
theorem law_holds.tw13800329570527188203 : True := trivial
theorem law_holds.tw6882020374766023752 : True := trivial
theorem law_holds.tw415365407113419659 : True := trivial
theorem law_holds.tw8210953160692291510 : True := trivial
theorem law_holds.tw10897144627088453450 : True := trivial
theorem law_holds.tw503957847093417577 : True := trivial
theorem law_holds.tw2851267720448770887 : True := trivial
theorem law_holds.tw13902218012105463410 : True := trivial
theorem law_holds.tw12732824653754844360 : True := trivial
theorem law_holds.tw7675160084493405025 : True := trivial
theorem law_holds.tw1997475870405608531 : True := trivial
theorem law_holds.tw16092355726972411579 : True := trivial
theorem law_holds.tw4568741812840581045 : True := trivial
theorem law_holds.tw2414074194907454277 : True := trivial
theorem law_holds.tw2865737869514987218 : True := trivial
theorem law_holds.tw9502071092897418529 : True := trivial
theorem law_holds.tw16606368319796509530 : True := trivial
theorem law_holds.tw8035577848987061507 : True := trivial
theorem law_holds.tw13055523775352357715 : True := trivial
theorem law_holds.tw4581845663705801772 : True := trivial
theorem law_holds.tw18026530572120702767 : True := trivial
theorem law_holds.tw4635674611617693574 : True := trivial
theorem law_holds.tw12503156628232749375 : True := trivial
theorem law_holds.tw5791418645094131800 : True := trivial
theorem law_holds.tw9758047768218912823 : True := trivial
theorem law_holds.tw12153922251378674784 : True := trivial
theorem law_holds.tw12668044768207566790 : True := trivial
theorem law_holds.tw8137031500313473552 : True := trivial
theorem law_holds.tw367903286550418209 : True := trivial
theorem law_holds.tw9975692261777386857 : True := trivial
theorem law_holds.tw15661869461025623997 : True := trivial
theorem law_holds.tw9009705080361974123 : True := trivial
theorem law_holds.tw9989359697036934923 : True := trivial
theorem law_holds.tw16245577235439221107 : True := trivial
theorem law_holds.tw6177970194926469781 : True := trivial
theorem law_holds.tw16165715940066559518 : True := trivial
theorem law_holds.tw1556451293825771818 : True := trivial
theorem law_holds.tw1929443778124869092 : True := trivial
theorem law_holds.tw15741379261994504178 : True := trivial
theorem law_holds.tw10283916278828761575 : True := trivial
theorem law_holds.tw2139843940965253949 : True := trivial
theorem law_holds.tw9529696498207198238 : True := trivial
theorem law_holds.tw10803361673654935901 : True := trivial
theorem law_holds.tw9212889513913684515 : True := trivial
theorem law_holds.tw13528896222378765290 : True := trivial
theorem law_holds.tw18197852217732850983 : True := trivial
theorem law_holds.tw9483915327669328748 : True := trivial
theorem law_holds.tw1382677567924326555 : True := trivial
theorem law_holds.tw2017991025062827469 : True := trivial
theorem law_holds.tw5277994541964179845 : True := trivial
theorem law_holds.tw15320506598460614908 : True := trivial
theorem law_holds.tw7479968899032947501 : True := trivial
theorem law_holds.tw12218498018843733332 : True := trivial
theorem law_holds.tw14252543395802736299 : True := trivial
theorem law_holds.tw2924946361707170262 : True := trivial
theorem law_holds.tw2414130084998747865 : True := trivial
theorem law_holds.tw9525127294725463027 : True := trivial
theorem law_holds.tw15202863084288179589 : True := trivial
theorem law_holds.tw4211113817173803656 : True := trivial
theorem law_holds.tw9220624806794609946 : True := trivial
theorem law_holds.tw15352218221683021774 : True := trivial
theorem law_holds.tw17389434848343332794 : True := trivial
theorem law_holds.tw4323815956820902445 : True := trivial
theorem law_holds.tw14351635765420936899 : True := trivial
theorem law_holds.tw3416923247095428876 : True := trivial
theorem law_holds.tw16184459414616452189 : True := trivial
theorem law_holds.tw15837452725152343555 : True := trivial
theorem law_holds.tw16641252976520058099 : True := trivial
theorem law_holds.tw14521376392698553312 : True := trivial
theorem law_holds.tw12731736397290755891 : True := trivial
theorem law_holds.tw8045378594462670225 : True := trivial
theorem law_holds.tw8982592368679156308 : True := trivial
theorem law_holds.tw2401843486660128364 : True := trivial
theorem law_holds.tw8285764192309689115 : True := trivial
theorem law_holds.tw17364227736987735495 : True := trivial
theorem law_holds.tw3882250662718909693 : True := trivial
theorem law_holds.tw8312275703017117140 : True := trivial
theorem law_holds.tw11918526154901971515 : True := trivial
theorem law_holds.tw8712014163911447464 : True := trivial
theorem law_holds.tw6345391036791879355 : True := trivial
theorem law_holds.tw15837584211629593338 : True := trivial
theorem law_holds.tw8413839820570837369 : True := trivial
theorem law_holds.tw13257055565626018733 : True := trivial
theorem law_holds.tw16708887144172644987 : True := trivial
theorem law_holds.tw7120836010843673076 : True := trivial
theorem law_holds.tw4517222822008671029 : True := trivial
theorem law_holds.tw4143738569270334224 : True := trivial
theorem law_holds.tw13848119269249539950 : True := trivial
theorem law_holds.tw11721147071786614939 : True := trivial
theorem law_holds.tw3816018429785431304 : True := trivial
theorem law_holds.tw16914220770136414715 : True := trivial
theorem law_holds.tw2395105632611409283 : True := trivial
theorem law_holds.tw5647190250986860303 : True := trivial
theorem law_holds.tw16335311869981183947 : True := trivial
theorem law_holds.tw11046636381182338224 : True := trivial
theorem law_holds.tw13431030151845061361 : True := trivial
theorem law_holds.tw1232645469590886286 : True := trivial
theorem law_holds.tw6346621912233149993 : True := trivial
theorem law_holds.tw17089861810051081540 : True := trivial
theorem law_holds.tw2376695672464595844 : True := trivial
theorem law_holds.tw2211468639325271704 : True := trivial
theorem law_holds.tw13097044212144736960 : True := trivial
theorem law_holds.tw2008241840959921210 : True := trivial
theorem law_holds.tw8922897050441119698 : True := trivial
theorem law_holds.tw5222685764011923507 : True := trivial
theorem law_holds.tw5044595872519035376 : True := trivial
theorem law_holds.tw4037582482628031876 : True := trivial
theorem law_holds.tw7743764779111840046 : True := trivial
theorem law_holds.tw8297313697389066934 : True := trivial
theorem law_holds.tw18165013545707147870 : True := trivial
theorem law_holds.tw11583271856484122956 : True := trivial
theorem law_holds.tw8283681822388582728 : True := trivial
theorem law_holds.tw2382714987290314120 : True := trivial
theorem law_holds.tw1995169965324791860 : True := trivial
theorem law_holds.tw462603977267732627 : True := trivial
theorem law_holds.tw12634321019024901981 : True := trivial
theorem law_holds.tw7052821283958023361 : True := trivial
theorem law_holds.tw16307713440670912930 : True := trivial
theorem law_holds.tw17371252989657294990 : True := trivial
theorem law_holds.tw312863333873483875 : True := trivial
theorem law_holds.tw14908662282237933112 : True := trivial
theorem law_holds.tw17607630403765710837 : True := trivial
theorem law_holds.tw6116483010803129801 : True := trivial
theorem law_holds.tw13388431603621797793 : True := trivial
theorem law_holds.tw863230966790177721 : True := trivial
theorem law_holds.tw12029126673135917974 : True := trivial
theorem law_holds.tw4886312948824227682 : True := trivial
theorem law_holds.tw16873695467490121585 : True := trivial
theorem law_holds.tw13590972695719381181 : True := trivial
theorem law_holds.tw17635003217326761883 : True := trivial
theorem law_holds.tw17562025525947693838 : True := trivial
theorem law_holds.tw733571504165245281 : True := trivial
theorem law_holds.tw3551631022101015893 : True := trivial
theorem law_holds.tw17305254018735503138 : True := trivial
theorem law_holds.tw17529362906406652863 : True := trivial
theorem law_holds.tw3692103080737180250 : True := trivial
theorem law_holds.tw16174998905534648557 : True := trivial
theorem law_holds.tw18312799740870528207 : True := trivial
theorem law_holds.tw2088057726675268939 : True := trivial
theorem law_holds.tw9897484093202304508 : True := trivial
theorem law_holds.tw14499810825090155391 : True := trivial
theorem law_holds.tw7014720503175028613 : True := trivial
theorem law_holds.tw11576900812866516365 : True := trivial
theorem law_holds.tw18340385619391811705 : True := trivial
theorem law_holds.tw4335992446042490282 : True := trivial
theorem law_holds.tw3809755536050820187 : True := trivial
theorem law_holds.tw7169296243666066974 : True := trivial
theorem law_holds.tw7917754353467396125 : True := trivial
theorem law_holds.tw7351129398174139865 : True := trivial
theorem law_holds.tw2470889107711209942 : True := trivial
theorem law_holds.tw15533563059666576871 : True := trivial
theorem law_holds.tw15483129889696659574 : True := trivial
theorem law_holds.tw15526298677375409021 : True := trivial
theorem law_holds.tw18088736630749135056 : True := trivial
theorem law_holds.tw9524400087533092186 : True := trivial
theorem law_holds.tw218528332313867021 : True := trivial
theorem law_holds.tw17027635718292003107 : True := trivial
theorem law_holds.tw17884844454425935293 : True := trivial
theorem law_holds.tw16827775902095551856 : True := trivial
theorem law_holds.tw13656764964264320472 : True := trivial
theorem law_holds.tw5488932636959071455 : True := trivial
theorem law_holds.tw7346270606818648071 : True := trivial
theorem law_holds.tw7556614973213307419 : True := trivial
theorem law_holds.tw13425932534011304816 : True := trivial
theorem law_holds.tw8939018918628865471 : True := trivial
theorem law_holds.tw15242022910975006910 : True := trivial
theorem law_holds.tw3612332870262773283 : True := trivial
theorem law_holds.tw4273555757443719353 : True := trivial
theorem law_holds.tw4360515638614775343 : True := trivial
theorem law_holds.tw3339164412607631549 : True := trivial
theorem law_holds.tw270554467692517631 : True := trivial
theorem law_holds.tw3663427449441712954 : True := trivial
theorem law_holds.tw12275847060699157868 : True := trivial
theorem law_holds.tw1303389685018741030 : True := trivial
theorem law_holds.tw6952626026076278478 : True := trivial
theorem law_holds.tw7631636504923648304 : True := trivial
theorem law_holds.tw16482278838752557086 : True := trivial
theorem law_holds.tw17775403365899300489 : True := trivial
theorem law_holds.tw14571795756577361901 : True := trivial
theorem law_holds.tw14358080080312658767 : True := trivial
theorem law_holds.tw17311987242748728955 : True := trivial
theorem law_holds.tw9746213474893016414 : True := trivial
theorem law_holds.tw14677013365202126530 : True := trivial
theorem law_holds.tw12256559969785099955 : True := trivial
theorem law_holds.tw1393039868726904873 : True := trivial
theorem law_holds.tw11803560295506267724 : True := trivial
theorem law_holds.tw16701994192336326122 : True := trivial
theorem law_holds.tw145366339536180231 : True := trivial
theorem law_holds.tw3920392572372402345 : True := trivial
theorem law_holds.tw7304591109411159013 : True := trivial
theorem law_holds.tw9432397437662838624 : True := trivial
theorem law_holds.tw10667895100797718341 : True := trivial
theorem law_holds.tw10679931392274172632 : True := trivial
theorem law_holds.tw16066104587097768911 : True := trivial
theorem law_holds.tw17294823503141414406 : True := trivial
theorem law_holds.tw4820369329881294799 : True := trivial
theorem law_holds.tw13677857801504540592 : True := trivial
theorem law_holds.tw9290190842861060508 : True := trivial
theorem law_holds.tw3426337659310251177 : True := trivial
theorem law_holds.tw9952934120092978494 : True := trivial
theorem law_holds.tw9184033795430018204 : True := trivial
theorem law_holds.tw14350573489546498162 : True := trivial
theorem law_holds.tw5926295103528105954 : True := trivial
theorem law_holds.tw12795448055554024986 : True := trivial
theorem law_holds.tw7283070072754485986 : True := trivial
theorem law_holds.tw4913491355128607118 : True := trivial
theorem law_holds.tw1737005901722704485 : True := trivial
theorem law_holds.tw6111484700653504198 : True := trivial
theorem law_holds.tw15359609613788013507 : True := trivial
theorem law_holds.tw11167238688639235718 : True := trivial
theorem law_holds.tw8170779377897787297 : True := trivial
theorem law_holds.tw2143268655074302082 : True := trivial
theorem law_holds.tw15720521576913467304 : True := trivial
theorem law_holds.tw17848598403364733487 : True := trivial
theorem law_holds.tw13921793114692110018 : True := trivial
theorem law_holds.tw2589748818833699389 : True := trivial
theorem law_holds.tw16898189318038581234 : True := trivial
theorem law_holds.tw2414361068126709639 : True := trivial
theorem law_holds.tw16192464803593610453 : True := trivial
theorem law_holds.tw3196237028118051783 : True := trivial
theorem law_holds.tw14997073306097389879 : True := trivial
theorem law_holds.tw17523808032732122987 : True := trivial
theorem law_holds.tw15884304794012968992 : True := trivial
theorem law_holds.tw15873654808861938513 : True := trivial
theorem law_holds.tw15088961453551581880 : True := trivial
theorem law_holds.tw12210932052861102225 : True := trivial
theorem law_holds.tw10725132931349513577 : True := trivial
theorem law_holds.tw1046446015878126456 : True := trivial
theorem law_holds.tw13287204720269558064 : True := trivial
theorem law_holds.tw2580079619333081803 : True := trivial
theorem law_holds.tw5725672013846136890 : True := trivial
theorem law_holds.tw8835965917227929528 : True := trivial
theorem law_holds.tw2112619612379961697 : True := trivial
theorem law_holds.tw17348551593414719351 : True := trivial
theorem law_holds.tw15646520184464998804 : True := trivial
theorem law_holds.tw11206171021150027133 : True := trivial
theorem law_holds.tw10929289806422889615 : True := trivial
theorem law_holds.tw10870653069706475693 : True := trivial
theorem law_holds.tw3545908947808057021 : True := trivial
theorem law_holds.tw13476665736869980405 : True := trivial
theorem law_holds.tw14875730727996063832 : True := trivial
theorem law_holds.tw6377815916425241027 : True := trivial
theorem law_holds.tw14498155544194170393 : True := trivial
theorem law_holds.tw8157880013524578536 : True := trivial
theorem law_holds.tw7510824731391710808 : True := trivial
theorem law_holds.tw3721179886434227535 : True := trivial
theorem law_holds.tw7703727192748681421 : True := trivial
theorem law_holds.tw11823568539219059922 : True := trivial
theorem law_holds.tw3487968232213910406 : True := trivial
theorem law_holds.tw4797790103318477656 : True := trivial
theorem law_holds.tw6347680836309536272 : True := trivial
theorem law_holds.tw7660400162925590741 : True := trivial
theorem law_holds.tw5781380259314154910 : True := trivial
theorem law_holds.tw2644310842459337959 : True := trivial
theorem law_holds.tw14506525250483169144 : True := trivial
theorem law_holds.tw7116731048869669803 : True := trivial
theorem law_holds.tw13959763950245974101 : True := trivial
theorem law_holds.tw11556845855556705167 : True := trivial
theorem law_holds.tw3783255490424437341 : True := trivial
theorem law_holds.tw12411438589965969376 : True := trivial
theorem law_holds.tw245764215241151709 : True := trivial
theorem law_holds.tw10709909458450059161 : True := trivial
theorem law_holds.tw18155977372800253590 : True := trivial
theorem law_holds.tw11283290899035178999 : True := trivial
theorem law_holds.tw179590077315354965 : True := trivial
theorem law_holds.tw4433843952089619705 : True := trivial
theorem law_holds.tw669063445224795674 : True := trivial
theorem law_holds.tw1755247457520882261 : True := trivial
theorem law_holds.tw841179935631392477 : True := trivial
theorem law_holds.tw3958906441317128266 : True := trivial
theorem law_holds.tw13068417504975948891 : True := trivial
theorem law_holds.tw12442163767917924457 : True := trivial
theorem law_holds.tw7313538909654459803 : True := trivial
theorem law_holds.tw10360522573172651426 : True := trivial
theorem law_holds.tw9442120237013122589 : True := trivial
theorem law_holds.tw17180001009569633970 : True := trivial
theorem law_holds.tw14375881129149169379 : True := trivial
theorem law_holds.tw3024374315939245509 : True := trivial
theorem law_holds.tw6354221664691742131 : True := trivial
theorem law_holds.tw12850535167719870617 : True := trivial
theorem law_holds.tw10764541510735364805 : True := trivial
theorem law_holds.tw7123599913665508030 : True := trivial
theorem law_holds.tw2384963693675321470 : True := trivial
theorem law_holds.tw18309190362041527269 : True := trivial
theorem law_holds.tw11253982270263490198 : True := trivial
theorem law_holds.tw10102834934717047885 : True := trivial
theorem law_holds.tw14822640431511872941 : True := trivial
theorem law_holds.tw9032088933897422861 : True := trivial
theorem law_holds.tw15789929832340015234 : True := trivial
theorem law_holds.tw7087491825025586495 : True := trivial
theorem law_holds.tw1567021292681222707 : True := trivial
theorem law_holds.tw5765542928187402639 : True := trivial
theorem law_holds.tw1191432763711471526 : True := trivial
theorem law_holds.tw5432952435368640112 : True := trivial
theorem law_holds.tw9826770418859484059 : True := trivial
theorem law_holds.tw16099233806120587224 : True := trivial
theorem law_holds.tw9659893776534165664 : True := trivial
theorem law_holds.tw11807458097852795031 : True := trivial
theorem law_holds.tw15623931887893595886 : True := trivial
theorem law_holds.tw5405950176245079350 : True := trivial
theorem law_holds.tw16202244259718314570 : True := trivial
theorem law_holds.tw13756832539634530601 : True := trivial
theorem law_holds.tw1713144814433471595 : True := trivial
theorem law_holds.tw10977758072711909379 : True := trivial
theorem law_holds.tw6168114395901332020 : True := trivial
theorem law_holds.tw1193751542720294520 : True := trivial
theorem law_holds.tw6450525700703451091 : True := trivial
theorem law_holds.tw6952529933449102903 : True := trivial
theorem law_holds.tw6204282437566418840 : True := trivial
theorem law_holds.tw12126468382275897091 : True := trivial
theorem law_holds.tw7504726725593181219 : True := trivial
theorem law_holds.tw10209896874158180831 : True := trivial
theorem law_holds.tw14487074379786685941 : True := trivial
theorem law_holds.tw16058295139837032614 : True := trivial
theorem law_holds.tw14808693009186965950 : True := trivial
theorem law_holds.tw1774162364888698292 : True := trivial
theorem law_holds.tw11557135564483155855 : True := trivial
theorem law_holds.tw17374974949193389749 : True := trivial
theorem law_holds.tw14794473197723012142 : True := trivial
theorem law_holds.tw13878215891399581383 : True := trivial
theorem law_holds.tw17359999758917075079 : True := trivial
theorem law_holds.tw15338837502394608122 : True := trivial
theorem law_holds.tw16093045099236604761 : True := trivial
theorem law_holds.tw3215646227880228634 : True := trivial
theorem law_holds.tw12421408195886533499 : True := trivial
theorem law_holds.tw14854378212777193641 : True := trivial
theorem law_holds.tw11184983642094155082 : True := trivial
theorem law_holds.tw10211359973830209541 : True := trivial
theorem law_holds.tw8266240884826057891 : True := trivial
theorem law_holds.tw13679895858646849597 : True := trivial
theorem law_holds.tw9131877904366575398 : True := trivial
theorem law_holds.tw14621789764659903892 : True := trivial
theorem law_holds.tw8404568462369126902 : True := trivial
theorem law_holds.tw9388325235746337897 : True := trivial
theorem law_holds.tw8836760962781395520 : True := trivial
theorem law_holds.tw5927033272331056481 : True := trivial
theorem law_holds.tw8611009688916859037 : True := trivial
theorem law_holds.tw10190134840458588342 : True := trivial
theorem law_holds.tw18324479182240526980 : True := trivial
theorem law_holds.tw4169908219595083525 : True := trivial
theorem law_holds.tw5537972153489250162 : True := trivial
theorem law_holds.tw8144265105397280603 : True := trivial
theorem law_holds.tw8347288551935091757 : True := trivial
theorem law_holds.tw7985852228683721737 : True := trivial
theorem law_holds.tw6203092377621425091 : True := trivial
theorem law_holds.tw9901009478667943049 : True := trivial
theorem law_holds.tw11598061280286125343 : True := trivial
theorem law_holds.tw15232040098313456343 : True := trivial
theorem law_holds.tw7551040036645134623 : True := trivial
theorem law_holds.tw9428232062507599395 : True := trivial
theorem law_holds.tw10292286563339487046 : True := trivial
theorem law_holds.tw10415944068369783135 : True := trivial
theorem law_holds.tw9495639229107491679 : True := trivial
theorem law_holds.tw1636339732188462070 : True := trivial
theorem law_holds.tw5553764370173356522 : True := trivial
theorem law_holds.tw12254884431182365388 : True := trivial
theorem law_holds.tw14746153008562904142 : True := trivial
theorem law_holds.tw18423473493767259593 : True := trivial
theorem law_holds.tw17624761011548862817 : True := trivial
theorem law_holds.tw8907772950577008095 : True := trivial
theorem law_holds.tw685781381014034950 : True := trivial
theorem law_holds.tw8609802620155453328 : True := trivial
theorem law_holds.tw14987162248051039327 : True := trivial
theorem law_holds.tw8441637185016385826 : True := trivial
theorem law_holds.tw10883724985935403488 : True := trivial
theorem law_holds.tw2999762734056203605 : True := trivial
theorem law_holds.tw14594458455348367981 : True := trivial
theorem law_holds.tw16865831011604010358 : True := trivial
theorem law_holds.tw4828057953864552713 : True := trivial
theorem law_holds.tw17089835648639487338 : True := trivial
theorem law_holds.tw12854008231185623406 : True := trivial
theorem law_holds.tw13612011652026802960 : True := trivial
theorem law_holds.tw1426520634613210456 : True := trivial
theorem law_holds.tw11347510954432488481 : True := trivial
theorem law_holds.tw8053519277030742795 : True := trivial
theorem law_holds.tw5660955012450978138 : True := trivial
theorem law_holds.tw11586754177041591754 : True := trivial
theorem law_holds.tw11611769866361878153 : True := trivial
theorem law_holds.tw2954383785882054493 : True := trivial
theorem law_holds.tw2406221270116451535 : True := trivial
theorem law_holds.tw1077079948431679288 : True := trivial
theorem law_holds.tw14397643838129463549 : True := trivial
theorem law_holds.tw15261533916004563741 : True := trivial
theorem law_holds.tw13460559942355618396 : True := trivial
theorem law_holds.tw6370479647739985706 : True := trivial
theorem law_holds.tw14756552375394960444 : True := trivial
theorem law_holds.tw5125533574508796102 : True := trivial
theorem law_holds.tw16236664095082123799 : True := trivial
theorem law_holds.tw8191250126472306535 : True := trivial
theorem law_holds.tw3838818529510672863 : True := trivial
theorem law_holds.tw6825009444770567731 : True := trivial
theorem law_holds.tw16963050129315322610 : True := trivial
theorem law_holds.tw7260445328890291496 : True := trivial
theorem law_holds.tw7421514118734006257 : True := trivial
theorem law_holds.tw16648777254622569455 : True := trivial
theorem law_holds.tw11245189051238082039 : True := trivial
theorem law_holds.tw12941704145708800945 : True := trivial
theorem law_holds.tw16465408903239670219 : True := trivial
theorem law_holds.tw119634142877433759 : True := trivial
theorem law_holds.tw11954228515179632006 : True := trivial
theorem law_holds.tw5566722256153824451 : True := trivial
theorem law_holds.tw6586085781419682490 : True := trivial
theorem law_holds.tw4354612618955260029 : True := trivial
theorem law_holds.tw16834381274007307644 : True := trivial
theorem law_holds.tw15454442590643882187 : True := trivial
theorem law_holds.tw12557544960718557666 : True := trivial
theorem law_holds.tw1693637237303547559 : True := trivial
theorem law_holds.tw3311157727402870671 : True := trivial
theorem law_holds.tw3948892728096606150 : True := trivial
theorem law_holds.tw8462428812776065965 : True := trivial
theorem law_holds.tw12962476135088277834 : True := trivial
theorem law_holds.tw17800342923121174826 : True := trivial
theorem law_holds.tw13536078969547264968 : True := trivial
theorem law_holds.tw15759456685926392790 : True := trivial
theorem law_holds.tw16525598098652419803 : True := trivial
theorem law_holds.tw15604806509783730759 : True := trivial
theorem law_holds.tw11539556534233449701 : True := trivial
set_option Elab.async true in
theorem law_holds : Challenge.rw_dn0059_06.Holds := by
  (w_on; o_law; o_head (kmHook pre.heap_1 [2, 3, 38, 40, 41, 43, 44, 48, 49, 50, 52, 53, 55, 56, 57, 59, 60, 62, 63, 64, 71, 72, 73, 74, 84, 86, 87, 89, 90, 91, 92, 93, 94, 95, 96, 99, 106, 107, 108, 111, 118, 119, 120, 123, 130, 131, 133, 134, 136, 137, 138, 140, 141, 143, 144, 145, 147, 148, 150, 151, 152, 154, 155, 157, 158, 159, 160, 162, 163, 165, 166, 167, 169, 170, 172, 173, 174, 176, 177, 179, 180, 181, 183, 184, 186, 187, 188, 190, 191, 193, 194, 195, 197, 198, 200, 201, 202, 204, 205, 207, 208, 209, 211, 212, 214, 215, 216, 218, 219, 221, 222, 223, 225, 226, 228, 229, 230, 232, 233, 235, 236, 237, 239, 240, 242, 243, 244, 246, 247, 249, 250, 251, 252, 254, 255, 257, 258, 259, 260, 262, 263, 265, 266, 267, 268, 270, 271, 273, 274, 275, 276, 278, 279, 281, 282, 283, 285, 286, 288, 289, 290, 292, 293, 295, 296, 297, 298, 300, 301, 303, 304, 305, 306, 308, 309, 311, 312, 313, 315, 316, 318, 319, 320, 322, 323, 325, 326, 327, 329, 330, 332, 333, 334, 336, 337, 339, 340, 341, 343, 344, 346, 347, 348, 349, 350, 353, 360, 361, 363, 364, 366, 367, 368, 370, 371, 373, 374, 375, 377, 378, 380, 381, 382, 384, 385, 387, 388, 389, 391, 392, 394, 395, 396, 398, 399, 401, 402, 403, 404, 406, 407, 409, 410, 411, 412, 414, 415, 417, 418, 419, 420, 422, 423, 425, 426, 427, 428, 430, 431, 433, 434, 435, 436, 438, 439, 441, 442, 443, 445, 446, 448, 449, 450, 452, 453, 455, 456, 457, 459, 460, 462, 463, 464, 466, 467, 469, 470, 471, 473, 474, 476, 477, 478, 480, 481, 483, 484, 485, 487, 488, 490, 491, 492, 494, 495, 497, 498, 499, 501, 502, 504, 505, 506, 508, 509, 511, 512, 513, 515, 516, 518, 519, 520, 521, 523, 524, 526, 527, 528, 529, 531, 532, 534, 535, 536, 537, 539, 540, 542, 543, 544, 545, 547, 548, 550, 551, 552, 553, 555, 556, 558, 559, 560, 562, 563, 565, 566, 567, 569, 570, 572, 573, 574, 576, 577, 579, 580, 581, 583, 584, 586, 587, 588, 590, 591, 593, 594, 595, 596, 597, 600, 602, 603, 605, 606, 607, 609, 610, 612, 613, 614, 616, 617, 619, 620, 621, 623, 624, 626, 627, 628, 630, 631, 633, 634, 635, 637, 638, 640, 641, 649, 650, 652, 653, 655, 656, 657, 659, 660, 662, 663, 664, 665, 667, 668, 670, 671, 672, 673, 675, 676, 678, 679, 680, 682, 683, 685, 686, 687, 689, 690, 692, 693, 694, 696, 697, 699, 700, 701, 703, 704, 706, 707, 708, 709, 711, 712, 714, 715, 716, 718, 719, 721, 722, 723, 725, 726, 728, 729, 730, 731, 732, 733, 734, 737, 738, 740, 741, 743, 744, 745, 747, 748, 750, 751, 752, 753, 755, 756, 758, 759, 760, 761, 763, 764, 766, 767, 768, 770, 771, 773, 774, 775, 778, 779, 780, 783, 784, 785, 788, 789, 790, 792, 793, 795, 796, 797, 800, 801] (fun _ => by kernel_rfl) [746]); (case hw => w_witness2))
  k_with_none
  k_fill
  intro w s₀ s₁ mg mb G Y fa o pm cd doc dV kV ho hd hcd hD hmg hg args vals as hpre hlay hrd hwl hlo
  have KX := km_in_of Y
  have hT8 := km_tabs_of Y
  have X := (Ground.X G).1
  have V := (Ground.X G).2
  refine Ground.open G ?_
  intro T B D TE TW
  try (refine guard_noD D (by decide +kernel) ?_; clear D)
  have hT9 : TabsAt [(750, 746)] _ := List.forall_mem_cons.mpr ⟨⟨codeHd_of_K (c := 750) (P := 746) KX (by kernel_rfl), hT8 746 (by k_mem)⟩, fun _ h => nomatch h⟩
  clear hmg
  wrow_args hpre hlay hrd hwl hlo
  first | refine callC_kw (enter_call ?_) | refine enter_call ?_
  w_top on
  refine kg_post hT9 (fun _ => rfl) ?kp ?_
  case kp => first | rfl | wrow_post
  w_call any ho hd hcd hD T F
  clear hd
  kn_ghosts F T
  k_drop
  (try k_fold)
  k_with_none
  k_with "execs cons" => (refine stop_intro ?_)
  k_with "call ref" => (refine stop_intro ?_)
  rename IntsAre _ _ => hI
  rename Heap.IsList (ghostOf _ _) _ _ => hL
  rename ¬ _ < _ => hlen
  rename List Int => ns
  rename List Value => vs
  k_steps
  refine Stop.out ?_
  refine cutW (h₀ := ghostOf s₁.heap [(750, 746)]) (L := s₁.heap.objs.size) ?_ ?_
  · k_steps
    refine Stop.out ?_
    rename News _ _ _ _ => NN; rename Fr _ _ _ _ => FF
    refine' words_ok ?k1 FF ?k3 NN ?k5 ?k6 hL hI ?k8 ?k9 ?k10 ?_
    case k1 => k_asm
    case k3 => k_asm
    case k5 => k_asm
    case k6 => exact rfl
    case k8 => omega
    case k9 => ktr_room
    case k10 => ktr_units
    clear FF NN
    intro Wd us k ws h₁ tk₁ hwd hus F₁ N₁ hWd
    k_steps
    rename News _ _ _ _ => NN; rename Fr _ _ _ _ => FF
    refine ⟨rfl, _, Wd, us, k, ws, rfl, ?_, hwd, hus, FF, swap2 NN, rfl⟩
    exact .of_eq (by first | rfl | assumption)
  · rename News _ _ _ _ => N0; rename Fr _ _ _ _ => F0
    clear N0 F0
    intro s₂ m₂ Wd us k ws osc GC hwd hus F₂ NC wc
    have htc : TriplesOk (#[] : Array Value).toList := True.intro
    have FC := fr_over [(Str.ofString "words", .ref Wd)] F₂ (one_in wc)
    clear F₂
    refine cut6 (h₀ := ghostOf s₁.heap [(750, 746)]) (L := s₁.heap.objs.size) (Wd := Wd) (us := us) (k := k) (lineJ false ws) ?_ ?_
    · k_with_none
      k_with "call ref" => (refine stop_intro ?_)
      k_steps
      refine Stop.out ?_
      rename News _ _ _ _ => NN; rename Fr _ _ _ _ => FF
      refine' join_okL (ws := ws) ?k1 FF ?k3 NN ?k5 ?k6 hus ?k7 ?k8 ?kg ?k9 ?k10 ?k11 hwd.len0 ?_
      case k1 => k_asm
      case k3 => k_asm
      case k5 => k_asm
      case k6 => exact rfl
      case k7 => intro l hl; have := hwd.one l hl; omega
      case k8 => exact htc
      case kg => exact GC
      case k9 => exact fun _ h => nomatch h
      case k10 => ktr_room
      case k11 => ktr_units
      clear FF NN
      intro t' s' ps' ht' G' hos' F' N'
      k_steps
      refine Stop.out ?_
      rename News _ _ _ _ => NN; rename Fr _ _ _ _ => FF
      refine' escape_ok (q := false) (.inl rfl) ?k1 FF ?k3 NN ?k5 ?k6 ?k7 ?k8 ?k9 ?_
      case k1 => k_asm
      case k3 => k_asm
      case k5 => k_asm
      case k6 => exact rfl
      case k7 => exact esc_line hwd true
      case k8 => ktr_room
      case k9 => ktr_units
      clear FF NN
      intro t'' h'' tk'' _ F'' N''
      k_steps
      rename News _ _ _ _ => NN; rename Fr _ _ _ _ => FF
      exact ⟨rfl, _, ps', hos', G', ht', FF, NN, rfl, _, rfl⟩
    k_with_none
    k_with "execs cons" => (refine stop_intro ?_)
    k_with "call ref" => (refine stop_intro ?_)
    clear FC NC GC wc htc
    intro s₃ m₃ ps₃ os₃ GC htc F₃ NC wc ⟨t₃, lc⟩
    replace osc := os₃.trans osc; clear os₃
    have FC := fr_over [(Str.ofString "words", .ref Wd), (Str.ofString "line", _)] F₃ (two_in wc lc)
    clear F₃
    refine cut6 (h₀ := ghostOf s₁.heap [(750, 746)]) (L := s₁.heap.objs.size) (Wd := Wd) (us := us) (k := k) (lineJ false ws) ?_ ?_
    · k_with_none
      k_with "call ref" => (refine stop_intro ?_)
      k_with "eval ListComp" => (k_here; k_dflt (refine LCg.ListComp_U (F₀ := by k_asm) (by rfl) (by decide) (by rfl) (by decide) (by rfl) ?_))
      k_with "CompSrc" => (refine stop_intro ?_)
      k_with "compareOp NotEq str str" => (refine stop_intro ?_)
      have hln := hus.length
      rw [List.length_map] at hln
      have hwl := hwd.len0
      have hoff := tab_ne NC (.head _) (.tail _ (.head _))
      k_steps
      refine Stop.out ?_
      rename News _ _ _ _ => NN; rename Fr _ _ _ _ => FF
      refine LCg.CompSrc.ledger (by rfl) FF NN (.tail _ (.head _)) (by rw [sizeLine_eq, List.size_toArray, hln]; omega) ?_
      clear FF
      intro g
      rw [show (List.toArray us).size = ws.length by rw [List.size_toArray]; exact hln]
      refine rest_fold (items := ws) (rel := fun l v => ∃ u, v = .str (ofL l) u) (out := fun l v => ∃ u, v = .str (ofL (escL false l)) u) ?_ ?_ ?_
      · intro i v hv
        exact strs_item hus i v (by simpa using hv)
      · clear NN
        rintro l v I oI C oC D m₂ ys h tk E' hlm ⟨u, rfl⟩ hyl hC hx F₄ N₄ off' ⟨n1, n2, n3⟩
        have hl := hwd.one l hlm
        k_steps
        refine Stop.out ?_
        rename News _ _ _ _ => NN; rename Fr _ _ _ _ => FF
        refine' escape_ok (q := false) (.inl rfl) ?k1 FF ?k3 NN ?k5 ?k6 ?k7 ?k8 ?k9 ?_
        case k1 => k_asm
        case k3 => k_asm
        case k5 => k_asm
        case k6 => exact rfl
        case k7 => exact Nat.le_trans (esc1440 hl) (by decide)
        case k8 => ktr_room
        case k9 => ktr_units
        clear FF NN
        intro t'' h'' tk'' _ F'' N''
        k_steps
        rename News _ _ _ _ => NN; rename Fr _ _ _ _ => FF
        exact LCg.CompEnd.intro FF NN _ (fun _ h => h) off' (.inr ⟨_, .tail _ (.head _), rfl, _, rfl⟩) ⟨rfl, _, rfl⟩
      · clear NN
        intro ys hys D h tk F₄ N₄ o1
        have hst2 := outs_strs hys
        k_steps
        refine Stop.out ?_
        rename News _ _ _ _ => NN; rename Fr _ _ _ _ => FF
        have e0 : (ws.map fun l => ofL (escL false l)) = (ws.map (escL false)).map ofL := by rw [List.map_map]; rfl
        rw [e0] at hst2
        refine' join_okL (ws := ws.map (escL false)) ?k1 FF ?k3 (News.sub NN fun q hq => ?kn) ?k5 ?k6 hst2 ?k7 ?k8 ?kg ?k9 ?k10 ?k11 ?k12 ?_
        case k1 => k_asm
        case k3 => k_asm
        case kn =>
          rcases List.mem_cons.mp hq with rfl | hq
          · exact .tail _ (.head _)
          rcases List.mem_cons.mp hq with rfl | hq
          · exact .head _
          · exact .tail _ (.tail _ hq)
        case k5 => k_asm
        case k6 => exact rfl
        case k7 =>
          intro l hl
          obtain ⟨l', hl', rfl⟩ := List.mem_map.mp hl
          exact esc1440 (hwd.one l' hl')
        case k8 => exact htc
        case kg => first | exact GC | exact .of_eq (by first | rfl | assumption)
        case k9 =>
          intro q hq
          rw [List.mem_singleton.mp hq]
          exact hoff
        case k10 => ktr_room
        case k11 => ktr_units
        case k12 => rw [List.length_map]; exact hwl
        clear FF NN
        intro t' s' ps' ht' G' hos' F' N'
        k_steps
        refine Stop.out ?_
        rename News _ _ _ _ => NN; rename Fr _ _ _ _ => FF
        refine ne_fact (b := false) ?_ ?_
        · rw [line1]; simp
        k_steps
        rename News _ _ _ _ => NN; rename Fr _ _ _ _ => FF
        exact ⟨rfl, _, ps', hos', G', ht', FF, News.sub NN (fun q hq => by
          rcases List.mem_cons.mp hq with rfl | hq
          · exact .head _
          · exact .tail _ (.tail _ hq)), rfl, _, rfl⟩
    k_with_none
    k_with "execs cons" => (refine stop_intro ?_)
    k_with "call ref" => (refine stop_intro ?_)
    clear FC NC GC wc htc lc
    intro s₃ m₃ ps₃ os₃ GC htc F₃ NC wc ⟨t₃, lc⟩
    replace osc := os₃.trans osc; clear os₃
    have FC := fr_over [(Str.ofString "words", .ref Wd), (Str.ofString "line", _)] F₃ (two_in wc lc)
    clear F₃
    refine cut6 (h₀ := ghostOf s₁.heap [(750, 746)]) (L := s₁.heap.objs.size) (Wd := Wd) (us := us) (k := k) (fun _ => True) ?_ ?_
    · k_with_none
      k_with "call ref" => (refine stop_intro ?_)
      k_with "eval ListComp" => (k_here; k_dflt (refine LCg.ListComp_U (F₀ := by k_asm) (by rfl) (by decide) (by rfl) (by decide) (by rfl) ?_))
      k_with "CompSrc" => (refine stop_intro ?_)
      k_with "compareOp NotEq ref ref" => (refine stop_intro ?_)
      have hln := hus.length
      rw [List.length_map] at hln
      have hwl := hwd.len0
      have hoff := tab_ne NC (.head _) (.tail _ (.head _))
      have e1 : ((ws.map (escL false)).map ofL) = (ws.map fun l => ofL (escL false l)) := by rw [List.map_map]; rfl
      have hsg : ∀ x ∈ (ws.map (escL false)).map ofL, PyData.strOk x = true := strs_ok fun l hl => by
        obtain ⟨l', hl', rfl⟩ := List.mem_map.mp hl
        exact escL_signs (hwd.signs l' hl')
      have hel := esc_line hwd false
      k_steps
      refine Stop.out ?_
      rename News _ _ _ _ => NN; rename Fr _ _ _ _ => FF
      refine' split_ok (xs := (ws.map (escL false)).map ofL) ?k1 FF ?k3 NN ?k5 ?k6 ?kl ?k9 ?k10 ?kx ?kn ?_
      case k1 => k_asm
      case k3 => k_asm
      case k5 => k_asm
      case k6 => exact rfl
      case k9 => ktr_room
      case k10 => ktr_units
      case kl => exact hel
      case kx => rw [ofL_toL, line1]; exact lexes_join _
      case kn => rw [List.length_map, List.length_map]; omega
      clear FF NN
      intro S vs' n₃ h₃ tk₃ F₃ N₃ hS hst
      k_steps
      refine Stop.out ?_
      rename News _ _ _ _ => NN; rename Fr _ _ _ _ => FF
      refine LCg.CompSrc.ledger (by rfl) FF NN (.tail _ (.tail _ (.head _))) (by rw [sizeLine_eq, List.size_toArray, hln]; omega) ?_
      clear FF
      intro g
      rw [show (List.toArray us).size = ws.length by rw [List.size_toArray]; exact hln]
      refine rest_fold (items := ws) (rel := fun l v => ∃ u, v = .str (ofL l) u) (out := fun l v => ∃ u, v = .str (ofL (escL false l)) u) ?_ ?_ ?_
      · intro i v hv
        exact strs_item hus i v (by simpa using hv)
      · clear NN
        rintro l v I oI C oC D m₂ ys h tk E' hlm ⟨u, rfl⟩ hyl hC hx F₄ N₄ off' ⟨n1, n2, n3⟩
        have hl := hwd.one l hlm
        k_steps
        refine Stop.out ?_
        rename News _ _ _ _ => NN; rename Fr _ _ _ _ => FF
        refine' written_ok (q := false) ?k1 FF ?k3 NN ?k5 ?k6 ?k7 ?k8 ?k9 ?_
        case k1 => k_asm
        case k3 => k_asm
        case k5 => k_asm
        case k6 => exact rfl
        case k7 => rw [ofL_len]; omega
        case k8 => ktr_room
        case k9 => ktr_units
        clear FF NN
        intro t'' h'' tk'' F'' N''
        k_steps
        rename News _ _ _ _ => NN; rename Fr _ _ _ _ => FF
        exact LCg.CompEnd.intro FF NN _ (fun _ h => h) off' (.inr ⟨_, .tail _ (.tail _ (.head _)), rfl, _, rfl⟩) ⟨rfl, _, rfl⟩
      · clear NN
        intro ys hys D h tk F₄ N₄ o1
        have hst2 := outs_strs hys
        rw [← e1] at hst2
        k_steps
        refine Stop.out ?_
        rename News _ _ _ _ => NN; rename Fr _ _ _ _ => FF
        refine ne_strs (NN.isList (.tail _ (.head _))) (NN.isList (.head _)) hst hst2 hsg hsg (by ktr_units) ?_
        rw [decide_eq_true rfl]
        k_steps
        rename News _ _ _ _ => NN; rename Fr _ _ _ _ => FF
        exact ⟨rfl, _, ps₃, rfl, GC, htc, FF, News.sub NN (fun q hq => .tail _ (.tail _ hq)), rfl, trivial⟩
    k_with_none
    k_with "execs cons" => (refine stop_intro ?_)
    k_with "call ref" => (refine stop_intro ?_)
    clear FC NC GC wc htc lc
    intro s₃ m₃ ps₃ os₃ GC htc F₃ NC wc _
    replace osc := os₃.trans osc; clear os₃
    have FC := fr_over [(Str.ofString "words", .ref Wd)] F₃ (one_in wc)
    clear F₃
    refine cut6 (h₀ := ghostOf s₁.heap [(750, 746)]) (L := s₁.heap.objs.size) (Wd := Wd) (us := us) (k := k) (lineJ true ws) ?_ ?_
    · k_with_none
      k_with "call ref" => (refine stop_intro ?_)
      k_steps
      refine Stop.out ?_
      rename News _ _ _ _ => NN; rename Fr _ _ _ _ => FF
      refine' join_okL (ws := ws) ?k1 FF ?k3 NN ?k5 ?k6 hus ?k7 ?k8 ?kg ?k9 ?k10 ?k11 hwd.len0 ?_
      case k1 => k_asm
      case k3 => k_asm
      case k5 => k_asm
      case k6 => exact rfl
      case k7 => intro l hl; have := hwd.one l hl; omega
      case k8 => exact htc
      case kg => exact GC
      case k9 => exact fun _ h => nomatch h
      case k10 => ktr_room
      case k11 => ktr_units
      clear FF NN
      intro t' s' ps' ht' G' hos' F' N'
      k_steps
      refine Stop.out ?_
      rename News _ _ _ _ => NN; rename Fr _ _ _ _ => FF
      refine' escape_ok (q := true) (.inr ⟨rfl, rfl⟩) ?k1 FF ?k3 NN ?k5 ?k6 ?k7 ?k8 ?k9 ?_
      case k1 => k_asm
      case k3 => k_asm
      case k5 => k_asm
      case k6 => exact rfl
      case k7 => exact esc_line hwd true
      case k8 => ktr_room
      case k9 => ktr_units
      clear FF NN
      intro t'' h'' tk'' _ F'' N''
      k_steps
      rename News _ _ _ _ => NN; rename Fr _ _ _ _ => FF
      exact ⟨rfl, _, ps', hos', G', ht', FF, NN, rfl, _, rfl⟩
    k_with_none
    k_with "execs cons" => (refine stop_intro ?_)
    k_with "call ref" => (refine stop_intro ?_)
    clear FC NC GC wc htc
    intro s₃ m₃ ps₃ os₃ GC htc F₃ NC wc ⟨t₃, lc⟩
    replace osc := os₃.trans osc; clear os₃
    have FC := fr_over [(Str.ofString "words", .ref Wd), (Str.ofString "line", _)] F₃ (two_in wc lc)
    clear F₃
    refine cut6 (h₀ := ghostOf s₁.heap [(750, 746)]) (L := s₁.heap.objs.size) (Wd := Wd) (us := us) (k := k) (bareJ ws) ?_ ?_
    · k_with_none
      k_with "call ref" => (refine stop_intro ?_)
      k_with "CompSrcT" => (refine stop_intro ?_)
      k_with "compareOp Eq ref ref" => (refine stop_intro ?_)
      have hln := hus.length
      rw [List.length_map] at hln
      have hwl := hwd.len0
      k_steps
      refine Stop.out ?_
      rename News _ _ _ _ => NN; rename Fr _ _ _ _ => FF
      refine LCt.CompSrcT.ledger (by rfl) FF NN (.tail _ (.head _)) (by rw [sizeLine_eq, List.size_toArray, hln]; omega) ?_
      clear FF
      intro g
      rw [show (List.toArray us).size = ws.length by rw [List.size_toArray]; exact hln]
      refine rest_foldT (items := ws) (rel := fun l v => ∃ u, v = .str (ofL l) u) (out := fun l v => ∃ u, v = .str (ofL l) u) (keep := fun l => !isSafe l) ?_ ?_ ?_
      · intro i v hv
        exact strs_item hus i v (by simpa using hv)
      · clear NN
        rintro l v I oI C oC D m₂ ys h tk E' hlm ⟨u, rfl⟩ hyl hC hx F₄ N₄ off' ⟨n1, n2, n3⟩
        have hl := hwd.one l hlm
        have hok := strOk_of (hwd.signs l hlm)
        k_steps
        refine Stop.out ?_
        rename News _ _ _ _ => NN; rename Fr _ _ _ _ => FF
        refine' safe_ok ?k1 FF ?k3 NN ?k5 ?k6 ?k7 hok ?k9 ?k10 ?_
        case k1 => k_asm
        case k3 => k_asm
        case k5 => k_asm
        case k6 => exact rfl
        case k7 => rw [ofL_len]; omega
        case k9 => ktr_room
        case k10 => ktr_units
        clear FF NN
        intro h₃ tk₃ F₃ N₃
        k_steps
        refine Stop.out ⟨rfl, fun _ => ?_, fun _ => ?_⟩
        · k_steps
          rename News _ _ _ _ => NN; rename Fr _ _ _ _ => FF
          exact LCg.CompEnd.intro FF NN _ (fun _ h => h) off' (.inr ⟨_, .tail _ (.head _), rfl, _, rfl⟩) ⟨rfl, _, rfl⟩
        · exact LCg.CompEnd.intro F₃ N₃ _ (fun _ h => h) off' (.inr ⟨_, .tail _ (.head _), rfl, _, rfl⟩) rfl
      · clear NN
        intro ys hys D h tk F₄ N₄ o1
        have hst2 := outs_strs hys
        k_steps
        refine Stop.out ?_
        rename News _ _ _ _ => NN; rename Fr _ _ _ _ => FF
        refine eq_strs (xs := ys) (ys := []) (NN.isList (.tail _ (.head _))) (NN.isList (.head _)) hst2 .nil (strs_ok fun l hl => hwd.signs l (List.mem_filter.mp hl).1) (fun _ h => nomatch h) (by ktr_units) ?_
        rw [show decide (List.map (fun l => ofL l) (List.filter (fun l => !isSafe l) ws) = []) = ws.all isSafe from bare_is ws]
        k_steps
        rename News _ _ _ _ => NN; rename Fr _ _ _ _ => FF
        exact ⟨rfl, _, ps₃, rfl, GC, htc, FF, News.sub NN (fun q hq => .tail _ (.tail _ hq)), rfl, ⟨_, rfl⟩, rfl⟩
    k_with_none
    k_with "execs cons" => (refine stop_intro ?_)
    k_with "call ref" => (refine stop_intro ?_)
    clear FC NC GC wc htc lc
    intro s₃ m₃ ps₃ os₃ GC htc F₃ NC wc ⟨⟨t₃, lc⟩, bc⟩
    replace osc := os₃.trans osc; clear os₃
    have FC := fr_over [(Str.ofString "words", .ref Wd), (Str.ofString "line", _), (Str.ofString "bare", _)] F₃ (three_in wc lc bc)
    clear bc
    clear F₃
    refine cut6 (h₀ := ghostOf s₁.heap [(750, 746)]) (L := s₁.heap.objs.size) (Wd := Wd) (us := us) (k := k) (lineJ true ws) ?_ ?_
    · k_with_none
      k_with "call ref" => (refine stop_intro ?_)
      k_with "eval ListComp" => (k_here; k_dflt (refine LCg.ListComp_U (F₀ := by k_asm) (by rfl) (by decide) (by rfl) (by decide) (by rfl) ?_))
      k_with "CompSrc" => (refine stop_intro ?_)
      k_with "compareOp Eq str str" => (refine stop_intro ?_)
      have hln := hus.length
      rw [List.length_map] at hln
      have hwl := hwd.len0
      have hoff := tab_ne NC (.head _) (.tail _ (.head _))
      k_steps
      refine Stop.out ?_
      rename News _ _ _ _ => NN; rename Fr _ _ _ _ => FF
      refine LCg.CompSrc.ledger (by rfl) FF NN (.tail _ (.head _)) (by rw [sizeLine_eq, List.size_toArray, hln]; omega) ?_
      clear FF
      intro g
      rw [show (List.toArray us).size = ws.length by rw [List.size_toArray]; exact hln]
      refine rest_fold (items := ws) (rel := fun l v => ∃ u, v = .str (ofL l) u) (out := fun l v => ∃ u, v = .str (ofL (escL true l)) u) ?_ ?_ ?_
      · intro i v hv
        exact strs_item hus i v (by simpa using hv)
      · clear NN
        rintro l v I oI C oC D m₂ ys h tk E' hlm ⟨u, rfl⟩ hyl hC hx F₄ N₄ off' ⟨n1, n2, n3⟩
        have hl := hwd.one l hlm
        k_steps
        refine Stop.out ?_
        rename News _ _ _ _ => NN; rename Fr _ _ _ _ => FF
        refine' escape_ok (q := true) (.inr ⟨rfl, rfl⟩) ?k1 FF ?k3 NN ?k5 ?k6 ?k7 ?k8 ?k9 ?_
        case k1 => k_asm
        case k3 => k_asm
        case k5 => k_asm
        case k6 => exact rfl
        case k7 => exact Nat.le_trans (esc1440 hl) (by decide)
        case k8 => ktr_room
        case k9 => ktr_units
        clear FF NN
        intro t'' h'' tk'' _ F'' N''
        k_steps
        rename News _ _ _ _ => NN; rename Fr _ _ _ _ => FF
        exact LCg.CompEnd.intro FF NN _ (fun _ h => h) off' (.inr ⟨_, .tail _ (.head _), rfl, _, rfl⟩) ⟨rfl, _, rfl⟩
      · clear NN
        intro ys hys D h tk F₄ N₄ o1
        have hst2 := outs_strs hys
        k_steps
        refine Stop.out ?_
        rename News _ _ _ _ => NN; rename Fr _ _ _ _ => FF
        have e0 : (ws.map fun l => ofL (escL true l)) = (ws.map (escL true)).map ofL := by rw [List.map_map]; rfl
        rw [e0] at hst2
        refine' join_okL (ws := ws.map (escL true)) ?k1 FF ?k3 (News.sub NN fun q hq => ?kn) ?k5 ?k6 hst2 ?k7 ?k8 ?kg ?k9 ?k10 ?k11 ?k12 ?_
        case k1 => k_asm
        case k3 => k_asm
        case kn =>
          rcases List.mem_cons.mp hq with rfl | hq
          · exact .tail _ (.head _)
          rcases List.mem_cons.mp hq with rfl | hq
          · exact .head _
          · exact .tail _ (.tail _ hq)
        case k5 => k_asm
        case k6 => exact rfl
        case k7 =>
          intro l hl
          obtain ⟨l', hl', rfl⟩ := List.mem_map.mp hl
          exact esc1440 (hwd.one l' hl')
        case k8 => exact htc
        case kg => first | exact GC | exact .of_eq (by first | rfl | assumption)
        case k9 =>
          intro q hq
          rw [List.mem_singleton.mp hq]
          exact hoff
        case k10 => ktr_room
        case k11 => ktr_units
        case k12 => rw [List.length_map]; exact hwl
        clear FF NN
        intro t' s' ps' ht' G' hos' F' N'
        k_steps
        refine Stop.out ?_
        rename News _ _ _ _ => NN; rename Fr _ _ _ _ => FF
        refine eq_fact (both_is ws) ?_
        k_steps
        · rename (_ != _) = true => hbb
          simp at hbb
        · rename News _ _ _ _ => NN; rename Fr _ _ _ _ => FF
          exact ⟨rfl, _, ps', hos', G', ht', FF, News.sub NN (fun q hq => by
            rcases List.mem_cons.mp hq with rfl | hq
            · exact .head _
            · exact .tail _ (.tail _ hq)), rfl, _, rfl⟩
    k_with_none
    k_with "execs cons" => (refine stop_intro ?_)
    k_with "call ref" => (refine stop_intro ?_)
    clear FC NC GC wc htc lc
    intro s₃ m₃ ps₃ os₃ GC htc F₃ NC wc ⟨t₃, lc⟩
    replace osc := os₃.trans osc; clear os₃
    have FC := fr_over [(Str.ofString "words", .ref Wd), (Str.ofString "line", _)] F₃ (two_in wc lc)
    clear F₃
    refine cut6 (h₀ := ghostOf s₁.heap [(750, 746)]) (L := s₁.heap.objs.size) (Wd := Wd) (us := us) (k := k) (dueJ ws) ?_ ?_
    · k_with_none
      k_with "call ref" => (refine stop_intro ?_)
      k_steps
      refine Stop.out ?_
      rename News _ _ _ _ => NN; rename Fr _ _ _ _ => FF
      refine' line_ok ?k1 FF ?k3 (swap2 NN) ?k5 ?k6 hus hwd ?k9 ?k10 ?_
      case k1 => k_asm
      case k3 => k_asm
      case k5 => k_asm
      case k6 => exact rfl
      case k9 => ktr_room
      case k10 => ktr_units
      clear FF NN
      intro t'' h'' tk'' F'' N''
      k_steps
      rename News _ _ _ _ => NN; rename Fr _ _ _ _ => FF
      exact ⟨rfl, _, ps₃, rfl, GC, htc, FF, swap2 NN, rfl, ⟨_, rfl⟩, _, rfl⟩
    k_with_none
    k_with "execs cons" => (refine stop_intro ?_)
    k_with "call ref" => (refine stop_intro ?_)
    clear FC NC GC wc htc lc
    intro s₃ m₃ ps₃ os₃ GC htc F₃ NC wc ⟨⟨t₃, lc⟩, t₄, bc⟩
    replace osc := os₃.trans osc; clear os₃
    have FC := fr_over [(Str.ofString "words", .ref Wd), (Str.ofString "line", _), (Str.ofString "due", _)] F₃ (three_in wc lc bc)
    clear bc
    clear F₃
    clear wc lc
    k_with_none
    k_with "call ref" => (refine stop_intro ?_)
    k_with "compareOp Eq ref ref" => (refine stop_intro ?_)
    k_with "compareOp Eq str str" => (refine stop_intro ?_)
    have hel := esc_line hwd true
    rw [line_is] at hel
    have hcl := cutGo_len _ (lineL ws) false [] (Nat.le_refl _)
    have hsg : ∀ x ∈ (cutGo (lineL ws) false []).map ofL, PyData.strOk x = true := strs_ok (due_signs hwd.signs)
    rw [line_is] at FC
    k_steps
    refine Stop.out ?_
    refine eq_str ?_
    rw [beq_self_eq_true]
    k_steps
    refine Stop.out ?_
    rename News _ _ _ _ => NN; rename Fr _ _ _ _ => FF
    refine' split_ok (xs := (cutGo (lineL ws) false []).map ofL) ?k1 FF ?k3 NN ?k5 ?k6 ?kl ?k9 ?k10 ?kx ?kn ?_
    case k1 => k_asm
    case k3 => k_asm
    case k5 => k_asm
    case k6 => exact rfl
    case k9 => ktr_room
    case k10 => ktr_units
    case kl => exact hel
    case kx => exact lexes_cut (bare_line ws)
    case kn => rw [List.length_map]; simp at hcl; omega
    clear FF NN
    intro S vs' n₃ h₃ tk₃ F₃ N₃ hS hst
    k_steps
    refine Stop.out ?_
    rename News _ _ _ _ => NN; rename Fr _ _ _ _ => FF
    refine' cut_ok ?k1 FF ?k3 NN ?k5 ?k6 ?kl ?k9 ?k10 ?_
    case k1 => k_asm
    case k3 => k_asm
    case k5 => k_asm
    case k6 => exact rfl
    case k9 => ktr_room
    case k10 => ktr_units
    case kl => exact hel
    clear FF NN
    intro S₂ vs₂ n₄ h₄ tk₄ F₄ N₄ hS₂ hst2
    k_steps
    refine Stop.out ?_
    rename News _ _ _ _ => NN; rename Fr _ _ _ _ => FF
    refine eq_strs (NN.isList (.tail _ (.head _))) (NN.isList (.head _)) hst hst2 hsg hsg (by ktr_units) ?_
    rw [ofL_toL, decide_eq_true rfl]
    exact ⟨rfl, fun b o e => FF.keep b o e, ⟨⟨_, (NN _ (.tail _ (.tail _ (.head _)))).1⟩, trivial⟩, osc, GC⟩
end
end Mine
theorem PySem.Challenge.cw_dn0059_06_holds : PySem.Challenge.rw_dn0059_06.Holds :=
  Mine.law_holds
