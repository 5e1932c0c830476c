import PyProof.Rows.All
import Wide.All
import OpenK.AllK
import Wide.FinOn
import PySem.Challenge.RW_dn0059_07
set_option Elab.async false
set_option maxRecDepth 100000
set_option maxHeartbeats 8000000
section
open PySem PySem.W PyProof.Rows
namespace Mine
def Stop (P : Prop) : Prop := P
theorem stop_intro {P : Prop} (h : Stop P) : P := h
theorem Stop.out {P : Prop} (h : P) : Stop P := h
theorem ite_ntt {P Q : Prop} (h : Q) : if (!true) = true then P else Q := h
theorem ite_nff {P Q : Prop} (h : P) : if (!false) = true then P else Q := h
theorem ite_bt {b : Bool} {P Q : Prop} (e : b = true) (h : P) : if b = true then P else Q := by subst e; exact h
theorem ite_bf {b : Bool} {P Q : Prop} (e : b = false) (h : Q) : if b = true then P else Q := by subst e; exact h
structure Mk (n : Nat) : Prop where
def inS (c : Nat) (y : Str) : Bool := decide (c ∈ y.cps.toList)
def inT (x y : Str) : Bool := !(Builtin.Str.occurrences y x 0 y.length 1).isEmpty
def isS (c : Nat) (y : Str) : Bool := (Str.mk #[c] == y)
section
variable {prog : Program} {w : World} {A : Around} {E : Value → Shared → Prop} {s : Shared} {Q : Value → Shared → Prop} {c : Nat} {y : Str} {u t : Tok} {b : Bool}
theorem in_one (h : inS c y = b) (k : Q (.bool b) s) : wpAny (model prog w) A (compareOp .In (.str ⟨#[c]⟩ u) (.str y t)) Q E s :=
  in_str (by rw [StrLaws.found_one]; exact (show decide (c ∈ y.cps.toList) = b from h) ▸ k)
theorem in_fact {x : Str} (h : inT x y = b) (k : Q (.bool b) s) : wpAny (model prog w) A (compareOp .In (.str x u) (.str y t)) Q E s :=
  in_str ((show (!(Builtin.Str.occurrences y x 0 y.length 1).isEmpty) = b from h) ▸ k)
theorem notIn_one (h : inS c y = b) (k : Q (.bool (!b)) s) : wpAny (model prog w) A (compareOp .NotIn (.str ⟨#[c]⟩ u) (.str y t)) Q E s :=
  notIn_str (by rw [StrLaws.found_one]; exact (show decide (c ∈ y.cps.toList) = b from h) ▸ k)
theorem eq_one (h : isS c y = b) (k : Q (.bool b) s) : wpAny (model prog w) A (compareOp .Eq (.str ⟨#[c]⟩ u) (.str y t)) Q E s :=
  eq_str ((show (Str.mk #[c] == y) = b from h) ▸ k)
theorem truthy_one {Q : Bool → Shared → Prop} (k : ∀ tk, Q true { s with toks := tk }) : wpAny (model prog w) A (truthy (.str ⟨#[c]⟩ t)) Q E s :=
  KXt.truthy (by rfl) (Nat.le_of_ble_eq_true rfl) k
theorem truthy_fact {Q : Bool → Shared → Prop} {x : Str} (e : ((x.length : Int) != 0) = b) (hl : x.length ≤ 16777216) (k : ∀ tk, Q b { s with toks := tk }) : wpAny (model prog w) A (truthy (.str x t)) Q E s :=
  KXt.truthy e hl k
end
theorem News.sub {h₀ h : Heap} {L : Addr} {l l' : List (Addr × Obj)} (N : News h₀ L h l) (hs : ∀ p ∈ l', p ∈ l) : News h₀ L h l' := fun p hp => N p (hs p hp)
def over : List (Str × Value) → (Str → Option Value) → Str → Option Value
  | [], m => m
  | (a, v) :: r, m => fun y => if y = a then some v else over r m y
theorem over_eq {m : Str → Option Value} : ∀ {ps : List (Str × Value)}, (∀ p ∈ ps, m p.1 = some p.2) → over ps m = m
  | [], _ => rfl
  | (a, v) :: r, h => by
    funext y
    show (if y = a then some v else over r m y) = m y
    rw [over_eq (ps := r) fun p hp => h p (.tail _ hp)]
    split
    · rename_i e; subst e; exact (h (y, v) (.head _)).symm
    · rfl
theorem fr_over {h₀ h : Heap} {L : Addr} {m : Str → Option Value} (ps : List (Str × Value)) (F : Fr h₀ L h m) (hp : ∀ p ∈ ps, m p.1 = some p.2) : Fr h₀ L h (over ps m) := by
  rw [over_eq hp]; exact F
theorem eq_fact {prog : Program} {w : World} {A : Around} {E : Value → Shared → Prop} {s : Shared} {Q : Value → Shared → Prop} {x y : Str} {u t : Tok} {b : Bool} (h : (x == y) = b) (k : Q (.bool b) s) : wpAny (model prog w) A (compareOp .Eq (.str x u) (.str y t)) Q E s :=
  eq_str (h ▸ k)

/-- the lexer's states -/
inductive LS where
  | non | sp | sq | dq | esc | a
def LS.val (t : Tok) : LS → Value
  | .non => .none
  | .sp => .str (Str.ofString " ") t
  | .sq => .str ⟨#[39]⟩ t
  | .dq => .str ⟨#[34]⟩ t
  | .esc => .str ⟨#[92]⟩ t
  | .a => .str (Str.ofString "a") t
def ws (c : Nat) : Bool := c == 32 || c == 9 || c == 13 || c == 10
def finT (q : Bool) (tok : Str) : Option Str := if !q && tok.length == 0 then none else some tok
/-- what read_token gives back, the state and the input that it leaves; none: not asked here (a raise) -/
def lexGo : List Nat → LS → Bool → Str → Option (Option Str × LS × List Nat)
  | rs, .non, q, _ => if q then none else some (none, .non, rs.tail)
  | [], .sp, q, tok => some (finT q tok, .non, [])
  | [], .a, q, tok => some (finT q tok, .non, [])
  | [], .sq, _, _ => none
  | [], .dq, _, _ => none
  | [], .esc, _, _ => none
  | c :: r, .sp, q, tok =>
    if (tok.length != 0 || q) then none
    else if ws c then lexGo r .sp q tok
    else if c = 92 then lexGo r .esc q tok
    else if c = 39 then lexGo r .sq q tok
    else if c = 34 then lexGo r .dq q tok
    else lexGo r .a q ⟨#[c]⟩
  | c :: r, .sq, _, tok => if c = 39 then lexGo r .a true tok else lexGo r .sq true (tok ++ ⟨#[c]⟩)
  | c :: r, .dq, _, tok => if c = 34 then lexGo r .a true tok else if c = 92 then none else lexGo r .dq true (tok ++ ⟨#[c]⟩)
  | c :: r, .esc, q, tok => lexGo r .a q (tok ++ ⟨#[c]⟩)
  | c :: r, .a, q, tok =>
    if ws c then (if (tok.length != 0 || q) then some (finT q tok, .sp, r) else none)
    else if c = 39 then lexGo r .sq q tok
    else if c = 34 then lexGo r .dq q tok
    else if c = 92 then lexGo r .esc q tok
    else lexGo r .a q (tok ++ ⟨#[c]⟩)
theorem isS_iff {c d : Nat} : isS c ⟨#[d]⟩ = decide (c = d) := by
  unfold isS
  by_cases h : c = d
  · subst h; simp
  · rw [decide_eq_false h, beq_eq_false_iff_ne]
    intro e; apply h
    have := congrArg (fun x : Str => x.cps.toList) e
    simpa using this
theorem ofS_nl : Str.ofString "\n" = ⟨#[10]⟩ := by decide
theorem ofS_ws : (Str.ofString " \t\r\n").cps.toList = [32, 9, 13, 10] := by decide
theorem ofS_q : (Str.ofString "'\"").cps.toList = [39, 34] := by decide
theorem ofS_e : (Str.ofString "\\").cps.toList = [92] := by decide
theorem ofS_d : (Str.ofString "\"").cps.toList = [34] := by decide
theorem inS_nil (c : Nat) : inS c (Str.ofString "") = false := by
  unfold inS; rw [show (Str.ofString "").cps.toList = [] from by decide]; simp
theorem cls (c : Nat) : c = 10 ∨ c = 92 ∨ c = 39 ∨ c = 34 ∨ (isS c (Str.ofString "\n") = false ∧ inS c (Str.ofString " \t\r\n") = true ∧ ws c = true) ∨
    (isS c (Str.ofString "\n") = false ∧ inS c (Str.ofString " \t\r\n") = false ∧ ws c = false ∧ inS c (Str.ofString "\\") = false ∧ inS c (Str.ofString "'\"") = false ∧ inS c (Str.ofString "\"") = false ∧ isS c ⟨#[39]⟩ = false ∧ isS c ⟨#[34]⟩ = false ∧ isS c ⟨#[92]⟩ = false ∧ c ≠ 92 ∧ c ≠ 39 ∧ c ≠ 34) := by
  by_cases h1 : c = 10; · exact .inl h1
  by_cases h2 : c = 92; · exact .inr (.inl h2)
  by_cases h3 : c = 39; · exact .inr (.inr (.inl h3))
  by_cases h4 : c = 34; · exact .inr (.inr (.inr (.inl h4)))
  by_cases h5 : ws c = true
  · refine .inr (.inr (.inr (.inr (.inl ⟨?_, ?_, h5⟩))))
    · rw [ofS_nl, isS_iff]; simpa using h1
    · unfold inS; rw [ofS_ws]; unfold ws at h5; simp only [Bool.or_eq_true, beq_iff_eq] at h5; simp; omega
  · refine .inr (.inr (.inr (.inr (.inr ⟨?_, ?_, ?_, ?_, ?_, ?_, ?_, ?_, ?_, h2, h3, h4⟩))))
    · rw [ofS_nl, isS_iff]; simpa using h1
    · unfold inS; rw [ofS_ws]; unfold ws at h5; simp only [Bool.or_eq_true, beq_iff_eq] at h5; simp; omega
    · simpa using h5
    · unfold inS; rw [ofS_e]; simpa using h2
    · unfold inS; rw [ofS_q]; simp; omega
    · unfold inS; rw [ofS_d]; simpa using h4
    · rw [isS_iff]; simpa using h3
    · rw [isS_iff]; simpa using h4
    · rw [isS_iff]; simpa using h2
theorem len1 (c : Nat) : (Str.mk #[c]).length = 1 := rfl
theorem finT_ne {tok : Str} (h : tok ≠ Str.ofString "") : finT false tok = some tok := by
  unfold finT
  rw [if_neg]
  intro e
  apply h
  have e1 : tok.length = 0 := by simpa using e
  cases tok with
  | mk a =>
    have : a = #[] := Array.eq_empty_of_size_eq_zero e1
    subst this; decide
inductive Lexes : List Nat → LS → List Str → Prop
  | stop {rs rs' : List Nat} {st st' : LS} : st ≠ .esc → lexGo rs st false (Str.ofString "") = some (none, st', rs') → Lexes rs st []
  | tok {rs rs' : List Nat} {st st' : LS} {x : Str} {xs : List Str} : st ≠ .esc → lexGo rs st false (Str.ofString "") = some (some x, st', rs') → Lexes rs' st' xs → Lexes rs st (x :: xs)
def optVal (t : Tok) : Option Str → Value
  | none => .none
  | some x => .str x t
/-- a block of one statement -/
theorem execs_one {prog : Program} {w : World} {A : Around} {E : Value → Shared → Prop} {s : Shared} {Q : Flow → Shared → Prop} {st : Stmt} {env : Env} (h : wpAny (model prog w) A (exec st env) Q E s) : wpAny (model prog w) A (execs [st] env) Q E s := by
  refine wpAny_execs_cons (wpAny_mono h (fun f s' hq => ?_) fun _ _ e => e)
  cases f with
  | next => exact wpAny_execs_nil hq
  | _ => exact hq
end Mine
end
section
open PySem PySem.W PyProof.Rows
namespace Mine
/-! the deque: made without arguments; its truth while it is empty -/
abbrev deqObj : Obj := { cls := .type "collections.deque", data := .fields #[.none, .int 0 0] }
theorem deq_mro : mroOf (.type "collections.deque") = pure [.type "collections.deque", .type "object"] := by rw [mroOf_type]; kernel_rfl
theorem deq_new : typeLookup (.type "collections.deque") "__new__" = pure (some (.builtin "collections.deque.__new__")) := by rw [typeLookup_type, builtinLookup_eq_fast]; kernel_rfl
theorem deq_noBool : typeLookup (.type "collections.deque") "__bool__" = pure none := by rw [typeLookup_type, builtinLookup_eq_fast]; kernel_rfl
theorem deq_slot_len : Slot "collections.deque" "__len__" "collections.deque.__len__" :=
  .of (owner := "collections.deque") (n := "__len__") (by rw [typeLookup_type, builtinLookup_eq_fast]; kernel_rfl) (by decide +kernel) (by decide +kernel) (by decide +kernel)
    (.inl (by rw [PySem.W.Fast.findQ_eq]; decide +kernel)) (by rw [isSubtype_type]; kernel_rfl)
theorem deq_slot_init : Slot "collections.deque" "__init__" "collections.deque.__init__" :=
  .of (owner := "collections.deque") (n := "__init__") (by rw [typeLookup_type, builtinLookup_eq_fast]; kernel_rfl) (by decide +kernel) (by decide +kernel) (by decide +kernel)
    (.inl (by rw [PySem.W.Fast.findQ_eq]; decide +kernel)) (by rw [isSubtype_type]; kernel_rfl)
theorem deq_entry_len : entryFor table "collections.deque.__len__" = some Builtin.«collections.deque.__len__» := entryFor_of_tree (by kernel_rfl)
theorem deq_entry_new : entryFor table "collections.deque.__new__" = some Builtin.«collections.deque.__new__» := entryFor_of_tree (by kernel_rfl)
theorem deq_entry_init : entryFor table "collections.deque.__init__" = some Builtin.«collections.deque.__init__» := entryFor_of_tree (by kernel_rfl)
theorem deq_args_len (a : Value) : argsOk "collections.deque.__len__" ⟨[a], []⟩ := by unfold argsOk; rw [PySem.W.Fast.signatureQ_eq]; kernel_rfl
theorem deq_args_init (a : Value) : argsOk "collections.deque.__init__" ⟨[a], []⟩ := by unfold argsOk; rw [PySem.W.Fast.signatureQ_eq]; kernel_rfl
theorem deq_typeCall : checkTypeCall "collections.deque" ⟨[], []⟩ = pure () := by unfold checkTypeCall; rw [PySem.W.Fast.signatureQ_eq]; kernel_rfl
theorem deq_newCall : checkBuiltinCall "collections.deque.__new__" ⟨[.type "collections.deque"], []⟩ = pure () := by unfold checkBuiltinCall; rw [PySem.W.Fast.signatureQ_eq, PySem.W.Fast.findQ_eq, PySem.W.Fast.canonicalQ_eq]; kernel_rfl
theorem deq_called : TypeCalled "collections.deque" "collections.deque.__new__" "collections.deque.__init__" :=
  ⟨by decide +kernel, by rw [PySem.W.Fast.findQ_eq]; decide +kernel, ⟨_, _, deq_mro⟩, madeBy_type deq_mro deq_new (by decide +kernel), by decide +kernel, by rw [isSubtype_type]; kernel_rfl, deq_slot_init⟩
theorem deq_sub : isSubtype (.type "collections.deque") (.type "collections.deque") = pure true := by rw [isSubtype_type]; kernel_rfl
section
variable {prog : Program} {w : World} {A : Around} {E : Value → Shared → Prop} {s : Shared}
theorem truthy_deq {d : Addr} {Q : Bool → Shared → Prop} (hd : s.heap.get? d = some deqObj) (h : ∀ tk, Q false { s with toks := tk }) : wpAny (model prog w) A (truthy (.ref d)) Q E s := by
  have hT : s.TypeIs (.ref d) "collections.deque" := ⟨_, hd, rfl⟩
  have key : wpAny (model prog w) A (runValue (.builtin "len" ⟨[.ref d], []⟩)) (fun r s' => (∃ t, r = .int 0 t) ∧ ∃ tk, s' = { s with toks := tk }) E s := by
    refine wpAny_runValue (codeAny_builtin entry_len ?_)
    rw [Around.under_plainId plain_len _]
    unfold Builtin.«len»
    refine wpAny_bind (m := oneArg "len" _) (wpAny_pure ?_)
    refine wpAny_bind (m := callSpecial? (.ref d) (Str.ofString "__len__")) (wpAny_callSpecial?_slot (name := Str.ofString "__len__") hT deq_slot_len
      (wpAny_call_entry deq_slot_len hT deq_entry_len ?_ (deq_args_len _)))
    show wpAny _ _ (Builtin.Deque.size (.ref d) >>= fun n => retInt (n : Nat)) _ _ s
    refine wpAny_bind ?_
    unfold Builtin.Deque.size fieldsOf
    refine wpAny_bind (wpAny_bind (wpAny_load hd ?_))
    refine wpAny_pure (wpAny_pure (wpAny_bind (wpAny_mkInt (wpAny_pure ⟨_, rfl, ?_⟩))))
    refine wpAny_bind (wpAny_holding (wpAny_pure ?_))
    refine wpAny_bind (wpAny_letGo ?_)
    refine wpAny_bind (wpAny_mkInt (wpAny_pure ⟨⟨_, rfl⟩, _, rfl⟩))
  unfold truthy
  first
    | refine wpAny_bind (wpAny_callSpecial?_none (name := Str.ofString "__bool__") hT deq_noBool ?_)
    | refine wpAny_bind (wpAny_pure (wpAny_bind (wpAny_callSpecial?_none (name := Str.ofString "__bool__") hT deq_noBool ?_)))
  first
    | refine wpAny_bind (wpAny_specialOf (name := Str.ofString "__len__") hT deq_slot_len.lookup ?_)
    | refine wpAny_bind (wpAny_pure (wpAny_bind (wpAny_specialOf (name := Str.ofString "__len__") hT deq_slot_len.lookup ?_)))
  first
    | exact wpAny_bind (wpAny_mono key (fun r s' h' => by obtain ⟨⟨t, rfl⟩, tk, rfl⟩ := h'; exact wpAny_pure (h tk)) fun _ _ e => e)
    | exact wpAny_bind (wpAny_pure (wpAny_bind (wpAny_mono key (fun r s' h' => by obtain ⟨⟨t, rfl⟩, tk, rfl⟩ := h'; exact wpAny_pure (h tk)) fun _ _ e => e)))
theorem call_deq {Q : Value → Shared → Prop} {h₀ : Heap} {L : Addr} {m : Str → Option Value} {news : List (Addr × Obj)} (F : Fr h₀ L s.heap m) (N : News h₀ L s.heap news)
    (h : ∀ d h', Fr h₀ L h' m → News h₀ L h' ((d, deqObj) :: news) → (∀ p ∈ news, p.1 < d) → Q (.ref d) { s with heap := h' }) : wpAny (model prog w) A (call (.type "collections.deque") []) Q E s := by
  refine callType_meets (Q₁ := fun obj s₁ => obj = .ref s.heap.objs.size ∧ s₁ = { s with heap := s.heap.push deqObj }) deq_called deq_typeCall deq_newCall deq_entry_new deq_entry_init
    (S := fun _ R s => R (.ok (.ret (.ref s.heap.objs.size))) { s with heap := s.heap.push deqObj }) ?_ ?_ ?_
  · refine Meets.of_wp fun prog w A R s hs => ?_
    unfold Builtin.«collections.deque.__new__» Builtin.Deque.newArgs Builtin.Deque.new
    have hsub : isSubtype (.type "collections.deque") (.type Builtin.Deque.ty) = pure true := deq_sub
    obtain ⟨hp, g, d, tk, os⟩ := s
    wp_walk
    exact ⟨_, rfl, hs⟩
  · exact ⟨rfl, rfl⟩
  · rintro obj s₁ ⟨rfl, rfl⟩
    have hg : (s.heap.push deqObj).get? s.heap.objs.size = some deqObj := Heap.get?_push_size _ rfl
    refine ⟨⟨_, hg, rfl⟩, deq_args_init _, fun _ R s' => s' = { s with heap := s.heap.push deqObj } ∧ R (.ok (.ret .none)) { s' with heap := s'.heap.update s.heap.objs.size (Obj.mapFields fun x => x.setIfInBounds 0 .none) }, ?_, ⟨rfl, rfl, ?_⟩⟩
    · refine Meets.of_wp fun prog w A R s' hs => ?_
      obtain ⟨rfl, hs⟩ := hs
      unfold Builtin.«collections.deque.__init__»
      wp_walk
      exact ⟨_, rfl, hs⟩
    · have F₁ := F.push deqObj
      have N₁ := N.push F deqObj
      obtain ⟨F₂, N₂⟩ := news_upd (pre := []) (post := news) (f := Obj.mapFields fun x => x.setIfInBounds 0 .none) (o' := deqObj) F₁ N₁ (fun _ hp => nomatch hp) (fun p hp => Nat.ne_of_lt (Heap.lt_size (N p hp).1)) rfl rfl
      exact h _ _ F₂ N₂ fun p hp => Heap.lt_size (N p hp).1
end
end Mine
end
section
open PySem PySem.W PyProof.Rows
namespace Mine
/-! the one pattern's search -/
def codeP : Array Nat := #[14, 17, 4, 1, 1, 21, 9, 0, 604043296, 1, 0, 0, 0, 0, 0, 8, 4, 0, 13, 14, 21, 9, 0, 604043296, 1, 0, 0, 0, 0, 0, 8, 4, 0, 1]
def bitP (c : Nat) : Bool := c < 256 && (codeP.getD (6 + (1 + c / 32)) 0).testBit (c % 32)
def unsafeC (c : Nat) : Bool := !(bitP c || Sre.isWord c)
theorem cat4 (c : Nat) : Sre.category 4 c = .ok (Sre.isWord c) := by
  unfold Sre.category
  simp [Except.map]
def bitQ (c : Nat) : Bool := c < 256 && (codeP.getD (21 + (1 + c / 32)) 0).testBit (c % 32)
theorem tabs_eq : ∀ j : Nat, j < 8 → codeP.getD (21 + (1 + j)) 0 = codeP.getD (6 + (1 + j)) 0 := by decide
theorem bitQ_eq (c : Nat) : bitQ c = bitP c := by
  unfold bitQ bitP
  by_cases h : c < 256
  · rw [tabs_eq (c / 32) (by omega)]
  · simp [h]
theorem inSet5 (c : Nat) (seen : Sre.Seen) : ∃ s', Sre.inSet codeP c 34 5 true seen = .ok (unsafeC c, s') := by
  have e : ∃ s2 s3 s4, Sre.inSet codeP c 34 5 true seen = (if bitP c = true then .ok (false, s2) else (do if ← Sre.category 4 c then pure (false, s3) else .ok (true, s4))) := ⟨_, _, _, rfl⟩
  obtain ⟨s2, s3, s4, e⟩ := e
  rw [e]
  unfold unsafeC
  cases hb : bitP c with
  | true => exact ⟨s2, rfl⟩
  | false =>
    have hc := cat4 c
    rw [if_neg Bool.false_ne_true, hc]
    cases hw : Sre.isWord c with
    | true => exact ⟨s3, rfl⟩
    | false => exact ⟨s4, rfl⟩
theorem inSet20 (c : Nat) (seen : Sre.Seen) : ∃ s', Sre.inSet codeP c 34 20 true seen = .ok (unsafeC c, s') := by
  have e : ∃ s2 s3 s4, Sre.inSet codeP c 34 20 true seen = (if bitQ c = true then .ok (false, s2) else (do if ← Sre.category 4 c then pure (false, s3) else .ok (true, s4))) := ⟨_, _, _, rfl⟩
  obtain ⟨s2, s3, s4, e⟩ := e
  rw [e, bitQ_eq]
  unfold unsafeC
  cases hb : bitP c with
  | true => exact ⟨s2, rfl⟩
  | false =>
    have hc := cat4 c
    rw [if_neg Bool.false_ne_true, hc]
    cases hw : Sre.isWord c with
    | true => exact ⟨s3, rfl⟩
    | false => exact ⟨s4, rfl⟩
theorem admitted_spec (m : Sre.M) (hc : m.code = codeP) : ∀ (fuel s : Nat) (seen : Sre.Seen), m.lim = m.text.size → m.lim < fuel + s →
    ∃ s', ((m.text.toList.drop s).any unsafeC = false ∧ Sre.M.admitted m fuel s seen = .ok (none, s')) ∨ ∃ q, q < m.lim ∧ unsafeC (m.text.getD q 0) = true ∧ (m.text.toList.drop s).any unsafeC = true ∧ Sre.M.admitted m fuel s seen = .ok (some q, s')
  | 0, s, seen, hl, hf => ⟨seen, .inl ⟨by rw [List.drop_of_length_le (by simp; omega)]; rfl, rfl⟩⟩
  | fuel + 1, s, seen, hl, hf => by
    unfold Sre.M.admitted
    by_cases hs : s ≥ m.lim
    · rw [if_pos hs]
      exact ⟨seen, .inl ⟨by rw [List.drop_of_length_le (by simp; omega)]; rfl, rfl⟩⟩
    · rw [if_neg hs]
      have hlt : s < m.text.size := by omega
      obtain ⟨s1, h1⟩ := inSet5 (m.text.getD s 0) seen
      have hd : m.text.toList.drop s = m.text.getD s 0 :: m.text.toList.drop (s + 1) := by
        rw [List.drop_eq_getElem_cons (by simpa using hlt)]
        congr 1
        simp [Array.getD, hlt]
      rw [hc, show codeP.size = 34 from rfl, h1]
      cases hu : unsafeC (m.text.getD s 0) with
      | true =>
        exact ⟨s1, .inr ⟨s, by omega, hu, by rw [hd, List.any_cons, hu]; rfl, rfl⟩⟩
      | false =>
        obtain ⟨s', h⟩ := admitted_spec m hc fuel (s + 1) s1 hl (by omega)
        rw [hd, List.any_cons, hu, Bool.false_or]
        exact ⟨s', h⟩
/-- what the machine comes to -/
abbrev m0 (x : Array Nat) : Sre.M := { code := codeP, text := x, lim := x.size, start := 0, lastStart := x.size, pc := 18, pos := 0, handed := 0, marks := #[], mustAdvance := false, seen := ({} : Sre.Seen).add 14 }
theorem forSearch_is {x : Array Nat} (hx : 0 < x.size) : Sre.forSearch codeP x 0 0 x.size false = Sre.M.attemptFrom (m0 x) 0 true := by
  have e : ∃ r, Sre.forSearch codeP x 0 0 x.size false = (if (decide (0 > x.size) || decide (x.size - 0 < 1)) = true then r else Sre.M.attemptFrom (m0 x) 0 true) := ⟨_, rfl⟩
  obtain ⟨r, e⟩ := e
  rw [e, if_neg]
  intro hcon
  simp only [Bool.or_eq_true, decide_eq_true_eq] at hcon
  omega
theorem search_fail {x : Array Nat} (h : x.toList.any unsafeC = false) (hx : 0 < x.size) : ((Sre.forSearch codeP x 0 0 x.size false).runFor 4).outcome = some .failed := by
  rw [forSearch_is hx]
  obtain ⟨s', h1 | ⟨q, _, _, h2, _⟩⟩ := admitted_spec (m0 x) rfl ((m0 x).lim + 1 - 0) 0 (m0 x).seen rfl (by show x.size < x.size + 1 - 0 + 0; omega)
  · have e : Sre.M.attemptFrom (m0 x) 0 true = Sre.M.say { m0 x with seen := s' } false := by
      unfold Sre.M.attemptFrom
      rw [h1.2]
      rfl
    rw [e]
    rfl
  · rw [show (m0 x).text.toList.drop 0 = x.toList from rfl, h] at h2; cases h2
theorem search_hit {x : Array Nat} (h : x.toList.any unsafeC = true) (hx : 0 < x.size) : ((Sre.forSearch codeP x 0 0 x.size false).runFor 4).outcome = some .matched := by
  rw [forSearch_is hx]
  obtain ⟨s', h1 | ⟨q, hq, hu, h2, h3⟩⟩ := admitted_spec (m0 x) rfl ((m0 x).lim + 1 - 0) 0 (m0 x).seen rfl (by show x.size < x.size + 1 - 0 + 0; omega)
  · rw [show (m0 x).text.toList.drop 0 = x.toList from rfl, h] at h1; cases h1.1
  · have e : Sre.M.attemptFrom (m0 x) 0 true = { m0 x with start := q, pos := q, handed := q, frames := [{ wait := .nextStart, pc := 18, pos := q, outermost := true }], weight := 1, seen := s' } := by
      unfold Sre.M.attemptFrom
      rw [h3]
      rfl
    rw [e]
    obtain ⟨s2, h4⟩ := inSet20 (x.getD q 0) (s'.add 13)
    rw [show unsafeC (x.getD q 0) = true from hu] at h4
    have st1 : Sre.M.step { m0 x with start := q, pos := q, handed := q, frames := [{ wait := .nextStart, pc := 18, pos := q, outermost := true }], weight := 1, seen := s' } =
        { m0 x with start := q, pos := q + 1, handed := q, pc := 33, frames := [{ wait := .nextStart, pc := 18, pos := q, outermost := true }], weight := 1, seen := s2 } := by
      have e1 : Sre.M.step { m0 x with start := q, pos := q, handed := q, frames := [{ wait := .nextStart, pc := 18, pos := q, outermost := true }], weight := 1, seen := s' } =
        (if q ≥ x.size then _ else match Sre.inSet codeP (x.getD q 0) 34 20 true (s'.add 13) with
          | .error why => _
          | .ok (false, seen) => _
          | .ok (true, seen) => { m0 x with start := q, pos := q + 1, handed := q, pc := 33, frames := [{ wait := .nextStart, pc := 18, pos := q, outermost := true }], weight := 1, seen := seen }) := rfl
      rw [e1, if_neg (Nat.not_le.mpr hq), h4]
    show (Sre.M.runFor 3 (Sre.M.step _)).outcome = _
    rw [st1]
    rfl
/-! the call of the bound method -/
abbrev boundSearch (P : Addr) : Obj := { cls := .type "builtin_function_or_method", data := .fields #[.builtin "re.Pattern.search", .ref P] }
abbrev patObj (src fl : Value) (C : Addr) : Obj := { cls := .type "re.Pattern", data := .fields #[src, fl, .int 0 0, .none, .none, .ref C, .int 0 0] }
abbrev codeVals : Array Value := #[.int 14 0, .int 17 0, .int 4 0, .int 1 0, .int 1 0, .int 21 0, .int 9 0, .int 0 0, .int 604043296 0, .int 1 0, .int 0 0, .int 0 0, .int 0 0, .int 0 0, .int 0 0, .int 8 0, .int 4 0, .int 0 0, .int 13 0, .int 14 0, .int 21 0, .int 9 0, .int 0 0, .int 604043296 0, .int 1 0, .int 0 0, .int 0 0, .int 0 0, .int 0 0, .int 0 0, .int 8 0, .int 4 0, .int 0 0, .int 1 0]
abbrev codeTup (n : Nat) : Obj := { cls := .type "tuple", data := .seq codeVals n }
theorem entry_search : entryFor table "re.Pattern.search" = some Builtin.«re.Pattern.search» := entryFor_of_tree (by kernel_rfl)
theorem plain_search : plainId "re.Pattern.search" = true := by decide +kernel
section
variable {prog : Program} {w : World} {A : Around} {E : Value → Shared → Prop} {s : Shared}
theorem named_ok (x : Str) (t : Tok) : Builtin.Re.reNamed "re.Pattern.search" "search" ["string", "pos", "endpos"] 1 [.str x t] [] = pure [some (.str x t), none, none] := by kernel_rfl
theorem rules_ok {m : Sre.M} {Q : PUnit → Shared → Prop} (h : Q ⟨⟩ s) : ∀ l : List Nat, wpAny (model prog w) A (forIn l PUnit.unit fun i _ => if m.seen.has i = true then rule (Sre.names.getD i "") >>= fun _ => pure (ForInStep.yield PUnit.unit) else pure (ForInStep.yield PUnit.unit)) Q E s
  | [] => wpAny_pure h
  | i :: r => by
    rw [List.forIn_cons]
    refine wpAny_bind ?_
    split
    · exact wpAny_bind (wpAny_rule (wpAny_pure (rules_ok h r)))
    · exact wpAny_pure (rules_ok h r)
theorem drive_done {m : Sre.M} (n : Nat) (h : (m.runFor 4).outcome.isSome = true) : Builtin.Re.reDrive (n + 1) m = pure (m.runFor 4) := by
  show (if (m.runFor Builtin.Re.reTurnSteps).outcome.isSome = true then pure (m.runFor Builtin.Re.reTurnSteps) else _) = _
  rw [if_pos (show (m.runFor Builtin.Re.reTurnSteps).outcome.isSome = true from h)]
  rfl
theorem pow64 : (2 : Nat) ^ 64 = 18446744073709551615 + 1 := by decide
theorem search_tree {P C : Addr} {src fl : Value} {n : Nat} {x : Str} {t : Tok} {Q : Fin → Shared → Prop} (hx : 0 < x.length) (hl : x.length ≤ 16777216)
    (hp : s.heap.get? P = some (patObj src fl C)) (hc : s.heap.get? C = some (codeTup n))
    (h0 : x.cps.toList.any unsafeC = false → Q (.done (.ret .none)) s)
    (h1 : x.cps.toList.any unsafeC = true → ∀ (o1 o2 : Obj), o1.isFreed = false → o2.isFreed = false → Q (.done (.ret (.ref (s.heap.push o1).objs.size))) { s with heap := (s.heap.push o1).push o2 }) :
    wpAny (model prog w) A (Builtin.«re.Pattern.search» ⟨[.ref P, .str x t], []⟩) Q E s := by
  unfold Builtin.«re.Pattern.search» Builtin.Re.reTarget
  refine wpAny_bind ?_
  dsimp only
  refine wpAny_bind (wpAny_of_eq (named_ok x t) ?_)
  dsimp only
  refine wpAny_bind (wpAny_pure (wpAny_bind (wpAny_pure ?_)))
  unfold fieldsOf
  refine wpAny_bind (wpAny_bind (wpAny_load hp (wpAny_pure ?_)))
  refine wpAny_bind (wpAny_of_eq (a := (x.cps, 0)) rfl ?_)
  dsimp only
  refine KFB.if_not rfl (KFB.if_not rfl ?_)
  refine wpAny_bind (wpAny_of_eq (a := ()) rfl ?_)
  unfold Builtin.Re.reRawItems
  refine wpAny_bind (wpAny_bind ?_)
  show wpAny _ _ (seqItems? (.ref C)) _ _ _
  unfold seqItems?
  refine wpAny_bind (wpAny_load hc (wpAny_pure (wpAny_pure (wpAny_pure ?_))))
  have e3 : Array.map (fun z : Int => z.toNat) (Array.map Builtin.Re.reRawOf ((some codeVals).getD #[])) = codeP := by decide +kernel
  have e2 : min (2 ^ 63 - 1 : Int).toNat x.cps.size = x.cps.size := by
    have : (2 ^ 63 - 1 : Int).toNat = 9223372036854775807 := by decide
    have hl' : x.cps.size ≤ 16777216 := hl
    rw [this]; omega
  have e1 : min (0 : Int).toNat x.cps.size = 0 := Nat.zero_min _
  dsimp only
  rw [e3, e2, e1]
  unfold Builtin.Re.reAnswer Builtin.Re.reRunToEnd
  show wpAny _ _ ((Builtin.Re.reDrive (2 ^ 64) (Sre.forSearch codeP x.cps 0 0 x.cps.size false) >>= fun m => _) >>= _) _ _ _
  rw [pow64]
  cases hu : x.cps.toList.any unsafeC with
  | false =>
    have ho := search_fail hu hx
    rw [drive_done _ (by rw [ho]; rfl)]
    refine wpAny_bind (wpAny_bind (wpAny_pure ?_))
    refine wpAny_bind (rules_ok ?_ _)
    dsimp only
    rw [ho]
    exact wpAny_pure (wpAny_pure (h0 hu))
  | true =>
    have ho := search_hit hu hx
    rw [drive_done _ (by rw [ho]; rfl)]
    refine wpAny_bind (wpAny_bind (wpAny_pure ?_))
    refine wpAny_bind (rules_ok ?_ _)
    dsimp only
    rw [ho]
    refine wpAny_pure ?_
    show wpAny _ _ (Builtin.Re.reNewMatch (.ref P) (.str x t) 0 0 x.cps.size _ >>= fun v => ret v) _ _ _
    generalize Sre.M.runFor 4 (Sre.forSearch codeP x.cps 0 0 x.cps.size false) = mm
    unfold Builtin.Re.reNewMatch
    refine wpAny_bind ?_
    show wpAny _ _ (newTuple [rawInt mm.start, rawInt mm.handed] >>= fun tv => newFields "re.Match" [.str x t, .ref P, rawInt (0 : Nat), rawInt (x.cps.size : Nat), rawInt mm.lastindex, tv]) _ _ _
    refine wpAny_bind (wpAny_newObj_type ?_)
    unfold newFields
    refine wpAny_newObj_type ?_
    exact wpAny_pure (h1 hu _ _ rfl rfl)
end
end Mine
end
section
open PySem PySem.W PyProof.Rows
namespace Mine
/-! texts as lists of signs -/
def ofL (l : List Nat) : Str := ⟨l.toArray⟩
theorem ofL_toL (l : List Nat) : (ofL l).cps.toList = l := rfl
theorem toL_ofL (x : Str) : ofL x.cps.toList = x := by cases x; rfl
theorem ofL_len (l : List Nat) : (ofL l).length = l.length := rfl
theorem ofL_append (a b : List Nat) : ofL a ++ ofL b = ofL (a ++ b) := by
  show Str.mk (a.toArray ++ b.toArray) = Str.mk (a ++ b).toArray
  rw [List.append_toArray]
theorem Str_ext {x y : Str} (h : x.cps.toList = y.cps.toList) : x = y := by
  rw [← toL_ofL x, ← toL_ofL y, h]
def sub1 (c : Nat) (z l : List Nat) : List Nat := l.flatMap fun k => if k = c then z else [k]
theorem sub1_append (c : Nat) (z a b : List Nat) : sub1 c z (a ++ b) = sub1 c z a ++ sub1 c z b := List.flatMap_append
theorem sub1_free (c : Nat) (z : List Nat) : ∀ l : List Nat, c ∉ l → sub1 c z l = l
  | [], _ => rfl
  | k :: r, h => by
    have h1 : ¬ k = c := fun e => h (e ▸ List.mem_cons_self ..)
    have h2 : c ∉ r := fun m => h (List.mem_cons_of_mem _ m)
    show (if k = c then z else [k]) ++ sub1 c z r = _
    rw [if_neg h1, sub1_free c z r h2]; rfl
theorem sub1_join (c : Nat) (z : Str) : ∀ parts : List Str, (∀ p ∈ parts, c ∉ p.cps.toList) → sub1 c z.cps.toList (Str.join ⟨#[c]⟩ parts).cps.toList = (Str.join z parts).cps.toList
  | [], _ => rfl
  | [p], h => sub1_free c _ _ (h p (List.mem_singleton.mpr rfl))
  | p :: q :: r, h => by
    have ih := sub1_join c z (q :: r) fun a ha => h a (List.mem_cons_of_mem _ ha)
    show sub1 c z.cps.toList (p ++ ⟨#[c]⟩ ++ Str.join ⟨#[c]⟩ (q :: r)).cps.toList = (p ++ z ++ Str.join z (q :: r)).cps.toList
    simp only [Str.cps_append, Array.toList_append]
    rw [sub1_append, sub1_append, ih, sub1_free c _ _ (h p (List.mem_cons_self ..))]
    show _ ++ sub1 c _ [c] ++ _ = _
    rw [show sub1 c z.cps.toList [c] = z.cps.toList from by simp [sub1]]
theorem replace_sub (x z : Str) (c : Nat) : Txt.replace x ⟨#[c]⟩ z = ofL (sub1 c z.cps.toList x.cps.toList) := by
  refine Str_ext ?_
  rw [ofL_toL, StrLaws.replace_one, ← sub1_join c z _ (StrLaws.split_free x c), StrLaws.join_split]
theorem sub1_len (c : Nat) (z : List Nat) (n : Nat) (hn : 1 ≤ n) (hz : z.length ≤ n) : ∀ l : List Nat, (sub1 c z l).length ≤ n * l.length
  | [] => Nat.zero_le _
  | k :: r => by
    show ((if k = c then z else [k]) ++ sub1 c z r).length ≤ _
    have ih := sub1_len c z n hn hz r
    rw [List.length_append, List.length_cons, Nat.mul_add, Nat.mul_one]
    split
    · omega
    · simp only [List.length_cons, List.length_nil]; omega
/-- html.escape, sign by sign -/
def escC (q : Bool) (k : Nat) : List Nat :=
  if k = 38 then [38, 97, 109, 112, 59] else if k = 60 then [38, 108, 116, 59] else if k = 62 then [38, 103, 116, 59]
  else if q = true ∧ k = 34 then [38, 113, 117, 111, 116, 59] else if q = true ∧ k = 39 then [38, 35, 120, 50, 55, 59] else [k]
def escL (q : Bool) (l : List Nat) : List Nat := l.flatMap (escC q)
theorem flat_flat {f g : Nat → List Nat} (l : List Nat) : (l.flatMap f).flatMap g = l.flatMap fun k => (f k).flatMap g := List.flatMap_assoc
theorem esc3 (l : List Nat) : sub1 62 [38, 103, 116, 59] (sub1 60 [38, 108, 116, 59] (sub1 38 [38, 97, 109, 112, 59] l)) = escL false l := by
  unfold sub1 escL
  rw [flat_flat, flat_flat]
  congr 1; funext k
  unfold escC
  by_cases h1 : k = 38; · subst h1; rfl
  by_cases h2 : k = 60; · subst h2; rfl
  by_cases h3 : k = 62; · subst h3; rfl
  simp [h1, h2, h3]
theorem esc5 (l : List Nat) : sub1 39 [38, 35, 120, 50, 55, 59] (sub1 34 [38, 113, 117, 111, 116, 59] (escL false l)) = escL true l := by
  unfold sub1 escL
  rw [flat_flat, flat_flat]
  congr 1; funext k
  unfold escC
  by_cases h1 : k = 38; · subst h1; rfl
  by_cases h2 : k = 60; · subst h2; rfl
  by_cases h3 : k = 62; · subst h3; rfl
  by_cases h4 : k = 34; · subst h4; rfl
  by_cases h5 : k = 39; · subst h5; rfl
  simp [h1, h2, h3, h4, h5]
theorem flat_len {f : Nat → List Nat} {n : Nat} (hf : ∀ k, (f k).length ≤ n) : ∀ l : List Nat, (l.flatMap f).length ≤ n * l.length
  | [] => Nat.zero_le _
  | k :: r => by
    have ih := flat_len hf r
    have := hf k
    rw [List.flatMap_cons, List.length_append, List.length_cons, Nat.mul_add, Nat.mul_one]; omega
theorem escC_len (q : Bool) (k : Nat) : (escC q k).length ≤ 6 := by
  unfold escC
  (repeat' split) <;> simp
theorem escL_len (q : Bool) (l : List Nat) : (escL q l).length ≤ 6 * l.length := flat_len (escC_len q) l
/-- shlex.quote -/
def qt (l : List Nat) : List Nat := if l = [] then [39, 39] else if l.any unsafeC then 39 :: (sub1 39 [39, 34, 39, 34, 39] l ++ [39]) else l
theorem qt_len (l : List Nat) : (qt l).length ≤ 5 * l.length + 2 := by
  unfold qt
  split
  · simp
  · split
    · have := sub1_len 39 [39, 34, 39, 34, 39] 5 (by decide) (by decide) l
      simp only [List.length_cons, List.length_append, List.length_nil]; omega
    · omega
theorem ofS_apos : Str.ofString "'" = ofL [39] := by decide
theorem ofS_qapos : Str.ofString "'\"'\"'" = ofL [39, 34, 39, 34, 39] := by decide
theorem ofS_two : Str.ofString "''" = ofL [39, 39] := by decide
theorem replace_lit {x y z : Str} {c : Nat} {zl : List Nat} (hy : y = ofL [c]) (hz : z = ofL zl) : Txt.replace x y z = ofL (sub1 c zl x.cps.toList) := by
  subst hy; subst hz; exact replace_sub x (ofL zl) c
section
variable {prog : Program} {w : World} {A : Around} {E : Value → Shared → Prop} {s : Shared} {x y z : Str} {t u v : Tok} {Q : Value → Shared → Prop}
/-- str.replace, the tokens' count told -/
theorem replace_mono (hu : u ≠ 0) (hv : v ≠ 0) (huv : u ≠ v) (hyz : (y == z) = false) (hx : x.length ≤ 1000000) (hz : z.length ≤ 14)
    (hq : ∀ t' k, s.toks ≤ k → Q (.str (Txt.replace x y z) t') { s with toks := k }) : wpAny (model prog w) A (call (.builtin "str.replace") [.str x t, .str y u, .str z v]) Q E s := by
  have hb : x.length + (x.length + 1) * z.length ≤ 16777216 := by
    have h1 : (x.length + 1) * z.length ≤ (x.length + 1) * 14 := Nat.mul_le_mul_left _ hz
    omega
  have hl : Builtin.Str.tooLong (x.length + (Builtin.Str.occurrences x y 0 x.length (x.length + 1)).length * z.length) = false := by
    have h1 := StrLaws.occ_length_le x y 0 x.length (x.length + 1)
    have h2 := Nat.mul_le_mul_right z.length h1
    unfold Builtin.Str.tooLong
    rw [sizeLine_eq]
    exact decide_eq_false (by omega)
  refine call_gives PySem.F.slot_str_replace (typeIs_str _ _ _) PySem.F.entry_str_replace (PySem.F.args_str_replace_3 _ _ _)
    (gives_str_replace x y z t u v fun _ => ⟨by simp [hu, hv], by simp [huv], hyz, hl⟩) ?_
  unfold Txt.replace at hq
  split at hq
  · rename_i hc
    rw [if_pos hc]
    exact hq t s.toks (Nat.le_refl _)
  · rename_i hc
    rw [if_neg hc]
    exact ⟨fits_replaced y hb, hq _ _ (Nat.le_succ _)⟩
end
def safeS : Str := Str.ofString "abcdefghijklmnopqrstuvwxyzABCDEFGHIJKLMNOPQRSTUVWXYZ0123456789_@%+=:,./-"
def inS' (c : Nat) (y : Str) : Bool := decide (c ∈ y.cps.toList)
theorem safe_small : ∀ c : Nat, c < 128 → inS' c safeS = !unsafeC c := by decide +kernel
theorem safe_all : ∀ c ∈ safeS.cps.toList, c < 128 := by decide +kernel
theorem tab_big : ∀ j : Nat, j < 8 → 4 ≤ j → codeP.getD (6 + (1 + j)) 0 = 0 := by decide
theorem safe_unsafe (c : Nat) : inS' c safeS = !unsafeC c := by
  by_cases h : c < 128
  · exact safe_small c h
  · have h1 : inS' c safeS = false := decide_eq_false fun hm => h (safe_all c hm)
    have h2 : bitP c = false := by
      unfold bitP
      by_cases h5 : c < 256
      · rw [tab_big (c / 32) (by omega) (by omega)]; simp
      · simp [h5]
    have h3 : Sre.isWord c = false := by
      unfold Sre.isWord Sre.isDigit
      simp only [Bool.or_eq_false_iff, Bool.and_eq_false_iff, decide_eq_false_iff_not, beq_eq_false_iff_ne]
      omega
    rw [h1]; unfold unsafeC; rw [h2, h3]; rfl
/-- the law's own test -/
def isSafe (l : List Nat) : Bool := !l.isEmpty && !l.any unsafeC
def joinL (z : List Nat) : List (List Nat) → List Nat
  | [] => []
  | [x] => x
  | x :: y :: r => x ++ z ++ joinL z (y :: r)
theorem join_ofL (z : List Nat) : ∀ ls : List (List Nat), Str.join (ofL z) (ls.map ofL) = ofL (joinL z ls)
  | [] => rfl
  | [x] => rfl
  | x :: y :: r => by
    have ih := join_ofL z (y :: r)
    show ofL x ++ ofL z ++ Str.join (ofL z) ((y :: r).map ofL) = ofL (x ++ z ++ joinL z (y :: r))
    rw [ih, ofL_append, ofL_append]
theorem joinT_ofL (z : List Nat) (ls : List (List Nat)) : Txt.join (ofL z) (ls.map ofL) = ofL (joinL z ls) := by
  unfold Txt.join
  rw [StrLaws.glued_eq_join, join_ofL]
theorem joinL_nil : ∀ ls : List (List Nat), joinL [] ls = ls.flatten
  | [] => rfl
  | [x] => by simp [joinL]
  | x :: y :: r => by
    show x ++ [] ++ joinL [] (y :: r) = _
    rw [joinL_nil (y :: r)]; simp
theorem ofS_nil : Str.ofString "" = ofL [] := by decide
theorem ofS_sp : Str.ofString " " = ofL [32] := by decide
end Mine
end
section
open PySem PySem.W PyProof.Rows PyProof.V PySem.Spec
namespace Mine
/-! lists of texts compared -/
theorem st_canLay : ∀ ns : List Str, (∀ x ∈ ns, PyData.strOk x = true) → PyData.canLayAll0 (ns.map PyData.str) = true
  | [], _ => rfl
  | x :: r, h => by simp [PyData.canLayAll0, PyData.canLay0, st_canLay r fun y hy => h y (.tail _ hy), h x (.head _)]
theorem st_depth : ∀ ns : List Str, PyData.depthAll (ns.map PyData.str) = 0
  | [] => rfl
  | _ :: r => by simp [PyData.depthAll, PyData.depth, st_depth r]
theorem st_shaped (ns : List Str) (h : ∀ x ∈ ns, PyData.strOk x = true) : SeqAt.shaped (.list (ns.map PyData.str)) = true := by
  simp [SeqAt.shaped, PyData.canLay0, PyData.depth, st_canLay ns h, st_depth]
theorem st_same : ∀ ns ms : List Str, PySem.Spec.sameAll (ns.map PyData.str) (ms.map PyData.str) = decide (ns = ms)
  | [], [] => by simp [PySem.Spec.sameAll]
  | [], _ :: _ => by simp [PySem.Spec.sameAll]
  | _ :: _, [] => by simp [PySem.Spec.sameAll]
  | a :: r, b :: t => by
    simp only [List.map_cons, PySem.Spec.sameAll, PySem.Spec.same, st_same r t]
    by_cases h : a = b <;> by_cases h' : r = t <;> simp [h, h']
section
variable {prog : Program} {w : World} {A : Around} {E : Value → Shared → Prop} {s : Shared} {a b : Addr} {xs ys : List Value} {ns ms : List Str} {Q : Value → Shared → Prop}
theorem eq_strs (ha : s.heap.IsList a xs.toArray) (hb : s.heap.IsList b ys.toArray) (hi : StrsAre xs ns) (hj : StrsAre ys ms) (oi : ∀ x ∈ ns, PyData.strOk x = true) (oj : ∀ x ∈ ms, PyData.strOk x = true) (hu : A.units + 64 < cLine) (h : Q (.bool (decide (ns = ms))) s) :
    wpAny (model prog w) A (compareOp .Eq (.ref a) (.ref b)) Q E s :=
  eq_dataH_same (reads_newData ha hi.carried) (reads_newData hb hj.carried) (st_shaped _ oi) (st_shaped _ oj) hu (SeqAt.noMix_of_shape (.list .str) rfl _ _ (list_map_has fun _ => rfl) (list_map_has fun _ => rfl)) (by simp only [PySem.Spec.same]; rw [st_same]; exact h)
theorem ne_strs (ha : s.heap.IsList a xs.toArray) (hb : s.heap.IsList b ys.toArray) (hi : StrsAre xs ns) (hj : StrsAre ys ms) (oi : ∀ x ∈ ns, PyData.strOk x = true) (oj : ∀ x ∈ ms, PyData.strOk x = true) (hu : A.units + 64 < cLine) (h : Q (.bool (!decide (ns = ms))) s) :
    wpAny (model prog w) A (compareOp .NotEq (.ref a) (.ref b)) Q E s :=
  ne_dataH_same (reads_newData ha hi.carried) (reads_newData hb hj.carried) (st_shaped _ oi) (st_shaped _ oj) hu (SeqAt.noMix_of_shape (.list .str) rfl _ _ (list_map_has fun _ => rfl) (list_map_has fun _ => rfl)) (by simp only [PySem.Spec.same]; rw [st_same]; exact h)
end
/-! a comprehension over a text's signs -/
open LCg LCt
section
variable {prog : Program} {w : World} {A : Around} {E : Value → Shared → Prop} {s : Shared} {h₀ : Heap} {L : Addr} {m : Str → Option Value} {env : Env}
def TxSrc (prog : Program) (w : World) (A : Around) (h₀ : Heap) (L : Addr) (m : Str → Option Value) (env : Env) (elt : Expr) (x : Str) (scope : Scope) (cl : List (Str × Addr)) (Fin : Shared → List Value → List (Addr × Obj) → Prop) (xv : Value) (s₁ : Shared) : Prop :=
  ∃ y t news, xv = .str y t ∧ A.handled = none ∧ Fr h₀ L s₁.heap m ∧ News h₀ L s₁.heap news ∧ y.cps.size ≤ sizeLine ∧
    ∀ s₂ : Shared, (∃ h, s₂ = { s₁ with heap := h }) → CompRest prog w A h₀ L m env elt x scope cl s₂ (fun _ => True) (SignAt y) (Fin s₂) y.cps.size 0 [] news
def TxSrcT (prog : Program) (w : World) (A : Around) (h₀ : Heap) (L : Addr) (m : Str → Option Value) (env : Env) (ct elt : Expr) (x : Str) (scope : Scope) (cl : List (Str × Addr)) (Fin : Shared → List Value → List (Addr × Obj) → Prop) (xv : Value) (s₁ : Shared) : Prop :=
  ∃ y t news, xv = .str y t ∧ A.handled = none ∧ Fr h₀ L s₁.heap m ∧ News h₀ L s₁.heap news ∧ y.cps.size ≤ sizeLine ∧
    ∀ s₂ : Shared, (∃ h, s₂ = { s₁ with heap := h }) → CompRestT prog w A h₀ L m env ct elt x scope cl s₂ (fun _ => True) (SignAt y) (Fin s₂) y.cps.size 0 [] news
theorem strIter_has {I : Addr} {T : String} {y : Str} {t : Tok} (i : Nat) (h : Heap) (st : h.IsStrIter I T y t i) : ∃ o, h.get? I = some o := by obtain ⟨o, e, _⟩ := st; exact ⟨o, e⟩
theorem strIter_st {I : Addr} {T : String} {y : Str} {t : Tok} (i : Nat) (h h' : Heap) (o : Obj) (nw : List (Addr × Obj)) (st : h.IsStrIter I T y t i) (e : h.get? I = some o) (e' : h'.get? I = some o)
    (_ : ∀ b o, h₀.get? b = some o → h'.get? b = some o) (_ : News h₀ L h' nw) (_ : (fun _ : List (Addr × Obj) => True) nw) : h'.IsStrIter I T y t i := by
  obtain ⟨o', e₁, r⟩ := st
  rw [e] at e₁
  cases e₁
  exact ⟨o, e', r⟩
theorem fin_back {scope : Scope} {s₂ : Shared} {Q : Value → Shared → Prop} {D C : Addr} {h : Heap} {tk : Nat} {ys : List Value} {news' : List (Addr × Obj)}
    (F' : Fr h₀ L h m) (N' : News h₀ L h ((D, lst ys) :: news')) (o1 : Off1 D news') (hC₀ : h₀.get? C = none) (hCL : C ≠ L) (hCD : C ≠ D) (offC : ∀ p ∈ news', p.1 ≠ C) (fin : FinE h₀ L m s₂ Q ys news') :
    ∀ h'', Heap.SameBut C h h'' → Q (.ref D) { s₂ with heap := h'', toks := tk } := fun h'' hs'' => by
  refine fin D h'' tk (F'.change hs'' hCL hC₀) (fun p hp => ⟨hs''.extBut _ _ ?_ (N' p hp).1, (N' p hp).2⟩) o1
  rcases List.mem_cons.mp hp with rfl | hp
  · exact Ne.symm hCD
  · exact offC p hp
theorem ListComp_tx {elt iter : Expr} {x : Str} {px : Pos} {scope : Scope} {cl : List (Str × Addr)} {pos : Pos} {Q : Value → Shared → Prop} (_F₀ : Fr h₀ L s.heap m)
    (hclos : closureFor scope env = pure cl) (hcell : ∀ y ∈ scope.names, y.2 ≠ .cell) (hkind : scope.kind = .function)
    (hnames : ∀ y ∈ scope.names, y.2 = .local → scope.names.lookup y.1 = some .local) (hx : scope.names.lookup x = some .local)
    (h : wpAny (model prog w) A (eval iter env) (TxSrc prog w A h₀ L m env elt x scope cl (fun s₂ => FinE h₀ L m s₂ Q)) E s)
    (hs : ∀ x, foldedSetIterable iter env x = pure x := by intro _; rfl) :
    wpAny (model prog w) A (eval (.ListComp elt [⟨.Name x px, iter, [], 0⟩] scope pos) env) Q E s := by
  rw [eval_ListComp]
  refine wpAny_comprehension_free (use := none) rfl hs hclos hkind hnames (wpAny_mono h (fun xv s₁ h₁ => ?_) fun _ _ e => e)
  obtain ⟨y, t, news, rfl, hh, F, N, hsz, R⟩ := h₁
  have hlt : ∀ o, ∀ b ∈ [s₁.heap.objs.size], b < (s₁.heap.push o).objs.size := fun o b hb => by
    rw [List.mem_singleton.mp hb, Heap.size_push]; exact Nat.lt_succ_self _
  cases ha : y.cps.all (· < 128)
  · refine wpAny_pyIter_wide ha ?_
    refine block_U (Walks.strWide hh s₁.heap.objs.size y t) hsz strIter_has strIter_st hcell hkind hx ⟨_, Heap.get?_push_size _ rfl, rfl, rfl⟩ (hlt _) (F.push _) (N.grown fun b o e => Heap.get?_push_of_some _ e) (Nat.ne_of_lt F.ns.lt) (next_is_new F) (fun p hp => Nat.ne_of_lt (Heap.lt_size (N p hp).1)) trivial (R _ ⟨_, rfl⟩) ?_
    intro D C h tk m' ys news' F' N' o1 hn hC₀ hD₀ hCL hDL hCD offC fin
    exact ⟨m', hn, fin_back (scope := scope) F' N' o1 hC₀ hCL hCD offC fin⟩
  · refine wpAny_pyIter_ascii ha ?_
    refine block_U (Walks.strAscii hh s₁.heap.objs.size y t) hsz strIter_has strIter_st hcell hkind hx ⟨_, Heap.get?_push_size _ rfl, rfl, rfl⟩ (hlt _) (F.push _) (N.grown fun b o e => Heap.get?_push_of_some _ e) (Nat.ne_of_lt F.ns.lt) (next_is_new F) (fun p hp => Nat.ne_of_lt (Heap.lt_size (N p hp).1)) trivial (R _ ⟨_, rfl⟩) ?_
    intro D C h tk m' ys news' F' N' o1 hn hC₀ hD₀ hCL hDL hCD offC fin
    exact ⟨m', hn, fin_back (scope := scope) F' N' o1 hC₀ hCL hCD offC fin⟩
theorem ListComp_txT {ct elt iter : Expr} {x : Str} {px : Pos} {scope : Scope} {cl : List (Str × Addr)} {pos : Pos} {Q : Value → Shared → Prop} (_F₀ : Fr h₀ L s.heap m)
    (hclos : closureFor scope env = pure cl) (hcell : ∀ y ∈ scope.names, y.2 ≠ .cell) (hkind : scope.kind = .function)
    (hnames : ∀ y ∈ scope.names, y.2 = .local → scope.names.lookup y.1 = some .local) (hx : scope.names.lookup x = some .local)
    (h : wpAny (model prog w) A (eval iter env) (TxSrcT prog w A h₀ L m env ct elt x scope cl (fun s₂ => FinE h₀ L m s₂ Q)) E s)
    (hs : ∀ x, foldedSetIterable iter env x = pure x := by intro _; rfl) :
    wpAny (model prog w) A (eval (.ListComp elt [⟨.Name x px, iter, [ct], 0⟩] scope pos) env) Q E s := by
  rw [eval_ListComp]
  refine wpAny_comprehension_free (use := none) rfl hs hclos hkind hnames (wpAny_mono h (fun xv s₁ h₁ => ?_) fun _ _ e => e)
  obtain ⟨y, t, news, rfl, hh, F, N, hsz, R⟩ := h₁
  have hlt : ∀ o, ∀ b ∈ [s₁.heap.objs.size], b < (s₁.heap.push o).objs.size := fun o b hb => by
    rw [List.mem_singleton.mp hb, Heap.size_push]; exact Nat.lt_succ_self _
  cases ha : y.cps.all (· < 128)
  · refine wpAny_pyIter_wide ha ?_
    refine block_T (Walks.strWide hh s₁.heap.objs.size y t) hsz strIter_has strIter_st hcell hkind hx ⟨_, Heap.get?_push_size _ rfl, rfl, rfl⟩ (hlt _) (F.push _) (N.grown fun b o e => Heap.get?_push_of_some _ e) (Nat.ne_of_lt F.ns.lt) (next_is_new F) (fun p hp => Nat.ne_of_lt (Heap.lt_size (N p hp).1)) trivial (R _ ⟨_, rfl⟩) ?_
    intro D C h tk m' ys news' F' N' o1 hn hC₀ hD₀ hCL hDL hCD offC fin
    exact ⟨m', hn, fin_back (scope := scope) F' N' o1 hC₀ hCL hCD offC fin⟩
  · refine wpAny_pyIter_ascii ha ?_
    refine block_T (Walks.strAscii hh s₁.heap.objs.size y t) hsz strIter_has strIter_st hcell hkind hx ⟨_, Heap.get?_push_size _ rfl, rfl, rfl⟩ (hlt _) (F.push _) (N.grown fun b o e => Heap.get?_push_of_some _ e) (Nat.ne_of_lt F.ns.lt) (next_is_new F) (fun p hp => Nat.ne_of_lt (Heap.lt_size (N p hp).1)) trivial (R _ ⟨_, rfl⟩) ?_
    intro D C h tk m' ys news' F' N' o1 hn hC₀ hD₀ hCL hDL hCD offC fin
    exact ⟨m', hn, fin_back (scope := scope) F' N' o1 hC₀ hCL hCD offC fin⟩
/-- what a comprehension's items gave -/
inductive Outs {α : Type} (out : α → Value → Prop) : List α → List Value → Prop
  | nil : Outs out [] []
  | snoc {as : List α} {ys : List Value} {a : α} {y : Value} : Outs out as ys → out a y → Outs out (as ++ [a]) (ys ++ [y])
theorem take_snoc {α : Type} {l : List α} {i : Nat} {a : α} (h : l[i]? = some a) : l.take (i + 1) = l.take i ++ [a] := by
  rw [List.take_add_one, h]; rfl
section
variable {α : Type} {elt ct : Expr} {x : Str} {scope : Scope} {cl : List (Str × Addr)} {S : List (Addr × Obj) → Prop} {P : Nat → Value → Prop} {Fin : List Value → List (Addr × Obj) → Prop} {news : List (Addr × Obj)} {items : List α} {rel out : α → Value → Prop}
theorem rest_fold (hP : ∀ i v, P i v → ∃ a, items[i]? = some a ∧ rel a v)
    (turn : ∀ a v I oI C oC D m₂ ys h tk (E' : Value → Shared → Prop), a ∈ items → rel a v → ys.length ≤ items.length → NsObj oC m₂ → m₂ x = some v → Fr h₀ L h m → News h₀ L h ((I, oI) :: (C, oC) :: (D, lst ys) :: news) → Off3 I C D news → ((@Ne Nat I C) ∧ (@Ne Nat I D) ∧ (@Ne Nat C D)) →
      wpAny (model prog w) A (eval elt (compEnvC scope cl C env)) (CompEnd h₀ L m { s with heap := h, toks := tk } I oI C oC D (lst ys) S (fun y news' => news' = news ∧ out a y)) E' { s with heap := h, toks := tk })
    (fin : ∀ ys, Outs out items ys → Fin ys news) : CompRest prog w A h₀ L m env elt x scope cl s S P Fin items.length 0 [] news := by
  have key : ∀ (j i : Nat) (ys : List Value), i + j = items.length → ys.length = i → Outs out (items.take i) ys → CompRest prog w A h₀ L m env elt x scope cl s S P Fin j i ys news := by
    intro j
    induction j with
    | zero =>
      intro i ys hi _ hy
      rw [show i = items.length by omega, List.take_length] at hy
      exact fin ys hy
    | succ j ih =>
      intro i ys hi hl hy v I oI C oC D m₂ h tk E' hv hC hx F N off ne
      obtain ⟨a, ha, hr⟩ := hP i v hv
      refine wpAny_mono (turn a v I oI C oC D m₂ ys h tk E' (List.mem_of_getElem? ha) hr (by omega) hC hx F N off ne) (fun y s₂ hq => ?_) fun _ _ e => e
      obtain ⟨h', tk', nw, e, F', N', off', hS, rfl, ho⟩ := hq
      exact ⟨h', tk', nw, e, F', N', off', hS, ih (i + 1) _ (by omega) (by simp [hl]) (by rw [take_snoc ha]; exact hy.snoc ho)⟩
  exact key items.length 0 [] (by omega) rfl .nil
theorem rest_foldT (keep : α → Bool) (hP : ∀ i v, P i v → ∃ a, items[i]? = some a ∧ rel a v)
    (turn : ∀ a v I oI C oC D m₂ ys h tk (E' : Value → Shared → Prop), a ∈ items → rel a v → ys.length ≤ items.length → NsObj oC m₂ → m₂ x = some v → Fr h₀ L h m → News h₀ L h ((I, oI) :: (C, oC) :: (D, lst ys) :: news) → Off3 I C D news → ((@Ne Nat I C) ∧ (@Ne Nat I D) ∧ (@Ne Nat C D)) →
      wpAny (model prog w) A (isTrue ct (compEnvC scope cl C env) (eval ct (compEnvC scope cl C env))) (fun ok s' => Stop (ok = keep a ∧
        (ok = true → wpAny (model prog w) A (eval elt (compEnvC scope cl C env)) (CompEnd h₀ L m { s with heap := h, toks := tk } I oI C oC D (lst ys) S (fun y news' => news' = news ∧ out a y)) E' s') ∧
        (ok = false → CompEnd h₀ L m { s with heap := h, toks := tk } I oI C oC D (lst ys) S (fun _ news' => news' = news) Value.none s'))) E' { s with heap := h, toks := tk })
    (fin : ∀ ys, Outs out (items.filter keep) ys → Fin ys news) : CompRestT prog w A h₀ L m env ct elt x scope cl s S P Fin items.length 0 [] news := by
  have key : ∀ (j i : Nat) (ys : List Value), i + j = items.length → ys.length ≤ i → Outs out ((items.take i).filter keep) ys → CompRestT prog w A h₀ L m env ct elt x scope cl s S P Fin j i ys news := by
    intro j
    induction j with
    | zero =>
      intro i ys hi _ hy
      rw [show i = items.length by omega, List.take_length] at hy
      exact fin ys hy
    | succ j ih =>
      intro i ys hi hl hy v I oI C oC D m₂ h tk E' hv hC hx F N off ne
      obtain ⟨a, ha, hr⟩ := hP i v hv
      refine wpAny_mono (turn a v I oI C oC D m₂ ys h tk E' (List.mem_of_getElem? ha) hr (by omega) hC hx F N off ne) (fun ok s₂ hq => ?_) fun _ _ e => e
      obtain ⟨hk, hT, hF⟩ := hq
      cases ok with
      | true =>
        rw [if_pos rfl]
        refine wpAny_mono (hT rfl) (fun y s₃ hq => ?_) fun _ _ e => e
        obtain ⟨h', tk', nw, e, F', N', off', hS, rfl, ho⟩ := hq
        exact ⟨h', tk', nw, e, F', N', off', hS, ih (i + 1) _ (by omega) (by simp; omega) (by rw [take_snoc ha, List.filter_append, List.filter_cons, ← hk]; exact hy.snoc ho)⟩
      | false =>
        rw [if_neg Bool.false_ne_true]
        obtain ⟨h', tk', nw, e, F', N', off', hS, rfl⟩ := hF rfl
        exact ⟨h', tk', nw, e, F', N', off', hS, ih (i + 1) _ (by omega) (by omega) (by rw [take_snoc ha, List.filter_append, List.filter_cons, ← hk]; simpa using hy)⟩
  exact key items.length 0 [] (by omega) (Nat.le_refl _) .nil
end
end
theorem strs_snoc {y : Str} {t : Tok} : ∀ {vs : List Value} {ys : List Str}, StrsAre vs ys → StrsAre (vs ++ [.str y t]) (ys ++ [y]) := kct_snoc
theorem outs_strs {α : Type} {f : α → Str} {as : List α} {ys : List Value} (h : Outs (fun a v => ∃ u, v = .str (f a) u) as ys) : StrsAre ys (as.map f) := by
  induction h with
  | nil => exact .nil
  | snoc _ ho ih =>
    obtain ⟨u, rfl⟩ := ho
    rw [List.map_append]
    exact strs_snoc ih
theorem ok_one {c : Nat} (h : c < 0x110000) : PyData.strOk ⟨#[c]⟩ = true := by simp [PyData.strOk, h]
theorem ok_mem {x : Str} (h : PyData.strOk x = true) {c : Nat} (hc : c ∈ x.cps.toList) : c < 0x110000 := by
  unfold PyData.strOk at h
  rw [Array.all_eq_true_iff_forall_mem] at h
  simpa using h c (Array.mem_toList_iff.mp hc)
end Mine
end
section
open PySem PySem.W PyProof.Rows
namespace Mine
theorem allLt_to {d : Nat} : ∀ {l : List (Addr × Obj)}, AllLt d l → ∀ p ∈ l, p.1 < d
  | [], _, _, hp => nomatch hp
  | q :: r, h, p, hp => by
    rcases List.mem_cons.mp hp with rfl | hp
    · exact h.1
    · exact allLt_to h.2 p hp
/-! for loops with an invariant of one's own -/
section
variable {prog : Program} {w : World} {A : Around} {E : Value → Shared → Prop} {s : Shared} {env : Env} {h₀ : Heap} {Q : Flow → Shared → Prop}
def Tail (prog : Program) (w : World) (A : Around) (env : Env) (target : Expr) (body : List Stmt) (Q : Flow → Shared → Prop) (E : Value → Shared → Prop) (it : Value) (s₂ : Shared) : Prop :=
  codeAny (model prog w) A (.forLoop target it body [] env) (fun r s' => match r with | .ok f => Q f s' | .error e => cameBackBy (model prog w) A env E e s') s₂
theorem for_mine {target iter : Expr} {body : List Stmt} {pos : Pos}
    (h : wpAny (model prog w) A (eval iter env) (fun xv s₁ => wpAny (model prog w) A (pyIter xv) (fun it s₂ => Tail prog w A env target body Q E it s₂) E s₁) E s)
    (hs : ∀ x, foldedSetIterable iter env x = pure x := by intro _; rfl) : wpAny (model prog w) A (exec (.For target iter body [] pos) env) Q E s := wpAny_For h hs
/-- how a turn may end -/
def LE (h₀ : Heap) (L : Addr) (wr : List Addr) (own : List (Addr × Obj)) (J : (Str → Option Value) → List (Addr × Obj) → Prop) (s : Shared) (Q : Flow → Shared → Prop) (f : Flow) (s₂ : Shared) : Prop :=
  match f with
  | .ret v => Q (.ret v) s₂
  | .brk => Q .next s₂
  | _ => ∃ h' tk m₂ news₂, s₂ = { s with heap := h', toks := tk } ∧ Fr h₀ L h' m₂ ∧ News h₀ L h' (own ++ news₂) ∧ (∀ p ∈ news₂, p.1 ∉ wr) ∧ J m₂ news₂
theorem LE.next {L : Addr} {wr : List Addr} {own news₂ : List (Addr × Obj)} {J : (Str → Option Value) → List (Addr × Obj) → Prop} {h' : Heap} {tk : Nat} {m₂ : Str → Option Value}
    (F : Fr h₀ L h' m₂) (N : News h₀ L h' (own ++ news₂)) (ho : ∀ p ∈ news₂, p.1 ∉ wr) (hJ : J m₂ news₂) : LE h₀ L wr own J s Q .next { s with heap := h', toks := tk } :=
  ⟨h', tk, m₂, news₂, rfl, F, N, ho, hJ⟩
theorem tail_anyS {target : Expr} {body : List Stmt} {I : Addr} {fp wr : List Addr} {n : Nat} {P : Nat → Value → Prop} {St : Nat → Heap → Prop} {m : Str → Option Value} {news : List (Addr × Obj)}
    (W : Walks prog w A I fp wr n P St) (hLf : env.locals ∉ fp) (hwr : ∀ b ∈ wr, h₀.get? b = none) (hnw : ∀ p ∈ news, p.1 ∉ wr)
    (hst : St 0 s.heap) (F : Fr h₀ env.locals s.heap m) (N : News h₀ env.locals s.heap news) (hE : PassesOwn (model prog w) A env E)
    (hgo : ∀ i (s' : Shared) v (Q' : Unit → Shared → Prop) (E' : Value → Shared → Prop), P i v → St (i + 1) s'.heap → Q' () s' → wpAny (model prog w) A (letOwnedTupleGo target (.ref I) v) Q' E' s')
    (J : Nat → (Str → Option Value) → List (Addr × Obj) → Prop) (h0 : J 0 m news)
    (step : ∀ i v m₁ news₁ h tk own, i < n → P i v → St (i + 1) h → (∀ b ∈ fp, h₀.get? b = none → ∀ o, h.get? b = some o → (b, o) ∈ own) → J i m₁ news₁ → (∀ p ∈ news₁, p.1 ∉ wr) → (∀ p ∈ own, p.1 ∈ fp) → Fr h₀ env.locals h m₁ → News h₀ env.locals h (own ++ news₁) →
      wpAny (model prog w) A (assign target env v) (fun _ s₂ => wpAny (model prog w) A (execs body env) (LE h₀ env.locals wr own (J (i + 1)) s Q) E s₂) E { s with heap := h, toks := tk })
    (done : ∀ h' tk m' news', Fr h₀ env.locals h' m' → News h₀ env.locals h' news' → J n m' news' → Q .next { s with heap := h', toks := tk }) :
    Tail prog w A env target body Q E (.ref I) s := by
  have old : ∀ b o, h₀.get? b = some o → b ∉ wr := fun b o e hb => by rw [hwr b hb] at e; cases e
  have hLw : env.locals ∉ wr := fun h => hLf (W.sub _ h)
  unfold Tail
  refine codeAny_forLoop_any (fun k s' => ∃ i h' tk m' news', s' = { s with heap := h', toks := tk } ∧ i + k = n + 1 ∧ i ≤ n ∧ St i h' ∧ Fr h₀ env.locals h' m' ∧ News h₀ env.locals h' news' ∧ (∀ p ∈ news', p.1 ∉ wr) ∧ J i m' news')
    ?_ (n + 1) ⟨0, s.heap, s.toks, m, news, rfl, by omega, Nat.zero_le _, hst, F, N, hnw, h0⟩
  rintro k s' ⟨i, h', tk, m', news', rfl, hik, hi, st, F', N', off, hJ⟩
  have carry : ∀ h₁ : Heap, (∀ b o, b ∉ wr → h'.get? b = some o → h₁.get? b = some o) → Fr h₀ env.locals h₁ m' ∧ News h₀ env.locals h₁ news' := fun h₁ hk =>
    ⟨⟨F'.ns.at' fun o e => hk _ o hLw e, fun b o e => hk b o (old b o e) (F'.keep b o e), F'.above⟩, fun p hp => ⟨hk _ _ (off p hp) (N' p hp).1, (N' p hp).2⟩⟩
  rcases Nat.lt_or_ge i n with hlt | hge
  · refine W.item i _ _ _ hlt st fun v h₁ tk₁ hP st₁ hk₁ => ?_
    obtain ⟨F₁, N₁⟩ := carry h₁ hk₁
    have No : News h₀ env.locals h₁ (ownOf h₀ fp h₁) := news_ownOf hLf
    refine hgo i _ v _ _ hP st₁ ?_
    refine wpAny_mono (step i v m' news' h₁ tk₁ (ownOf h₀ fp h₁) hlt hP st₁ (fun b hb hn o e => mem_ownOf hb hn e) hJ off ownOf_sub F₁ (No.append N₁)) (fun _ s₂ h₂ => wpAny_mono (wpAny_passesOwn hE h₂) (fun f s₃ h₃ => ?_) fun _ _ e => e) hE
    have again : (∃ h' tk m₂ news₂, s₃ = { s with heap := h', toks := tk } ∧ Fr h₀ env.locals h' m₂ ∧ News h₀ env.locals h' (ownOf h₀ fp h₁ ++ news₂) ∧ (∀ p ∈ news₂, p.1 ∉ wr) ∧ J (i + 1) m₂ news₂) →
        ∃ m, m < k ∧ ∃ i h' tk m' news', s₃ = { s with heap := h', toks := tk } ∧ i + m = n + 1 ∧ i ≤ n ∧ St i h' ∧ Fr h₀ env.locals h' m' ∧ News h₀ env.locals h' news' ∧ (∀ p ∈ news', p.1 ∉ wr) ∧ J i m' news' := by
      rintro ⟨hz, tk₃, m₃, news₃, rfl, F₃, N₃, off₃, J₃⟩
      refine ⟨k - 1, by omega, i + 1, hz, tk₃, m₃, news₃, rfl, by omega, hlt, ?_, F₃, N₃.right, off₃, J₃⟩
      refine W.frame _ _ _ st₁ fun b hb o e => ?_
      cases hn : h₀.get? b with
      | some o₀ =>
        have h1 := F₁.keep b o₀ hn
        rw [e] at h1
        cases h1
        exact F₃.keep b _ hn
      | none => exact (N₃ _ (List.mem_append_left _ (mem_ownOf hb hn e))).1
    cases f with
    | ret v => exact h₃
    | brk => exact h₃
    | cont => exact again h₃
    | next => exact again h₃
  · have e : i = n := by omega
    subst e
    refine W.done _ _ _ st fun h₁ tk₁ hk₁ => wpAny_execs_nil ?_
    obtain ⟨F₁, N₁⟩ := carry h₁ hk₁
    exact done h₁ tk₁ m' news' F₁ N₁ hJ
theorem tail_any {target : Expr} {body : List Stmt} {I : Addr} {fp wr : List Addr} {n : Nat} {P : Nat → Value → Prop} {St : Nat → Heap → Prop} {m : Str → Option Value} {news : List (Addr × Obj)}
    (W : Walks prog w A I fp wr n P St) (hLf : env.locals ∉ fp) (hwr : ∀ b ∈ wr, h₀.get? b = none) (hnw : ∀ p ∈ news, p.1 ∉ wr)
    (hst : St 0 s.heap) (F : Fr h₀ env.locals s.heap m) (N : News h₀ env.locals s.heap news) (hE : PassesOwn (model prog w) A env E)
    (hgo : ∀ i (s' : Shared) v (Q' : Unit → Shared → Prop) (E' : Value → Shared → Prop), P i v → St (i + 1) s'.heap → Q' () s' → wpAny (model prog w) A (letOwnedTupleGo target (.ref I) v) Q' E' s')
    (J : Nat → (Str → Option Value) → List (Addr × Obj) → Prop) (h0 : J 0 m news)
    (step : ∀ i v m₁ news₁ h tk own, i < n → P i v → J i m₁ news₁ → (∀ p ∈ news₁, p.1 ∉ wr) → (∀ p ∈ own, p.1 ∈ fp) → Fr h₀ env.locals h m₁ → News h₀ env.locals h (own ++ news₁) →
      wpAny (model prog w) A (assign target env v) (fun _ s₂ => wpAny (model prog w) A (execs body env) (LE h₀ env.locals wr own (J (i + 1)) s Q) E s₂) E { s with heap := h, toks := tk })
    (done : ∀ h' tk m' news', Fr h₀ env.locals h' m' → News h₀ env.locals h' news' → J n m' news' → Q .next { s with heap := h', toks := tk }) :
    Tail prog w A env target body Q E (.ref I) s :=
  tail_anyS W hLf hwr hnw hst F N hE hgo J h0 (fun i v m₁ news₁ h tk own hi hP _ _ hJ off hsub F₁ N₁ => step i v m₁ news₁ h tk own hi hP hJ off hsub F₁ N₁) done
theorem tail_name {x : Str} {px : Pos} {body : List Stmt} {I : Addr} {fp wr : List Addr} {n : Nat} {P : Nat → Value → Prop} {St : Nat → Heap → Prop} {m : Str → Option Value} {news : List (Addr × Obj)}
    (W : Walks prog w A I fp wr n P St) (hx : env.kindOf x = some .local) (hp : (env.scope.kind == .class || (env.scope.kind == .module && env.locals != env.globals)) = false)
    (hLf : env.locals ∉ fp) (hwr : ∀ b ∈ wr, h₀.get? b = none) (hnw : ∀ p ∈ news, p.1 ∉ wr)
    (hst : St 0 s.heap) (F : Fr h₀ env.locals s.heap m) (N : News h₀ env.locals s.heap news) (hE : PassesOwn (model prog w) A env E)
    (J : Nat → (Str → Option Value) → List (Addr × Obj) → Prop) (h0 : J 0 m news)
    (step : ∀ i v m₁ news₁ h tk own, 0 < tk → i < n → P i v → J i m₁ news₁ → (∀ p ∈ news₁, p.1 ∉ wr) → (∀ p ∈ own, p.1 ∈ fp) → Fr h₀ env.locals h (fun y => if y = x then some v else m₁ y) → News h₀ env.locals h (own ++ news₁) →
      wpAny (model prog w) A (execs body env) (LE h₀ env.locals wr own (J (i + 1)) s Q) E { s with heap := h, toks := tk })
    (done : ∀ h' tk m' news', Fr h₀ env.locals h' m' → News h₀ env.locals h' news' → J n m' news' → Q .next { s with heap := h', toks := tk }) :
    Tail prog w A env (.Name x px) body Q E (.ref I) s := by
  refine tail_any W hLf hwr hnw hst F N hE (fun i s' v Q' E' _ _ hQ => wpAny_pure hQ) J h0 (fun i v m₁ news₁ h tk own hi hP hJ off hsub F₁ N₁ => ?_) done
  refine wpAny_assign_Name (wpAny_storeName_local hx F₁.ns (fun h₂ hn₂ hs₂ => ?_) hp)
  exact step i v m₁ news₁ h₂ (tk + 1) own (Nat.succ_pos _) hi hP hJ off hsub (F₁.set hn₂ hs₂) (N₁.set hs₂)
/-- over a list -/
theorem iter_name {x : Str} {px : Pos} {body : List Stmt} {D : Addr} {vs : List Value} {m : Str → Option Value} {news : List (Addr × Obj)}
    (hh : A.handled = none) (hl : s.heap.IsList D vs.toArray) (hDL : D ≠ env.locals) (hx : env.kindOf x = some .local) (hp : (env.scope.kind == .class || (env.scope.kind == .module && env.locals != env.globals)) = false)
    (F : Fr h₀ env.locals s.heap m) (N : News h₀ env.locals s.heap news) (hE : PassesOwn (model prog w) A env E)
    (J : Nat → (Str → Option Value) → List (Addr × Obj) → Prop) (h0 : J 0 m news)
    (step : ∀ i v m₁ news₁ h tk own I, I = s.heap.objs.size → 0 < tk → vs[i]? = some v → J i m₁ news₁ → (∀ p ∈ news₁, p.1 ≠ I) → (∀ p ∈ own, p.1 = I ∨ p.1 = D) → Fr h₀ env.locals h (fun y => if y = x then some v else m₁ y) → News h₀ env.locals h (own ++ news₁) →
      wpAny (model prog w) A (execs body env) (LE h₀ env.locals [I] own (J (i + 1)) s Q) E { s with heap := h, toks := tk })
    (done : ∀ h' tk m' news', Fr h₀ env.locals h' m' → News h₀ env.locals h' news' → J vs.length m' news' → Q .next { s with heap := h', toks := tk }) :
    wpAny (model prog w) A (pyIter (.ref D)) (fun it s₂ => Tail prog w A env (.Name x px) body Q E it s₂) E s := by
  obtain ⟨o, ho, hr⟩ := id hl
  have hlt : D < s.heap.objs.size := Heap.lt_size ho
  refine wpAny_pyIter_list hl ?_
  have W := Walks.list (prog := prog) (w := w) hh s.heap.objs.size D (Nat.ne_of_lt hlt) vs.toArray
  rw [List.size_toArray] at W
  refine tail_name (s := { s with heap := _ }) W hx hp ?_ ?_ ?_ ⟨⟨_, Heap.get?_push_size _ rfl, rfl, rfl⟩, hl.at fun o e => Heap.get?_push_of_some _ e⟩ (F.push _) (fun p hp => ⟨Heap.get?_push_of_some _ (N p hp).1, (N p hp).2⟩) hE J h0 ?_ done
  · intro hm
    rcases List.mem_cons.mp hm with e | hm
    · exact absurd F.ns.lt (e ▸ Nat.lt_irrefl _)
    · exact hDL (List.mem_singleton.mp hm).symm
  · intro b hb
    rw [List.mem_singleton.mp hb]
    exact next_is_new F
  · intro p hp hI
    exact absurd (Heap.lt_size (N p hp).1) ((List.mem_singleton.mp hI) ▸ Nat.lt_irrefl _)
  · intro i v m₁ news₁ h tk own htk hi hP hJ off hsub F₁ N₁
    exact step i v m₁ news₁ h tk own _ rfl htk (by simpa using hP) hJ (fun p hp e => off p hp (by rw [e]; exact .head _)) (fun p hp => by simpa using hsub p hp) F₁ N₁
theorem LE.sub {L : Addr} {I D : Addr} {own : List (Addr × Obj)} {J : (Str → Option Value) → List (Addr × Obj) → Prop} {f : Flow} {s₂ : Shared}
    (h : LE h₀ L [I, D] own J s Q f s₂) : LE h₀ L [I] own (fun m n => J m n ∧ ∀ p ∈ n, p.1 ≠ D) s Q f s₂ := by
  have go : (∃ h' tk m₂ news₂, s₂ = { s with heap := h', toks := tk } ∧ Fr h₀ L h' m₂ ∧ News h₀ L h' (own ++ news₂) ∧ (∀ p ∈ news₂, p.1 ∉ [I, D]) ∧ J m₂ news₂) →
      ∃ h' tk m₂ news₂, s₂ = { s with heap := h', toks := tk } ∧ Fr h₀ L h' m₂ ∧ News h₀ L h' (own ++ news₂) ∧ (∀ p ∈ news₂, p.1 ∉ [I]) ∧ J m₂ news₂ ∧ ∀ p ∈ news₂, p.1 ≠ D := by
    rintro ⟨h', tk, m₂, news₂, e, F, N, off, hJ⟩
    exact ⟨h', tk, m₂, news₂, e, F, N, fun p hp hm => off p hp (List.mem_cons.mpr (.inl (List.mem_singleton.mp hm))), hJ, fun p hp hm => off p hp (by rw [hm]; simp)⟩
  cases f with
  | ret v => exact h
  | brk => exact h
  | cont => exact go h
  | next => exact go h
/-- over a list that the ledger leaves out meanwhile -/
theorem iter_name' {x : Str} {px : Pos} {body : List Stmt} {D : Addr} {vs : List Value} {m : Str → Option Value} {news : List (Addr × Obj)}
    (hh : A.handled = none) (hl : s.heap.IsList D vs.toArray) (hDL : D ≠ env.locals) (hx : env.kindOf x = some .local) (hp : (env.scope.kind == .class || (env.scope.kind == .module && env.locals != env.globals)) = false)
    (F : Fr h₀ env.locals s.heap m) (N : News h₀ env.locals s.heap news) (hD : ∀ p ∈ news, p.1 ≠ D) (hE : PassesOwn (model prog w) A env E)
    (J : Nat → (Str → Option Value) → List (Addr × Obj) → Prop) (h0 : J 0 m news)
    (step : ∀ i v m₁ news₁ h tk own I D, 0 < tk → vs[i]? = some v → J i m₁ news₁ → (∀ p ∈ news₁, p.1 ∉ [I, D]) → (∀ p ∈ own, p.1 ∈ [I, D]) → Fr h₀ env.locals h (fun y => if y = x then some v else m₁ y) → News h₀ env.locals h (own ++ news₁) →
      wpAny (model prog w) A (execs body env) (LE h₀ env.locals [I, D] own (J (i + 1)) s Q) E { s with heap := h, toks := tk })
    (done : ∀ h' tk m' news', Fr h₀ env.locals h' m' → News h₀ env.locals h' news' → J vs.length m' news' → Q .next { s with heap := h', toks := tk }) :
    wpAny (model prog w) A (pyIter (.ref D)) (fun it s₂ => Tail prog w A env (.Name x px) body Q E it s₂) E s := by
  refine iter_name hh hl hDL hx hp F N hE (fun i m n => J i m n ∧ ∀ p ∈ n, p.1 ≠ D) ⟨h0, hD⟩ ?_ (fun h' tk m' n F' N' hJ => done h' tk m' n F' N' hJ.1)
  rintro i v m₁ news₁ h tk own I _ htk hv ⟨hJ, hn⟩ off hsub F₁ N₁
  refine wpAny_mono (step i v m₁ news₁ h tk own I D htk hv hJ (fun p hp hm => ?_) (fun p hp => ?_) F₁ N₁) (fun _ _ h => LE.sub h) fun _ _ e => e
  · rcases List.mem_cons.mp hm with e | hm
    · exact off p hp e
    · exact hn p hp (List.mem_singleton.mp hm)
  · rcases hsub p hp with e | e <;> simp [e]
/-- over a list of tuples -/
theorem iter_tup {elts : List Expr} {x1} {px : Pos} {body : List Stmt} {D : Addr} {vs : List Value} {m : Str → Option Value} {news : List (Addr × Obj)}
    (hh : A.handled = none) (hl : s.heap.IsList D vs.toArray) (hDL : D ≠ env.locals) (hvs : ∀ v ∈ vs, ∃ T, v = .ref T)
    (F : Fr h₀ env.locals s.heap m) (N : News h₀ env.locals s.heap news) (hE : PassesOwn (model prog w) A env E)
    (J : Nat → (Str → Option Value) → List (Addr × Obj) → Prop) (h0 : J 0 m news)
    (step : ∀ i v m₁ news₁ h tk own I, I = s.heap.objs.size → vs[i]? = some v → J i m₁ news₁ → (∀ p ∈ news₁, p.1 ≠ I) → (∀ p ∈ own, p.1 = I ∨ p.1 = D) → Fr h₀ env.locals h m₁ → News h₀ env.locals h (own ++ news₁) →
      wpAny (model prog w) A (assign (.Tuple elts x1 px) env v) (fun _ s₂ => wpAny (model prog w) A (execs body env) (LE h₀ env.locals [I] own (J (i + 1)) s Q) E s₂) E { s with heap := h, toks := tk })
    (done : ∀ h' tk m' news', Fr h₀ env.locals h' m' → News h₀ env.locals h' news' → J vs.length m' news' → Q .next { s with heap := h', toks := tk }) :
    wpAny (model prog w) A (pyIter (.ref D)) (fun it s₂ => Tail prog w A env (.Tuple elts x1 px) body Q E it s₂) E s := by
  obtain ⟨o, ho, hr⟩ := id hl
  have hlt : D < s.heap.objs.size := Heap.lt_size ho
  refine wpAny_pyIter_list hl ?_
  have W := Walks.list (prog := prog) (w := w) hh s.heap.objs.size D (Nat.ne_of_lt hlt) vs.toArray
  rw [List.size_toArray] at W
  refine tail_any (s := { s with heap := _ }) W ?_ ?_ ?_ ⟨⟨_, Heap.get?_push_size _ rfl, rfl, rfl⟩, hl.at fun o e => Heap.get?_push_of_some _ e⟩ (F.push _) (fun p hp => ⟨Heap.get?_push_of_some _ (N p hp).1, (N p hp).2⟩) hE ?_ J h0 ?_ done
  · intro hm
    rcases List.mem_cons.mp hm with e | hm
    · exact absurd F.ns.lt (e ▸ Nat.lt_irrefl _)
    · exact hDL (List.mem_singleton.mp hm).symm
  · intro b hb
    rw [List.mem_singleton.mp hb]
    exact next_is_new F
  · intro p hp hI
    exact absurd (Heap.lt_size (N p hp).1) ((List.mem_singleton.mp hI) ▸ Nat.lt_irrefl _)
  · intro i s' v Q' E' hP st hQ
    obtain ⟨T, rfl⟩ := hvs v (List.mem_of_getElem? (by simpa using hP))
    exact wpAny_letOwnedTupleGo_listiter st.1 hQ
  · intro i v m₁ news₁ h tk own hi hP hJ off hsub F₁ N₁
    exact step i v m₁ news₁ h tk own _ rfl (by simpa using hP) hJ (fun p hp e => off p hp (by rw [e]; exact .head _)) (fun p hp => by simpa using hsub p hp) F₁ N₁
theorem iter_tup' {elts : List Expr} {x1} {px : Pos} {body : List Stmt} {D : Addr} {vs : List Value} {m : Str → Option Value} {news : List (Addr × Obj)}
    (hh : A.handled = none) (hl : s.heap.IsList D vs.toArray) (hDL : D ≠ env.locals) (hvs : ∀ v ∈ vs, ∃ T, v = .ref T)
    (F : Fr h₀ env.locals s.heap m) (N : News h₀ env.locals s.heap news) (hD : ∀ p ∈ news, p.1 ≠ D) (hE : PassesOwn (model prog w) A env E)
    (J : Nat → (Str → Option Value) → List (Addr × Obj) → Prop) (h0 : J 0 m news)
    (step : ∀ i v m₁ news₁ h tk own I D, vs[i]? = some v → J i m₁ news₁ → (∀ p ∈ news₁, p.1 ∉ [I, D]) → (∀ p ∈ own, p.1 ∈ [I, D]) → Fr h₀ env.locals h m₁ → News h₀ env.locals h (own ++ news₁) →
      wpAny (model prog w) A (assign (.Tuple elts x1 px) env v) (fun _ s₂ => wpAny (model prog w) A (execs body env) (LE h₀ env.locals [I, D] own (J (i + 1)) s Q) E s₂) E { s with heap := h, toks := tk })
    (done : ∀ h' tk m' news', Fr h₀ env.locals h' m' → News h₀ env.locals h' news' → J vs.length m' news' → Q .next { s with heap := h', toks := tk }) :
    wpAny (model prog w) A (pyIter (.ref D)) (fun it s₂ => Tail prog w A env (.Tuple elts x1 px) body Q E it s₂) E s := by
  refine iter_tup hh hl hDL hvs F N hE (fun i m n => J i m n ∧ ∀ p ∈ n, p.1 ≠ D) ⟨h0, hD⟩ ?_ (fun h' tk m' n F' N' hJ => done h' tk m' n F' N' hJ.1)
  rintro i v m₁ news₁ h tk own I _ hv ⟨hJ, hn⟩ off hsub F₁ N₁
  refine wpAny_mono (step i v m₁ news₁ h tk own I D hv hJ (fun p hp hm => ?_) (fun p hp => ?_) F₁ N₁) (fun _ _ h => wpAny_mono h (fun _ _ h => LE.sub h) fun _ _ e => e) fun _ _ e => e
  · rcases List.mem_cons.mp hm with e | hm
    · exact off p hp e
    · exact hn p hp (List.mem_singleton.mp hm)
  · rcases hsub p hp with e | e <;> simp [e]
/-- over a list of tuples; the iterator and the list stand in the turn's own part of the ledger -/
theorem iter_tup2 {elts : List Expr} {x1} {px : Pos} {body : List Stmt} {D : Addr} {vs : List Value} {m : Str → Option Value} {news : List (Addr × Obj)}
    (hh : A.handled = none) (hl : s.heap.IsList D vs.toArray) (hDL : D ≠ env.locals) (hD0 : h₀.get? D = none) (hvs : ∀ v ∈ vs, ∃ T, v = .ref T)
    (F : Fr h₀ env.locals s.heap m) (N : News h₀ env.locals s.heap news) (hD : ∀ p ∈ news, p.1 ≠ D) (hE : PassesOwn (model prog w) A env E)
    (J : Nat → (Str → Option Value) → List (Addr × Obj) → Prop) (h0 : J 0 m news)
    (step : ∀ i v m₁ news₁ h tk own I D, vs[i]? = some v → J i m₁ news₁ → (∃ oI oD, (I, oI) ∈ own ∧ (D, oD) ∈ own) → (∀ p ∈ news₁, p.1 ∉ [I, D]) → (∀ p ∈ own, p.1 ∈ [I, D]) → Fr h₀ env.locals h m₁ → News h₀ env.locals h (own ++ news₁) →
      wpAny (model prog w) A (assign (.Tuple elts x1 px) env v) (fun _ s₂ => wpAny (model prog w) A (execs body env) (LE h₀ env.locals [I, D] own (J (i + 1)) s Q) E s₂) E { s with heap := h, toks := tk })
    (done : ∀ h' tk m' news', Fr h₀ env.locals h' m' → News h₀ env.locals h' news' → J vs.length m' news' → Q .next { s with heap := h', toks := tk }) :
    wpAny (model prog w) A (pyIter (.ref D)) (fun it s₂ => Tail prog w A env (.Tuple elts x1 px) body Q E it s₂) E s := by
  obtain ⟨o, ho, hr⟩ := id hl
  have hlt : D < s.heap.objs.size := Heap.lt_size ho
  refine wpAny_pyIter_list hl ?_
  have W := Walks.list (prog := prog) (w := w) hh s.heap.objs.size D (Nat.ne_of_lt hlt) vs.toArray
  rw [List.size_toArray] at W
  have hI0 := next_is_new F
  refine tail_anyS (s := { s with heap := _ }) W ?_ ?_ ?_ ⟨⟨_, Heap.get?_push_size _ rfl, rfl, rfl⟩, hl.at fun o e => Heap.get?_push_of_some _ e⟩ (F.push _) (fun p hp => ⟨Heap.get?_push_of_some _ (N p hp).1, (N p hp).2⟩) hE ?_ (fun i m n => J i m n ∧ ∀ p ∈ n, p.1 ≠ D) ⟨h0, hD⟩ ?_ (fun h' tk m' n F' N' hJ => done h' tk m' n F' N' hJ.1)
  · intro hm
    rcases List.mem_cons.mp hm with e | hm
    · exact absurd F.ns.lt (e ▸ Nat.lt_irrefl _)
    · exact hDL (List.mem_singleton.mp hm).symm
  · intro b hb
    rw [List.mem_singleton.mp hb]
    exact hI0
  · intro p hp hI
    exact absurd (Heap.lt_size (N p hp).1) ((List.mem_singleton.mp hI) ▸ Nat.lt_irrefl _)
  · intro i s' v Q' E' hP st hQ
    obtain ⟨T, rfl⟩ := hvs v (List.mem_of_getElem? (by simpa using hP))
    exact wpAny_letOwnedTupleGo_listiter st.1 hQ
  · rintro i v m₁ news₁ h tk own hi hP ⟨⟨oI, eI, _⟩, ⟨oD, eD, _⟩⟩ hown ⟨hJ, hn⟩ off hsub F₁ N₁
    refine wpAny_mono (step i v m₁ news₁ h tk own s.heap.objs.size D (by simpa using hP) hJ ⟨oI, oD, hown _ (.head _) hI0 _ eI, hown _ (.tail _ (.head _)) hD0 _ eD⟩ (fun p hp hm => ?_) (fun p hp => hsub p hp) F₁ N₁) (fun _ _ h => wpAny_mono h (fun _ _ h => LE.sub h) fun _ _ e => e) fun _ _ e => e
    rcases List.mem_cons.mp hm with e | hm
    · exact off p hp (by rw [e]; exact .head _)
    · exact hn p hp (List.mem_singleton.mp hm)
/-- over a list that stays in the ledger; the iterator stands in the turn's own part -/
theorem iter_name2 {x : Str} {px : Pos} {body : List Stmt} {D : Addr} {vs : List Value} {m : Str → Option Value} {news : List (Addr × Obj)}
    (hh : A.handled = none) (hl : s.heap.IsList D vs.toArray) (hDL : D ≠ env.locals) (hx : env.kindOf x = some .local) (hp : (env.scope.kind == .class || (env.scope.kind == .module && env.locals != env.globals)) = false)
    (F : Fr h₀ env.locals s.heap m) (N : News h₀ env.locals s.heap news) (hE : PassesOwn (model prog w) A env E)
    (J : Nat → (Str → Option Value) → List (Addr × Obj) → Prop) (h0 : J 0 m news)
    (step : ∀ i v m₁ news₁ h tk own I, 0 < tk → vs[i]? = some v → J i m₁ news₁ → (∃ oI, (I, oI) ∈ own) → (∀ p ∈ news₁, p.1 ≠ I) → (∀ p ∈ own, p.1 = I ∨ p.1 = D) → Fr h₀ env.locals h (fun y => if y = x then some v else m₁ y) → News h₀ env.locals h (own ++ news₁) →
      wpAny (model prog w) A (execs body env) (LE h₀ env.locals [I] own (J (i + 1)) s Q) E { s with heap := h, toks := tk })
    (done : ∀ h' tk m' news', Fr h₀ env.locals h' m' → News h₀ env.locals h' news' → J vs.length m' news' → Q .next { s with heap := h', toks := tk }) :
    wpAny (model prog w) A (pyIter (.ref D)) (fun it s₂ => Tail prog w A env (.Name x px) body Q E it s₂) E s := by
  obtain ⟨o, ho, hr⟩ := id hl
  have hlt : D < s.heap.objs.size := Heap.lt_size ho
  refine wpAny_pyIter_list hl ?_
  have W := Walks.list (prog := prog) (w := w) hh s.heap.objs.size D (Nat.ne_of_lt hlt) vs.toArray
  rw [List.size_toArray] at W
  have hI0 := next_is_new F
  refine tail_anyS (s := { s with heap := _ }) W ?_ ?_ ?_ ⟨⟨_, Heap.get?_push_size _ rfl, rfl, rfl⟩, hl.at fun o e => Heap.get?_push_of_some _ e⟩ (F.push _) (fun p hp => ⟨Heap.get?_push_of_some _ (N p hp).1, (N p hp).2⟩) hE (fun i s' v Q' E' _ _ hQ => wpAny_pure hQ) J h0 ?_ done
  · intro hm
    rcases List.mem_cons.mp hm with e | hm
    · exact absurd F.ns.lt (e ▸ Nat.lt_irrefl _)
    · exact hDL (List.mem_singleton.mp hm).symm
  · intro b hb
    rw [List.mem_singleton.mp hb]
    exact hI0
  · intro p hp hI
    exact absurd (Heap.lt_size (N p hp).1) ((List.mem_singleton.mp hI) ▸ Nat.lt_irrefl _)
  · rintro i v m₁ news₁ h tk own hi hP ⟨⟨oI, eI, _⟩, _⟩ hown hJ off hsub F₁ N₁
    have hI : (s.heap.objs.size, oI) ∈ own := hown _ (.head _) hI0 _ eI
    refine wpAny_assign_Name (wpAny_storeName_local hx F₁.ns (fun h₂ hn₂ hs₂ => ?_) hp)
    exact step i v m₁ news₁ h₂ (tk + 1) own _ (Nat.succ_pos _) (by simpa using hP) hJ ⟨oI, hI⟩ (fun p hp e => off p hp (by rw [e]; exact .head _)) (fun p hp => by simpa using hsub p hp) (F₁.set hn₂ hs₂) (N₁.set hs₂)
end
/-- what follows, by a name (the walk's terms stay small) -/
theorem gen_QE {α : Type} {M : Model} {A : Around} {x : Sem α} {Q : α → Shared → Prop} {E : Value → Shared → Prop} {s : Shared} (h : ∀ (Q' : α → Shared → Prop) (E' : Value → Shared → Prop), (∀ f s', Q f s' → Q' f s') → wpAny M A x Q' E' s) : wpAny M A x Q E s := h Q E fun _ _ h => h
theorem gen_while {M : Model} {A : Around} {x : Sem Bool} {y : Sem Flow} {Q : Flow → Shared → Prop} {R : Shared → Prop} {E : Value → Shared → Prop} {s : Shared}
    (h : ∀ (Q' : Flow → Shared → Prop) (R' : Shared → Prop) (E' : Value → Shared → Prop), (∀ f s', Q f s' → Q' f s') → (∀ s', R s' → R' s') → wpAny M A x (fun b s₂ => if b = true then wpAny M A y Q' E' s₂ else R' s₂) E' s) :
    wpAny M A x (fun b s₂ => if b = true then wpAny M A y Q E s₂ else R s₂) E s := h Q R E (fun _ _ h => h) fun _ h => h
end Mine
end
section
open PySem PySem.W PyProof.Rows
namespace Mine
/-! the plain law of 07 -/
def splitL (c : Nat) : List Nat → List (List Nat)
  | [] => [[]]
  | k :: r => if k = c then [] :: splitL c r else match splitL c r with | [] => [[k]] | p :: ps => (k :: p) :: ps
theorem splitL_ne (c : Nat) : ∀ l : List Nat, ∃ p ps, splitL c l = p :: ps
  | [] => ⟨_, _, rfl⟩
  | k :: r => by
    obtain ⟨p, ps, e⟩ := splitL_ne c r
    show ∃ p ps, (if k = c then [] :: splitL c r else match splitL c r with | [] => [[k]] | p :: ps => (k :: p) :: ps) = p :: ps
    split
    · exact ⟨_, _, rfl⟩
    · rw [e]; exact ⟨_, _, rfl⟩
theorem splitL_free {c : Nat} {b p : List Nat} {ps : List (List Nat)} (e : splitL c b = p :: ps) : ∀ a : List Nat, c ∉ a → splitL c (a ++ b) = (a ++ p) :: ps
  | [], _ => e
  | k :: r, h => by
    have h1 : ¬ k = c := fun e => h (e ▸ List.mem_cons_self ..)
    have ih := splitL_free e r fun m => h (List.mem_cons_of_mem _ m)
    show (if k = c then [] :: splitL c (r ++ b) else match splitL c (r ++ b) with | [] => [[k]] | p :: ps => (k :: p) :: ps) = _
    rw [if_neg h1, ih]; rfl
theorem splitL_joinL (c : Nat) : ∀ ps : List (List Nat), ps ≠ [] → (∀ p ∈ ps, c ∉ p) → splitL c (joinL [c] ps) = ps
  | [], h, _ => absurd rfl h
  | [p], _, h => by
    have := splitL_free (c := c) (b := []) (p := []) (ps := []) rfl p (h p (List.mem_singleton.mpr rfl))
    show splitL c p = _
    simpa using this
  | p :: q :: r, _, h => by
    have ih := splitL_joinL c (q :: r) (List.cons_ne_nil _ _) fun a ha => h a (List.mem_cons_of_mem _ ha)
    have e : splitL c (c :: joinL [c] (q :: r)) = [] :: (q :: r) := by
      show (if c = c then [] :: splitL c (joinL [c] (q :: r)) else _) = _
      rw [if_pos rfl, ih]
    have := splitL_free e p (h p (List.mem_cons_self ..))
    show splitL c (p ++ [c] ++ joinL [c] (q :: r)) = _
    rw [List.append_assoc]
    simpa using this
def toL (x : Str) : List Nat := x.cps.toList
theorem split_is (x : Str) (c : Nat) : (Txt.split x ⟨#[c]⟩).map toL = splitL c x.cps.toList := by
  have h1 := StrLaws.join_split x ⟨#[c]⟩
  have h2 := StrLaws.split_free x c
  have h3 : (Txt.split x ⟨#[c]⟩) ≠ [] := fun e => by have := split_pos x ⟨#[c]⟩; rw [e] at this; exact absurd this (by decide)
  have h4 := join_ofL [c] ((Txt.split x ⟨#[c]⟩).map toL)
  have h5 : ((Txt.split x ⟨#[c]⟩).map toL).map ofL = Txt.split x ⟨#[c]⟩ := by
    rw [List.map_map]
    conv => rhs; rw [← List.map_id (Txt.split x ⟨#[c]⟩)]
    exact List.map_congr_left fun a _ => toL_ofL a
  rw [h5] at h4
  have h6 : x = ofL (joinL [c] ((Txt.split x ⟨#[c]⟩).map toL)) := by
    rw [← h4]; exact h1.symm
  have h7 : x.cps.toList = joinL [c] ((Txt.split x ⟨#[c]⟩).map toL) := by
    conv => lhs; rw [h6]
    rfl
  rw [h7, splitL_joinL c _ (by simpa using h3)]
  intro p hp
  obtain ⟨y, hy, rfl⟩ := List.mem_map.mp hp
  exact h2 y hy
theorem part_is (x : Str) (c : Nat) : (Txt.partition x ⟨#[c]⟩).1 = ofL (x.cps.toList.takeWhile (· != c)) ∧ (Txt.partition x ⟨#[c]⟩).2.2 = ofL (x.cps.toList.dropWhile (· != c)).tail := by
  have hs := StrLaws.partition_sum x ⟨#[c]⟩
  have ht := List.takeWhile_append_dropWhile (p := (· != c)) (l := x.cps.toList)
  cases ho : (Builtin.Str.occurrences x ⟨#[c]⟩ 0 x.length 1).isEmpty with
  | true =>
    have h1 := from_first_none (x := x) (y := ⟨#[c]⟩) (z := ⟨#[]⟩) rfl rfl ho
    have h2 : x.cps.toList.dropWhile (· != c) = [] := by
      have := congrArg (fun z : Str => z.cps.toList) (eq_of_beq h1)
      simpa using this.symm
    have h3 : Txt.partition x ⟨#[c]⟩ = (x, Str.empty, Str.empty) := by
      unfold Txt.partition
      cases hoc : Builtin.Str.occurrences x ⟨#[c]⟩ 0 x.length 1 with
      | nil => rfl
      | cons a b => rw [hoc] at ho; cases ho
    rw [h2, List.append_nil] at ht
    rw [h3, h2, ht]
    exact ⟨(toL_ofL x).symm, rfl⟩
  | false =>
    have h1 := eq_of_beq (from_first_some (x := x) (y := ⟨#[c]⟩) (z := ⟨#[c]⟩) rfl rfl ho)
    have h2 : c :: (Txt.partition x ⟨#[c]⟩).2.2.cps.toList = x.cps.toList.dropWhile (· != c) := by
      have := congrArg (fun z : Str => z.cps.toList) h1
      simpa [Str.cps_append] using this
    have h3 : (Txt.partition x ⟨#[c]⟩).2.1 = ⟨#[c]⟩ := by
      unfold Txt.partition
      cases hoc : Builtin.Str.occurrences x ⟨#[c]⟩ 0 x.length 1 with
      | nil => rw [hoc] at ho; cases ho
      | cons a b => rfl
    rw [h3] at hs
    have h4 := congrArg (fun z : Str => z.cps.toList) hs
    simp only [Str.cps_append, Array.toList_append] at h4
    rw [← ht, ← h2, List.append_assoc] at h4
    have h5 := List.append_cancel_right h4
    refine ⟨?_, ?_⟩
    · rw [← h5]; exact (toL_ofL _).symm
    · rw [← h2]; exact (toL_ofL _).symm
def refSign (nm : List Nat) : List Nat :=
  if nm = [97, 109, 112] then [38] else if nm = [108, 116] then [60] else if nm = [103, 116] then [62] else if nm = [113, 117, 111, 116] then [34] else if nm = [35, 120, 50, 55] then [39] else []
def unref (p : List Nat) : List Nat := refSign (p.takeWhile (· != 59)) ++ (p.dropWhile (· != 59)).tail
def readL (l : List Nat) : List Nat := (splitL 38 l).headD [] ++ (splitL 38 l).tail.flatMap unref
theorem readL_free {a b : List Nat} (h : 38 ∉ a) : readL (a ++ b) = a ++ readL b := by
  obtain ⟨p, ps, e⟩ := splitL_ne 38 b
  unfold readL
  rw [splitL_free e a h, e]
  simp [List.append_assoc]
theorem wh_free {c : Nat} {h : List Nat} : ∀ nm : List Nat, c ∉ nm → (nm ++ c :: h).takeWhile (· != c) = nm ∧ (nm ++ c :: h).dropWhile (· != c) = c :: h
  | [], _ => by simp
  | k :: r, hn => by
    have h1 : k ≠ c := fun e => hn (e ▸ List.mem_cons_self ..)
    have ih := wh_free (h := h) r fun m => hn (List.mem_cons_of_mem _ m)
    simp only [List.cons_append]
    rw [List.takeWhile_cons_of_pos (by simp [h1]), List.dropWhile_cons_of_pos (by simp [h1]), ih.1, ih.2]
    exact ⟨rfl, rfl⟩
theorem readL_ref {nm b : List Nat} (h : 38 ∉ nm) (h2 : 59 ∉ nm) : readL (38 :: (nm ++ 59 :: b)) = refSign nm ++ readL b := by
  obtain ⟨p, ps, e⟩ := splitL_ne 38 b
  have e1 : splitL 38 (nm ++ 59 :: b) = (nm ++ 59 :: p) :: ps := by
    have := splitL_free e (nm ++ [59]) (by simp [h])
    simpa using this
  have e2 : splitL 38 (38 :: (nm ++ 59 :: b)) = [] :: (nm ++ 59 :: p) :: ps := by
    show (if 38 = 38 then [] :: splitL 38 (nm ++ 59 :: b) else _) = _
    rw [if_pos rfl, e1]
  unfold readL
  rw [e2, e]
  have := wh_free (h := p) nm h2
  simp only [List.headD_cons, List.tail_cons, List.flatMap_cons, List.nil_append]
  unfold unref
  rw [this.1, this.2]
  simp [List.append_assoc]
theorem readL_nil : readL [] = [] := rfl
theorem readL_esc : ∀ l : List Nat, readL (escL true l) = l
  | [] => rfl
  | c :: r => by
    have ih := readL_esc r
    show readL (escC true c ++ escL true r) = _
    unfold escC
    by_cases h1 : c = 38
    · subst h1
      have := readL_ref (nm := [97, 109, 112]) (b := escL true r) (by decide) (by decide)
      rw [ih] at this; exact this
    by_cases h2 : c = 60
    · subst h2
      have := readL_ref (nm := [108, 116]) (b := escL true r) (by decide) (by decide)
      rw [ih] at this; exact this
    by_cases h3 : c = 62
    · subst h3
      have := readL_ref (nm := [103, 116]) (b := escL true r) (by decide) (by decide)
      rw [ih] at this; exact this
    by_cases h4 : c = 34
    · subst h4
      have := readL_ref (nm := [113, 117, 111, 116]) (b := escL true r) (by decide) (by decide)
      rw [ih] at this; exact this
    by_cases h5 : c = 39
    · subst h5
      have := readL_ref (nm := [35, 120, 50, 55]) (b := escL true r) (by decide) (by decide)
      rw [ih] at this; exact this
    rw [if_neg h1, if_neg h2, if_neg h3, if_neg (by simp [h4]), if_neg (by simp [h5]), readL_free (by simpa using Ne.symm h1), ih]
    rfl
/-! the lexer's answer on a quoted text -/
theorem sq_run : ∀ (l : List Nat) (q : Bool) (tok : Str), lexGo (sub1 39 [39, 34, 39, 34, 39] l ++ [39]) .sq q tok = some (some (tok ++ ofL l), .non, [])
  | [], q, tok => by
    have : tok ++ ofL [] = tok := Str_ext (by simp [Str.cps_append, ofL])
    rw [this]
    simp [sub1, lexGo, finT]
  | c :: r, q, tok => by
    have ih := sq_run r true (tok ++ ⟨#[c]⟩)
    have e : tok ++ ⟨#[c]⟩ ++ ofL r = tok ++ ofL (c :: r) := Str_ext (by simp [Str.cps_append, ofL])
    rw [e] at ih
    show lexGo ((if c = 39 then [39, 34, 39, 34, 39] else [c]) ++ sub1 39 [39, 34, 39, 34, 39] r ++ [39]) .sq q tok = _
    by_cases h : c = 39
    · subst h
      rw [if_pos rfl]
      simp only [List.cons_append, List.nil_append, lexGo, if_true]
      rw [if_neg (by decide), if_neg (by decide), if_neg (by decide)]
      rw [if_neg (by decide)]
      exact ih
    · rw [if_neg h]
      simp only [List.cons_append, List.nil_append, lexGo]
      rw [if_neg h]
      exact ih
def q39 (l : List Nat) : List Nat := 39 :: (sub1 39 [39, 34, 39, 34, 39] l ++ [39])
theorem ws39 : ws 39 = false := by decide
theorem lexes_q39 (l : List Nat) : Lexes (q39 l) .sp [ofL l] := by
  refine .tok (st' := .non) (rs' := []) (by intro e; cases e) ?_ (.stop (st' := .non) (rs' := []) (by intro e; cases e) rfl)
  unfold q39
  rw [lexGo, if_neg (by decide), if_neg (by decide), if_neg (by decide), if_pos rfl, sq_run]
  have : Str.ofString "" ++ ofL l = ofL l := Str_ext (by rw [show Str.ofString "" = ofL [] by decide, ofL_append]; rfl)
  rw [this]
theorem a_run : ∀ (l : List Nat) (tok : Str), tok.length ≠ 0 → (∀ c ∈ l, ws c = false ∧ c ≠ 39 ∧ c ≠ 34 ∧ c ≠ 92) → lexGo l .a false tok = some (some (tok ++ ofL l), .non, [])
  | [], tok, h, _ => by
    have : tok ++ ofL [] = tok := Str_ext (by simp [Str.cps_append, ofL])
    rw [this]
    simp [lexGo, finT, h]
  | c :: r, tok, h, hc => by
    obtain ⟨h1, h2, h3, h4⟩ := hc c (List.mem_cons_self ..)
    have ih := a_run r (tok ++ ⟨#[c]⟩) (by rw [Str.length_append]; show tok.length + 1 ≠ 0; omega) fun k hk => hc k (List.mem_cons_of_mem _ hk)
    have e : tok ++ ⟨#[c]⟩ ++ ofL r = tok ++ ofL (c :: r) := Str_ext (by simp [Str.cps_append, ofL])
    rw [e] at ih
    rw [lexGo, if_neg (by simp [h1]), if_neg h2, if_neg h3, if_neg h4]
    exact ih
theorem uns_small : unsafeC 32 = true ∧ unsafeC 9 = true ∧ unsafeC 13 = true ∧ unsafeC 10 = true ∧ unsafeC 39 = true ∧ unsafeC 34 = true ∧ unsafeC 92 = true ∧ unsafeC 38 = true ∧ unsafeC 60 = true ∧ unsafeC 62 = true := by
  have h := fun c (hc : c < 128) => safe_small c hc
  have g : ∀ c ∈ [32, 9, 13, 10, 39, 34, 92, 38, 60, 62], inS' c safeS = false := by decide +kernel
  have k : ∀ c ∈ [32, 9, 13, 10, 39, 34, 92, 38, 60, 62], unsafeC c = true := fun c hc => by
    have h1 := g c hc
    have h2 : c < 128 := by
      simp only [List.mem_cons, List.not_mem_nil, or_false] at hc
      omega
    rw [safe_small c h2] at h1
    simpa using h1
  exact ⟨k _ (by decide), k _ (by decide), k _ (by decide), k _ (by decide), k _ (by decide), k _ (by decide), k _ (by decide), k _ (by decide), k _ (by decide), k _ (by decide)⟩
theorem safe_plain {c : Nat} (h : unsafeC c = false) : ws c = false ∧ c ≠ 39 ∧ c ≠ 34 ∧ c ≠ 92 ∧ c ≠ 38 ∧ c ≠ 60 ∧ c ≠ 62 := by
  obtain ⟨a1, a2, a3, a4, a5, a6, a7, a8, a9, a10⟩ := uns_small
  have n : ∀ d, unsafeC d = true → c ≠ d := fun d hd e => by rw [e, hd] at h; cases h
  refine ⟨?_, n _ a5, n _ a6, n _ a7, n _ a8, n _ a9, n _ a10⟩
  have := n _ a1; have := n _ a2; have := n _ a3; have := n _ a4
  unfold ws
  simp [*]
theorem lexes_qt (l : List Nat) : Lexes (qt l) .sp [ofL l] := by
  unfold qt
  split
  · rename_i h; subst h; exact lexes_q39 []
  · rename_i h
    split
    · exact lexes_q39 l
    · rename_i hu
      have hs : ∀ c ∈ l, unsafeC c = false := by
        intro c hc
        cases hx : unsafeC c with
        | false => rfl
        | true => exact absurd (List.any_eq_true.mpr ⟨c, hc, hx⟩) hu
      refine .tok (st' := .non) (rs' := []) (by intro e; cases e) ?_ (.stop (st' := .non) (rs' := []) (by intro e; cases e) rfl)
      cases l with
      | nil => exact absurd rfl h
      | cons c r =>
        obtain ⟨h1, h2, h3, h4, _⟩ := safe_plain (hs c (List.mem_cons_self ..))
        rw [lexGo, if_neg (by decide), if_neg (by simp [h1]), if_neg h4, if_neg h2, if_neg h3]
        have := a_run r ⟨#[c]⟩ (by show (1 : Nat) ≠ 0; decide) fun k hk => by
          obtain ⟨g1, g2, g3, g4, _⟩ := safe_plain (hs k (List.mem_cons_of_mem _ hk))
          exact ⟨g1, g2, g3, g4⟩
        rw [this]
        have e : Str.mk #[c] ++ ofL r = ofL (c :: r) := Str_ext (by simp [Str.cps_append, ofL])
        rw [e]
/-! pairs of a sign and its depth -/
def nm5 (c : Nat) : List Nat := if c = 38 then [97, 109, 112, 59] else if c = 60 then [108, 116, 59] else if c = 62 then [103, 116, 59] else if c = 34 then [113, 117, 111, 116, 59] else [35, 120, 50, 55, 59]
def special (c : Nat) : Bool := c == 38 || c == 60 || c == 62 || c == 34 || c == 39
def amps (n : Nat) : List Nat := (List.replicate n [97, 109, 112, 59]).flatten
def rd (o : Nat) (p : Nat × Nat) : List Nat := if 0 < p.2 + o ∧ special p.1 = true then 38 :: (amps (p.2 + o - 1) ++ nm5 p.1) else [p.1]
def R (o : Nat) (ps : List (Nat × Nat)) : List Nat := ps.flatMap (rd o)
theorem amps_succ (n : Nat) : amps (n + 1) = [97, 109, 112, 59] ++ amps n := by unfold amps; rw [List.replicate_succ, List.flatten_cons]
theorem amps_mem {n c : Nat} (h : c ∈ amps n) : c ∈ [97, 109, 112, 59] := by
  unfold amps at h
  obtain ⟨l, hl, hc⟩ := List.mem_flatten.mp h
  rw [List.mem_replicate] at hl
  rw [hl.2] at hc; exact hc
theorem nm5_mem {k c : Nat} (h : c ∈ nm5 k) : c ∈ [97, 109, 112, 59, 108, 116, 103, 113, 117, 111, 35, 120, 50, 55] := by
  revert h
  unfold nm5
  split
  · revert c; decide
  split
  · revert c; decide
  split
  · revert c; decide
  split
  · revert c; decide
  revert c; decide
theorem plain_mem {n k c : Nat} (h : c ∈ amps n ++ nm5 k) : c ∈ [97, 109, 112, 59, 108, 116, 103, 113, 117, 111, 35, 120, 50, 55] := by
  rcases List.mem_append.mp h with g | g
  · have := amps_mem g
    clear h g
    revert this; revert c; decide
  · exact nm5_mem g
theorem escC_plain {c : Nat} (h : special c = false) : escC true c = [c] := by
  unfold special at h
  simp only [Bool.or_eq_false_iff, beq_eq_false_iff_ne, ne_eq] at h
  obtain ⟨⟨⟨⟨h1, h2⟩, h3⟩, h4⟩, h5⟩ := h
  unfold escC
  simp [h1, h2, h3, h4, h5]
theorem escL_plain : ∀ l : List Nat, (∀ c ∈ l, special c = false) → escL true l = l
  | [], _ => rfl
  | c :: r, h => by
    show escC true c ++ escL true r = _
    rw [escC_plain (h c (List.mem_cons_self ..)), escL_plain r fun k hk => h k (List.mem_cons_of_mem _ hk)]; rfl
theorem plain_all : ∀ c ∈ [97, 109, 112, 59, 108, 116, 103, 113, 117, 111, 35, 120, 50, 55], special c = false := by decide
theorem escC_spec {c : Nat} (h : special c = true) : escC true c = 38 :: nm5 c := by
  unfold special at h
  unfold escC nm5
  by_cases h1 : c = 38; · subst h1; rfl
  by_cases h2 : c = 60; · subst h2; rfl
  by_cases h3 : c = 62; · subst h3; rfl
  by_cases h4 : c = 34; · subst h4; rfl
  by_cases h5 : c = 39; · subst h5; rfl
  simp [h1, h2, h3, h4, h5] at h
theorem rd_esc (o : Nat) (p : Nat × Nat) : escL true (rd o p) = rd (o + 1) p := by
  obtain ⟨c, d⟩ := p
  unfold rd
  dsimp only
  cases hs : special c with
  | false =>
    rw [if_neg (by simp), if_neg (by simp)]
    exact escL_plain [c] (by simpa using hs)
  | true =>
    by_cases h : 0 < d + o
    · rw [if_pos ⟨h, rfl⟩, if_pos ⟨(by omega : 0 < d + (o + 1)), rfl⟩]
      show escC true 38 ++ escL true (amps (d + o - 1) ++ nm5 c) = _
      rw [escL_plain _ fun k hk => plain_all k (plain_mem hk), show d + (o + 1) - 1 = d + o - 1 + 1 by omega, amps_succ]
      simp [escC]
    · rw [if_neg (fun e => h e.1), if_pos ⟨(by omega : 0 < d + (o + 1)), rfl⟩]
      show escC true c ++ [] = _
      rw [escC_spec hs, show d + (o + 1) - 1 = 0 by omega]
      simp [amps]
theorem R_esc (o : Nat) (ps : List (Nat × Nat)) : escL true (R o ps) = R (o + 1) ps := by
  unfold R escL
  rw [List.flatMap_assoc]
  congr 1; funext p
  exact rd_esc o p
def inner (t : Nat) (p : Nat × Nat) : List (Nat × Nat) := if p.1 = 39 ∧ p.2 + t = 0 then [(39, 0), (34, 0), (39, 0), (34, 0), (39, 0)] else [(p.1, p.2 + t)]
def stepP (t : Nat) (ps : List (Nat × Nat)) : List (Nat × Nat) := (39, 0) :: (ps.flatMap (inner t) ++ [(39, 0)])
theorem rd_shift (o t c d : Nat) : rd o (c, d + t) = rd (o + t) (c, d) := by
  unfold rd
  dsimp only
  rw [show d + t + o = d + (o + t) by omega]
theorem rd_no39 {t c d : Nat} (h : ¬ (c = 39 ∧ d + t = 0)) : 39 ∉ rd t (c, d) := by
  unfold rd
  dsimp only
  split
  · intro hm
    rcases List.mem_cons.mp hm with e | hm
    · cases e
    · have := plain_mem hm
      revert this; decide
  · rename_i hn
    intro hm
    have e : 39 = c := by simpa using hm
    subst e
    exact hn ⟨by have : ¬ d + t = 0 := fun e => h ⟨rfl, e⟩; omega, by decide⟩
theorem R_inner (t : Nat) (ps : List (Nat × Nat)) : R 0 (ps.flatMap (inner t)) = sub1 39 [39, 34, 39, 34, 39] (R t ps) := by
  unfold R sub1
  rw [List.flatMap_assoc, List.flatMap_assoc]
  congr 1; funext p
  obtain ⟨c, d⟩ := p
  unfold inner
  dsimp only
  split
  · rename_i h
    obtain ⟨rfl, h2⟩ := h
    have e : rd t (39, d) = [39] := by
      unfold rd
      dsimp only
      rw [if_neg (by omega)]
    rw [e]; decide
  · rename_i h
    have := sub1_free 39 [39, 34, 39, 34, 39] _ (rd_no39 h)
    unfold sub1 at this
    rw [this]
    show rd 0 (c, d + t) ++ [] = _
    rw [rd_shift, Nat.zero_add, List.append_nil]
theorem R_step (t : Nat) (ps : List (Nat × Nat)) : R 0 (stepP t ps) = q39 (R t ps) := by
  have := R_inner t ps
  unfold stepP q39
  unfold R at this ⊢
  rw [List.flatMap_cons, List.flatMap_append, this]
  rfl
theorem R_unsafe {t : Nat} {ps : List (Nat × Nat)} (h : ∃ p ∈ ps, unsafeC p.1 = true) : (R t ps).any unsafeC = true := by
  obtain ⟨p, hp, hu⟩ := h
  rw [List.any_eq_true]
  by_cases hc : 0 < p.2 + t ∧ special p.1 = true
  · refine ⟨38, ?_, uns_small.2.2.2.2.2.2.2.1⟩
    unfold R
    rw [List.mem_flatMap]
    refine ⟨p, hp, ?_⟩
    unfold rd
    rw [if_pos hc]; exact List.mem_cons_self ..
  · refine ⟨p.1, ?_, hu⟩
    unfold R
    rw [List.mem_flatMap]
    refine ⟨p, hp, ?_⟩
    unfold rd
    rw [if_neg hc]; exact List.mem_cons_self ..
theorem qt_step {t : Nat} {ps : List (Nat × Nat)} (h : ps = [] ∨ ∃ p ∈ ps, unsafeC p.1 = true) : qt (R t ps) = R 0 (stepP t ps) := by
  rw [R_step]
  unfold qt
  split
  · rename_i e; rw [e]; rfl
  · rename_i e
    rcases h with rfl | h
    · exact absurd rfl e
    · rw [if_pos (R_unsafe h)]; rfl
def escN : Nat → List Nat → List Nat
  | 0, l => l
  | n + 1, l => escL true (escN n l)
def tell (l : List Nat) (ts : List Nat) : List Nat := ts.foldl (fun tl t => qt (escN t tl)) l
def pairs (l : List Nat) (ts : List Nat) : List (Nat × Nat) := ts.foldl (fun ps t => stepP t ps) (l.map fun c => (c, 0))
def due (l : List Nat) (ts : List Nat) (o : Nat) : List Nat := if isSafe l then l else R o (pairs l ts)
theorem R_escN (ps : List (Nat × Nat)) : ∀ n, escN n (R 0 ps) = R n ps
  | 0 => rfl
  | n + 1 => by show escL true (escN n (R 0 ps)) = _; rw [R_escN ps n, R_esc]
theorem R_plain : ∀ l : List Nat, R 0 (l.map fun c => (c, 0)) = l
  | [] => rfl
  | c :: r => by
    have ih := R_plain r
    unfold R at ih ⊢
    rw [List.map_cons, List.flatMap_cons, ih]
    rfl
theorem fold_tell : ∀ (ts : List Nat) (ps : List (Nat × Nat)), (ps = [] ∨ ∃ p ∈ ps, unsafeC p.1 = true) → ts.foldl (fun tl t => qt (escN t tl)) (R 0 ps) = R 0 (ts.foldl (fun ps t => stepP t ps) ps)
  | [], _, _ => rfl
  | t :: ts, ps, h => by
    show ts.foldl _ (qt (escN t (R 0 ps))) = R 0 (ts.foldl _ (stepP t ps))
    rw [R_escN, qt_step h]
    exact fold_tell ts (stepP t ps) (.inr ⟨(39, 0), List.mem_cons_self .., uns_small.2.2.2.2.1⟩)
theorem safe_fix {l : List Nat} (h : isSafe l = true) : escL true l = l ∧ qt l = l := by
  unfold isSafe at h
  simp only [Bool.and_eq_true, Bool.not_eq_true', List.isEmpty_eq_false_iff] at h
  obtain ⟨h1, h2⟩ := h
  have hs : ∀ c ∈ l, unsafeC c = false := by
    intro c hc
    cases hx : unsafeC c with
    | false => rfl
    | true => rw [List.any_eq_true.mpr ⟨c, hc, hx⟩] at h2; cases h2
  refine ⟨escL_plain l fun c hc => ?_, ?_⟩
  · obtain ⟨_, g1, g2, _, g3, g4, g5⟩ := safe_plain (hs c hc)
    unfold special
    simp [g1, g2, g3, g4, g5]
  · unfold qt
    rw [if_neg h1, if_neg (by rw [h2]; decide)]
theorem safe_escN {l : List Nat} (h : isSafe l = true) : ∀ n, escN n l = l
  | 0 => rfl
  | n + 1 => by show escL true (escN n l) = l; rw [safe_escN h n, (safe_fix h).1]
theorem safe_tell {l : List Nat} (h : isSafe l = true) : ∀ ts : List Nat, tell l ts = l
  | [] => rfl
  | t :: ts => by
    show ts.foldl _ (qt (escN t l)) = l
    rw [safe_escN h, (safe_fix h).2]
    exact safe_tell h ts
theorem told_due (l ts : List Nat) (o : Nat) : escN o (tell l ts) = due l ts o := by
  unfold due
  cases h : isSafe l with
  | true => rw [safe_tell h, safe_escN h]; rfl
  | false =>
    have hu : (l.map fun c => (c, 0)) = [] ∨ ∃ p ∈ (l.map fun c => ((c, 0) : Nat × Nat)), unsafeC p.1 = true := by
      unfold isSafe at h
      cases l with
      | nil => exact .inl rfl
      | cons c r =>
        right
        simp only [List.isEmpty_cons, Bool.not_false, Bool.true_and, Bool.not_eq_false'] at h
        obtain ⟨k, hk, hu⟩ := List.any_eq_true.mp h
        exact ⟨(k, 0), List.mem_map.mpr ⟨k, hk, rfl⟩, hu⟩
    have := fold_tell ts _ hu
    rw [R_plain] at this
    show escN o (ts.foldl _ l) = R o (pairs l ts)
    rw [this]
    exact R_escN _ o
theorem tell_snoc (l ts : List Nat) (t : Nat) : tell l (ts ++ [t]) = qt (escN t (tell l ts)) := by
  unfold tell; rw [List.foldl_append]; rfl
/-! lengths -/
theorem rd_len {o D : Nat} {p : Nat × Nat} (h : p.2 ≤ D) : (rd o p).length ≤ 4 * (D + o) + 2 := by
  unfold rd
  split
  · rename_i hc
    have e : (amps (p.2 + o - 1)).length = 4 * (p.2 + o - 1) := by
      unfold amps
      rw [List.length_flatten, List.map_replicate, List.sum_replicate_nat]
      simp; omega
    have e2 : (nm5 p.1).length ≤ 5 := by unfold nm5; (repeat' split) <;> simp
    simp only [List.length_cons, List.length_append]
    omega
  · simp
theorem R_len {o D : Nat} : ∀ {ps : List (Nat × Nat)}, (∀ p ∈ ps, p.2 ≤ D) → (R o ps).length ≤ (4 * (D + o) + 2) * ps.length
  | [], _ => Nat.zero_le _
  | p :: r, h => by
    have ih := R_len (o := o) fun q hq => h q (List.mem_cons_of_mem _ hq)
    have := rd_len (o := o) (h p (List.mem_cons_self ..))
    unfold R at ih ⊢
    rw [List.flatMap_cons, List.length_append, List.length_cons, Nat.mul_add, Nat.mul_one]; omega
theorem step_len (t : Nat) (ps : List (Nat × Nat)) : (stepP t ps).length ≤ 5 * ps.length + 2 := by
  have : (ps.flatMap (inner t)).length ≤ 5 * ps.length := by
    induction ps with
    | nil => simp
    | cons p r ih =>
      have h : (inner t p).length ≤ 5 := by unfold inner; split <;> simp
      rw [List.flatMap_cons, List.length_append, List.length_cons]; omega
  unfold stepP
  simp only [List.length_cons, List.length_append, List.length_nil]; omega
theorem step_depth {t D : Nat} {ps : List (Nat × Nat)} (h : ∀ p ∈ ps, p.2 ≤ D) : ∀ p ∈ stepP t ps, p.2 ≤ D + t := by
  intro p hp
  unfold stepP at hp
  rcases List.mem_cons.mp hp with rfl | hp
  · exact Nat.zero_le _
  rcases List.mem_append.mp hp with hp | hp
  · obtain ⟨q, hq, hp⟩ := List.mem_flatMap.mp hp
    have := h q hq
    unfold inner at hp
    split at hp
    · simp only [List.mem_cons, List.not_mem_nil, or_false] at hp
      rcases hp with rfl | rfl | rfl | rfl | rfl <;> exact Nat.zero_le _
    · rw [List.mem_singleton.mp hp]; show q.2 + t ≤ D + t; omega
  · rw [List.mem_singleton.mp hp]; exact Nat.zero_le _
def gro : Nat → Nat → Nat
  | 0, n => n
  | k + 1, n => gro k (5 * n + 2)
theorem gro_mono : ∀ (k : Nat) {a b : Nat}, a ≤ b → gro k a ≤ gro k b
  | 0, _, _, h => h
  | k + 1, a, b, h => gro_mono k (by omega)
theorem fold_size : ∀ (ts : List Nat) (ps : List (Nat × Nat)) (D : Nat), (∀ p ∈ ps, p.2 ≤ D) → (∀ t ∈ ts, t ≤ 2) →
    (ts.foldl (fun ps t => stepP t ps) ps).length ≤ gro ts.length ps.length ∧ ∀ p ∈ ts.foldl (fun ps t => stepP t ps) ps, p.2 ≤ D + 2 * ts.length
  | [], ps, D, h, _ => ⟨Nat.le_refl _, h⟩
  | t :: ts, ps, D, h, ht => by
    have h2 := ht t (List.mem_cons_self ..)
    obtain ⟨i1, i2⟩ := fold_size ts (stepP t ps) (D + t) (step_depth h) fun k hk => ht k (List.mem_cons_of_mem _ hk)
    refine ⟨Nat.le_trans i1 (gro_mono _ (step_len t ps)), fun p hp => ?_⟩
    have := i2 p hp
    rw [List.length_cons]; omega
theorem gro_le : ∀ (k j n : Nat), k ≤ j → gro k n ≤ gro j n
  | 0, 0, n, _ => Nat.le_refl _
  | 0, j + 1, n, _ => Nat.le_trans (by show n ≤ 5 * n + 2; omega) (gro_le 0 j (5 * n + 2) (Nat.zero_le _))
  | k + 1, 0, n, h => absurd h (by omega)
  | k + 1, j + 1, n, h => gro_le k j (5 * n + 2) (by omega)
theorem pairs_size {l ts : List Nat} (ht : ∀ t ∈ ts, t ≤ 2) (hl : ts.length ≤ 4 ∧ l.length ≤ 24 ∨ ts.length ≤ 2 ∧ l.length ≤ 80) : (pairs l ts).length ≤ 15312 ∧ ∀ p ∈ pairs l ts, p.2 ≤ 8 := by
  obtain ⟨h1, h2⟩ := fold_size ts (l.map fun c => (c, 0)) 0 (fun p hp => by obtain ⟨c, _, rfl⟩ := List.mem_map.mp hp; exact Nat.le_refl _) ht
  rw [List.length_map] at h1
  refine ⟨Nat.le_trans h1 ?_, fun p hp => Nat.le_trans (h2 p hp) (by omega)⟩
  rcases hl with ⟨a, b⟩ | ⟨a, b⟩
  · exact Nat.le_trans (gro_le _ 4 _ a) (Nat.le_trans (gro_mono 4 b) (by decide))
  · exact Nat.le_trans (gro_le _ 2 _ a) (Nat.le_trans (gro_mono 2 b) (by decide))
theorem told_len {l ts : List Nat} {o : Nat} (ht : ∀ t ∈ ts, t ≤ 2) (hl : ts.length ≤ 4 ∧ l.length ≤ 24 ∨ ts.length ≤ 2 ∧ l.length ≤ 80) (ho : o ≤ 2) : (escN o (tell l ts)).length ≤ 1000000 := by
  rw [told_due]
  unfold due
  split
  · omega
  · obtain ⟨h1, h2⟩ := pairs_size ht hl
    refine Nat.le_trans (R_len h2) ?_
    refine Nat.le_trans (Nat.mul_le_mul (show 4 * (8 + o) + 2 ≤ 42 by omega) h1) (by decide)
end Mine
end
section
open PySem PySem.W PyProof.Rows
namespace Mine
section
variable {prog : Program} {w : World} {A : Around} {E : Value → Shared → Prop} {s : Shared} {env : Env} {h₀ : Heap} {Q : Flow → Shared → Prop}
/-- over range(n) -/
theorem iter_range {x : Str} {px : Pos} {body : List Stmt} {R : Addr} {n : Nat} {t u v : Tok} {m : Str → Option Value} {news : List (Addr × Obj)}
    (hh : A.handled = none) (hr : IsRange s.heap R 0 (n : Int) 1 t u v) (hn : n ≤ 1000000) (hx : env.kindOf x = some .local) (hp : (env.scope.kind == .class || (env.scope.kind == .module && env.locals != env.globals)) = false)
    (F : Fr h₀ env.locals s.heap m) (N : News h₀ env.locals s.heap news) (hE : PassesOwn (model prog w) A env E)
    (J : Nat → (Str → Option Value) → List (Addr × Obj) → Prop) (h0 : J 0 m news)
    (step : ∀ i v m₁ news₁ h tk own I, 0 < tk → i < n → J i m₁ news₁ → (∃ oI, (I, oI) ∈ own) → (∀ p ∈ news₁, p.1 ≠ I) → (∀ p ∈ own, p.1 = I) → Fr h₀ env.locals h (fun y => if y = x then some v else m₁ y) → News h₀ env.locals h (own ++ news₁) →
      wpAny (model prog w) A (execs body env) (LE h₀ env.locals [I] own (J (i + 1)) s Q) E { s with heap := h, toks := tk })
    (done : ∀ h' tk m' news', Fr h₀ env.locals h' m' → News h₀ env.locals h' news' → J n m' news' → Q .next { s with heap := h', toks := tk }) :
    wpAny (model prog w) A (pyIter (.ref R)) (fun it s₂ => Tail prog w A env (.Name x px) body Q E it s₂) E s := by
  refine wpAny_pyIter_range hr (small_one (by decide) (by decide) (by omega) (by omega)) ?_
  have W := Walks.range (prog := prog) (w := w) hh s.heap.objs.size 0 1 n
  have hI0 := next_is_new F
  have hst : IsRangeIter (s.heap.push { cls := .type "range_iterator", data := .fields #[rawInt 0, rawInt (Builtin.Range.rangeSize 0 (n : Int) 1), rawInt 1] }) s.heap.objs.size (0 + ((0 : Nat) : Int) * 1) ((n : Int) - ((0 : Nat) : Int)) 1 := by
    rw [rangeSize_nat, show ((n : Int) - 0).toNat = n by omega, show (0 + ((0 : Nat) : Int) * 1) = 0 by omega, show (n : Int) - ((0 : Nat) : Int) = (n : Int) by omega]
    exact Heap.get?_push_size _ rfl
  refine tail_anyS (s := { s with heap := _ }) W ?_ ?_ ?_ hst (F.push _) (fun p hp => ⟨Heap.get?_push_of_some _ (N p hp).1, (N p hp).2⟩) hE (fun i s' v Q' E' _ _ hQ => wpAny_pure hQ) J h0 ?_ done
  · intro hm
    exact absurd F.ns.lt (List.mem_singleton.mp hm ▸ Nat.lt_irrefl _)
  · intro b hb
    rw [List.mem_singleton.mp hb]
    exact hI0
  · intro p hp hI
    exact absurd (Heap.lt_size (N p hp).1) ((List.mem_singleton.mp hI) ▸ Nat.lt_irrefl _)
  · intro i v m₁ news₁ h tk own hi hP st hown hJ off hsub F₁ N₁
    have hI : (s.heap.objs.size, _) ∈ own := hown _ (.head _) hI0 _ st
    refine wpAny_assign_Name (wpAny_storeName_local hx F₁.ns (fun h₂ hn₂ hs₂ => ?_) hp)
    exact step i v m₁ news₁ h₂ (tk + 1) own _ (Nat.succ_pos _) hi hJ ⟨_, hI⟩ (fun p hp e => off p hp (by rw [e]; exact .head _)) (fun p hp => List.mem_singleton.mp (hsub p hp)) (F₁.set hn₂ hs₂) (N₁.set hs₂)
end
end Mine
end
section
open PySem PySem.W PyProof.Rows
namespace Mine
section
local macro_rules | `(tactic| o_head $_) => `(tactic| assumption)
theorem pre (h : PySem.Challenge.rw_dn0059_07.row.Holds) : PySem.Challenge.rw_dn0059_07.row.Holds := by
  k_head
end
end Mine
end
open PySem PySem.W PyProof.Rows
namespace Mine
theorem all_ne_lt {l : List (Addr × Obj)} {d c : Nat} (h : ∀ p ∈ l, p.1 < d) (hc : d ≤ c) : ∀ p ∈ l, p.1 ≠ c := fun p hp => Nat.ne_of_lt (Nat.lt_of_lt_of_le (h p hp) hc)
local macro_rules | `(tactic| k_all) => `(tactic| first | assumption | (refine all_ne_lt (by assumption) ?_; omega))
local macro_rules | `(tactic| k_room) => `(tactic| ktr_room)
local macro_rules | `(tactic| walk_at "my enter") => `(tactic| (refine' code_def ?k1 ?k2 ?k3 ?k4 ?k5 ?kA ?kF ?kK ?k6 ?k7 ?k8 ?k9 ?kB ?_ ?c2 ?c3 ?c4 ?c5; (case kA => exact rfl); (case kF => exact rfl); (case kK => assumption); (case k1 => k_asm); (case k2 => k_asm); (case k3 => k_asm); (case k4 => k_asm); (case k5 => k_asm); (case k6 => k_is); (case k7 => k_is); (case k8 => ktr_room); (case k9 => first | exact BindsTo.of_eq rfl | exact binds_K (by k_in) rfl (by k_is) rfl rfl rfl | fail "k_enter: no rule for these arguments"); (case c5 => decide); (case kB => exact locs rfl); (case c2 => exact rfl); (case c3 => exact rfl); (case c4 => exact rfl); k_whole; intro g' L' h' FG' F' N' B' X' T'; (try dsimp only); (try k_lift B'); (try k_fold)))
local macro_rules | `(tactic| walk_at "execs cons") => `(tactic| first | (k_here; k_gentoks) | ((with_reducible refine execs_one ?_); try dsimp only))
local macro_rules | `(tactic| walk_at "ite") => `(tactic| first | with_reducible refine ite_tt ?_ | with_reducible refine ite_ff ?_ | with_reducible refine ite_ntt ?_ | with_reducible refine ite_nff ?_ | (k_closed; first | with_reducible refine ite_bf (by decide) ?_ | with_reducible refine ite_bt (by decide) ?_))
local macro_rules | `(tactic| walk_at "getAttr ref") => `(tactic| (k_here; k_dflt (refine' get_own ?k1 ?k2 ?k3 ?k4 ?k5 ?k6 ?k7 ?k8 ?k9 ?_; (case k1 => k_asm); (case k2 => k_asm); (case k3 => k_inst); (case k8 => k_get); (case k4 => k_is); (case k5 => k_is); (case k6 => k_is); (case k7 => k_is); (case k9 => k_handed); k_whole)))
local macro_rules | `(tactic| walk_at "callWith ref") => `(tactic| (k_here; k_dflt (first | (refine' callWith_K ?k1 ?k2 ?_; (case k1 => k_asm); (case k2 => k_is); k_whole) | (refine' callWith_K0 ?k1 ?k2 ?_; (case k1 => k_in); (case k2 => k_is); k_whole))))

local macro_rules | `(tactic| walk_at $s:str) => `(tactic| k_extra $s)
section
abbrev ent (w : World) (k : String) (t : Tok) (v : Value) : DictEntry := ⟨PyData.keyHash w.params (Str.ofString k), .str (Str.ofString k) t, v⟩
abbrev sioD (w : World) (u : Nat → Tok) (tp : Tok) (buf : Str) (pos : Int) : List DictEntry :=
  [ent w "_StringIO__newline" (u 0) (.str (Str.ofString "\n") (u 3)), ent w "_StringIO__buf" (u 1) (.str buf (u 4)), ent w "_StringIO__pos" (u 2) (.int pos tp)]
theorem slice_one {buf : Str} {pos : Nat} {c : Nat} {r : List Nat} (h : buf.cps.toList.drop pos = c :: r) : Txt.slice buf (some (pos : Int)) (some ((pos : Int) + 1)) = ⟨#[c]⟩ := by
  have hl : pos < buf.cps.size := by
    have := congrArg List.length h
    simp only [List.length_drop, Array.length_toList, List.length_cons] at this
    omega
  have hc : buf.cps[pos]? = some c := by
    rw [← Array.getElem?_toList, ← List.head?_drop, h]; rfl
  have hi : Builtin.Str.strSliceIndices (some (pos : Int)) (some ((pos : Int) + 1)) 1 buf.length = [pos] := by
    have hl' : pos < buf.length := hl
    unfold Builtin.Str.strSliceIndices sliceRange
    simp only [show (1 : Int) > 0 from by decide, if_true]
    rw [if_neg (show ¬ ((pos : Int) < 0) by omega), if_neg (show ¬ ((pos : Int) + 1 < 0) by omega), show max (0 : Int) (min (pos : Int) (buf.length : Int)) = pos by omega, show max (0 : Int) (min ((pos : Int) + 1) (buf.length : Int)) = pos + 1 by omega, if_pos (by omega), Int.ediv_one, show ((pos : Int) + 1 - pos + 1 - 1).toNat = 1 by omega]
    simp
  unfold Txt.slice
  rw [hi]
  split
  · rename_i h1
    have h2 : buf.cps.size = 1 := by
      have : (1 == buf.length) = true := by simpa using h1
      exact (beq_iff_eq.mp this).symm
    have h3 : pos = 0 := by omega
    subst h3
    cases buf with
    | mk a =>
      congr 1
      refine Array.ext' ?_
      have : a.toList = c :: r := by simpa using h
      have hlen : a.toList.length = 1 := by simpa using h2
      rw [this] at hlen ⊢
      cases r with
      | nil => rfl
      | cons _ _ => simp at hlen
  · simp [hc]
theorem read_any {w : World} {p : Program} {loose : List Str} {mean : ExcName → Option Value} {mg mb : Str → Option Value}
    {dp un : Nat} {gd : Option (List Code)} {cn : Str} {cs : Scope} {a : Addr} {ccd : Value} {cl : List (Str × Addr)} {outer : List Env} {A₀ : Around} {base h₀ : Heap} {L : Addr} {m : Str → Option Value} {s : Shared} {Q E : Value → Shared → Prop}
    {x dx : Addr} {rest : List (Addr × Obj)} {u : Nat → Tok} {t tp : Tok} {buf : Str} {pos : Nat}
    (B : Below A₀ base outer h₀) (F : Fr h₀ L s.heap m) (X : (pre.heap_1 w.params).In h₀)
    (N : News h₀ L s.heap ((x, instObj 597 dx) :: (dx, dictOf (sioD w u tp buf (pos : Int)) 3) :: rest)) (T : Top p loose mean mg mb h₀)
    (hxd : @Ne Nat x dx) (hr : ∀ p ∈ rest, p.1 ≠ dx)
    (hk : cs.kind = .function) (hbl : buf.length ≤ 1000000) (hdp : dp + 3 < recursionLimit) (hun : un + 20 < cLine)
    (hnil : buf.length ≤ pos → ∀ t' h' tk', Fr h₀ L h' m → News h₀ L h' ((x, instObj 597 dx) :: (dx, dictOf (sioD w u tp buf (pos : Int)) 3) :: rest) → Q (.str (Str.ofString "") t') { s with heap := h', toks := tk' })
    (hcons : pos < buf.length → ∀ z : Int, z = ((pos + 1 : Nat) : Int) → ∀ t' tp' h' tk', Fr h₀ L h' m → News h₀ L h' ((x, instObj 597 dx) :: (dx, dictOf (sioD w u tp' buf z) 3) :: rest) → Q (.str (Txt.slice buf (some (pos : Int)) (some z)) t') { s with heap := h', toks := tk' }) :
    wpAny (model Challenge.rw_dn0059_07.row.prog w) (ktrTop dp un gd cn cs L a ccd cl outer) (call (.ref 543) [.ref x, .int 1 t]) Q E s := by
  w_on
  k_with_none
  k_with "subscriptTail" => (k_here; (fail_if_success (with_reducible show wpAny _ _ (subscriptTail (PySem.Expr.Name _ _) _ _ _) _ _ _)); k_dflt (refine kba_turn (value' := PySem.Expr.Name (PySem.Str.ofString "_") ⟨0, 0, 0, 0⟩) (fun _ => rfl) ?_))
  revert X; k_fill; intro X
  refine wpAny_call ?_
  k_dflt (walk_at "my enter")
  k_steps
  all_goals (rename_i kF kN _ _)
  · exact hnil (by omega) _ _ _ kF kN
  · exact hcons (by omega) _ (by omega) _ _ _ _ kF kN
  · exact hcons (by omega) _ (by omega) _ _ _ _ kF kN
theorem read_nil {w : World} {p : Program} {loose : List Str} {mean : ExcName → Option Value} {mg mb : Str → Option Value}
    {dp un : Nat} {gd : Option (List Code)} {cn : Str} {cs : Scope} {a : Addr} {ccd : Value} {cl : List (Str × Addr)} {outer : List Env} {A₀ : Around} {base h₀ : Heap} {L : Addr} {m : Str → Option Value} {s : Shared} {Q E : Value → Shared → Prop}
    {x dx : Addr} {rest : List (Addr × Obj)} {u : Nat → Tok} {t tp : Tok} {buf : Str} {pos : Nat}
    (B : Below A₀ base outer h₀) (F : Fr h₀ L s.heap m) (X : (pre.heap_1 w.params).In h₀)
    (N : News h₀ L s.heap ((x, instObj 597 dx) :: (dx, dictOf (sioD w u tp buf (pos : Int)) 3) :: rest)) (T : Top p loose mean mg mb h₀)
    (hxd : @Ne Nat x dx) (hr : ∀ p ∈ rest, p.1 ≠ dx)
    (hk : cs.kind = .function) (hbl : buf.length ≤ 1000000) (hdp : dp + 3 < recursionLimit) (hun : un + 20 < cLine) (hrs : buf.cps.toList.drop pos = [])
    (hnil : ∀ t' h' tk', Fr h₀ L h' m → News h₀ L h' ((x, instObj 597 dx) :: (dx, dictOf (sioD w u tp buf (pos : Int)) 3) :: rest) → Q (.str (Str.ofString "") t') { s with heap := h', toks := tk' }) :
    wpAny (model Challenge.rw_dn0059_07.row.prog w) (ktrTop dp un gd cn cs L a ccd cl outer) (call (.ref 543) [.ref x, .int 1 t]) Q E s := by
  have hl : buf.length ≤ pos := by
    have := congrArg List.length hrs
    simp only [List.length_drop, Array.length_toList, List.length_nil] at this
    have e : buf.length = buf.cps.size := rfl
    omega
  exact read_any B F X N T hxd hr hk hbl hdp hun (fun _ => hnil) (fun h => absurd h (by omega))
theorem read_cons {w : World} {p : Program} {loose : List Str} {mean : ExcName → Option Value} {mg mb : Str → Option Value}
    {dp un : Nat} {gd : Option (List Code)} {cn : Str} {cs : Scope} {a : Addr} {ccd : Value} {cl : List (Str × Addr)} {outer : List Env} {A₀ : Around} {base h₀ : Heap} {L : Addr} {m : Str → Option Value} {s : Shared} {Q E : Value → Shared → Prop}
    {x dx : Addr} {rest : List (Addr × Obj)} {u : Nat → Tok} {t tp : Tok} {buf : Str} {pos c : Nat} {r : List Nat}
    (B : Below A₀ base outer h₀) (F : Fr h₀ L s.heap m) (X : (pre.heap_1 w.params).In h₀)
    (N : News h₀ L s.heap ((x, instObj 597 dx) :: (dx, dictOf (sioD w u tp buf (pos : Int)) 3) :: rest)) (T : Top p loose mean mg mb h₀)
    (hxd : @Ne Nat x dx) (hr : ∀ p ∈ rest, p.1 ≠ dx)
    (hk : cs.kind = .function) (hbl : buf.length ≤ 1000000) (hdp : dp + 3 < recursionLimit) (hun : un + 20 < cLine) (hrs : buf.cps.toList.drop pos = c :: r)
    (hcons : ∀ t' tp' h' tk', Fr h₀ L h' m → News h₀ L h' ((x, instObj 597 dx) :: (dx, dictOf (sioD w u tp' buf ((pos + 1 : Nat) : Int)) 3) :: rest) → Q (.str ⟨#[c]⟩ t') { s with heap := h', toks := tk' }) :
    wpAny (model Challenge.rw_dn0059_07.row.prog w) (ktrTop dp un gd cn cs L a ccd cl outer) (call (.ref 543) [.ref x, .int 1 t]) Q E s := by
  have hl : pos < buf.length := by
    have := congrArg List.length hrs
    simp only [List.length_drop, Array.length_toList, List.length_cons] at this
    have e : buf.length = buf.cps.size := rfl
    omega
  refine read_any B F X N T hxd hr hk hbl hdp hun (fun h => absurd h (by omega)) (fun _ z hz t' tp' h' tk' F' N' => ?_)
  subst hz
  rw [Int.natCast_add] at *
  rw [show ((1 : Nat) : Int) = 1 from rfl, slice_one hrs]
  exact hcons t' tp' h' tk' F' N'
end
section
def wordC : Str := Str.ofString "abcdfeghijklmnopqrstuvwxyzABCDEFGHIJKLMNOPQRSTUVWXYZ0123456789_ßàáâãäåæçèéêëìíîïðñòóôõöøùúûüýþÿÀÁÂÃÄÅÆÇÈÉÊËÌÍÎÏÐÑÒÓÔÕÖØÙÚÛÜÝÞ"
abbrev lexD (w : World) (t : Nat → Tok) (x pb fs : Addr) (st : Value) (ln : Int) (tl : Tok) (tok : Str) (tt : Tok) : List DictEntry :=
  [ent w "instream" (t 0) (.ref x), ent w "infile" (t 1) .none, ent w "posix" (t 2) (.bool true), ent w "eof" (t 3) .none,
   ent w "commenters" (t 4) (.str (Str.ofString "") (t 20)), ent w "wordchars" (t 5) (.str wordC (t 21)),
   ent w "whitespace" (t 6) (.str (Str.ofString " \t\r\n") (t 22)), ent w "whitespace_split" (t 7) (.bool true),
   ent w "quotes" (t 8) (.str (Str.ofString "'\"") (t 23)), ent w "escape" (t 9) (.str (Str.ofString "\\") (t 24)), ent w "escapedquotes" (t 10) (.str (Str.ofString "\"") (t 25)),
   ent w "state" (t 11) st, ent w "pushback" (t 12) (.ref pb), ent w "lineno" (t 13) (.int ln tl), ent w "debug" (t 14) (.int 0 (t 26)),
   ent w "token" (t 15) (.str tok tt), ent w "filestack" (t 16) (.ref fs), ent w "source" (t 17) .none, ent w "_punctuation_chars" (t 18) (.str (Str.ofString "") (t 27))]
/-- what a lexer is, but what turns -/
structure LexAt where
  x : Addr
  dx : Addr
  lx : Addr
  ld : Addr
  pb : Addr
  fs : Addr
  t : Nat → Tok
  u : Nat → Tok
  buf : Str
/-- what turns -/
structure LexSt where
  st : LS
  ts : Tok
  tok : Str
  tt : Tok
  ln : Int
  tl : Tok
  pos : Nat
  tp : Tok
abbrev lexLed (w : World) (c : LexAt) (k : LexSt) (rest : List (Addr × Obj)) : List (Addr × Obj) :=
  (c.x, instObj 597 c.dx) :: (c.dx, dictOf (sioD w c.u k.tp c.buf (k.pos : Int)) 3) ::
  (c.lx, instObj 732 c.ld) :: (c.ld, dictOf (lexD w c.t c.x c.pb c.fs (k.st.val k.ts) k.ln k.tl k.tok k.tt) 19) :: rest
structure Apart (c : LexAt) (rest : List (Addr × Obj)) : Prop where
  h1 : @Ne Nat c.x c.dx
  h2 : @Ne Nat c.x c.lx
  h3 : @Ne Nat c.x c.ld
  h4 : @Ne Nat c.dx c.lx
  h5 : @Ne Nat c.dx c.ld
  h6 : @Ne Nat c.lx c.ld
  r1 : ∀ p ∈ rest, p.1 ≠ c.dx
  r2 : ∀ p ∈ rest, p.1 ≠ c.ld
section
variable {prog : Program} {w : World} {A : Around} {E : Value → Shared → Prop} {Q : Unit → Shared → Prop} {s : Shared} {h₀ : Heap} {L lx ld x pb fs : Addr} {m : Str → Option Value} {news news' : List (Addr × Obj)} {t : Nat → Tok} {st st' : Value} {ln ln' : Int} {tl tl' tt tt' : Tok} {tok tok' : Str}
theorem lex_tok (F : Fr h₀ L s.heap m) (X₀ : (pre.heap_1 w.params).In h₀) (N : News h₀ L s.heap news) (h1 : (lx, instObj 732 ld) ∈ news) (h2 : (ld, dictOf (lexD w t x pb fs st ln tl tok tt) 19) ∈ news)
    (U : Upd ld (dictOf (lexD w t x pb fs st ln tl tok tt) 19) (dictOf (lexD w t x pb fs st ln tl tok' tt') 19) news news') (h : ∀ h', Fr h₀ L h' m → News h₀ L h' news' → Q () { s with heap := h', toks := s.toks + 2 }) :
    wpAny (model Challenge.rw_dn0059_07.row.prog w) A (setAttr (.ref lx) (Str.ofString "token") (.str tok' tt')) Q E s := by
  w_on
  revert X₀; k_fill; intro X₀
  refine' set_dict F X₀ N (InstAt.of_news N h1 h2) rfl ?k6 ?k7 ?k8 ?k9 ?k10 ?k11 U ?k13 h
  case k6 => k_is
  case k7 => k_is
  case k8 => k_is
  case k9 => k_is
  case k10 => k_get
  case k11 => k_put
  case k13 => exact Nat.le_of_ble_eq_true rfl
theorem lex_st (F : Fr h₀ L s.heap m) (X₀ : (pre.heap_1 w.params).In h₀) (N : News h₀ L s.heap news) (h1 : (lx, instObj 732 ld) ∈ news) (h2 : (ld, dictOf (lexD w t x pb fs st ln tl tok tt) 19) ∈ news)
    (U : Upd ld (dictOf (lexD w t x pb fs st ln tl tok tt) 19) (dictOf (lexD w t x pb fs st' ln tl tok tt) 19) news news') (h : ∀ h', Fr h₀ L h' m → News h₀ L h' news' → Q () { s with heap := h', toks := s.toks + 2 }) :
    wpAny (model Challenge.rw_dn0059_07.row.prog w) A (setAttr (.ref lx) (Str.ofString "state") st') Q E s := by
  w_on
  revert X₀; k_fill; intro X₀
  refine' set_dict F X₀ N (InstAt.of_news N h1 h2) rfl ?k6 ?k7 ?k8 ?k9 ?k10 ?k11 U ?k13 h
  case k6 => k_is
  case k7 => k_is
  case k8 => k_is
  case k9 => k_is
  case k10 => k_get
  case k11 => k_put
  case k13 => exact Nat.le_of_ble_eq_true rfl
theorem lex_ln (F : Fr h₀ L s.heap m) (X₀ : (pre.heap_1 w.params).In h₀) (N : News h₀ L s.heap news) (h1 : (lx, instObj 732 ld) ∈ news) (h2 : (ld, dictOf (lexD w t x pb fs st ln tl tok tt) 19) ∈ news)
    (U : Upd ld (dictOf (lexD w t x pb fs st ln tl tok tt) 19) (dictOf (lexD w t x pb fs st ln' tl' tok tt) 19) news news') (h : ∀ h', Fr h₀ L h' m → News h₀ L h' news' → Q () { s with heap := h', toks := s.toks + 2 }) :
    wpAny (model Challenge.rw_dn0059_07.row.prog w) A (setAttr (.ref lx) (Str.ofString "lineno") (.int ln' tl')) Q E s := by
  w_on
  revert X₀; k_fill; intro X₀
  refine' set_dict F X₀ N (InstAt.of_news N h1 h2) rfl ?k6 ?k7 ?k8 ?k9 ?k10 ?k11 U ?k13 h
  case k6 => k_is
  case k7 => k_is
  case k8 => k_is
  case k9 => k_is
  case k10 => k_get
  case k11 => k_put
  case k13 => exact Nat.le_of_ble_eq_true rfl
end
/-- what the loop of read_token leaves -/
abbrev RtQ (w : World) (c : LexAt) (rest : List (Addr × Obj)) (s : Shared) (g : Heap) (L' : Addr) (res : Option Str) (st' : LS) (rs' : List Nat) (f : Flow) (s₂ : Shared) : Prop :=
  f = Flow.next ∧ ∃ (k₂ : LexSt) (q : Bool) (h' : Heap) (tk' : Nat) (m₂ : Str → Option Value), s₂ = { s with heap := h', toks := tk' } ∧ Fr g L' h' m₂ ∧ News g L' h' (lexLed w c k₂ rest) ∧
      m₂ (Str.ofString "self") = some (.ref c.lx) ∧ m₂ (Str.ofString "quoted") = some (.bool q) ∧ k₂.st = st' ∧ c.buf.cps.toList.drop k₂.pos = rs' ∧ k₂.tok.length ≤ 1000000 ∧ res = finT q k₂.tok
/-- what holds between its turns -/
abbrev RtJ (w : World) (c : LexAt) (rest : List (Addr × Obj)) (res : Option Str) (st' : LS) (rs' : List Nat) (n : Nat) (m₁ : Str → Option Value) (news₁ : List (Addr × Obj)) : Prop :=
  ∃ (k₁ : LexSt) (q : Bool) (ve : Value), news₁ = lexLed w c k₁ rest ∧ m₁ (Str.ofString "self") = some (.ref c.lx) ∧ m₁ (Str.ofString "quoted") = some (.bool q) ∧ m₁ (Str.ofString "escapedstate") = some ve ∧
      (k₁.st = .esc → ∃ te, ve = .str (Str.ofString "a") te) ∧ n = (c.buf.cps.toList.drop k₁.pos).length ∧ lexGo (c.buf.cps.toList.drop k₁.pos) k₁.st q k₁.tok = some (res, st', rs') ∧ k₁.tok.length + n ≤ 1000000
theorem rt {w : World} {p : Program} {loose : List Str} {mean : ExcName → Option Value} {mg mb : Str → Option Value}
    {dp un : Nat} {gd : Option (List Code)} {cn : Str} {cs : Scope} {a : Addr} {ccd : Value} {cl : List (Str × Addr)} {outer : List Env} {A₀ : Around} {base h₀ : Heap} {L : Addr} {m : Str → Option Value} {s : Shared} {Q E : Value → Shared → Prop}
    {c : LexAt} {k : LexSt} {rest : List (Addr × Obj)} {res : Option Str} {st' : LS} {rs' : List Nat}
    (B : Below A₀ base outer h₀) (F : Fr h₀ L s.heap m) (X : (pre.heap_1 w.params).In h₀)
    (N : News h₀ L s.heap (lexLed w c k rest)) (T : Top p loose mean mg mb h₀) (ap : Apart c rest)
    (hk : cs.kind = .function) (hbl : c.buf.length ≤ 1000000) (hdp : dp + 5 < recursionLimit) (hun : un + 30 < cLine)
    (hgo : lexGo (c.buf.cps.toList.drop k.pos) k.st false k.tok = some (res, st', rs')) (htk : k.tok.length + (c.buf.cps.toList.drop k.pos).length ≤ 1000000) (hne : k.st ≠ .esc)
    (hret : ∀ k' : LexSt, k'.st = st' → c.buf.cps.toList.drop k'.pos = rs' → k'.tok = Str.ofString "" → ∀ t' h' tk', Fr h₀ L h' m → News h₀ L h' (lexLed w c k' rest) → Q (optVal t' res) { s with heap := h', toks := tk' }) :
    wpAny (model Challenge.rw_dn0059_07.row.prog w) (ktrTop dp un gd cn cs L a ccd cl outer) (call (.ref 700) [.ref c.lx]) Q E s := by
  w_on
  k_with_none
  k_with "setAttr ref" => (k_here; k_dflt (first | ((with_reducible show wpAny _ _ (setAttr _ (Str.ofString "token") _) _ _ _); refine' lex_tok ?k1 ?k2 ?k3 ?k4 ?k5 ?k6 ?_; (case k1 => k_asm); (case k2 => k_in); (case k3 => k_asm); (case k4 => k_mem); (case k5 => k_mem); (case k6 => k_upd)) | ((with_reducible show wpAny _ _ (setAttr _ (Str.ofString "state") _) _ _ _); refine' lex_st ?k1 ?k2 ?k3 ?k4 ?k5 ?k6 ?_; (case k1 => k_asm); (case k2 => k_in); (case k3 => k_asm); (case k4 => k_mem); (case k5 => k_mem); (case k6 => k_upd)) | ((with_reducible show wpAny _ _ (setAttr _ (Str.ofString "lineno") _) _ _ _); refine' lex_ln ?k1 ?k2 ?k3 ?k4 ?k5 ?k6 ?_; (case k1 => k_asm); (case k2 => k_in); (case k3 => k_asm); (case k4 => k_mem); (case k5 => k_mem); (case k6 => k_upd))); k_whole; intro zh' zF' zN'; (try k_sweep))
  k_with "exec If" => (with_reducible refine wpAny_If ?_)
  k_with "exec If" => ((with_reducible rename Mk 1 => zhM1); (with_reducible show wpAny _ _ (exec (Stmt.If (Expr.Compare (Expr.Name _ _) [CmpOp.Eq] [Expr.Constant _ _ _] _) [Stmt.AugAssign _ _ _ _] _ _) _) _ _ _); clear zhM1; refine stop_intro ?_)
  k_with "exec While" => refine stop_intro ?_
  k_with "compareOp In str str" => first | (refine in_one (by assumption) ?_) | (refine in_fact (by assumption) ?_)
  k_with "compareOp NotIn str str" => (refine notIn_one (by assumption) ?_)
  k_with "compareOp Eq str str" => first | (refine eq_one (by assumption) ?_) | (refine eq_fact (by assumption) ?_)
  k_with "truthy str" => first | (refine truthy_one ?_; intro _) | (refine truthy_fact (by assumption) (by omega) ?_; intro _)
  k_with "call ref" => ((with_reducible show wpAny _ _ (call (Value.ref 543) _ _) _ _ _); k_dflt (first | (refine' read_cons ?k1 ?k2 ?k3 ?k4 ?k5 ?k6 ?k7 ?k8 ?k9 ?k10 ?k11 ?k12 ?_; (case k1 => k_asm); (case k2 => k_asm); (case k3 => k_asm); (case k4 => k_asm); (case k5 => k_asm); (case k6 => k_ne); (case k7 => k_all); (case k8 => exact rfl); (case k9 => assumption); (case k10 => ktr_room); (case k11 => ktr_units); (case k12 => assumption); intro zt' ztp' zh' ztk' zF' zN'; (try k_sweep); (try dsimp only)) | (refine' read_nil ?k1 ?k2 ?k3 ?k4 ?k5 ?k6 ?k7 ?k8 ?k9 ?k10 ?k11 ?k12 ?_; (case k1 => k_asm); (case k2 => k_asm); (case k3 => k_asm); (case k4 => k_asm); (case k5 => k_asm); (case k6 => k_ne); (case k7 => k_all); (case k8 => exact rfl); (case k9 => assumption); (case k10 => ktr_room); (case k11 => ktr_units); (case k12 => assumption); intro zt' zh' ztk' zF' zN'; (try k_sweep); (try dsimp only))))
  k_with "truthy str" => ((with_reducible rename Mk 2 => zhM2); (with_reducible show wpAny _ _ (truthy (Value.str (Str.mk _) _)) _ _ _); clear zhM2; refine stop_intro ?_)
  revert X; k_fill; intro X
  refine wpAny_call ?_
  k_dflt (walk_at "my enter")
  k_steps
  refine Stop.out ?_
  rename_i g L' hz FG' B' X' T' hy hx F' N'
  refine wpAny_mono (Q := RtQ w c rest s g L' res st' rs') (While_inv2 (RtJ w c rest res st' rs')
      F' N' ⟨k, false, _, rfl, rfl, rfl, rfl, ?_, rfl, hgo, htk⟩ ?_) ?_ (fun _ _ e => e)
  · exact fun e => absurd e hne
  · clear N' F' N F hret hgo htk
    rintro n m₁ news₁ h₁ tk₁ F₁ N₁ ⟨⟨st, ts, tok, tt, ln, tl, pos, tp⟩, q, ve, rfl, hs, hq, he, hes, rfl, hgo, htk⟩
    have F₂ := fr_over [(Str.ofString "self", .ref c.lx), (Str.ofString "quoted", .bool q), (Str.ofString "escapedstate", ve)] F₁ (by simp [hs, hq, he])
    clear F₁ hs hq he
    refine gen_while ?_
    intro Q' R' E' hQ hR
    dsimp only at *
    have ga1 : inT (Str.ofString "a") (Str.ofString "'\"") = false := by decide +kernel
    have ga2 : inT (Str.ofString "a") (Str.ofString "\\") = false := by decide +kernel
    have gb1 : inS 39 (Str.ofString "'\"") = true := by decide +kernel
    have gb2 : inS 34 (Str.ofString "'\"") = true := by decide +kernel
    have gb3 : inS 92 (Str.ofString "'\"") = false := by decide +kernel
    have gb4 : inS 92 (Str.ofString "\\") = true := by decide +kernel
    obtain ⟨a1, a2, a3, a4, a5, a6, r1, r2⟩ := ap
    rcases hrs : c.buf.cps.toList.drop pos with _ | ⟨ch, r⟩
    · rw [hrs] at hgo htk
      have hM : Mk 1 := ⟨⟩
      k_steps
      refine Stop.out ?_
      rename News _ _ _ _ => N₃; rename Fr _ _ _ _ => F₃
      cases st with
      | non =>
        cases q with
        | true => simp [lexGo] at hgo
        | false =>
          dsimp only [lexLed, LS.val] at N₃
          k_steps
          all_goals (rename News _ _ _ _ => NN; rename Fr _ _ _ _ => FF)
          obtain ⟨e1, e2, e3⟩ : res = none ∧ st' = .non ∧ rs' = [] := by simpa [lexGo, eq_comm] using hgo
          exact hQ _ _ ⟨rfl, ⟨.non, 0, _, _, _, _, pos, _⟩, false, _, _, _, rfl, FF, NN, rfl, rfl, e2.symm, by rw [hrs, e3], by exact Nat.zero_le _, e1⟩
      | sp =>
        dsimp only [lexLed, LS.val] at N₃
        k_steps
        all_goals (rename News _ _ _ _ => NN; rename Fr _ _ _ _ => FF)
        obtain ⟨e1, e2, e3⟩ : res = finT q tok ∧ st' = .non ∧ rs' = [] := by simpa [lexGo, eq_comm] using hgo
        exact hQ _ _ ⟨rfl, ⟨.non, 0, _, _, _, _, pos, _⟩, q, _, _, _, rfl, FF, NN, rfl, rfl, e2.symm, by rw [hrs, e3], by simp only [List.length_nil] at htk; dsimp only; omega, e1⟩
      | a =>
        dsimp only [lexLed, LS.val] at N₃
        k_steps
        all_goals (rename News _ _ _ _ => NN; rename Fr _ _ _ _ => FF)
        obtain ⟨e1, e2, e3⟩ : res = finT q tok ∧ st' = .non ∧ rs' = [] := by simpa [lexGo, eq_comm] using hgo
        exact hQ _ _ ⟨rfl, ⟨.non, 0, _, _, _, _, pos, _⟩, q, _, _, _, rfl, FF, (News.sub NN (fun p hp => List.Mem.tail _ hp)), rfl, rfl, e2.symm, by rw [hrs, e3], by simp only [List.length_nil] at htk; dsimp only; omega, e1⟩
      | sq => simp [lexGo] at hgo
      | dq => simp [lexGo] at hgo
      | esc => simp [lexGo] at hgo
    · rw [hrs] at hgo htk
      have hr1 : c.buf.cps.toList.drop (pos + 1) = r := by rw [← List.tail_drop, hrs]; rfl
      have hin := inS_nil ch
      have htk2 : tok.length ≤ 1000000 := by omega
      have hM : Mk 1 := ⟨⟩
      k_steps
      refine Stop.out ?_
      rename News _ _ _ _ => N₃; rename Fr _ _ _ _ => F₃
      refine wpAny_mono (Q := fun f s₂ => Stop (f = Flow.next ∧ ∃ (ln' : Int) (tl' tp' t9 : Tok) (h' : Heap) (tk' : Nat), s₂ = { s with heap := h', toks := tk' } ∧ Fr g L' h' (over [(Str.ofString "nextchar", .str ⟨#[ch]⟩ t9), (Str.ofString "self", .ref c.lx), (Str.ofString "quoted", .bool q), (Str.ofString "escapedstate", ve)] m₁) ∧ News g L' h' (lexLed w c ⟨st, ts, tok, tt, ln', tl', pos + 1, tp'⟩ rest))) ?_ ?_ (fun _ _ e => e)
      · cases hnl : isS ch (Str.ofString "\n")
        · k_steps
          exact Stop.out ⟨rfl, _, _, _, _, _, _, rfl, F₃, N₃⟩
        · k_steps
          rename News _ _ _ _ => NN; rename Fr _ _ _ _ => FF
          exact Stop.out ⟨rfl, _, _, _, _, _, _, rfl, FF, NN⟩
      clear N₃ F₃
      rintro f s₂ ⟨rfl, ln', tl', tp', t9, h₂, tk₂, rfl, F₃, N₃⟩
      dsimp only
      cases st with
      | non =>
        cases q with
        | true => simp [lexGo] at hgo
        | false =>
          dsimp only [lexLed, LS.val] at N₃
          k_steps
          all_goals (rename News _ _ _ _ => NN; rename Fr _ _ _ _ => FF)
          obtain ⟨e1, e2, e3⟩ : res = none ∧ st' = .non ∧ rs' = r := by simpa [lexGo, eq_comm] using hgo
          exact hQ _ _ ⟨rfl, ⟨.non, 0, _, _, _, _, pos + 1, _⟩, false, _, _, _, rfl, FF, NN, rfl, rfl, e2.symm, by rw [hr1, e3], by exact Nat.zero_le _, e1⟩
      | sp =>
        dsimp only [lexLed, LS.val] at N₃
        have hM : Mk 2 := ⟨⟩
        k_steps
        refine Stop.out ?_
        have hq : (tok.length != 0 || q) = false := by
          cases hq : (tok.length != 0 || q) with
          | false => rfl
          | true => simp [lexGo, hq] at hgo
        obtain ⟨hz2, rfl⟩ := Bool.or_eq_false_iff.mp hq
        have hz1 : ((tok.length : Int) != 0) = false := by simpa using hz2
        have hz3 : tok.length = 0 := by simpa using hz2
        rcases cls ch with hc | hc | hc | hc | ⟨c1, c2, c3⟩ | ⟨c1, c2, c3, c4, c5, c6, c7, c8, c9, c10, c11, c12⟩
        · subst hc
          have f_ws : inS 10 (Str.ofString " \t\r\n") = true := by decide +kernel
          k_steps
          all_goals (rename News _ _ _ _ => NN; rename Fr _ _ _ _ => FF)
          exact hQ _ _ ⟨_, _, _, _, _, rfl, FF, NN, by rw [hr1, hrs]; exact Nat.lt_succ_self _, ⟨.sp, _, _, _, _, _, pos + 1, _⟩, false, ve, rfl, rfl, rfl, rfl, (by intro e; cases e), rfl, by rw [hr1]; simpa [lexGo, hz3, ws] using hgo, by rw [hr1]; simp only [List.length_cons, Str.length_append, len1] at *; omega⟩
        · subst hc
          have f_ws : inS 92 (Str.ofString " \t\r\n") = false := by decide +kernel
          have f_e : inS 92 (Str.ofString "\\") = true := by decide +kernel
          k_steps
          all_goals (rename News _ _ _ _ => NN; rename Fr _ _ _ _ => FF)
          exact hQ _ _ ⟨_, _, _, _, _, rfl, FF, NN, by rw [hr1, hrs]; exact Nat.lt_succ_self _, ⟨.esc, _, _, _, _, _, pos + 1, _⟩, false, _, rfl, rfl, rfl, rfl, (fun _ => ⟨_, rfl⟩), rfl, by rw [hr1]; simpa [lexGo, hz3, ws] using hgo, by rw [hr1]; simp only [List.length_cons, Str.length_append, len1] at *; omega⟩
        · subst hc
          have f_ws : inS 39 (Str.ofString " \t\r\n") = false := by decide +kernel
          have f_e : inS 39 (Str.ofString "\\") = false := by decide +kernel
          have f_wc : inS 39 wordC = false := by decide +kernel
          have f_q : inS 39 (Str.ofString "'\"") = true := by decide +kernel
          k_steps
          all_goals (rename News _ _ _ _ => NN; rename Fr _ _ _ _ => FF)
          exact hQ _ _ ⟨_, _, _, _, _, rfl, FF, NN, by rw [hr1, hrs]; exact Nat.lt_succ_self _, ⟨.sq, _, _, _, _, _, pos + 1, _⟩, false, ve, rfl, rfl, rfl, rfl, (by intro e; cases e), rfl, by rw [hr1]; simpa [lexGo, hz3, ws] using hgo, by rw [hr1]; simp only [List.length_cons, Str.length_append, len1] at *; omega⟩
        · subst hc
          have f_ws : inS 34 (Str.ofString " \t\r\n") = false := by decide +kernel
          have f_e : inS 34 (Str.ofString "\\") = false := by decide +kernel
          have f_wc : inS 34 wordC = false := by decide +kernel
          have f_q : inS 34 (Str.ofString "'\"") = true := by decide +kernel
          k_steps
          all_goals (rename News _ _ _ _ => NN; rename Fr _ _ _ _ => FF)
          exact hQ _ _ ⟨_, _, _, _, _, rfl, FF, NN, by rw [hr1, hrs]; exact Nat.lt_succ_self _, ⟨.dq, _, _, _, _, _, pos + 1, _⟩, false, ve, rfl, rfl, rfl, rfl, (by intro e; cases e), rfl, by rw [hr1]; simpa [lexGo, hz3, ws] using hgo, by rw [hr1]; simp only [List.length_cons, Str.length_append, len1] at *; omega⟩
        · k_steps
          all_goals (rename News _ _ _ _ => NN; rename Fr _ _ _ _ => FF)
          exact hQ _ _ ⟨_, _, _, _, _, rfl, FF, NN, by rw [hr1, hrs]; exact Nat.lt_succ_self _, ⟨.sp, _, _, _, _, _, pos + 1, _⟩, false, ve, rfl, rfl, rfl, rfl, (by intro e; cases e), rfl, by rw [hr1]; simpa [lexGo, hz3, c3] using hgo, by rw [hr1]; simp only [List.length_cons, Str.length_append, len1] at *; omega⟩
        · cases hwc : inS ch wordC
          · k_steps
            all_goals (rename News _ _ _ _ => NN; rename Fr _ _ _ _ => FF)
            exact hQ _ _ ⟨_, _, _, _, _, rfl, FF, NN, by rw [hr1, hrs]; exact Nat.lt_succ_self _, ⟨.a, _, _, _, _, _, pos + 1, _⟩, false, ve, rfl, rfl, rfl, rfl, (by intro e; cases e), rfl, by rw [hr1]; simpa [lexGo, hz3, c3, c10, c11, c12] using hgo, by rw [hr1]; simp only [List.length_cons, Str.length_append, len1] at *; omega⟩
          · k_steps
            all_goals (rename News _ _ _ _ => NN; rename Fr _ _ _ _ => FF)
            exact hQ _ _ ⟨_, _, _, _, _, rfl, FF, NN, by rw [hr1, hrs]; exact Nat.lt_succ_self _, ⟨.a, _, _, _, _, _, pos + 1, _⟩, false, ve, rfl, rfl, rfl, rfl, (by intro e; cases e), rfl, by rw [hr1]; simpa [lexGo, hz3, c3, c10, c11, c12] using hgo, by rw [hr1]; simp only [List.length_cons, Str.length_append, len1] at *; omega⟩
      | sq =>
        dsimp only [lexLed, LS.val] at N₃
        have hM : Mk 2 := ⟨⟩
        k_steps
        refine Stop.out ?_
        have g1 : inS 39 (Str.ofString "\"") = false := by decide +kernel
        by_cases hc : ch = 39
        · subst hc
          have f1 : isS 39 ⟨#[39]⟩ = true := by decide
          k_steps
          all_goals (rename News _ _ _ _ => NN; rename Fr _ _ _ _ => FF)
          exact hQ _ _ ⟨_, _, _, _, _, rfl, FF, NN, by rw [hr1, hrs]; exact Nat.lt_succ_self _, ⟨.a, _, _, _, _, _, pos + 1, _⟩, true, ve, rfl, rfl, rfl, rfl, (by intro e; cases e), rfl, by rw [hr1]; simpa [lexGo] using hgo, by rw [hr1]; simp only [List.length_cons, Str.length_append, len1] at *; omega⟩
        · have f1 : isS ch ⟨#[39]⟩ = false := by rw [isS_iff]; simpa using hc
          cases f2 : inS ch (Str.ofString "\\")
          · k_steps
            all_goals (rename News _ _ _ _ => NN; rename Fr _ _ _ _ => FF)
            exact hQ _ _ ⟨_, _, _, _, _, rfl, FF, NN, by rw [hr1, hrs]; exact Nat.lt_succ_self _, ⟨.sq, _, _, _, _, _, pos + 1, _⟩, true, ve, rfl, rfl, rfl, rfl, (by intro e; cases e), rfl, by rw [hr1]; simpa [lexGo, hc] using hgo, by rw [hr1]; simp only [List.length_cons, Str.length_append, len1] at *; omega⟩
          · k_steps
            all_goals (rename News _ _ _ _ => NN; rename Fr _ _ _ _ => FF)
            exact hQ _ _ ⟨_, _, _, _, _, rfl, FF, NN, by rw [hr1, hrs]; exact Nat.lt_succ_self _, ⟨.sq, _, _, _, _, _, pos + 1, _⟩, true, ve, rfl, rfl, rfl, rfl, (by intro e; cases e), rfl, by rw [hr1]; simpa [lexGo, hc] using hgo, by rw [hr1]; simp only [List.length_cons, Str.length_append, len1] at *; omega⟩
      | dq =>
        dsimp only [lexLed, LS.val] at N₃
        have hM : Mk 2 := ⟨⟩
        k_steps
        refine Stop.out ?_
        by_cases hc : ch = 34
        · subst hc
          have f1 : isS 34 ⟨#[34]⟩ = true := by decide
          k_steps
          all_goals (rename News _ _ _ _ => NN; rename Fr _ _ _ _ => FF)
          exact hQ _ _ ⟨_, _, _, _, _, rfl, FF, NN, by rw [hr1, hrs]; exact Nat.lt_succ_self _, ⟨.a, _, _, _, _, _, pos + 1, _⟩, true, ve, rfl, rfl, rfl, rfl, (by intro e; cases e), rfl, by rw [hr1]; simpa [lexGo] using hgo, by rw [hr1]; simp only [List.length_cons, Str.length_append, len1] at *; omega⟩
        · have f1 : isS ch ⟨#[34]⟩ = false := by rw [isS_iff]; simpa using hc
          by_cases hc2 : ch = 92
          · subst hc2; simp [lexGo] at hgo
          have f2 : inS ch (Str.ofString "\\") = false := by unfold inS; rw [ofS_e]; simpa using hc2
          k_steps
          all_goals (rename News _ _ _ _ => NN; rename Fr _ _ _ _ => FF)
          exact hQ _ _ ⟨_, _, _, _, _, rfl, FF, NN, by rw [hr1, hrs]; exact Nat.lt_succ_self _, ⟨.dq, _, _, _, _, _, pos + 1, _⟩, true, ve, rfl, rfl, rfl, rfl, (by intro e; cases e), rfl, by rw [hr1]; simpa [lexGo, hc, hc2] using hgo, by rw [hr1]; simp only [List.length_cons, Str.length_append, len1] at *; omega⟩
      | esc =>
        obtain ⟨te, rfl⟩ := hes rfl
        dsimp only [lexLed, LS.val] at N₃
        k_steps
        all_goals (rename News _ _ _ _ => NN; rename Fr _ _ _ _ => FF)
        exact hQ _ _ ⟨_, _, _, _, _, rfl, FF, NN, by rw [hr1, hrs]; exact Nat.lt_succ_self _, ⟨.a, _, _, _, _, _, pos + 1, _⟩, q, _, rfl, rfl, rfl, rfl, (by intro e; cases e), rfl, by rw [hr1]; simpa [lexGo] using hgo, by rw [hr1]; simp only [List.length_cons, Str.length_append, len1] at *; omega⟩
      | a =>
        dsimp only [lexLed, LS.val] at N₃
        have hM : Mk 2 := ⟨⟩
        k_steps
        refine Stop.out ?_
        rcases cls ch with hc | hc | hc | hc | ⟨c1, c2, c3⟩ | ⟨c1, c2, c3, c4, c5, c6, c7, c8, c9, c10, c11, c12⟩
        · subst hc
          have f_ws : inS 10 (Str.ofString " \t\r\n") = true := by decide +kernel
          cases hz1 : ((tok.length : Int) != 0)
          · have hz3 : tok.length = 0 := by simpa using hz1
            cases q with
            | false => simp [lexGo, hz3, ws] at hgo
            | true =>
              k_steps
              all_goals (rename News _ _ _ _ => NN; rename Fr _ _ _ _ => FF)
              obtain ⟨e1, e2, e3⟩ : res = finT true tok ∧ st' = .sp ∧ rs' = r := by (simp [lexGo, hz3, ws] at hgo; exact ⟨hgo.1.symm, hgo.2.1.symm, hgo.2.2.symm⟩)
              exact hQ _ _ ⟨rfl, ⟨.sp, _, _, _, _, _, pos + 1, _⟩, true, _, _, _, rfl, FF, (News.sub NN (fun p hp => List.Mem.tail _ hp)), rfl, rfl, e2.symm, by rw [hr1, e3], by dsimp only; omega, e1⟩
          · have hz3 : ¬ tok.length = 0 := by simpa using hz1
            k_steps
            all_goals (rename News _ _ _ _ => NN; rename Fr _ _ _ _ => FF)
            obtain ⟨e1, e2, e3⟩ : res = finT q tok ∧ st' = .sp ∧ rs' = r := by (simp [lexGo, hz3, ws] at hgo; exact ⟨hgo.1.symm, hgo.2.1.symm, hgo.2.2.symm⟩)
            exact hQ _ _ ⟨rfl, ⟨.sp, _, _, _, _, _, pos + 1, _⟩, q, _, _, _, rfl, FF, (News.sub NN (fun p hp => List.Mem.tail _ hp)), rfl, rfl, e2.symm, by rw [hr1, e3], by dsimp only; omega, e1⟩
        · subst hc
          have f_ws : inS 92 (Str.ofString " \t\r\n") = false := by decide +kernel
          have f_q : inS 92 (Str.ofString "'\"") = false := by decide +kernel
          have f_e : inS 92 (Str.ofString "\\") = true := by decide +kernel
          k_steps
          all_goals (rename News _ _ _ _ => NN; rename Fr _ _ _ _ => FF)
          exact hQ _ _ ⟨_, _, _, _, _, rfl, FF, (News.sub NN (fun p hp => List.Mem.tail _ hp)), by rw [hr1, hrs]; exact Nat.lt_succ_self _, ⟨.esc, _, _, _, _, _, pos + 1, _⟩, q, _, rfl, rfl, rfl, rfl, (fun _ => ⟨_, rfl⟩), rfl, by rw [hr1]; simpa [lexGo, ws] using hgo, by rw [hr1]; simp only [List.length_cons, Str.length_append, len1] at *; omega⟩
        · subst hc
          have f_ws : inS 39 (Str.ofString " \t\r\n") = false := by decide +kernel
          have f_q : inS 39 (Str.ofString "'\"") = true := by decide +kernel
          k_steps
          all_goals (rename News _ _ _ _ => NN; rename Fr _ _ _ _ => FF)
          exact hQ _ _ ⟨_, _, _, _, _, rfl, FF, (News.sub NN (fun p hp => List.Mem.tail _ hp)), by rw [hr1, hrs]; exact Nat.lt_succ_self _, ⟨.sq, _, _, _, _, _, pos + 1, _⟩, q, ve, rfl, rfl, rfl, rfl, (by intro e; cases e), rfl, by rw [hr1]; simpa [lexGo, ws] using hgo, by rw [hr1]; simp only [List.length_cons, Str.length_append, len1] at *; omega⟩
        · subst hc
          have f_ws : inS 34 (Str.ofString " \t\r\n") = false := by decide +kernel
          have f_q : inS 34 (Str.ofString "'\"") = true := by decide +kernel
          k_steps
          all_goals (rename News _ _ _ _ => NN; rename Fr _ _ _ _ => FF)
          exact hQ _ _ ⟨_, _, _, _, _, rfl, FF, (News.sub NN (fun p hp => List.Mem.tail _ hp)), by rw [hr1, hrs]; exact Nat.lt_succ_self _, ⟨.dq, _, _, _, _, _, pos + 1, _⟩, q, ve, rfl, rfl, rfl, rfl, (by intro e; cases e), rfl, by rw [hr1]; simpa [lexGo, ws] using hgo, by rw [hr1]; simp only [List.length_cons, Str.length_append, len1] at *; omega⟩
        · cases hz1 : ((tok.length : Int) != 0)
          · have hz3 : tok.length = 0 := by simpa using hz1
            cases q with
            | false => simp [lexGo, hz3, c3] at hgo
            | true =>
              k_steps
              all_goals (rename News _ _ _ _ => NN; rename Fr _ _ _ _ => FF)
              obtain ⟨e1, e2, e3⟩ : res = finT true tok ∧ st' = .sp ∧ rs' = r := by (simp [lexGo, hz3, c3] at hgo; exact ⟨hgo.1.symm, hgo.2.1.symm, hgo.2.2.symm⟩)
              exact hQ _ _ ⟨rfl, ⟨.sp, _, _, _, _, _, pos + 1, _⟩, true, _, _, _, rfl, FF, (News.sub NN (fun p hp => List.Mem.tail _ hp)), rfl, rfl, e2.symm, by rw [hr1, e3], by dsimp only; omega, e1⟩
          · have hz3 : ¬ tok.length = 0 := by simpa using hz1
            k_steps
            all_goals (rename News _ _ _ _ => NN; rename Fr _ _ _ _ => FF)
            obtain ⟨e1, e2, e3⟩ : res = finT q tok ∧ st' = .sp ∧ rs' = r := by (simp [lexGo, hz3, c3] at hgo; exact ⟨hgo.1.symm, hgo.2.1.symm, hgo.2.2.symm⟩)
            exact hQ _ _ ⟨rfl, ⟨.sp, _, _, _, _, _, pos + 1, _⟩, q, _, _, _, rfl, FF, (News.sub NN (fun p hp => List.Mem.tail _ hp)), rfl, rfl, e2.symm, by rw [hr1, e3], by dsimp only; omega, e1⟩
        · cases hwc : inS ch wordC
          · k_steps
            all_goals (rename News _ _ _ _ => NN; rename Fr _ _ _ _ => FF)
            exact hQ _ _ ⟨_, _, _, _, _, rfl, FF, (News.sub NN (fun p hp => List.Mem.tail _ hp)), by rw [hr1, hrs]; exact Nat.lt_succ_self _, ⟨.a, _, _, _, _, _, pos + 1, _⟩, q, ve, rfl, rfl, rfl, rfl, (by intro e; cases e), rfl, by rw [hr1]; simpa [lexGo, c3, c10, c11, c12] using hgo, by rw [hr1]; simp only [List.length_cons, Str.length_append, len1] at *; omega⟩
          · k_steps
            all_goals (rename News _ _ _ _ => NN; rename Fr _ _ _ _ => FF)
            exact hQ _ _ ⟨_, _, _, _, _, rfl, FF, (News.sub NN (fun p hp => List.Mem.tail _ hp)), by rw [hr1, hrs]; exact Nat.lt_succ_self _, ⟨.a, _, _, _, _, _, pos + 1, _⟩, q, ve, rfl, rfl, rfl, rfl, (by intro e; cases e), rfl, by rw [hr1]; simpa [lexGo, c3, c10, c11, c12] using hgo, by rw [hr1]; simp only [List.length_cons, Str.length_append, len1] at *; omega⟩
  · clear N' F' hgo htk
    rintro f s₂ ⟨rfl, ⟨st, ts, tok, tt, ln, tl, pos, tp⟩, q, h₂, tk₂, m₂, rfl, F₂, N₂, hs, hq, e1, e2, e3, e4⟩
    have F₃ := fr_over [(Str.ofString "self", .ref c.lx), (Str.ofString "quoted", .bool q)] F₂ (by simp [hs, hq])
    clear F₂ hs hq
    dsimp only at *
    obtain ⟨a1, a2, a3, a4, a5, a6, r1, r2⟩ := ap
    subst e4
    cases q with
    | true =>
      k_steps
      rename News _ _ _ _ => NN; rename Fr _ _ _ _ => FF
      exact hret ⟨st, _, _, _, _, _, pos, _⟩ e1 e2 rfl _ _ _ FF NN
    | false =>
      cases he : (tok == Str.ofString "") with
      | true =>
        k_steps
        rename News _ _ _ _ => NN; rename Fr _ _ _ _ => FF
        have e5 : finT false tok = none := by rw [eq_of_beq he]; rfl
        rw [e5] at hret
        exact hret ⟨st, _, _, _, _, _, pos, _⟩ e1 e2 rfl 0 _ _ FF NN
      | false =>
        k_steps
        rename News _ _ _ _ => NN; rename Fr _ _ _ _ => FF
        have e5 : finT false tok = some tok := finT_ne (ne_of_beq_false he)
        rw [e5] at hret
        exact hret ⟨st, _, _, _, _, _, pos, _⟩ e1 e2 rfl _ _ _ FF NN
end
section
local macro_rules | `(tactic| walk_at "exec While") => `(tactic| (k_here; k_dflt (refine whl_start 100 ?_)))
local macro_rules | `(tactic| walk_at "truthy ref") => `(tactic| ((with_reducible rename News _ _ _ _ => nN); refine truthy_deq (nN (_, deqObj) (by k_mem)).1 ?_; intro _))
local macro_rules | `(tactic| walk_at "call ref") => `(tactic| ((with_reducible show wpAny _ _ (call (Value.ref 700) _ _) _ _ _); k_dflt (
   (refine' rt ?k1 ?k2 ?k3 ?k4 ?k5 ?k6 ?k7 ?k8 ?k9 ?k10 ?k11 ?k12 ?k13 ?_; (case k1 => k_asm); (case k2 => k_asm); (case k3 => k_asm); (case k4 => k_asm); (case k5 => k_asm); (case k6 => assumption); (case k7 => exact rfl); (case k8 => assumption); (case k9 => ktr_room); (case k10 => ktr_units); (case k11 => assumption); (case k12 => assumption); (case k13 => assumption); intro k' hk1 hk2 hk3 t' h' tk' F' N'; (try k_sweep); (try dsimp only [optVal])))))
theorem next_tok {w : World} {p : Program} {loose : List Str} {mean : ExcName → Option Value} {mg mb : Str → Option Value}
    {dp un : Nat} {gd : Option (List Code)} {cn : Str} {cs : Scope} {a : Addr} {ccd : Value} {cl : List (Str × Addr)} {outer : List Env} {A₀ : Around} {base h₀ : Heap} {L : Addr} {m : Str → Option Value} {s : Shared} {Q E : Value → Shared → Prop}
    {c : LexAt} {k : LexSt} {rest : List (Addr × Obj)} {res : Str} {st' : LS} {rs' : List Nat}
    (B : Below A₀ base outer h₀) (F : Fr h₀ L s.heap m) (X : (pre.heap_1 w.params).In h₀)
    (N : News h₀ L s.heap (lexLed w c k ((c.pb, deqObj) :: (c.fs, deqObj) :: rest))) (T : Top p loose mean mg mb h₀) (ap : Apart c ((c.pb, deqObj) :: (c.fs, deqObj) :: rest))
    (hk : cs.kind = .function) (hbl : c.buf.length ≤ 1000000) (hdp : dp + 8 < recursionLimit) (hun : un + 40 < cLine)
    (hgo : lexGo (c.buf.cps.toList.drop k.pos) k.st false k.tok = some (some res, st', rs')) (htk : k.tok.length + (c.buf.cps.toList.drop k.pos).length ≤ 1000000) (hne : k.st ≠ .esc)
    (hret : ∀ k' : LexSt, k'.st = st' → c.buf.cps.toList.drop k'.pos = rs' → k'.tok = Str.ofString "" → ∀ t' h' tk', Fr h₀ L h' m → News h₀ L h' (lexLed w c k' ((c.pb, deqObj) :: (c.fs, deqObj) :: rest)) → Q (.str res t') { s with heap := h', toks := tk' }) :
    wpAny (model Challenge.rw_dn0059_07.row.prog w) (ktrTop dp un gd cn cs L a ccd cl outer) (call (.ref 729) [.ref c.lx]) Q E s := by
  w_on
  k_with_none
  revert X; k_fill; intro X
  refine wpAny_call ?_
  k_dflt (walk_at "my enter")
  k_steps
  rename News _ _ _ _ => NN; rename Fr _ _ _ _ => FF
  rename_i hk1 hk2 hk3 _ _ _ _ _ _ _ _ _
  exact hret _ (by assumption) (by assumption) (by assumption) _ _ _ FF NN
theorem stop_facts {M : Model} {A : Around} {E : Value → Shared → Prop} {s : Shared} {Q : Option Value → Shared → Prop} {l : List Env} {base : Heap} {e t : Addr} {vs : List Value} {news : List (Addr × Obj)} {X : String}
    (R : RaisedK base l e (.type X) t vs news s.heap) (hsub : isSubtype (.type X) (.type "StopIteration") = pure true)
    (k : base.StaysIn s.heap → (∀ q ∈ news, s.heap.get? q.1 = some q.2) → Q none s) : OwitStop M A Q E (.ref e) s := by
  obtain ⟨⟨B, hB, hl, hfl, _⟩, _⟩ := R
  have hf' := flyingW_base hB hfl
  obtain ⟨ob, hob, hobc⟩ := hf'.there
  have hT : s.TypeIs (.ref e) X := (show ∃ o, s.heap.get? e = some o ∧ o.cls = .type X from ⟨ob, hob, hobc⟩)
  unfold OwitStop
  refine wpAny_isInstance hT hsub ?_
  show (if true = true then Q none s else E (.ref e) s)
  rw [if_pos rfl]
  exact k hf'.1 fun q hq => hfl.1 _ _ (hl q hq).1
theorem next_stop {w : World} {p : Program} {loose : List Str} {mean : ExcName → Option Value} {mg mb : Str → Option Value}
    {dp un : Nat} {gd : Option (List Code)} {cn : Str} {cs : Scope} {a : Addr} {ccd : Value} {cl : List (Str × Addr)} {outer : List Env} {A₀ : Around} {base h₀ : Heap} {L : Addr} {m : Str → Option Value} {s : Shared} {Q : Option Value → Shared → Prop} {Qv E : Value → Shared → Prop}
    {c : LexAt} {k : LexSt} {rest : List (Addr × Obj)} {st' : LS} {rs' : List Nat}
    (B : Below A₀ base outer h₀) (F : Fr h₀ L s.heap m) (X : (pre.heap_1 w.params).In h₀)
    (N : News h₀ L s.heap (lexLed w c k ((c.pb, deqObj) :: (c.fs, deqObj) :: rest))) (T : Top p loose mean mg mb h₀) (ap : Apart c ((c.pb, deqObj) :: (c.fs, deqObj) :: rest))
    (hk : cs.kind = .function) (hbl : c.buf.length ≤ 1000000) (hdp : dp + 8 < recursionLimit) (hun : un + 40 < cLine)
    (hgo : lexGo (c.buf.cps.toList.drop k.pos) k.st false k.tok = some (none, st', rs')) (htk : k.tok.length + (c.buf.cps.toList.drop k.pos).length ≤ 1000000) (hne : k.st ≠ .esc)
    (hret : ∀ k' : LexSt, ∀ h' tk', base.StaysIn h' → h₀.UpToSlots h' → (∀ q ∈ lexLed w c k' ((c.pb, deqObj) :: (c.fs, deqObj) :: rest), h'.get? q.1 = some q.2) → Q none { s with heap := h', toks := tk' }) :
    wpAny (model Challenge.rw_dn0059_07.row.prog w) (ktrTop dp un gd cn cs L a ccd cl outer) (call (.ref 729) [.ref c.lx]) Qv (OwitStop (model Challenge.rw_dn0059_07.row.prog w) (ktrTop dp un gd cn cs L a ccd cl outer) Q E) s := by
  w_on
  k_with_none
  revert X; k_fill; intro X
  refine wpAny_call ?_
  k_dflt (walk_at "my enter")
  k_steps
  rename RaisedK _ _ _ _ _ _ _ _ => RK; rename Heap.UpToSlots _ _ => UK
  refine stop_facts RK (by first | rfl | kernel_rfl | decide) fun hb hn => ?_
  exact hret _ _ _ hb (fun b o e hnf => UK b o ((by assumption : Fr h₀ L _ m).keep b o e) hnf) hn
end
section
theorem dropLen (x : Str) (n : Nat) : (x.cps.toList.drop n).length ≤ x.length := by
  rw [List.length_drop, Array.length_toList]; exact Nat.sub_le _ _
theorem lex_loop {w : World} {p : Program} {loose : List Str} {mean : ExcName → Option Value} {mg mb : Str → Option Value}
    {dp un : Nat} {gd : Option (List Code)} {cn : Str} {cs : Scope} {a : Addr} {ccd : Value} {cl : List (Str × Addr)} {outer : List Env} {A₀ : Around} {base h₀ : Heap} {L : Addr} {m : Str → Option Value} {R : Result → Shared → Prop}
    {c : LexAt} {S : Addr} {rest : List (Addr × Obj)}
    (B : Below A₀ base outer h₀) (X : (pre.heap_1 w.params).In h₀) (T : Top p loose mean mg mb h₀)
    (hk : cs.kind = .function) (hbl : c.buf.length ≤ 1000000) (hdp : dp + 8 < recursionLimit) (hun : un + 41 < cLine)
    (ap : ∀ o, Apart c ((c.pb, deqObj) :: (c.fs, deqObj) :: (S, o) :: rest)) (hS : S ≠ c.x ∧ S ≠ c.dx ∧ S ≠ c.lx ∧ S ≠ c.ld ∧ S ≠ c.pb ∧ S ≠ c.fs ∧ ∀ q ∈ rest, q.1 ≠ S) :
    ∀ (xs : List Str) (rs : List Nat) (st : LS), Lexes rs st xs → ∀ (k : LexSt) (s : Shared) (vs : List Value) (pre : List Str) (n : Nat), c.buf.cps.toList.drop k.pos = rs → k.st = st → k.tok = Str.ofString "" →
    Fr h₀ L s.heap m → News h₀ L s.heap (lexLed w c k ((c.pb, deqObj) :: (c.fs, deqObj) :: (S, listOf vs.toArray n) :: rest)) → StrsAre vs pre → vs.length + xs.length ≤ 1000000 →
    (∀ (k' : LexSt) vs' n' h' tk', base.StaysIn h' → h₀.UpToSlots h' → StrsAre vs' (pre ++ xs) → (∀ q ∈ lexLed w c k' ((c.pb, deqObj) :: (c.fs, deqObj) :: (S, listOf vs'.toArray n') :: rest), h'.get? q.1 = some q.2) → R (.ok (.ret .none)) { s with heap := h', toks := tk' }) →
    codeAny (model Challenge.rw_dn0059_07.row.prog w) (ktrTop dp un gd cn cs L a ccd cl outer) (.builtin "list.extend.loop" ⟨[.ref S, .ref c.lx, .none], []⟩) R s := by
  w_on
  revert X; k_fill; intro X
  intro xs rs st hx
  induction hx with
  | stop hne hgo =>
    intro k s vs pre n e1 e2 e3 F N hv hlen hR
    have I : InstAt s.heap c.lx _ _ _ := InstAt.of_news N (.tail _ (.tail _ (.head _))) (.tail _ (.tail _ (.tail _ (.head _))))
    refine codeAny_builtin PySem.F.entry_extend_loop ?_
    rw [Around.under_plainId PySem.F.plain_extend_loop _]
    show wpAny _ (ktrTop dp (un + 1) gd cn cs L a ccd cl outer) (pyNext (.ref c.lx) >>= _) _ _ s
    refine wpAny_bind (owit_next F X I (by k_is) (by k_is) (next_stop B F X N T (ap _) hk hbl hdp (by omega) (by rw [e1, e2, e3]; exact hgo) (by rw [e3]; have := dropLen c.buf k.pos; have : (Str.ofString "").length = 0 := rfl; omega) (by rw [e2]; exact hne) fun k' h' tk' hb hu hn => ?_))
    exact wpAny_pure (hR k' vs n h' tk' hb hu (by rw [List.append_nil]; exact hv) hn)
  | tok hne hgo hrest ih =>
    intro k s vs pre n e1 e2 e3 F N hv hlen hR
    have I : InstAt s.heap c.lx _ _ _ := InstAt.of_news N (.tail _ (.tail _ (.head _))) (.tail _ (.tail _ (.tail _ (.head _))))
    refine codeAny_builtin PySem.F.entry_extend_loop ?_
    rw [Around.under_plainId PySem.F.plain_extend_loop _]
    show wpAny _ (ktrTop dp (un + 1) gd cn cs L a ccd cl outer) (pyNext (.ref c.lx) >>= _) _ _ s
    refine wpAny_bind (owit_next F X I (by k_is) (by k_is) (next_tok B F X N T (ap _) hk hbl hdp (by omega) (by rw [e1, e2, e3]; exact hgo) (by rw [e3]; have := dropLen c.buf k.pos; have : (Str.ofString "").length = 0 := rfl; omega) (by rw [e2]; exact hne) fun k' a1 a2 a3 t' h' tk' F' N' => ?_))
    rename_i x xs
    have hm : (S, listOf vs.toArray n) ∈ lexLed w c k' ((c.pb, deqObj) :: (c.fs, deqObj) :: (S, listOf vs.toArray n) :: rest) := .tail _ (.tail _ (.tail _ (.tail _ (.tail _ (.tail _ (.head _))))))
    show wpAny _ (ktrTop dp (un + 1) gd cn cs L a ccd cl outer) (updateSeq S (fun ys : Array Value => ys.push (Value.str x t')) >>= _) _ _ _
    refine wpAny_bind ?_
    have hlen' : vs.length + (xs.length + 1) ≤ 1000000 := hlen
    have U := news_upd (pre := [(c.x, instObj 597 c.dx), (c.dx, dictOf (sioD w c.u k'.tp c.buf (k'.pos : Int)) 3), (c.lx, instObj 732 c.ld), (c.ld, dictOf (lexD w c.t c.x c.pb c.fs (k'.st.val k'.ts) k'.ln k'.tl k'.tok k'.tt) 19), (c.pb, deqObj), (c.fs, deqObj)]) (post := rest) (f := Obj.mapSeq (fun ys : Array Value => ys.push (Value.str x t')))
      (o' := listOf (vs ++ [Value.str x t']).toArray (if (vs.toArray.push (Value.str x t')).size == vs.toArray.size then n else n + 1)) F' N' ?_ (fun q hq => hS.2.2.2.2.2.2 q hq) ?_ rfl
    · refine wpAny_updateSeq (N' _ hm).1 rfl (wpAny_pure ⟨plainId_quiet PySem.F.plain_extend_loop _, ih k' _ _ (pre ++ [x]) _ a2 a1 a3 U.1 U.2 (kct_snoc hv) ?_ ?_⟩) ?_ ?_
      · simp only [List.length_append, List.length_cons, List.length_nil]; omega
      · intro k'' vs' n' h'' tk'' hb hu hv' hn
        rw [List.append_assoc] at hv'
        exact hR k'' vs' n' h'' tk'' hb hu hv' hn
      · show vs.toArray.size ≤ sizeLine; rw [List.size_toArray, sizeLine_eq]; omega
      · show (vs.toArray.push (Value.str x t')).size ≤ sizeLine + 1; rw [Array.size_push, List.size_toArray, sizeLine_eq]; omega
    · intro q hq
      simp only [List.mem_cons, List.not_mem_nil, or_false] at hq
      obtain ⟨b1, b2, b3, b4, b5, b6, _⟩ := hS
      rcases hq with rfl | rfl | rfl | rfl | rfl | rfl
      · exact Ne.symm b1
      · exact Ne.symm b2
      · exact Ne.symm b3
      · exact Ne.symm b4
      · exact Ne.symm b5
      · exact Ne.symm b6
    · simp [Obj.mapSeq]
theorem iter_ok {w : World} {p : Program} {loose : List Str} {mean : ExcName → Option Value} {mg mb : Str → Option Value}
    {dp un : Nat} {gd : Option (List Code)} {cn : Str} {cs : Scope} {a : Addr} {ccd : Value} {cl : List (Str × Addr)} {outer : List Env} {A₀ : Around} {base h₀ : Heap} {L : Addr} {m : Str → Option Value} {s : Shared} {Q E : Value → Shared → Prop}
    {lx : Addr} {news : List (Addr × Obj)}
    (B : Below A₀ base outer h₀) (F : Fr h₀ L s.heap m) (X : (pre.heap_1 w.params).In h₀) (N : News h₀ L s.heap news) (T : Top p loose mean mg mb h₀)
    (hk : cs.kind = .function) (hdp : dp + 8 < recursionLimit) (hun : un + 30 < cLine)
    (hret : ∀ h' tk', Fr h₀ L h' m → News h₀ L h' news → Q (.ref lx) { s with heap := h', toks := tk' }) :
    wpAny (model Challenge.rw_dn0059_07.row.prog w) (ktrTop dp un gd cn cs L a ccd cl outer) (call (.ref 722) [.ref lx]) Q E s := by
  w_on
  k_with_none
  revert X; k_fill; intro X
  refine wpAny_call ?_
  k_dflt (walk_at "my enter")
  k_steps
  rename News _ _ _ _ => NN; rename Fr _ _ _ _ => FF
  exact hret _ _ FF NN
theorem list_lex {w : World} {p : Program} {loose : List Str} {mean : ExcName → Option Value} {mg mb : Str → Option Value}
    {dp un : Nat} {gd : Option (List Code)} {cn : Str} {cs : Scope} {a : Addr} {ccd : Value} {cl : List (Str × Addr)} {outer : List Env} {A₀ : Around} {base h₀ : Heap} {L : Addr} {m : Str → Option Value} {s : Shared} {Q E : Value → Shared → Prop}
    {c : LexAt} {k : LexSt} {rest : List (Addr × Obj)} {xs : List Str}
    (B : Below A₀ base outer h₀) (F : Fr h₀ L s.heap m) (X : (pre.heap_1 w.params).In h₀)
    (N : News h₀ L s.heap (lexLed w c k ((c.pb, deqObj) :: (c.fs, deqObj) :: rest))) (T : Top p loose mean mg mb h₀) (ap : Apart c ((c.pb, deqObj) :: (c.fs, deqObj) :: rest))
    (hk : cs.kind = .function) (hbl : c.buf.length ≤ 1000000) (hdp : dp + 8 < recursionLimit) (hun : un + 50 < cLine)
    (hx : Lexes (c.buf.cps.toList.drop k.pos) k.st xs) (htk : k.tok = Str.ofString "") (hlen : xs.length ≤ 1000000)
    (hret : ∀ S vs n k' h' tk', base.StaysIn h' → h₀.UpToSlots h' → StrsAre vs xs → (∀ q ∈ lexLed w c k' ((c.pb, deqObj) :: (c.fs, deqObj) :: (S, listOf vs.toArray n) :: rest), h'.get? q.1 = some q.2) → s.heap.objs.size ≤ S → Q (.ref S) { s with heap := h', toks := tk' }) :
    wpAny (model Challenge.rw_dn0059_07.row.prog w) (ktrTop dp un gd cn cs L a ccd cl outer) (call (.type "list") [.ref c.lx]) Q E s := by
  w_on
  revert X; k_fill; intro X
  refine callType_codes (Q₁ := fun obj s₁ => obj = .ref s.heap.objs.size ∧ s₁ = { s with heap := s.heap.push { cls := .type "list", data := .seq #[] } }) PySem.F.called_list (PySem.F.typeCall_list_1 _) PySem.F.entry_list_init
    (code_list_new _ ⟨rfl, rfl⟩) fun obj s₁ h₁ => ?_
  obtain ⟨rfl, rfl⟩ := h₁
  have hlt : ∀ q ∈ lexLed w c k ((c.pb, deqObj) :: (c.fs, deqObj) :: rest), q.1 < s.heap.objs.size := fun q hq => Heap.lt_size (N q hq).1
  have hS : (s.heap.push { cls := .type "list", data := .seq #[] }).get? s.heap.objs.size = some { cls := .type "list", data := .seq #[] } := Heap.get?_push_size _ rfl
  have F₁ := F.push { cls := .type "list", data := .seq #[] }
  have N₁ : News h₀ L _ ((s.heap.objs.size, listOf (#[] : Array Value) 0) :: lexLed w c k ((c.pb, deqObj) :: (c.fs, deqObj) :: rest)) := N.push F { cls := .type "list", data := .seq #[] }
  have hne : ∀ q ∈ lexLed w c k ((c.pb, deqObj) :: (c.fs, deqObj) :: rest), q.1 ≠ s.heap.objs.size := fun q hq => Nat.ne_of_lt (hlt q hq)
  generalize s.heap.objs.size = S at *
  refine ⟨⟨_, hS, rfl⟩, PySem.F.args_list_init_2 _ _, ?_⟩
  show wpAny _ (ktrTop dp (un + 2) gd cn cs L a ccd cl outer) (do let old ← Builtin.List.listItems (.ref S); Builtin.List.listUpdate (.ref S) (fun _ => #[]); letGo old.toList.reverse; Builtin.List.listExtendWith (.ref S) (.ref c.lx) .none) _ _ _
  refine wpAny_bind ?_
  unfold Builtin.List.listItems
  refine wpAny_bind (wpAny_seqItems hS rfl (wpAny_pure ?_))
  show wpAny _ (ktrTop dp (un + 2) gd cn cs L a ccd cl outer) (updateSeq S (fun _ => #[]) >>= fun _ => letGo (#[] : Array Value).toList.reverse >>= fun _ => Builtin.List.listExtendWith (.ref S) (.ref c.lx) .none) _ _ _
  refine wpAny_bind (wpAny_updateSeq hS rfl ?_)
  obtain ⟨F₂, N₂⟩ := news_upd (pre := []) (f := Obj.mapSeq (fun _ => (#[] : Array Value))) (o' := listOf (#[] : Array Value) 0) F₁ N₁ (fun _ hp => nomatch hp) hne rfl rfl
  refine wpAny_bind (wpAny_letGo ?_)
  clear F₁ N₁ hS
  generalize (Heap.push s.heap { cls := .type "list", data := .seq #[] }).update S (Obj.mapSeq fun _ => #[]) = h₂ at *
  unfold Builtin.List.listExtendWith
  have I₂ : InstAt h₂ c.lx _ _ _ := InstAt.of_news N₂ (.tail _ (.tail _ (.tail _ (.head _)))) (.tail _ (.tail _ (.tail _ (.tail _ (.head _)))))
  refine wpAny_bind (I₂.type.here ?_)
  have hSl : S ≠ c.lx := fun e => hne _ (.tail _ (.tail _ (.head _))) e.symm
  have h1 : Builtin.List.listSameRef (.ref S) (.ref c.lx) = false := by simp [Builtin.List.listSameRef, hSl]
  simp only [h1, Bool.false_or]
  rw [if_neg (by decide)]
  refine wpAny_bind (owit_iter F₂ X I₂ (by k_is) (by k_is) (iter_ok B F₂ X N₂ T hk hdp (by omega) fun h₃ tk₃ F₃ N₃ => ?_))
  have I₃ : InstAt h₃ c.lx _ _ _ := InstAt.of_news N₃ (.tail _ (.tail _ (.tail _ (.head _)))) (.tail _ (.tail _ (.tail _ (.tail _ (.head _)))))
  refine owit_it F₃ X I₃ (by k_is) ?_
  refine wpAny_bind (wpAny_holding ?_)
  unfold Builtin.List.listLengthHint
  refine wpAny_bind (wpAny_bind (I₃.type.here ((looks_findIn (X.keeps F₃.keep) (by k_is)).here ?_)))
  show wpAny _ (ktrTop dp (un + 2) gd cn cs L a ccd cl outer) (specialOf (Value.ref c.lx) (Str.ofString "__length_hint__") >>= _) _ _ _
  refine wpAny_bind (wpAny_bind (I₃.type.here ((looks_findIn (X.keeps F₃.keep) (by k_is)).here ?_)))
  refine wpAny_pure ?_
  show wpAny _ (ktrTop dp (un + 2) gd cn cs L a ccd cl outer) (rule "list.extend.makes-room" >>= fun _ => Builtin.List.listTouch (.ref S) >>= fun _ =>
    again (.builtin "list.extend.loop" ⟨[.ref S, .ref c.lx, .none], []⟩)) _ _ _
  refine wpAny_bind (wpAny_rule ?_)
  refine wpAny_bind ?_
  show wpAny _ _ (updateSeq S (·.push .none) >>= fun _ => updateSeq S (·.pop)) _ _ _
  have hS₃ := (N₃ (S, listOf (#[] : Array Value) 0) (.head _)).1
  refine wpAny_bind (wpAny_updateSeq hS₃ rfl ?_)
  obtain ⟨F₄, N₄⟩ := news_upd (pre := []) (f := Obj.mapSeq (·.push Value.none)) (o' := listOf (#[Value.none] : Array Value) 1) F₃ N₃ (fun _ hp => nomatch hp) hne rfl rfl
  have hS₄ := (N₄ (S, listOf (#[Value.none] : Array Value) 1) (.head _)).1
  refine wpAny_updateSeq hS₄ rfl ?_ (by size_fits) (by seq_fits)
  obtain ⟨F₅, N₅⟩ := news_upd (pre := []) (f := Obj.mapSeq (·.pop)) (o' := listOf (#[] : Array Value) 2) F₄ N₄ (fun _ hp => nomatch hp) hne rfl rfl
  have N₆ : News h₀ L _ (lexLed w c k ((c.pb, deqObj) :: (c.fs, deqObj) :: (S, listOf ([] : List Value).toArray 2) :: rest)) := News.sub N₅ (by
    intro p hp
    simp only [lexLed, List.mem_cons, List.nil_append] at hp ⊢
    rcases hp with h | h | h | h | h | h | h | h
    · exact .inr (.inl h)
    · exact .inr (.inr (.inl h))
    · exact .inr (.inr (.inr (.inl h)))
    · exact .inr (.inr (.inr (.inr (.inl h))))
    · exact .inr (.inr (.inr (.inr (.inr (.inl h)))))
    · exact .inr (.inr (.inr (.inr (.inr (.inr (.inl h))))))
    · exact .inl h
    · exact .inr (.inr (.inr (.inr (.inr (.inr (.inr h)))))))
  have hmem : ∀ q ∈ rest, q ∈ lexLed w c k ((c.pb, deqObj) :: (c.fs, deqObj) :: rest) := fun q hq => .tail _ (.tail _ (.tail _ (.tail _ (.tail _ (.tail _ hq)))))
  have e1 := hne _ (.head _)
  have e2 := hne _ (.tail _ (.head _))
  have e3 := hne _ (.tail _ (.tail _ (.head _)))
  have e4 := hne _ (.tail _ (.tail _ (.tail _ (.head _))))
  have e5 := hne _ (.tail _ (.tail _ (.tail _ (.tail _ (.head _)))))
  have e6 := hne _ (.tail _ (.tail _ (.tail _ (.tail _ (.tail _ (.head _))))))
  refine wpAny_pure ⟨plainId_quiet PySem.F.plain_extend_loop _, lex_loop (un := un + 1) (S := S) (rest := rest) B X T hk hbl hdp (by omega) (fun o => ?_) ⟨Ne.symm e1, Ne.symm e2, Ne.symm e3, Ne.symm e4, Ne.symm e5, Ne.symm e6, fun q hq => hne q (hmem q hq)⟩ xs _ _ hx k _ [] [] 2 rfl rfl htk F₅ N₆ .nil (by simpa using hlen) fun k' vs' n' h' tk' hb hu hv hn => ⟨rfl, ?_⟩⟩
  · obtain ⟨a1, a2, a3, a4, a5, a6, r1, r2⟩ := ap
    refine ⟨a1, a2, a3, a4, a5, a6, fun p hp => ?_, fun p hp => ?_⟩
    · simp only [List.mem_cons] at hp
      rcases hp with rfl | rfl | rfl | hp
      · exact r1 _ (.head _)
      · exact r1 _ (.tail _ (.head _))
      · exact Ne.symm e2
      · exact r1 _ (.tail _ (.tail _ hp))
    · simp only [List.mem_cons] at hp
      rcases hp with rfl | rfl | rfl | hp
      · exact r2 _ (.head _)
      · exact r2 _ (.tail _ (.head _))
      · exact Ne.symm e4
      · exact r2 _ (.tail _ (.tail _ hp))
  · exact hret S vs' n' k' h' tk' hb hu hv hn (Nat.le_refl _)
end
section
def SioBack (K : Frag) (A : Around) (prog : Program) (w : World) (rest : List Value) (Q E : Value → Shared → Prop) (obj : Value) (s₁ : Shared) : Prop :=
  ∃ x dx od, obj = .ref x ∧ InstAt s₁.heap x (instObj 597 dx) 597 (some od) ∧ K.In s₁.heap ∧ wpAny (model prog w) A (call (.ref 367) (.ref x :: rest)) (fun r s₂ => r = .none ∧ Q (.ref x) s₂) E s₁
theorem sio_make {w : World} {h₀ : Heap} {L : Addr} {m : Str → Option Value} {A : Around} {s : Shared} {Q E : Value → Shared → Prop} {rest : List Value}
    (F : Fr h₀ L s.heap m) (X₀ : (pre.heap_1 w.params).In h₀)
    (h : wpAny (model Challenge.rw_dn0059_07.row.prog w) (A.under (.builtin "type.__call__" ⟨.ref 597 :: rest, []⟩)) (call (.ref 90) (.ref 597 :: rest))
      (SioBack (pre.heap_1 w.params) (A.under (.builtin "type.__call__" ⟨.ref 597 :: rest, []⟩)) Challenge.rw_dn0059_07.row.prog w rest Q E) E { s with toks := s.toks + 1 }) :
    wpAny (model Challenge.rw_dn0059_07.row.prog w) A (call (.ref 597) rest) Q E s := by
  revert X₀; k_fill; intro X₀
  have X := X₀.keeps F.keep
  obtain ⟨oc, od, dt, sl, hC⟩ : ∃ oc od cd sl, (pre.heap_1 w.params).lookup 597 = some ⟨oc, od, .cls cd, sl⟩ := ⟨_, _, _, _, by k_is⟩
  have made : Looks (model Challenge.rw_dn0059_07.row.prog w) s.heap (Bind.madeBy (.ref 597)) none := Looks.of_peek X (by kernel_rfl)
  have hcall : Looks (model Challenge.rw_dn0059_07.row.prog w) s.heap (specialOf (.ref 597) "__call__") (some (.builtin "type.__call__")) := Looks.of_peek X (by kernel_rfl)
  have typ : Looks (model Challenge.rw_dn0059_07.row.prog w) s.heap (isInstance (.ref 597) (.type "type")) true := Looks.of_peek X (by kernel_rfl)
  have mro : Looks (model Challenge.rw_dn0059_07.row.prog w) s.heap (mroOf (.ref 597)) [.ref 597, .ref 120, .ref 93, .type "object"] := Looks.of_peek X (by kernel_rfl)
  refine wpAny_call (codeAny_of_tree ?_)
  show wpAny _ _ (callAny (.ref 597) _) _ _ _
  simp only [callAny]
  refine wpAny_bind (wpAny_load (X _ _ hC) ?_)
  show wpAny _ _ (callAny.viaDunder (.ref 597) _) _ _ _
  unfold callAny.viaDunder
  refine wpAny_bind (hcall.here ?_)
  dsimp only
  rw [tc_bind]
  refine wpAny_bind (wpAny_pure (wpAny_bind (wpAny_pure ?_)))
  refine wpAny_pure (a := Fin.again (.call (.builtin "type.__call__") ⟨.ref 597 :: rest, []⟩)) (And.intro rfl ?_)
  refine codeAny_call_builtin_at (Code.quiet_builtin _ (by decide +kernel)) entry_typeCall ?_
  with_reducible refine check_slot tc_kind tc_split typ (tc_args _ _ _) ?_
  unfold Builtin.«type.__call__»
  refine wpAny_bind (mro.here ?_)
  refine wpAny_bind (made.here ?_)
  refine wpAny_bind (cls_sm (mc := .type "type") (p := 94) F X₀ (by k_is) (by k_is) (by k_is) (by k_is) (by k_handed) ?_)
  refine wpAny_bind (wpAny_holding (wpAny_mono h (fun obj s₁ hs => ?_) fun _ _ z => z))
  obtain ⟨x, dx, od, rfl, I, X₁, hs⟩ := hs
  have sub : Looks (model Challenge.rw_dn0059_07.row.prog w) s₁.heap (isSubtype (.ref 597) (.ref 597)) true := Looks.of_peek X₁ (by kernel_rfl)
  refine wpAny_bind ?_
  unfold isInstance
  refine wpAny_bind (I.type.here (sub.here ?_))
  show wpAny _ _ (holding [Value.ref x] (callSpecial? (.ref x) (Str.ofString "__init__") rest []) >>= _) _ _ _
  refine wpAny_bind (wpAny_holding (special_fn X₁ I (f := 367) (by k_is) (by k_is) (wpAny_mono hs (fun v s₂ hv => ?_) fun _ _ z => z)))
  obtain ⟨rfl, hv⟩ := hv
  exact wpAny_pure hv
theorem new_args : Bind.checkArgs "object.__new__" ⟨.hand, "object.__new__", "__new__", .cls, []⟩ ⟨[.ref 597], []⟩ = pure () := by kernel_rfl
section
variable {w : World} {h : Heap}
theorem new_isT (X : (pre.heap_1 w.params).In h) : Looks (model Challenge.rw_dn0059_07.row.prog w) h (isType (.ref 597)) true := Looks.of_peek X (by kernel_rfl)
theorem new_base (X : (pre.heap_1 w.params).In h) : Looks (model Challenge.rw_dn0059_07.row.prog w) h (Bind.staticBase (.ref 597)) (.type "object") := Looks.of_peek X (by kernel_rfl)
theorem new_made (X : (pre.heap_1 w.params).In h) : Looks (model Challenge.rw_dn0059_07.row.prog w) h (Bind.madeBy (.type "object")) (some "object.__new__") := Looks.of_peek X (by kernel_rfl)
theorem new_chk (X : (pre.heap_1 w.params).In h) : Looks (model Challenge.rw_dn0059_07.row.prog w) h (checkBuiltinCall "object.__new__" ⟨[.ref 597], []⟩) () := by
  have F := PySem.F.objNew
  simp only [checkBuiltinCall, F.kind, F.split, F.row]
  rw [new_args]
  refine (new_isT X).andThen ?_
  simp only [Bool.not_true, Bool.false_eq_true, if_false]
  refine Looks.andThen (a := true) (Looks.of_peek X (by kernel_rfl)) ?_
  simp only [Bool.not_true, Bool.false_eq_true, if_false]
  refine (new_base X).andThen ((new_made X).andThen ?_)
  simp only [bne_self_eq_false, Bool.false_eq_true, if_false]
  exact .now
theorem new_here (X : (pre.heap_1 w.params).In h) : Looks (model Challenge.rw_dn0059_07.row.prog w) h (Bind.madeHere "object.__new__" (.ref 597)) () := by
  refine (new_base X).andThen ((new_made X).andThen (Looks.of_pure ?_))
  simp only [Option.map_some, bne_self_eq_false, Bool.false_eq_true, if_false]
end
theorem obj_new {w : World} {h₀ : Heap} {L : Addr} {m : Str → Option Value} {A : Around} {s : Shared} {Q E : Value → Shared → Prop} {news : List (Addr × Obj)}
    (F : Fr h₀ L s.heap m) (X₀ : (pre.heap_1 w.params).In h₀) (N : News h₀ L s.heap news)
    (h : ∀ x dx h', Fr h₀ L h' m → News h₀ L h' ((x, instObj 597 dx) :: (dx, dictOf [] 0) :: news) → (∀ p ∈ news, p.1 < dx) → dx < x → Q (.ref x) { s with heap := h' }) :
    wpAny (model Challenge.rw_dn0059_07.row.prog w) A (call (.builtin "object.__new__") [.ref 597]) Q E s := by
  revert X₀; k_fill; intro X₀
  have X := X₀.keeps F.keep
  have here := new_here X
  have chk := new_chk X
  have isT := new_isT X
  obtain ⟨oc, od, cd, sl, hC, hab, hdel⟩ : ∃ oc od cd sl, (pre.heap_1 w.params).lookup 597 = some ⟨oc, od, .cls cd, sl⟩ ∧ cd.abstract = false ∧ cd.hasDel = false := ⟨_, _, _, _, by k_is, rfl, rfl⟩
  have hcd : Looks (model Challenge.rw_dn0059_07.row.prog w) s.heap (classData 597) cd := (Looks.ld (part := none) (X _ _ hC)).andThen .now
  refine wpAny_call (codeAny_of_tree ?_)
  show wpAny _ _ (do checkBuiltinCall "object.__new__" ⟨[.ref 597], []⟩; again (.builtin "object.__new__" ⟨[.ref 597], []⟩)) _ _ _
  refine wpAny_bind (chk.here (wpAny_pure ⟨Code.quiet_builtin _ PySem.F.objNew.quiet, codeAny_builtin PySem.F.objNew.entry ?_⟩))
  unfold Builtin.«object.__new__»
  refine wpAny_bind (isT.here ?_)
  refine wpAny_bind (here.here ?_)
  refine wpAny_bind (hcd.here ?_)
  dsimp only
  rw [hab]
  show wpAny _ _ ((alloc emptyDict >>= fun x => pure (some x)) >>= _) _ _ _
  refine wpAny_bind (wpAny_bind (wpAny_alloc (wpAny_pure (wpAny_bind ?_))))
  show wpAny _ _ (newObjAsIs _ _ _) _ _ _
  unfold newObjAsIs classHasDel
  have k : ∀ b o, s.heap.get? b = some o → ((s.heap.push emptyDict).push (instObj 597 s.heap.objs.size)).get? b = some o := fun b o e => Heap.get?_push_of_some _ (Heap.get?_push_of_some _ e)
  refine wpAny_bind (wpAny_alloc (wpAny_bind (wpAny_bind (wpAny_load ((X.keeps k) _ _ hC) (wpAny_pure ?_)))))
  rw [hdel]
  have N' := (N.push F emptyDict).push (F.push _) (instObj 597 s.heap.objs.size)
  have F' := (F.push emptyDict).push (instObj 597 s.heap.objs.size)
  exact wpAny_pure (wpAny_pure (h _ s.heap.objs.size _ F' N' (fun p hp => Heap.lt_size (N p hp).1) (by rw [Heap.size_push]; exact Nat.lt_succ_self _)))
end
section
section
variable {prog : Program} {w : World} {A A₀ : Around} {s : Shared} {K : Frag} {L : Addr} {h₀ base : Heap} {m mg mb : Str → Option Value} {news : List (Addr × Obj)} {p : Program} {loose : List Str} {mean : ExcName → Option Value}
/-- a call entered; what it gives back is shown by the caller's own facts -/
theorem code_defR {env : Env} {outer : List Env} {R : Result → Shared → Prop} {name qual : Str} {params : Arguments} {body : List Stmt} {scope : Scope} {dV kV doc pm cdv ct oc : Value} {an od : Option Addr} {osl : Array (Option Value)} {f : Addr} {args : Args} {binds : List (Str × Value)}
    (B : Below A₀ base outer h₀) (F : Fr h₀ L s.heap m) (X₀ : K.In h₀) (N : News h₀ L s.heap news) (T : Top p loose mean mg mb h₀) (hA : A.frames = some (env :: outer)) (hf : env.frame = some L) (hke : env.scope.kind = .function)
    (ho : K.lookup f = some ⟨oc, od, .func (fnOf name qual params body scope dV kV doc pm an cdv ct), osl⟩) (hcd : codeIn K cdv qual = true) (hroom : A.depth < recursionLimit)
    (hbind : BindsTo s (fnOf name qual params body scope dV kV doc pm an cdv ct) args binds) (hloc : ∀ y ∈ binds, scope.names.lookup y.1 = some .local)
    (h : ∀ g L' h₁, Fr h₀ L g m → Fr g L' h₁ (fun y => binds.reverse.lookup y) → News g L' h₁ news → Below A base (env :: outer) g → K.In g → Top p loose mean mg mb g → L' = s.heap.objs.size →
      wpAny (model prog w) (A.deeper (envOf qual scope L' f cdv)) (execs body (envOf qual scope L' f cdv))
        (fun fl s' => R (.ok (.ret (match fl with | .ret v => v | _ => .none))) s')
        (fun e s' => wpAny (model prog w) (A.deeper (envOf qual scope L' f cdv)) (leaving (envOf qual scope L' f cdv) e) (fun _ s'' => R (.error e) s'') (fun e' s'' => R (.error e') s'') s')
        { s with heap := h₁, toks := s.toks + binds.length })
    (hco : scope.isCoroutine = false) (hgen : scope.isGenerator = false) (hk : scope.kind = .function)
    (hcell : ∀ x ∈ scope.names, x.2 ≠ .cell) : codeAny (model prog w) A (.call (.ref f) args) R s := by
  obtain ⟨FG, BG, st, _⟩ := groundX (R := R) B F N hA hf hke
  have X := X₀.keeps F.keep
  refine codeAny_call_def (fd := fnOf name qual params body scope dV kV doc pm an cdv ct) (body := body) (binds := binds) hroom (X _ _ ho) rfl (T.nolimit.keeps F.keep) (codeRec_of X hcd) rfl hbind hcell hloc (fun h₁ hns hk₁ => ?_) hco hgen hk
  exact h _ s.heap.objs.size h₁ FG ⟨hns, fun b o e => hk₁ b o (of_hideAll _ e), Nat.le_of_eq (hideAll_size _ _)⟩ (fun p hp => ⟨hk₁ _ _ (N p hp).1, Nat.ne_of_lt (Heap.lt_size (N p hp).1), hideAll_none _ (List.mem_map_of_mem hp)⟩) BG (X₀.keeps st) (T.keeps st) rfl
end
theorem to_led {w : World} {g h : Heap} {L fs pb x dx lx ld : Addr} {u t : Nat → Tok} {tp tl tt ts : Tok} {line tok : Str} {ln : Int} {p1 p2 : Addr × Obj} {news : List (Addr × Obj)}
    (N : News g L h ((fs, deqObj) :: (pb, deqObj) :: (x, instObj 597 dx) :: (dx, dictOf (sioD w u tp line 0) 3) :: p1 :: p2 :: (lx, instObj 732 ld) :: (ld, dictOf (lexD w t x pb fs (.str (Str.ofString " ") ts) ln tl tok tt) 19) :: news)) :
    News g L h (lexLed w ⟨x, dx, lx, ld, pb, fs, t, u, line⟩ ⟨.sp, ts, tok, tt, ln, tl, 0, tp⟩ ((pb, deqObj) :: (fs, deqObj) :: news)) := by
  refine News.sub N fun p hp => ?_
  simp only [lexLed, LS.val, List.mem_cons] at hp ⊢
  rcases hp with h | h | h | h | h | h | h
  · exact .inr (.inr (.inl h))
  · exact .inr (.inr (.inr (.inl h)))
  · exact .inr (.inr (.inr (.inr (.inr (.inr (.inl h))))))
  · exact .inr (.inr (.inr (.inr (.inr (.inr (.inr (.inl h)))))))
  · exact .inr (.inl h)
  · exact .inl h
  · exact .inr (.inr (.inr (.inr (.inr (.inr (.inr (.inr h)))))))
theorem split_ok {w : World} {p : Program} {loose : List Str} {mean : ExcName → Option Value} {mg mb : Str → Option Value}
    {dp un : Nat} {gd : Option (List Code)} {cn : Str} {cs : Scope} {a : Addr} {ccd : Value} {cl : List (Str × Addr)} {A₀ : Around} {h₀ : Heap} {L : Addr} {m : Str → Option Value} {s : Shared} {Q E : Value → Shared → Prop}
    {news : List (Addr × Obj)} {line : Str} {t : Tok} {xs : List Str}
    (B : Below A₀ h₀ [] h₀) (F : Fr h₀ L s.heap m) (X : (pre.heap_1 w.params).In h₀) (N : News h₀ L s.heap news) (T : Top p loose mean mg mb h₀)
    (hk : cs.kind = .function) (hbl : line.length ≤ 1000000) (hdp : dp + 12 < recursionLimit) (hun : un + 80 < cLine)
    (hx : Lexes line.cps.toList .sp xs) (hlen : xs.length ≤ 1000000)
    (hret : ∀ S vs n h' tk', Fr h₀ L h' m → News h₀ L h' ((S, listOf vs.toArray n) :: news) → (∀ p ∈ news, p.1 < S) → StrsAre vs xs → Q (.ref S) { s with heap := h', toks := tk' }) :
    wpAny (model Challenge.rw_dn0059_07.row.prog w) (ktrTop dp un gd cn cs L a ccd cl []) (call (.ref 744) [.str line t]) Q E s := by
  w_on
  k_with_none
  k_with "call ref" => ((with_reducible show wpAny _ _ (call (Value.ref 597) _ _) _ _ _); k_dflt (refine' sio_make ?k1 ?k2 ?_; (case k1 => k_asm); (case k2 => k_asm)))
  k_with "SioBack" => (k_dflt (refine' ⟨_, _, _, rfl, ?k1, ?k2, ?_⟩; (case k1 => k_inst); (case k2 => k_in)))
  k_with "call builtin:object.__new__" => (k_dflt (refine' obj_new ?k1 ?k2 ?k3 ?_; (case k1 => k_asm); (case k2 => k_asm); (case k3 => k_asm)); intro zx' zd' zh' zF' zN' zl1 zl2; (try k_lt zl1); (try k_lt2 zl2); (try k_sweep))
  k_with "call type:list" => (refine stop_intro ?_)
  k_with "call type:collections.deque" => (k_dflt (refine' call_deq ?k1 ?k2 ?_; (case k1 => k_asm); (case k2 => k_asm); k_whole); intro zd' zh' zF' zN' zl1; (try k_lt zl1); (try k_sweep))
  k_with "my enterR" => (refine' code_defR ?k1 ?k2 ?k3 ?k4 ?k5 ?kA ?kF ?kK ?k6 ?k7 ?k8 ?k9 ?kB ?_ ?c2 ?c3 ?c4 ?c5; (case kA => exact rfl); (case kF => exact rfl); (case kK => assumption); (case k1 => k_asm); (case k2 => k_asm); (case k3 => k_asm); (case k4 => k_asm); (case k5 => k_asm); (case k6 => k_is); (case k7 => k_is); (case k8 => ktr_room); (case k9 => first | exact BindsTo.of_eq rfl | exact binds_K (by k_in) rfl (by k_is) rfl rfl rfl | fail "k_enter: no rule for these arguments"); (case c5 => decide); (case kB => exact locs rfl); (case c2 => exact rfl); (case c3 => exact rfl); (case c4 => exact rfl); k_whole; intro zg' zL' zh' zFG' zF' zN' zB' zX' zT' zeL'; (try dsimp only); (try k_fold))
  revert X; k_fill; intro X
  refine wpAny_call ?_
  k_dflt (walk_at "my enterR")
  k_steps
  refine Stop.out ?_
  rename News _ _ _ _ => NN; rename Fr _ _ _ _ => FF; rename @Eq Nat _ s.heap.objs.size => eL
  rename Fr h₀ L _ m => FG
  have N₂ := to_led (u := fun i => ([_, _, _, _, _] : List Tok).getD i 0) (t := fun i => ([_, _, _, _, _, _, _, _, _, _, _, _, _, _, _, _, _, _, _, 0, _, _, _, _, _, _, _, _] : List Tok).getD i 0) NN
  have hbig := FF.ns.lt
  rename (∀ p ∈ news, p.1 < _) => hnl
  have hn : ∀ p ∈ news, p.1 < s.heap.objs.size := fun p hp => Heap.lt_size (N p hp).1
  refine list_lex (c := ⟨_, _, _, _, _, _, _, _, line⟩) (by k_asm) FF (by k_asm) N₂ (by k_asm) ?ap rfl hbl (by ktr_room) (by ktr_units) hx rfl hlen fun S vs n k' h' tk' hb hu hv hq hS => ?_
  case ap =>
    refine ⟨?_, ?_, ?_, ?_, ?_, ?_, ?_, ?_⟩
    all_goals (try k_ne)
    all_goals (refine List.forall_mem_cons.mpr ⟨?_, List.forall_mem_cons.mpr ⟨?_, fun p hp => ?_⟩⟩; k_ne; k_ne; (have h9 := ltN (hnl p hp)); k_ne)
  have hlt : s.heap.objs.size < S := by rw [eL] at hbig; exact Nat.lt_of_lt_of_le hbig hS
  refine hret S vs n h' tk' ⟨hu.ns FG.ns, hb, F.above⟩ (fun q hq' => ?_) (fun q hq' => Nat.lt_trans (hn q hq') hlt) hv
  rcases List.mem_cons.mp hq' with rfl | hq'
  · refine ⟨hq _ (.tail _ (.tail _ (.tail _ (.tail _ (.tail _ (.tail _ (.head _))))))), ?_, ?_⟩
    · exact Nat.ne_of_gt (Nat.lt_trans F.ns.lt hlt)
    · cases hz : h₀.get? S with
      | none => rfl
      | some o => exact absurd (Heap.lt_size (F.keep _ _ hz)) (Nat.not_lt.mpr (Nat.le_of_lt hlt))
  · exact ⟨hq _ (.tail _ (.tail _ (.tail _ (.tail _ (.tail _ (.tail _ (.tail _ hq'))))))), (N q hq').2⟩
end
section
section
variable {w : World} {h₀ : Heap} {L : Addr} {m : Str → Option Value} {A : Around} {s : Shared} {Q E : Value → Shared → Prop} {news : List (Addr × Obj)}
theorem find_call {x : Str} {t : Tok} (F : Fr h₀ L s.heap m) (X₀ : (pre.heap_1 w.params).In h₀) (N : News h₀ L s.heap news) (hx : 0 < x.length) (hl : x.length ≤ 16777216)
    (h0 : x.cps.toList.any unsafeC = false → Q .none s)
    (h1 : x.cps.toList.any unsafeC = true → ∀ r h', Fr h₀ L h' m → News h₀ L h' news → Q (.ref r) { s with heap := h' }) :
    wpAny (model Challenge.rw_dn0059_07.row.prog w) A (call (.ref 745) [.str x t]) Q E s := by
  revert X₀; k_fill; intro X₀
  have X := X₀.keeps F.keep
  have chk : Looks (model Challenge.rw_dn0059_07.row.prog w) s.heap (checkBoundCall "re.Pattern.search" ⟨[.ref 49, .str x t], []⟩) () := Looks.of_peek X (by kernel_rfl)
  have hb : (pre.heap_1 w.params).lookup 745 = some (boundSearch 49) := by k_is
  have hp : ∃ src fl, (pre.heap_1 w.params).lookup 49 = some (patObj src fl 48) := ⟨_, _, by k_is⟩
  obtain ⟨src, fl, hp⟩ := hp
  have hc : (pre.heap_1 w.params).lookup 48 = some (codeTup 0) := by k_is
  refine wpAny_call (codeAny_of_tree ?_)
  show wpAny _ _ (callAny (.ref 745) _) _ _ _
  simp only [callAny]
  refine wpAny_bind (wpAny_load (X _ _ hb) ?_)
  simp only [show (Value.type "builtin_function_or_method" == Value.type "method" || Value.type "builtin_function_or_method" == Value.type "builtin_function_or_method" || Value.type "builtin_function_or_method" == Value.type "method-wrapper") = true by decide, if_true]
  refine KFB.if_so (by decide) ?_
  refine wpAny_bind (chk.here ?_)
  refine wpAny_bind (wpAny_pure (wpAny_pure ?_))
  refine ⟨plainId_quiet plain_search _, codeAny_builtin entry_search (search_tree hx hl (X _ _ hp) (X _ _ hc) (fun hu => h0 hu) fun hu o1 o2 f1 f2 => ?_)⟩
  have F₁ := F.push o1
  have N₁ := N.push F o1 f1
  exact h1 hu _ _ (F₁.push o2) (News.sub (N₁.push F₁ o2 f2) fun p hp => .tail _ (.tail _ hp))
theorem callWith_find {env : Env} {pos : Pos} {first : List Value} {e : Expr} {rest : List Expr} (_X : (pre.heap_1 w.params).In h₀)
    (h : wpAny (model Challenge.rw_dn0059_07.row.prog w) A (spliced (backTo pos (starEach (e :: rest) env))) (fun vs s₁ => (pre.heap_1 w.params).In s₁.heap ∧ wpAny (model Challenge.rw_dn0059_07.row.prog w) A (call (.ref 745) (first ++ vs)) Q E s₁) E s)
    (he : starEach (e :: rest) env = (false, eval e env) :: starEach rest env := by rfl) (hplain : (backTo pos (starEach rest env)).any (·.1) = false := by rfl) :
    wpAny (model Challenge.rw_dn0059_07.row.prog w) A (callWith pos (.ref 745) first (backTo pos (starEach (e :: rest) env)) []) Q E s := by
  rw [he] at h ⊢
  exact callWith_of (by show ((false || (backTo pos (starEach rest env)).any (·.1)) || false) = false; rw [hplain]; rfl) (fun h' X' => ⟨.machine, .inr (.inl rfl), Looks.of_peek X' (by kernel_rfl)⟩) (Calls.evalArgs_plain h)
end
theorem sub1_ge (c : Nat) (z : List Nat) (hz : 1 ≤ z.length) : ∀ l : List Nat, l.length ≤ (sub1 c z l).length
  | [] => Nat.zero_le _
  | k :: r => by
    show _ ≤ ((if k = c then z else [k]) ++ sub1 c z r).length
    have ih := sub1_ge c z hz r
    rw [List.length_append, List.length_cons]
    split
    · omega
    · simp only [List.length_cons, List.length_nil]; omega
theorem rep_ge {x y z : Str} {c : Nat} {zl : List Nat} (hy : y = ofL [c]) (hz : z = ofL zl) (h : 1 ≤ zl.length) : x.length ≤ (Txt.replace x y z).length := by
  rw [replace_lit hy hz, ofL_len]
  exact Nat.le_trans (Nat.le_of_eq Array.length_toList.symm) (sub1_ge c zl h x.cps.toList)
section
variable {prog : Program} {w : World} {A : Around} {E : Value → Shared → Prop} {s : Shared} {x y : Str} {t u : Tok} {b : Bool}
theorem truthy_pos {Q : Bool → Shared → Prop} (e : ((x.length : Int) != 0) = b) (hl : x.length ≤ 16777216) (k : Q b { s with toks := s.toks + 1 + 1 }) : wpAny (model prog w) A (truthy (.str x t)) Q E s :=
  P.truthy_str (by omega) (e ▸ k)
theorem add_pos {Q : Value → Shared → Prop} (hx : x.length ≠ 0) (hy : y.length ≠ 0) (hsz : x.length + y.length ≤ 16777216) (k : ∀ t', Q (.str (x ++ y) t') { s with toks := s.toks + 1 }) :
    wpAny (model prog w) A (binaryOp .Add (.str x t) (.str y u)) Q E s := by
  refine P.add_str ?_
  rw [if_neg (by simpa using hx), if_neg (by simpa using hy)]
  exact ⟨by rw [sizeLine_eq, Str.length_append]; exact hsz, k _⟩
end
theorem quote_ok {w : World} {p : Program} {loose : List Str} {mean : ExcName → Option Value} {mg mb : Str → Option Value}
    {dp un : Nat} {gd : Option (List Code)} {cn : Str} {cs : Scope} {a : Addr} {ccd : Value} {cl : List (Str × Addr)} {outer : List Env} {A₀ : Around} {base h₀ : Heap} {L : Addr} {m : Str → Option Value} {s : Shared} {Q E : Value → Shared → Prop}
    {news : List (Addr × Obj)} {x : Str} {t : Tok}
    (B : Below A₀ base outer h₀) (F : Fr h₀ L s.heap m) (X : (pre.heap_1 w.params).In h₀) (N : News h₀ L s.heap news) (T : Top p loose mean mg mb h₀)
    (hk : cs.kind = .function) (hl : x.length ≤ 1000000) (hdp : dp + 8 < recursionLimit) (hun : un + 40 < cLine)
    (hret : ∀ t' h' tk', 0 < tk' → Fr h₀ L h' m → News h₀ L h' news → Q (.str (ofL (qt x.cps.toList)) t') { s with heap := h', toks := tk' }) :
    wpAny (model Challenge.rw_dn0059_07.row.prog w) (ktrTop dp un gd cn cs L a ccd cl outer) (call (.ref 752) [.str x t]) Q E s := by
  w_on
  k_with_none
  k_with "callWith" => (with_reducible refine callWith_method1 (first := _ :: _) (he := ?he) (hplain := ?hp) ?_; (case he => k_dflt (exact rfl)); (case hp => k_dflt (exact rfl)))
  k_with "callWith ref" => ((with_reducible show wpAny _ _ (callWith _ (Value.ref 745) _ _ _) _ _ _); k_dflt (refine' callWith_find ?k1 ?_; (case k1 => k_asm)))
  k_with "call ref" => ((with_reducible show wpAny _ _ (call (Value.ref 745) _ _) _ _ _); k_dflt (refine' find_call ?k1 ?k2 ?k3 ?k4 ?k5 ?_ ?_; (case k1 => k_asm); (case k2 => k_asm); (case k3 => k_asm); (case k4 => omega); (case k5 => omega)); all_goals (intro zhU; try (intro zr' zh' zF' zN'; (try k_sweep))))
  k_with "truthy str" => (refine truthy_pos (by assumption) (by omega) ?_)
  k_with "binaryOp Add str str" => (refine add_pos ?k1 ?k2 ?k3 ?_; (case k1 => ((try rw [Str.length_append]); omega)); (case k2 => omega); (case k3 => ((try rw [Str.length_append]); omega)); intro _)
  k_with "execs cons" => first | ((with_reducible refine execs_one ?_); try dsimp only) | ((with_reducible refine wpAny_execs_cons ?_); try dsimp only)
  k_with "execs nil" => (refine wpAny_execs_nil ?_)
  k_with "LeaveK" => (k_dflt (refine' leaveK_ ?k1 ?k2 ?_; (case k1 => k_asm); (case k2 => k_asm); k_whole); intro zkF zkN; refine stop_intro ?_)
  revert X; k_fill; intro X
  have hrep : (Txt.replace x (Str.ofString "'") (Str.ofString "'\"'\"'")).length ≤ 5 * x.length := by
    rw [replace_lit ofS_apos ofS_qapos, ofL_len]
    exact sub1_len 39 [39, 34, 39, 34, 39] 5 (by decide) (by decide) x.cps.toList
  have hl1 : (Str.ofString "'").length = 1 := rfl
  have hge : x.length ≤ (Txt.replace x (Str.ofString "'") (Str.ofString "'\"'\"'")).length := rep_ge ofS_apos ofS_qapos (by decide)
  refine wpAny_call ?_
  k_dflt (walk_at "my enter")
  rcases Nat.eq_zero_or_pos x.length with h0 | h0
  · have hz : ((x.length : Int) != 0) = false := by rw [h0]; rfl
    k_steps
    rename News _ _ _ _ => NN; rename Fr _ _ _ _ => FF
    have e : ofL (qt x.cps.toList) = Str.ofString "''" := by
      rw [List.eq_nil_of_length_eq_zero (l := x.cps.toList) (by rw [Array.length_toList]; exact h0), ofS_two]; rfl
    rw [e] at hret
    exact Stop.out (hret _ _ _ (by (try dsimp only); omega) FF NN)
  · have hz : ((x.length : Int) != 0) = true := by simp; omega
    have hne : x.cps.toList ≠ [] := fun e => by
      have : x.length = 0 := by show x.cps.size = 0; rw [← Array.length_toList, e]; rfl
      omega
    k_steps
    all_goals (rename List.any _ _ = _ => hU; rename News _ _ _ _ => NN; rename Fr _ _ _ _ => FF)
    · have e : ofL (qt x.cps.toList) = x := by
        unfold qt; rw [if_neg hne, if_neg (by rw [hU]; decide), toL_ofL]
      rw [e] at hret
      exact Stop.out (hret _ _ _ (by (try dsimp only); omega) FF NN)
    · have e : ofL (qt x.cps.toList) = Str.ofString "'" ++ Txt.replace x (Str.ofString "'") (Str.ofString "'\"'\"'") ++ Str.ofString "'" := by
        unfold qt; rw [if_neg hne, if_pos hU, replace_lit ofS_apos ofS_qapos, ofS_apos, ofL_append, ofL_append]; rfl
      rw [e] at hret
      exact Stop.out (hret _ _ _ (by (try dsimp only); omega) FF NN)
theorem len_amp : (Str.ofString "&amp;").length = 5 := rfl
theorem ofS_amp : Str.ofString "&" = ofL [38] := by decide
theorem ofS_lt : Str.ofString "<" = ofL [60] := by decide
theorem ofS_gt : Str.ofString ">" = ofL [62] := by decide
theorem ofS_dq : Str.ofString "\"" = ofL [34] := by decide
theorem ofS_eamp : Str.ofString "&amp;" = ofL [38, 97, 109, 112, 59] := by decide
theorem ofS_elt : Str.ofString "&lt;" = ofL [38, 108, 116, 59] := by decide
theorem ofS_egt : Str.ofString "&gt;" = ofL [38, 103, 116, 59] := by decide
theorem ofS_equot : Str.ofString "&quot;" = ofL [38, 113, 117, 111, 116, 59] := by decide
theorem ofS_eapos : Str.ofString "&#x27;" = ofL [38, 35, 120, 50, 55, 59] := by decide
def r1 (x : Str) : Str := Txt.replace x (Str.ofString "&") (Str.ofString "&amp;")
def r2 (x : Str) : Str := Txt.replace (r1 x) (Str.ofString "<") (Str.ofString "&lt;")
def r3 (x : Str) : Str := Txt.replace (r2 x) (Str.ofString ">") (Str.ofString "&gt;")
def r4 (x : Str) : Str := Txt.replace (r3 x) (Str.ofString "\"") (Str.ofString "&quot;")
def r5 (x : Str) : Str := Txt.replace (r4 x) (Str.ofString "'") (Str.ofString "&#x27;")
theorem r3_is (x : Str) : r3 x = ofL (escL false x.cps.toList) := by
  unfold r3 r2 r1
  rw [replace_lit ofS_amp ofS_eamp, replace_lit ofS_lt ofS_elt, replace_lit ofS_gt ofS_egt, ofL_toL, ofL_toL, esc3]
theorem r5_is (x : Str) : r5 x = ofL (escL true x.cps.toList) := by
  unfold r5 r4
  rw [r3_is, replace_lit ofS_dq ofS_equot, replace_lit ofS_apos ofS_eapos, ofL_toL, ofL_toL, esc5]
theorem escape_ok {w : World} {p : Program} {loose : List Str} {mean : ExcName → Option Value} {mg mb : Str → Option Value}
    {dp un : Nat} {gd : Option (List Code)} {cn : Str} {cs : Scope} {a : Addr} {ccd : Value} {cl : List (Str × Addr)} {outer : List Env} {A₀ : Around} {base h₀ : Heap} {L : Addr} {m : Str → Option Value} {s : Shared} {Q E : Value → Shared → Prop}
    {news : List (Addr × Obj)} {x : Str} {t : Tok} {q : Bool} {tl : List Value} (htl : tl = [.bool q] ∨ (tl = [] ∧ q = true))
    (B : Below A₀ base outer h₀) (F : Fr h₀ L s.heap m) (X : (pre.heap_1 w.params).In h₀) (N : News h₀ L s.heap news) (T : Top p loose mean mg mb h₀)
    (hk : cs.kind = .function) (htoks : 0 < s.toks) (hl : (escL true x.cps.toList).length ≤ 1000000) (hdp : dp + 8 < recursionLimit) (hun : un + 40 < cLine)
    (hret : ∀ t' h' tk', 0 < tk' → Fr h₀ L h' m → News h₀ L h' news → Q (.str (ofL (escL q x.cps.toList)) t') { s with heap := h', toks := tk' }) :
    wpAny (model Challenge.rw_dn0059_07.row.prog w) (ktrTop dp un gd cn cs L a ccd cl outer) (call (.ref 760) (.str x t :: tl)) Q E s := by
  w_on
  k_with_none
  k_with "callWith" => (with_reducible refine callWith_method1 (first := _ :: _) (he := ?he) (hplain := ?hp) ?_; (case he => k_dflt (exact rfl)); (case hp => k_dflt (exact rfl)))
  k_with "callWith ref" => ((with_reducible show wpAny _ _ (callWith _ (Value.ref 745) _ _ _) _ _ _); k_dflt (refine' callWith_find ?k1 ?_; (case k1 => k_asm)))
  k_with "call ref" => ((with_reducible show wpAny _ _ (call (Value.ref 745) _ _) _ _ _); k_dflt (refine' find_call ?k1 ?k2 ?k3 ?k4 ?k5 ?_ ?_; (case k1 => k_asm); (case k2 => k_asm); (case k3 => k_asm); (case k4 => omega); (case k5 => omega)); all_goals (intro zhU; try (intro zr' zh' zF' zN'; (try k_sweep))))
  k_with "truthy str" => (refine truthy_pos (by assumption) (by omega) ?_)
  k_with "binaryOp Add str str" => (refine add_pos ?k1 ?k2 ?k3 ?_; (case k1 => ((try rw [Str.length_append]); omega)); (case k2 => omega); (case k3 => ((try rw [Str.length_append]); omega)); intro _)
  k_with "execs cons" => first | ((with_reducible refine execs_one ?_); try dsimp only) | ((with_reducible refine wpAny_execs_cons ?_); try dsimp only)
  k_with "execs nil" => (refine wpAny_execs_nil ?_)
  k_with "LeaveK" => (k_dflt (refine' leaveK_ ?k1 ?k2 ?_; (case k1 => k_asm); (case k2 => k_asm); k_whole); intro zkF zkN; refine stop_intro ?_)
  k_with "call builtin:str.replace" => (refine replace_mono (by (try dsimp only); omega) (by (try dsimp only); omega) (by (try dsimp only); omega) (by decide) (by (try dsimp only); omega) (by decide) ?_; intro zt' zk' zhk'; (try dsimp only at zhk'))
  revert X; k_fill; intro X
  have h5 : (r5 x).length ≤ 1000000 := by rw [r5_is]; exact hl
  have h4 : (r4 x).length ≤ 1000000 := Nat.le_trans (rep_ge ofS_apos ofS_eapos (by decide)) h5
  have h3 : (r3 x).length ≤ 1000000 := Nat.le_trans (rep_ge ofS_dq ofS_equot (by decide)) h4
  have h2 : (r2 x).length ≤ 1000000 := Nat.le_trans (rep_ge ofS_gt ofS_egt (by decide)) h3
  have h1 : (r1 x).length ≤ 1000000 := Nat.le_trans (rep_ge ofS_lt ofS_elt (by decide)) h2
  have h0 : x.length ≤ 1000000 := Nat.le_trans (rep_ge ofS_amp ofS_eamp (by decide)) h1
  unfold r1 at h1
  unfold r2 r1 at h2
  unfold r3 r2 r1 at h3
  unfold r4 r3 r2 r1 at h4
  refine wpAny_call ?_
  rcases htl with rfl | ⟨rfl, rfl⟩
  · cases q
    · k_dflt (walk_at "my enter")
      k_steps
      rename News _ _ _ _ => NN; rename Fr _ _ _ _ => FF
      rw [← r3_is] at hret
      exact Stop.out (hret _ _ _ (by (try dsimp only); omega) FF NN)
    · k_dflt (walk_at "my enter")
      k_steps
      rename News _ _ _ _ => NN; rename Fr _ _ _ _ => FF
      rw [← r5_is] at hret
      exact Stop.out (hret _ _ _ (by (try dsimp only); omega) FF NN)
  · k_dflt (walk_at "my enter")
    k_steps
    rename News _ _ _ _ => NN; rename Fr _ _ _ _ => FF
    rw [← r5_is] at hret
    exact Stop.out (hret _ _ _ (by (try dsimp only); omega) FF NN)
end
section
theorem ne_fact {prog : Program} {w : World} {A : Around} {E : Value → Shared → Prop} {s : Shared} {Q : Value → Shared → Prop} {x y : Str} {u t : Tok} {b : Bool} (h : (x != y) = b) (k : Q (.bool b) s) : wpAny (model prog w) A (compareOp .NotEq (.str x u) (.str y t)) Q E s :=
  ne_str (h ▸ k)
theorem safe_ok {w : World} {p : Program} {loose : List Str} {mean : ExcName → Option Value} {mg mb : Str → Option Value}
    {dp un : Nat} {gd : Option (List Code)} {cn : Str} {cs : Scope} {a : Addr} {ccd : Value} {cl : List (Str × Addr)} {outer : List Env} {A₀ : Around} {base h₀ : Heap} {L : Addr} {m : Str → Option Value} {s : Shared} {Q E : Value → Shared → Prop}
    {news : List (Addr × Obj)} {x : Str} {t : Tok}
    (B : Below A₀ base outer h₀) (F : Fr h₀ L s.heap m) (X : (pre.heap_1 w.params).In h₀) (N : News h₀ L s.heap news) (T : Top p loose mean mg mb h₀)
    (hk : cs.kind = .function) (hl : x.length ≤ 1000000) (hok : PyData.strOk x = true) (hdp : dp + 8 < recursionLimit) (hun : un + 100 < cLine)
    (hret : ∀ h' tk', Fr h₀ L h' m → News h₀ L h' news → Q (.bool (isSafe x.cps.toList)) { s with heap := h', toks := tk' }) :
    wpAny (model Challenge.rw_dn0059_07.row.prog w) (ktrTop dp un gd cn cs L a ccd cl outer) (call (.ref 772) [.str x t]) Q E s := by
  w_on
  k_with_none
  k_with "my enterC" => (refine' code_defC ?k1 ?k2 ?k3 ?k4 ?k5 ?kA ?kF ?kK ?k6 ?k7 ?k8 ?k9 ?kB ?kD ?_ ?c2 ?c3 ?c4; (case kA => exact rfl); (case kF => exact rfl); (case kK => assumption); (case k1 => k_asm); (case k2 => k_asm); (case k3 => k_asm); (case k4 => k_asm); (case k5 => k_asm); (case k6 => k_is); (case k7 => k_is); (case k8 => ktr_room); (case k9 => first | exact BindsTo.of_eq rfl | exact binds_K (by k_in) rfl (by k_is) rfl rfl rfl | fail "k_enter: no rule for these arguments"); (case kB => exact rfl); (case kD => decide +kernel); (case c2 => exact rfl); (case c3 => exact rfl); (case c4 => exact rfl); k_whole; intro zg' zL' zh' ztk' zcells' zFG' zF' zN' zY' zB' zX' zT' zl1; (try k_lt zl1); k_cells zY'; (try simp only [List.cons_append, List.nil_append] at zN'); (try dsimp only); (try k_lift zB'); (try k_fold))
  k_with "eval ListComp" => (k_dflt (refine ListComp_txT (by k_asm) (by with_unfolding_all rfl) (by decide) (by rfl) (by decide) (by rfl) ?_))
  k_with "compareOp Eq ref ref" => (refine stop_intro ?_)
  k_with "TxSrcT" => (refine stop_intro ?_)
  revert X; k_fill; intro X
  refine wpAny_call ?_
  k_dflt (walk_at "my enterC")
  cases hne : (x != Str.ofString "")
  · k_steps
    rename News _ _ _ _ => NN; rename Fr _ _ _ _ => FF
    have e : isSafe x.cps.toList = (x != Str.ofString "") := by
      rw [hne, show x = Str.ofString "" by simpa using hne]; rfl
    rw [e] at hret
    exact hret _ _ FF (News.sub NN fun p hp => .tail _ hp)
  · k_steps
    refine Stop.out ?_
    rename News _ _ _ _ => NN; rename Fr _ _ _ _ => FF
    refine ⟨x, t, _, rfl, rfl, FF, NN, by rw [sizeLine_eq]; show x.length ≤ _; omega, ?_⟩
    rintro s₂ ⟨hz, rfl⟩
    rw [show x.cps.size = x.cps.toList.length from (Array.length_toList).symm]
    refine rest_foldT (items := x.cps.toList) (rel := fun c v => ∃ u, v = .str ⟨#[c]⟩ u) (out := fun c v => ∃ u, v = .str ⟨#[c]⟩ u) (keep := fun c => !inS c safeS) ?_ ?_ ?_
    · rintro i v ⟨c, u, hc, rfl⟩
      exact ⟨c, by rw [Array.getElem?_toList]; exact hc, u, rfl⟩
    · clear FF NN
      rintro c v I oI C oC D m₂ ys h tk E' hcm ⟨u, rfl⟩ hyl hC hx F₁ N₁ off ⟨n1, n2, n3⟩
      k_steps
      refine Stop.out ⟨?_, fun _ => ?_, fun _ => ?_⟩
      · rw [StrLaws.found_one]; rfl
      · k_steps
        rename News _ _ _ _ => NN; rename Fr _ _ _ _ => FF
        exact LCg.CompEnd.intro FF NN _ (fun _ h => h) off trivial ⟨rfl, _, rfl⟩
      · exact LCg.CompEnd.intro F₁ N₁ _ (fun _ h => h) off trivial rfl
    · clear FF NN
      intro ys hys D h tk F₁ N₁ o1
      have hst := outs_strs hys
      k_steps
      refine Stop.out ?_
      rename News _ _ _ _ => NN; rename Fr _ _ _ _ => FF
      refine eq_strs (xs := ys) (ys := []) (NN.isList (.tail _ (.head _))) (NN.isList (.head _)) hst .nil ?_ (fun _ h => nomatch h) (by ktr_units) ?_
      · intro z hz'
        obtain ⟨c, hc, rfl⟩ := List.mem_map.mp hz'
        exact ok_one (ok_mem hok (List.mem_filter.mp hc).1)
      have e : decide (List.map (fun a : Nat => Str.mk #[a]) (List.filter (fun c => !inS c safeS) x.cps.toList) = []) = isSafe x.cps.toList := by
        have h1 : x.cps.toList.isEmpty = false := by
          cases hx : x.cps.toList with
          | nil =>
            have : x = Str.ofString "" := by rw [← toL_ofL x, hx]; decide
            rw [this] at hne; simp at hne
          | cons _ _ => rfl
        unfold isSafe
        rw [h1, Bool.not_false, Bool.true_and, Bool.eq_iff_iff]
        simp only [decide_eq_true_eq, List.map_eq_nil_iff, List.filter_eq_nil_iff, Bool.not_eq_true', Bool.not_eq_false, List.any_eq_false]
        refine forall_congr' fun c => forall_congr' fun _ => ?_
        rw [show inS c safeS = !unsafeC c from safe_unsafe c]
        cases unsafeC c <;> simp
      rw [e]
      k_steps
      rename News _ _ _ _ => NN; rename Fr _ _ _ _ => FF
      exact hret _ _ FF (News.sub NN fun p hp => .tail _ (.tail _ (.tail _ hp)))
end
section
def SignTab (prog : Program) (w : World) (S : Addr) (o : Obj) : Prop := (S == sysModules) = false ∧ ∃ kvs D, o.IsDictOf (PySem.strKind prog w) kvs ∧ PyProof.V.FlatPairs PyData.str kvs D ∧
  ∀ nm, (Spec.lookup (.str (ofL nm)) D).getD (.str (Str.ofString "")) = .str (ofL (refSign nm))
theorem get_sign {prog : Program} {w : World} {A : Around} {h₀ : Heap} {L : Addr} {s : Shared} {Q E : Value → Shared → Prop} {news : List (Addr × Obj)} {S : Addr} {o : Obj} {nm : List Nat} {t u : Tok}
    (N : News h₀ L s.heap news) (hm : (S, o) ∈ news) (hS : SignTab prog w S o) (k : ∀ t', Q (.str (ofL (refSign nm)) t') { s with toks := s.toks + 1 }) :
    wpAny (model prog w) A (call (.builtin "dict.get") [.ref S, .str (ofL nm) t, .str (Str.ofString "") u]) Q E s := by
  obtain ⟨lo, kvs, D, hd, hf, hz⟩ := hS
  refine call_get2_strTab (TabAt.ofNews N hm lo hd hf) (.str _ _) fun v hv => ?_
  rw [hz] at hv
  obtain ⟨t', rfl⟩ := hv.str_inv
  exact k t'
theorem same_s' (a b : Str) : PySem.Spec.same (.str a) (.str b) = decide (a = b) := by
  simp only [PySem.Spec.same]
  by_cases h : a = b <;> simp [h]
theorem ofL_inj {a b : List Nat} : (ofL a = ofL b) ↔ a = b := ⟨fun h => by have := congrArg (fun z : Str => z.cps.toList) h; exact this, fun h => h ▸ rfl⟩
theorem lkR {a1 b1 a2 b2 a3 b3 a4 b4 a5 b5 : Tok} (nm : List Nat) : (Spec.lookup (PyData.str (ofL nm)) (strData [(.str (Str.ofString "amp") a1, .str (Str.ofString "&") b1), (.str (Str.ofString "lt") a2, .str (Str.ofString "<") b2), (.str (Str.ofString "gt") a3, .str (Str.ofString ">") b3),
    (.str (Str.ofString "quot") a4, .str (Str.ofString "\"") b4), (.str (Str.ofString "#x27") a5, .str (Str.ofString "'") b5)])).getD (PyData.str (Str.ofString "")) = .str (ofL (refSign nm)) := by
  simp only [strData, Spec.lookup, same_s', show Str.ofString "amp" = ofL [97, 109, 112] by decide, show Str.ofString "lt" = ofL [108, 116] by decide, show Str.ofString "gt" = ofL [103, 116] by decide,
    show Str.ofString "quot" = ofL [113, 117, 111, 116] by decide, show Str.ofString "#x27" = ofL [35, 120, 50, 55] by decide, ofL_inj, decide_eq_true_eq]
  unfold refSign
  by_cases h1 : nm = [97, 109, 112]; · subst h1; rfl
  by_cases h2 : nm = [108, 116]; · subst h2; rfl
  by_cases h3 : nm = [103, 116]; · subst h3; rfl
  by_cases h4 : nm = [113, 117, 111, 116]; · subst h4; rfl
  by_cases h5 : nm = [35, 120, 50, 55]; · subst h5; rfl
  have g1 := fun e => h1 (Eq.symm e)
  have g2 := fun e => h2 (Eq.symm e)
  have g3 := fun e => h3 (Eq.symm e)
  have g4 := fun e => h4 (Eq.symm e)
  have g5 := fun e => h5 (Eq.symm e)
  rw [if_neg g1, if_neg g2, if_neg g3, if_neg g4, if_neg g5, if_neg h1, if_neg h2, if_neg h3, if_neg h4, if_neg h5]
  rfl
theorem pickBD {h₀ h : Heap} {L : Addr} {a b c d : Addr × Obj} {r : List (Addr × Obj)} (N : News h₀ L h (a :: b :: c :: d :: r)) : News h₀ L h (b :: d :: r) := News.sub N (by
  intro q hq
  rcases List.mem_cons.mp hq with rfl | hq
  · exact .tail _ (.head _)
  rcases List.mem_cons.mp hq with rfl | hq
  · exact .tail _ (.tail _ (.tail _ (.head _)))
  · exact .tail _ (.tail _ (.tail _ (.tail _ hq))))
theorem newsMid {h₀ h : Heap} {L : Addr} {d a b : Addr × Obj} {own r : List (Addr × Obj)} (N : News h₀ L h (d :: a :: b :: (own ++ r))) : News h₀ L h (own ++ a :: b :: r) := News.sub N (by
  intro q hq
  rcases List.mem_append.mp hq with hq | hq
  · exact .tail _ (.tail _ (.tail _ (List.mem_append_left _ hq)))
  rcases List.mem_cons.mp hq with rfl | hq
  · exact .tail _ (.head _)
  rcases List.mem_cons.mp hq with rfl | hq
  · exact .tail _ (.tail _ (.head _))
  · exact .tail _ (.tail _ (.tail _ (List.mem_append_right _ hq))))
theorem pick1 (vs : List Value) : slicePick vs.toArray (some 1) none none = (vs.drop 1).toArray := slicePick_from' vs.toArray 1
theorem refSign_len (nm : List Nat) : (refSign nm).length ≤ 1 := by unfold refSign; (repeat' split) <;> simp
theorem mem_sum {y : Str} : ∀ {ys : List Str}, y ∈ ys → y.length ≤ (ys.map (·.length)).sum
  | z :: r, h => by
    rw [List.map_cons, List.sum_cons]
    rcases List.mem_cons.mp h with rfl | h
    · omega
    · have := mem_sum h; omega
theorem unref_len (q : List Nat) : (unref q).length ≤ q.length + 1 := by
  have h1 := refSign_len (q.takeWhile (· != 59))
  have h2 : (q.dropWhile (· != 59)).tail.length ≤ q.length := by
    rw [List.length_tail]
    have := congrArg List.length (List.takeWhile_append_dropWhile (p := (· != 59)) (l := q))
    rw [List.length_append] at this
    omega
  unfold unref
  rw [List.length_append]; omega
theorem unref_sum : ∀ ps : List (List Nat), ((ps.map fun q => ofL (unref q)).map (·.length)).sum ≤ ((ps.map ofL).map (·.length)).sum + ps.length
  | [] => Nat.le_refl _
  | q :: r => by
    have := unref_sum r
    have h := unref_len q
    simp only [List.map_cons, List.sum_cons, List.length_cons, ofL_len] at this ⊢
    omega
theorem read_ok {w : World} {p : Program} {loose : List Str} {mean : ExcName → Option Value} {mg mb : Str → Option Value}
    {dp un : Nat} {gd : Option (List Code)} {cn : Str} {cs : Scope} {a : Addr} {ccd : Value} {cl : List (Str × Addr)} {outer : List Env} {A₀ : Around} {base h₀ : Heap} {L : Addr} {m : Str → Option Value} {s : Shared} {Q E : Value → Shared → Prop}
    {news : List (Addr × Obj)} {x : Str} {t : Tok}
    (B : Below A₀ base outer h₀) (F : Fr h₀ L s.heap m) (X : (pre.heap_1 w.params).In h₀) (N : News h₀ L s.heap news) (T : Top p loose mean mg mb h₀)
    (hk : cs.kind = .function) (hl : x.length ≤ 1000000) (hdp : dp + 8 < recursionLimit) (hun : un + 100 < cLine)
    (hret : ∀ t' h' tk', Fr h₀ L h' m → News h₀ L h' news → Q (.str (ofL (readL x.cps.toList)) t') { s with heap := h', toks := tk' }) :
    wpAny (model Challenge.rw_dn0059_07.row.prog w) (ktrTop dp un gd cn cs L a ccd cl outer) (call (.ref 784) [.str x t]) Q E s := by
  w_on
  k_with_none
  k_with "exec For" => (refine for_mine ?_)
  k_with "exec For Name Name cons nil" => (k_dflt (refine for_mine ?_))
  k_with "exec For Name Subscript cons nil" => (k_dflt (refine for_mine ?_))
  k_with "exec For Name Call cons nil" => (k_dflt (refine for_mine ?_))
  k_with "exec For Tuple Name cons nil" => (k_dflt (refine for_mine ?_))
  k_with "pyIter ref" => (refine stop_intro ?_)
  k_with "call builtin:str.join" => (refine stop_intro ?_)
  k_with "call builtin:str.split" => (refine KSpl.split1 (by k_asm) (by k_asm) (by decide) ?_ (by rw [sizeLine_eq]; omega); intro zD' zl' zh' zk' ze' za' zF' zN' zl1; (try k_lt zl1))
  k_with "call builtin:str.partition" => (refine KXpa.partition (by k_asm) (by k_asm) (by decide) (part_is _ 59).1 rfl (part_is _ 59).2 (by rw [sizeLine_eq]; omega) ?_; intro zD' _ _ _ _ _ zF' zN' zl1; (try k_lt zl1))
  k_with "call builtin:dict.get" => (refine stop_intro ?_)
  k_with "call builtin:list.append" => ((try simp only [List.cons_append, List.nil_append]); (refine' append_K ?k1 ?k2 ?k3 ?_ ?z; (case k1 => k_asm); (case k2 => k_asm); (case k3 => k_upd); (case z => (rw [sizeLine_eq, List.size_toArray]; omega))); intro zh' zF' zN'; (try k_sweep))
  k_with "binaryOp Add str str" => (refine add_str (hsz := ?hsz) ?_; (case hsz => (rw [sizeLine_eq]; omega)); intro _ _)
  revert X; k_fill; intro X
  refine wpAny_call ?_
  k_dflt (walk_at "my enter")
  k_steps
  refine Stop.out ?_
  rename News _ _ _ _ => NN; rename Fr _ _ _ _ => FF
  rename List.map _ _ = Txt.split _ _ => hsp
  rename StrsAre _ _ => hst
  rename (List.map _ _)[_]? = some _ => hy0
  rename Obj.IsDictOf _ _ _ => hdo
  rename PyProof.V.FlatPairs _ _ _ => hfp
  rename (_ == sysModules) = false => hlo
  obtain ⟨p0, ps, eP⟩ := splitL_ne 38 x.cps.toList
  have hxs : Txt.split x (Str.ofString "&") = ofL p0 :: ps.map ofL := by
    have h1 := split_is x 38
    rw [eP] at h1
    have h2 := congrArg (List.map ofL) h1
    rw [List.map_map] at h2
    have h3 : (Txt.split x ⟨#[38]⟩).map (ofL ∘ toL) = Txt.split x ⟨#[38]⟩ := by
      conv => rhs; rw [← List.map_id (Txt.split x ⟨#[38]⟩)]
      exact List.map_congr_left fun a _ => toL_ofL a
    rw [h3] at h2
    exact h2
  rw [hxs] at hsp
  rw [hsp] at hst hy0
  rw [pick1] at NN
  cases hy0
  have hst1 : StrsAre ((strValues _).drop 1) (ps.map ofL) := hst.drop' 1
  have hw := split_weight x (Str.ofString "&") (by decide)
  rw [hxs] at hw
  revert NN; rename News _ _ _ _ => NO; intro NN
  have old : ∀ q ∈ _, _ := fun q hq => Heap.lt_size (NO q hq).1
  have neT : ∀ q ∈ news, q.1 ≠ _ := fun q hq => Nat.ne_of_lt (old q (.tail _ (.tail _ (.tail _ hq))))
  rename _ ∧ _ ∧ AllLt _ news => hlt
  refine iter_name' rfl (NN.isList (.head _)) (NN _ (.head _)).2.1 rfl rfl FF (pickBD NN) ?_ (by passes_own)
    (fun i m₁ news₁ => ∃ S oS Tl us n, m₁ (Str.ofString "signs") = some (.ref S) ∧ m₁ (Str.ofString "told") = some (.ref Tl) ∧ SignTab Challenge.rw_dn0059_07.row.prog w S oS ∧
      @Ne Nat Tl S ∧ (∀ q ∈ news, q.1 ≠ Tl) ∧ StrsAre us (ofL p0 :: (ps.take i).map fun q => ofL (unref q)) ∧ news₁ = (Tl, listOf us.toArray n) :: (S, oS) :: news)
    ⟨_, _, _, _, _, rfl, rfl, ⟨hlo, _, _, hdo, hfp, fun nm => lkR nm⟩, ?n1, ?n2, .cons _ _ .nil, rfl⟩ ?_ ?_
  case n1 => dsimp only at hlt ⊢; omega
  case n2 => exact fun q hq => Nat.ne_of_lt (allLt_to hlt.2.2 q hq)
  · intro q hq
    refine Nat.ne_of_lt (Nat.lt_succ_of_lt (old q ?_))
    rcases List.mem_cons.mp hq with rfl | hq
    · exact .head _
    rcases List.mem_cons.mp hq with rfl | hq
    · exact .tail _ (.tail _ (.head _))
    · exact .tail _ (.tail _ (.tail _ hq))
  · clear NN FF NO
    rintro i v m₁ news₁ h tk own I D htk hv ⟨S, oS, Tl, us, n, e1, e2, hST, hTS, hTn, hus, rfl⟩ off hsub F₁ N₁
    obtain ⟨y, ty, rfl, hy⟩ := hst1.item i v hv
    have F₂ := fr_over [(Str.ofString "part", .str y ty), (Str.ofString "signs", .ref S), (Str.ofString "told", .ref Tl)] F₁ (by
      intro q hq
      simp only [List.mem_cons, List.not_mem_nil, or_false] at hq
      rcases hq with rfl | rfl | rfl
      · rfl
      · exact (if_neg (show ¬ Str.ofString "signs" = Str.ofString "part" by decide)).trans e1
      · exact (if_neg (show ¬ Str.ofString "told" = Str.ofString "part" by decide)).trans e2)
    have hoT : ∀ q ∈ own ++ news, q.1 ≠ Tl := fun q hq e => by
      rcases List.mem_append.mp hq with hq | hq
      · exact off _ (.head _) (e ▸ hsub q hq)
      · exact hTn q hq e
    have N₂ : News _ _ h ((Tl, listOf us.toArray n) :: (S, oS) :: (own ++ news)) := News.sub N₁ (by
      intro q hq
      rcases List.mem_cons.mp hq with rfl | hq
      · exact List.mem_append_right _ (.head _)
      rcases List.mem_cons.mp hq with rfl | hq
      · exact List.mem_append_right _ (.tail _ (.head _))
      rcases List.mem_append.mp hq with hq | hq
      · exact List.mem_append_left _ hq
      · exact List.mem_append_right _ (.tail _ (.tail _ hq)))
    clear F₁ N₁ hdo hfp hlo
    obtain ⟨hlo, kvs, DD, hdo, hfp, hz⟩ := id hST
    have hyl : y.length ≤ 1000000 := by
      have h1 := mem_sum (List.mem_cons_of_mem (ofL p0) (List.mem_of_getElem? hy))
      rw [List.length_cons] at hw
      omega
    have hA : (ofL (refSign (List.takeWhile (fun x => x != 59) y.cps.toList))).length ≤ 1 := refSign_len _
    have hB : (ofL (List.dropWhile (fun x => x != 59) y.cps.toList).tail).length ≤ 1000000 := by
      rw [ofL_len, List.length_tail]
      have h1 := congrArg List.length (List.takeWhile_append_dropWhile (p := (· != 59)) (l := y.cps.toList))
      rw [List.length_append] at h1
      have h2 : y.cps.toList.length = y.length := Array.length_toList
      omega
    k_steps
    refine Stop.out ?_
    rename News _ _ _ _ => NN; rename Fr _ _ _ _ => FF
    refine get_sign NN (.tail _ (.tail _ (.head _))) hST ?_
    intro tg
    have hul : us.length ≤ 1000002 := by
      rw [hus.length]
      simp only [List.length_cons, List.length_map, List.length_take] at hw ⊢
      omega
    k_steps
    rename News _ _ _ _ => NN; rename Fr _ _ _ _ => FF
    simp only [List.push_toArray] at NN
    obtain ⟨q, hq, rfl⟩ : ∃ q, ps[i]? = some q ∧ ofL q = y := by
      rw [List.getElem?_map] at hy
      cases hpi : ps[i]? with
      | none => rw [hpi] at hy; cases hy
      | some q => rw [hpi] at hy; exact ⟨q, rfl, Option.some.inj hy⟩
    refine LE.next FF (newsMid NN) ?_ ⟨S, oS, Tl, _, _, rfl, rfl, hST, hTS, hTn, ?_, rfl⟩
    · intro q hq
      rcases List.mem_cons.mp hq with rfl | hq
      · exact off (Tl, listOf us.toArray n) (.head _)
      · exact off q (.tail _ hq)
    · have e : List.take (i + 1) ps = ps.take i ++ [q] := by
        rw [List.take_add_one, hq]; rfl
      rw [e, List.map_append, ← List.cons_append]
      refine hus.append' ?_
      rw [ofL_append]
      exact .cons _ _ .nil
  · clear NN FF NO
    rintro h tk m₁ news₁ F₁ N₁ ⟨S, oS, Tl, us, n, e1, e2, hST, hTS, hTn, hus, rfl⟩
    rw [hst1.length, List.length_map, List.take_length] at hus
    have F₂ := fr_over [(Str.ofString "told", .ref Tl)] F₁ (by
      intro q hq
      rw [List.mem_singleton.mp hq]
      exact e2)
    clear F₁
    dsimp only
    k_steps
    refine Stop.out ?_
    rename News _ _ _ _ => NN; rename Fr _ _ _ _ => FF
    have hs1 := unref_sum ps
    have e0 : (ofL p0 :: ps.map fun q => ofL (unref q)) = (p0 :: ps.map unref).map ofL := by rw [List.map_cons, List.map_map]; rfl
    refine join_list (items := us.toArray) (ys := ofL p0 :: ps.map fun q => ofL (unref q)) (NN.isList (.head _)) (by simpa using hus) ?_ ?_
    · simp only [List.map_cons, List.sum_cons, List.length_cons, List.length_map] at hw hs1 ⊢
      rw [show (Str.ofString "").length = 0 from rfl]
      omega
    · intro t' k'
      rw [e0, ofS_nil, joinT_ofL, joinL_nil]
      have er : (p0 :: ps.map unref).flatten = readL x.cps.toList := by
        unfold readL
        rw [eP]; rfl
      rw [er]
      k_steps
      rename News _ _ _ _ => NN; rename Fr _ _ _ _ => FF
      exact hret _ _ _ FF (News.sub NN fun q hq => .tail _ (.tail _ hq))
end
section
theorem len1' (c : Nat) : (Str.mk #[c]).length = 1 := rfl
theorem newsTl {h₀ h : Heap} {L : Addr} {a : Addr × Obj} {r : List (Addr × Obj)} (N : News h₀ L h (a :: r)) : News h₀ L h r := fun q hq => N q (.tail _ hq)
theorem dv {nv : Int} {j : Nat} (h0 : 0 < nv) (h1 : nv < ((16 ^ j : Nat) : Int)) : ∃ i, j = i + 1 ∧ (0 ≤ (nv - 1).fdiv 16 ∧ (nv - 1).fdiv 16 < ((16 ^ i : Nat) : Int) ∧ ((nv - 1).fdiv 16).toNat < nv.toNat) ∧
    0 ≤ ((nv - 1).fdiv 16).fdiv 1114112 ∧ ((nv - 1).fdiv 16).fdiv 1114112 < ((16 ^ i : Nat) : Int) ∧ (((nv - 1).fdiv 16).fdiv 1114112).toNat < nv.toNat := by
  cases j with
  | zero => rw [Nat.pow_zero] at h1; omega
  | succ i =>
    rw [Nat.pow_succ] at h1
    refine ⟨i, rfl, ?_⟩
    generalize 16 ^ i = P at h1 ⊢
    rw [Int.fdiv_eq_ediv_of_nonneg _ (by decide), Int.fdiv_eq_ediv_of_nonneg _ (by decide)]
    refine ⟨⟨by omega, by omega, by omega⟩, by omega, by omega, by omega⟩
theorem item_small : ∀ z : Nat, z < 10 → ∀ c ∈ (Txt.item (Str.ofString "a&<>'\" \\;b") (z : Int)).cps.toList, c < 1114112 := by decide +kernel
theorem item_ok {z : Int} (h0 : 0 ≤ z) (h1 : z < 10) : ∀ c ∈ (Txt.item (Str.ofString "a&<>'\" \\;b") z).cps.toList, c < 1114112 := by
  have e : z = ((z.toNat : Nat) : Int) := by omega
  rw [e]
  exact item_small z.toNat (by omega)
theorem ap_signs {x y : Str} (h : ∀ c ∈ x.cps.toList, c < 1114112) (h2 : ∀ c ∈ y.cps.toList, c < 1114112) : ∀ c ∈ (x ++ y).cps.toList, c < 1114112 := by
  intro c hc
  rw [Str.cps_append, Array.toList_append] at hc
  rcases List.mem_append.mp hc with hc | hc
  · exact h c hc
  · exact h2 c hc
theorem cut80 (x : Str) : (Txt.slice x none (some 80)).length ≤ 80 := by
  have h := fact_slice_ns x 80
  rcases Int.le_total 80 (x.length : Int) with hl | hl
  · have := h.1 (by decide) hl; omega
  · have := h.2 hl; omega
theorem cut_signs {x : Str} {l u : Option Int} (h : ∀ c ∈ x.cps.toList, c < 1114112) : ∀ c ∈ (Txt.slice x l u).cps.toList, c < 1114112 := by
  intro c hc
  unfold Txt.slice at hc
  split at hc
  · exact h c hc
  · obtain ⟨i, _, hi⟩ := List.mem_filterMap.mp hc
    exact h c (List.mem_of_getElem? (by rw [Array.getElem?_toList]; exact hi))
/-- what _law_draw gives -/
structure Drawn (x : Str) (ts : List Nat) : Prop where
  signs : ∀ c ∈ x.cps.toList, c < 1114112
  len : x.length ≤ 80
  lev : ∀ t ∈ ts, t ≤ 2
  size : ts.length ≤ 4 ∧ x.length ≤ 24 ∨ ts.length ≤ 2 ∧ x.length ≤ 80
theorem fin_draw {x : Str} {zs : List Int} {ls : List Value} {G : Prop} (hcs : ∀ c ∈ x.cps.toList, c < 1114112) (h80 : x.length ≤ 80) (hz : ∀ z ∈ zs, 0 ≤ z ∧ z ≤ 2) (hW : IntsAre ls zs)
    (hs : zs.length ≤ 4 ∧ x.length ≤ 24 ∨ zs.length ≤ 2 ∧ x.length ≤ 80) (K : ∀ ts : List Nat, Drawn x ts → IntsAre ls (ts.map (fun (z : Nat) => (z : Int))) → G) : G := by
  have e : (zs.map Int.toNat).map (fun (z : Nat) => (z : Int)) = zs := by
    rw [List.map_map]
    conv => rhs; rw [← List.map_id zs]
    refine List.map_congr_left fun z h => ?_
    have := (hz z h).1
    show ((z.toNat : Nat) : Int) = z
    omega
  refine K (zs.map Int.toNat) ⟨hcs, h80, fun t ht => ?_, by rw [List.length_map]; exact hs⟩ (by rw [e]; exact hW)
  obtain ⟨z, h, rfl⟩ := List.mem_map.mp ht
  have := hz z h
  omega
theorem take_in {zs : List Int} {n : Nat} (hz : ∀ z ∈ zs, 0 ≤ z ∧ z ≤ 2) : ∀ z ∈ zs.take n, 0 ≤ z ∧ z ≤ 2 := fun z h => hz z (List.mem_of_mem_take h)
theorem zero_in : ∀ z ∈ [(0 : Int)], 0 ≤ z ∧ z ≤ 2 := by decide
theorem newsP5 {h₀ h : Heap} {L : Addr} {a b c d e : Addr × Obj} {r : List (Addr × Obj)} (N : News h₀ L h (a :: b :: c :: d :: e :: r)) : News h₀ L h (a :: b :: r) := News.sub N (by
  intro q hq
  rcases List.mem_cons.mp hq with rfl | hq
  · exact .head _
  rcases List.mem_cons.mp hq with rfl | hq
  · exact .tail _ (.head _)
  · exact .tail _ (.tail _ (.tail _ (.tail _ (.tail _ hq)))))
theorem newsP4 {h₀ h : Heap} {L : Addr} {a b c d : Addr × Obj} {r : List (Addr × Obj)} (N : News h₀ L h (a :: b :: c :: d :: r)) : News h₀ L h (a :: b :: r) := News.sub N (by
  intro q hq
  rcases List.mem_cons.mp hq with rfl | hq
  · exact .head _
  rcases List.mem_cons.mp hq with rfl | hq
  · exact .tail _ (.head _)
  · exact .tail _ (.tail _ (.tail _ (.tail _ hq))))
/-- the names and the ledger between two turns -/
def DJ (b : Nat) (rest : List (Addr × Obj)) (m₁ : Str → Option Value) (Lv : Addr) (us : List Value) (_k : Nat) : Prop :=
  (∀ q ∈ rest, q.1 ≠ Lv) ∧ m₁ (Str.ofString "levels") = some (.ref Lv) ∧ ∃ (x : Str) (t : Tok) (zs : List Int), m₁ (Str.ofString "text") = some (.str x t) ∧ x.length ≤ b ∧ (∀ c ∈ x.cps.toList, c < 1114112) ∧
    IntsAre us zs ∧ (∀ z ∈ zs, 0 ≤ z ∧ z ≤ 2) ∧ zs.length ≤ 4
theorem newsUp {h₀ h : Heap} {L : Addr} {a : Addr × Obj} {own r : List (Addr × Obj)} (N : News h₀ L h (own ++ a :: r)) : News h₀ L h (a :: (own ++ r)) := News.sub N (by
  intro q hq
  rcases List.mem_cons.mp hq with rfl | hq
  · exact List.mem_append_right _ (.head _)
  rcases List.mem_append.mp hq with hq | hq
  · exact List.mem_append_left _ hq
  · exact List.mem_append_right _ (.tail _ hq))
theorem newsDown {h₀ h : Heap} {L : Addr} {a : Addr × Obj} {own r : List (Addr × Obj)} (N : News h₀ L h (a :: (own ++ r))) : News h₀ L h (own ++ a :: r) := News.sub N (by
  intro q hq
  rcases List.mem_append.mp hq with hq | hq
  · exact .tail _ (List.mem_append_left _ hq)
  rcases List.mem_cons.mp hq with rfl | hq
  · exact .head _
  · exact .tail _ (List.mem_append_right _ hq))
theorem draw_ok {w : World} {p : Program} {loose : List Str} {mean : ExcName → Option Value} {mg mb : Str → Option Value}
    {dp un : Nat} {gd : Option (List Code)} {cn : Str} {cs : Scope} {a : Addr} {ccd : Value} {cl : List (Str × Addr)} {outer : List Env} {A₀ : Around} {base h₀ : Heap} {L : Addr} {m : Str → Option Value} {s : Shared} {Q E : Value → Shared → Prop}
    {rest : List (Addr × Obj)} {D : Addr} {vs : List Value} {nn : Nat} {ns : List Int}
    (B : Below A₀ base outer h₀) (F : Fr h₀ L s.heap m) (X : (pre.heap_1 w.params).In h₀) (N : News h₀ L s.heap ((D, listOf vs.toArray nn) :: rest)) (T : Top p loose mean mg mb h₀)
    (hk : cs.kind = .function) (hi : IntsAre vs ns) (hl : ns.length ≤ 64) (hdp : dp + 8 < recursionLimit) (hun : un + 100 < cLine)
    (hret : ∀ Tp Lv x t ls ts k h' tk', Drawn x ts → IntsAre ls (ts.map (fun (z : Nat) => (z : Int))) → Fr h₀ L h' m → News h₀ L h' ((Tp, { cls := .type "tuple", data := .seq [.str x t, .ref Lv].toArray }) :: (Lv, listOf ls.toArray k) :: (D, listOf vs.toArray nn) :: rest) →
      Q (.ref Tp) { s with heap := h', toks := tk' }) :
    wpAny (model Challenge.rw_dn0059_07.row.prog w) (ktrTop dp un gd cn cs L a ccd cl outer) (call (.ref 767) [.ref D]) Q E s := by
  w_on
  k_with_none
  k_with "exec For" => (refine for_mine ?_)
  k_with "exec For Name Name cons nil" => (k_dflt (refine for_mine ?_))
  k_with "exec For Name Subscript cons nil" => (k_dflt (refine for_mine ?_))
  k_with "exec For Name Call cons nil" => (k_dflt (refine for_mine ?_))
  k_with "exec For Tuple Name cons nil" => (k_dflt (refine for_mine ?_))
  k_with "pyIter ref" => (refine stop_intro ?_)
  k_with "exec While" => (refine stop_intro ?_)
  k_with "inplaceOp Add str str" => (refine iadd_str (hsz := ?hsz) ?_; (case hsz => (rw [sizeLine_eq]; (try simp only [len1']); omega)); intro _ _)
  k_with "call builtin:list.append" => ((try simp only [List.cons_append, List.nil_append]); (with_reducible rename News _ _ _ _ => znN); (refine' append_K ?k1 (newsTl znN) ?k3 ?_ ?z; (case k1 => k_asm); (case k3 => k_upd); (case z => (rw [sizeLine_eq, List.size_toArray]; omega))); intro zh' zF' zN'; (try k_sweep))
  k_with "subscriptTail Name Slice str ref" => ((with_reducible rename Fr _ _ _ _ => zF'); (with_reducible rename News _ _ _ _ => zN'); (refine slice_strN_ns (hsz := ?hsz) (s := ⟨_, _, _, _, _⟩) zF' zN' ?_); (case hsz => (rw [sizeLine_eq]; omega)); intro _ _ _ _ _)
  revert X; k_fill; intro X
  refine wpAny_call ?_
  k_dflt (walk_at "my enter")
  k_steps
  refine Stop.out ?_
  rename News _ _ _ _ => NN; rename Fr _ _ _ _ => FF
  rename IntsAre _ _ => hI
  rename _ ∧ _ ∧ AllLt _ rest => hlt
  rename _ ∧ AllLt _ rest => hlt0
  refine iter_name' rfl (NN.isList (.head _)) (NN _ (.head _)).2.1 rfl rfl FF (News.sub (l' := (_ :: (D, listOf vs.toArray nn) :: rest)) NN (fun q hq => .tail _ hq)) ?_ (by passes_own)
    (fun i m₁ news₁ => ∃ Lv us k, DJ (13 * i) ((D, listOf vs.toArray nn) :: rest) m₁ Lv us k ∧ news₁ = (Lv, listOf us.toArray k) :: (D, listOf vs.toArray nn) :: rest)
    ⟨_, [], _, ⟨?n1, rfl, Str.ofString "", _, [], rfl, Nat.zero_le _, fun _ hc => (by cases hc), .nil, fun _ hz => (by cases hz), Nat.zero_le _⟩, rfl⟩ ?_ ?_
  case n1 =>
    intro q hq
    rcases List.mem_cons.mp hq with rfl | hq
    · exact Nat.ne_of_lt hlt0.1
    · exact Nat.ne_of_lt (allLt_to hlt0.2 q hq)
  · intro q hq
    rcases List.mem_cons.mp hq with rfl | hq
    · exact Nat.ne_of_lt hlt.1
    rcases List.mem_cons.mp hq with rfl | hq
    · exact Nat.ne_of_lt hlt.2.1
    · exact Nat.ne_of_lt (allLt_to hlt.2.2 q hq)
  · clear NN FF
    rintro i v m₁ news₁ h tk own I D' htk hv ⟨Lv, us, k, hJ, rfl⟩ off hsub F₁ N₁
    obtain ⟨hap, e2, x, t, zs, e1, hxl, hxc, hus, hzs, hzl⟩ := hJ
    have offL : Lv ∉ [I, D'] := off _ (.head _)
    obtain ⟨y, ty, rfl, hy⟩ := hI.at i v hv
    have F₂ := fr_over [(Str.ofString "x", .int y ty), (Str.ofString "text", .str x t), (Str.ofString "levels", .ref Lv)] F₁ (by
      intro q hq
      simp only [List.mem_cons, List.not_mem_nil, or_false] at hq
      rcases hq with rfl | rfl | rfl
      · rfl
      · exact (if_neg (show ¬ Str.ofString "text" = Str.ofString "x" by decide)).trans e1
      · exact (if_neg (show ¬ Str.ofString "levels" = Str.ofString "x" by decide)).trans e2)
    clear F₁
    k_steps
    refine Stop.out ?_
    rename News _ _ _ _ => NN; rename Fr _ _ _ _ => FF
    have hoT : ∀ q ∈ own ++ ((D, listOf vs.toArray nn) :: rest), q.1 ≠ Lv := fun q hq e => by
      rcases List.mem_append.mp hq with hq | hq
      · exact off _ (.head _) (e ▸ hsub q hq)
      · exact hap q hq e
    refine While_inv2 (fun q m₁ news₁ => ∃ us k nv tn j, DJ (13 * (i + 1) - j) (own ++ ((D, listOf vs.toArray nn) :: rest)) m₁ Lv us k ∧ m₁ (Str.ofString "n") = some (.int nv tn) ∧ 0 ≤ nv ∧ nv < (16 ^ j : Nat) ∧ j ≤ 13 ∧ q = nv.toNat ∧
        news₁ = (Lv, listOf us.toArray k) :: (own ++ ((D, listOf vs.toArray nn) :: rest)))
      FF (newsUp NN) ⟨us, k, _, _, 13, ⟨hoT, rfl, x, t, zs, rfl, by omega, hxc, hus, hzs, hzl⟩, rfl, ?_, ?_, Nat.le_refl _, rfl, rfl⟩ ?_
    · have := fmod_lo y (n := 16 ^ 12) (by decide)
      show 0 ≤ Int.fmod y (16 ^ 12) + 1
      omega
    · have := fmod_hi y (n := 16 ^ 12) (by decide)
      show Int.fmod y (16 ^ 12) + 1 < ((16 ^ 13 : Nat) : Int)
      have : ((16 ^ 13 : Nat) : Int) = 4503599627370496 := by decide
      have : (16 ^ 12 : Int) = 281474976710656 := by decide
      omega
    · clear NN FF
      rintro q m₂ news₂ h₂ tk₂ F₂ N₂ ⟨us, k, nv, tn, j, hJ, en, hn0, hn1, hj, rfl, rfl⟩
      obtain ⟨hap, e2, x, t, zs, e1, hxl, hxc, hus, hzs, hzl⟩ := hJ
      have F₃ := fr_over [(Str.ofString "n", .int nv tn), (Str.ofString "text", .str x t), (Str.ofString "levels", .ref Lv)] F₂ (by
        intro q hq
        simp only [List.mem_cons, List.not_mem_nil, or_false] at hq
        rcases hq with rfl | rfl | rfl
        · exact en
        · exact e1
        · exact e2)
      clear F₂
      have hi40 : i < 40 := by
        have h1 : i < (ns.take 40).length := by
          rw [← hI.length]
          exact (List.getElem?_eq_some_iff.mp hv).1
        rw [List.length_take] at h1
        omega
      have hul : us.length = zs.length := hus.length
      have f0 := fmod_lo (nv - 1) (n := 16) (by decide)
      have f1 := fmod_hi (nv - 1) (n := 16) (by decide)
      k_steps
      all_goals (rename News _ _ _ _ => NN; rename Fr _ _ _ _ => FF)
      · obtain ⟨j, rfl, ⟨d1, d2, d3⟩, _⟩ := dv (by assumption) hn1
        refine ⟨_, _, _, _, _, rfl, FF, News.sub NN fun q hq => .tail _ hq, d3, us, k, _, _, j, ⟨hap, rfl, _, _, zs, rfl, ?_, ap_signs hxc (item_ok f0 (by assumption)), hus, hzs, hzl⟩, rfl, d1, d2, by omega, rfl, rfl⟩
        rw [Str.length_append]; omega
      · obtain ⟨j, rfl, _, d1, d2, d3⟩ := dv (by assumption) hn1
        have g1 := fmod_hi ((nv - 1).fdiv 16) (n := 1114112) (by decide)
        refine ⟨_, _, _, _, _, rfl, FF, News.sub NN fun q hq => .tail _ (.tail _ hq), d3, us, k, _, _, j, ⟨hap, rfl, _, _, zs, rfl, ?_, ap_signs hxc ?_, hus, hzs, hzl⟩, rfl, d1, d2, by omega, rfl, rfl⟩
        · rw [Str.length_append, len1']; omega
        · intro c hc
          have e : c = (((nv - 1).fdiv 16).fmod 1114112).toNat := by simpa using hc
          rw [e]; omega
      · obtain ⟨j, rfl, ⟨d1, d2, d3⟩, _⟩ := dv (by assumption) hn1
        have g0 := fmod_lo ((nv - 1).fmod 16) (n := 3) (by decide)
        have g1 := fmod_hi ((nv - 1).fmod 16) (n := 3) (by decide)
        simp only [List.push_toArray] at NN
        refine ⟨_, _, _, _, _, rfl, FF, NN, d3, us ++ [_], _, _, _, j, ⟨hap, rfl, _, _, zs ++ [_], rfl, by omega, hxc, hus.append (.cons _ _ .nil), ?_, ?_⟩, rfl, d1, d2, by omega, rfl, rfl⟩
        · intro z hz
          rcases List.mem_append.mp hz with hz | hz
          · exact hzs z hz
          · rw [List.mem_singleton.mp hz]; omega
        · rw [List.length_append]; simp only [List.length_cons, List.length_nil]; omega
      · obtain ⟨j, rfl, ⟨d1, d2, d3⟩, _⟩ := dv (by assumption) hn1
        refine ⟨_, _, _, _, _, rfl, FF, News.sub NN fun q hq => .tail _ hq, d3, us, k, _, _, j, ⟨hap, rfl, _, _, zs, rfl, by omega, hxc, hus, hzs, hzl⟩, rfl, d1, d2, by omega, rfl, rfl⟩
      · refine LE.next FF (newsDown NN) ?_ ⟨Lv, us, k, ⟨fun q hq => hap q (List.mem_append_right _ hq), rfl, x, t, zs, rfl, by omega, hxc, hus, hzs, hzl⟩, rfl⟩
        intro q hq
        rcases List.mem_cons.mp hq with rfl | hq
        · exact offL
        · exact off q (.tail _ hq)
  · clear NN FF
    rintro h tk m₁ news₁ F₁ N₁ ⟨Lv, us, k, hJ, rfl⟩
    obtain ⟨hap, e2, x, t, zs, e1, hxl, hxc, hus, hzs, hzl⟩ := hJ
    have F₂ := fr_over [(Str.ofString "text", .str x t), (Str.ofString "levels", .ref Lv)] F₁ (by
      intro q hq
      simp only [List.mem_cons, List.not_mem_nil, or_false] at hq
      rcases hq with rfl | rfl
      · exact e1
      · exact e2)
    clear F₁
    have hws : (ns.take 40).length ≤ 40 := by rw [List.length_take]; exact Nat.min_le_left _ _
    rw [hI.length] at hxl
    have hx520 : x.length ≤ 520 := by omega
    have hc80 := cut80 x
    have hcs := cut_signs (l := none) (u := some 80) hxc
    dsimp only
    k_steps
    all_goals (rename News _ _ _ _ => kN; rename Fr _ _ _ _ => kF; rename IntsAre _ _ => hW)
    · exact fin_draw (zs := [0]) hcs hc80 zero_in (.cons _ _ .nil) (.inl ⟨by decide, by omega⟩) fun ts d hi' => hret _ _ _ _ _ ts _ _ _ d hi' kF (newsP5 kN)
    · exact fin_draw (zs := [0]) hcs hc80 zero_in (.cons _ _ .nil) (.inr ⟨by decide, by omega⟩) fun ts d hi' => hret _ _ _ _ _ ts _ _ _ d hi' kF (newsP5 kN)
    · exact fin_draw hcs hc80 (take_in (n := 4) hzs) hW (.inl ⟨by rw [List.length_take]; exact Nat.min_le_left _ _, by omega⟩) fun ts d hi' => hret _ _ _ _ _ ts _ _ _ d hi' kF (newsP4 kN)
    · exact fin_draw hcs hc80 (take_in (n := 2) hzs) hW (.inr ⟨by rw [List.length_take]; exact Nat.min_le_left _ _, by omega⟩) fun ts d hi' => hret _ _ _ _ _ ts _ _ _ d hi' kF (newsP4 kN)
end
section
/-! _law_due -/
abbrev pairObj (c d : Nat) (t u : Tok) : Obj := { cls := .type "tuple", data := .seq [Value.str ⟨#[c]⟩ t, Value.int (d : Int) u].toArray }
def PairAt (led : List (Addr × Obj)) (v : Value) (p : Nat × Nat) : Prop := ∃ T t u, v = .ref T ∧ (T, pairObj p.1 p.2 t u) ∈ led
inductive PA (led : List (Addr × Obj)) : List Value → List (Nat × Nat) → Prop
  | nil : PA led [] []
  | cons {v : Value} {p : Nat × Nat} {vs : List Value} {ps : List (Nat × Nat)} : PairAt led v p → PA led vs ps → PA led (v :: vs) (p :: ps)
theorem PairAt.mono {l l' : List (Addr × Obj)} {v : Value} {p : Nat × Nat} (h : PairAt l v p) (hs : ∀ q ∈ l, q ∈ l') : PairAt l' v p := by
  obtain ⟨T, t, u, e, hm⟩ := h; exact ⟨T, t, u, e, hs _ hm⟩
theorem PA.mono {l l' : List (Addr × Obj)} (hs : ∀ q ∈ l, q ∈ l') : ∀ {vs : List Value} {ps : List (Nat × Nat)}, PA l vs ps → PA l' vs ps
  | _, _, .nil => .nil
  | _, _, .cons a b => .cons (a.mono hs) (b.mono hs)
theorem PA.append {l : List (Addr × Obj)} {ws : List Value} {qs : List (Nat × Nat)} (h' : PA l ws qs) : ∀ {vs : List Value} {ps : List (Nat × Nat)}, PA l vs ps → PA l (vs ++ ws) (ps ++ qs)
  | _, _, .nil => h'
  | _, _, .cons a b => .cons a (PA.append h' b)
theorem PA.length {l : List (Addr × Obj)} : ∀ {vs : List Value} {ps : List (Nat × Nat)}, PA l vs ps → vs.length = ps.length
  | _, _, .nil => rfl
  | _, _, .cons _ b => by rw [List.length_cons, List.length_cons, b.length]
theorem PA.item {l : List (Addr × Obj)} : ∀ {vs : List Value} {ps : List (Nat × Nat)}, PA l vs ps → ∀ {i : Nat} {v : Value}, vs[i]? = some v → ∃ p, ps[i]? = some p ∧ PairAt l v p
  | _, _, .cons a _, 0, v, e => by simp at e; subst e; exact ⟨_, rfl, a⟩
  | _, _, .cons _ b, i + 1, v, e => by simpa using b.item (i := i) (by simpa using e)
theorem PA.refs {l : List (Addr × Obj)} : ∀ {vs : List Value} {ps : List (Nat × Nat)}, PA l vs ps → ∀ v ∈ vs, ∃ T, v = .ref T
  | _, _, .cons a b, v, h => by
    rcases List.mem_cons.mp h with rfl | h
    · obtain ⟨T, _, _, e, _⟩ := a; exact ⟨T, e⟩
    · exact b.refs v h
section
variable {prog : Program} {w : World} {A : Around} {E : Value → Shared → Prop} {s : Shared} {h₀ : Heap} {L : Addr} {m : Str → Option Value} {env : Env}
variable {α : Type} {elt ct : Expr} {x : Str} {scope : Scope} {cl : List (Str × Addr)} {S : List (Addr × Obj) → Prop} {P : Nat → Value → Prop} {Fin : List Value → List (Addr × Obj) → Prop} {news : List (Addr × Obj)} {items : List α} {rel : α → Value → Prop}
open LCg in
/-- a comprehension whose turns lay new objects -/
theorem rest_foldN (Inv : Nat → List Value → List (Addr × Obj) → Prop) (h0 : Inv 0 [] news) (hP : ∀ i v, P i v → ∃ a, items[i]? = some a ∧ rel a v)
    (turn : ∀ i a v nw I oI C oC D m₂ ys h tk (E' : Value → Shared → Prop), items[i]? = some a → rel a v → ys.length = i → Inv i ys nw → NsObj oC m₂ → m₂ x = some v → Fr h₀ L h m → News h₀ L h ((I, oI) :: (C, oC) :: (D, lst ys) :: nw) → Off3 I C D nw → ((@Ne Nat I C) ∧ (@Ne Nat I D) ∧ (@Ne Nat C D)) →
      wpAny (model prog w) A (eval elt (compEnvC scope cl C env)) (CompEnd h₀ L m { s with heap := h, toks := tk } I oI C oC D (lst ys) S (fun y news' => Inv (i + 1) (ys ++ [y]) news')) E' { s with heap := h, toks := tk })
    (fin : ∀ ys nw, Inv items.length ys nw → Fin ys nw) : CompRest prog w A h₀ L m env elt x scope cl s S P Fin items.length 0 [] news := by
  have key : ∀ (j i : Nat) (ys : List Value) (nw : List (Addr × Obj)), i + j = items.length → ys.length = i → Inv i ys nw → CompRest prog w A h₀ L m env elt x scope cl s S P Fin j i ys nw := by
    intro j
    induction j with
    | zero =>
      intro i ys nw hi _ hy
      rw [show i = items.length by omega] at hy
      exact fin ys nw hy
    | succ j ih =>
      intro i ys nw hi hl hy v I oI C oC D m₂ h tk E' hv hC hx F N off ne
      obtain ⟨a, ha, hr⟩ := hP i v hv
      refine wpAny_mono (turn i a v nw I oI C oC D m₂ ys h tk E' ha hr hl hy hC hx F N off ne) (fun y s₂ hq => ?_) fun _ _ e => e
      obtain ⟨h', tk', nw', e, F', N', off', hS, ho⟩ := hq
      exact ⟨h', tk', nw', e, F', N', off', hS, ih (i + 1) _ _ (by omega) (by simp [hl]) ho⟩
  exact key items.length 0 [] news (by omega) rfl h0
end
theorem newsUp' {h₀ h : Heap} {L : Addr} {a : Addr × Obj} {own r : List (Addr × Obj)} (N : News h₀ L h (own ++ a :: r)) : News h₀ L h (a :: (own ++ r)) := News.sub N (by
  intro q hq
  rcases List.mem_cons.mp hq with rfl | hq
  · exact List.mem_append_right _ (.head _)
  rcases List.mem_append.mp hq with hq | hq
  · exact List.mem_append_left _ hq
  · exact List.mem_append_right _ (.tail _ hq))
theorem off1_mem {D : Addr} : ∀ {l : List (Addr × Obj)}, LCg.Off1 D l → ∀ q ∈ l, q.1 ≠ D
  | [], _, _, h => nomatch h
  | _ :: _, h, q, hq => by
    rcases List.mem_cons.mp hq with rfl | hq
    · exact h.1
    · exact off1_mem h.2 q hq
theorem ofS_apos' : Str.ofString "'" = ⟨#[39]⟩ := by decide
theorem newsAB {h₀ h : Heap} {L : Addr} {a b c : Addr × Obj} {r : List (Addr × Obj)} (N : News h₀ L h (a :: b :: c :: r)) : News h₀ L h (a :: ([b] ++ r)) := News.sub N (by
  intro q hq
  rcases List.mem_cons.mp hq with rfl | hq
  · exact .head _
  rcases List.mem_cons.mp hq with rfl | hq
  · exact .tail _ (.head _)
  · exact .tail _ (.tail _ (.tail _ hq)))
theorem compEnd_new {h₀ : Heap} {L I C D : Addr} {m : Str → Option Value} {s₁ : Shared} {oI oC oD : Obj} {S : List (Addr × Obj) → Prop} {rest : Value → List (Addr × Obj) → Prop} {y : Value} {h' : Heap} {tk : Nat} {T : Addr × Obj} {nw : List (Addr × Obj)}
    (F : Fr h₀ L h' m) (N : News h₀ L h' (T :: (I, oI) :: (C, oC) :: (D, oD) :: nw)) (off : LCg.Off3 I C D (T :: nw)) (hS : S (T :: nw)) (r : rest y (T :: nw)) :
    LCg.CompEnd h₀ L m s₁ I oI C oC D oD S rest y { s₁ with heap := h', toks := tk } := LCg.CompEnd.intro F N (T :: nw) (by
  intro q hq
  rcases List.mem_cons.mp hq with rfl | hq
  · exact .tail _ (.head _)
  rcases List.mem_cons.mp hq with rfl | hq
  · exact .tail _ (.tail _ (.head _))
  rcases List.mem_cons.mp hq with rfl | hq
  · exact .tail _ (.tail _ (.tail _ (.head _)))
  rcases List.mem_cons.mp hq with rfl | hq
  · exact .head _
  · exact .tail _ (.tail _ (.tail _ (.tail _ hq)))) off hS r
section
open LCg
variable {prog : Program} {w : World} {A : Around} {E : Value → Shared → Prop} {s : Shared} {h₀ : Heap} {L : Addr} {m : Str → Option Value} {env : Env}
theorem asg_back {y : Str} {py : Pos} {Q : Flow → Shared → Prop} {s₂ : Shared} {Ev : Value → Shared → Prop} {D C : Addr} {h : Heap} {tk : Nat} {ys : List Value} {news' : List (Addr × Obj)} {m' : Str → Option Value}
    (hy : env.kindOf y = some .local) (hp : (env.scope.kind == .class || (env.scope.kind == .module && env.locals != env.globals)) = false)
    (F' : Fr h₀ env.locals h m) (N' : News h₀ env.locals h ((D, lst ys) :: news')) (o1 : Off1 D news') (hn : h.Ns C m') (hC₀ : h₀.get? C = none) (hCL : C ≠ env.locals) (hCD : C ≠ D) (offC : ∀ p ∈ news', p.1 ≠ C) (fin : FinA h₀ env.locals m s₂ y Q ys news')
    {K : Unit → Shared → Prop} (hK : ∀ h₂ tk₂, h₂.Ns C m' → (∀ h'', Heap.SameBut C h₂ h'' → Q .next { s₂ with heap := h'', toks := tk₂ }) → K () { s₂ with heap := h₂, toks := tk₂ }) :
    wpAny (model prog w) A (assign (.Name y py) env (.ref D)) K Ev { s₂ with heap := h, toks := tk } := by
  refine wpAny_assign_Name (wpAny_storeName_local hy F'.ns (fun h₂ hn₂ hs₂ => ?_) hp)
  refine hK h₂ _ (hn.sameBut hs₂ hCL) fun h'' hs'' => fin D h'' _ ((F'.set hn₂ hs₂).change hs'' hCL hC₀) (fun p hq => ?_) o1
  have z : h₂.get? p.1 = some p.2 := hs₂.extBut _ _ (N' p hq).2.1 (N' p hq).1
  refine ⟨hs''.extBut _ _ ?_ z, (N' p hq).2⟩
  rcases List.mem_cons.mp hq with rfl | hq
  · exact Ne.symm hCD
  · exact offC p hq
/-- a name is given a comprehension over a text -/
theorem Assign_ListComp_tx {elt iter : Expr} {x y : Str} {px py : Pos} {scope : Scope} {cl : List (Str × Addr)} {pos spos : Pos} {Q : Flow → Shared → Prop} (_F₀ : Fr h₀ L s.heap m) (hLe : env.locals = L)
    (hsw : swapsWith (.ListComp elt [⟨.Name x px, iter, [], 0⟩] scope pos) (some (.Name y py)) spos.line env = pure true)
    (hclos : closureFor scope env = pure cl) (hcell : ∀ z ∈ scope.names, z.2 ≠ .cell) (hkind : scope.kind = .function)
    (hnames : ∀ z ∈ scope.names, z.2 = .local → scope.names.lookup z.1 = some .local) (hx : scope.names.lookup x = some .local)
    (hy : env.kindOf y = some .local) (hp : (env.scope.kind == .class || (env.scope.kind == .module && env.locals != env.globals)) = false)
    (h : wpAny (model prog w) A (eval iter env) (TxSrc prog w A h₀ L m env elt x scope cl (fun s₂ => FinA h₀ L m s₂ y Q)) E s)
    (hs : ∀ x, foldedSetIterable iter env x = pure x := by intro _; rfl) :
    wpAny (model prog w) A (exec (.Assign [.Name y py] (.ListComp elt [⟨.Name x px, iter, [], 0⟩] scope pos) spos) env) Q E s := by
  subst hLe
  rw [exec_Assign_Name_used _ _ _ _ hsw]
  refine wpAny_bind (wpAny_standAt (wpAny_bind ?_))
  show wpAny _ A (do let _ ← comprehension (.ListComp elt [⟨.Name x px, iter, [], 0⟩] scope pos) scope env _ (newList []) false (eval iter env) (some (assign (.Name y py) env))) _ _ s
  refine wpAny_bind (wpAny_mono (wpAny_comprehension_free (use := some (assign (.Name y py) env)) (Q := fun _ s' => Q .next s') rfl hs hclos hkind hnames
    (wpAny_mono h (fun xv s₁ h₁ => ?_) fun _ _ e => e)) (fun _ s' hq => wpAny_pure (wpAny_pure hq)) fun _ _ e => e)
  obtain ⟨y', t, news, rfl, hh, F, N, hsz, R⟩ := h₁
  have hlt : ∀ o, ∀ b ∈ [s₁.heap.objs.size], b < (s₁.heap.push o).objs.size := fun o b hb => by
    rw [List.mem_singleton.mp hb, Heap.size_push]; exact Nat.lt_succ_self _
  cases ha : y'.cps.all (· < 128)
  · refine wpAny_pyIter_wide ha ?_
    refine block_U (Walks.strWide hh s₁.heap.objs.size y' t) hsz strIter_has strIter_st hcell hkind hx ⟨_, Heap.get?_push_size _ rfl, rfl, rfl⟩ (hlt _) (F.push _) (N.grown fun b o e => Heap.get?_push_of_some _ e) (Nat.ne_of_lt F.ns.lt) (next_is_new F) (fun p hp => Nat.ne_of_lt (Heap.lt_size (N p hp).1)) trivial (R _ ⟨_, rfl⟩) ?_
    intro D C h tk m' ys news' F' N' o1 hn hC₀ hD₀ hCL hDL hCD offC fin
    exact asg_back hy hp F' N' o1 hn hC₀ hCL hCD offC fin fun h₂ tk₂ hn₂ hq => ⟨m', hn₂, hq⟩
  · refine wpAny_pyIter_ascii ha ?_
    refine block_U (Walks.strAscii hh s₁.heap.objs.size y' t) hsz strIter_has strIter_st hcell hkind hx ⟨_, Heap.get?_push_size _ rfl, rfl, rfl⟩ (hlt _) (F.push _) (N.grown fun b o e => Heap.get?_push_of_some _ e) (Nat.ne_of_lt F.ns.lt) (next_is_new F) (fun p hp => Nat.ne_of_lt (Heap.lt_size (N p hp).1)) trivial (R _ ⟨_, rfl⟩) ?_
    intro D C h tk m' ys news' F' N' o1 hn hC₀ hD₀ hCL hDL hCD offC fin
    exact asg_back hy hp F' N' o1 hn hC₀ hCL hCD offC fin fun h₂ tk₂ hn₂ hq => ⟨m', hn₂, hq⟩
end
end
section
theorem inner_len (t : Nat) (ps : List (Nat × Nat)) : (ps.flatMap (inner t)).length ≤ 5 * ps.length := by
  induction ps with
  | nil => simp
  | cons p r ih =>
    have h : (inner t p).length ≤ 5 := by unfold inner; split <;> simp
    rw [List.flatMap_cons, List.length_append, List.length_cons]; omega
theorem safe_b {w : World} {p : Program} {loose : List Str} {mean : ExcName → Option Value} {mg mb : Str → Option Value}
    {dp un : Nat} {gd : Option (List Code)} {cn : Str} {cs : Scope} {a : Addr} {ccd : Value} {cl : List (Str × Addr)} {outer : List Env} {A₀ : Around} {base h₀ : Heap} {L : Addr} {m : Str → Option Value} {s : Shared} {Q E : Value → Shared → Prop}
    {news : List (Addr × Obj)} {x : Str} {t : Tok} {b : Bool}
    (B : Below A₀ base outer h₀) (F : Fr h₀ L s.heap m) (X : (pre.heap_1 w.params).In h₀) (N : News h₀ L s.heap news) (T : Top p loose mean mg mb h₀)
    (hk : cs.kind = .function) (hl : x.length ≤ 1000000) (hok : PyData.strOk x = true) (hdp : dp + 8 < recursionLimit) (hun : un + 100 < cLine) (hb : isSafe x.cps.toList = b)
    (hret : ∀ h' tk', Fr h₀ L h' m → News h₀ L h' news → Q (.bool b) { s with heap := h', toks := tk' }) :
    wpAny (model Challenge.rw_dn0059_07.row.prog w) (ktrTop dp un gd cn cs L a ccd cl outer) (call (.ref 772) [.str x t]) Q E s :=
  safe_ok B F X N T hk hl hok hdp hun (by rw [hb]; exact hret)
theorem ofS_dqt : Str.ofString "\"" = ⟨#[34]⟩ := by decide
theorem newsX5 {h₀ h : Heap} {L : Addr} {e d5 d4 d3 d2 d1 t i : Addr × Obj} {own tn r : List (Addr × Obj)} (N : News h₀ L h (e :: d5 :: d4 :: d3 :: d2 :: d1 :: t :: i :: (own ++ (tn ++ r)))) :
    News h₀ L h (own ++ i :: ((d1 :: d2 :: d3 :: d4 :: d5 :: tn) ++ r)) := News.sub N (by
  intro q hq
  simp only [List.mem_append, List.mem_cons] at hq ⊢
  rcases hq with h | h | (h | h | h | h | h | h) | h <;> simp [h])
theorem newsX1 {h₀ h : Heap} {L : Addr} {d t i : Addr × Obj} {own tn r : List (Addr × Obj)} (N : News h₀ L h (d :: t :: i :: (own ++ (tn ++ r)))) :
    News h₀ L h (own ++ i :: ((d :: tn) ++ r)) := News.sub N (by
  intro q hq
  simp only [List.mem_append, List.mem_cons] at hq ⊢
  rcases hq with h | h | (h | h) | h <;> simp [h])
theorem inner_yes {t d : Nat} (h : d + t = 0) : inner t (39, d) = [(39, 0), (34, 0), (39, 0), (34, 0), (39, 0)] := by unfold inner; rw [if_pos ⟨rfl, h⟩]
theorem inner_no {t d c : Nat} (h : ¬ (c = 39 ∧ d + t = 0)) : inner t (c, d) = [(c, d + t)] := by unfold inner; rw [if_neg h]
theorem flat_snoc {t q : Nat} {p : Nat × Nat} {l : List (Nat × Nat)} (h : l[q]? = some p) : (39, 0) :: ((l.take (q + 1)).flatMap (inner t)) = ((39, 0) :: (l.take q).flatMap (inner t)) ++ inner t p := by
  rw [List.take_add_one, h, List.flatMap_append]
  simp
theorem new_off {D' I D : Addr} {oI oD : Obj} {own r : List (Addr × Obj)} (hI : (I, oI) ∈ own) (hD : (D, oD) ∈ own) (lt : AllLt D' (own ++ r)) : D' ∉ [I, D] := by
  intro h
  have h1 := allLt_to lt _ (List.mem_append_left _ hI)
  have h2 := allLt_to lt _ (List.mem_append_left _ hD)
  dsimp only at h1 h2
  rcases List.mem_cons.mp h with e | h
  · exact absurd h1 (e ▸ Nat.lt_irrefl _)
  · exact absurd h2 (List.mem_singleton.mp h ▸ Nat.lt_irrefl _)
theorem news_lt {h₀ h : Heap} {L : Addr} {l : List (Addr × Obj)} (N : News h₀ L h l) : ∀ q ∈ l, @LT.lt Nat _ q.1 h.objs.size := fun q hq => Heap.lt_size (N q hq).1
theorem newsAf {h₀ h : Heap} {L : Addr} {p e t i : Addr × Obj} {own tn tups r : List (Addr × Obj)} (N : News h₀ L h (p :: e :: t :: i :: (tn ++ (own ++ (tups ++ r))))) :
    News h₀ L h (own ++ p :: ((t :: tn) ++ r)) := News.sub N (by
  intro q hq
  simp only [List.mem_append, List.mem_cons] at hq ⊢
  rcases hq with h | h | (h | h) | h <;> simp [h])
theorem pairs_snoc {l ts : List Nat} {i t : Nat} (h : ts[i]? = some t) : pairs l (ts.take (i + 1)) = ((39, 0) :: (pairs l (ts.take i)).flatMap (inner t)) ++ [(39, 0)] := by
  unfold pairs
  rw [List.take_add_one, h]
  show List.foldl _ _ (ts.take i ++ [t]) = _
  rw [List.foldl_append]
  rfl
def NameTab (prog : Program) (w : World) (S : Addr) (o : Obj) : Prop := (S == sysModules) = false ∧ ∃ kvs D, o.IsDictOf (PySem.strKind prog w) kvs ∧ PyProof.V.FlatPairs PyData.str kvs D ∧
  ∀ c, Spec.lookup (.str ⟨#[c]⟩) D = if special c then some (PyData.str (ofL (nm5 c))) else none
theorem in_name {prog : Program} {w : World} {A : Around} {h₀ : Heap} {L : Addr} {s : Shared} {Q E : Value → Shared → Prop} {news : List (Addr × Obj)} {S : Addr} {o : Obj} {c : Nat} {t : Tok} {b : Bool}
    (N : News h₀ L s.heap news) (hm : (S, o) ∈ news) (hS : NameTab prog w S o) (hc : special c = b) (k : Q (.bool b) { s with toks := s.toks + 1 }) :
    wpAny (model prog w) A (compareOp .In (.str ⟨#[c]⟩ t) (.ref S)) Q E s := by
  obtain ⟨lo, kvs, D, hd, hf, hz⟩ := hS
  refine in_strTab (TabAt.ofNews N hm lo hd hf) ?_
  rw [hz, hc]
  cases b <;> exact k
theorem item_name {prog : Program} {w : World} {A : Around} {h₀ : Heap} {L : Addr} {s : Shared} {Q E : Value → Shared → Prop} {news : List (Addr × Obj)} {S : Addr} {o : Obj} {c : Nat} {t : Tok} {value slice : Expr}
    (N : News h₀ L s.heap news) (hm : (S, o) ∈ news) (hS : NameTab prog w S o) (hc : special c = true) (k : ∀ t', Q (.str (ofL (nm5 c)) t') { s with toks := s.toks + 1 })
    (hs : subscripted slice false (.ref S) (.str ⟨#[c]⟩ t) = operate [.ref S, .str ⟨#[c]⟩ t] (getItem (.ref S) (.str ⟨#[c]⟩ t)) := by with_unfolding_all rfl) (hg : ∀ r, letTemporaryGo value (.ref S) r = pure () := by intro _; with_unfolding_all rfl) :
    wpAny (model prog w) A (subscriptTail value slice (.ref S) (.str ⟨#[c]⟩ t)) Q E s := by
  obtain ⟨lo, kvs, D, hd, hf, hz⟩ := hS
  refine item_strTab (TabAt.ofNews N hm lo hd hf) (by rw [hz, hc]; rfl) (fun v hv => ?_) hs hg
  obtain ⟨t', rfl⟩ := hv.str_inv
  exact k t'
theorem same_s'' (a b : Str) : PySem.Spec.same (.str a) (.str b) = decide (a = b) := by
  simp only [PySem.Spec.same]
  by_cases h : a = b <;> simp [h]
theorem one_ne' {c d : Nat} : (Str.mk #[d] = Str.mk #[c]) ↔ d = c := by
  constructor
  · intro h
    have := congrArg (fun x : Str => x.cps.toList) h
    simpa using this
  · rintro rfl; rfl
theorem lkN {a1 b1 a2 b2 a3 b3 a4 b4 a5 b5 : Tok} (c : Nat) : Spec.lookup (PyData.str ⟨#[c]⟩) (strData [(.str (Str.ofString "&") a1, .str (Str.ofString "amp;") b1), (.str (Str.ofString "<") a2, .str (Str.ofString "lt;") b2), (.str (Str.ofString ">") a3, .str (Str.ofString "gt;") b3),
    (.str (Str.ofString "\"") a4, .str (Str.ofString "quot;") b4), (.str (Str.ofString "'") a5, .str (Str.ofString "#x27;") b5)]) = if special c then some (PyData.str (ofL (nm5 c))) else none := by
  simp only [strData, Spec.lookup, same_s'', show Str.ofString "&" = ⟨#[38]⟩ by decide, show Str.ofString "<" = ⟨#[60]⟩ by decide, show Str.ofString ">" = ⟨#[62]⟩ by decide,
    show Str.ofString "\"" = ⟨#[34]⟩ by decide, show Str.ofString "'" = ⟨#[39]⟩ by decide, one_ne', decide_eq_true_eq]
  unfold nm5 special
  by_cases h1 : c = 38; · subst h1; rfl
  by_cases h2 : c = 60; · subst h2; rfl
  by_cases h3 : c = 62; · subst h3; rfl
  by_cases h4 : c = 34; · subst h4; rfl
  by_cases h5 : c = 39; · subst h5; rfl
  have g1 := fun e => h1 (Eq.symm e)
  have g2 := fun e => h2 (Eq.symm e)
  have g3 := fun e => h3 (Eq.symm e)
  have g4 := fun e => h4 (Eq.symm e)
  have g5 := fun e => h5 (Eq.symm e)
  rw [if_neg g1, if_neg g2, if_neg g3, if_neg g4, if_neg g5]
  simp [h1, h2, h3, h4, h5]
theorem rep_fold (a : Array Nat) : ∀ (n : Nat) (b : Array Nat), ((List.replicate n a).foldl (· ++ ·) b).toList = b.toList ++ (List.replicate n a.toList).flatten
  | 0, b => by simp
  | n + 1, b => by
    rw [List.replicate_succ, List.foldl_cons, rep_fold a n, List.replicate_succ, List.flatten_cons]
    simp
theorem mul_amps (n : Nat) : Txt.mul (Str.ofString "amp;") (n : Int) = ofL (amps n) := by
  have e : Str.ofString "amp;" = ofL [97, 109, 112, 59] := by decide
  rw [e]
  unfold Txt.mul
  split
  · have : n = 0 := by omega
    subst this; rfl
  · split
    · rename_i h1 h
      have : n = 1 := by
        simp only [Bool.or_eq_true, beq_iff_eq] at h
        rcases h with h | h
        · omega
        · exact absurd h (by decide)
      subst this; rfl
    · refine Str_ext ?_
      show ((List.replicate (n : Int).toNat (ofL [97, 109, 112, 59]).cps).foldl (· ++ ·) #[]).toList = _
      rw [rep_fold]
      rfl
theorem mul_amp {prog : Program} {w : World} {A : Around} {s : Shared} {Q E : Value → Shared → Prop} {t u : Tok} {i : Int} (n : Nat) (hi : i = (n : Int)) (hn : n ≤ 100) (k : ∀ t' k, Q (.str (ofL (amps n)) t') { s with toks := k }) :
    wpAny (model prog w) A (binaryOp .Mult (.str (Str.ofString "amp;") t) (.int i u)) Q E s := by
  subst hi
  rw [← mul_amps] at k
  exact SB.mul (mulOk_of 4 100 (by decide) (by omega) (by omega) (by decide) (by decide)) k
theorem amps_len (n : Nat) : (amps n).length = 4 * n := by
  unfold amps
  rw [List.length_flatten, List.map_replicate, List.sum_replicate_nat]
  simp; omega
theorem nm5_len (c : Nat) : (nm5 c).length ≤ 5 := by unfold nm5; (repeat' split) <;> simp
theorem newsF0 {h₀ h : Heap} {L : Addr} {g n p : Addr × Obj} {r : List (Addr × Obj)} (N : News h₀ L h (g :: n :: p :: r)) : News h₀ L h (g :: n :: r) := News.sub N (by
  intro q hq
  simp only [List.mem_cons] at hq ⊢
  rcases hq with h | h | h <;> simp [h])
theorem newsG {h₀ h : Heap} {L : Addr} {t g n : Addr × Obj} {own r : List (Addr × Obj)} (N : News h₀ L h (t :: g :: n :: (own ++ r))) : News h₀ L h (own ++ g :: n :: r) := News.sub N (by
  intro q hq
  simp only [List.mem_append, List.mem_cons] at hq ⊢
  rcases hq with h | h | h | h <;> simp [h])
theorem rd_yes {o c d : Nat} (h : 0 < d + o) (hs : special c = true) : rd o (c, d) = 38 :: (amps (d + o - 1) ++ nm5 c) := by unfold rd; rw [if_pos ⟨h, hs⟩]
theorem rd_no {o c d : Nat} (h : ¬ (0 < d + o ∧ special c = true)) : rd o (c, d) = [c] := by unfold rd; rw [if_neg h]
theorem ofS_amp1 : Str.ofString "&" = ofL [38] := by decide
theorem due_not {l ts : List Nat} {o : Nat} (h : isSafe l = false) : due l ts o = R o (pairs l ts) := by unfold due; rw [if_neg (by rw [h]; decide)]
theorem sum_rd (o : Nat) : ∀ ps : List (Nat × Nat), ((ps.map fun p => ofL (rd o p)).map (·.length)).sum = (R o ps).length
  | [] => rfl
  | p :: r => by
    have ih := sum_rd o r
    unfold R at ih ⊢
    rw [List.map_cons, List.map_cons, List.sum_cons, ih, List.flatMap_cons, List.length_append]; rfl
theorem join_rd (o : Nat) (ps : List (Nat × Nat)) : Txt.join (Str.ofString "") (ps.map fun p => ofL (rd o p)) = ofL (R o ps) := by
  have e : (ps.map fun p => ofL (rd o p)) = (ps.map (rd o)).map ofL := by rw [List.map_map]; rfl
  rw [e, ofS_nil, joinT_ofL, joinL_nil]
  rfl
theorem due_ok {w : World} {p : Program} {loose : List Str} {mean : ExcName → Option Value} {mg mb : Str → Option Value}
    {dp un : Nat} {gd : Option (List Code)} {cn : Str} {cs : Scope} {a : Addr} {ccd : Value} {cl : List (Str × Addr)} {outer : List Env} {A₀ : Around} {base h₀ : Heap} {L : Addr} {m : Str → Option Value} {s : Shared} {Q E : Value → Shared → Prop}
    {rest : List (Addr × Obj)} {Lv : Addr} {ls : List Value} {nn : Nat} {ts : List Nat} {x : Str} {t to : Tok} {o : Nat}
    (B : Below A₀ base outer h₀) (F : Fr h₀ L s.heap m) (X : (pre.heap_1 w.params).In h₀) (N : News h₀ L s.heap ((Lv, listOf ls.toArray nn) :: rest)) (T : Top p loose mean mg mb h₀)
    (hk : cs.kind = .function) (hi : IntsAre ls (ts.map (fun (z : Nat) => (z : Int)))) (ht : ∀ z ∈ ts, z ≤ 2) (hl : ts.length ≤ 4 ∧ x.length ≤ 24 ∨ ts.length ≤ 2 ∧ x.length ≤ 80) (ho : o ≤ 2) (hok : PyData.strOk x = true)
    (hdp : dp + 12 < recursionLimit) (hun : un + 200 < cLine)
    (hret : ∀ t' h' tk', Fr h₀ L h' m → News h₀ L h' ((Lv, listOf ls.toArray nn) :: rest) → Q (.str (ofL (due x.cps.toList ts o)) t') { s with heap := h', toks := tk' }) :
    wpAny (model Challenge.rw_dn0059_07.row.prog w) (ktrTop dp un gd cn cs L a ccd cl outer) (call (.ref 777) [.str x t, .ref Lv, .int (o : Int) to]) Q E s := by
  w_on
  k_with_none
  k_with "eval ListComp" => (k_dflt (refine ListComp_tx (by k_asm) (by with_unfolding_all rfl) (by decide) (by rfl) (by decide) (by rfl) ?_))
  k_with "exec Assign cons ListComp" => (k_dflt (refine Assign_ListComp_tx (by k_asm) (by rfl) (by with_unfolding_all rfl) (by rfl) (by decide) (by rfl) (by decide) (by rfl) (by rfl) (by rfl) ?_))
  k_with "TxSrc" => (refine stop_intro ?_)
  k_with "exec For" => (refine for_mine ?_)
  k_with "exec For Name Name cons nil" => (k_dflt (refine for_mine ?_))
  k_with "exec For Name Subscript cons nil" => (k_dflt (refine for_mine ?_))
  k_with "exec For Name Call cons nil" => (k_dflt (refine for_mine ?_))
  k_with "exec For Tuple Name cons nil" => (k_dflt (refine for_mine ?_))
  k_with "pyIter ref" => (refine stop_intro ?_)
  k_with "call builtin:str.join" => (refine stop_intro ?_)
  k_with "call ref" => ((with_reducible show wpAny _ _ (call (Value.ref 772) _ _) _ _ _); k_dflt ( (refine' safe_b ?k1 ?k2 ?k3 ?k4 ?k5 ?k6 ?k7 ?k8 ?k9 ?k10 ?k11 ?_; (case k1 => k_asm); (case k2 => k_asm); (case k3 => k_asm); (case k4 => k_asm); (case k5 => k_asm); (case k6 => exact rfl); (case k7 => assumption); (case k8 => assumption); (case k9 => ktr_room); (case k10 => ktr_units); (case k11 => assumption); intro zh' ztk' zF' zN'; (try k_sweep))))
  k_with "compareOp Eq str str" => (refine eq_one (by assumption) ?_)
  k_with "getMethod ref" => (refine stop_intro ?_)
  k_with "call builtin:list.extend" => (refine stop_intro ?_)
  k_with "call builtin:list.append" => (refine stop_intro ?_)
  k_with "binaryOp Add ref ref" => (refine stop_intro ?_)
  k_with "compareOp In str ref" => (refine stop_intro ?_)
  k_with "subscriptTail Name Name ref str" => (refine stop_intro ?_)
  k_with "binaryOp Mult str int" => (refine stop_intro ?_)
  k_with "binaryOp Add str str" => (refine add_str (hsz := ?hsz) ?_; (case hsz => (rw [sizeLine_eq]; omega)); intro _ _)
  k_with "my append" => ((refine Stop.out ?_); (with_reducible rename News _ _ _ _ => znN); (refine kl_method znN (.tail _ (.head _)) PySem.F.slot_list_append PySem.F.type_list_append ?_); dsimp only; (with_reducible refine callWith_method1 (he := ?he) (hplain := ?hp) ?_); (case he => rfl); (case hp => rfl); k_steps; (refine Stop.out ?_); (try simp only [List.cons_append, List.nil_append]); (refine append_K (by k_asm) (by k_asm) (.tail (by assumption) (.head (by assumption))) ?_ (by rw [List.size_toArray]; assumption)); intro zh' zF' zN'; k_steps)
  revert X; k_fill; intro X
  have hxl : x.length ≤ 1000000 := by omega
  refine wpAny_call ?_
  k_dflt (walk_at "my enter")
  cases hsf : isSafe x.cps.toList
  · k_steps
    refine Stop.out ?_
    rename News _ _ _ _ => NN; rename Fr _ _ _ _ => FF
    refine ⟨x, t, _, rfl, rfl, FF, NN, by rw [sizeLine_eq]; show x.length ≤ _; omega, ?_⟩
    rintro s₂ ⟨hz, rfl⟩
    rw [show x.cps.size = x.cps.toList.length from (Array.length_toList).symm]
    refine rest_foldN (items := x.cps.toList) (rel := fun c v => ∃ u, v = .str ⟨#[c]⟩ u) (fun i ys nw => ∃ tups, nw = tups ++ ((Lv, listOf ls.toArray nn) :: rest) ∧ PA tups ys ((x.cps.toList.take i).map fun c => (c, 0))) ⟨[], rfl, .nil⟩ ?_ ?_ ?_
    · rintro i v ⟨c, u, hc, rfl⟩
      exact ⟨c, by rw [Array.getElem?_toList]; exact hc, u, rfl⟩
    · clear FF NN
      rintro i c v nw I oI C oC D m₂ ys h tk E' hc ⟨u, rfl⟩ hyl ⟨tups, rfl, hpa⟩ hC hx F₁ N₁ off ⟨n1, n2, n3⟩
      k_steps
      rename News _ _ _ _ => NN; rename Fr _ _ _ _ => FF
      rename _ ∧ _ ∧ _ ∧ AllLt _ _ => hlt
      refine compEnd_new FF NN ⟨⟨Nat.ne_of_gt hlt.1, Nat.ne_of_gt hlt.2.1, Nat.ne_of_gt hlt.2.2.1⟩, off⟩ trivial ⟨_ :: tups, rfl, ?_⟩
      rw [List.take_add_one, hc, List.map_append]
      refine PA.append (.cons (p := (c, 0)) ?_ .nil) (hpa.mono fun q hq => .tail _ hq)
      exact ⟨_, _, _, rfl, .head _⟩
    · clear FF NN
      rintro ys nw ⟨tups, rfl, hpa⟩ D h tk F₁ N₁ o1
      rw [List.take_length] at hpa
      k_steps
      refine Stop.out ?_
      rename News _ _ _ _ => NN; rename Fr _ _ _ _ => FF
      refine iter_name2 rfl (NN.isList (.tail _ (List.mem_append_right _ (.head _)))) (NN _ (.tail _ (List.mem_append_right _ (.head _)))).2.1 rfl rfl FF NN (by passes_own)
        (fun i m₁ news₁ => ∃ P us k tups, m₁ (Str.ofString "pairs") = some (.ref P) ∧ m₁ (Str.ofString "outer") = some (.int (o : Int) to) ∧ news₁ = (P, listOf us.toArray k) :: (tups ++ ((Lv, listOf ls.toArray nn) :: rest)) ∧
          (∀ q ∈ tups ++ ((Lv, listOf ls.toArray nn) :: rest), q.1 ≠ P) ∧ PA tups us (pairs x.cps.toList (ts.take i)))
        ⟨_, ys, _, tups, rfl, rfl, rfl, off1_mem o1, hpa⟩ ?_ ?_
      · clear NN FF hpa
        rintro i v m₁ news₁ h₁ tk₁ own I htk hv ⟨P, us, k, tups, e1, e2, rfl, hP, hpa⟩ ⟨oI, hoI⟩ off hsub F₁ N₁
        obtain ⟨z, tz, rfl, hz⟩ := hi.at i v hv
        obtain ⟨tm, htm, rfl⟩ : ∃ tm : Nat, ts[i]? = some tm ∧ (tm : Int) = z := by
          rw [List.getElem?_map] at hz
          cases hpi : ts[i]? with
          | none => rw [hpi] at hz; cases hz
          | some q => rw [hpi] at hz; exact ⟨q, rfl, Option.some.inj hz⟩
        have F₂ := fr_over [(Str.ofString "times", .int (tm : Int) tz), (Str.ofString "pairs", .ref P), (Str.ofString "outer", .int (o : Int) to)] F₁ (by
          intro q hq
          simp only [List.mem_cons, List.not_mem_nil, or_false] at hq
          rcases hq with rfl | rfl | rfl
          · rfl
          · exact (if_neg (show ¬ Str.ofString "pairs" = Str.ofString "times" by decide)).trans e1
          · exact (if_neg (show ¬ Str.ofString "outer" = Str.ofString "times" by decide)).trans e2)
        have N₂ := newsUp' N₁
        clear F₁ N₁ e1 e2
        k_steps
        refine Stop.out ?_
        rename News _ _ _ _ => NN; rename Fr _ _ _ _ => FF
        simp only [ofS_apos'] at NN
        rename _ ∧ _ ∧ AllLt _ _ => hlt
        rename _ ∧ AllLt _ _ => hlt0
        have oP : ∀ q ∈ own ++ (tups ++ ((Lv, listOf ls.toArray nn) :: rest)), q.1 ≠ P := fun q hq e => by
          rcases List.mem_append.mp hq with hq | hq
          · rcases hsub q hq with h | h
            · exact off _ (.head _) (e.symm.trans h)
            · exact hP _ (List.mem_append_right _ (.head _)) (h.symm.trans e)
          · exact hP q hq e
        refine iter_tup2 rfl (NN.isList (.tail _ (.tail _ (.head _)))) (NN _ (.tail _ (.tail _ (.head _)))).2.1 (NN _ (.tail _ (.tail _ (.head _)))).2.2 hpa.refs FF (newsAB NN) ?_ (by passes_own)
          (fun q m₂ news₂ => ∃ In us' k' tn, m₂ (Str.ofString "inner") = some (.ref In) ∧ m₂ (Str.ofString "times") = some (.int (tm : Int) tz) ∧ m₂ (Str.ofString "outer") = some (.int (o : Int) to) ∧
            news₂ = (In, listOf us'.toArray k') :: (tn ++ (own ++ (tups ++ ((Lv, listOf ls.toArray nn) :: rest)))) ∧ (∀ q ∈ tn ++ (own ++ (tups ++ ((Lv, listOf ls.toArray nn) :: rest))), q.1 ≠ In) ∧ (∀ q ∈ tn, @Ne Nat q.1 I) ∧
            PA tn us' ((39, 0) :: ((pairs x.cps.toList (ts.take i)).take q).flatMap (inner tm)))
          ⟨_, [_], _, [_], rfl, rfl, rfl, rfl, ?_, ?_, .cons (p := (39, 0)) ⟨_, _, _, rfl, .head _⟩ .nil⟩ ?_ ?_
        · intro q hq
          rcases List.mem_cons.mp hq with rfl | hq
          · exact Nat.ne_of_gt hlt.2.1
          rcases List.mem_cons.mp hq with rfl | hq
          · exact Nat.ne_of_gt hlt0.1
          · exact oP q hq
        · intro q hq
          rcases List.mem_cons.mp hq with rfl | hq
          · exact Nat.ne_of_lt hlt.1
          · exact Nat.ne_of_lt (allLt_to hlt.2.2 q hq)
        · intro q hq
          rw [List.mem_singleton.mp hq]
          exact Nat.ne_of_gt (allLt_to hlt0.2 _ (List.mem_append_left _ hoI))
        · clear NN FF
          rintro q v m₂ news₂ h₂ tk₂ own₂ I₂ D₂ hv₂ ⟨In, us', k', tn, e1, e2, e3, rfl, hIn, hnI, hpa'⟩ ⟨oI₂, oD₂, hoI₂, hoD₂⟩ off₂ hsub₂ F₃ N₃
          obtain ⟨⟨c, d⟩, hp, T, t1, t2, rfl, hT⟩ := hpa.item hv₂
          have F₄ := fr_over [(Str.ofString "inner", .ref In), (Str.ofString "times", .int (tm : Int) tz), (Str.ofString "outer", .int (o : Int) to)] F₃ (by
            intro q hq
            simp only [List.mem_cons, List.not_mem_nil, or_false] at hq
            rcases hq with rfl | rfl | rfl
            · exact e1
            · exact e2
            · exact e3)
          have hTI : @Ne Nat T In := hIn _ (List.mem_append_right _ (List.mem_append_right _ (List.mem_append_left _ hT)))
          have offI : In ∉ [I₂, D₂] := off₂ _ (.head _)
          have hrI : ∀ q ∈ own₂ ++ (tn ++ (own ++ (tups ++ ((Lv, listOf ls.toArray nn) :: rest)))), q.1 ≠ In := fun q hq e => by
            rcases List.mem_append.mp hq with hq | hq
            · exact offI (e ▸ hsub₂ q hq)
            · exact hIn q hq e
          have N₄ : News _ _ h₂ ((T, pairObj c d t1 t2) :: (In, listOf us'.toArray k') :: (own₂ ++ (tn ++ (own ++ (tups ++ ((Lv, listOf ls.toArray nn) :: rest)))))) := News.sub N₃ (by
            intro q hq
            rcases List.mem_cons.mp hq with rfl | hq
            · exact List.mem_append_right _ (.tail _ (List.mem_append_right _ (List.mem_append_right _ (List.mem_append_left _ hT))))
            rcases List.mem_cons.mp hq with rfl | hq
            · exact List.mem_append_right _ (.head _)
            rcases List.mem_append.mp hq with hq | hq
            · exact List.mem_append_left _ hq
            · exact List.mem_append_right _ (.tail _ hq))
          clear F₃ N₃ e1 e2 e3
          have hpl := hpa'.length
          have hps := (pairs_size (l := x.cps.toList) (ts := ts.take i) (fun z hz => ht z (List.mem_of_mem_take hz)) (by rw [List.length_take]; show _ ∧ x.cps.toList.length ≤ _ ∨ _ ∧ x.cps.toList.length ≤ _; rw [show x.cps.toList.length = x.length from Array.length_toList]; omega)).1
          have hfl := inner_len tm ((pairs x.cps.toList (ts.take i)).take q)
          have hul : us'.length ≤ 100000 := by
            rw [hpl, List.length_cons]
            have := List.length_take_le q (pairs x.cps.toList (ts.take i))
            have h2 : ((pairs x.cps.toList (ts.take i)).take q).length ≤ (pairs x.cps.toList (ts.take i)).length := by rw [List.length_take]; exact Nat.min_le_right _ _
            omega
          have hsz : us'.length ≤ sizeLine := by rw [sizeLine_eq]; omega
          by_cases hc : c = 39
          · subst hc
            have hq39 : isS 39 (Str.ofString "'") = true := by decide +kernel
            k_steps
            · refine Stop.out ?_
              rename News _ _ _ _ => NN; rename Fr _ _ _ _ => FF
              refine kl_method NN (.tail _ (.head _)) PySem.F.slot_list_extend PySem.F.type_list_extend ?_
              dsimp only
              with_reducible refine callWith_method1 (he := ?he) (hplain := ?hp) ?_
              case he => rfl
              case hp => rfl
              k_steps
              refine Stop.out ?_
              rename News _ _ _ _ => NN; rename Fr _ _ _ _ => FF
              rename _ ∧ _ ∧ _ ∧ _ ∧ _ ∧ _ ∧ _ ∧ AllLt _ _ => l6
              rename _ ∧ _ ∧ _ ∧ _ ∧ _ ∧ _ ∧ AllLt _ _ => l5
              rename _ ∧ _ ∧ _ ∧ _ ∧ _ ∧ AllLt _ _ => l4
              rename _ ∧ _ ∧ _ ∧ _ ∧ AllLt _ _ => l3
              rename _ ∧ _ ∧ _ ∧ AllLt _ _ => l2
              rename _ ∧ _ ∧ AllLt _ _ => l1
              dsimp only at NN ⊢
              refine kl_extend FF NN (.head _) rfl (by show (5 : Nat) ≠ 0; decide) (.tail (Nat.ne_of_gt l6.2.2.2.2.2.2.1) (.tail (Nat.ne_of_gt l5.2.2.2.2.2.1) (.tail (Nat.ne_of_gt l4.2.2.2.2.1) (.tail (Nat.ne_of_gt l3.2.2.2.1) (.tail (Nat.ne_of_gt l2.2.2.1) (.tail (Nat.ne_of_gt l1.2.1) (.tail hTI (.head hrI)))))))) ?_ hsz ?_ ?_
              · have h1 : us'.toArray.size + 5 ≤ 16777216 := by rw [List.size_toArray]; omega
                show ¬ (!us'.toArray.isEmpty && Builtin.List.listTooLong (us'.toArray.size + 5)) = true
                have h2 : Builtin.List.listTooLong (us'.toArray.size + 5) = false := by
                  unfold Builtin.List.listTooLong
                  rw [sizeLine_eq]
                  exact decide_eq_false (by omega)
                rw [h2]; simp
              · show us'.toArray.size + 5 ≤ _
                rw [sizeLine_eq, List.size_toArray]; omega
              clear NN FF
              intro h' F' N'
              dsimp only at N'
              k_steps
              rename News _ _ _ _ => NN; rename Fr _ _ _ _ => FF
              simp only [ofS_apos', ofS_dqt] at NN
              refine LE.next FF (newsX5 NN) ?_ ⟨In, _, _, _, rfl, rfl, rfl, rfl, ?_, ?_, ?_⟩
              · intro p hp
                rcases List.mem_cons.mp hp with rfl | hp
                · exact offI
                simp only [List.cons_append] at hp
                rcases List.mem_cons.mp hp with rfl | hp
                · exact new_off hoI₂ hoD₂ l1.2.2
                rcases List.mem_cons.mp hp with rfl | hp
                · exact new_off hoI₂ hoD₂ l2.2.2.2
                rcases List.mem_cons.mp hp with rfl | hp
                · exact new_off hoI₂ hoD₂ l3.2.2.2.2
                rcases List.mem_cons.mp hp with rfl | hp
                · exact new_off hoI₂ hoD₂ l4.2.2.2.2.2
                rcases List.mem_cons.mp hp with rfl | hp
                · exact new_off hoI₂ hoD₂ l5.2.2.2.2.2.2
                · exact off₂ _ (.tail _ hp)
              · intro p hp
                simp only [List.cons_append] at hp
                rcases List.mem_cons.mp hp with rfl | hp
                · exact Nat.ne_of_gt l1.2.1
                rcases List.mem_cons.mp hp with rfl | hp
                · exact Nat.ne_of_gt l2.2.2.1
                rcases List.mem_cons.mp hp with rfl | hp
                · exact Nat.ne_of_gt l3.2.2.2.1
                rcases List.mem_cons.mp hp with rfl | hp
                · exact Nat.ne_of_gt l4.2.2.2.2.1
                rcases List.mem_cons.mp hp with rfl | hp
                · exact Nat.ne_of_gt l5.2.2.2.2.2.1
                · exact hIn _ hp
              · intro p hp
                rcases List.mem_cons.mp hp with rfl | hp
                · exact Nat.ne_of_gt (allLt_to l1.2.2 _ (List.mem_append_right _ (List.mem_append_right _ (List.mem_append_left _ hoI))))
                rcases List.mem_cons.mp hp with rfl | hp
                · exact Nat.ne_of_gt (allLt_to l2.2.2.2 _ (List.mem_append_right _ (List.mem_append_right _ (List.mem_append_left _ hoI))))
                rcases List.mem_cons.mp hp with rfl | hp
                · exact Nat.ne_of_gt (allLt_to l3.2.2.2.2 _ (List.mem_append_right _ (List.mem_append_right _ (List.mem_append_left _ hoI))))
                rcases List.mem_cons.mp hp with rfl | hp
                · exact Nat.ne_of_gt (allLt_to l4.2.2.2.2.2 _ (List.mem_append_right _ (List.mem_append_right _ (List.mem_append_left _ hoI))))
                rcases List.mem_cons.mp hp with rfl | hp
                · exact Nat.ne_of_gt (allLt_to l5.2.2.2.2.2.2 _ (List.mem_append_right _ (List.mem_append_right _ (List.mem_append_left _ hoI))))
                · exact hnI _ hp
              · rw [flat_snoc hp, inner_yes (by omega)]
                refine PA.append ?_ (hpa'.mono fun q hq => .tail _ (.tail _ (.tail _ (.tail _ (.tail _ hq)))))
                refine .cons (p := (39, 0)) ⟨_, _, _, rfl, .head _⟩ (.cons (p := (34, 0)) ⟨_, _, _, rfl, .tail _ (.head _)⟩ (.cons (p := (39, 0)) ⟨_, _, _, rfl, .tail _ (.tail _ (.head _))⟩
                  (.cons (p := (34, 0)) ⟨_, _, _, rfl, .tail _ (.tail _ (.tail _ (.head _)))⟩ (.cons (p := (39, 0)) ⟨_, _, _, rfl, .tail _ (.tail _ (.tail _ (.tail _ (.head _))))⟩ .nil))))
            · refine Stop.out ?_
              rename News _ _ _ _ => NN; rename Fr _ _ _ _ => FF
              refine kl_method NN (.tail _ (.head _)) PySem.F.slot_list_append PySem.F.type_list_append ?_
              dsimp only
              with_reducible refine callWith_method1 (he := ?he) (hplain := ?hp) ?_
              case he => rfl
              case hp => rfl
              k_steps
              refine Stop.out ?_
              rename News _ _ _ _ => NN; rename Fr _ _ _ _ => FF
              rename _ ∧ _ ∧ AllLt _ _ => l0
              refine append_K FF NN (.tail (Nat.ne_of_gt l0.2.1) (.tail hTI (.head hrI))) ?_ (by rw [List.size_toArray]; exact hsz)
              intro h' F' N'
              k_steps
              rename News _ _ _ _ => NN; rename Fr _ _ _ _ => FF
              simp only [List.push_toArray, ofS_apos', ← Int.natCast_add] at NN
              refine LE.next FF (newsX1 NN) ?_ ⟨In, _, _, _, rfl, rfl, rfl, rfl, ?_, ?_, ?_⟩
              · intro p hp
                rcases List.mem_cons.mp hp with rfl | hp
                · exact offI
                rcases List.mem_cons.mp hp with rfl | hp
                · exact new_off hoI₂ hoD₂ l0.2.2
                · exact off₂ _ (.tail _ hp)
              · intro p hp
                rcases List.mem_cons.mp hp with rfl | hp
                · exact Nat.ne_of_gt l0.2.1
                · exact hIn _ hp
              · intro p hp
                rcases List.mem_cons.mp hp with rfl | hp
                · exact Nat.ne_of_gt (allLt_to l0.2.2 _ (List.mem_append_right _ (List.mem_append_right _ (List.mem_append_left _ hoI))))
                · exact hnI _ hp
              · rw [flat_snoc hp, inner_no (by omega)]
                exact PA.append (.cons (p := (39, d + tm)) ⟨_, _, _, rfl, .head _⟩ .nil) (hpa'.mono fun q hq => .tail _ hq)
          · have hq39 : isS c (Str.ofString "'") = false := by rw [ofS_apos', isS_iff]; exact decide_eq_false hc
            k_steps
            refine Stop.out ?_
            rename News _ _ _ _ => NN; rename Fr _ _ _ _ => FF
            refine kl_method NN (.tail _ (.head _)) PySem.F.slot_list_append PySem.F.type_list_append ?_
            dsimp only
            with_reducible refine callWith_method1 (he := ?he) (hplain := ?hp) ?_
            case he => rfl
            case hp => rfl
            k_steps
            refine Stop.out ?_
            rename News _ _ _ _ => NN; rename Fr _ _ _ _ => FF
            rename _ ∧ _ ∧ AllLt _ _ => l0
            refine append_K FF NN (.tail (Nat.ne_of_gt l0.2.1) (.tail hTI (.head hrI))) ?_ (by rw [List.size_toArray]; exact hsz)
            intro h' F' N'
            k_steps
            rename News _ _ _ _ => NN; rename Fr _ _ _ _ => FF
            simp only [List.push_toArray, ← Int.natCast_add] at NN
            refine LE.next FF (newsX1 NN) ?_ ⟨In, _, _, _, rfl, rfl, rfl, rfl, ?_, ?_, ?_⟩
            · intro p hp
              rcases List.mem_cons.mp hp with rfl | hp
              · exact offI
              rcases List.mem_cons.mp hp with rfl | hp
              · exact new_off hoI₂ hoD₂ l0.2.2
              · exact off₂ _ (.tail _ hp)
            · intro p hp
              rcases List.mem_cons.mp hp with rfl | hp
              · exact Nat.ne_of_gt l0.2.1
              · exact hIn _ hp
            · intro p hp
              rcases List.mem_cons.mp hp with rfl | hp
              · exact Nat.ne_of_gt (allLt_to l0.2.2 _ (List.mem_append_right _ (List.mem_append_right _ (List.mem_append_left _ hoI))))
              · exact hnI _ hp
            · rw [flat_snoc hp, inner_no (by omega)]
              exact PA.append (.cons (p := (c, d + tm)) ⟨_, _, _, rfl, .head _⟩ .nil) (hpa'.mono fun q hq => .tail _ hq)
        · clear NN FF
          rintro h₂ tk₂ m₂ news₂ F₃ N₃ ⟨In, us', k', tn, e1, e2, e3, rfl, hIn, hnI, hpa'⟩
          have F₄ := fr_over [(Str.ofString "inner", .ref In), (Str.ofString "outer", .int (o : Int) to)] F₃ (by
            intro q hq
            simp only [List.mem_cons, List.not_mem_nil, or_false] at hq
            rcases hq with rfl | rfl
            · exact e1
            · exact e3)
          clear F₃ e1 e2 e3
          have hpl := hpa'.length
          have hps := (pairs_size (l := x.cps.toList) (ts := ts.take i) (fun z hz => ht z (List.mem_of_mem_take hz)) (by rw [List.length_take]; show _ ∧ x.cps.toList.length ≤ _ ∨ _ ∧ x.cps.toList.length ≤ _; rw [show x.cps.toList.length = x.length from Array.length_toList]; omega)).1
          have hfl := inner_len tm ((pairs x.cps.toList (ts.take i)).take us.length)
          have hul : us'.length ≤ 100000 := by
            rw [hpl, List.length_cons]
            have h2 : ((pairs x.cps.toList (ts.take i)).take us.length).length ≤ (pairs x.cps.toList (ts.take i)).length := by rw [List.length_take]; exact Nat.min_le_right _ _
            omega
          dsimp only
          k_steps
          refine Stop.out ?_
          rename News _ _ _ _ => NN; rename Fr _ _ _ _ => FF
          dsimp only at NN ⊢
          rename _ ∧ In < _ ∧ AllLt _ _ => l2
          rename In < _ ∧ AllLt _ _ => l1
          have hlt := news_lt NN
          refine add_lists (ws := [_]) FF NN (NN.isList (.tail _ (.tail _ (.head _)))) (NN.isList (.head _)) ?_ (by rw [sizeLine_eq]; show us'.length + 1 ≤ _; omega)
          clear NN FF
          intro h' F' N'
          k_steps
          rename News _ _ _ _ => NN; rename Fr _ _ _ _ => FF
          simp only [ofS_apos'] at NN
          refine LE.next FF (newsAf NN) ?_ ⟨_, _, _, _, rfl, rfl, rfl, ?_, ?_⟩
          · intro p hp
            rcases List.mem_cons.mp hp with rfl | hp
            · intro h
              exact absurd (hlt _ (.tail _ (.tail _ (.tail _ (List.mem_append_right _ (List.mem_append_left _ hoI)))))) (List.mem_singleton.mp h ▸ Nat.lt_irrefl _)
            rcases List.mem_cons.mp hp with rfl | hp
            · intro h
              exact absurd (allLt_to l1.2 _ (List.mem_append_right _ (List.mem_append_left _ hoI))) (List.mem_singleton.mp h ▸ Nat.lt_irrefl _)
            rcases List.mem_append.mp hp with hp | hp
            · exact fun h => hnI _ hp (List.mem_singleton.mp h)
            · exact fun h => off _ (.tail _ (List.mem_append_right _ hp)) (List.mem_singleton.mp h)
          · intro p hp
            rcases List.mem_cons.mp hp with rfl | hp
            · exact Nat.ne_of_lt (hlt _ (.tail _ (.head _)))
            rcases List.mem_append.mp hp with hp | hp
            · exact Nat.ne_of_lt (hlt _ (.tail _ (.tail _ (.tail _ (List.mem_append_left _ hp)))))
            · exact Nat.ne_of_lt (hlt _ (.tail _ (.tail _ (.tail _ (List.mem_append_right _ (List.mem_append_right _ (List.mem_append_right _ hp)))))))
          · rw [pairs_snoc htm]
            rw [hpa.length, List.take_length] at hpa'
            exact PA.append (.cons (p := (39, 0)) ⟨_, _, _, rfl, .head _⟩ .nil) (hpa'.mono fun q hq => .tail _ hq)
      · clear NN FF
        rintro h₁ tk₁ m₁ news₁ F₁ N₁ ⟨P, us, k, tups, e1, e2, rfl, hP, hpa⟩
        have F₂ := fr_over [(Str.ofString "pairs", .ref P), (Str.ofString "outer", .int (o : Int) to)] F₁ (by
          intro q hq
          simp only [List.mem_cons, List.not_mem_nil, or_false] at hq
          rcases hq with rfl | rfl
          · exact e1
          · exact e2)
        clear F₁ e1 e2
        dsimp only
        k_steps
        refine Stop.out ?_
        rename News _ _ _ _ => NN; rename Fr _ _ _ _ => FF
        rename Obj.IsDictOf _ _ _ => hdo
        rename PyProof.V.FlatPairs _ _ _ => hfp
        rename (_ == sysModules) = false => hlo
        rename _ ∧ P < _ ∧ AllLt _ _ => l2
        rename P < _ ∧ AllLt _ _ => l1
        rw [hi.length, List.length_map, List.take_length] at hpa
        obtain ⟨hps, hpd⟩ := pairs_size (l := x.cps.toList) ht (by show _ ∧ x.cps.toList.length ≤ _ ∨ _ ∧ x.cps.toList.length ≤ _; rw [show x.cps.toList.length = x.length from Array.length_toList]; exact hl)
        refine iter_tup' rfl (NN.isList (.tail _ (.tail _ (.head _)))) (NN _ (.tail _ (.tail _ (.head _)))).2.1 hpa.refs FF (newsF0 NN) ?_ (by passes_own)
          (fun q m₂ news₂ => ∃ S oS Sg us' k', m₂ (Str.ofString "names") = some (.ref S) ∧ m₂ (Str.ofString "signs") = some (.ref Sg) ∧ m₂ (Str.ofString "outer") = some (.int (o : Int) to) ∧ NameTab Challenge.rw_dn0059_07.row.prog w S oS ∧ @Ne Nat S Sg ∧
            news₂ = (Sg, listOf us'.toArray k') :: (S, oS) :: (tups ++ ((Lv, listOf ls.toArray nn) :: rest)) ∧ (∀ q ∈ tups ++ ((Lv, listOf ls.toArray nn) :: rest), q.1 ≠ Sg) ∧
            StrsAre us' (((pairs x.cps.toList ts).take q).map fun p => ofL (rd o p)))
          ⟨_, _, _, [], _, rfl, rfl, rfl, ⟨hlo, _, _, hdo, hfp, fun c => lkN c⟩, Nat.ne_of_lt l2.1, rfl, ?_, .nil⟩ ?_ ?_
        · intro q hq
          rcases List.mem_cons.mp hq with rfl | hq
          · exact Nat.ne_of_gt l2.2.1
          rcases List.mem_cons.mp hq with rfl | hq
          · exact Nat.ne_of_gt l1.1
          · exact hP q hq
        · intro q hq
          exact Nat.ne_of_lt (allLt_to l2.2.2 q hq)
        · clear NN FF
          rintro q v m₂ news₂ h₂ tk₂ own₂ I₂ D₂ hv₂ ⟨S, oS, Sg, us', k', e1, e2, e3, hST, hSS, rfl, hSg, hus⟩ off₂ hsub₂ F₃ N₃
          obtain ⟨⟨c, d⟩, hp, T, t1, t2, rfl, hT⟩ := hpa.item hv₂
          have F₄ := fr_over [(Str.ofString "names", .ref S), (Str.ofString "signs", .ref Sg), (Str.ofString "outer", .int (o : Int) to)] F₃ (by
            intro q hq
            simp only [List.mem_cons, List.not_mem_nil, or_false] at hq
            rcases hq with rfl | rfl | rfl
            · exact e1
            · exact e2
            · exact e3)
          have hTI : @Ne Nat T Sg := hSg _ (List.mem_append_left _ hT)
          have hrI : ∀ q ∈ own₂ ++ (tups ++ ((Lv, listOf ls.toArray nn) :: rest)), q.1 ≠ Sg := fun q hq e => by
            rcases List.mem_append.mp hq with hq | hq
            · exact off₂ _ (.head _) (e ▸ hsub₂ q hq)
            · exact hSg q hq e
          have N₄ : News _ _ h₂ ((T, pairObj c d t1 t2) :: (Sg, listOf us'.toArray k') :: (S, oS) :: (own₂ ++ (tups ++ ((Lv, listOf ls.toArray nn) :: rest)))) := News.sub N₃ (by
            intro q hq
            rcases List.mem_cons.mp hq with rfl | hq
            · exact List.mem_append_right _ (.tail _ (.tail _ (List.mem_append_left _ hT)))
            rcases List.mem_cons.mp hq with rfl | hq
            · exact List.mem_append_right _ (.head _)
            rcases List.mem_cons.mp hq with rfl | hq
            · exact List.mem_append_right _ (.tail _ (.head _))
            rcases List.mem_append.mp hq with hq | hq
            · exact List.mem_append_left _ hq
            · exact List.mem_append_right _ (.tail _ (.tail _ hq)))
          clear F₃ N₃ e1 e2 e3 hdo hfp hlo
          have hd8 := hpd _ (List.mem_of_getElem? hp)
          have hul : us'.length ≤ 100000 := by
            rw [hus.length, List.length_map]
            have h2 : ((pairs x.cps.toList ts).take q).length ≤ (pairs x.cps.toList ts).length := by rw [List.length_take]; exact Nat.min_le_right _ _
            omega
          have hsz : us'.length ≤ sizeLine := by rw [sizeLine_eq]; omega
          have hal := amps_len (d + o - 1)
          have hnl := nm5_len c
          have hal' : (ofL (amps (d + o - 1))).length ≤ 1000 := by rw [ofL_len]; dsimp only at hd8; omega
          have hnl' : (ofL (nm5 c)).length ≤ 5 := hnl
          have hlast : ∀ z t', z = ofL (rd o (c, d)) → StrsAre (us' ++ [.str z t']) (((pairs x.cps.toList ts).take (q + 1)).map fun p => ofL (rd o p)) := by
            rintro z t' rfl
            rw [List.take_add_one, hp, List.map_append]
            exact strs_snoc hus
          dsimp only at hd8
          have hrS : ∀ q ∈ (S, oS) :: (own₂ ++ (tups ++ ((Lv, listOf ls.toArray nn) :: rest))), q.1 ≠ Sg := fun q hq => by
            rcases List.mem_cons.mp hq with rfl | hq
            · exact hSS
            · exact hrI q hq
          have hoff : ∀ us'' k'', ∀ q ∈ (Sg, listOf us'' k'') :: (S, oS) :: (tups ++ ((Lv, listOf ls.toArray nn) :: rest)), q.1 ∉ [I₂, D₂] := by
            intro us'' k'' q hq
            rcases List.mem_cons.mp hq with rfl | hq
            · exact off₂ (Sg, listOf us'.toArray k') (.head _)
            · exact off₂ q (.tail _ hq)
          cases hsp : special c
          · k_steps
            · refine Stop.out ?_
              rename News _ _ _ _ => NN; rename Fr _ _ _ _ => FF
              refine in_name NN (.tail _ (.tail _ (.head _))) hST hsp ?_
              k_steps
              walk_at "my append"
              rename News _ _ _ _ => NN; rename Fr _ _ _ _ => FF
              simp only [List.push_toArray] at NN
              exact LE.next FF (newsG NN) (hoff _ _) ⟨S, oS, Sg, _, _, rfl, rfl, rfl, hST, hSS, rfl, hSg, hlast _ _ (by rw [rd_no (by rw [hsp]; rintro ⟨_, e⟩; cases e)]; rfl)⟩
            · walk_at "my append"
              rename News _ _ _ _ => NN; rename Fr _ _ _ _ => FF
              simp only [List.push_toArray] at NN
              exact LE.next FF (newsG NN) (hoff _ _) ⟨S, oS, Sg, _, _, rfl, rfl, rfl, hST, hSS, rfl, hSg, hlast _ _ (by rw [rd_no (by rw [hsp]; rintro ⟨_, e⟩; cases e)]; rfl)⟩
          · k_steps
            · refine Stop.out ?_
              rename News _ _ _ _ => NN; rename Fr _ _ _ _ => FF
              refine in_name NN (.tail _ (.tail _ (.head _))) hST hsp ?_
              k_steps
              refine Stop.out ?_
              refine mul_amp (d + o - 1) (by omega) (by omega) ?_
              intro ta ka
              have hx1 : (Str.ofString "&").length = 1 := by decide
              have hx2 : (Str.ofString "&" ++ ofL (amps (d + o - 1))).length ≤ 1001 := by rw [Str.length_append]; omega
              k_steps
              refine Stop.out ?_
              rename News _ _ _ _ => NN; rename Fr _ _ _ _ => FF
              refine item_name NN (.tail _ (.tail _ (.head _))) hST hsp ?_
              intro tb
              k_steps
              walk_at "my append"
              rename News _ _ _ _ => NN; rename Fr _ _ _ _ => FF
              simp only [List.push_toArray] at NN
              refine LE.next FF (newsG NN) (hoff _ _) ⟨S, oS, Sg, _, _, rfl, rfl, rfl, hST, hSS, rfl, hSg, hlast _ _ ?_⟩
              rw [rd_yes (by omega) hsp, ofS_amp1, ofL_append, ofL_append]; rfl
            · walk_at "my append"
              rename News _ _ _ _ => NN; rename Fr _ _ _ _ => FF
              simp only [List.push_toArray] at NN
              exact LE.next FF (newsG NN) (hoff _ _) ⟨S, oS, Sg, _, _, rfl, rfl, rfl, hST, hSS, rfl, hSg, hlast _ _ (by rw [rd_no (by omega)]; rfl)⟩
        · clear NN FF
          rintro h₂ tk₂ m₂ news₂ F₃ N₃ ⟨S, oS, Sg, us', k', e1, e2, e3, hST, hSS, rfl, hSg, hus⟩
          have F₂ := fr_over [(Str.ofString "signs", .ref Sg)] F₃ (by
            intro q hq
            rw [List.mem_singleton.mp hq]
            exact e2)
          clear F₃
          rw [hpa.length, List.take_length] at hus
          have hRl : (R o (pairs x.cps.toList ts)).length ≤ 1000000 := by
            have h := R_len (o := o) hpd
            refine Nat.le_trans h (Nat.le_trans (Nat.mul_le_mul (show 4 * (8 + o) + 2 ≤ 42 by omega) hps) (by decide))
          dsimp only
          k_steps
          refine Stop.out ?_
          rename News _ _ _ _ => NN; rename Fr _ _ _ _ => FF
          refine join_list (items := us'.toArray) (ys := (pairs x.cps.toList ts).map fun p => ofL (rd o p)) (NN.isList (.head _)) (by simpa using hus) ?_ ?_
          · rw [sum_rd, show (Str.ofString "").length = 0 from rfl]; omega
          · intro t' k'
            rw [join_rd, ← due_not hsf]
            k_steps
            rename News _ _ _ _ => NN; rename Fr _ _ _ _ => FF
            exact hret _ _ _ FF (News.sub NN fun q hq => .tail _ (.tail _ (List.mem_append_right _ hq)))
  · k_steps
    rename News _ _ _ _ => NN; rename Fr _ _ _ _ => FF
    have e : ofL (due x.cps.toList ts o) = x := by unfold due; rw [if_pos hsf, toL_ofL]
    rw [e] at hret
    exact hret _ _ _ FF NN
end
section
theorem abs_is (z : Int) : (if z < 0 then -z else z) = (z.natAbs : Int) := by split <;> omega
theorem outs_ints {ns : List Int} {ys : List Value} (h : Outs (fun (z : Int) v => ∃ t, v = Value.int (z.natAbs : Int) t) ns ys) : IntsAre ys (ns.map fun z => (z.natAbs : Int)) := by
  induction h with
  | nil => exact .nil
  | snoc _ ho ih =>
    obtain ⟨u, rfl⟩ := ho
    rw [List.map_append]
    exact ih.append (.cons _ _ .nil)
section
variable {prog : Program} {w : World} {A : Around} {E : Value → Shared → Prop} {s : Shared} {env : Env} {h₀ : Heap} {Q : Flow → Shared → Prop} {st : Stmt} {L : Addr}
def CutE (h₀ : Heap) (L : Addr) (J : (Str → Option Value) → List (Addr × Obj) → Prop) (s : Shared) (f : Flow) (s' : Shared) : Prop :=
  f = .next ∧ ∃ h' tk' m' news', s' = { s with heap := h', toks := tk' } ∧ Fr h₀ L h' m' ∧ News h₀ L h' news' ∧ J m' news'
theorem CutE.next {J : (Str → Option Value) → List (Addr × Obj) → Prop} {h' : Heap} {tk' : Nat} {m' : Str → Option Value} {news' : List (Addr × Obj)} (F : Fr h₀ L h' m') (N : News h₀ L h' news') (hJ : J m' news') :
    CutE h₀ L J s .next { s with heap := h', toks := tk' } := ⟨rfl, h', tk', m', news', rfl, F, N, hJ⟩
theorem cut_at {m : Str → Option Value} (_F : Fr h₀ L s.heap m) (J : (Str → Option Value) → List (Addr × Obj) → Prop) (h1 : wpAny (model prog w) A (exec st env) (CutE h₀ L J s) E s)
    (h2 : ∀ h' tk' m' news', Fr h₀ L h' m' → News h₀ L h' news' → J m' news' → Q .next { s with heap := h', toks := tk' }) : wpAny (model prog w) A (exec st env) Q E s := by
  refine wpAny_mono h1 (fun f s' h => ?_) fun _ _ e => e
  obtain ⟨rfl, h', tk', m', news', rfl, F, N, hJ⟩ := h
  exact h2 h' tk' m' news' F N hJ
end
theorem ints_ne {vs : List Value} {zs : List Int} (h : IntsAre vs zs) (hz : zs ≠ []) : ∃ z t vs' zs', vs = .int z t :: vs' ∧ zs = z :: zs' ∧ IntsAre vs' zs' := by
  cases h with
  | nil => exact absurd rfl hz
  | cons z t h => exact ⟨_, _, _, _, rfl, rfl, h⟩
theorem told_len' {l ts : List Nat} {o i : Nat} (ht : ∀ t ∈ ts, t ≤ 2) (hl : ts.length ≤ 4 ∧ l.length ≤ 24 ∨ ts.length ≤ 2 ∧ l.length ≤ 80) (ho : o ≤ 2) : (escN o (tell l (ts.take i))).length ≤ 1000000 :=
  told_len (fun t h => ht t (List.mem_of_mem_take h)) (by rw [List.length_take]; omega) ho
theorem newsL {h₀ h : Heap} {L : Addr} {a b c : Addr × Obj} (N : News h₀ L h [a, b, c]) : News h₀ L h [b] := News.sub N (by
  intro q hq
  rw [List.mem_singleton.mp hq]; exact .tail _ (.head _))
theorem signs_ok {x : Str} (h : ∀ c ∈ x.cps.toList, c < 1114112) : PyData.strOk x = true := by
  unfold PyData.strOk
  rw [Array.all_eq_true_iff_forall_mem]
  intro c hc
  simpa using h c (Array.mem_toList_iff.mpr hc)
theorem tell_pop {l ts : List Nat} {j tm : Nat} (h : ts[j]? = some tm) : tell l (ts.take (j + 1)) = qt (escN tm (tell l (ts.take j))) := by
  rw [List.take_add_one, h]
  show tell l (ts.take j ++ [tm]) = _
  rw [tell_snoc]
theorem rev_at {ts : List Nat} {i : Nat} {z : Int} (h : ((ts.map fun (z : Nat) => (z : Int)).reverse)[i]? = some z) : ∃ j tm, ts.length - i = j + 1 ∧ ts.length - (i + 1) = j ∧ ts[j]? = some tm ∧ (tm : Int) = z := by
  have hi : i < ts.length := by
    have := (List.getElem?_eq_some_iff.mp h).1
    simpa using this
  rw [List.getElem?_reverse (by simpa using hi), List.length_map, List.getElem?_map] at h
  refine ⟨ts.length - 1 - i, ?_⟩
  cases hp : ts[ts.length - 1 - i]? with
  | none => rw [hp] at h; cases h
  | some q => rw [hp] at h; exact ⟨q, by omega, by omega, rfl, Option.some.inj h⟩
theorem newsS {h₀ h : Heap} {L : Addr} {a : Addr × Obj} {r : List (Addr × Obj)} (N : News h₀ L h (a :: r)) : News h₀ L h r := fun q hq => N q (.tail _ hq)
theorem law_holds.tw6177970194926469781 : True := trivial
theorem law_holds.tw15123554796541802991 : True := trivial
theorem law_holds.tw12687621791434340054 : True := trivial
theorem law_holds.tw10870653069706475693 : True := trivial
theorem law_holds.tw2564268380859428801 : True := trivial
theorem law_holds.tw16978406815995349258 : True := trivial
theorem law_holds.tw12267387818898314102 : True := trivial
theorem law_holds.tw13663051387528795968 : True := trivial
theorem law_holds.tw12476058986133298565 : True := trivial
theorem law_holds.tw9432226000188453795 : True := trivial
theorem law_holds.tw6254736894362409555 : True := trivial
theorem law_holds.tw6890789416708739275 : True := trivial
theorem law_holds.tw9897484093202304508 : True := trivial
theorem law_holds.tw15711721202313437401 : True := trivial
theorem law_holds.tw6156673074769690058 : True := trivial
theorem law_holds.tw14967481817302583507 : True := trivial
theorem law_holds.tw2558664710541493025 : True := trivial
theorem law_holds.tw8844300528656570046 : True := trivial
theorem law_holds.tw17562025525947693838 : True := trivial
theorem law_holds.tw3756308257209627903 : True := trivial
theorem law_holds.tw15759456685926392790 : True := trivial
theorem law_holds.tw15741379261994504178 : True := trivial
theorem law_holds.tw15202863084288179589 : True := trivial
theorem law_holds.tw11954228515179632006 : True := trivial
theorem law_holds.tw2168529811784733145 : True := trivial
theorem law_holds.tw10189704592693192966 : True := trivial
theorem law_holds.tw2589748818833699389 : True := trivial
theorem law_holds.tw5033615099794278105 : True := trivial
theorem law_holds.tw1546341701258847243 : True := trivial
theorem law_holds.tw18026530572120702767 : True := trivial
theorem law_holds.tw2470889107711209942 : True := trivial
theorem law_holds.tw745255978533919091 : True := trivial
theorem law_holds.tw8609802620155453328 : True := trivial
theorem law_holds.tw11755603022844944925 : True := trivial
theorem law_holds.tw9952934120092978494 : True := trivial
theorem law_holds.tw1172607208729018732 : True := trivial
theorem law_holds.tw17255088995462705879 : True := trivial
theorem law_holds.tw14515606888933004400 : True := trivial
theorem law_holds.tw302768837105346163 : True := trivial
theorem law_holds.tw3545908947808057021 : True := trivial
theorem law_holds.tw3416923247095428876 : True := trivial
theorem law_holds.tw10516828495840041881 : True := trivial
theorem law_holds.tw7421514118734006257 : True := trivial
theorem law_holds.tw3794388667547904515 : True := trivial
theorem law_holds.tw16899690658457600479 : True := trivial
theorem law_holds.tw14774650325386425613 : True := trivial
theorem law_holds.tw14195008631400379697 : True := trivial
theorem law_holds.tw9032369906271771983 : True := trivial
theorem law_holds.tw13730824268290810741 : True := trivial
theorem law_holds.tw932483933274728699 : True := trivial
theorem law_holds.tw17294823503141414406 : True := trivial
theorem law_holds.tw14559193561218252903 : True := trivial
theorem law_holds.tw4464252984393422682 : True := trivial
theorem law_holds.tw8312275703017117140 : True := trivial
theorem law_holds.tw14637292938222569738 : True := trivial
theorem law_holds.tw9826770418859484059 : True := trivial
theorem law_holds.tw13650905803964671038 : True := trivial
theorem law_holds.tw1341266762083198811 : True := trivial
theorem law_holds.tw545109181885906688 : True := trivial
theorem law_holds.tw3046938939346580660 : True := trivial
theorem law_holds.tw1737005901722704485 : True := trivial
theorem law_holds.tw16947615914383616782 : True := trivial
theorem law_holds.tw12149405283708829123 : True := trivial
theorem law_holds.tw4995542688137877417 : True := trivial
theorem law_holds.tw144387124901679641 : True := trivial
theorem law_holds.tw5898729028444588960 : True := trivial
theorem law_holds.tw14677013365202126530 : True := trivial
theorem law_holds.tw13800329570527188203 : True := trivial
theorem law_holds.tw3525511440505219793 : True := trivial
theorem law_holds.tw9964428425899171237 : True := trivial
theorem law_holds.tw8069529665006113395 : True := trivial
theorem law_holds.tw17309000430359075326 : True := trivial
theorem law_holds.tw9659893776534165664 : True := trivial
theorem law_holds.tw17333074002647195236 : True := trivial
theorem law_holds.tw1393039868726904873 : True := trivial
theorem law_holds.tw15352218221683021774 : True := trivial
theorem law_holds.tw18116031599527039140 : True := trivial
theorem law_holds.tw8249079356659094474 : True := trivial
theorem law_holds.tw10929289806422889615 : True := trivial
theorem law_holds.tw3136910860242942599 : True := trivial
theorem law_holds.tw2524451447272701541 : True := trivial
theorem law_holds.tw8854015012368427407 : True := trivial
theorem law_holds.tw5044595872519035376 : True := trivial
theorem law_holds.tw17635003217326761883 : True := trivial
theorem law_holds.tw9442120237013122589 : True := trivial
theorem law_holds.tw10242277825702978295 : True := trivial
theorem law_holds.tw9889521400790421688 : True := trivial
theorem law_holds.tw4643041051132140158 : True := trivial
theorem law_holds.tw1778412455037948541 : True := trivial
theorem law_holds.tw15272395603832836080 : True := trivial
theorem law_holds.tw5914491427308094424 : True := trivial
theorem law_holds.tw1791086108937442324 : True := trivial
theorem law_holds.tw9255152265573255198 : True := trivial
theorem law_holds.tw13848119269249539950 : True := trivial
theorem law_holds.tw6603102845771900818 : True := trivial
theorem law_holds.tw18261290160731607033 : True := trivial
theorem law_holds.tw2078624436916829710 : True := trivial
theorem law_holds.tw972601921857779769 : True := trivial
theorem law_holds.tw18309190362041527269 : True := trivial
theorem law_holds.tw8283681822388582728 : True := trivial
theorem law_holds.tw13840902789983287329 : True := trivial
theorem law_holds.tw5989267464594152519 : True := trivial
theorem law_holds.tw9494663832590456537 : True := trivial
theorem law_holds.tw3127913417769977931 : True := trivial
theorem law_holds.tw13294052699122959228 : True := trivial
theorem law_holds.tw17702717118452817820 : True := trivial
theorem law_holds.tw1898673134495410930 : True := trivial
theorem law_holds.tw3533732156708300018 : True := trivial
theorem law_holds.tw808278469055374699 : True := trivial
theorem law_holds.tw6803784606104104915 : True := trivial
theorem law_holds.tw13642005409729077643 : True := trivial
theorem law_holds.tw13250372474279835810 : True := trivial
theorem law_holds.tw11556845855556705167 : True := trivial
theorem law_holds.tw13478230802861573701 : True := trivial
theorem law_holds.tw2029103588110406671 : True := trivial
theorem law_holds.tw576407869801174206 : True := trivial
theorem law_holds.tw18430954121086234272 : True := trivial
theorem law_holds.tw2661426283462663331 : True := trivial
theorem law_holds.tw14390095281932903014 : True := trivial
theorem law_holds.tw1419239623039772522 : True := trivial
theorem law_holds.tw13182730311906835528 : True := trivial
theorem law_holds.tw4124640904062056756 : True := trivial
theorem law_holds.tw5927033272331056481 : True := trivial
theorem law_holds.tw11426015686315989412 : True := trivial
theorem law_holds.tw7351129398174139865 : True := trivial
theorem law_holds.tw4889031023730116350 : True := trivial
theorem law_holds.tw18340385619391811705 : True := trivial
theorem law_holds.tw7204803676362476211 : True := trivial
theorem law_holds.tw3487968232213910406 : True := trivial
theorem law_holds.tw1916294596573696209 : True := trivial
theorem law_holds.tw14883556706271630602 : True := trivial
theorem law_holds.tw18394933952373947069 : True := trivial
theorem law_holds.tw6900053685262515769 : True := trivial
theorem law_holds.tw3808703085821546077 : True := trivial
theorem law_holds.tw15661869461025623997 : True := trivial
theorem law_holds.tw10102834934717047885 : True := trivial
theorem law_holds.tw17945400426158229696 : True := trivial
theorem law_holds.tw17911580528928914924 : True := trivial
theorem law_holds.tw1046446015878126456 : True := trivial
theorem law_holds.tw17776234225285570622 : True := trivial
theorem law_holds.tw4012412122566942357 : True := trivial
theorem law_holds.tw11795792742502079742 : True := trivial
theorem law_holds.tw1186782194237197914 : True := trivial
theorem law_holds.tw4992725456586698614 : True := trivial
theorem law_holds.tw5488932636959071455 : True := trivial
theorem law_holds.tw12854008231185623406 : True := trivial
theorem law_holds.tw4169908219595083525 : True := trivial
theorem law_holds.tw3943428198234077543 : True := trivial
theorem law_holds.tw17899081815984039989 : True := trivial
theorem law_holds.tw7954183362391743935 : True := trivial
theorem law_holds.tw17713402740875732926 : True := trivial
theorem law_holds.tw2503670479209048990 : True := trivial
theorem law_holds.tw17156363617357476176 : True := trivial
theorem law_holds.tw6345391036791879355 : True := trivial
theorem law_holds.tw908389787484368193 : True := trivial
theorem law_holds.tw2395105632611409283 : True := trivial
theorem law_holds.tw18340598423539479173 : True := trivial
theorem law_holds.tw16170062445108390699 : True := trivial
theorem law_holds.tw15694993059591697976 : True := trivial
theorem law_holds.tw2325693721150917532 : True := trivial
theorem law_holds.tw8570087061310353148 : True := trivial
theorem law_holds.tw7311554392007033315 : True := trivial
theorem law_holds.tw18207237522527388385 : True := trivial
theorem law_holds.tw8099904116099004137 : True := trivial
theorem law_holds.tw10288635621117254392 : True := trivial
theorem law_holds.tw8472228645029834797 : True := trivial
theorem law_holds.tw6592492639990696916 : True := trivial
theorem law_holds.tw7699555767970713544 : True := trivial
theorem law_holds.tw2199771004791424345 : True := trivial
theorem law_holds.tw5718591165246717604 : True := trivial
theorem law_holds.tw2142710703020379005 : True := trivial
theorem law_holds.tw9731194254967571310 : True := trivial
theorem law_holds.tw12533077332658259058 : True := trivial
theorem law_holds.tw9849722394096787677 : True := trivial
theorem law_holds.tw2127001594154878533 : True := trivial
theorem law_holds.tw8481075993509181622 : True := trivial
theorem law_holds.tw10465528174321978529 : True := trivial
theorem law_holds.tw5385890167983211742 : True := trivial
theorem law_holds.tw16834381274007307644 : True := trivial
theorem law_holds.tw14252543395802736299 : True := trivial
theorem law_holds.tw8825677053947959099 : True := trivial
theorem law_holds.tw5274592661964301406 : True := trivial
theorem law_holds.tw9799618781358891383 : True := trivial
theorem law_holds.tw10209896874158180831 : True := trivial
theorem law_holds.tw12280936224243050094 : True := trivial
theorem law_holds.tw2643271747718453845 : True := trivial
theorem law_holds.tw4581845663705801772 : True := trivial
theorem law_holds.tw2851267720448770887 : True := trivial
theorem law_holds.tw5506821171919863439 : True := trivial
theorem law_holds.tw10405103093626408476 : True := trivial
theorem law_holds.tw8398172748654082301 : True := trivial
theorem law_holds.tw14350573489546498162 : True := trivial
theorem law_holds.tw13815461657215205959 : True := trivial
theorem law_holds.tw6674817763981286723 : True := trivial
theorem law_holds.tw1369749317851641660 : True := trivial
theorem law_holds.tw16332274672890094952 : True := trivial
theorem law_holds.tw11779019793772500504 : True := trivial
theorem law_holds.tw6833386782581465115 : True := trivial
theorem law_holds.tw4370086069003782432 : True := trivial
theorem law_holds.tw17993387198741990920 : True := trivial
theorem law_holds.tw3850375180904979519 : True := trivial
theorem law_holds.tw8441880690091102137 : True := trivial
theorem law_holds.tw16122234104351945819 : True := trivial
theorem law_holds.tw2865737869514987218 : True := trivial
theorem law_holds.tw15325848393653090309 : True := trivial
theorem law_holds.tw10027879121665395642 : True := trivial
theorem law_holds.tw4433843952089619705 : True := trivial
theorem law_holds.tw11721147071786614939 : True := trivial
theorem law_holds.tw8572072892066365893 : True := trivial
theorem law_holds.tw10944507229479926786 : True := trivial
theorem law_holds.tw17848598403364733487 : True := trivial
theorem law_holds.tw9187647767651647856 : True := trivial
theorem law_holds.tw7062847971049655297 : True := trivial
theorem law_holds.tw10983241140555628109 : True := trivial
theorem law_holds.tw2269544990204364226 : True := trivial
theorem law_holds.tw841179935631392477 : True := trivial
theorem law_holds.tw16804138575897400367 : True := trivial
theorem law_holds.tw2211468639325271704 : True := trivial
theorem law_holds.tw18165013545707147870 : True := trivial
theorem law_holds.tw14875730727996063832 : True := trivial
theorem law_holds.tw3258674603298201628 : True := trivial
theorem law_holds.tw4517222822008671029 : True := trivial
theorem law_holds.tw16099233806120587224 : True := trivial
theorem law_holds.tw4963573110770748834 : True := trivial
theorem law_holds.tw11470271118054631628 : True := trivial
theorem law_holds.tw16104154289035658226 : True := trivial
theorem law_holds.tw8575972342014700945 : True := trivial
theorem law_holds.tw17419225075052043924 : True := trivial
theorem law_holds.tw18135211599370774712 : True := trivial
theorem law_holds.tw6189876280036216102 : True := trivial
theorem law_holds.tw17137235678499792623 : True := trivial
theorem law_holds.tw5791418645094131800 : True := trivial
theorem law_holds.tw7143754711056708316 : True := trivial
theorem law_holds.tw15646520184464998804 : True := trivial
theorem law_holds.tw3033269912633744064 : True := trivial
theorem law_holds.tw5037970770195530229 : True := trivial
theorem law_holds.tw6463668430954543056 : True := trivial
theorem law_holds.tw16643359273071845452 : True := trivial
theorem law_holds.tw1819244514083003361 : True := trivial
theorem law_holds.tw12218498018843733332 : True := trivial
theorem law_holds.tw4781243967656130014 : True := trivial
theorem law_holds.tw3663427449441712954 : True := trivial
theorem law_holds.tw14521376392698553312 : True := trivial
theorem law_holds.tw8505831140886102350 : True := trivial
theorem law_holds.tw2887050238494874643 : True := trivial
theorem law_holds.tw15320506598460614908 : True := trivial
theorem law_holds.tw17598101756349436640 : True := trivial
theorem law_holds.tw2384963693675321470 : True := trivial
theorem law_holds.tw6381524096760519305 : True := trivial
theorem law_holds.tw4072507727158212662 : True := trivial
theorem law_holds.tw7604666192120794032 : True := trivial
theorem law_holds.tw1980014416275693142 : True := trivial
theorem law_holds.tw15917412866852771543 : True := trivial
theorem law_holds.tw16765433158599729185 : True := trivial
theorem law_holds.tw2903333896348957400 : True := trivial
theorem law_holds.tw15567558954438479688 : True := trivial
theorem law_holds.tw1247253217256132012 : True := trivial
theorem law_holds.tw16873695467490121585 : True := trivial
theorem law_holds.tw9524400087533092186 : True := trivial
theorem law_holds.tw13253626941996190775 : True := trivial
theorem law_holds.tw8131574967351443871 : True := trivial
theorem law_holds.tw18200972181404202854 : True := trivial
theorem law_holds.tw18203989763732354715 : True := trivial
theorem law_holds.tw11240126127631740588 : True := trivial
theorem law_holds.tw1914425252493584057 : True := trivial
theorem law_holds.tw12108977868540685583 : True := trivial
theorem law_holds.tw5765542928187402639 : True := trivial
theorem law_holds.tw14199385797764061990 : True := trivial
theorem law_holds.tw13454136545276886934 : True := trivial
theorem law_holds.tw13235696075060083372 : True := trivial
theorem law_holds.tw2387193687640843687 : True := trivial
theorem law_holds.tw14925382992726071281 : True := trivial
theorem law_holds.tw12126468382275897091 : True := trivial
theorem law_holds.tw16184722932577297118 : True := trivial
theorem law_holds.tw7345768897557615242 : True := trivial
theorem law_holds.tw3896150654470677357 : True := trivial
theorem law_holds.tw14498155544194170393 : True := trivial
theorem law_holds.tw16165715940066559518 : True := trivial
theorem law_holds.tw3024374315939245509 : True := trivial
theorem law_holds.tw9746213474893016414 : True := trivial
theorem law_holds.tw14051398506283589457 : True := trivial
theorem law_holds.tw7428356162208057594 : True := trivial
theorem law_holds.tw9758457651398904439 : True := trivial
theorem law_holds.tw8312341600987523519 : True := trivial
theorem law_holds.tw8796305342591271336 : True := trivial
theorem law_holds.tw2414361068126709639 : True := trivial
theorem law_holds.tw18269650602155537469 : True := trivial
theorem law_holds.tw5858263632927829637 : True := trivial
theorem law_holds.tw7404543985812422374 : True := trivial
theorem law_holds.tw16606368319796509530 : True := trivial
theorem law_holds.tw16066104587097768911 : True := trivial
theorem law_holds.tw8957123355933967898 : True := trivial
theorem law_holds.tw12835091436910803158 : True := trivial
theorem law_holds.tw17364227736987735495 : True := trivial
theorem law_holds.tw12987194180023231900 : True := trivial
theorem law_holds.tw8157880013524578536 : True := trivial
theorem law_holds.tw10803361673654935901 : True := trivial
theorem law_holds.tw17884844454425935293 : True := trivial
theorem law_holds.tw7221428835167493151 : True := trivial
theorem law_holds.tw17345407343664743607 : True := trivial
theorem law_holds.tw13097044212144736960 : True := trivial
theorem law_holds.tw180908045013255413 : True := trivial
theorem law_holds.tw9260914124254427926 : True := trivial
theorem law_holds.tw550416813572682631 : True := trivial
theorem law_holds.tw11100686419730198450 : True := trivial
theorem law_holds.tw6317479115527610633 : True := trivial
theorem law_holds.tw1556451293825771818 : True := trivial
theorem law_holds.tw12847567107135931479 : True := trivial
theorem law_holds.tw17295586203589526084 : True := trivial
theorem law_holds.tw13878215891399581383 : True := trivial
theorem law_holds.tw12624917743002284683 : True := trivial
theorem law_holds.tw11097350217990362986 : True := trivial
theorem law_holds.tw12045387857630236399 : True := trivial
theorem law_holds.tw521618093562937032 : True := trivial
theorem law_holds.tw8553002610548859549 : True := trivial
theorem law_holds.tw1382677567924326555 : True := trivial
theorem law_holds.tw13528501647155650410 : True := trivial
theorem law_holds.tw9387504603337931229 : True := trivial
theorem law_holds.tw13281950902743806629 : True := trivial
theorem law_holds.tw1734780060579622926 : True := trivial
theorem law_holds.tw10442559174759676424 : True := trivial
theorem law_holds.tw12411438589965969376 : True := trivial
theorem law_holds.tw5725672013846136890 : True := trivial
theorem law_holds.tw4030767218360268280 : True := trivial
theorem law_holds.tw8386679336120195906 : True := trivial
theorem law_holds.tw7630923327383168834 : True := trivial
theorem law_holds.tw3850334171643177529 : True := trivial
theorem law_holds.tw4084692197679721580 : True := trivial
theorem law_holds.tw17374974949193389749 : True := trivial
theorem law_holds.tw11881114122080957857 : True := trivial
theorem law_holds.tw3692965976522172469 : True := trivial
theorem law_holds.tw6991859651787742975 : True := trivial
theorem law_holds.tw4515466672771955728 : True := trivial
theorem law_holds.tw7407239408455114201 : True := trivial
theorem law_holds.tw8970147916757833333 : True := trivial
theorem law_holds.tw7767266014307106701 : True := trivial
theorem law_holds.tw10441050188594101415 : True := trivial
theorem law_holds.tw6265907326580845545 : True := trivial
theorem law_holds.tw17044581251229063488 : True := trivial
theorem law_holds.tw10812634152524527747 : True := trivial
theorem law_holds.tw498061464947678834 : True := trivial
theorem law_holds.tw3528666605387839750 : True := trivial
theorem law_holds.tw13190408463805328480 : True := trivial
theorem law_holds.tw15032829636229128562 : True := trivial
theorem law_holds.tw8872494088307768188 : True := trivial
theorem law_holds.tw10283916278828761575 : True := trivial
theorem law_holds.tw5112083995522966620 : True := trivial
theorem law_holds.tw11966672015165255308 : True := trivial
theorem law_holds.tw14918994710005357087 : True := trivial
theorem law_holds.tw15522444059895599089 : True := trivial
theorem law_holds.tw13257055565626018733 : True := trivial
theorem law_holds.tw7087491825025586495 : True := trivial
theorem law_holds.tw9288214680346807717 : True := trivial
theorem law_holds.tw15617896438947887921 : True := trivial
theorem law_holds.tw4926307855859175397 : True := trivial
theorem law_holds.tw11223184984439025696 : True := trivial
theorem law_holds.tw3152906847767001463 : True := trivial
theorem law_holds.tw15006436103509636135 : True := trivial
theorem law_holds.tw8266603773606604290 : True := trivial
theorem law_holds.tw4037582482628031876 : True := trivial
theorem law_holds.tw16614716721108272449 : True := trivial
theorem law_holds.tw13482675847692870326 : True := trivial
theorem law_holds.tw15514866124879379921 : True := trivial
theorem law_holds.tw10726639523019406850 : True := trivial
theorem law_holds.tw8909828626151137519 : True := trivial
theorem law_holds.tw3674665740742831893 : True := trivial
theorem law_holds.tw733571504165245281 : True := trivial
theorem law_holds.tw12210932052861102225 : True := trivial
theorem law_holds.tw12889673554181485818 : True := trivial
theorem law_holds.tw12850535167719870617 : True := trivial
theorem law_holds.tw9069877914133315304 : True := trivial
theorem law_holds.tw10968802771074238664 : True := trivial
theorem law_holds.tw17865009358878524859 : True := trivial
theorem law_holds.tw9009705080361974123 : True := trivial
theorem law_holds.tw8989625286065859495 : True := trivial
theorem law_holds.tw11633083819707477107 : True := trivial
theorem law_holds.tw447027507633508388 : True := trivial
theorem law_holds.tw6333624483447246961 : True := trivial
theorem law_holds.tw13528896222378765290 : True := trivial
theorem law_holds.tw14983226153234331074 : True := trivial
theorem law_holds.tw9207643191828677137 : True := trivial
theorem law_holds.tw11586273756423631628 : True := trivial
theorem law_holds.tw11807458097852795031 : True := trivial
theorem law_holds.tw8285764192309689115 : True := trivial
theorem law_holds.tw6765152471904792315 : True := trivial
theorem law_holds.tw5640673133297012132 : True := trivial
theorem law_holds.tw12980350795982273224 : True := trivial
theorem law_holds.tw12342728606916771844 : True := trivial
theorem law_holds.tw2643161274291862537 : True := trivial
theorem law_holds.tw10897144627088453450 : True := trivial
theorem law_holds.tw3049941959672503198 : True := trivial
theorem law_holds.tw503957847093417577 : True := trivial
theorem law_holds.tw14375881129149169379 : True := trivial
theorem law_holds.tw8785698371604719795 : True := trivial
theorem law_holds.tw13003355079707919389 : True := trivial
theorem law_holds.tw3955097671198598788 : True := trivial
theorem law_holds.tw13956741780833797525 : True := trivial
theorem law_holds.tw3253568177066640346 : True := trivial
theorem law_holds.tw4991859449750346478 : True := trivial
theorem law_holds.tw1755247457520882261 : True := trivial
theorem law_holds.tw3222016081226267511 : True := trivial
theorem law_holds.tw5731563423909890137 : True := trivial
theorem law_holds.tw569041148215803771 : True := trivial
theorem law_holds.tw9548147230944474901 : True := trivial
theorem law_holds.tw1799985010008347273 : True := trivial
theorem law_holds.tw9887912731928775018 : True := trivial
theorem law_holds.tw12634321019024901981 : True := trivial
theorem law_holds.tw15806970514647361693 : True := trivial
theorem law_holds.tw2618386414584295968 : True := trivial
theorem law_holds.tw13287204720269558064 : True := trivial
theorem law_holds.tw8634839017697508684 : True := trivial
theorem law_holds.tw2139172203440323022 : True := trivial
theorem law_holds.tw9525127294725463027 : True := trivial
theorem law_holds.tw4943266373159272645 : True := trivial
theorem law_holds.tw1819975233463548508 : True := trivial
theorem law_holds.tw863230966790177721 : True := trivial
theorem law_holds.tw1352200274056120418 : True := trivial
theorem law_holds.tw5389484754426515990 : True := trivial
theorem law_holds.tw15695062497276918967 : True := trivial
theorem law_holds.tw5655351024245221776 : True := trivial
theorem law_holds.tw3595789414353437717 : True := trivial
theorem law_holds.tw3882250662718909693 : True := trivial
theorem law_holds.tw7480714314260584917 : True := trivial
theorem law_holds.tw18017025408984073730 : True := trivial
theorem law_holds.tw16057390660189216267 : True := trivial
theorem law_holds.tw4143738569270334224 : True := trivial
theorem law_holds.tw7479968899032947501 : True := trivial
theorem law_holds.tw9782971633488464159 : True := trivial
theorem law_holds.tw8666519363043736892 : True := trivial
theorem law_holds.tw13983371404066579822 : True := trivial
theorem law_holds.tw16113039383946167999 : True := trivial
theorem law_holds.tw11289095316329951393 : True := trivial
theorem law_holds.tw7675160084493405025 : True := trivial
theorem law_holds.tw8144265105397280603 : True := trivial
theorem law_holds.tw18444203265207955006 : True := trivial
theorem law_holds.tw2928182479919356999 : True := trivial
theorem law_holds.tw6896717019858035522 : True := trivial
theorem law_holds.tw10667895100797718341 : True := trivial
theorem law_holds.tw3852827713774964812 : True := trivial
theorem law_holds.tw4913491355128607118 : True := trivial
theorem law_holds.tw11977050620070087417 : True := trivial
theorem law_holds.tw3912811242725288453 : True := trivial
theorem law_holds.tw18153520721480276881 : True := trivial
theorem law_holds.tw17122233677790987533 : True := trivial
theorem law_holds.tw6499956759230125245 : True := trivial
theorem law_holds.tw1303389685018741030 : True := trivial
theorem law_holds.tw13012089966726956846 : True := trivial
theorem law_holds.tw3077249439568447194 : True := trivial
theorem law_holds.tw15333956030411951890 : True := trivial
theorem law_holds.tw3366817510852727610 : True := trivial
theorem law_holds.tw7116731048869669803 : True := trivial
theorem law_holds.tw8652346329174877282 : True := trivial
theorem law_holds.tw7544913113114293122 : True := trivial
theorem law_holds.tw13280740594461564331 : True := trivial
theorem law_holds.tw11017292853192552079 : True := trivial
theorem law_holds.tw1232645469590886286 : True := trivial
theorem law_holds.tw11315637435222106236 : True := trivial
theorem law_holds.tw3882201998751590657 : True := trivial
theorem law_holds.tw12303009252429188658 : True := trivial
theorem law_holds.tw367903286550418209 : True := trivial
theorem law_holds.tw3742325753681652743 : True := trivial
theorem law_holds.tw1710076424337546998 : True := trivial
theorem law_holds.tw5920216800500632969 : True := trivial
theorem law_holds.tw11823568539219059922 : True := trivial
theorem law_holds.tw16708887144172644987 : True := trivial
theorem law_holds.tw8040771413219435098 : True := trivial
theorem law_holds.tw10954758410522031216 : True := trivial
theorem law_holds.tw6860709855171689206 : True := trivial
theorem law_holds.tw9168033884955339765 : True := trivial
theorem law_holds.tw7484302960587174374 : True := trivial
theorem law_holds.tw907578622648922086 : True := trivial
theorem law_holds.tw194939583717160490 : True := trivial
theorem law_holds.tw6869992995446874880 : True := trivial
theorem law_holds.tw11544315989524547432 : True := trivial
theorem law_holds.tw2002369845011919132 : True := trivial
theorem law_holds.tw4047857117431869575 : True := trivial
theorem law_holds.tw8227121040935265200 : True := trivial
theorem law_holds.tw12293519974356525696 : True := trivial
theorem law_holds.tw14281342344845405768 : True := trivial
theorem law_holds.tw15198507701814350386 : True := trivial
theorem law_holds.tw519298541982818421 : True := trivial
theorem law_holds.tw7703727192748681421 : True := trivial
theorem law_holds.tw10517181812226103804 : True := trivial
theorem law_holds.tw15829985883664642994 : True := trivial
theorem law_holds.tw9975692261777386857 : True := trivial
theorem law_holds.tw1499712698015984848 : True := trivial
theorem law_holds.tw3551631022101015893 : True := trivial
theorem law_holds.tw3625451137614018508 : True := trivial
theorem law_holds.tw2782419253953178936 : True := trivial
theorem law_holds.tw14854378212777193641 : True := trivial
theorem law_holds.tw8330938851228082562 : True := trivial
theorem law_holds.tw9388325235746337897 : True := trivial
theorem law_holds.tw12668044768207566790 : True := trivial
theorem law_holds.tw17648194123239954510 : True := trivial
theorem law_holds.tw9552830710289189752 : True := trivial
theorem law_holds.tw15470072684735142199 : True := trivial
theorem law_holds.tw8297313697389066934 : True := trivial
theorem law_holds.tw7631636504923648304 : True := trivial
theorem law_holds.tw16465408903239670219 : True := trivial
theorem law_holds.tw436970716684534385 : True := trivial
theorem law_holds.tw6370479647739985706 : True := trivial
theorem law_holds.tw11245189051238082039 : True := trivial
theorem law_holds.tw10219052351128147325 : True := trivial
theorem law_holds.tw1385162719727133579 : True := trivial
theorem law_holds.tw1774162364888698292 : True := trivial
theorem law_holds.tw12547139144490466682 : True := trivial
theorem law_holds.tw3282303694031485612 : True := trivial
theorem law_holds.tw14746732674962391887 : True := trivial
theorem law_holds.tw11258418251754256542 : True := trivial
theorem law_holds.tw10764541510735364805 : True := trivial
theorem law_holds.tw2054456864356577309 : True := trivial
theorem law_holds.tw16961963742403092116 : True := trivial
theorem law_holds.tw13431030151845061361 : True := trivial
theorem law_holds.tw15885331464669893895 : True := trivial
theorem law_holds.tw2096525686368166746 : True := trivial
theorem law_holds.tw8715444014776630742 : True := trivial
theorem law_holds.tw12115171985352901274 : True := trivial
theorem law_holds.tw1956609002073499237 : True := trivial
theorem law_holds.tw4886312948824227682 : True := trivial
theorem law_holds.tw3860281307899837418 : True := trivial
theorem law_holds.tw16774741363034127393 : True := trivial
theorem law_holds.tw6553333263825352884 : True := trivial
theorem law_holds.tw664576680770170031 : True := trivial
theorem law_holds.tw4150838340823326808 : True := trivial
theorem law_holds.tw9317688335297629284 : True := trivial
theorem law_holds.tw1681173693875575501 : True := trivial
theorem law_holds.tw2124134355350193313 : True := trivial
theorem law_holds.tw8790382262760724670 : True := trivial
theorem law_holds.tw4973581018145163021 : True := trivial
theorem law_holds.tw16174998905534648557 : True := trivial
theorem law_holds.tw4358403320081769719 : True := trivial
theorem law_holds.tw6861490101519172755 : True := trivial
theorem law_holds.tw11378576750377235499 : True := trivial
theorem law_holds.tw16827775902095551856 : True := trivial
theorem law_holds.tw17942709131360195518 : True := trivial
theorem law_holds.tw10585544012083477974 : True := trivial
theorem law_holds.tw16092355726972411579 : True := trivial
theorem law_holds.tw9698874030038788953 : True := trivial
theorem law_holds.tw3707715988154104229 : True := trivial
theorem law_holds.tw6881874429007886204 : True := trivial
theorem law_holds.tw6649348088445503080 : True := trivial
theorem law_holds.tw4192584870193575311 : True := trivial
theorem law_holds.tw16650043561916937667 : True := trivial
theorem law_holds.tw6960227901761818539 : True := trivial
theorem law_holds.tw4080157896497106081 : True := trivial
theorem law_holds.tw16893121556090616931 : True := trivial
theorem law_holds.tw5542243279508502960 : True := trivial
theorem law_holds.tw8549365171731915398 : True := trivial
theorem law_holds.tw3956099054510807996 : True := trivial
theorem law_holds.tw660297872995803996 : True := trivial
theorem law_holds.tw12776737443520724447 : True := trivial
theorem law_holds.tw245764215241151709 : True := trivial
theorem law_holds.tw69833769963255967 : True := trivial
theorem law_holds.tw13037468584768466635 : True := trivial
theorem law_holds.tw11583271856484122956 : True := trivial
theorem law_holds.tw2401843486660128364 : True := trivial
theorem law_holds.tw18207139094907211405 : True := trivial
theorem law_holds.tw6354221664691742131 : True := trivial
theorem law_holds.tw2885242317795153321 : True := trivial
theorem law_holds.tw18254337876149969668 : True := trivial
theorem law_holds.tw5455921660152230842 : True := trivial
theorem law_holds.tw2580079619333081803 : True := trivial
theorem law_holds.tw17470365217354309832 : True := trivial
theorem law_holds.tw11417216600806533712 : True := trivial
theorem law_holds.tw6485157915934633976 : True := trivial
theorem law_holds.tw6934448944433832347 : True := trivial
theorem law_holds.tw6111484700653504198 : True := trivial
theorem law_holds.tw11803358882649189518 : True := trivial
theorem law_holds.tw14160533322030094474 : True := trivial
theorem law_holds.tw8170779377897787297 : True := trivial
theorem law_holds.tw15332971116118236329 : True := trivial
theorem law_holds.tw11677100312832694166 : True := trivial
theorem law_holds.tw607667584577438428 : True := trivial
theorem law_holds.tw9220624806794609946 : True := trivial
theorem law_holds.tw3974387499553966400 : True := trivial
theorem law_holds.tw7495221243884187115 : True := trivial
theorem law_holds.tw3713387574879085296 : True := trivial
theorem law_holds.tw6507877686720480950 : True := trivial
theorem law_holds.tw15480323770066655214 : True := trivial
theorem law_holds.tw15352839923633478061 : True := trivial
theorem law_holds.tw7910590604623066228 : True := trivial
theorem law_holds.tw14844349234554566270 : True := trivial
theorem law_holds.tw11067727234611919522 : True := trivial
theorem law_holds.tw15293083901398250104 : True := trivial
theorem law_holds.tw9502071092897418529 : True := trivial
theorem law_holds.tw9669672807639750606 : True := trivial
theorem law_holds.tw12081803397518856358 : True := trivial
theorem law_holds.tw13190703287169160282 : True := trivial
theorem law_holds.tw13766487248619392586 : True := trivial
theorem law_holds.tw16691439815215545270 : True := trivial
theorem law_holds.tw2055734563569237896 : True := trivial
theorem law_holds.tw7019463264422422977 : True := trivial
theorem law_holds.tw10028117763298573888 : True := trivial
theorem law_holds.tw11781800970755023335 : True := trivial
theorem law_holds.tw13677857801504540592 : True := trivial
theorem law_holds.tw16887194039231368127 : True := trivial
theorem law_holds.tw15544829507116839252 : True := trivial
theorem law_holds.tw16898189318038581234 : True := trivial
theorem law_holds.tw11690447701083486646 : True := trivial
theorem law_holds.tw4146061822495498468 : True := trivial
theorem law_holds.tw5062152199769849712 : True := trivial
theorem law_holds.tw11956893519032503956 : True := trivial
theorem law_holds.tw5514985750730242732 : True := trivial
theorem law_holds.tw8922897050441119698 : True := trivial
theorem law_holds.tw14991590004735058009 : True := trivial
theorem law_holds.tw8295506355032047333 : True := trivial
theorem law_holds.tw699380112222796084 : True := trivial
theorem law_holds.tw8984152853971343422 : True := trivial
theorem law_holds.tw13871441588494700760 : True := trivial
theorem law_holds.tw11098625913536864229 : True := trivial
theorem law_holds.tw3438298445031660282 : True := trivial
theorem law_holds.tw10886391378514542500 : True := trivial
theorem law_holds.tw12253411696296436870 : True := trivial
theorem law_holds.tw11846676642670509255 : True := trivial
theorem law_holds.tw15873654808861938513 : True := trivial
theorem law_holds.tw1193751542720294520 : True := trivial
theorem law_holds.tw3426337659310251177 : True := trivial
theorem law_holds.tw2210835177313872025 : True := trivial
theorem law_holds.tw5700548256593830582 : True := trivial
theorem law_holds.tw15236117334343867423 : True := trivial
theorem law_holds.tw5788490908846893860 : True := trivial
theorem law_holds.tw12949845418750544790 : True := trivial
theorem law_holds.tw17305254018735503138 : True := trivial
theorem law_holds.tw1083727906915337341 : True := trivial
theorem law_holds.tw8137031500313473552 : True := trivial
theorem law_holds.tw14506525250483169144 : True := trivial
theorem law_holds.tw9184033795430018204 : True := trivial
theorem law_holds.tw17942499455142895165 : True := trivial
theorem law_holds.tw10007947361888340627 : True := trivial
theorem law_holds.tw17744747089408723468 : True := trivial
theorem law_holds.tw18006792725990754497 : True := trivial
theorem law_holds.tw9611832331244035263 : True := trivial
theorem law_holds.tw17792525830624384078 : True := trivial
theorem law_holds.tw7695934317539461687 : True := trivial
theorem law_holds.tw1514840783567845737 : True := trivial
theorem law_holds.tw1689763614830377041 : True := trivial
theorem law_holds.tw1335265377702380343 : True := trivial
theorem law_holds.tw14545874151571354728 : True := trivial
theorem law_holds.tw15607887362523206001 : True := trivial
theorem law_holds.tw6127397645498528670 : True := trivial
theorem law_holds.tw16192464803593610453 : True := trivial
theorem law_holds.tw13425932534011304816 : True := trivial
theorem law_holds.tw3005452535816212104 : True := trivial
theorem law_holds.tw18312799740870528207 : True := trivial
theorem law_holds.tw3350424162675223093 : True := trivial
theorem law_holds.tw4439653461905209652 : True := trivial
theorem law_holds.tw1117575151148589468 : True := trivial
theorem law_holds.tw312863333873483875 : True := trivial
theorem law_holds.tw12147325966686110327 : True := trivial
theorem law_holds.tw15825954081357454955 : True := trivial
theorem law_holds.tw9290190842861060508 : True := trivial
theorem law_holds.tw1099259369241382048 : True := trivial
theorem law_holds.tw2384872892506856444 : True := trivial
theorem law_holds.tw10188763426450519768 : True := trivial
theorem law_holds.tw10320256576048536287 : True := trivial
theorem law_holds.tw8083882435365906211 : True := trivial
theorem law_holds.tw2241556945910718975 : True := trivial
theorem law_holds.tw2981358437369204500 : True := trivial
theorem law_holds.tw3772654092419426264 : True := trivial
theorem law_holds.tw8417186165934385351 : True := trivial
theorem law_holds.tw17169043682955552997 : True := trivial
theorem law_holds.tw15726739188670627701 : True := trivial
theorem law_holds.tw13397297893571687751 : True := trivial
theorem law_holds.tw16461882675039125421 : True := trivial
theorem law_holds.tw11463670642173560981 : True := trivial
theorem law_holds.tw7346270606818648071 : True := trivial
theorem law_holds.tw17334856725959723724 : True := trivial
theorem law_holds.tw15644819842384902770 : True := trivial
theorem law_holds.tw3989893010996989713 : True := trivial
theorem law_holds.tw8135941239458229972 : True := trivial
theorem law_holds.tw11576763624814078588 : True := trivial
theorem law_holds.tw12614398338856665164 : True := trivial
theorem law_holds.tw2112619612379961697 : True := trivial
theorem law_holds.tw11803560295506267724 : True := trivial
theorem law_holds.tw6156424641528512876 : True := trivial
theorem law_holds.tw8401860817304669148 : True := trivial
theorem law_holds.tw2288500681755285845 : True := trivial
theorem law_holds.tw59864651932915081 : True := trivial
theorem law_holds.tw15837452725152343555 : True := trivial
theorem law_holds.tw13388431603621797793 : True := trivial
theorem law_holds.tw10725132931349513577 : True := trivial
theorem law_holds.tw8591876402714022951 : True := trivial
theorem law_holds.tw2897034200560062308 : True := trivial
theorem law_holds.tw3756957479349018193 : True := trivial
theorem law_holds.tw131357086916946640 : True := trivial
theorem law_holds.tw16406091861079842607 : True := trivial
theorem law_holds.tw14904137174637212347 : True := trivial
theorem law_holds.tw9212889513913684515 : True := trivial
theorem law_holds.tw8369274380968253667 : True := trivial
theorem law_holds.tw15162217921772873613 : True := trivial
theorem law_holds.tw11047685208138227551 : True := trivial
theorem law_holds.tw2954383785882054493 : True := trivial
theorem law_holds.tw3339164412607631549 : True := trivial
theorem law_holds.tw6159533029260741167 : True := trivial
theorem law_holds.tw12394330538082041428 : True := trivial
theorem law_holds.tw16612359704951912572 : True := trivial
theorem law_holds.tw223059019891838383 : True := trivial
theorem law_holds.tw5405950176245079350 : True := trivial
theorem law_holds.tw8210953160692291510 : True := trivial
theorem law_holds.tw8334431915071622068 : True := trivial
theorem law_holds.tw631828861560075746 : True := trivial
theorem law_holds.tw10786798759134214714 : True := trivial
theorem law_holds.tw1550374771381668074 : True := trivial
theorem law_holds.tw10093380194815717143 : True := trivial
theorem law_holds.tw13220211186989608806 : True := trivial
theorem law_holds.tw9770219792253218338 : True := trivial
theorem law_holds.tw17253903310271361901 : True := trivial
theorem law_holds.tw1762888911704233025 : True := trivial
theorem law_holds.tw3607733795294823564 : True := trivial
theorem law_holds.tw9895272294310442608 : True := trivial
theorem law_holds.tw6586085781419682490 : True := trivial
theorem law_holds.tw13882729330811710610 : True := trivial
theorem law_holds.tw11918526154901971515 : True := trivial
theorem law_holds.tw12134408205421670959 : True := trivial
theorem law_holds.tw8720880381367431298 : True := trivial
theorem law_holds.tw18388893480867403737 : True := trivial
theorem law_holds.tw14646867148444618371 : True := trivial
theorem law_holds.tw12230812552461218233 : True := trivial
theorem law_holds.tw1973129929022764952 : True := trivial
theorem law_holds.tw16381176275627223697 : True := trivial
theorem law_holds.tw3307954989432871184 : True := trivial
theorem law_holds.tw11169275537108399364 : True := trivial
theorem law_holds.tw6580623548314892615 : True := trivial
theorem law_holds.tw16873799427995575018 : True := trivial
theorem law_holds.tw2667362832866536986 : True := trivial
theorem law_holds.tw15559820383661478762 : True := trivial
theorem law_holds.tw2842810181116790245 : True := trivial
theorem law_holds.tw6831172337001670884 : True := trivial
theorem law_holds.tw5781380259314154910 : True := trivial
theorem law_holds.tw8712014163911447464 : True := trivial
theorem law_holds.tw2303879751551577860 : True := trivial
theorem law_holds.tw15796309260620551687 : True := trivial
theorem law_holds.tw10660274270002163016 : True := trivial
theorem law_holds.tw5926295103528105954 : True := trivial
theorem law_holds.tw6122225920155410508 : True := trivial
theorem law_holds.tw17529362906406652863 : True := trivial
theorem law_holds.tw6911747868599837429 : True := trivial
theorem law_holds.tw10211359973830209541 : True := trivial
theorem law_holds.tw15154110283740273250 : True := trivial
theorem law_holds.tw8041847919771144911 : True := trivial
theorem law_holds.tw12626328134170644701 : True := trivial
theorem law_holds.tw1035469204868569938 : True := trivial
theorem law_holds.tw15483129889696659574 : True := trivial
theorem law_holds.tw981846192996546977 : True := trivial
theorem law_holds.tw13405347812287781512 : True := trivial
theorem law_holds.tw12732824653754844360 : True := trivial
theorem law_holds.tw17385726211960272802 : True := trivial
theorem law_holds.tw12459966957829302596 : True := trivial
theorem law_holds.tw6693162373230288027 : True := trivial
theorem law_holds.tw5277994541964179845 : True := trivial
theorem law_holds.tw7566432030715092817 : True := trivial
theorem law_holds.tw10679931392274172632 : True := trivial
theorem law_holds.tw4114491029794296638 : True := trivial
theorem law_holds.tw1377309892636839040 : True := trivial
theorem law_holds.tw7769649832755249146 : True := trivial
theorem law_holds.tw9629251133229016361 : True := trivial
theorem law_holds.tw15049334964525308263 : True := trivial
theorem law_holds.tw9992725586745946429 : True := trivial
theorem law_holds.tw160851071654074740 : True := trivial
theorem law_holds.tw13092103797297032270 : True := trivial
theorem law_holds.tw4000965053056674031 : True := trivial
theorem law_holds.tw14892801356780361778 : True := trivial
theorem law_holds.tw17570675385486235261 : True := trivial
theorem law_holds.tw6742561413780372231 : True := trivial
theorem law_holds.tw18234560199702728603 : True := trivial
theorem law_holds.tw6727219029552735585 : True := trivial
theorem law_holds.tw1767730674963353768 : True := trivial
theorem law_holds.tw480292947269760891 : True := trivial
theorem law_holds.tw8245722687374795370 : True := trivial
theorem law_holds.tw1021771657429519781 : True := trivial
theorem law_holds.tw218528332313867021 : True := trivial
theorem law_holds.tw12622292602297523153 : True := trivial
theorem law_holds.tw1803770708003208005 : True := trivial
theorem law_holds.tw16530885339332395160 : True := trivial
theorem law_holds.tw8045378594462670225 : True := trivial
theorem law_holds.tw16098570224071239113 : True := trivial
theorem law_holds.tw4360515638614775343 : True := trivial
theorem law_holds.tw12246973334233011070 : True := trivial
theorem law_holds.tw3776956092104397036 : True := trivial
theorem law_holds.tw16074064945343616743 : True := trivial
theorem law_holds.tw7034799258891941112 : True := trivial
theorem law_holds.tw14335913921861858828 : True := trivial
theorem law_holds.tw8829074647290719032 : True := trivial
theorem law_holds.tw18254395454411644717 : True := trivial
theorem law_holds.tw18253983147426064995 : True := trivial
theorem law_holds.tw7356724547972884604 : True := trivial
theorem law_holds.tw5587736956042788999 : True := trivial
theorem law_holds.tw11026575858783421537 : True := trivial
theorem law_holds.tw9682718004065560343 : True := trivial
theorem law_holds.tw9483915327669328748 : True := trivial
theorem law_holds.tw16914220770136414715 : True := trivial
theorem law_holds.tw1685627985566243432 : True := trivial
theorem law_holds.tw1929443778124869092 : True := trivial
theorem law_holds.tw15802469936163623734 : True := trivial
theorem law_holds.tw5907203647135998699 : True := trivial
theorem law_holds.tw7775064044895347852 : True := trivial
theorem law_holds.tw7511139251322460048 : True := trivial
theorem law_holds.tw3158129796062787159 : True := trivial
theorem law_holds.tw732671015094016272 : True := trivial
theorem law_holds.tw6119071299663865417 : True := trivial
theorem law_holds.tw7748021459863145133 : True := trivial
theorem law_holds.tw16701994192336326122 : True := trivial
theorem law_holds.tw7408472829698581751 : True := trivial
theorem law_holds.tw14499810825090155391 : True := trivial
theorem law_holds.tw3186734533307500241 : True := trivial
theorem law_holds.tw6925759287387000477 : True := trivial
theorem law_holds.tw3920392572372402345 : True := trivial
theorem law_holds.tw11253982270263490198 : True := trivial
theorem law_holds.tw2053967980211584130 : True := trivial
theorem law_holds.tw1909877003179415225 : True := trivial
theorem law_holds.tw18197852217732850983 : True := trivial
theorem law_holds.tw8769533040943753566 : True := trivial
theorem law_holds.tw15883345262158282383 : True := trivial
theorem law_holds.tw3682559726232862161 : True := trivial
theorem law_holds.tw11599213532126039444 : True := trivial
theorem law_holds.tw15242022910975006910 : True := trivial
theorem law_holds.tw17078278762921784054 : True := trivial
theorem law_holds.tw13359578995793934705 : True := trivial
theorem law_holds.tw13068417504975948891 : True := trivial
theorem law_holds.tw9032088933897422861 : True := trivial
theorem law_holds.tw16462895619179043833 : True := trivial
theorem law_holds.tw16473692458595752123 : True := trivial
theorem law_holds.tw15344568305301671732 : True := trivial
theorem law_holds.tw3497416489672200475 : True := trivial
theorem law_holds.tw3311157727402870671 : True := trivial
theorem law_holds.tw6543049866265113191 : True := trivial
theorem law_holds.tw8804120190785687885 : True := trivial
theorem law_holds.tw8857742495270377987 : True := trivial
theorem law_holds.tw7983211939772527470 : True := trivial
theorem law_holds.tw12977093529070104392 : True := trivial
theorem law_holds.tw11297062200503488469 : True := trivial
theorem law_holds.tw11201986876333184995 : True := trivial
theorem law_holds.tw16748530446032259785 : True := trivial
theorem law_holds.tw14385925486924208373 : True := trivial
theorem law_holds.tw5660955012450978138 : True := trivial
theorem law_holds.tw10876394233666535175 : True := trivial
theorem law_holds.tw3672438013989251361 : True := trivial
theorem law_holds.tw6401299144993235711 : True := trivial
theorem law_holds.tw17371252989657294990 : True := trivial
theorem law_holds.tw9758047768218912823 : True := trivial
theorem law_holds.tw7134303821544871200 : True := trivial
theorem law_holds.tw3572487005457819259 : True := trivial
theorem law_holds.tw6882020374766023752 : True := trivial
theorem law_holds.tw13756832539634530601 : True := trivial
theorem law_holds.tw12134956360726941196 : True := trivial
theorem law_holds.tw3721179886434227535 : True := trivial
theorem law_holds.tw13902218012105463410 : True := trivial
theorem law_holds.tw9871626496009991038 : True := trivial
theorem law_holds.tw6677821561840896501 : True := trivial
theorem law_holds.tw2798143973674455058 : True := trivial
theorem law_holds.tw17580165497215679439 : True := trivial
theorem law_holds.tw14754953459478485650 : True := trivial
theorem law_holds.tw3809755536050820187 : True := trivial
theorem law_holds.tw18225134555866732589 : True := trivial
theorem law_holds.tw3707998875871990840 : True := trivial
theorem law_holds.tw9965324091349369512 : True := trivial
theorem law_holds.tw3602377517896009648 : True := trivial
theorem law_holds.tw11330957891505755796 : True := trivial
theorem law_holds.tw602461330855297101 : True := trivial
theorem law_holds.tw14390602165704524457 : True := trivial
theorem law_holds.tw9473953674100734253 : True := trivial
theorem law_holds.tw5769158387606399586 : True := trivial
theorem law_holds.tw2389365564930886873 : True := trivial
theorem law_holds.tw6041440012092600215 : True := trivial
theorem law_holds.tw860077500063870494 : True := trivial
theorem law_holds.tw15150646450996357022 : True := trivial
theorem law_holds.tw9030029362784504949 : True := trivial
theorem law_holds.tw18016632835344607894 : True := trivial
theorem law_holds.tw8916135115820964548 : True := trivial
theorem law_holds.tw9989359697036934923 : True := trivial
theorem law_holds.tw18042531781279621341 : True := trivial
theorem law_holds.tw1605662777757193095 : True := trivial
theorem law_holds.tw18155623678392573649 : True := trivial
theorem law_holds.tw2446358144275080391 : True := trivial
theorem law_holds.tw17031892589824847239 : True := trivial
theorem law_holds.tw15472126771306010800 : True := trivial
theorem law_holds.tw9276237560276512257 : True := trivial
theorem law_holds.tw8499850393483014974 : True := trivial
theorem law_holds.tw17830944117370523080 : True := trivial
theorem law_holds.tw17974257514489008736 : True := trivial
theorem law_holds.tw1031057903888850656 : True := trivial
theorem law_holds.tw13958071646730322851 : True := trivial
theorem law_holds.tw14484030737994471886 : True := trivial
theorem law_holds.tw17687412246758094834 : True := trivial
theorem law_holds.tw2382714987290314120 : True := trivial
theorem law_holds.tw7820799176418779761 : True := trivial
theorem law_holds.tw14571795756577361901 : True := trivial
theorem law_holds.tw293627430662643474 : True := trivial
theorem law_holds.tw15662257034091697019 : True := trivial
theorem law_holds.tw5451054884063135654 : True := trivial
theorem law_holds.tw693293372831425869 : True := trivial
theorem law_holds.tw6726159173723076276 : True := trivial
theorem law_holds.tw10486713781251687710 : True := trivial
theorem law_holds.tw11129157725520112330 : True := trivial
theorem law_holds.tw17248354013995264833 : True := trivial
theorem law_holds.tw3426384778480675251 : True := trivial
theorem law_holds.tw3979707639553702691 : True := trivial
theorem law_holds.tw7917754353467396125 : True := trivial
theorem law_holds.tw3927331946688356228 : True := trivial
theorem law_holds.tw10767655046202684341 : True := trivial
theorem law_holds.tw2008241840959921210 : True := trivial
theorem law_holds.tw12557544960718557666 : True := trivial
theorem law_holds.tw6948224671027582040 : True := trivial
theorem law_holds.tw12296726922439171297 : True := trivial
theorem law_holds.tw9432397437662838624 : True := trivial
theorem law_holds.tw13227533145525514938 : True := trivial
theorem law_holds.tw2924946361707170262 : True := trivial
theorem law_holds.tw12320438053989627958 : True := trivial
theorem law_holds.tw16720094985154256693 : True := trivial
theorem law_holds.tw12080120384591051744 : True := trivial
theorem law_holds.tw10666784280354678857 : True := trivial
theorem law_holds.tw5605356248273646047 : True := trivial
theorem law_holds.tw2043166853727251185 : True := trivial
theorem law_holds.tw575232530192455986 : True := trivial
theorem law_holds.tw8226277913771197264 : True := trivial
theorem law_holds.tw11303081109005220762 : True := trivial
theorem law_holds.tw5432952435368640112 : True := trivial
theorem law_holds.tw15623931887893595886 : True := trivial
theorem law_holds.tw9634777828066323256 : True := trivial
theorem law_holds.tw16493337721930434605 : True := trivial
theorem law_holds.tw14358080080312658767 : True := trivial
theorem law_holds.tw5633279544325282263 : True := trivial
theorem law_holds.tw13667737974841707781 : True := trivial
theorem law_holds.tw2731376850318366449 : True := trivial
theorem law_holds.tw8858119530156839631 : True := trivial
theorem law_holds.tw7067974818453428095 : True := trivial
theorem law_holds.tw7510824731391710808 : True := trivial
theorem law_holds.tw14381716576446811386 : True := trivial
theorem law_holds.tw15526298677375409021 : True := trivial
theorem law_holds.tw14596297492920191028 : True := trivial
theorem law_holds.tw2088057726675268939 : True := trivial
theorem law_holds.tw15014403891855920072 : True := trivial
theorem law_holds.tw7356349956106387506 : True := trivial
theorem law_holds.tw11956458263131016624 : True := trivial
theorem law_holds.tw15448297888555860652 : True := trivial
theorem law_holds.tw12256559969785099955 : True := trivial
theorem law_holds.tw15543422488883774174 : True := trivial
theorem law_holds.tw16457280410452015341 : True := trivial
theorem law_holds.tw16963379459963715452 : True := trivial
theorem law_holds.tw2102315897755806987 : True := trivial
theorem law_holds.tw16106779387088534511 : True := trivial
theorem law_holds.tw17800342923121174826 : True := trivial
theorem law_holds.tw12731736397290755891 : True := trivial
theorem law_holds.tw2788888992717563140 : True := trivial
theorem law_holds.tw13679895858646849597 : True := trivial
theorem law_holds.tw16836969012518115619 : True := trivial
theorem law_holds.tw10093647634046251098 : True := trivial
theorem law_holds.tw4797790103318477656 : True := trivial
theorem law_holds.tw14354538779393863138 : True := trivial
theorem law_holds.tw9431515893933034641 : True := trivial
theorem law_holds.tw1053317679998426468 : True := trivial
theorem law_holds.tw7660400162925590741 : True := trivial
theorem law_holds.tw724200737284857819 : True := trivial
theorem law_holds.tw15732109348078318572 : True := trivial
theorem law_holds.tw8413839820570837369 : True := trivial
theorem law_holds.tw11532970265236058100 : True := trivial
theorem law_holds.tw17012788314835774953 : True := trivial
theorem law_holds.tw18326849912455186884 : True := trivial
theorem law_holds.tw13402424001964919149 : True := trivial
theorem law_holds.tw631266038723830076 : True := trivial
theorem law_holds.tw12442163767917924457 : True := trivial
theorem law_holds.tw6719018230134327050 : True := trivial
theorem law_holds.tw15609566024721092083 : True := trivial
theorem law_holds.tw15305978602068356694 : True := trivial
theorem law_holds.tw14704515778605914334 : True := trivial
theorem law_holds.tw13921793114692110018 : True := trivial
theorem law_holds.tw12116493165278983582 : True := trivial
theorem law_holds.tw15338837502394608122 : True := trivial
theorem law_holds.tw9843604407834444796 : True := trivial
theorem law_holds.tw17553930602362091883 : True := trivial
theorem law_holds.tw8462428812776065965 : True := trivial
theorem law_holds.tw7985852228683721737 : True := trivial
theorem law_holds.tw6952626026076278478 : True := trivial
theorem law_holds.tw3588475368690217884 : True := trivial
theorem law_holds.tw13336368349410954346 : True := trivial
theorem law_holds.tw7556614973213307419 : True := trivial
theorem law_holds.tw14789792462180790578 : True := trivial
theorem law_holds.tw7169296243666066974 : True := trivial
theorem law_holds.tw770865349035796089 : True := trivial
theorem law_holds.tw7185456241796803578 : True := trivial
theorem law_holds.tw17758146289354676595 : True := trivial
theorem law_holds.tw10460793220074676658 : True := trivial
theorem law_holds.tw7014720503175028613 : True := trivial
theorem law_holds.tw16190678330180157336 : True := trivial
theorem law_holds.tw13709617746848070560 : True := trivial
theorem law_holds.tw4614512636035447770 : True := trivial
theorem law_holds.tw6776455111828631412 : True := trivial
theorem law_holds.tw11283290899035178999 : True := trivial
theorem law_holds.tw6633459197191319014 : True := trivial
theorem law_holds.tw14822640431511872941 : True := trivial
theorem law_holds.tw10296202853966499060 : True := trivial
theorem law_holds.tw15973758155804705043 : True := trivial
theorem law_holds.tw16641252976520058099 : True := trivial
theorem law_holds.tw7759241980135008877 : True := trivial
theorem law_holds.tw14489315793263303861 : True := trivial
theorem law_holds.tw5981114437932730796 : True := trivial
theorem law_holds.tw6747315666322679634 : True := trivial
theorem law_holds.tw3028213030429885723 : True := trivial
theorem law_holds.tw16883458599210261866 : True := trivial
theorem law_holds.tw7761691375167764622 : True := trivial
theorem law_holds.tw3315642898252998016 : True := trivial
theorem law_holds.tw6429003314605503815 : True := trivial
theorem law_holds.tw12481875629721207810 : True := trivial
theorem law_holds.tw16273140198857503625 : True := trivial
theorem law_holds.tw18221580467831097590 : True := trivial
theorem law_holds.tw6168114395901332020 : True := trivial
theorem law_holds.tw7052821283958023361 : True := trivial
theorem law_holds.tw10190134840458588342 : True := trivial
theorem law_holds.tw7696488724909661519 : True := trivial
theorem law_holds.tw10024915671413155879 : True := trivial
theorem law_holds.tw17046799393618780204 : True := trivial
theorem law_holds.tw12610764987094191714 : True := trivial
theorem law_holds.tw14497384708736915567 : True := trivial
theorem law_holds.tw676263390381983339 : True := trivial
theorem law_holds.tw10709909458450059161 : True := trivial
theorem law_holds.tw3110860835449505704 : True := trivial
theorem law_holds.tw5212653520564569363 : True := trivial
theorem law_holds.tw1588742098881680585 : True := trivial
theorem law_holds.tw17523808032732122987 : True := trivial
theorem law_holds.tw12645607732203181651 : True := trivial
theorem law_holds.tw228058311090241170 : True := trivial
theorem law_holds.tw15848713872586308078 : True := trivial
theorem law_holds.tw15527639110640922598 : True := trivial
theorem law_holds.tw17237755526102222789 : True := trivial
theorem law_holds.tw4335992446042490282 : True := trivial
theorem law_holds.tw6319825239189999033 : True := trivial
theorem law_holds.tw7089819591129360890 : True := trivial
theorem law_holds.tw2334766641761910077 : True := trivial
theorem law_holds.tw8835965917227929528 : True := trivial
theorem law_holds.tw16307713440670912930 : True := trivial
theorem law_holds.tw13476665736869980405 : True := trivial
theorem law_holds.tw2376695672464595844 : True := trivial
theorem law_holds.tw3586223124089845285 : True := trivial
theorem law_holds.tw1786514562438141433 : True := trivial
theorem law_holds.tw2090888555730037645 : True := trivial
theorem law_holds.tw6116483010803129801 : True := trivial
theorem law_holds.tw13841927423027058892 : True := trivial
theorem law_holds.tw11167238688639235718 : True := trivial
theorem law_holds.tw11347954631545130290 : True := trivial
theorem law_holds.tw4916342969005030805 : True := trivial
theorem law_holds.tw5052586510891348487 : True := trivial
theorem law_holds.tw17903290773200042623 : True := trivial
theorem law_holds.tw3253820488102484341 : True := trivial
theorem law_holds.tw8984712037535005518 : True := trivial
theorem law_holds.tw6035225707136677951 : True := trivial
theorem law_holds.tw18111123423493105736 : True := trivial
theorem law_holds.tw13028658284911697911 : True := trivial
theorem law_holds.tw10108825076125807744 : True := trivial
theorem law_holds.tw10817052189556005596 : True := trivial
theorem law_holds.tw7283070072754485986 : True := trivial
theorem law_holds.tw1995169965324791860 : True := trivial
theorem law_holds.tw10264638600885302300 : True := trivial
theorem law_holds.tw11924911360389889469 : True := trivial
theorem law_holds.tw3494445600050047599 : True := trivial
theorem law_holds.tw12223724995276690173 : True := trivial
theorem law_holds.tw2695550118857162214 : True := trivial
theorem law_holds.tw16060522237011120904 : True := trivial
theorem law_holds.tw5317712747687158720 : True := trivial
theorem law_holds.tw718173064312146323 : True := trivial
theorem law_holds.tw11097158420108258118 : True := trivial
theorem law_holds.tw1622690429015379626 : True := trivial
theorem law_holds.tw3612332870262773283 : True := trivial
theorem law_holds.tw11946022803392826334 : True := trivial
theorem law_holds.tw12595757733621342550 : True := trivial
theorem law_holds.tw3585619396377516438 : True := trivial
theorem law_holds.tw16321023544550192223 : True := trivial
theorem law_holds.tw3958906441317128266 : True := trivial
theorem law_holds.tw17775403365899300489 : True := trivial
theorem law_holds.tw13907478101703683472 : True := trivial
theorem law_holds.tw16009327648451700120 : True := trivial
theorem law_holds.tw8585773674032094923 : True := trivial
theorem law_holds.tw10841264019214440115 : True := trivial
theorem law_holds.tw5471263015024950418 : True := trivial
theorem law_holds.tw13334914271144262431 : True := trivial
theorem law_holds.tw12419048959643632839 : True := trivial
theorem law_holds.tw10609929442622069884 : True := trivial
theorem law_holds.tw4503035019201841076 : True := trivial
theorem law_holds.tw2414074194907454277 : True := trivial
theorem law_holds.tw16184459414616452189 : True := trivial
theorem law_holds.tw16058295139837032614 : True := trivial
theorem law_holds.tw10301956948240465243 : True := trivial
theorem law_holds.tw881140697980615281 : True := trivial
theorem law_holds.tw6667284449218939238 : True := trivial
theorem law_holds.tw687851300278632918 : True := trivial
theorem law_holds.tw13953844522926457337 : True := trivial
theorem law_holds.tw15039968919637362723 : True := trivial
theorem law_holds.tw17545576798567701639 : True := trivial
theorem law_holds.tw15359609613788013507 : True := trivial
theorem law_holds.tw5647190250986860303 : True := trivial
theorem law_holds.tw1989176631692091739 : True := trivial
theorem law_holds.tw5224811545321949972 : True := trivial
theorem law_holds.tw17249539165995611551 : True := trivial
theorem law_holds.tw18255678716917950113 : True := trivial
theorem law_holds.tw3441294181031003726 : True := trivial
theorem law_holds.tw9529696498207198238 : True := trivial
theorem law_holds.tw14289194402921355359 : True := trivial
theorem law_holds.tw1116448407281170742 : True := trivial
theorem law_holds.tw4777767981643802736 : True := trivial
theorem law_holds.tw3215646227880228634 : True := trivial
theorem law_holds.tw17389434848343332794 : True := trivial
theorem law_holds.tw11206171021150027133 : True := trivial
theorem law_holds.tw3381667417286267614 : True := trivial
theorem law_holds.tw17183477848116922584 : True := trivial
theorem law_holds.tw14957179600199517237 : True := trivial
theorem law_holds.tw12874571214893485439 : True := trivial
theorem law_holds.tw12663309570017281627 : True := trivial
theorem law_holds.tw13025991283127020399 : True := trivial
theorem law_holds.tw1414043511812021011 : True := trivial
theorem law_holds.tw8447111591413142418 : True := trivial
theorem law_holds.tw13342518741750886279 : True := trivial
theorem law_holds.tw2353898745366128913 : True := trivial
theorem law_holds.tw2152083551845799040 : True := trivial
theorem law_holds.tw13780023080261437657 : True := trivial
theorem law_holds.tw4741859662064258567 : True := trivial
theorem law_holds.tw10458381655096516384 : True := trivial
theorem law_holds.tw179590077315354965 : True := trivial
theorem law_holds.tw5087963091746180759 : True := trivial
theorem law_holds.tw95925638660483881 : True := trivial
theorem law_holds.tw14621789764659903892 : True := trivial
theorem law_holds.tw5914870393513715829 : True := trivial
theorem law_holds.tw2016121425191149895 : True := trivial
theorem law_holds.tw9161201516280946379 : True := trivial
theorem law_holds.tw6057113334529873379 : True := trivial
theorem law_holds.tw265737237460583615 : True := trivial
theorem law_holds.tw1905533677188600702 : True := trivial
theorem law_holds.tw15533563059666576871 : True := trivial
theorem law_holds.tw2340080995546993249 : True := trivial
theorem law_holds.tw6952529933449102903 : True := trivial
theorem law_holds.tw8509427752941578312 : True := trivial
theorem law_holds.tw17253691774821329096 : True := trivial
theorem law_holds.tw11076989893796303656 : True := trivial
theorem law_holds.tw10977758072711909379 : True := trivial
theorem law_holds.tw14908662282237933112 : True := trivial
theorem law_holds.tw2295933128562542503 : True := trivial
theorem law_holds.tw14741324775375369589 : True := trivial
theorem law_holds.tw12029126673135917974 : True := trivial
theorem law_holds.tw18174757765527757658 : True := trivial
theorem law_holds.tw5045712524691215523 : True := trivial
theorem law_holds.tw9428232062507599395 : True := trivial
theorem law_holds.tw13791147489807684654 : True := trivial
theorem law_holds.tw217386770830766740 : True := trivial
theorem law_holds.tw13055523775352357715 : True := trivial
theorem law_holds.tw6564709946809587534 : True := trivial
theorem law_holds.tw7313538909654459803 : True := trivial
theorem law_holds.tw8061732933902216757 : True := trivial
theorem law_holds.tw4211113817173803656 : True := trivial
theorem law_holds.tw4635674611617693574 : True := trivial
theorem law_holds.tw14377833709258309704 : True := trivial
theorem law_holds.tw8701503649254672115 : True := trivial
theorem law_holds.tw2644310842459337959 : True := trivial
theorem law_holds.tw2602977815382960713 : True := trivial
theorem law_holds.tw6346621912233149993 : True := trivial
theorem law_holds.tw6368222172908013342 : True := trivial
theorem law_holds.tw13959763950245974101 : True := trivial
theorem law_holds.tw4273555757443719353 : True := trivial
theorem law_holds.tw1713144814433471595 : True := trivial
theorem law_holds.tw9785522067705436687 : True := trivial
theorem law_holds.tw14688257501491213770 : True := trivial
theorem law_holds.tw12001131798957381970 : True := trivial
theorem law_holds.tw850272041215511910 : True := trivial
theorem law_holds.tw16190568399584723965 : True := trivial
theorem law_holds.tw10024239376800412576 : True := trivial
theorem law_holds.tw13429453918920967058 : True := trivial
theorem law_holds.tw16895252004520475267 : True := trivial
theorem law_holds.tw18155977372800253590 : True := trivial
theorem law_holds.tw2823118279179183905 : True := trivial
theorem law_holds.tw5222685764011923507 : True := trivial
theorem law_holds.tw16482278838752557086 : True := trivial
theorem law_holds.tw15985639844270965063 : True := trivial
theorem law_holds.tw5753924415299393750 : True := trivial
theorem law_holds.tw9008208021394543004 : True := trivial
theorem law_holds.tw10009549156579704288 : True := trivial
theorem law_holds.tw11046636381182338224 : True := trivial
theorem law_holds.tw10079444305495103266 : True := trivial
theorem law_holds.tw16563099163409725306 : True := trivial
theorem law_holds.tw4593294709026258786 : True := trivial
theorem law_holds.tw2006301483956418059 : True := trivial
theorem law_holds.tw1378268572249521416 : True := trivial
theorem law_holds.tw7705907089059582203 : True := trivial
theorem law_holds.tw17499823404086765753 : True := trivial
theorem law_holds.tw2557128651999224082 : True := trivial
theorem law_holds.tw270554467692517631 : True := trivial
theorem law_holds.tw4568741812840581045 : True := trivial
theorem law_holds.tw14326059299131336239 : True := trivial
theorem law_holds.tw3532448111676096983 : True := trivial
theorem law_holds.tw18090433342136740992 : True := trivial
theorem law_holds.tw8806649888931605024 : True := trivial
theorem law_holds.tw5117662029339320154 : True := trivial
theorem law_holds.tw5994716906283268228 : True := trivial
theorem law_holds.tw6746360682218282392 : True := trivial
theorem law_holds.tw14397643838129463549 : True := trivial
theorem law_holds.tw1259527544541082201 : True := trivial
theorem law_holds.tw4524032621918665186 : True := trivial
theorem law_holds.tw17910646669766240164 : True := trivial
theorem law_holds.tw4538803929270698141 : True := trivial
theorem law_holds.tw12503156628232749375 : True := trivial
theorem law_holds.tw11609493526922420660 : True := trivial
theorem law_holds.tw2907507879108658156 : True := trivial
theorem law_holds.tw10726727282670432768 : True := trivial
theorem law_holds.tw3329330481660614911 : True := trivial
theorem law_holds.tw2039724139929955007 : True := trivial
theorem law_holds.tw14064573792008682920 : True := trivial
theorem law_holds.tw16935243356766158856 : True := trivial
theorem law_holds.tw14421849669547354848 : True := trivial
theorem law_holds.tw9779807473162285230 : True := trivial
theorem law_holds.tw17180001009569633970 : True := trivial
theorem law_holds.tw10350734228115807855 : True := trivial
theorem law_holds.tw476746816491698631 : True := trivial
theorem law_holds.tw4010602895031118862 : True := trivial
theorem law_holds.tw16335311869981183947 : True := trivial
theorem law_holds.tw14997073306097389879 : True := trivial
theorem law_holds.tw2942997478722737997 : True := trivial
theorem law_holds.tw12630202973874032511 : True := trivial
set_option Elab.async true in
theorem law_holds : Challenge.rw_dn0059_07.Holds := by
  (w_on; o_law; k_head; (case hw => w_witness2))
  k_with_none
  k_with "exec Assign cons ListComp" => (k_here; k_dflt (refine LCg.Assign_ListComp_U (F₀ := by k_asm) (by rfl) (by with_unfolding_all rfl) (by rfl) (by decide) (by rfl) (by decide) (by rfl) (by rfl) (by rfl) ?_))
  k_with "CompSrc" => (refine stop_intro ?_)
  k_with "execs cons" => first | ((with_reducible refine execs_one ?_); try dsimp only) | ((with_reducible refine wpAny_execs_cons ?_); try dsimp only)
  k_with "execs nil" => (refine wpAny_execs_nil ?_)
  k_with "call type:range" => (refine stop_intro ?_)
  k_with "call ref" => (refine stop_intro ?_)
  k_with "exec For" => (k_dflt (refine for_mine ?_))
  k_with "exec For Name Name cons nil" => (k_dflt (refine for_mine ?_))
  k_with "exec For Name Subscript cons nil" => (k_dflt (refine for_mine ?_))
  k_with "exec For Name Call cons nil" => (k_dflt (refine for_mine ?_))
  k_with "exec For Tuple Name cons nil" => (k_dflt (refine for_mine ?_))
  k_with "exec For Name Name cons nil" => (k_dflt (refine for_mine ?_))
  k_with "exec For Name Call cons nil" => (k_dflt (refine for_mine ?_))
  k_with "exec For Name Subscript cons nil" => (k_dflt (refine for_mine ?_))
  k_with "pyIter ref" => (refine stop_intro ?_)
  k_with "exec If" => (refine stop_intro ?_)
  k_go0
  (all_goals try k_fold)
  rename Frag.In _ _ => KX0
  have KX : (pre.heap_1 _).In _ := KX0
  clear KX0
  revert KX; k_fill; intro KX
  rename IntsAre _ _ => hI
  rename Heap.IsList _ _ _ => hL
  rename ¬ _ < _ => hlen
  rename List Int => ns
  rename List Value => vs
  have hvl : vs.toArray.size = ns.length := by rw [List.size_toArray]; exact hI.length
  k_steps
  refine Stop.out ?_
  rename News _ _ _ _ => NN; rename Fr _ _ _ _ => FF
  refine LCg.CompSrc.base (by rfl) FF NN hL (by rw [sizeLine_eq, hvl]; omega) ?_
  clear FF NN
  intro g
  rw [hvl]
  refine rest_fold (items := ns) (rel := fun z v => ∃ t, v = .int z t) (out := fun z v => ∃ t, v = .int (z.natAbs : Int) t) ?_ ?_ ?_
  · intro i v hv
    obtain ⟨z, tz, rfl, hz⟩ := hI.at i v (by simpa using hv)
    exact ⟨z, hz, tz, rfl⟩
  · rintro z v I oI C oC D m₂ ys h tk E' hz ⟨u, rfl⟩ hyl hC hx F₁ N₁ off ⟨n1, n2, n3⟩
    k_steps
    · rw [abs_is]
  · intro ys hys D h tk F₁ N₁ o1
    have hys' := outs_ints hys
    have hnl : (ns.map fun z => (z.natAbs : Int)).length ≤ 63 := by rw [List.length_map]; omega
    generalize (ns.map fun z => (z.natAbs : Int)) = zs at hys' hnl
    k_steps
    refine Stop.out ?_
    rename News _ _ _ _ => NN; rename Fr _ _ _ _ => FF
    refine cut_at FF (fun m' news' => ∃ D' vs' nn zs', m' (Str.ofString "numbers") = some (.ref D') ∧ news' = [(D', listOf vs'.toArray nn)] ∧ IntsAre vs' zs' ∧ zs' ≠ [] ∧ zs'.length ≤ 63) ?_ ?_
    · refine wpAny_If ?_
      k_steps
      · rename News _ _ _ _ => NN; rename Fr _ _ _ _ => FF
        exact CutE.next FF (News.sub NN fun q hq => by rw [List.mem_singleton.mp hq]; exact .head _) ⟨_, [_], _, [0], rfl, rfl, .cons _ _ .nil, by decide, by decide⟩
      · rename News _ _ _ _ => NN; rename Fr _ _ _ _ => FF
        rename decide _ = false => hdz
        exact CutE.next FF (News.sub NN fun q hq => by rw [List.mem_singleton.mp hq]; exact .tail _ (.head _)) ⟨D, ys, _, zs, rfl, rfl, hys', of_decide_eq_false hdz, hnl⟩
    · clear FF NN
      rintro h' tk' m' news' F₁ N₁ ⟨D', vs', nn, zs', e1, rfl, hi, hne, hzl⟩
      obtain ⟨z0, t0, vs'', zs'', rfl, rfl, hi'⟩ := ints_ne hi hne
      have F₂ := fr_over [(Str.ofString "numbers", .ref D')] F₁ (by
        intro q hq
        rw [List.mem_singleton.mp hq]
        exact e1)
      clear F₁
      dsimp only
      k_steps
      refine Stop.out ?_
      rename News _ _ _ _ => NN; rename Fr _ _ _ _ => FF
      dsimp only at FF NN
      have fm0 := fmod_lo ((z0 :: zs'').getD (Int.toNat 0) 0) (n := 3) (by decide)
      have fm1 := fmod_hi ((z0 :: zs'').getD (Int.toNat 0) 0) (n := 3) (by decide)
      obtain ⟨o, ho, eo⟩ : ∃ o : Nat, o ≤ 2 ∧ ((z0 :: zs'').getD (Int.toNat 0) 0).fmod 3 = (o : Int) := ⟨(((z0 :: zs'').getD (Int.toNat 0) 0).fmod 3).toNat, by omega, by omega⟩
      rw [eo] at FF
      refine' draw_ok ?k1 FF ?k3 NN ?k5 ?k6 (.cons _ _ hi') ?k8 ?k9 ?k10 ?_
      case k1 => k_asm
      case k3 => k_asm
      case k5 => k_asm
      case k6 => exact rfl
      case k9 => ktr_room
      case k10 => ktr_units
      case k8 => rw [List.length_cons] at hzl ⊢; omega
      clear FF NN
      intro Tp Lv x t ls ts k h₂ tk₂ hdr hls F₃ N₃
      k_steps
      refine Stop.out ?_
      rename News _ _ _ _ => NN; rename Fr _ _ _ _ => FF
      rename IntsAre ls _ => hls
      have hsz : ts.length ≤ 4 ∧ x.cps.toList.length ≤ 24 ∨ ts.length ≤ 2 ∧ x.cps.toList.length ≤ 80 := by rw [show x.cps.toList.length = x.length from Array.length_toList]; exact hdr.size
      refine iter_name2 rfl (NN.isList (.tail _ (.head _))) (NN _ (.tail _ (.head _))).2.1 rfl rfl FF (newsL NN) ?hE
        (fun i m₁ news₁ => ∃ t₁ to₁, m₁ (Str.ofString "told") = some (.str (ofL (tell x.cps.toList (ts.take i))) t₁) ∧ m₁ (Str.ofString "levels") = some (.ref Lv) ∧ m₁ (Str.ofString "text") = some (.str x t) ∧ m₁ (Str.ofString "outer") = some (.int (o : Int) to₁) ∧
          news₁ = [(Lv, listOf ls.toArray k)])
        ?h0 ?_ ?_
      case hE => passes_own
      case h0 => exact ⟨t, _, congrArg (fun z => some (Value.str z t)) (toL_ofL x).symm, rfl, rfl, rfl, rfl⟩
      · clear FF NN
        rintro i v m₁ news₁ h₁ tk₁ own I htk hv ⟨t₁, to₁, e1, e2, e3, e4, rfl⟩ ⟨oI, hoI⟩ off hsub F₁ N₁
        obtain ⟨z, tz, rfl, hz⟩ := hls.at i v hv
        obtain ⟨tm, htm, rfl⟩ : ∃ tm : Nat, ts[i]? = some tm ∧ (tm : Int) = z := by
          rw [List.getElem?_map] at hz
          cases hpi : ts[i]? with
          | none => rw [hpi] at hz; cases hz
          | some q => rw [hpi] at hz; exact ⟨q, rfl, Option.some.inj hz⟩
        have htm2 := hdr.lev tm (List.mem_of_getElem? htm)
        have F₂ := fr_over [(Str.ofString "times", .int (tm : Int) tz), (Str.ofString "told", .str (ofL (tell x.cps.toList (ts.take i))) t₁), (Str.ofString "levels", .ref Lv), (Str.ofString "text", .str x t), (Str.ofString "outer", .int (o : Int) to₁)] F₁ (by
          intro q hq
          simp only [List.mem_cons, List.not_mem_nil, or_false] at hq
          rcases hq with rfl | rfl | rfl | rfl | rfl
          · rfl
          · exact (if_neg (show ¬ Str.ofString "told" = Str.ofString "times" by decide)).trans e1
          · exact (if_neg (show ¬ Str.ofString "levels" = Str.ofString "times" by decide)).trans e2
          · exact (if_neg (show ¬ Str.ofString "text" = Str.ofString "times" by decide)).trans e3
          · exact (if_neg (show ¬ Str.ofString "outer" = Str.ofString "times" by decide)).trans e4)
        clear F₁ e1 e2 e3 e4
        k_steps
        refine Stop.out ?_
        rename News _ _ _ _ => NN; rename Fr _ _ _ _ => FF
        refine range1_rows FF NN ?_
        clear FF NN
        intro h₂ tk₂ t₂ u₂ v₂ hr F₂ N₂ _
        refine iter_range rfl hr (by omega) rfl rfl F₂ N₂ (by passes_own)
          (fun q m₁ news₁ => ∃ t₁ to₁, m₁ (Str.ofString "told") = some (.str (ofL (escN q (tell x.cps.toList (ts.take i)))) t₁) ∧ m₁ (Str.ofString "levels") = some (.ref Lv) ∧ m₁ (Str.ofString "text") = some (.str x t) ∧ m₁ (Str.ofString "outer") = some (.int (o : Int) to₁) ∧
            news₁ = own ++ [(Lv, listOf ls.toArray k)])
          ?h0 ?_ ?_
        case h0 => exact ⟨t₁, to₁, rfl, rfl, rfl, rfl, rfl⟩
        · clear F₂ N₂
          rintro q v m₁ news₁ h₁ tk₁ own₂ I₂ htk hq ⟨t₁, to₁, e1, e2, e3, e4, rfl⟩ ⟨oI₂, hoI₂⟩ off₂ hsub₂ F₁ N₁
          have F₂ := fr_over [(Str.ofString "told", .str (ofL (escN q (tell x.cps.toList (ts.take i)))) t₁), (Str.ofString "levels", .ref Lv), (Str.ofString "text", .str x t), (Str.ofString "outer", .int (o : Int) to₁)] F₁ (by
            intro q hq
            simp only [List.mem_cons, List.not_mem_nil, or_false] at hq
            rcases hq with rfl | rfl | rfl | rfl
            · exact (if_neg (show ¬ Str.ofString "told" = Str.ofString "turn" by decide)).trans e1
            · exact (if_neg (show ¬ Str.ofString "levels" = Str.ofString "turn" by decide)).trans e2
            · exact (if_neg (show ¬ Str.ofString "text" = Str.ofString "turn" by decide)).trans e3
            · exact (if_neg (show ¬ Str.ofString "outer" = Str.ofString "turn" by decide)).trans e4)
          clear F₁ e1 e2 e3 e4
          k_steps
          refine Stop.out ?_
          rename News _ _ _ _ => NN; rename Fr _ _ _ _ => FF
          refine' escape_ok (q := true) (.inr ⟨rfl, rfl⟩) ?k1 FF ?k3 NN ?k5 ?k6 ?kt ?kl ?k9 ?k10 ?_
          case k1 => k_asm
          case k3 => k_asm
          case k5 => k_asm
          case k6 => exact rfl
          case k9 => ktr_room
          case k10 => ktr_units
          case kt => exact htk
          case kl => exact told_len' (o := q + 1) hdr.lev hsz (by omega)
          clear FF NN
          intro t₃ h₃ tk₃ htk₃ F₃ N₃
          k_steps
          rename News _ _ _ _ => NN; rename Fr _ _ _ _ => FF
          exact LE.next FF NN (fun p hp hm => off₂ p hp (List.mem_singleton.mp hm)) ⟨_, _, rfl, rfl, rfl, rfl, rfl⟩
        · clear F₂ N₂
          rintro h₃ tk₃ m₁ news₁ F₁ N₁ ⟨t₁, to₁, e1, e2, e3, e4, rfl⟩
          have F₂ := fr_over [(Str.ofString "told", .str (ofL (escN tm (tell x.cps.toList (ts.take i)))) t₁), (Str.ofString "levels", .ref Lv), (Str.ofString "text", .str x t), (Str.ofString "outer", .int (o : Int) to₁)] F₁ (by
            intro q hq
            simp only [List.mem_cons, List.not_mem_nil, or_false] at hq
            rcases hq with rfl | rfl | rfl | rfl
            · exact e1
            · exact e2
            · exact e3
            · exact e4)
          clear F₁ e1 e2 e3 e4
          dsimp only
          k_steps
          refine Stop.out ?_
          rename News _ _ _ _ => NN; rename Fr _ _ _ _ => FF
          refine' quote_ok ?k1 FF ?k3 NN ?k5 ?k6 ?kl ?k9 ?k10 ?_
          case k1 => k_asm
          case k3 => k_asm
          case k5 => k_asm
          case k6 => exact rfl
          case k9 => ktr_room
          case k10 => ktr_units
          case kl => exact told_len' hdr.lev hsz htm2
          clear FF NN
          intro t₃ h₃ tk₃ htk₃ F₃ N₃
          k_steps
          rename News _ _ _ _ => NN; rename Fr _ _ _ _ => FF
          refine LE.next FF NN (fun p hp hm => off p hp (List.mem_singleton.mp hm)) ⟨t₃, _, ?_, rfl, rfl, rfl, rfl⟩
          rw [List.take_add_one, htm]
          show _ = some (Value.str (ofL (tell x.cps.toList (ts.take i ++ [tm]))) _)
          rw [tell_snoc]
          rfl
      · clear FF NN
        rintro h₁ tk₁ m₁ news₁ F₁ N₁ ⟨t₁, to₁, e1, e2, e3, e4, rfl⟩
        rw [hls.length, List.length_map, List.take_length] at e1
        have F₂ := fr_over [(Str.ofString "told", .str (ofL (tell x.cps.toList ts)) t₁), (Str.ofString "levels", .ref Lv), (Str.ofString "text", .str x t), (Str.ofString "outer", .int (o : Int) to₁)] F₁ (by
          intro q hq
          simp only [List.mem_cons, List.not_mem_nil, or_false] at hq
          rcases hq with rfl | rfl | rfl | rfl
          · exact e1
          · exact e2
          · exact e3
          · exact e4)
        clear F₁ e1 e2 e3 e4
        dsimp only
        k_steps
        refine Stop.out ?_
        rename News _ _ _ _ => NN; rename Fr _ _ _ _ => FF
        refine range1_rows FF NN ?_
        clear FF NN
        intro h₂ tk₂ t₂ u₂ v₂ hr F₂ N₂ _
        refine iter_range rfl hr (by omega) rfl rfl F₂ N₂ (by passes_own)
          (fun q m₁ news₁ => ∃ t₁ to₁, m₁ (Str.ofString "told") = some (.str (ofL (escN q (tell x.cps.toList ts))) t₁) ∧ m₁ (Str.ofString "levels") = some (.ref Lv) ∧ m₁ (Str.ofString "text") = some (.str x t) ∧ m₁ (Str.ofString "outer") = some (.int (o : Int) to₁) ∧
            news₁ = [(Lv, listOf ls.toArray k)])
          ?h0 ?_ ?_
        case h0 => exact ⟨t₁, to₁, rfl, rfl, rfl, rfl, rfl⟩
        · clear F₂ N₂
          rintro q v m₁ news₁ h₁ tk₁ own₂ I₂ htk hq ⟨t₁, to₁, e1, e2, e3, e4, rfl⟩ ⟨oI₂, hoI₂⟩ off₂ hsub₂ F₁ N₁
          have F₂ := fr_over [(Str.ofString "told", .str (ofL (escN q (tell x.cps.toList ts))) t₁), (Str.ofString "levels", .ref Lv), (Str.ofString "text", .str x t), (Str.ofString "outer", .int (o : Int) to₁)] F₁ (by
            intro q hq
            simp only [List.mem_cons, List.not_mem_nil, or_false] at hq
            rcases hq with rfl | rfl | rfl | rfl
            · exact (if_neg (show ¬ Str.ofString "told" = Str.ofString "turn" by decide)).trans e1
            · exact (if_neg (show ¬ Str.ofString "levels" = Str.ofString "turn" by decide)).trans e2
            · exact (if_neg (show ¬ Str.ofString "text" = Str.ofString "turn" by decide)).trans e3
            · exact (if_neg (show ¬ Str.ofString "outer" = Str.ofString "turn" by decide)).trans e4)
          clear F₁ e1 e2 e3 e4
          k_steps
          refine Stop.out ?_
          rename News _ _ _ _ => NN; rename Fr _ _ _ _ => FF
          refine' escape_ok (q := true) (.inr ⟨rfl, rfl⟩) ?k1 FF ?k3 NN ?k5 ?k6 ?kt ?kl ?k9 ?k10 ?_
          case k1 => k_asm
          case k3 => k_asm
          case k5 => k_asm
          case k6 => exact rfl
          case k9 => ktr_room
          case k10 => ktr_units
          case kt => exact htk
          case kl => exact told_len (o := q + 1) hdr.lev hsz (by omega)
          clear FF NN
          intro t₃ h₃ tk₃ htk₃ F₃ N₃
          k_steps
          rename News _ _ _ _ => NN; rename Fr _ _ _ _ => FF
          exact LE.next FF NN (fun p hp hm => off₂ p hp (List.mem_singleton.mp hm)) ⟨_, _, rfl, rfl, rfl, rfl, rfl⟩
        · clear F₂ N₂
          rintro h₁ tk₁ m₁ news₁ F₁ N₁ ⟨t₁, to₁, e1, e2, e3, e4, rfl⟩
          rw [told_due] at e1
          have F₂ := fr_over [(Str.ofString "told", .str (ofL (due x.cps.toList ts o)) t₁), (Str.ofString "levels", .ref Lv), (Str.ofString "text", .str x t), (Str.ofString "outer", .int (o : Int) to₁)] F₁ (by
            intro q hq
            simp only [List.mem_cons, List.not_mem_nil, or_false] at hq
            rcases hq with rfl | rfl | rfl | rfl
            · exact e1
            · exact e2
            · exact e3
            · exact e4)
          clear F₁ e1 e2 e3 e4
          dsimp only
          k_steps
          refine Stop.out ?_
          refine wpAny_If ?_
          k_steps
          refine Stop.out ?_
          rename News _ _ _ _ => NN; rename Fr _ _ _ _ => FF
          refine' due_ok ?k1 FF ?k3 NN ?k5 ?k6 hls hdr.lev hdr.size ho (signs_ok hdr.signs) ?k9 ?k10 ?_
          case k1 => k_asm
          case k3 => k_asm
          case k5 => k_asm
          case k6 => exact rfl
          case k9 => ktr_room
          case k10 => ktr_units
          clear FF NN
          intro t₃ h₃ tk₃ F₃ N₃
          k_steps
          refine Stop.out ?_
          rename News _ _ _ _ => NN; rename Fr _ _ _ _ => FF
          refine range1_rows FF NN ?_
          clear FF NN
          intro h₂ tk₂ t₂ u₂ v₂ hr F₂ N₂ _
          refine iter_range rfl hr (by omega) rfl rfl F₂ N₂ (by passes_own)
            (fun q m₁ news₁ => ∃ t₁, m₁ (Str.ofString "told") = some (.str (ofL (escN (o - q) (tell x.cps.toList ts))) t₁) ∧ m₁ (Str.ofString "levels") = some (.ref Lv) ∧ m₁ (Str.ofString "text") = some (.str x t) ∧
              news₁ = [(Lv, listOf ls.toArray k)])
            ?h0 ?_ ?_
          case h0 =>
            refine ⟨t₁, ?_, rfl, rfl, rfl⟩
            rw [Nat.sub_zero, told_due]; rfl
          · clear F₂ N₂
            rintro q v m₁ news₁ h₁ tk₁ own₂ I₂ htk hq ⟨t₁, e1, e2, e3, rfl⟩ ⟨oI₂, hoI₂⟩ off₂ hsub₂ F₁ N₁
            have F₂ := fr_over [(Str.ofString "told", .str (ofL (escN (o - q) (tell x.cps.toList ts))) t₁), (Str.ofString "levels", .ref Lv), (Str.ofString "text", .str x t)] F₁ (by
              intro q hq
              simp only [List.mem_cons, List.not_mem_nil, or_false] at hq
              rcases hq with rfl | rfl | rfl
              · exact (if_neg (show ¬ Str.ofString "told" = Str.ofString "turn" by decide)).trans e1
              · exact (if_neg (show ¬ Str.ofString "levels" = Str.ofString "turn" by decide)).trans e2
              · exact (if_neg (show ¬ Str.ofString "text" = Str.ofString "turn" by decide)).trans e3)
            clear F₁ e1 e2 e3
            k_steps
            refine Stop.out ?_
            rename News _ _ _ _ => NN; rename Fr _ _ _ _ => FF
            refine' read_ok ?k1 FF ?k3 NN ?k5 ?k6 ?kl ?k9 ?k10 ?_
            case k1 => k_asm
            case k3 => k_asm
            case k5 => k_asm
            case k6 => exact rfl
            case k9 => ktr_room
            case k10 => ktr_units
            case kl => exact told_len (o := o - q) hdr.lev hsz (by omega)
            clear FF NN
            intro t₃ h₃ tk₃ F₃ N₃
            k_steps
            rename News _ _ _ _ => NN; rename Fr _ _ _ _ => FF
            refine LE.next FF NN (fun p hp hm => off₂ p hp (List.mem_singleton.mp hm)) ⟨t₃, ?_, rfl, rfl, rfl⟩
            show some (Value.str (ofL (readL (escN (o - q) (tell x.cps.toList ts)))) t₃) = _
            rw [show o - q = (o - (q + 1)) + 1 by omega]
            show some (Value.str (ofL (readL (escL true (escN (o - (q + 1)) (tell x.cps.toList ts))))) t₃) = _
            rw [readL_esc]
          · clear F₂ N₂
            rintro h₁ tk₁ m₁ news₁ F₁ N₁ ⟨t₁, e1, e2, e3, rfl⟩
            rw [Nat.sub_self] at e1
            have F₂ := fr_over [(Str.ofString "told", .str (ofL (tell x.cps.toList ts)) t₁), (Str.ofString "levels", .ref Lv), (Str.ofString "text", .str x t)] F₁ (by
              intro q hq
              simp only [List.mem_cons, List.not_mem_nil, or_false] at hq
              rcases hq with rfl | rfl | rfl
              · exact e1
              · exact e2
              · exact e3)
            clear F₁ e1 e2 e3
            dsimp only
            k_steps
            refine Stop.out ?_
            rename News _ _ _ _ => NN; rename Fr _ _ _ _ => FF
            rename IntsAre _ (List.reverse _) => hrv
            refine iter_name2 rfl (NN.isList (.head _)) (NN _ (.head _)).2.1 rfl rfl FF (News.nil) (by passes_own)
              (fun i m₁ news₁ => ∃ t₁, m₁ (Str.ofString "told") = some (.str (ofL (tell x.cps.toList (ts.take (ts.length - i)))) t₁) ∧ m₁ (Str.ofString "text") = some (.str x t) ∧ news₁ = [])
              ?h0 ?_ ?_
            case h0 =>
              refine ⟨t₁, ?_, rfl, rfl⟩
              rw [Nat.sub_zero, List.take_length]; rfl
            · clear FF NN
              rintro i v m₁ news₁ h₁ tk₁ own I htk hv ⟨t₁, e1, e3, rfl⟩ ⟨oI, hoI⟩ off hsub F₁ N₁
              obtain ⟨z, tz, rfl, hz⟩ := hrv.at i v hv
              obtain ⟨j, tm, hj1, hj2, hj, rfl⟩ := rev_at hz
              have htm2 := hdr.lev tm (List.mem_of_getElem? hj)
              rw [hj1, tell_pop hj] at e1
              have F₂ := fr_over [(Str.ofString "times", .int (tm : Int) tz), (Str.ofString "told", .str (ofL (qt (escN tm (tell x.cps.toList (ts.take j))))) t₁), (Str.ofString "text", .str x t)] F₁ (by
                intro q hq
                simp only [List.mem_cons, List.not_mem_nil, or_false] at hq
                rcases hq with rfl | rfl | rfl
                · rfl
                · exact (if_neg (show ¬ Str.ofString "told" = Str.ofString "times" by decide)).trans e1
                · exact (if_neg (show ¬ Str.ofString "text" = Str.ofString "times" by decide)).trans e3)
              clear F₁ e1 e3
              rw [List.append_nil] at N₁
              k_steps
              refine Stop.out ?_
              rename News _ _ _ _ => NN; rename Fr _ _ _ _ => FF
              refine' split_ok (xs := [ofL (escN tm (tell x.cps.toList (ts.take j)))]) ?k1 FF ?k3 NN ?k5 ?k6 ?kl ?k9 ?k10 (lexes_qt _) (by show (1 : Nat) ≤ _; decide) ?_
              case k1 => k_asm
              case k3 => k_asm
              case k5 => k_asm
              case k6 => exact rfl
              case k9 => ktr_room
              case k10 => ktr_units
              case kl =>
                have := told_len' (o := 0) (i := j + 1) hdr.lev hsz (by omega)
                rw [tell_pop hj] at this
                exact this
              clear FF NN
              intro S vs n₃ h₃ tk₃ F₃ N₃ hS hst
              obtain ⟨ty, rfl⟩ : ∃ ty, vs = [Value.str (ofL (escN tm (tell x.cps.toList (ts.take j)))) ty] := by
                cases hst with
                | cons _ _ h => cases h; exact ⟨_, rfl⟩
              k_steps
              refine Stop.out ?_
              refine wpAny_If ?_
              k_steps
              refine Stop.out ?_
              rename News _ _ _ _ => NN; rename Fr _ _ _ _ => FF
              refine range1_rows FF (newsS NN) ?_
              clear FF NN
              intro h₂ tk₂ t₂ u₂ v₂ hr F₂ N₂ _
              refine iter_range rfl hr (by omega) rfl rfl F₂ N₂ (by passes_own)
                (fun q m₁ news₁ => ∃ t₁, m₁ (Str.ofString "told") = some (.str (ofL (escN (tm - q) (tell x.cps.toList (ts.take j)))) t₁) ∧ m₁ (Str.ofString "text") = some (.str x t) ∧ news₁ = own)
                ?h0 ?_ ?_
              case h0 => exact ⟨ty, rfl, rfl, rfl⟩
              · clear F₂ N₂
                rintro q v m₁ news₁ h₁ tk₁ own₂ I₂ htk hq ⟨t₁, e1, e3, rfl⟩ ⟨oI₂, hoI₂⟩ off₂ hsub₂ F₁ N₁
                have F₂ := fr_over [(Str.ofString "told", .str (ofL (escN (tm - q) (tell x.cps.toList (ts.take j)))) t₁), (Str.ofString "text", .str x t)] F₁ (by
                  intro q hq
                  simp only [List.mem_cons, List.not_mem_nil, or_false] at hq
                  rcases hq with rfl | rfl
                  · exact (if_neg (show ¬ Str.ofString "told" = Str.ofString "turn" by decide)).trans e1
                  · exact (if_neg (show ¬ Str.ofString "text" = Str.ofString "turn" by decide)).trans e3)
                clear F₁ e1 e3
                k_steps
                refine Stop.out ?_
                rename News _ _ _ _ => NN; rename Fr _ _ _ _ => FF
                refine' read_ok ?k1 FF ?k3 NN ?k5 ?k6 ?kl ?k9 ?k10 ?_
                case k1 => k_asm
                case k3 => k_asm
                case k5 => k_asm
                case k6 => exact rfl
                case k9 => ktr_room
                case k10 => ktr_units
                case kl => exact told_len' (o := tm - q) hdr.lev hsz (by omega)
                clear FF NN
                intro t₃ h₃ tk₃ F₃ N₃
                k_steps
                rename News _ _ _ _ => NN; rename Fr _ _ _ _ => FF
                refine LE.next FF NN (fun p hp hm => off₂ p hp (List.mem_singleton.mp hm)) ⟨t₃, ?_, rfl, rfl⟩
                show some (Value.str (ofL (readL (escN (tm - q) (tell x.cps.toList (ts.take j))))) t₃) = _
                rw [show tm - q = (tm - (q + 1)) + 1 by omega]
                show some (Value.str (ofL (readL (escL true (escN (tm - (q + 1)) (tell x.cps.toList (ts.take j)))))) t₃) = _
                rw [readL_esc]
              · clear F₂ N₂
                rintro h₃ tk₃ m₁ news₁ F₁ N₁ ⟨t₁, e1, e3, rfl⟩
                rw [Nat.sub_self] at e1
                dsimp only
                k_steps
                refine LE.next F₁ (by rw [List.append_nil]; exact N₁) (fun p hp => by cases hp) ⟨t₁, ?_, e3, rfl⟩
                rw [hj2]
                exact e1
            · clear FF NN
              rintro h₁ tk₁ m₁ news₁ F₁ N₁ ⟨t₁, e1, e3, rfl⟩
              rw [hrv.length, List.length_reverse, List.length_map, Nat.sub_self, List.take_zero] at e1
              have e1' : m₁ (Str.ofString "told") = some (.str x t₁) := by rw [e1]; exact congrArg (fun z => some (Value.str z t₁)) (toL_ofL x)
              have F₂ := fr_over [(Str.ofString "told", .str x t₁), (Str.ofString "text", .str x t)] F₁ (by
                intro q hq
                simp only [List.mem_cons, List.not_mem_nil, or_false] at hq
                rcases hq with rfl | rfl
                · exact e1'
                · exact e3)
              clear F₁ e1 e3 e1'
              dsimp only
              k_steps
end
end Mine
theorem PySem.Challenge.cw_dn0059_07_holds : PySem.Challenge.rw_dn0059_07.Holds :=
  Mine.law_holds
