import PyProof.Rows.All
import Wide.All
import OpenK.AllK
import Wide.FinOn
import PyProof.ToksMono
import PySem.Challenge.RW_sc0036_01
set_option Elab.async false
section
open PySem PySem.W PyProof.Rows
set_option maxRecDepth 100000
set_option maxHeartbeats 8000000
namespace Mine
open_top hd for PySem.Challenge.rw_sc0036_01
end Mine
end
section
open PySem PySem.W PyProof.Rows PySem.Calls
set_option maxRecDepth 100000
set_option maxHeartbeats 4000000
namespace Mine
theorem ci_slot_next : Slot "callable_iterator" "__next__" "callable_iterator.__next__" :=
  .of (owner := "callable_iterator") (n := "__next__") (by rw [typeLookup_type, builtinLookup_eq_fast]; kernel_rfl) (by decide +kernel) (by decide +kernel) (by decide +kernel)
    (by first | exact .inl (by decide +kernel) | exact .inr (by decide +kernel)) (by rw [isSubtype_type]; kernel_rfl)
theorem ci_slot_iter : Slot "callable_iterator" "__iter__" "callable_iterator.__iter__" :=
  .of (owner := "callable_iterator") (n := "__iter__") (by rw [typeLookup_type, builtinLookup_eq_fast]; kernel_rfl) (by decide +kernel) (by decide +kernel) (by decide +kernel)
    (by first | exact .inl (by decide +kernel) | exact .inr (by decide +kernel)) (by rw [isSubtype_type]; kernel_rfl)
theorem ci_entry_next : entryFor table "callable_iterator.__next__" = some Builtin.«callable_iterator.__next__» := entryFor_of_tree (by kernel_rfl)
theorem ci_entry_iter : entryFor table "callable_iterator.__iter__" = some Builtin.«dict_keyiterator.__iter__» :=
  entryFor_alias (id' := "dict_keyiterator.__iter__") (by rw [fastTable_eq_tree]; kernel_rfl) (by first | rfl | decide +kernel) (by decide +kernel) (by rw [fastTable_eq_tree]; kernel_rfl)
theorem ci_owner : Manifest.owners.lookup (String.ofList ['r', 'o', 't', 'a', 'r', 'e', 't', 'i', '_', 'e', 'l', 'b', 'a', 'l', 'l', 'a', 'c'].reverse) = some Manifest.sig_callable_iterator := by kernel_rfl
theorem ci_args_next (a : Value) : argsOk "callable_iterator.__next__" ⟨[a], []⟩ := by
  unfold argsOk; rw [signature?_of (id := "callable_iterator.__next__") (n := ['_', '_', 't', 'x', 'e', 'n', '_', '_']) (o := ['r', 'o', 't', 'a', 'r', 'e', 't', 'i', '_', 'e', 'l', 'b', 'a', 'l', 'l', 'a', 'c']) (by kernel_rfl) ci_owner]; kernel_rfl
theorem ci_args_iter (a : Value) : argsOk "callable_iterator.__iter__" ⟨[a], []⟩ := by
  unfold argsOk; rw [signature?_of (id := "callable_iterator.__iter__") (n := ['_', '_', 'r', 'e', 't', 'i', '_', '_']) (o := ['r', 'o', 't', 'a', 'r', 'e', 't', 'i', '_', 'e', 'l', 'b', 'a', 'l', 'l', 'a', 'c']) (by kernel_rfl) ci_owner]; kernel_rfl

section
variable {prog : Program} {w : World} {A : Around} {E : Value → Shared → Prop} {s : Shared}

abbrev ciObj (f sent : Value) (e : Bool) : Obj := { cls := .type "callable_iterator", data := .fields #[f, sent, .bool e] }

theorem ci_pyIter {it : Addr} {f sent : Value} {e : Bool} {Q : Value → Shared → Prop} (ho : s.heap.get? it = some (ciObj f sent e)) (hQ : Q (.ref it) s) :
    wpAny (model prog w) A (pyIter (.ref it)) Q E s := by
  have hT : s.TypeIs (.ref it) "callable_iterator" := ⟨_, ho, rfl⟩
  refine wpAny_pyIter_slot hT ci_slot_iter (wpAny_call_entry ci_slot_iter hT ci_entry_iter ?_ (ci_args_iter _))
  show wpAny _ _ (ret (.ref it)) _ _ s
  exact wpAny_pure ⟨_, rfl, "callable_iterator", _, hT, ci_slot_next.lookup, hQ⟩

theorem ci_stop {Q : Option Value → Shared → Prop} {E : Value → Shared → Prop} {R : Fin → Shared → Prop} {A' : Around} (hh : A'.handled = none)
    (hQ : ∀ h', (∀ b o, s.heap.get? b = some o → h'.get? b = some o) → Q none { s with heap := h' }) :
    wpAny (model prog w) A' (Builtin.SmallTypes.stopIteration : Sem Fin) R (fun e s' => wpAny (model prog w) A (isInstance e (.type "StopIteration")) (fun b s₂ => if b = true then Q none s₂ else E e s₂) E s') s := by
  unfold Builtin.SmallTypes.stopIteration
  refine wpAny_bind ?_
  simp only [newExc, newTuple]
  refine wpAny_bind (wpAny_newObj_type ?_ (by size_fits))
  refine wpAny_bind (m := firstArgMember _ _) (wpAny_of_eq (a := Value.none) (by first | rfl | (simp only [firstArgMember]; rfl)) ?_)
  refine wpAny_newObj_type ?_ (by size_fits)
  simp only [raiseNew]
  refine wpAny_bind (wpAny_handled ?_)
  rw [hh]
  refine wpAny_bind (wpAny_pure (wpAny_throw ?_))
  refine wpAny_isInstance (T := "StopIteration") (b := true) ⟨_, Heap.get?_push_size _ rfl, rfl⟩ isSubtype_stop ?_
  rw [if_pos rfl]
  exact hQ _ fun b o hb => Heap.get?_push_of_some _ (Heap.get?_push_of_some _ hb)

theorem ci_eqBool {y : Str} {t0 t : Tok} {Q : Bool → Shared → Prop} (h : Q (Str.ofString "" == y) s) :
    wpAny (model prog w) A (holding [.str y t] (eqBool (.str (Str.ofString "") t0) (.str y t))) Q E s := by
  refine wpAny_holding ?_
  unfold eqBool
  refine wpAny_holding ?_
  split
  · rename_i e
    have e' : Value.str (Str.ofString "") t0 = Value.str y t := beq_iff_eq.mp e
    cases e'
    rw [beq_self_eq_true] at h
    exact wpAny_bind (wpAny_rule (wpAny_pure h))
  · dsimp only
    refine wpAny_bind (cmp_ofEq (PyProof.Rows.eq_str ?_))
    show wpAny _ _ (truthy (.bool _)) Q E s
    exact wpAny_truthy_bool h

theorem ci_callBorrowed {f : Value} {Q : Value → Shared → Prop} (h : wpAny (model prog w) A (call f []) Q E s) : wpAny (model prog w) A (callBorrowed f []) Q E s := by
  intro Γ p hΓ
  have h2 := h Γ p hΓ
  unfold call at h2
  rw [Sem.wp_runValue] at h2
  unfold callBorrowed
  rw [Sem.wp]
  refine wpCode_mono (fun r s' hr => ?_) h2
  match r, hr with
  | .ok (.ret v), hr => exact hr
  | .error e, hr => exact hr

theorem ci_pyNext {it q f x : Addr} {t0 : Tok} {of : Obj} {fd : FuncData} {Q : Option Value → Shared → Prop} (hh : A.handled = none)
    (hit : s.heap.get? it = some (ciObj (.ref q) (.str (Str.ofString "") t0) false)) (hq : s.heap.get? q = some (methodObj (.ref f) (.ref x)))
    (hf : s.heap.get? f = some of) (hfd : of.data = .func fd)
    (h : wpAny (model prog w) A.in1 (call (.ref q) []) (fun v s' => ∃ y t, v = .str y t ∧ s'.heap.get? it = some (ciObj (.ref q) (.str (Str.ofString "") t0) false) ∧
      s'.heap.get? q = some (methodObj (.ref f) (.ref x)) ∧ s'.heap.get? f = some of ∧
      (y ≠ Str.ofString "" → Q (some v) s') ∧
      (y = Str.ofString "" → ∀ h', (∀ b o, b ≠ it → s'.heap.get? b = some o → h'.get? b = some o) → Q none { s' with heap := h' })) (fun _ _ => False) s) :
    wpAny (model prog w) A (pyNext (.ref it)) Q E s := by
  have hT : s.TypeIs (.ref it) "callable_iterator" := ⟨_, hit, rfl⟩
  unfold pyNext
  refine wpAny_bind (wpAny_attempt (wpAny_callSpecial?_slot (name := Str.ofString "__next__") hT ci_slot_next (wpAny_call_entry ci_slot_next hT ci_entry_next ?_ (ci_args_next _))))
  show wpAny _ _ (field (.ref it) 2 >>= _) _ _ s
  refine wpAny_bind (wpAny_field hit rfl (x := .bool false) rfl ?_)
  show wpAny _ _ (if (Value.bool false == Value.bool true) = true then _ else _) _ _ s
  rw [if_neg (by decide)]
  show wpAny _ _ (field (.ref it) 0 >>= _) _ _ s
  refine wpAny_bind (wpAny_field hit rfl (x := .ref q) rfl ?_)
  refine wpAny_bind (wpAny_attempt ?_)
  have borrow : ∀ {A : Around} {E : Value → Shared → Prop} {s : Shared} {R : Bool → Shared → Prop}, s.heap.get? q = some (methodObj (.ref f) (.ref x)) → s.heap.get? f = some of → R true s → wpAny (model prog w) A (borrowsExactly (.ref q)) R E s := by
    intro A E s R hq hf hR
    unfold borrowsExactly
    refine wpAny_bind (wpAny_load hq ?_)
    dsimp only
    rw [if_pos (by decide)]
    refine wpAny_bind (wpAny_load (o := of) hf ?_)
    rw [hfd]
    exact wpAny_pure hR
  unfold callOutOfASlot
  refine wpAny_bind (borrow hq hf ?_)
  rw [if_pos rfl]
  refine ci_callBorrowed (wpAny_mono h (fun v s' hv => ?_) fun _ _ z => z.elim)
  obtain ⟨y, t, rfl, hit', hq', hf', k1, k2⟩ := hv
  dsimp only
  show wpAny _ _ (field (.ref it) 2 >>= _) _ _ s'
  refine wpAny_bind (wpAny_field hit' rfl (x := .bool false) rfl ?_)
  show wpAny _ _ (if (Value.bool false == Value.bool true) = true then _ else _) _ _ s'
  rw [if_neg (by decide)]
  show wpAny _ _ (field (.ref it) 1 >>= _) _ _ s'
  refine wpAny_bind (wpAny_field hit' rfl (x := .str (Str.ofString "") t0) rfl ?_)
  refine wpAny_bind (ci_eqBool ?_)
  by_cases hy : y = Str.ofString ""
  · subst hy
    rw [if_neg (by simp)]
    refine wpAny_bind (wpAny_rule ?_)
    refine wpAny_bind ?_
    show wpAny _ _ (field (.ref it) 0 >>= _) _ _ s'
    refine wpAny_bind (wpAny_field hit' rfl (x := .ref q) rfl ?_)
    refine wpAny_bind ?_
    unfold slotLetsGo
    dsimp only
    refine wpAny_bind (borrow hq' hf' ?_)
    rw [if_pos rfl]
    refine wpAny_pure ?_
    refine wpAny_bind (wpAny_setField hit' rfl (by simp) ?_)
    have e1 := Heap.get?_update_self (Obj.mapFields (·.setIfInBounds 0 .none)) hit' rfl
    refine wpAny_bind (wpAny_setField e1 rfl (by simp) ?_)
    have e2 := Heap.get?_update_self (Obj.mapFields (·.setIfInBounds 1 .none)) e1 rfl
    refine wpAny_setField e2 rfl (by simp) ?_
    refine wpAny_mono (ci_stop (Q := Q) (E := E) (A := A) (A' := A.in1) (R := fun _ _ => False) hh fun h' hk => ?_) (fun _ _ z => z.elim) (fun e s₂ hz => ?_)
    · exact k2 rfl h' fun b o hb ho => hk b o (by
        show Heap.get? (((s'.heap.update it _).update it _).update it _) b = some o
        rw [Heap.get?_update_other _ _ hb.symm, Heap.get?_update_other _ _ hb.symm, Heap.get?_update_other _ _ hb.symm]; exact ho)
    · refine wpAny_bind (wpAny_mono hz (fun b s₃ hb => ?_) fun _ _ z => z)
      cases b with
      | true => exact wpAny_pure hb
      | false => exact wpAny_throw hb
  · have hb : (Str.ofString "" == y) = false := by rw [beq_eq_false_iff_ne]; exact fun e => hy e.symm
    rw [if_pos (by rw [hb]; rfl)]
    exact wpAny_pure ⟨_, rfl, wpAny_pure (k1 hy)⟩

theorem ci_args2 (a b : Value) : argsOk "iter" ⟨[a, b], []⟩ := by unfold argsOk; kernel_rfl
theorem ci_method_call : typeLookup (.type "method") (Str.ofString "__call__") = pure (some (.builtin "method.__call__")) := by rw [typeLookup_type, builtinLookup_eq_fast]; kernel_rfl

theorem ci_iter {q : Addr} {f x sent : Value} {Q : Value → Shared → Prop} (hq : s.heap.get? q = some (methodObj f x))
    (h : Q (.ref s.heap.objs.size) { s with heap := s.heap.push (ciObj (.ref q) sent false) }) :
    wpAny (model prog w) A (call (.builtin "iter") [.ref q, sent]) Q E s := by
  refine call_function_entry (by decide +kernel) (by decide +kernel) kdk_entry_iter (ci_args2 _ _) ?_
  unfold Builtin.«iter»
  refine wpAny_bind (m := someArgs "iter" 1 2 _) (wpAny_of_eq (a := [Value.ref q, sent]) (by first | rfl | kernel_rfl!) ?_)
  have hT : s.TypeIs (.ref q) "method" := ⟨_, hq, rfl⟩
  dsimp only
  refine wpAny_bind (wpAny_specialOf hT ci_method_call ?_)
  rw [if_neg (by decide)]
  refine wpAny_bind (wpAny_rule ?_)
  refine wpAny_bind ?_
  refine wpAny_newObj_type ?_ (by size_fits)
  exact wpAny_pure ⟨_, rfl, h⟩
end
end Mine
end
section
open PySem PySem.W PyProof.Rows PySem.Calls
set_option maxRecDepth 100000
set_option maxHeartbeats 4000000
namespace Mine

abbrev Led := List (Addr × Obj)
/-- what a call of the def at f hands back -/
def Spec (w : World) (f : Addr) (d : Nat) (args : List Value) (news : Led) (Post : Value → Led → Prop) : Prop :=
  ∀ (loose : List Str) (mean : ExcName → Option Value) (mg mb : Str → Option Value) (dp un : Nat) (gd : Option (List Code)) (cn : Str) (cs : Scope) (a : Addr) (ccd : Value) (cl : List (Str × Addr)) (outer : List Env)
    (A₀ : Around) (base h₀ : Heap) (L : Addr) (m : Str → Option Value) (s : Shared) (Q E : Value → Shared → Prop),
    Below A₀ base outer h₀ → Fr h₀ L s.heap m → (hd.heap_39 w.params).In h₀ → News h₀ L s.heap news → Top topProg loose mean mg mb h₀ → CodeHd h₀ 137 135 → cs.kind = .function →
    dp + d < recursionLimit → un + 20 * d < cLine →
    (∀ v news' h' tk', Post v news' → Fr h₀ L h' m → News h₀ L h' news' → Q v { s with heap := h', toks := tk' }) →
    codeAny (model PySem.Challenge.rw_sc0036_01.row.toRowW.prog w) (ktrTop dp un gd cn cs L a ccd cl outer) (.call (.ref f) ⟨args, []⟩)
      (fun r s' => match r with | .ok (.ret v) => Q v s' | .ok _ => False | .error e => E e s') s

/-- a turn's end -/
def Turned (n : Nat) (J : Nat → Shared → Prop) (s : Shared) : Prop := ∃ m, m < n ∧ J m s

/-- an invariant hidden behind a letter: the posts stay small -/
theorem hid {s₂ : Shared} {W : (Nat → Shared → Prop) → Nat → Shared → Prop} (n : Nat) (I : Nat → Shared → Prop) (h0 : I n s₂) (h : ∀ J : Nat → Shared → Prop, (∀ k s, I k s → J k s) → ∀ n s, I n s → W J n s) :
    ∃ (n : Nat) (J : Nat → Shared → Prop), J n s₂ ∧ ∀ n s, J n s → W J n s := ⟨n, I, h0, h I fun _ _ h => h⟩

section
variable {prog : Program} {w : World} {A : Around} {E : Value → Shared → Prop} {s : Shared} {env : Env}

/-- a for over an iterator that is its own: by a measure and an invariant; nothing in it raises -/
theorem for_loop {it : Value} {x : Str} {px : Pos} {body : List Stmt} {Q : Flow → Shared → Prop} (J : Nat → Shared → Prop)
    (turn : ∀ n s, J n s → wpAny (model prog w) A (pyNext it) (fun r s₁ => match r with
      | none => Q .next s₁
      | some v => wpAny (model prog w) A (storeName env x v) (fun _ s₂ => wpAny (model prog w) A (execs body env) (fun f s₃ => match f with
          | .next | .cont => Turned n J s₃
          | .brk => Q .next s₃
          | .ret v => Q (.ret v) s₃) (fun _ _ => False) s₂) (fun _ _ => False) s₁) (fun _ _ => False) s)
    (n : Nat) (h : J n s) :
    codeAny (model prog w) A (.forLoop (.Name x px) it body [] env) (fun r s' => match r with | .ok f => Q f s' | .error e => cameBackBy (model prog w) A env E e s') s := by
  refine codeAny_forLoop (R := fun r s' => match r with | .ok f => Q f s' | .error e => cameBackBy (model prog w) A env E e s') J (fun n s hJ => ?_) n h
  refine wpAny_mono (turn n s hJ) (fun r s₁ h₁ => ?_) fun _ _ z => z.elim
  cases r with
  | none => exact wpAny_execs_nil h₁
  | some v =>
    refine wpAny_assign_Name (wpAny_mono h₁ (fun _ s₂ h₂ => ?_) fun _ _ z => z.elim)
    refine wpAny_mono h₂ (fun f s₃ h₃ => ?_) fun _ _ z => z.elim
    cases f <;> exact h₃

theorem for_over {x : Str} {iter : Expr} {px pos : Pos} {body : List Stmt} {Q : Flow → Shared → Prop}
    (h : wpAny (model prog w) A (eval iter env) (fun xv s₁ => wpAny (model prog w) A (pyIter xv) (fun it s₂ => ∃ (n : Nat) (J : Nat → Shared → Prop), J n s₂ ∧
      ∀ n s, J n s → wpAny (model prog w) A (pyNext it) (fun r s₁ => match r with
      | none => Q .next s₁
      | some v => wpAny (model prog w) A (storeName env x v) (fun _ s₂ => wpAny (model prog w) A (execs body env) (fun f s₃ => match f with
          | .next | .cont => Turned n J s₃
          | .brk => Q .next s₃
          | .ret v => Q (.ret v) s₃) (fun _ _ => False) s₂) (fun _ _ => False) s₁) (fun _ _ => False) s) E s₁) E s)
    (hs : ∀ x, foldedSetIterable iter env x = pure x := by intro _; rfl) :
    wpAny (model prog w) A (exec (.For (.Name x px) iter body [] pos) env) Q E s := by
  refine wpAny_For (wpAny_mono h (fun xv s₁ h₁ => wpAny_mono h₁ (fun it s₂ h₂ => ?_) fun _ _ z => z) fun _ _ z => z) hs
  obtain ⟨n, J, hJ, turn⟩ := h₂
  exact for_loop J turn n hJ
end
end Mine
end
section
open PySem PySem.W PyProof.Rows PySem.Calls PySem.Spec
set_option maxRecDepth 100000
set_option maxHeartbeats 4000000
namespace Mine

theorem tail_ne {news : Led} {B d : Nat} (h : ∀ p ∈ news, p.1 < B) (hb : B ≤ d) : ∀ p ∈ news, p.1 ≠ d := fun p hp => Nat.ne_of_lt (Nat.lt_of_lt_of_le (h p hp) hb)
theorem tail_of {news : Led} {B : Nat} (h : AllLt B news) : ∀ p ∈ news, p.1 < B := by
  induction news with
  | nil => intro p hp; cases hp
  | cons q r ih =>
    intro p hp
    rcases List.mem_cons.mp hp with rfl | hp
    · exact h.1
    · exact ih h.2 p hp

/-- the code table of _law_heard: before its first call, behind it -/
inductive TabSt : Led → Prop
  | fresh : TabSt [(135, tabObj #[])]
  | used {c' : Addr} {oc : Obj} {vs : Array Value} {t : Tok} : oc.data = .fields vs → vs[1]? = some (.str (Str.ofString "_law_heard.<locals>.read") t) → c' ≠ 135 →
      TabSt [(c', oc), (135, tabObj #[rawInt 146, rawInt 4, .ref c'])]

inductive TailF (rest : Led) : Led → (Led → Led) → Prop
  | here : TailF rest rest id
  | there {p : Addr × Obj} {r : Led} {g : Led → Led} : p.1 ≠ 135 → TailF rest r g → TailF rest (p :: r) (fun r' => p :: g r')
theorem TailF.mem {rest led : Led} {g : Led → Led} (h : TailF rest led g) : ∀ q ∈ rest, q ∈ led := by
  induction h with
  | here => exact fun _ h => h
  | there _ _ ih => exact fun q hq => .tail _ (ih q hq)
theorem TailF.self {rest led : Led} {g : Led → Led} (h : TailF rest led g) : g rest = led := by
  induction h with
  | here => rfl
  | there _ _ ih => exact congrArg _ ih
theorem TailF.upd {news led : Led} {o : Obj} {g : Led → Led} (h : TailF ((135, o) :: news) led g) (hn : ∀ p ∈ news, p.1 ≠ 135) : UpdF 135 o led (fun o' => g ((135, o') :: news)) := by
  generalize hr : (135, o) :: news = rest at h
  induction h with
  | here => subst hr; exact UpdF.head hn
  | there hp _ ih => exact UpdF.tail hp ih
theorem TailF.perm {rest led : Led} {g : Led → Led} (h : TailF rest led g) (r' : Led) : ∀ q, q ∈ g r' → q ∈ led ∨ q ∈ r' := by
  induction h with
  | here => exact fun q hq => .inr hq
  | there _ _ ih =>
    intro q hq
    rcases List.mem_cons.mp hq with rfl | hq
    · exact .inl (.head _)
    · exact (ih q hq).imp (.tail _) id
theorem TailF.perm2 {rest led : Led} {g : Led → Led} (h : TailF rest led g) {r' r'' : Led} (hs : ∀ q ∈ r', q ∈ r'') : ∀ q ∈ g r', q ∈ g r'' := by
  induction h with
  | here => exact hs
  | there _ _ ih =>
    intro q hq
    rcases List.mem_cons.mp hq with rfl | hq
    · exact .head _
    · exact .tail _ (ih q hq)
theorem TailF.sub {rest led : Led} {g : Led → Led} (h : TailF rest led g) {r' : Led} : ∀ q ∈ r', q ∈ g r' := by
  induction h with
  | here => exact fun _ h => h
  | there _ _ ih => exact fun q hq => .tail _ (ih q hq)
theorem TailF.cons_in {rest led : Led} {g : Led → Led} (h : TailF rest led g) {x : Addr × Obj} {r : Led} : ∀ q, q ∈ g (x :: r) → q = x ∨ q ∈ g r := by
  induction h with
  | here => exact fun q hq => List.mem_cons.mp hq
  | there _ _ ih =>
    intro q hq
    rcases List.mem_cons.mp hq with rfl | hq
    · exact .inr (.head _)
    · exact (ih q hq).imp id (.tail _)
theorem News.sub {h₀ h : Heap} {L : Addr} {l l' : Led} (N : News h₀ L h l) (hs : ∀ p ∈ l', p ∈ l) : News h₀ L h l' := fun p hp => N p (hs p hp)

section
variable {M : Model} {A : Around} {E : Value → Shared → Prop} {s : Shared} {h₀ : Heap} {L a : Addr} {m mg mb : Str → Option Value} {cn : Str} {cs : Scope} {ccd : Value} {cl : List (Str × Addr)} {news st led : Led} {g : Led → Led}
  {p : Program} {loose : List Str} {mean : ExcName → Option Value} {params : Arguments} {body : List Stmt} {scope : Scope} {clos : List (Str × Addr)}

theorem tab_nest {Q : Value → Shared → Prop} {firstLine e1 e2 : Nat} (F : Fr h₀ L s.heap m) (N : News h₀ L s.heap led) (T : Top p loose mean mg mb h₀) (C : CodeHd h₀ 137 135) (hcd : ccd = .ref 137) (hst : TabSt st)
    (hn : ∀ p ∈ news, p.1 ≠ 135) (U : TailF (st ++ news) led g) {B : Nat} (hB : ∀ p ∈ st ++ news, p.1 < B)
    (hcl : closureFor scope (envX cn cs L a ccd cl) = pure clos)
    (h : ∀ f c' oc vs t ctv doc h' tk, Fr h₀ L h' m →
      News h₀ L h' ((f, fnMade (Str.ofString "read") (Str.ofString "_law_heard.<locals>.read") params body scope clos doc ((mg "__name__").getD .none) c' ctv) :: g ((c', oc) :: (135, tabObj #[rawInt 146, rawInt 4, .ref c']) :: news)) →
      oc.data = .fields vs → vs[1]? = some (.str (Str.ofString "_law_heard.<locals>.read") t) → AllLt f led → @LT.lt Nat _ c' f → (AllLt c' led ∨ @LT.lt Nat _ c' B) → @Ne Nat c' 135 → Q (.ref f) { s with heap := h', toks := tk }) :
    wpAny M A (makeFunction (Str.ofString "read") (Str.ofString "_law_heard.<locals>.read") params (.stmts body) scope (envX cn cs L a ccd cl) [] [] [] ⟨146, 4, e1, e2⟩ firstLine) Q E s := by
  cases hst with
  | fresh =>
    refine nest_K F N T C hcd (U.upd hn) True.intro rfl hcl fun f c' oc vs t ctv doc h' tk F' N' hd hv hlt hcf => ?_
    refine h f c' oc vs t ctv doc h' tk F' (News.sub N' fun q hq => ?_) hd hv (allLt_of fun q hq => Nat.lt_trans (hlt q hq) hcf) hcf (.inl (allLt_of hlt)) (Nat.ne_of_gt (hlt _ (U.mem _ (.head _))))
    rcases List.mem_cons.mp hq with rfl | hq
    · exact .head _
    · refine .tail _ ?_
      have key : ∀ q, q ∈ g ((c', oc) :: (135, tabObj #[rawInt 146, rawInt 4, .ref c']) :: news) → q = (c', oc) ∨ q ∈ g ((135, tabObj #[rawInt 146, rawInt 4, .ref c']) :: news) := by
        exact U.cons_in
      rcases key q hq with rfl | hq
      · exact .head _
      · exact .tail _ hq
  | @used c' oc vs t hd hv hne =>
    have m1 : ((c', oc) : Addr × Obj) ∈ led := U.mem _ (.head _)
    have m2 : ((135, tabObj #[rawInt 146, rawInt 4, .ref c']) : Addr × Obj) ∈ led := U.mem _ (.tail _ (.head _))
    refine nestHit_K (c' := c') F N T C hcd m2 (by simp [TriplesOk, rawInt]) (by simp [codeAmong, rawInt]) hcl fun f ctv doc h' tk F' N' hlt => ?_
    refine h f c' oc vs t ctv doc h' tk F' ?_ hd hv (allLt_of fun q hq => hlt q hq) (hlt _ m1) (.inr (hB _ (.head _))) hne
    have e := U.self
    rw [← e] at N'
    exact N'
end

section
variable {w : World} {f : Addr} {d : Nat} {args : List Value} {news : Led} {Post : Value → Led → Prop} {loose : List Str} {mean : ExcName → Option Value} {mg mb : Str → Option Value} {dp un : Nat} {gd : Option (List Code)} {cn : Str} {cs : Scope} {a : Addr} {ccd : Value} {cl : List (Str × Addr)} {outer : List Env}
    {A₀ : Around} {base h₀ : Heap} {L : Addr} {m : Str → Option Value} {s : Shared} {Q E : Value → Shared → Prop}
theorem Spec.use (S : Spec w f d args news Post)
    (h1 : Below A₀ base outer h₀) (h2 : Fr h₀ L s.heap m) (h3 : (hd.heap_39 w.params).In h₀) (h4 : News h₀ L s.heap news) (h5 : Top topProg loose mean mg mb h₀) (h6 : CodeHd h₀ 137 135) (h7 : cs.kind = .function)
    (h8 : dp + d < recursionLimit) (h9 : un + 20 * d < cLine)
    (h : ∀ v news' h' tk', Post v news' → Fr h₀ L h' m → News h₀ L h' news' → Q v { s with heap := h', toks := tk' }) :
    wpAny (model PySem.Challenge.rw_sc0036_01.row.toRowW.prog w) (ktrTop dp un gd cn cs L a ccd cl outer) (call (.ref f) args) Q E s :=
  wpAny_call (S loose mean mg mb dp un gd cn cs a ccd cl outer A₀ base h₀ L m s Q E h1 h2 h3 h4 h5 h6 h7 h8 h9 h)
end
end Mine
end
section
open PySem PySem.W PyProof.Rows Mine
local macro_rules | `(tactic| k_room) => `(tactic| ktr_room)
local macro_rules | `(tactic| k_units) => `(tactic| ktr_units)
local macro_rules | `(tactic| k_all) => `(tactic| first | assumption | exact tail_ne (by assumption) (by omega))
section
open PySem PySem.W PyProof.Rows PySem.Calls PySem.Spec
set_option maxRecDepth 100000
set_option maxHeartbeats 4000000
namespace Mine

variable {w : World}

/-- the objects of a lexer over a text: its stand-in file (x1, d1), itself (x2, d2), the place (P), the reading def (f) -/
structure LexA where
  (f x1 d1 pb1 x2 d2 pb2 P : Addr)
  (oc : Value)
  (od : Option Addr)
  (fd : FuncData)
  (sl : Array (Option Value))
  (k1 k2 k3 k4 k5 v1 v3 j1 j2 j3 j4 u3 : Tok)

abbrev strE (w : World) (x : String) (k : Tok) (v : Value) : DictEntry := { hash := PyData.keyHash w.params (Str.ofString x), key := Value.str (Str.ofString x) k, val := v }

abbrev lexL (w : World) (X : LexA) (pos : Int) (tp : Tok) (ln : Int) (tl : Tok) : Led :=
  [(X.d2, dictOf [strE w "lineno" X.j1 (.int ln tl), strE w "instream" X.j2 (.ref X.x1), strE w "whitespace" X.j3 (.str (Str.ofString "\n\t\x0d ") X.u3), strE w "pushback" X.j4 (.ref X.pb2)] 4),
   (X.x2, instObj 105 X.d2), (X.pb2, W.listOf #[] 0),
   (X.x1, instObj 105 X.d1),
   (X.d1, dictOf [strE w "lineno" X.k1 (.int 1 X.v1), strE w "instream" X.k2 .none, strE w "whitespace" X.k3 (.str (Str.ofString "\n\t\x0d ") X.v3), strE w "pushback" X.k4 (.ref X.pb1), strE w "read" X.k5 (.ref X.f)] 5),
   (X.f, ⟨X.oc, X.od, .func X.fd, X.sl⟩),
   (X.P, W.listOf #[.int pos tp] 0)]

def chS : List Nat → Str
  | [] => Str.ofString ""
  | c :: _ => ⟨#[c]⟩

theorem nl_is : Str.ofString "\n" = ⟨#[10]⟩ := by decide +kernel
theorem em_is : Str.ofString "" = ⟨#[]⟩ := by decide +kernel
theorem chS_nl (l : List Nat) : (chS l == Str.ofString "\n") = decide (l.head? = some 10) := by
  rw [nl_is]
  cases l with
  | nil => rw [chS, em_is]; decide
  | cons c r =>
    rw [chS]
    by_cases h : c = 10
    · subst h; simp
    · rw [show decide ((c :: r).head? = some 10) = false by simpa using h, beq_eq_false_iff_ne]
      intro e
      have := congrArg (fun s : Str => s.cps.toList) e
      simp at this
      exact h this

/-- what the reading def does: one sign, the place one further -/
def ReadSpec (w : World) (X : LexA) (row : List Nat) (rest : Led) : Prop :=
  ∀ (pos : Nat) (tp : Tok) (ln : Int) (tl t1 : Tok), pos ≤ row.length + 5 → Spec w X.f 3 [.int 1 t1] (lexL w X pos tp ln tl ++ rest)
    (fun v news' => ∃ t tp', v = .str (chS (row.drop pos)) t ∧ news' = lexL w X (pos + 1 : Nat) tp' ln tl ++ rest)

structure LexOk (X : LexA) (rest : Led) : Prop where
  n1 : @Ne Nat X.d2 X.x2
  n2 : @Ne Nat X.d2 X.pb2
  n3 : @Ne Nat X.d2 X.x1
  n4 : @Ne Nat X.d2 X.d1
  n5 : @Ne Nat X.d2 X.f
  n6 : @Ne Nat X.d2 X.P
  n7 : ∀ p ∈ rest, p.1 ≠ X.d2

theorem read_char_ok (X : LexA) (row : List Nat) (rest : Led) (R : ReadSpec w X row rest) (O : LexOk X rest) (pos : Nat) (tp : Tok) (ln : Int) (tl : Tok) (hp : pos ≤ row.length + 5) (hln : 0 ≤ ln) (hln2 : ln < 2 ^ 40) :
    Spec w 88 5 [.ref X.x2] (lexL w X pos tp ln tl ++ rest)
      (fun v news' => ∃ t tp' tl', v = .str (chS (row.drop pos)) t ∧ news' = lexL w X (pos + 1 : Nat) tp' (if (row.drop pos).head? = some 10 then ln + 1 else ln) tl' ++ rest) := by
  unfold Spec
  w_top off
  k_fill
  intro loose mean mg mb dp un gd cn cs a ccd cl outer A₀ base h₀ L m s Q E h1 h2 h3 h4 h5 codeHd0 h6 h8 h9 hret
  obtain ⟨n1, n2, n3, n4, n5, n6, n7⟩ := O
  dsimp only [lexL, List.cons_append, List.nil_append] at h4
  k_dflt cell_enter
  have codeHd := CodeHd.keeps codeHd0 (Fr.keep (by assumption))
  k_steps
  k_dflt (refine' Spec.use (R pos tp ln tl _ hp) ?B ?F ?K ?N ?T codeHd ?k ?d ?u ?h)
  case B => k_asm
  case F => k_asm
  case K => k_asm
  case N => k_asm
  case T => k_asm
  case k => rfl
  case d => ktr_room
  case u => ktr_units
  case h =>
    rintro v news' h' tk' ⟨t, tp', rfl, rfl⟩ F' N'
    dsimp only [lexL, List.cons_append, List.nil_append] at N'
    k_sweep
    k_steps
    · rename _ = true => hb
      rw [chS_nl, decide_eq_true_eq] at hb
      rename News h₀ L _ _ => kN
      rename Fr h₀ L _ _ => kF
      exact hret _ _ _ _ ⟨_, _, _, rfl, by rw [if_pos hb] <;> rfl⟩ kF kN
    · rename _ = false => hb
      rw [chS_nl, decide_eq_false_iff_not] at hb
      rename News h₀ L _ _ => kN
      rename Fr h₀ L _ _ => kF
      exact hret _ _ _ _ ⟨_, _, _, rfl, by rw [if_neg hb] <;> rfl⟩ kF kN
end Mine
end
section
open PySem PySem.W PyProof.Rows PySem.Calls PySem.Spec
set_option maxRecDepth 100000
set_option maxHeartbeats 4000000
namespace Mine
variable {w : World}

section
variable {prog : Program} {w : World} {A : Around} {E : Value → Shared → Prop} {s : Shared} {h₀ : Heap} {L : Addr} {m : Str → Option Value} {news : Led}
theorem ci_iterK {q : Addr} {f x sent : Value} {Q : Value → Shared → Prop} (F : Fr h₀ L s.heap m) (N : News h₀ L s.heap news) (hq : (q, methodObj f x) ∈ news)
    (h : ∀ it h', Fr h₀ L h' m → News h₀ L h' ((it, ciObj (.ref q) sent false) :: news) → (∀ p ∈ news, p.1 < it) → Q (.ref it) { s with heap := h' }) :
    wpAny (model prog w) A (call (.builtin "iter") [.ref q, sent]) Q E s :=
  ci_iter (N _ hq).1 (h _ _ (F.push _) (N.push F _) fun p hp => Heap.lt_size (N p hp).1)
end
local macro_rules | `(tactic| walk_at "call builtin:iter") => `(tactic| (k_here; k_dflt (refine' ci_iterK ?k1 ?k2 ?k3 ?_; (case k1 => k_asm); (case k2 => k_asm); (case k3 => k_mem); k_whole); intro it' h' F' N' l1; (try k_lt l1); (try k_sweep)))


theorem Fr.but {h₀ h h' : Heap} {L it : Addr} {m : Str → Option Value} (F : Fr h₀ L h m) (hL : it ≠ L) (h0 : h₀.get? it = none) (hk : ∀ b o, b ≠ it → h.get? b = some o → h'.get? b = some o) : Fr h₀ L h' m := by
  obtain ⟨oL, es, ep, e, r⟩ := F.ns
  exact ⟨⟨oL, es, ep, hk _ _ (Ne.symm hL) e, r⟩, fun b o e => hk b o (fun q => by rw [q, h0] at e; cases e) (F.keep b o e), F.above⟩

theorem fill_frag : (fun (_ : OpenLaw) (_ : Params → Frag) => True) PySem.Challenge.rw_sc0036_01 hd.heap_39 := by
  w_top off
  k_fill
  trivial
theorem fn88 : fnIn (hd.heap_39 w.params) 88 = true := by k_is
theorem fn_of {K : Frag} {h : Heap} {f : Addr} (X : K.In h) (e : fnIn K f = true) : ∃ of fd, h.get? f = some of ∧ of.data = .func fd := by
  unfold fnIn at e
  split at e
  · rename_i q
    exact ⟨_, _, X _ _ q, rfl⟩
  · cases e
theorem lexL_fst {X : LexA} {p1 p2 l1 l2 : Int} {t1 t2 u1 u2 : Tok} {p : Addr × Obj} (h : p ∈ lexL w X p1 t1 l1 u1) : ∃ p' ∈ lexL w X p2 t2 l2 u2, p'.1 = p.1 := by
  simp only [lexL, List.mem_cons, List.not_mem_nil, or_false] at h
  rcases h with rfl | rfl | rfl | rfl | rfl | rfl | rfl <;> simp [lexL]

section
variable {loose : List Str} {mean : ExcName → Option Value} {mg mb : Str → Option Value} {dp un : Nat} {gd : Option (List Code)} {cn : Str} {cs : Scope} {a : Addr} {ccd : Value} {cl : List (Str × Addr)} {outer : List Env}
    {A₀ : Around} {base h₀ : Heap} {L : Addr} {m : Str → Option Value} {s : Shared} {E : Value → Shared → Prop}

theorem next_ok {X : LexA} {row : List Nat} {rest : Led} {it q : Addr} {t0 : Tok} {pos : Nat} {tp : Tok} {ln : Int} {tl : Tok} {Q : Option Value → Shared → Prop} (R : ReadSpec w X row (rest ++ [(it, ciObj (.ref q) (.str (Str.ofString "") t0) false), (q, methodObj (.ref 88) (.ref X.x2))]))
    (O : LexOk X (rest ++ [(it, ciObj (.ref q) (.str (Str.ofString "") t0) false), (q, methodObj (.ref 88) (.ref X.x2))]))
    (hp : pos ≤ row.length + 5) (hln : 0 ≤ ln) (hln2 : ln < 2 ^ 40)
    (h1 : Below A₀ base outer h₀) (h2 : Fr h₀ L s.heap m) (h3 : (hd.heap_39 w.params).In h₀) (h4 : News h₀ L s.heap (lexL w X pos tp ln tl ++ (rest ++ [(it, ciObj (.ref q) (.str (Str.ofString "") t0) false), (q, methodObj (.ref 88) (.ref X.x2))])))
    (h5 : Top topProg loose mean mg mb h₀) (h6 : CodeHd h₀ 137 135) (h7 : cs.kind = .function)
    (h8 : dp + 5 < recursionLimit) (h9 : un + 1 + 20 * 5 < cLine) (hfr : ∀ p ∈ lexL w X pos tp ln tl ++ rest, p.1 ≠ it)
    (some' : ∀ c l h' tk tp' tl' t, row.drop pos = c :: l → Fr h₀ L h' m → News h₀ L h' (lexL w X (pos + 1 : Nat) tp' (if c = 10 then ln + 1 else ln) tl' ++ (rest ++ [(it, ciObj (.ref q) (.str (Str.ofString "") t0) false), (q, methodObj (.ref 88) (.ref X.x2))])) →
      Q (some (.str ⟨#[c]⟩ t)) { s with heap := h', toks := tk })
    (none' : ∀ h' tk tp' tl', row.drop pos = [] → Fr h₀ L h' m → News h₀ L h' (lexL w X (pos + 1 : Nat) tp' ln tl' ++ rest) → Q none { s with heap := h', toks := tk }) :
    wpAny (model PySem.Challenge.rw_sc0036_01.row.toRowW.prog w) (ktrTop dp un gd cn cs L a ccd cl outer) (pyNext (.ref it)) Q E s := by
  have hit : (it, ciObj (.ref q) (.str (Str.ofString "") t0) false) ∈ lexL w X pos tp ln tl ++ (rest ++ [(it, ciObj (.ref q) (.str (Str.ofString "") t0) false), (q, methodObj (.ref 88) (.ref X.x2))]) :=
    List.mem_append_right _ (List.mem_append_right _ (.head _))
  have hq : (q, methodObj (.ref 88) (.ref X.x2)) ∈ lexL w X pos tp ln tl ++ (rest ++ [(it, ciObj (.ref q) (.str (Str.ofString "") t0) false), (q, methodObj (.ref 88) (.ref X.x2))]) :=
    List.mem_append_right _ (List.mem_append_right _ (.tail _ (.head _)))
  have hfn := fn_of h3 fn88
  obtain ⟨of, fd, hf, hfd⟩ := hfn
  refine ci_pyNext (f := 88) (x := X.x2) (of := of) (fd := fd) rfl (h4 _ hit).1 (h4 _ hq).1 (h2.keep _ _ hf) hfd ?_
  refine wpAny_call (method_call (h4 _ hq).1 ?_)
  refine read_char_ok X row _ R O pos tp ln tl hp hln hln2 loose mean mg mb dp (un + 1) gd cn cs a ccd cl outer A₀ base h₀ L m s _ _ h1 h2 h3 h4 h5 h6 h7 h8 h9 ?_
  rintro v news' h' tk' ⟨t, tp', tl', rfl, rfl⟩ F' N'
  have hit' := N' _ (List.mem_append_right _ (List.mem_append_right _ (.head _)))
  have hq' := N' _ (List.mem_append_right _ (List.mem_append_right _ (.tail _ (.head _))))
  refine ⟨_, _, rfl, hit'.1, hq'.1, F'.keep _ _ hf, fun hne => ?_, fun he h'' hk => ?_⟩
  · cases hl : row.drop pos with
    | nil => rw [hl] at hne; exact absurd rfl hne
    | cons c l =>
      rw [hl] at N'
      refine some' c l h' tk' tp' tl' t hl F' ?_
      simpa using N'
  · cases hl : row.drop pos with
    | cons c l =>
      rw [hl, em_is] at he
      exact absurd (congrArg (fun s : Str => s.cps.toList) he) (by simp [chS])
    | nil =>
      rw [hl] at N'
      refine none' h'' tk' tp' tl' hl (Fr.but F' hit'.2.1 hit'.2.2 hk) fun p hp => ?_
      have hp' : p ∈ lexL w X (pos + 1 : Nat) tp' ln tl' ++ (rest ++ [(it, ciObj (.ref q) (.str (Str.ofString "") t0) false), (q, methodObj (.ref 88) (.ref X.x2))]) := by
        rcases List.mem_append.mp hp with h | h
        · exact List.mem_append_left _ h
        · exact List.mem_append_right _ (List.mem_append_left _ h)
      have n := N' p (by simpa using hp')
      refine ⟨hk _ _ (fun e => ?_) n.1, n.2⟩
      rcases List.mem_append.mp hp with h | h
      · obtain ⟨p', hp', e'⟩ := lexL_fst (w := w) (p2 := pos) (t2 := tp) (l2 := ln) (u2 := tl) h
        exact hfr p' (List.mem_append_left _ hp') (e'.trans e)
      · exact hfr p (List.mem_append_right _ h) e
end


section
variable {loose : List Str} {mean : ExcName → Option Value} {mg mb : Str → Option Value} {dp un : Nat} {gd : Option (List Code)} {cn : Str} {cs : Scope} {a : Addr} {ccd : Value} {cl : List (Str × Addr)} {outer : List Env}
    {A₀ : Around} {base h₀ : Heap} {L : Addr} {m : Str → Option Value} {s : Shared} {E : Value → Shared → Prop}

theorem next_tok {X : LexA} {row : List Nat} {rest : Led} {it q : Addr} {t0 : Tok} {pos : Nat} {tp : Tok} {ln : Int} {tl : Tok} {Q : Option Value → Shared → Prop} (R : ∀ ex, (∀ p ∈ ex, p.1 ≠ X.P) → ReadSpec w X row (rest ++ ex)) (O : LexOk X rest)
    {p0 l0 : Int} {y0 u0 : Tok} (hq : ∀ p ∈ lexL w X p0 y0 l0 u0 ++ rest, p.1 < q) (hi : @LT.lt Nat _ q it)
    (hp : pos ≤ row.length + 5) (hln : 0 ≤ ln) (hln2 : ln < 2 ^ 40)
    (h1 : Below A₀ base outer h₀) (h2 : Fr h₀ L s.heap m) (h3 : (hd.heap_39 w.params).In h₀)
    (h4 : News h₀ L s.heap ((it, ciObj (.ref q) (.str (Str.ofString "") t0) false) :: (q, methodObj (.ref 88) (.ref X.x2)) :: (lexL w X pos tp ln tl ++ rest)))
    (h5 : Top topProg loose mean mg mb h₀) (h6 : CodeHd h₀ 137 135) (h7 : cs.kind = .function)
    (h8 : dp + 5 < recursionLimit) (h9 : un + 1 + 20 * 5 < cLine)
    (some' : ∀ c l h' tk tp' tl' t, row.drop pos = c :: l → Fr h₀ L h' m → News h₀ L h' ((it, ciObj (.ref q) (.str (Str.ofString "") t0) false) :: (q, methodObj (.ref 88) (.ref X.x2)) :: (lexL w X (pos + 1 : Nat) tp' (if c = 10 then ln + 1 else ln) tl' ++ rest)) →
      Q (some (.str ⟨#[c]⟩ t)) { s with heap := h', toks := tk })
    (none' : ∀ h' tk tp' tl', row.drop pos = [] → Fr h₀ L h' m → News h₀ L h' (lexL w X (pos + 1 : Nat) tp' ln tl' ++ rest) → Q none { s with heap := h', toks := tk }) :
    wpAny (model PySem.Challenge.rw_sc0036_01.row.toRowW.prog w) (ktrTop dp un gd cn cs L a ccd cl outer) (pyNext (.ref it)) Q E s := by
  have hP : @LT.lt Nat _ X.P q := hq (X.P, _) (List.mem_append_left _ (.tail _ (.tail _ (.tail _ (.tail _ (.tail _ (.tail _ (.head _))))))))
  have hd2 : @LT.lt Nat _ X.d2 q := hq (X.d2, _) (List.mem_append_left _ (.head _))
  have hq2 : ∀ p ∈ lexL w X pos tp ln tl ++ rest, p.1 < q := fun p hp => by
    rcases List.mem_append.mp hp with h | h
    · obtain ⟨p', hp', e⟩ := lexL_fst (w := w) (p2 := p0) (t2 := y0) (l2 := l0) (u2 := u0) h
      exact e ▸ hq p' (List.mem_append_left _ hp')
    · exact hq p (List.mem_append_right _ h)
  refine next_ok (rest := rest) (q := q) (t0 := t0) (tp := tp) (tl := tl) (R _ ?_) ⟨O.n1, O.n2, O.n3, O.n4, O.n5, O.n6, ?_⟩ hp hln hln2 h1 h2 h3 ?_ h5 h6 h7 h8 h9 ?_ ?_ ?_
  · intro p hp
    simp only [List.mem_cons, List.not_mem_nil, or_false] at hp
    rcases hp with rfl | rfl
    · exact Nat.ne_of_gt (Nat.lt_trans hP hi)
    · exact Nat.ne_of_gt hP
  · intro p hp
    simp only [List.mem_append, List.mem_cons, List.not_mem_nil, or_false] at hp
    rcases hp with hp | rfl | rfl
    · exact O.n7 p hp
    · exact Nat.ne_of_gt (Nat.lt_trans hd2 hi)
    · exact Nat.ne_of_gt hd2
  · refine News.sub h4 fun p hp => ?_
    simp only [List.mem_append, List.mem_cons, List.not_mem_nil, or_false] at hp ⊢
    rcases hp with h | h | h | h <;> simp only [h, true_or, or_true]
  · exact fun p hp => Nat.ne_of_lt (Nat.lt_trans (hq2 p hp) hi)
  · intro c l h' tk tp' tl' t hl F' N'
    refine some' c l h' tk tp' tl' t hl F' (News.sub N' fun p hp => ?_)
    simp only [List.mem_append, List.mem_cons, List.not_mem_nil, or_false] at hp ⊢
    rcases hp with h | h | h | h <;> simp only [h, true_or, or_true]
  · exact none'

theorem read_tok {X : LexA} {row : List Nat} {rest : Led} {it q : Addr} {t0 : Tok} {pos : Nat} {tp : Tok} {ln : Int} {tl : Tok} {Q : Value → Shared → Prop} (R : ∀ ex, (∀ p ∈ ex, p.1 ≠ X.P) → ReadSpec w X row (rest ++ ex)) (O : LexOk X rest)
    {p0 l0 : Int} {y0 u0 : Tok} (hq : ∀ p ∈ lexL w X p0 y0 l0 u0 ++ rest, p.1 < q) (hi : @LT.lt Nat _ q it)
    (hp : pos ≤ row.length + 5) (hln : 0 ≤ ln) (hln2 : ln < 2 ^ 40)
    (h1 : Below A₀ base outer h₀) (h2 : Fr h₀ L s.heap m) (h3 : (hd.heap_39 w.params).In h₀)
    (h4 : News h₀ L s.heap ((it, ciObj (.ref q) (.str (Str.ofString "") t0) false) :: (q, methodObj (.ref 88) (.ref X.x2)) :: (lexL w X pos tp ln tl ++ rest)))
    (h5 : Top topProg loose mean mg mb h₀) (h6 : CodeHd h₀ 137 135) (h7 : cs.kind = .function)
    (h8 : dp + 5 < recursionLimit) (h9 : un + 20 * 5 < cLine)
    (k : ∀ h' tk tp' tl' t, Fr h₀ L h' m → News h₀ L h' ((it, ciObj (.ref q) (.str (Str.ofString "") t0) false) :: (q, methodObj (.ref 88) (.ref X.x2)) :: (lexL w X (pos + 1 : Nat) tp' (if (row.drop pos).head? = some 10 then ln + 1 else ln) tl' ++ rest)) →
      Q (.str (chS (row.drop pos)) t) { s with heap := h', toks := tk }) :
    wpAny (model PySem.Challenge.rw_sc0036_01.row.toRowW.prog w) (ktrTop dp un gd cn cs L a ccd cl outer) (call (.ref 88) [.ref X.x2]) Q E s := by
  have hP : @LT.lt Nat _ X.P q := hq (X.P, _) (List.mem_append_left _ (.tail _ (.tail _ (.tail _ (.tail _ (.tail _ (.tail _ (.head _))))))))
  have hd2 : @LT.lt Nat _ X.d2 q := hq (X.d2, _) (List.mem_append_left _ (.head _))
  refine (read_char_ok X row (rest ++ [(it, ciObj (.ref q) (.str (Str.ofString "") t0) false), (q, methodObj (.ref 88) (.ref X.x2))]) (R _ ?_) ⟨O.n1, O.n2, O.n3, O.n4, O.n5, O.n6, ?_⟩ pos tp ln tl hp hln hln2).use h1 h2 h3 ?_ h5 h6 h7 h8 h9 ?_
  · intro p hp
    simp only [List.mem_cons, List.not_mem_nil, or_false] at hp
    rcases hp with rfl | rfl
    · exact Nat.ne_of_gt (Nat.lt_trans hP hi)
    · exact Nat.ne_of_gt hP
  · intro p hp
    simp only [List.mem_append, List.mem_cons, List.not_mem_nil, or_false] at hp
    rcases hp with hp | rfl | rfl
    · exact O.n7 p hp
    · exact Nat.ne_of_gt (Nat.lt_trans hd2 hi)
    · exact Nat.ne_of_gt hd2
  · refine News.sub h4 fun p hp => ?_
    simp only [List.mem_append, List.mem_cons, List.not_mem_nil, or_false] at hp ⊢
    rcases hp with h | h | h | h <;> simp only [h, true_or, or_true]
  · rintro v news' h' tk' ⟨t, tp', tl', rfl, rfl⟩ F' N'
    refine k h' tk' tp' tl' t F' (News.sub N' fun p hp => ?_)
    simp only [List.mem_append, List.mem_cons, List.not_mem_nil, or_false] at hp ⊢
    rcases hp with h | h | h | h <;> simp only [h, true_or, or_true]
end

def esc (S : Nat → Bool) (c : Nat) : List Nat := if S c then [92, c] else [c]
def Sq (c : Nat) : Bool := c == 34 || c == 92
def Sb (c : Nat) : Bool := c == 34 || c == 92 || c == 32 || c == 9 || c == 13 || c == 10

inductive IsTok : List Nat → List Nat → List Nat → Prop
  | quo (n r : List Nat) : IsTok (34 :: (n.flatMap (esc Sq) ++ 34 :: r)) n r
  | bare (c : Nat) (n r : List Nat) : Sb c = false → IsTok (c :: (n.flatMap (esc Sb) ++ 32 :: r)) (c :: n) r
  | fin : IsTok [] [] []

end Mine
end
section
open PySem PySem.W PyProof.Rows PySem.Calls PySem.Spec
set_option maxRecDepth 100000
set_option maxHeartbeats 4000000
namespace Mine

variable {w : World}
-- a name whose value is a fact at hand
local macro_rules | `(tactic| walk_at "eval Name") => `(tactic| (k_here; k_dflt (refine' ld ?k1 ?k2 ?_; (case k1 => k_asm); (case k2 => first | exact rfl | assumption); k_whole)))
local macro_rules | `(tactic| walk_at "loadName") => `(tactic| (k_here; k_dflt (refine' ldn ?k1 ?k2 ?_; (case k1 => k_asm); (case k2 => first | exact rfl | assumption); k_whole)))

theorem one_eq (d c : Nat) {x : String} (hx : Str.ofString x = ⟨#[c]⟩) : ((⟨#[d]⟩ : Str) == Str.ofString x) = decide (d = c) := by
  rw [hx]
  by_cases h : d = c
  · subst h; simp
  · rw [decide_eq_false h, beq_eq_false_iff_ne]
    intro e
    have := congrArg (fun s : Str => s.cps.toList) e
    simp at this
    exact h this
theorem quo_is : Str.ofString "\"" = ⟨#[34]⟩ := by decide +kernel
theorem bsl_is : Str.ofString "\\" = ⟨#[92]⟩ := by decide +kernel

theorem drop_step {row : List Nat} {pos c : Nat} {l : List Nat} (h : row.drop pos = c :: l) : row.drop (pos + 1) = l ∧ pos + 1 ≤ row.length := by
  refine ⟨by rw [← List.drop_drop, h]; rfl, ?_⟩
  have := congrArg List.length h
  rw [List.length_drop, List.length_cons] at this
  omega
theorem esc_count (S : Nat → Bool) : ∀ l : List Nat, (l.flatMap (esc S)).count 10 = l.count 10
  | [] => rfl
  | c :: l => by
    rw [List.flatMap_cons, List.count_append, esc_count S l, esc]
    split
    · rw [List.count_cons, List.count_singleton, List.count_cons]
      simp; omega
    · rw [List.count_singleton, List.count_cons]; omega
theorem esc_len (S : Nat → Bool) : ∀ l : List Nat, l.length ≤ (l.flatMap (esc S)).length
  | [] => Nat.le_refl _
  | c :: l => by
    have := esc_len S l
    rw [List.flatMap_cons, List.length_append, List.length_cons, esc]
    split <;> simp only [List.length_cons, List.length_nil] <;> omega
theorem ite_at_t {b : Bool} {P Q : Prop} (h : b = true) (hp : P) : if b = true then P else Q := by rw [if_pos h]; exact hp
theorem ite_at_f {b : Bool} {P Q : Prop} (h : b = false) (hp : Q) : if b = true then P else Q := by rw [h]; exact hp
theorem str_app (a : List Nat) (c : Nat) : (⟨a.toArray⟩ : Str) ++ ⟨#[c]⟩ = ⟨(a ++ [c]).toArray⟩ := by
  show Str.append _ _ = _
  simp [Str.append]
theorem count_one (c : Nat) (l : List Nat) : ((l ++ [c]).count 10 : Int) = l.count 10 + (if c = 10 then 1 else 0) := by
  rw [List.count_append, List.count_singleton]
  by_cases h : c = 10 <;> simp [h]

local macro_rules | `(tactic| walk_at "ite") => `(tactic| first | (with_reducible refine ite_at_f (by assumption) ?_) | (with_reducible refine ite_at_t (by assumption) ?_))

theorem ws_is : (Str.ofString "\n\t\x0d ").cps.toList = [10, 9, 13, 32] := by decide +kernel
theorem ws_at (c : Nat) : (Builtin.Str.occurrences (Str.ofString "\n\t\x0d ") ⟨#[c]⟩ 0 (Str.ofString "\n\t\x0d ").length 1).isEmpty = !decide (c ∈ [10, 9, 13, 32]) := by
  rw [← ws_is, ← StrLaws.found_one, Bool.not_not]

theorem wp_hide {α : Type} {M : Model} {A : Around} {t : Sem α} {Q : α → Shared → Prop} {E : Value → Shared → Prop} {s : Shared}
    (h : ∀ (Q' : α → Shared → Prop) (E' : Value → Shared → Prop), (∀ v s', Q v s' → Q' v s') → wpAny M A t Q' E' s) : wpAny M A t Q E s := h Q E fun _ _ h => h
inductive InvT (w : World) (X : LexA) (row : List Nat) (rest : Led) (ln : Int) (g' : Heap) (L' : Addr) (s : Shared) (it q : Addr) (whole : List Nat) (S : Nat → Bool) (z : Nat) (r : List Nat) (k : Nat) (s' : Shared) : Prop
  | mk (n1 n2 : List Nat) (pos2 : Nat) (tp2 tl2 tt t0 : Tok) (ln2 : Int) (m2 : Str → Option Value) (h2 : Heap) (tk2 : Nat)
    (e0 : s' = { s with heap := h2, toks := tk2 })
    (e1 : k = n2.length)
    (e2 : whole = n1 ++ n2)
    (e3 : row.drop pos2 = n2.flatMap (esc S) ++ z :: r)
    (e4 : pos2 ≤ row.length)
    (e5 : ln2 = ln + n1.count 10)
    (e6 : Fr g' L' h2 m2)
    (e7 : m2 (Str.ofString "self") = some (.ref X.x2))
    (e8 : m2 (Str.ofString "token") = some (.str ⟨n1.toArray⟩ tt))
    (e9 : m2 (Str.ofString "fiter") = some (.ref it))
    (e10 : News g' L' h2 ((it, ciObj (.ref q) (.str (Str.ofString "") t0) false) :: (q, methodObj (.ref 88) (.ref X.x2)) :: (lexL w X pos2 tp2 ln2 tl2 ++ rest))) : InvT w X row rest ln g' L' s it q whole S z r k s'
theorem get_token_ok (X : LexA) (row : List Nat) (rest : Led) (R : ∀ ex, (∀ p ∈ ex, p.1 ≠ X.P) → ReadSpec w X row (rest ++ ex)) (O : LexOk X rest) (pos : Nat) (tp : Tok) (ln : Int) (tl : Tok) (hp : pos ≤ row.length + 3) (hln : 0 ≤ ln) (hln2 : ln < 2 ^ 39) (hrow : row.length ≤ 2 ^ 20)
    (l tok r : List Nat) (hl : row.drop pos = l) (ht : IsTok l tok r) :
    Spec w 95 8 [.ref X.x2] (lexL w X pos tp ln tl ++ rest)
      (fun v news' => ∃ (pos' : Nat) (tp' tl' t : Tok), v = .str ⟨tok.toArray⟩ t ∧ row.drop pos' = r ∧ pos' ≤ max row.length (pos + 1) ∧ news' = lexL w X pos' tp' (ln + l.count 10 - r.count 10) tl' ++ rest) := by
  unfold Spec
  w_top off
  k_fill
  intro loose mean mg mb dp un gd cn cs a ccd cl outer A₀ base h₀ L m s Q E h1 h2 h3 h4 h5 codeHd0 h6 h8 h9 hret
  obtain ⟨n1, n2, n3, n4, n5, n6, n7⟩ := id O
  k_dflt cell_enter
  rename_i g' L' h' FG F N B X' T
  have codeHd := CodeHd.keeps codeHd0 FG.keep
  repeat' ((fail_if_success (with_reducible show wpAny _ _ (PySem.call (Value.builtin "iter") _) _ _ _)); first | (k_unfold; (try dsimp only)) | (k_end; kc_close) | walk1 | (dsimp only; walk1) | fail "no step")
  rename_i q hhq Fq Nq lq
  refine ci_iterK Fq Nq (.head _) ?_
  intro it hit F1 N1 li
  have hqi : @LT.lt Nat _ q it := li _ (.head _)
  clear li
  k_sweep
  k_steps
  k_dflt (refine' for_over ?ev)
  case ev =>
    k_steps
    rename News g' L' _ _ => N2
    rename Fr g' L' _ _ => F2
    refine ci_pyIter (N2 _ (.head _)).1 ?_
    refine ⟨1, fun n s' => n = 1 ∧ s' = _, ⟨rfl, rfl⟩, ?_⟩
    rintro n s' ⟨rfl, rfl⟩
    k_dflt (refine' next_tok R O lq hqi ?_ hln ?_ ?nB F2 ?nK N2 ?nT codeHd ?nk ?nd ?nu ?ns ?nn)
    case nB => k_asm
    case nK => k_asm
    case nT => k_asm
    case nk => rfl
    case nd => ktr_room
    case nu => ktr_units
    case nn =>
      intro h' tk tp' tl' hl0 F' N'
      k_sweep
      dsimp only
      k_steps
      rw [hl] at hl0
      subst hl0
      cases ht
      rename News h₀ L _ _ => kN
      rename Fr h₀ L _ _ => kF
      refine hret _ _ _ _ ⟨pos + 1, tp', tl', _, rfl, ?_, Nat.le_max_right _ _, by simp⟩ kF kN
      rw [← List.drop_drop, hl]; rfl
    case ns =>
      intro c l1 h' tk tp' tl' t' hl1 F' N'
      k_sweep
      dsimp only
      k_fold
      cases ht with
      | fin => rw [hl] at hl1; cases hl1
      | quo n r =>
        rw [hl] at hl1
        obtain ⟨rfl, rfl⟩ := List.cons.inj hl1
        repeat' ((fail_if_success (with_reducible show wpAny _ _ (exec (Stmt.Continue _) _) _ _ _)); first | (k_unfold; (try dsimp only)) | (k_end; kc_close) | walk1 | (dsimp only; walk1) | fail "no step")
        all_goals try (exfalso; (rename _ = false => hb); revert hb; decide +kernel)
        k_dflt (refine' for_over ?ev2)
        case ev2 =>
          k_steps
          rename News g' L' _ _ => N3
          rename Fr g' L' _ _ => F3
          refine ci_pyIter (N3 _ (.head _)).1 ?_
          refine hid tok.length (InvT w X row rest ln g' L' s it q tok Sq 34 r) ?_ fun Jv hJv => ?_
          · refine ⟨[], tok, pos + 1, _, _, _, _, _, _, _, _, rfl, rfl, rfl, ?_, ?_, ?_, F3, rfl, rfl, rfl, N3⟩
            · exact (drop_step hl).1
            · exact (drop_step hl).2
            · rw [if_neg (by decide)]; simp
          · rintro k s' ⟨n1, n2, pos2, tp2, tl2, tt, t0, ln2, m2, h2, tk2, rfl, rfl, hn, hd, hpos, hln2, F4, hs, ht, hf, N4⟩
            have hz : n1.length ≤ 1048576 := by
              have e1 := congrArg List.length hl
              have e2 := esc_len Sq tok
              have e3 := congrArg List.length hn
              simp only [List.length_drop, List.length_cons, List.length_append] at e1 e3
              omega
            have hc2 : n1.count 10 ≤ n1.length := List.count_le_length
            k_dflt (refine' next_tok R O lq hqi ?_ ?_ ?_ ?oB F4 ?oK N4 ?oT codeHd ?ok ?od ?ou ?os ?on)
            case oB => k_asm
            case oK => k_asm
            case oT => k_asm
            case ok => rfl
            case od => ktr_room
            case ou => ktr_units
            case on =>
              intro h' tk tp' tl' hl0 F' N'
              rw [hd] at hl0
              simp at hl0
            case os =>
              intro c l1 h' tk tp' tl' t' hl1 F' N'
              k_sweep
              dsimp only
              k_fold
              walk1
              (try dsimp only)
              refine wp_hide ?_
              intro Qv Ev hQv
              rw [hd] at hl1
              cases n2 with
              | nil =>
                obtain ⟨rfl, rfl⟩ := List.cons.inj hl1
                repeat' ((fail_if_success (with_reducible show Qv _ _)); first | (k_unfold; (try dsimp only)) | (k_end; kc_close) | walk1 | (dsimp only; walk1) | fail "no step")
                refine hQv _ _ ?_
                k_steps
                rename News h₀ L _ _ => kN
                rename Fr h₀ L _ _ => kF
                rw [List.append_nil] at hn
                subst hn
                have hd' := drop_step hd
                refine hret _ (lexL w X (pos2 + 1 : Nat) tp' (if 34 = 10 then ln2 + 1 else ln2) tl' ++ rest) _ _ ⟨pos2 + 1, tp', tl', _, rfl, hd'.1, Nat.le_trans hd'.2 (Nat.le_max_left _ _), ?_⟩ kF (News.sub kN fun p hp => .tail _ (.tail _ hp))
                rw [if_neg (by decide), hln2]
                congr 2
                simp only [List.count_cons, List.count_append, esc_count]
                simp
                omega
              | cons d n3 =>
                rw [List.flatMap_cons, List.append_assoc] at hl1
                cases hsd : Sq d with
                | false =>
                  have hd1 : row.drop pos2 = d :: (n3.flatMap (esc Sq) ++ 34 :: r) := by rw [hd, List.flatMap_cons, esc, hsd]; rfl
                  rw [esc, hsd, if_neg (by decide)] at hl1
                  obtain ⟨rfl, rfl⟩ := List.cons.inj hl1
                  simp only [Sq, Bool.or_eq_false_iff, beq_eq_false_iff_ne] at hsd
                  have hc1 : ((⟨#[d]⟩ : Str) == Str.ofString "\"") = false := by rw [one_eq _ _ quo_is, decide_eq_false hsd.1]
                  have hc3 : ((⟨#[d]⟩ : Str) == Str.ofString "\\") = false := by rw [one_eq _ _ bsl_is, decide_eq_false hsd.2]
                  repeat' ((fail_if_success (with_reducible show Qv _ _)); first | (k_unfold; (try dsimp only)) | (k_end; kc_close) | walk1 | (dsimp only; walk1) | fail "no step")
                  rename News g' L' _ _ => N5
                  rename Fr g' L' _ _ => F5
                  have hd' := drop_step hd1
                  rw [str_app] at F5
                  refine hQv _ _ ?_
                  show Turned _ _ _
                  refine ⟨n3.length, Nat.lt_succ_self _, hJv _ _ ⟨n1 ++ [d], n3, pos2 + 1, tp', tl', _, t0, _, _, _, _, rfl, rfl, ?_, hd'.1, hd'.2, ?_, F5, hs, rfl, hf, N5⟩⟩
                  · rw [hn]; simp
                  · rw [count_one, hln2]; split <;> omega
                | true =>
                  have hd1 : row.drop pos2 = 92 :: d :: (n3.flatMap (esc Sq) ++ 34 :: r) := by rw [hd, List.flatMap_cons, esc, hsd]; rfl
                  have hd' := drop_step hd1
                  have hd2 := drop_step hd'.1
                  rw [esc, hsd, if_pos rfl] at hl1
                  obtain ⟨rfl, rfl⟩ := List.cons.inj hl1
                  repeat' ((fail_if_success (with_reducible show wpAny _ _ (PySem.call (Value.ref 88) _) _ _ _)); first | (k_unfold; (try dsimp only)) | (k_end; kc_close) | walk1 | (dsimp only; walk1) | fail "no step")
                  dsimp only [List.append_nil]
                  rename News g' L' _ _ => N5
                  rename Fr g' L' _ _ => F5
                  k_dflt (refine' read_tok R O lq hqi ?_ ?_ ?_ ?pB F5 ?pK N5 ?pT codeHd ?pk ?pd ?pu ?pp)
                  case pB => k_asm
                  case pK => k_asm
                  case pT => k_asm
                  case pk => rfl
                  case pd => ktr_room
                  case pu => ktr_units
                  case pp =>
                    intro h' tk tp3 tl3 t3 F' N'
                    rw [hd'.1] at N' ⊢
                    simp only [chS, List.head?_cons] at N' ⊢
                    k_sweep
                    repeat' ((fail_if_success (with_reducible show Qv _ _)); first | (k_unfold; (try dsimp only)) | (k_end; kc_close) | walk1 | (dsimp only; walk1) | fail "no step")
                    rename News g' L' _ _ => N6
                    rename Fr g' L' _ _ => F6
                    rw [str_app] at F6
                    refine hQv _ _ ?_
                    show Turned _ _ _
                    refine ⟨n3.length, Nat.lt_succ_self _, hJv _ _ ⟨n1 ++ [d], n3, pos2 + 1 + 1, tp3, tl3, _, t0, _, _, _, _, rfl, rfl, ?_, hd2.1, hd2.2, ?_, F6, hs, rfl, hf, N6⟩⟩
                    · rw [hn]; simp
                    · rw [count_one, hln2, if_neg (show ¬ (92 : Nat) = 10 by decide)]
                      simp only [Option.some.injEq]
                      split <;> omega
                  · omega
                  · rw [if_neg (by decide)]; omega
                  · rw [if_neg (by decide)]; omega
            all_goals omega
      | bare c n r hc =>
        rw [hl] at hl1
        obtain ⟨rfl, rfl⟩ := List.cons.inj hl1
        simp only [Sb, Bool.or_eq_false_iff, beq_eq_false_iff_ne] at hc
        obtain ⟨⟨⟨⟨⟨q1, q2⟩, q3⟩, q4⟩, q5⟩, q6⟩ := hc
        have hc1 : ((⟨#[c]⟩ : Str) == Str.ofString "\"") = false := by rw [one_eq _ _ quo_is, decide_eq_false q1]
        have hc3 : ((⟨#[c]⟩ : Str) == Str.ofString "\\") = false := by rw [one_eq _ _ bsl_is, decide_eq_false q2]
        have hc5 : (Builtin.Str.occurrences (Str.ofString "\n\t\x0d ") ⟨#[c]⟩ 0 (Str.ofString "\n\t\x0d ").length 1).isEmpty = true := by
          rw [ws_at, decide_eq_false (by simp only [List.mem_cons, List.not_mem_nil, or_false]; rintro (h | h | h | h) <;> contradiction)]; rfl
        k_steps
        k_dflt (refine' for_over ?ev3)
        case ev3 =>
          k_steps
          rename News g' L' _ _ => N3
          rename Fr g' L' _ _ => F3
          rw [show Str.ofString "" ++ (⟨#[c]⟩ : Str) = ⟨[c].toArray⟩ from by rw [em_is]; exact str_app [] c] at F3
          refine ci_pyIter (N3 _ (.head _)).1 ?_
          refine hid n.length (InvT w X row rest ln g' L' s it q (c :: n) Sb 32 r) ?_ fun Jv hJv => ?_
          · refine ⟨[c], n, pos + 1, _, _, _, _, _, _, _, _, rfl, rfl, rfl, ?_, ?_, ?_, F3, rfl, rfl, rfl, N3⟩
            · exact (drop_step hl).1
            · exact (drop_step hl).2
            · rw [if_neg q6]; simp [List.count_singleton, q6]
          · rintro k s' ⟨n1, n2, pos2, tp2, tl2, tt, t0, ln2, m2, h2, tk2, rfl, rfl, hn, hd, hpos, hln2, F4, hs, ht, hf, N4⟩
            have hz : n1.length ≤ 1048576 := by
              have e1 := congrArg List.length hl
              have e2 := esc_len Sb n
              have e3 := congrArg List.length hn
              simp only [List.length_drop, List.length_cons, List.length_append] at e1 e3
              omega
            have hc2 : n1.count 10 ≤ n1.length := List.count_le_length
            k_dflt (refine' next_tok R O lq hqi ?_ ?_ ?_ ?uB F4 ?uK N4 ?uT codeHd ?uk ?ud ?uu ?us ?un)
            case uB => k_asm
            case uK => k_asm
            case uT => k_asm
            case uk => rfl
            case ud => ktr_room
            case uu => ktr_units
            case un =>
              intro h' tk tp' tl' hl0 F' N'
              rw [hd] at hl0
              simp at hl0
            case us =>
              intro c' l1 h' tk tp' tl' t' hl1 F' N'
              k_sweep
              dsimp only
              k_fold
              walk1
              (try dsimp only)
              refine wp_hide ?_
              intro Qv Ev hQv
              rw [hd] at hl1
              cases n2 with
              | nil =>
                obtain ⟨rfl, rfl⟩ := List.cons.inj hl1
                have hc7 : (Builtin.Str.occurrences (Str.ofString "\n\t\x0d ") ⟨#[32]⟩ 0 (Str.ofString "\n\t\x0d ").length 1).isEmpty = false := by rw [ws_at]; rfl
                repeat' ((fail_if_success (with_reducible show Qv _ _)); first | (k_unfold; (try dsimp only)) | (k_end; kc_close) | walk1 | (dsimp only; walk1) | fail "no step")
                refine hQv _ _ ?_
                k_steps
                rename News h₀ L _ _ => kN
                rename Fr h₀ L _ _ => kF
                rw [List.append_nil] at hn
                subst hn
                have hd' := drop_step hd
                refine hret _ (lexL w X (pos2 + 1 : Nat) tp' (if 32 = 10 then ln2 + 1 else ln2) tl' ++ rest) _ _ ⟨pos2 + 1, tp', tl', _, rfl, hd'.1, Nat.le_trans hd'.2 (Nat.le_max_left _ _), ?_⟩ kF (News.sub kN fun p hp => .tail _ (.tail _ hp))
                rw [if_neg (by decide), hln2]
                congr 2
                simp only [List.count_cons, List.count_append, esc_count]
                simp
                omega
              | cons d n3 =>
                rw [List.flatMap_cons, List.append_assoc] at hl1
                cases hsd : Sb d with
                | false =>
                  have hd1 : row.drop pos2 = d :: (n3.flatMap (esc Sb) ++ 32 :: r) := by rw [hd, List.flatMap_cons, esc, hsd]; rfl
                  rw [esc, hsd, if_neg (by decide)] at hl1
                  obtain ⟨rfl, rfl⟩ := List.cons.inj hl1
                  simp only [Sb, Bool.or_eq_false_iff, beq_eq_false_iff_ne] at hsd
                  obtain ⟨⟨⟨⟨⟨w1, w2⟩, w3⟩, w4⟩, w5⟩, w6⟩ := hsd
                  have hc7 : ((⟨#[d]⟩ : Str) == Str.ofString "\\") = false := by rw [one_eq _ _ bsl_is, decide_eq_false w2]
                  have hc8 : (Builtin.Str.occurrences (Str.ofString "\n\t\x0d ") ⟨#[d]⟩ 0 (Str.ofString "\n\t\x0d ").length 1).isEmpty = true := by
                    rw [ws_at, decide_eq_false (by simp only [List.mem_cons, List.not_mem_nil, or_false]; rintro (h | h | h | h) <;> contradiction)]; rfl
                  repeat' ((fail_if_success (with_reducible show Qv _ _)); first | (k_unfold; (try dsimp only)) | (k_end; kc_close) | walk1 | (dsimp only; walk1) | fail "no step")
                  rename News g' L' _ _ => N5
                  rename Fr g' L' _ _ => F5
                  have hd' := drop_step hd1
                  rw [str_app] at F5
                  refine hQv _ _ ?_
                  show Turned _ _ _
                  refine ⟨n3.length, Nat.lt_succ_self _, hJv _ _ ⟨n1 ++ [d], n3, pos2 + 1, tp', tl', _, t0, _, _, _, _, rfl, rfl, ?_, hd'.1, hd'.2, ?_, F5, hs, rfl, hf, N5⟩⟩
                  · rw [hn]; simp
                  · rw [count_one, hln2]; split <;> omega
                | true =>
                  have hd1 : row.drop pos2 = 92 :: d :: (n3.flatMap (esc Sb) ++ 32 :: r) := by rw [hd, List.flatMap_cons, esc, hsd]; rfl
                  have hd' := drop_step hd1
                  have hd2 := drop_step hd'.1
                  rw [esc, hsd, if_pos rfl] at hl1
                  obtain ⟨rfl, rfl⟩ := List.cons.inj hl1
                  have hc7 : (Builtin.Str.occurrences (Str.ofString "\n\t\x0d ") ⟨#[92]⟩ 0 (Str.ofString "\n\t\x0d ").length 1).isEmpty = true := by rw [ws_at]; rfl
                  repeat' ((fail_if_success (with_reducible show wpAny _ _ (PySem.call (Value.ref 88) _) _ _ _)); first | (k_unfold; (try dsimp only)) | (k_end; kc_close) | walk1 | (dsimp only; walk1) | fail "no step")
                  dsimp only [List.append_nil]
                  rename News g' L' _ _ => N5
                  rename Fr g' L' _ _ => F5
                  k_dflt (refine' read_tok R O lq hqi ?_ ?_ ?_ ?vB F5 ?vK N5 ?vT codeHd ?vk ?vd ?vu ?vp)
                  case vB => k_asm
                  case vK => k_asm
                  case vT => k_asm
                  case vk => rfl
                  case vd => ktr_room
                  case vu => ktr_units
                  case vp =>
                    intro h' tk tp3 tl3 t3 F' N'
                    rw [hd'.1] at N' ⊢
                    simp only [chS, List.head?_cons] at N' ⊢
                    k_sweep
                    repeat' ((fail_if_success (with_reducible show Qv _ _)); first | (k_unfold; (try dsimp only)) | (k_end; kc_close) | walk1 | (dsimp only; walk1) | fail "no step")
                    rename News g' L' _ _ => N6
                    rename Fr g' L' _ _ => F6
                    rw [str_app] at F6
                    refine hQv _ _ ?_
                    show Turned _ _ _
                    refine ⟨n3.length, Nat.lt_succ_self _, hJv _ _ ⟨n1 ++ [d], n3, pos2 + 1 + 1, tp3, tl3, _, t0, _, _, _, _, rfl, rfl, ?_, hd2.1, hd2.2, ?_, F6, hs, rfl, hf, N6⟩⟩
                    · rw [hn]; simp
                    · rw [count_one, hln2, if_neg (show ¬ (92 : Nat) = 10 by decide)]
                      simp only [Option.some.injEq]
                      split <;> omega
                  · omega
                  · rw [if_neg (by decide)]; omega
                  · rw [if_neg (by decide)]; omega
            all_goals omega
    · omega
    · omega
end Mine
end
section
open PySem PySem.W PyProof.Rows PySem.Calls PySem.Spec
set_option maxRecDepth 100000
set_option maxHeartbeats 4000000
namespace Mine
variable {w : World}

inductive Toks : List Nat → List (List Nat) → List Nat → Prop
  | nil (l : List Nat) : Toks l [] l
  | cons {l t r e : List Nat} {ts : List (List Nat)} : IsTok l t r → Toks r ts e → Toks l (t :: ts) e

theorem IsTok.count {l t r : List Nat} (h : IsTok l t r) : r.count 10 ≤ l.count 10 := by
  cases h with
  | quo n r => simp only [List.count_cons, List.count_append]; omega
  | bare c n r _ => simp only [List.count_cons, List.count_append]; omega
  | fin => exact Nat.le_refl _

abbrev strVals (l : List (List Nat × Tok)) : List Value := l.map fun p => .str ⟨p.1.toArray⟩ p.2

section
variable {loose : List Str} {mean : ExcName → Option Value} {mg mb : Str → Option Value} {dp un : Nat} {gd : Option (List Code)} {cn : Str} {cs : Scope} {a : Addr} {ccd : Value} {cl : List (Str × Addr)} {outer : List Env}
    {A₀ : Around} {base h₀ : Heap} {L : Addr} {m : Str → Option Value} {s : Shared} {E : Value → Shared → Prop} {env : Env} {elt : Expr} {x : Str} {scope : Scope} {ccl : List (Str × Addr)}

theorem comp_rest {X : LexA} {row : List Nat} {rest : Led} (R : ∀ ex, (∀ p ∈ ex, p.1 ≠ X.P) → ReadSpec w X row (rest ++ ex)) (O : LexOk X rest)
    (hrow : row.length ≤ 2 ^ 20)
    (h1 : Below A₀ base outer h₀) (h3 : (hd.heap_39 w.params).In h₀)
    (h5 : Top topProg loose mean mg mb h₀) (h6 : CodeHd h₀ 137 135) (h7 : cs.kind = .function)
    (h8 : dp + 8 < recursionLimit) (h9 : un + 20 * 8 < cLine)
    (helt : ∀ (I C D : Addr) (oI oC : Obj) (m₂ : Str → Option Value) (ys : List Value) (h : Heap) (tk : Nat) (pos : Nat) (tp : Tok) (ln : Int) (tl : Tok) (Q E' : Value → Shared → Prop), LCg.NsObj oC m₂ → Fr h₀ L h m →
      News h₀ L h ((I, oI) :: (C, oC) :: (D, LCg.lst ys) :: (lexL w X pos tp ln tl ++ rest)) →
      wpAny (model PySem.Challenge.rw_sc0036_01.row.toRowW.prog w) (ktrTop dp un gd cn cs L a ccd cl outer) (call (.ref 95) [.ref X.x2]) Q E' { s with heap := h, toks := tk } →
      wpAny (model PySem.Challenge.rw_sc0036_01.row.toRowW.prog w) (ktrTop dp un gd cn cs L a ccd cl outer) (eval elt (compEnvC scope ccl C env)) Q E' { s with heap := h, toks := tk })
    {S P} {Fin : List Value → Led → Prop} (hS : ∀ l, S l) :
    ∀ (ts : List (List Nat)) (l e : List Nat) (i : Nat) (L0 : List (List Nat × Tok)) (pos : Nat) (tp : Tok) (ln : Int) (tl : Tok), Toks l ts e → row.drop pos = l → pos + ts.length ≤ row.length + 3 → ts.length ≤ 3 → 0 ≤ ln → ln + l.count 10 < 2 ^ 39 →
      (∀ (L1 : List (List Nat × Tok)) (pos' : Nat) (tp' tl' : Tok), L1.map (·.1) = L0.map (·.1) ++ ts → Fin (strVals L1) (lexL w X pos' tp' (ln + l.count 10 - e.count 10) tl' ++ rest)) →
      LCg.CompRest PySem.Challenge.rw_sc0036_01.row.toRowW.prog w (ktrTop dp un gd cn cs L a ccd cl outer) h₀ L m env elt x scope ccl s S P Fin ts.length i (strVals L0) (lexL w X pos tp ln tl ++ rest)
  | [], l, e, i, L0, pos, tp, ln, tl, ht, hl, hp, hp3, hln, hln2, fin => by
    cases ht
    refine LCg.CompRest.zero ?_
    have := fin L0 pos tp tl (by simp)
    rw [show ln + (l.count 10 : Int) - l.count 10 = ln by omega] at this
    exact this
  | t :: ts, l, e, i, L0, pos, tp, ln, tl, ht, hl, hp, hp3, hln, hln2, fin => by
    cases ht with
    | @cons _ _ r _ _ h0 hts =>
    refine LCg.CompRest.succ fun v I oI C oC D m₂ h tk E' _ hNs _ F N off hne => ?_
    have hcr := h0.count
    refine helt I C D oI oC m₂ _ h tk pos tp ln tl _ E' hNs F N ?_
    have offm := LCg.Off3.mem off
    have hP : ∀ {pos : Int} {tp : Tok} {ln : Int} {tl : Tok}, (X.P, W.listOf #[.int pos tp] 0) ∈ lexL w X pos tp ln tl := .tail _ (.tail _ (.tail _ (.tail _ (.tail _ (.tail _ (.head _))))))
    have oP := offm _ (List.mem_append_left _ hP)
    have oD2 := offm (X.d2, _) (List.mem_append_left _ (.head _))
    refine (get_token_ok X row (rest ++ [(I, oI), (C, oC), (D, LCg.lst (strVals L0))]) (fun ex hex => ?_) ⟨O.n1, O.n2, O.n3, O.n4, O.n5, O.n6, ?_⟩ pos tp ln tl (by simp only [List.length_cons] at hp; omega) hln (by omega) hrow l t r hl h0).use h1 F h3 ?_ h5 h6 h7 h8 h9 ?_
    · rw [List.append_assoc]
      refine R _ fun p hp => ?_
      rcases List.mem_append.mp hp with hp | hp
      · simp only [List.mem_cons, List.not_mem_nil, or_false] at hp
        rcases hp with rfl | rfl | rfl
        · exact Ne.symm oP.1
        · exact Ne.symm oP.2.1
        · exact Ne.symm oP.2.2
      · exact hex p hp
    · intro p hp
      simp only [List.mem_append, List.mem_cons, List.not_mem_nil, or_false] at hp
      rcases hp with hp | rfl | rfl | rfl
      · exact O.n7 p hp
      · exact Ne.symm oD2.1
      · exact Ne.symm oD2.2.1
      · exact Ne.symm oD2.2.2
    · refine News.sub N fun p hp => ?_
      simp only [List.mem_append, List.mem_cons, List.not_mem_nil, or_false] at hp ⊢
      rcases hp with h | h | h | h | h <;> simp only [h, true_or, or_true]
    · rintro v news' h' tk' ⟨pos', tp', tl', t', rfl, hr, hpos', rfl⟩ F' N'
      refine LCg.CompEnd.intro F' N' (lexL w X pos' tp' (ln + l.count 10 - r.count 10) tl' ++ rest) (fun p hp => ?_) ?_ (hS _) ?_
      · simp only [List.mem_append, List.mem_cons, List.not_mem_nil, or_false] at hp ⊢
        rcases hp with h | h | h | h | h <;> simp only [h, true_or, or_true]
      · refine LCg.Off3.of fun p hp => ?_
        rcases List.mem_append.mp hp with hp | hp
        · obtain ⟨p', hp', e'⟩ := lexL_fst (w := w) (p2 := pos) (t2 := tp) (l2 := ln) (u2 := tl) hp
          rw [← e']
          exact offm p' (List.mem_append_left _ hp')
        · exact offm p (List.mem_append_right _ hp)
      · have := comp_rest (P := P) (Fin := Fin) R O hrow h1 h3 h5 h6 h7 h8 h9 helt hS ts r e (i + 1) (L0 ++ [(t, t')]) pos' tp' (ln + l.count 10 - r.count 10) tl' hts hr ?_ ?_ (by omega) (by omega) ?_
        · simpa only [strVals, List.map_append, List.map_cons, List.map_nil] using this
        · simp only [List.length_cons] at hp hp3; omega
        · simp only [List.length_cons] at hp3; omega
        · intro L1 pos2 tp2 tl2 e2
          have := fin L1 pos2 tp2 tl2 (by rw [e2]; simp)
          rw [show ln + (l.count 10 : Int) - r.count 10 + r.count 10 - e.count 10 = ln + l.count 10 - e.count 10 by omega]
          exact this

theorem heard_src {f x1 d1 pb1 x2 d2 pb2 P r : Addr} {oc : Value} {od : Option Addr} {fd : FuncData} {sl : Array (Option Value)} {k1 k2 k3 k4 k5 v1 v3 j1 j2 j3 j4 u3 tl tp t0 u0 v0 : Tok} {rest : Led} {row : List Nat} {ts : List (List Nat)} {nn : Int} {QF : Value → Shared → Prop}
    (F : Fr h₀ L s.heap m)
    (N : News h₀ L s.heap ((pb2, W.listOf #[] 0) :: (x2, instObj 105 d2) ::
      (d2, dictOf [strE w "lineno" j1 (.int 1 tl), strE w "instream" j2 (.ref x1), strE w "whitespace" j3 (.str (Str.ofString "\n\t\x0d ") u3), strE w "pushback" j4 (.ref pb2)] 4) ::
      (f, ⟨oc, od, .func fd, sl⟩) :: (pb1, W.listOf #[] 0) :: (x1, instObj 105 d1) ::
      (d1, dictOf [strE w "lineno" k1 (.int 1 v1), strE w "instream" k2 .none, strE w "whitespace" k3 (.str (Str.ofString "\n\t\x0d ") v3), strE w "pushback" k4 (.ref pb1), strE w "read" k5 (.ref f)] 5) ::
      (P, W.listOf #[.int 0 tp] 0) :: rest))
    (hr : IsRange s.heap r 0 nn 1 t0 u0 v0) (hn : nn = ts.length) (hts3 : ts.length ≤ 3) (hrow : row.length ≤ 2 ^ 20) (hts : Toks row ts [])
    (R : ∀ ex, (∀ p ∈ ex, p.1 ≠ P) → ReadSpec w ⟨f, x1, d1, pb1, x2, d2, pb2, P, oc, od, fd, sl, k1, k2, k3, k4, k5, v1, v3, j1, j2, j3, j4, u3⟩ row (rest ++ ex))
    (O : LexOk ⟨f, x1, d1, pb1, x2, d2, pb2, P, oc, od, fd, sl, k1, k2, k3, k4, k5, v1, v3, j1, j2, j3, j4, u3⟩ rest)
    (h1 : Below A₀ base outer h₀) (h3 : (hd.heap_39 w.params).In h₀)
    (h5 : Top topProg loose mean mg mb h₀) (h6 : CodeHd h₀ 137 135) (h7 : cs.kind = .function)
    (h8 : dp + 8 < recursionLimit) (h9 : un + 20 * 8 < cLine)
    (helt : ∀ (I C D : Addr) (oI oC : Obj) (m₂ : Str → Option Value) (ys : List Value) (h : Heap) (tk : Nat) (pos : Nat) (tp : Tok) (ln : Int) (tl : Tok) (Q E' : Value → Shared → Prop), LCg.NsObj oC m₂ → Fr h₀ L h m →
      News h₀ L h ((I, oI) :: (C, oC) :: (D, LCg.lst ys) :: (lexL w ⟨f, x1, d1, pb1, x2, d2, pb2, P, oc, od, fd, sl, k1, k2, k3, k4, k5, v1, v3, j1, j2, j3, j4, u3⟩ pos tp ln tl ++ rest)) →
      wpAny (model PySem.Challenge.rw_sc0036_01.row.toRowW.prog w) (ktrTop dp un gd cn cs L a ccd cl outer) (call (.ref 95) [.ref x2]) Q E' { s with heap := h, toks := tk } →
      wpAny (model PySem.Challenge.rw_sc0036_01.row.toRowW.prog w) (ktrTop dp un gd cn cs L a ccd cl outer) (eval elt (compEnvC scope ccl C env)) Q E' { s with heap := h, toks := tk })
    (fin : ∀ (L1 : List (List Nat × Tok)) (pos' : Nat) (tp' tl' : Tok) (D : Addr) (h : Heap) (tk : Nat), L1.map (·.1) = ts → Fr h₀ L h m →
      News h₀ L h ((D, LCg.lst (strVals L1)) :: (lexL w ⟨f, x1, d1, pb1, x2, d2, pb2, P, oc, od, fd, sl, k1, k2, k3, k4, k5, v1, v3, j1, j2, j3, j4, u3⟩ pos' tp' (1 + row.count 10) tl' ++ rest)) →
      QF (.ref D) { s with heap := h, toks := tk }) :
    LCg.CompSrc PySem.Challenge.rw_sc0036_01.row.toRowW.prog w (ktrTop dp un gd cn cs L a ccd cl outer) h₀ L m env elt x scope ccl (fun s₂ => LCg.FinE h₀ L m s₂ QF) (.ref r) s := by
  have hc10 : row.count 10 ≤ row.length := List.count_le_length
  have N' : News h₀ L s.heap (lexL w ⟨f, x1, d1, pb1, x2, d2, pb2, P, oc, od, fd, sl, k1, k2, k3, k4, k5, v1, v3, j1, j2, j3, j4, u3⟩ (0 : Nat) tp 1 tl ++ rest) := by
    refine News.sub N fun p hp => ?_
    simp only [lexL, List.mem_append, List.mem_cons, List.not_mem_nil, or_false] at hp ⊢
    rcases hp with (h | h | h | h | h | h | h) | h <;> simp only [h, true_or, or_true]
    right; right; right; right; right; right; right; left; rfl
  have hsm : Builtin.Range.small 0 nn 1 = true := by
    subst hn
    rcases hk : ts.length with _ | _ | _ | _ | k
    · decide
    · decide
    · decide
    · decide
    · omega
  have hsz : Builtin.Range.rangeSize 0 nn 1 = ((ts.length : Nat) : Int) := by
    subst hn
    rcases hk : ts.length with _ | _ | _ | _ | k
    · decide
    · decide
    · decide
    · decide
    · omega
  refine LCg.CompSrc.range rfl F N' hr hsm hsz (Nat.le_trans hts3 (by rw [sizeLine_eq]; decide)) fun g => ?_
  refine comp_rest (s := { s with heap := g }) R O hrow h1 h3 h5 h6 h7 h8 h9 helt (fun _ => trivial) ts row [] 0 [] 0 tp 1 tl hts rfl (by omega) hts3 (by omega) (by omega) ?_
  intro L1 pos' tp' tl' e D h tk F' N'' _
  exact fin L1 pos' tp' tl' D h tk (by simpa using e) F' (by simpa using N'')
end
end Mine
end
section
open PySem PySem.W PyProof.Rows PySem.Builtin PySem.Builtin.Str
namespace Mine
theorem clip_nat (a len : Nat) : max (0 : Int) (min (a : Int) (len : Int)) = ((min a len : Nat) : Int) := by
  rcases Nat.le_total a len with h | h
  · rw [Nat.min_eq_left h, Int.min_eq_left (Int.ofNat_le.mpr h)]
    exact Int.max_eq_right (Int.natCast_nonneg _)
  · rw [Nat.min_eq_right h, Int.min_eq_right (Int.ofNat_le.mpr h)]
    exact Int.max_eq_right (Int.natCast_nonneg _)
theorem sliceIdx_clip (a b len : Nat) : strSliceIndices (some (a : Int)) (some (b : Int)) 1 len = strSliceIndices (some ((min a len : Nat) : Int)) (some ((min b len : Nat) : Int)) 1 len := by
  have h1 : ¬ ((a : Int) < 0) := Int.not_lt.mpr (Int.natCast_nonneg _)
  have h2 : ¬ ((b : Int) < 0) := Int.not_lt.mpr (Int.natCast_nonneg _)
  have h3 : ¬ (((min a len : Nat) : Int) < 0) := Int.not_lt.mpr (Int.natCast_nonneg _)
  have h4 : ¬ (((min b len : Nat) : Int) < 0) := Int.not_lt.mpr (Int.natCast_nonneg _)
  have e1 := clip_nat a len
  have e2 := clip_nat b len
  have e3 : max (0 : Int) (min ((min a len : Nat) : Int) (len : Int)) = ((min a len : Nat) : Int) := by rw [clip_nat, Nat.min_assoc, Nat.min_self]
  have e4 : max (0 : Int) (min ((min b len : Nat) : Int) (len : Int)) = ((min b len : Nat) : Int) := by rw [clip_nat, Nat.min_assoc, Nat.min_self]
  simp only [strSliceIndices, sliceRange, h1, h2, h3, h4, if_false, e1, e2, e3, e4, show ((1 : Int) > 0) = True from by simp, if_true]
theorem slice_nat (x : Str) {a b : Nat} (hab : a ≤ b) : Txt.slice x (some (a : Int)) (some (b : Int)) = ⟨((x.cps.toList.drop a).take (b - a)).toArray⟩ := by
  have e : Txt.slice x (some (a : Int)) (some (b : Int)) = StrLaws.sliceText x (some ((min a x.length : Nat) : Int)) (some ((min b x.length : Nat) : Int)) := by
    show StrLaws.sliceText x (some (a : Int)) (some (b : Int)) = _
    unfold StrLaws.sliceText
    rw [sliceIdx_clip]
  rw [e, StrLaws.sliceText_nat x (by omega) (by omega)]
  congr 2
  have hl : x.length = x.cps.toList.length := by simp [Str.length]
  rcases Nat.lt_or_ge a x.length with h | h
  · rw [Nat.min_eq_left (by omega : a ≤ x.length)]
    rcases Nat.lt_or_ge b x.length with h' | h'
    · rw [Nat.min_eq_left (by omega : b ≤ x.length)]
    · rw [Nat.min_eq_right h', List.take_of_length_le (by rw [List.length_drop]; omega), List.take_of_length_le (by rw [List.length_drop]; omega)]
  · rw [Nat.min_eq_right h, List.drop_of_length_le (by omega), List.drop_of_length_le (by omega), List.take_nil, List.take_nil]
theorem slice_one (x : Str) (pos : Nat) : Txt.slice x (some ((pos : Int) + 1 - 1)) (some ((pos : Int) + 1)) = ⟨((x.cps.toList.drop pos).take 1).toArray⟩ := by
  rw [Int.add_sub_cancel, show ((pos : Int) + 1) = ((pos + 1 : Nat) : Int) from rfl, slice_nat x (Nat.le_succ pos), show pos.succ - pos = 1 by omega]
end Mine
end
section
open PySem PySem.W PyProof.Rows
set_option maxRecDepth 100000
set_option maxHeartbeats 8000000
namespace Mine

variable {w : World}
local macro_rules | `(tactic| k_updF) => `(tactic| first | exact TailF.here | (refine' TailF.there ?ta ?tb; (case ta => (refine neN ?_; (try dsimp only); omega)); (case tb => k_updF)))
theorem read_eq (row : Str) (pos : Nat) : Txt.slice row (some ((pos : Int) + 1 - 1)) (some ((pos : Int) + 1)) = chS (row.cps.toList.drop pos) := by
  rw [slice_one]
  cases row.cps.toList.drop pos <;> rfl
theorem app_ne {a b : Led} {d : Addr} (h1 : ∀ p ∈ a, p.1 ≠ d) (h2 : ∀ p ∈ b, p.1 ≠ d) : ∀ p ∈ a ++ b, p.1 ≠ d := fun p hp => (List.mem_append.mp hp).elim (h1 p) (h2 p)
theorem heard_ok (row : Str) (t u : Tok) (c : Int) (ts : List (List Nat)) (hts : Toks row.cps.toList ts []) (hc : c = ts.length) (hts3 : ts.length ≤ 3) (st news : List (Addr × Obj)) (hst : TabSt st) (hn : ∀ p ∈ news, p.1 ≠ 135) (hrow : row.length ≤ 2 ^ 20) :
    Spec w 138 20 [.str row t, .int c u] (st ++ news) (fun v news' => ∃ (D : Addr) (L1 : List (List Nat × Tok)) (t : Tok) (st' : Led), TabSt st' ∧ v = .ref D ∧ L1.map (·.1) = ts ∧ news' = (D, { cls := .type "list", data := .seq (strVals L1 ++ [Value.int (1 + row.cps.toList.count 10) t]).toArray }) :: (st' ++ news)) := by
  unfold Spec
  w_top off
  k_fill
  intro loose mean mg mb dp un gd cn cs a ccd cl outer A₀ base h₀ L m s Q E h1 h2 h3 h4 h5 codeHd0 h6 h8 h9 hret
  k_dflt (refine' code_defC ?k1 ?k2 ?k3 ?k4 ?k5 ?kA ?kF ?kK ?k6 ?k7 ?k8 ?k9 ?kB ?kD ?_ ?c2 ?c3 ?c4; (case kA => exact rfl); (case kF => exact rfl); (case kK => assumption); (case k1 => k_asm); (case k2 => k_asm); (case k3 => k_asm); (case k4 => k_asm); (case k5 => k_asm); (case k6 => k_is); (case k7 => k_is); (case k8 => ktr_room); (case k9 => first | exact BindsTo.of_eq rfl); (case kB => exact rfl); (case kD => decide +kernel); (case c2 => exact rfl); (case c3 => exact rfl); (case c4 => exact rfl); k_whole; intro g' L' h' tk' cells' FG' F' N' Y' B' X' T' l1; k_cells Y'; (try simp only [List.cons_append, List.nil_append] at N'); (try dsimp only); (try k_lift B'); (try k_fold))
  have codeHd := codeHd0.keeps FG'.keep
  have hl2 : @LT.lt Nat _ 135 L' := by
    cases hst with
    | fresh => exact l1 (135, tabObj #[]) (List.mem_append_left _ (.head _))
    | used _ _ _ => exact l1 (135, _) (List.mem_append_left _ (.tail _ (.head _)))
  have hl3 : ∀ p ∈ news, p.1 < L' := fun p hp => l1 p (List.mem_append_right _ hp)
  k_steps
  refine nestDef_K rfl rfl rfl ?_
  rw [show qualnameIn _ (Str.ofString "read") (Str.ofString "read") = Str.ofString "_law_heard.<locals>.read" from by kernel_rfl]
  refine' tab_nest ?F ?N ?T codeHd rfl hst hn ?U l1 rfl ?_
  case F => k_asm
  case N => k_asm
  case T => k_asm
  case U => k_updF
  intro f c' oc vs t ctv doc h' tk F' N' d1 d2 l1 l2 l4 l3
  simp only [AllLt] at l1 l4
  dsimp only [id] at N'
  k_sweep
  repeat' ((fail_if_success (with_reducible show wpAny _ _ (eval (Expr.ListComp _ _ _ _) _) _ _ _)); first | (k_unfold; (try dsimp only)) | (k_end; kc_close) | walk1 | (dsimp only; walk1) | fail "no step")
  rename Fr g' L' _ _ => FF
  k_dflt (refine' LCg.ListComp_U FF ?cc ?cd ?ce ?cf ?cg ?ch)
  case cc => exact rfl
  case cd => decide
  case ce => exact rfl
  case cf => decide
  case cg => exact rfl
  case ch =>
    repeat' ((fail_if_success (with_reducible show LCg.CompSrc _ _ _ _ _ _ _ _ _ _ _ _ _ _)); first | (k_unfold; (try dsimp only)) | (k_end; kc_close) | walk1 | (dsimp only; walk1) | fail "no step")
    rename Fr g' L' _ _ => F7
    rename News g' L' _ _ => N7
    rename IsRange _ _ _ _ _ _ _ _ => hr
    k_dflt (refine' heard_src F7 N7 hr hc hts3 hrow hts ?rR ?rO ?rB ?rK ?rT codeHd ?rk ?rd ?ru ?relt ?rfin)
    case rB => k_asm
    case rK => k_asm
    case rT => k_asm
    case rk => rfl
    case rd => ktr_room
    case ru => ktr_units
    case rO =>
      refine ⟨?_, ?_, ?_, ?_, ?_, ?_, ?_⟩
      all_goals dsimp only
      all_goals first | (refine neN ?_; omega) | skip
      repeat' (first | assumption | exact tail_ne hl3 (by omega) | (refine List.forall_mem_cons.mpr ⟨?_, ?_⟩) | (refine neN ?_; (try dsimp only); omega))
    case relt =>
      intro I C D oI oC m₂ ys h tk pos tp ln tl Q E' hNs F8 N8 hcall
      k_sweep
      repeat' ((fail_if_success (with_reducible show wpAny _ _ (PySem.call (Value.ref 95) _) _ _ _)); first | (k_unfold; (try dsimp only)) | (k_end; kc_close) | walk1 | (dsimp only; walk1) | fail "no step")
      exact hcall
    case rfin =>
      intro L1 pos' tp' tl' D h tk hL1 F8 N8
      k_sweep
      dsimp only
      repeat' ((fail_if_success (with_reducible show wpAny _ _ (PySem.call (Value.ref 95) _) _ _ _)); first | (k_unfold; (try dsimp only)) | (k_end; kc_close) | walk1 | (dsimp only; walk1) | fail "no step")
      rename News g' L' _ _ => N9
      rename Fr g' L' _ _ => F9
      have hL2 := congrArg List.length hL1
      rw [List.length_map] at hL2
      refine add_lists (vs := strVals L1) F9 N9 ⟨_, (N9 _ (.tail _ (.head _))).1, rfl, _, rfl⟩ ⟨_, (N9 _ (.head _)).1, rfl, _, rfl⟩ ?_ (by simp only [strVals, List.length_map, List.length_cons, List.length_nil, sizeLine_eq]; omega)
      intro h8' F10 N10
      k_sweep
      k_steps
      rename News h₀ L _ _ => kN
      rename Fr h₀ L _ _ => kF
      refine' hret _ (_ :: ([(c', oc), (135, tabObj #[rawInt 146, rawInt 4, .ref c'])] ++ news)) _ _ ⟨_, L1, tl', _, .used d1 d2 l3, rfl, hL1, rfl⟩ kF ?rN
      case rN =>
        intro p hp
        rcases List.mem_cons.mp hp with rfl | hp
        · exact kN _ (.head _)
        · refine kN p ?_
          simp only [lexL, List.mem_append, List.mem_cons, List.not_mem_nil, or_false] at hp ⊢
          rcases hp with (h | h) | h <;> simp only [h, true_or, or_true]
    case rR =>
      intro ex hex pos tp ln tl t1 hpos
      have hex2 := app_ne (tail_ne hl3 (by omega)) hex
      unfold Spec
      intro loose mean mg mb dp un gd cn cs a ccd cl outer A₀ base h₀ L m s Q E h1 h2 h3 h4 h5 codeHd0 h6 h8 h9 hret
      dsimp only [lexL, List.cons_append, List.nil_append] at h4
      k_dflt (refine' code_nest ?k1 ?k2 ?k3 ?k4 ?k5 ?kA ?kF ?kK ?k6 ?k7 ?k8 ?k9 ?kB ?kz ?c2 ?c3 ?c4 ?c5; (case kA => exact rfl); (case kF => exact rfl); (case kK => assumption); (case k1 => k_asm); (case k2 => k_asm); (case k3 => k_asm); (case k4 => k_asm); (case k5 => k_asm); (case k6 => k_mem); (case k7 => exact codeRec_news (by k_asm) (by k_mem) (by assumption) (by assumption)); (case k8 => ktr_room); (case k9 => exact BindsTo.of_eq rfl); (case c5 => decide); (case kB => exact locs rfl); (case c2 => exact rfl); (case c3 => exact rfl); (case c4 => exact rfl); k_whole)
      case kz =>
        intro g2 L2 h2' FG2 F2 N2 B2 X2 T2
        (try dsimp only)
        (try k_fold)
        k_steps
        rename News h₀ L _ _ => kN
        rename Fr h₀ L _ _ => kF
        exact hret _ _ _ _ ⟨_, _, congrArg (fun z => Value.str z _) (read_eq row pos), rfl⟩ kF kN
end Mine
end
section
open PySem PySem.W PyProof.Rows PySem.Builtin PySem.Builtin.Str
namespace Mine
/-- each c of the text turned to z -/
def sub1 (c : Nat) (z l : List Nat) : List Nat := l.flatMap fun k => if k = c then z else [k]
theorem sub1_append (c : Nat) (z a b : List Nat) : sub1 c z (a ++ b) = sub1 c z a ++ sub1 c z b := List.flatMap_append
theorem sub1_one (c : Nat) (z : List Nat) : sub1 c z [c] = z := by simp [sub1]
theorem sub1_free (c : Nat) (z : List Nat) : ∀ l : List Nat, c ∉ l → sub1 c z l = l
  | [], _ => rfl
  | k :: r, h => by
    have ih := sub1_free c z r fun q => h (List.mem_cons_of_mem _ q)
    unfold sub1 at ih ⊢
    have hk : ¬ k = c := fun e => h (e ▸ List.mem_cons_self)
    rw [List.flatMap_cons, ih, if_neg hk]
    rfl
theorem app_cps (a b : Str) : (a ++ b).cps.toList = a.cps.toList ++ b.cps.toList := by
  show (Str.append a b).cps.toList = _
  simp [Str.append]
theorem sub1_join (c : Nat) (z : Str) : ∀ parts : List Str, (∀ p ∈ parts, c ∉ p.cps.toList) → sub1 c z.cps.toList (Str.join ⟨#[c]⟩ parts).cps.toList = (Str.join z parts).cps.toList
  | [], _ => rfl
  | [p], h => sub1_free c _ _ (h p List.mem_cons_self)
  | p :: q :: r, h => by
    have ih := sub1_join c z (q :: r) fun x hx => h x (List.mem_cons_of_mem _ hx)
    show sub1 c z.cps.toList (p ++ ⟨#[c]⟩ ++ Str.join ⟨#[c]⟩ (q :: r)).cps.toList = (p ++ z ++ Str.join z (q :: r)).cps.toList
    rw [app_cps, app_cps, app_cps, app_cps, sub1_append, sub1_append, ih, sub1_free c _ _ (h p List.mem_cons_self)]
    congr 2
    exact sub1_one c _
theorem replace_sub (x z : Str) (c : Nat) : (Txt.replace x ⟨#[c]⟩ z).cps.toList = sub1 c z.cps.toList x.cps.toList := by
  rw [StrLaws.replace_one, ← sub1_join c z _ (StrLaws.split_free x c), StrLaws.join_split]

def escq (q : Nat) (S : Nat → Bool) (c : Nat) : List Nat := if S c then [q, c] else [c]
theorem esc_q (S : Nat → Bool) : esc S = escq 92 S := rfl
def S0 (c : Nat) : Bool := c == 34
theorem sub_dbl (l : List Nat) : sub1 34 [34, 34] l = l.flatMap (escq 34 S0) := by
  unfold sub1
  congr 1
  funext k
  simp only [escq, S0, beq_iff_eq]
  split
  · rename_i h; rw [h]
  · rfl
theorem sub_quo (l : List Nat) : sub1 34 [92, 34] (sub1 92 [92, 92] l) = l.flatMap (esc Sq) := by
  unfold sub1
  rw [List.flatMap_assoc]
  congr 1
  funext k
  simp only [esc, Sq, Bool.or_eq_true, beq_iff_eq]
  by_cases h1 : k = 92
  · subst h1; rfl
  · by_cases h2 : k = 34
    · subst h2; rfl
    · simp [h1, h2]
theorem escq_len (q : Nat) (S : Nat → Bool) : ∀ l : List Nat, (l.flatMap (escq q S)).length ≤ 2 * l.length
  | [] => Nat.le_refl _
  | c :: l => by
    have := escq_len q S l
    rw [List.flatMap_cons, List.length_append, List.length_cons, escq]
    split <;> simp only [List.length_cons, List.length_nil] <;> omega
theorem str_of (s : Str) : (⟨s.cps.toList.toArray⟩ : Str) = s := by cases s; rfl
theorem str_ext {a b : Str} (h : a.cps.toList = b.cps.toList) : a = b := by rw [← str_of a, ← str_of b, h]
theorem join_empty : ∀ parts : List Str, (Str.join (Str.ofString "") parts).cps.toList = parts.flatMap fun p => p.cps.toList
  | [] => rfl
  | [p] => by simp [Str.join]
  | p :: q :: r => by
    have ih := join_empty (q :: r)
    show (p ++ Str.ofString "" ++ Str.join (Str.ofString "") (q :: r)).cps.toList = _
    rw [app_cps, app_cps, ih, show (Str.ofString "").cps.toList = [] from by decide +kernel, List.append_nil]
    rfl
def bodyS (q : Nat) (S : Nat → Bool) (x : Str) : Str := ⟨(x.cps.toList.flatMap (escq q S)).toArray⟩
theorem bodyS_len (q : Nat) (S : Nat → Bool) (x : Str) : (bodyS q S x).length ≤ 2 * x.length := by
  have := escq_len q S x.cps.toList
  simpa [bodyS, Str.length] using this
/-- the row of a kind -/
def rowS (k : Int) (x tail : Str) : Str :=
  if k = 0 then Str.ofString "257 \"" ++ bodyS 34 S0 x ++ Str.ofString "\"" ++ tail
  else if k = 2 then Str.ofString "k" ++ bodyS 92 Sb x ++ Str.ofString " "
  else if k = 1 then Str.ofString "\"" ++ bodyS 92 Sq x ++ Str.ofString "\""
  else Str.ofString "# " ++ (Str.ofString "\"" ++ bodyS 92 Sq x ++ Str.ofString "\"")
theorem quo_is' : Str.ofString "\"" = ⟨#[34]⟩ := by decide +kernel
theorem bsl_is' : Str.ofString "\\" = ⟨#[92]⟩ := by decide +kernel
theorem quo2_is : (Str.ofString "\"\"").cps.toList = [34, 34] := by decide +kernel
theorem bsl2_is : (Str.ofString "\\\\").cps.toList = [92, 92] := by decide +kernel
theorem bq_is : (Str.ofString "\\\"").cps.toList = [92, 34] := by decide +kernel
theorem rep0 (x : Str) : Txt.replace x (Str.ofString "\"") (Str.ofString "\"\"") = bodyS 34 S0 x := by
  refine str_ext ?_
  rw [quo_is', replace_sub, quo2_is, sub_dbl]; rfl
theorem rep1 (x : Str) : Txt.replace (Txt.replace x (Str.ofString "\\") (Str.ofString "\\\\")) (Str.ofString "\"") (Str.ofString "\\\"") = bodyS 92 Sq x := by
  refine str_ext ?_
  rw [quo_is', replace_sub, bsl_is', replace_sub, bsl2_is, bq_is, sub_quo]; rfl
theorem sub1_len (c : Nat) (z : List Nat) (hz : z.length ≤ 2) : ∀ l : List Nat, (sub1 c z l).length ≤ 2 * l.length
  | [] => Nat.le_refl _
  | k :: l => by
    have := sub1_len c z hz l
    unfold sub1 at this ⊢
    rw [List.flatMap_cons, List.length_append, List.length_cons]
    split
    · omega
    · simp only [List.length_cons, List.length_nil]; omega
theorem rep1_len (x : Str) : (Txt.replace x (Str.ofString "\\") (Str.ofString "\\\\")).length ≤ 2 * x.length := by
  have h := congrArg List.length (replace_sub x (Str.ofString "\\\\") 92)
  rw [← bsl_is', bsl2_is] at h
  have := sub1_len 92 [92, 92] (by simp) x.cps.toList
  rw [← h] at this
  simpa [Str.length] using this
def signB (c : Nat) : Str := ⟨(escq 92 Sb c).toArray⟩
theorem join_body (x : Str) : Txt.join (Str.ofString "") (x.cps.toList.map signB) = bodyS 92 Sb x := by
  refine str_ext ?_
  show (glued (Str.ofString "") _).cps.toList = _
  rw [StrLaws.glued_eq_join, join_empty, List.flatMap_map]
  rfl
theorem joinOk_body (x : Str) (hx : x.length ≤ 65536) : JoinOk (Str.ofString "") (x.cps.toList.map signB) = true := by
  unfold JoinOk
  rw [Bool.not_eq_true']
  have h1 : x.cps.toList.length = x.length := by simp [Str.length]
  refine StrLaws.joinFits (B := 2) (fun y hy => ?_) ?_
  · obtain ⟨c, _, rfl⟩ := List.mem_map.mp hy
    unfold signB escq Str.length
    split <;> simp
  · rw [List.length_map, h1, show (Str.ofString "").length = 0 from by decide +kernel]
    omega
theorem signB_t {c : Nat} (h : Sb c = true) : signB c = Str.ofString "\\" ++ ⟨#[c]⟩ := by
  refine str_ext ?_
  rw [app_cps, bsl_is']
  unfold signB escq
  rw [h]; rfl
theorem signB_f {c : Nat} (h : Sb c = false) : signB c = ⟨#[c]⟩ := by
  refine str_ext ?_
  unfold signB escq
  rw [h]; rfl
theorem sb_is : (Str.ofString "\"\\ \t\x0d\n").cps.toList = [34, 92, 32, 9, 13, 10] := by decide +kernel
theorem sb_at (c : Nat) : (occurrences (Str.ofString "\"\\ \t\x0d\n") ⟨#[c]⟩ 0 (Str.ofString "\"\\ \t\x0d\n").length 1).isEmpty = !Sb c := by
  have := StrLaws.found_one (Str.ofString "\"\\ \t\x0d\n") c
  rw [sb_is] at this
  have e : Sb c = decide (c ∈ [34, 92, 32, 9, 13, 10]) := by
    unfold Sb
    rw [Bool.eq_iff_iff]
    simp only [Bool.or_eq_true, beq_iff_eq, decide_eq_true_eq, List.mem_cons, List.not_mem_nil, or_false, or_assoc]
  rw [e, ← this, Bool.not_not]
end Mine
end
section
open PySem PySem.W PyProof.Rows PySem.Calls PySem.Spec
set_option maxRecDepth 100000
set_option maxHeartbeats 4000000
namespace Mine
/-- a Spec for a call in whose state the tokens have begun -/
def SpecT (w : World) (f : Addr) (d : Nat) (args : List Value) (news : Led) (Post : Value → Led → Prop) : Prop :=
  ∀ (loose : List Str) (mean : ExcName → Option Value) (mg mb : Str → Option Value) (dp un : Nat) (gd : Option (List Code)) (cn : Str) (cs : Scope) (a : Addr) (ccd : Value) (cl : List (Str × Addr)) (outer : List Env)
    (A₀ : Around) (base h₀ : Heap) (L : Addr) (m : Str → Option Value) (s : Shared) (Q E : Value → Shared → Prop),
    Below A₀ base outer h₀ → Fr h₀ L s.heap m → (hd.heap_39 w.params).In h₀ → News h₀ L s.heap news → Top topProg loose mean mg mb h₀ → CodeHd h₀ 137 135 → cs.kind = .function →
    dp + d < recursionLimit → un + 20 * d < cLine → 1 ≤ s.toks →
    (∀ v news' h' tk', Post v news' → Fr h₀ L h' m → News h₀ L h' news' → Q v { s with heap := h', toks := tk' }) →
    codeAny (model PySem.Challenge.rw_sc0036_01.row.toRowW.prog w) (ktrTop dp un gd cn cs L a ccd cl outer) (.call (.ref f) ⟨args, []⟩)
      (fun r s' => match r with | .ok (.ret v) => Q v s' | .ok _ => False | .error e => E e s') s
section
variable {w : World} {f : Addr} {d : Nat} {args : List Value} {news : Led} {Post : Value → Led → Prop} {loose : List Str} {mean : ExcName → Option Value} {mg mb : Str → Option Value} {dp un : Nat} {gd : Option (List Code)} {cn : Str} {cs : Scope} {a : Addr} {ccd : Value} {cl : List (Str × Addr)} {outer : List Env}
    {A₀ : Around} {base h₀ : Heap} {L : Addr} {m : Str → Option Value} {s : Shared} {Q E : Value → Shared → Prop}
theorem SpecT.use (S : SpecT w f d args news Post)
    (h1 : Below A₀ base outer h₀) (h2 : Fr h₀ L s.heap m) (h3 : (hd.heap_39 w.params).In h₀) (h4 : News h₀ L s.heap news) (h5 : Top topProg loose mean mg mb h₀) (h6 : CodeHd h₀ 137 135) (h7 : cs.kind = .function)
    (h8 : dp + d < recursionLimit) (h9 : un + 20 * d < cLine) (ht : 1 ≤ s.toks)
    (h : ∀ v news' h' tk', 1 ≤ tk' → Post v news' → Fr h₀ L h' m → News h₀ L h' news' → Q v { s with heap := h', toks := tk' }) :
    wpAny (model PySem.Challenge.rw_sc0036_01.row.toRowW.prog w) (ktrTop dp un gd cn cs L a ccd cl outer) (call (.ref f) args) Q E s :=
  wpAny_with_toks ht (wpAny_call (S loose mean mg mb dp un gd cn cs a ccd cl outer A₀ base h₀ L m s _ _ h1 h2 h3 h4 h5 h6 h7 h8 h9 ht fun v news' h' tk' hp F N hk => h v news' h' tk' hk hp F N))
theorem Spec.useT (S : Spec w f d args news Post)
    (h1 : Below A₀ base outer h₀) (h2 : Fr h₀ L s.heap m) (h3 : (hd.heap_39 w.params).In h₀) (h4 : News h₀ L s.heap news) (h5 : Top topProg loose mean mg mb h₀) (h6 : CodeHd h₀ 137 135) (h7 : cs.kind = .function)
    (h8 : dp + d < recursionLimit) (h9 : un + 20 * d < cLine) (ht : 1 ≤ s.toks)
    (h : ∀ v news' h' tk', 1 ≤ tk' → Post v news' → Fr h₀ L h' m → News h₀ L h' news' → Q v { s with heap := h', toks := tk' }) :
    wpAny (model PySem.Challenge.rw_sc0036_01.row.toRowW.prog w) (ktrTop dp un gd cn cs L a ccd cl outer) (call (.ref f) args) Q E s :=
  wpAny_with_toks ht (wpAny_call (S loose mean mg mb dp un gd cn cs a ccd cl outer A₀ base h₀ L m s _ _ h1 h2 h3 h4 h5 h6 h7 h8 h9 fun v news' h' tk' hp F N hk => h v news' h' tk' hk hp F N))
end
section
variable {prog : Program} {w : World} {A : Around}
theorem gen_tok {α : Type} {t : Sem α} {Q : α → Shared → Prop} {E : Value → Shared → Prop} {h : Heap} {g : Array GenState} {d : Drawn} {X : Nat} {os : OsState} (hX : 1 ≤ X) (k : ∀ tk, 1 ≤ tk → wpAny (model prog w) A t Q E ⟨h, g, d, tk, os⟩) :
    wpAny (model prog w) A t Q E ⟨h, g, d, X, os⟩ := k X hX
variable {E : Value → Shared → Prop} {s : Shared} {x y z : Str} {t u v : Tok} {Q : Value → Shared → Prop}
theorem replT (a b : Nat) (hs : 1 ≤ s.toks) (hu : @LE.le Nat _ 1 u) (hv : @LE.le Nat _ 1 v) (huv : @Ne Nat u v) (hyz : (y == z) = false) (hx : x.length ≤ a) (hz : z.length ≤ b) (hab : a + (a + 1) * b ≤ 16777216)
    (hq : ∀ t' k, 1 ≤ k → Q (.str (Txt.replace x y z) t') { s with toks := k }) :
    wpAny (model prog w) A (call (.builtin "str.replace") [.str x t, .str y u, .str z v]) Q E s :=
  wpAny_with_toks hs (SC.replace (Nat.ne_of_gt hu) (Nat.ne_of_gt hv) huv hyz (by
    have h1 : (x.length + 1) * z.length ≤ (x.length + 1) * b := Nat.mul_le_mul_left _ hz
    have h2 : (x.length + 1) * b ≤ (a + 1) * b := Nat.mul_le_mul_right _ (by omega)
    omega) fun t' k hk => hq t' k hk)
end
end Mine
end
section
open PySem PySem.W PyProof.Rows PySem.Calls PySem.Spec
set_option maxRecDepth 100000
set_option maxHeartbeats 4000000
namespace Mine
section
variable {prog : Program} {w : World} {A : Around} {E : Value → Shared → Prop} {s : Shared} {h₀ : Heap} {L : Addr} {m : Str → Option Value} {env : Env}

theorem striter_st {I : Addr} {ty : String} {y : Str} {t : Tok} : ∀ (i : Nat) (h h' : Heap) (o : Obj) (nw : Led), h.IsStrIter I ty y t i → h.get? I = some o → h'.get? I = some o → (∀ b o, h₀.get? b = some o → h'.get? b = some o) → News h₀ L h' nw → True → h'.IsStrIter I ty y t i :=
  fun _ _ _ _ _ st e e' _ _ _ => by obtain ⟨o, q, r⟩ := st; rw [e] at q; cases q; exact ⟨_, e', r⟩

theorem ListComp_txt {elt iter : Expr} {x : Str} {px : Pos} {scope : Scope} {cl : List (Str × Addr)} {pos : Pos} {Q : Value → Shared → Prop}
    (hclos : closureFor scope env = pure cl) (hcell : ∀ y ∈ scope.names, y.2 ≠ .cell) (hkind : scope.kind = .function)
    (hnames : ∀ y ∈ scope.names, y.2 = .local → scope.names.lookup y.1 = some .local) (hx : scope.names.lookup x = some .local)
    (h : wpAny (model prog w) A (eval iter env) (fun xv s₁ => ∃ y t news, xv = .str y t ∧ A.handled = none ∧ Fr h₀ L s₁.heap m ∧ News h₀ L s₁.heap news ∧ y.cps.size ≤ sizeLine ∧
      ∀ s₂ : Shared, (∃ h, s₂ = { s₁ with heap := h }) → LCg.CompRest prog w A h₀ L m env elt x scope cl s₂ (fun _ => True) (SignAt y) (LCg.FinE h₀ L m s₂ Q) y.cps.size 0 [] news) E s)
    (hs : ∀ x, foldedSetIterable iter env x = pure x := by intro _; rfl) :
    wpAny (model prog w) A (eval (.ListComp elt [⟨.Name x px, iter, [], 0⟩] scope pos) env) Q E s := by
  rw [eval_ListComp]
  refine wpAny_comprehension_free (use := none) rfl hs hclos hkind hnames (wpAny_mono h (fun xv s₁ h₁ => ?_) fun _ _ e => e)
  obtain ⟨y, t, news, rfl, hh, F, N, hsz, R⟩ := h₁
  have fin : ∀ (o : Obj), ∀ D C h tk m' ys news', Fr h₀ L h m → News h₀ L h ((D, LCg.lst ys) :: news') → LCg.Off1 D news' → h.Ns C m' → h₀.get? C = none → h₀.get? D = none → C ≠ L → D ≠ L → C ≠ D → (∀ p ∈ news', p.1 ≠ C) →
      LCg.FinE h₀ L m { s₁ with heap := s₁.heap.push o } Q ys news' → ∃ m', h.Ns C m' ∧ ∀ h'', Heap.SameBut C h h'' → Q (.ref D) { s₁ with heap := h'', toks := tk } := by
    intro o D C h tk m' ys news' F' N' o1 hn hC₀ hD₀ hCL hDL hCD offC fin
    refine ⟨m', hn, fun h'' hs'' => fin D h'' tk (F'.change hs'' hCL hC₀) (fun p hp => ?_) o1⟩
    refine ⟨hs''.extBut _ _ ?_ (N' p hp).1, (N' p hp).2⟩
    rcases List.mem_cons.mp hp with rfl | hp
    · exact Ne.symm hCD
    · exact offC p hp
  have here : ∀ (o : Obj) (b : Addr), b ∈ [s₁.heap.objs.size] → b < (s₁.heap.push o).objs.size := fun o b hb => by
    rw [List.mem_singleton.mp hb, Heap.size_push]; exact Nat.lt_succ_self _
  cases ha : y.cps.all (· < 128)
  · refine wpAny_pyIter_wide ha ?_
    refine LCg.block_U (Walks.strWide hh s₁.heap.objs.size y t) hsz (fun i h st => by obtain ⟨o, e, _⟩ := st; exact ⟨o, e⟩) striter_st hcell hkind hx ⟨_, Heap.get?_push_size _ rfl, rfl, rfl⟩ (here _)
      (F.keeps fun _ _ e => Heap.get?_push_of_some _ e) (N.grown fun _ _ e => Heap.get?_push_of_some _ e) (Nat.ne_of_lt F.ns.lt) (next_is_new F) (fun p hp => Nat.ne_of_lt (Heap.lt_size (N p hp).1)) trivial (R _ ⟨_, rfl⟩) (fin _)
  · refine wpAny_pyIter_ascii ha ?_
    refine LCg.block_U (Walks.strAscii hh s₁.heap.objs.size y t) hsz (fun i h st => by obtain ⟨o, e, _⟩ := st; exact ⟨o, e⟩) striter_st hcell hkind hx ⟨_, Heap.get?_push_size _ rfl, rfl, rfl⟩ (here _)
      (F.keeps fun _ _ e => Heap.get?_push_of_some _ e) (N.grown fun _ _ e => Heap.get?_push_of_some _ e) (Nat.ne_of_lt F.ns.lt) (next_is_new F) (fun p hp => Nat.ne_of_lt (Heap.lt_size (N p hp).1)) trivial (R _ ⟨_, rfl⟩) (fin _)

theorem comp_txt {elt : Expr} {x : Str} {scope : Scope} {cl : List (Str × Addr)} {y : Str} {Fin : List Value → Led → Prop} {news : Led} (g : Nat → Str)
    (helt : ∀ (c : Nat) (tc : Tok) (I C D : Addr) (oI oC : Obj) (m₂ : Str → Option Value) (ys : List Value) (h : Heap) (tk : Nat) (E' : Value → Shared → Prop), LCg.NsObj oC m₂ → m₂ x = some (.str ⟨#[c]⟩ tc) → Fr h₀ L h m →
      News h₀ L h ((I, oI) :: (C, oC) :: (D, LCg.lst ys) :: news) →
      wpAny (model prog w) A (eval elt (compEnvC scope cl C env)) (fun r s' => ∃ h' tk' t', r = .str (g c) t' ∧ s' = { s with heap := h', toks := tk' } ∧ Fr h₀ L h' m ∧ News h₀ L h' ((I, oI) :: (C, oC) :: (D, LCg.lst ys) :: news)) E' { s with heap := h, toks := tk })
    (fin : ∀ l : List (Str × Tok), l.map (·.1) = y.cps.toList.map g → Fin (strValues l) news) :
    ∀ (k i : Nat) (l0 : List (Str × Tok)), i + k = y.cps.size → l0.map (·.1) = (y.cps.toList.take i).map g →
      LCg.CompRest prog w A h₀ L m env elt x scope cl s (fun _ => True) (SignAt y) Fin k i (strValues l0) news
  | 0, i, l0, hi, hl => by
    refine LCg.CompRest.zero (fin l0 ?_)
    rw [hl, List.take_of_length_le (by rw [Array.length_toList]; omega)]
  | k + 1, i, l0, hi, hl => by
    refine LCg.CompRest.succ fun v I oI C oC D m₂ h tk E' hP hNs hx F N off hne => ?_
    obtain ⟨c, u, hc, rfl⟩ := hP
    refine wpAny_mono (helt c u I C D oI oC m₂ _ h tk E' hNs hx F N) (fun r s' hr => ?_) fun _ _ e => e
    obtain ⟨h', tk', t', rfl, rfl, F', N'⟩ := hr
    refine LCg.CompEnd.intro F' N' news (fun p hp => hp) off trivial ?_
    have := comp_txt g helt fin k (i + 1) (l0 ++ [(g c, t')]) (by omega) ?_
    · simpa [strValues] using this
    · rw [← Array.getElem?_toList] at hc
      rw [List.map_append, hl, List.take_add_one, hc, List.map_append]
      rfl

theorem while_over {test : Expr} {body : List Stmt} {pos : Pos} {Q : Flow → Shared → Prop} (n : Nat) (J : Nat → Shared → Prop) (h0 : J n s)
    (turn : ∀ n s, J n s → wpAny (model prog w) A (isTrue test env (eval test env)) (fun b s₂ => if b = true then wpAny (model prog w) A (execs body env) (fun f s₃ => match f with
      | .next | .cont => Turned n J s₃
      | .brk => Q .next s₃
      | .ret v => Q (.ret v) s₃) (fun _ _ => False) s₂ else Q .next s₂) (fun _ _ => False) s) :
    wpAny (model prog w) A (exec (.While test body [] pos) env) Q E s := by
  refine wpAny_While (codeAny_whileLoop (R := fun r s' => match r with | .ok f => Q f s' | .error e => cameBackBy (model prog w) A env E e s') J (fun n s hJ => ?_) n h0)
  refine wpAny_mono (turn n s hJ) (fun b s₂ h₂ => ?_) fun _ _ z => z.elim
  cases b with
  | true =>
    rw [if_pos rfl] at h₂ ⊢
    refine wpAny_mono h₂ (fun f s₃ h₃ => ?_) fun _ _ z => z.elim
    cases f <;> exact h₃
  | false =>
    rw [if_neg Bool.false_ne_true] at h₂ ⊢
    exact wpAny_execs_nil h₂
theorem while_hid {test : Expr} {body : List Stmt} {pos : Pos} {Q : Flow → Shared → Prop} (n : Nat) (I : Nat → Shared → Prop) (h0 : I n s)
    (turn : ∀ J : Nat → Shared → Prop, (∀ k s, I k s → J k s) → ∀ n s, I n s → wpAny (model prog w) A (isTrue test env (eval test env)) (fun b s₂ => if b = true then wpAny (model prog w) A (execs body env) (fun f s₃ => match f with
      | .next | .cont => Turned n J s₃
      | .brk => Q .next s₃
      | .ret v => Q (.ret v) s₃) (fun _ _ => False) s₂ else Q .next s₂) (fun _ _ => False) s) :
    wpAny (model prog w) A (exec (.While test body [] pos) env) Q E s := while_over n I h0 (turn I fun _ _ h => h)
end
end Mine
end
section
open PySem PySem.W PyProof.Rows PySem.Calls PySem.Spec
set_option maxRecDepth 100000
set_option maxHeartbeats 8000000
namespace Mine

variable {w : World}

local macro_rules | `(tactic| walk_at "execs cons") => `(tactic| (k_here; refine gen_tok ?gtk ?_; (case gtk => (fail_if_success assumption); omega); intro tk htk))
local macro_rules | `(tactic| walk_at "execs nil") => `(tactic| (k_here; refine gen_tok ?gtk ?_; (case gtk => (fail_if_success assumption); omega); intro tk htk))
local macro_rules | `(tactic| walk_at "ite") => `(tactic| first | (with_reducible refine ite_at_f (by assumption) ?_) | (with_reducible refine ite_at_t (by assumption) ?_))
theorem row_ok (k : Int) (below tail : Str) (t u v : Tok) (news : Led) (hk : 0 ≤ k ∧ k ≤ 3) (hb : below.length ≤ 2 ^ 16) (ht : tail.length ≤ 100) :
    SpecT w 133 3 [.int k t, .str below u, .str tail v] news (fun v news' => ∃ t, v = .str (rowS k below tail) t ∧ news' = news) := by
  unfold SpecT
  w_top off
  k_fill
  intro loose mean mg mb dp un gd cn cs a ccd cl outer A₀ base h₀ L m s Q E h1 h2 h3 h4 h5 codeHd0 h6 h8 h9 htk0 hret
  k_dflt cell_enter
  rename_i g' L' h' FG F N B X' T
  have codeHd := CodeHd.keeps codeHd0 FG.keep
  repeat' ((fail_if_success (with_reducible show wpAny _ _ (PySem.call (Value.builtin "str.replace") _) _ _ _)); (fail_if_success (with_reducible show wpAny _ _ (eval (Expr.ListComp _ _ _ _) _) _ _ _)); first | (k_unfold; (try dsimp only)) | (k_end; kc_close) | walk1 | (dsimp only; walk1) | fail "no step")
  · rename k = 0 => hk0
    refine replT 65536 4 ?_ ?_ ?_ ?_ (by decide +kernel) hb (by decide +kernel) (by decide) ?_
    iterate 4 (focus ((try dsimp only); omega))
    intro t1 k1 hk1
    rw [rep0]
    have hbl := bodyS_len 34 S0 below
    have hrow : rowS k below tail = Str.ofString "257 \"" ++ bodyS 34 S0 below ++ Str.ofString "\"" ++ tail := by rw [rowS, if_pos hk0]
    have hbl2 : (bodyS 34 S0 below).length ≤ 131072 := by omega
    clear hbl
    revert hrow hbl2
    generalize bodyS 34 S0 below = b0
    intro hrow hbl2
    k_steps
    rename News h₀ L _ _ => kN
    rename Fr h₀ L _ _ => kF
    exact hret _ _ _ _ ⟨_, congrArg (fun z => Value.str z _) hrow.symm, rfl⟩ kF kN
  · rename k ≠ 0 => hk0
    rename k = 2 => hk2
    k_dflt (refine' ListComp_txt ?qc ?qd ?qe ?qf ?qg ?qh)
    case qc => exact rfl
    case qd => decide
    case qe => exact rfl
    case qf => decide
    case qg => exact rfl
    case qh =>
      k_dflt (refine' ld F ?qn ?qm)
      case qn => exact rfl
      case qm =>
        refine ⟨below, u, news, rfl, rfl, F, N, ?_, ?_⟩
        · rw [sizeLine_eq]; simp only [Str.length] at hb; omega
        · rintro s₂ ⟨hh, rfl⟩
          refine comp_txt (y := below) signB ?_ ?_ _ 0 [] (by simp) rfl
          · intro c tc I C D oI oC m₂ ys h tk E' hNs hx F8 N8
            k_sweep
            cases hsb : Sb c with
            | true =>
              have hoc := sb_at c
              rw [hsb, Bool.not_true] at hoc
              rw [signB_t hsb]
              repeat' ((fail_if_success (with_reducible show Exists _)); first | (k_unfold; (try dsimp only)) | (k_end; kc_close) | walk1 | (dsimp only; walk1) | fail "no step")
              exact ⟨_, _, _, rfl, rfl, F8, N8⟩
            | false =>
              have hoc := sb_at c
              rw [hsb, Bool.not_false] at hoc
              rw [signB_f hsb]
              repeat' ((fail_if_success (with_reducible show Exists _)); first | (k_unfold; (try dsimp only)) | (k_end; kc_close) | walk1 | (dsimp only; walk1) | fail "no step")
              exact ⟨_, _, _, rfl, rfl, F8, N8⟩
          · intro l hl D h tk F8 N8 _
            k_sweep
            dsimp only
            repeat' ((fail_if_success (with_reducible show wpAny _ _ (PySem.call (Value.builtin "str.join") _) _ _ _)); first | (k_unfold; (try dsimp only)) | (k_end; kc_close) | walk1 | (dsimp only; walk1) | fail "no step")
            refine SC.join ⟨_, (N8 _ (.head _)).1, rfl, _, rfl⟩ hl (joinOk_body below hb) ?_
            intro t1 k1
            rw [join_body]
            have hbl := bodyS_len 92 Sb below
            have hrow : rowS k below tail = Str.ofString "k" ++ bodyS 92 Sb below ++ Str.ofString " " := by rw [rowS, if_neg hk0, if_pos hk2]
            have hbl2 : (bodyS 92 Sb below).length ≤ 131072 := by omega
            clear hbl hl
            revert hrow hbl2
            generalize bodyS 92 Sb below = b0
            intro hrow hbl2
            k_steps
            rename News h₀ L _ _ => kN
            rename Fr h₀ L _ _ => kF
            exact hret _ _ _ _ ⟨_, congrArg (fun z => Value.str z _) hrow.symm, rfl⟩ kF (News.sub kN fun p hp => .tail _ hp)
  · rename k ≠ 0 => hk0
    rename k ≠ 2 => hk2'
    refine replT 65536 4 ?_ ?_ ?_ ?_ (by decide +kernel) hb (by decide +kernel) (by decide) ?_
    iterate 4 (focus ((try dsimp only); omega))
    intro t1 k1 hk1
    have hbl1 := rep1_len below
    have hbl := bodyS_len 92 Sq below
    have hrp := rep1 below
    have hbl3 : (Txt.replace below (Str.ofString "\\") (Str.ofString "\\\\")).length ≤ 131072 := by omega
    clear hbl1
    revert hrp hbl3
    generalize Txt.replace below (Str.ofString "\\") (Str.ofString "\\\\") = r1
    intro hrp hbl3
    repeat' ((fail_if_success (with_reducible show wpAny _ _ (PySem.call (Value.builtin "str.replace") _) _ _ _)); first | (k_unfold; (try dsimp only)) | (k_end; kc_close) | walk1 | (dsimp only; walk1) | fail "no step")
    refine replT 131072 4 ?_ ?_ ?_ ?_ (by decide +kernel) hbl3 (by decide +kernel) (by decide) ?_
    iterate 4 (focus ((try dsimp only); omega))
    intro t2 k2 hk2
    rw [hrp]
    have hbl2 : (bodyS 92 Sq below).length ≤ 131072 := by omega
    have hrow : rowS k below tail = (if k = 1 then Str.ofString "\"" ++ bodyS 92 Sq below ++ Str.ofString "\"" else Str.ofString "# " ++ (Str.ofString "\"" ++ bodyS 92 Sq below ++ Str.ofString "\"")) := by rw [rowS, if_neg hk0, if_neg hk2']
    clear hbl hrp
    revert hrow hbl2
    generalize bodyS 92 Sq below = b0
    intro hbl2 hrow
    k_steps
    · rename k = 1 => hk1
      rename News h₀ L _ _ => kN
      rename Fr h₀ L _ _ => kF
      rw [if_pos hk1] at hrow
      exact hret _ _ _ _ ⟨_, congrArg (fun z => Value.str z _) hrow.symm, rfl⟩ kF kN
    · rename k ≠ 1 => hk1
      rename News h₀ L _ _ => kN
      rename Fr h₀ L _ _ => kF
      rw [if_neg hk1] at hrow
      exact hret _ _ _ _ ⟨_, congrArg (fun z => Value.str z _) hrow.symm, rfl⟩ kF kN
end Mine
end
section
open PySem PySem.W PyProof.Rows PySem.Calls PySem.Spec
set_option maxRecDepth 100000
set_option maxHeartbeats 8000000
namespace Mine
local macro_rules | `(tactic| walk_at "pad of mine") => `(tactic| fail "pad")
theorem item_of {x : Str} {i : Nat} {c : Nat} {r : List Nat} (h : x.cps.toList.drop i = c :: r) : Txt.item x (i : Int) = ⟨#[c]⟩ := by
  have e : x.cps.toList[i]? = some c := by rw [← Nat.add_zero i, ← List.getElem?_drop, h]; rfl
  rw [Array.getElem?_toList] at e
  unfold Txt.item
  have e1 : ¬ ((i : Int) < 0) := by omega
  have e2 : i < x.length := by
    have := congrArg List.length h
    simp only [List.length_drop, List.length_cons, Array.length_toList] at this
    simp only [Str.length]; omega
  simp [Txt.charAt, seqIndex?, e1, e2, e]
variable {w : World}
local macro_rules | `(tactic| walk_at "eval Name") => `(tactic| (k_here; k_dflt (refine' ld ?k1 ?k2 ?_; (case k1 => k_asm); (case k2 => first | exact rfl | assumption); k_whole)))
local macro_rules | `(tactic| walk_at "loadName") => `(tactic| (k_here; k_dflt (refine' ldn ?k1 ?k2 ?_; (case k1 => k_asm); (case k2 => first | exact rfl | assumption); k_whole)))
local macro_rules | `(tactic| walk_at "ite") => `(tactic| first | (with_reducible refine ite_at_f (by assumption) ?_) | (with_reducible refine ite_at_t (by assumption) ?_))

inductive InvP (resp : Str) (below tl : List Nat) (t : Tok) (news : Led) (g' : Heap) (L' : Addr) (s : Shared) (k : Nat) (s' : Shared) : Prop
  | mk (n1 n2 : List Nat) (i : Nat) (ti tt : Tok) (m2 : Str → Option Value) (h2 : Heap) (tk2 : Nat)
    (e0 : s' = { s with heap := h2, toks := tk2 })
    (e1 : k = n2.length)
    (e2 : below = n1 ++ n2)
    (e3 : resp.cps.toList.drop i = n2.flatMap (escq 34 S0) ++ 34 :: tl)
    (e4 : i ≤ resp.length)
    (e5 : Fr g' L' h2 m2)
    (e6 : News g' L' h2 news)
    (e7 : m2 (Str.ofString "resp") = some (.str resp t))
    (e8 : m2 (Str.ofString "dirname") = some (.str ⟨n1.toArray⟩ tt))
    (e9 : m2 (Str.ofString "i") = some (.int i ti))
    (e10 : ∃ tn, m2 (Str.ofString "n") = some (.int resp.length tn)) : InvP resp below tl t news g' L' s k s'
theorem parse_ok (resp : Str) (below tl : List Nat) (t : Tok) (news : Led) (hb : below.length ≤ 2 ^ 16) (ht : tl.length ≤ 100) (htl : tl.head? ≠ some 34)
    (hr : resp.cps.toList = [50, 53, 55, 32, 34] ++ (below.flatMap (escq 34 S0) ++ 34 :: tl)) :
    Spec w 67 3 [.str resp t] news (fun v news' => ∃ t, v = .str ⟨below.toArray⟩ t ∧ news' = news) := by
  unfold Spec
  w_top off
  k_fill
  intro loose mean mg mb dp un gd cn cs a ccd cl outer A₀ base h₀ L m s Q E h1 h2 h3 h4 h5 codeHd0 h6 h8 h9 hret
  k_dflt cell_enter
  rename_i g' L' h' FG F N B X' T
  have codeHd := CodeHd.keeps codeHd0 FG.keep
  have hlen : resp.length ≤ 2 ^ 20 := by
    have e1 := congrArg List.length hr
    have e2 := escq_len 34 S0 below
    simp only [List.length_append, List.length_cons, List.length_nil, Array.length_toList] at e1
    simp only [Str.length]
    omega
  have hs1 : (Txt.slice resp none (some 3) != Str.ofString "257") = false := by
    have e : Txt.slice resp none (some 3) = Str.ofString "257" := by
      refine (StrLaws.sliceText_to (x := resp) (j := 3) ⟨by decide, ?_⟩).trans ?_
      · show (3 : Int) ≤ ((resp.cps.toList.length : Nat) : Int)
        have e3 : 3 ≤ resp.cps.toList.length := by rw [hr]; simp
        omega
      · rw [hr]; simp; decide +kernel
    rw [e]; decide +kernel
  have hs2 : (Txt.slice resp (some 3) (some 5) != Str.ofString " \"") = false := by
    have e : Txt.slice resp (some 3) (some 5) = Str.ofString " \"" := by
      refine (slice_nat resp (a := 3) (b := 5) (by decide)).trans ?_
      rw [hr]
      simp
      decide +kernel
    rw [e]; decide +kernel
  repeat' ((fail_if_success (with_reducible show wpAny _ _ (exec (Stmt.While _ _ _ _) _) _ _ _)); first | (k_unfold; (try dsimp only)) | (k_end; kc_close) | walk1 | (dsimp only; walk1) | fail "no step")
  rename News g' L' _ _ => N2
  rename Fr g' L' _ _ => F2
  refine while_hid below.length (InvP resp below tl t news g' L' s) ?_ fun Jv hJv => ?_
  · refine ⟨[], below, 5, _, _, _, _, _, rfl, rfl, rfl, ?_, ?_, F2, N2, rfl, rfl, rfl, _, rfl⟩
    · rw [hr]; rfl
    · have e1 := congrArg List.length hr
      simp only [List.length_append, List.length_cons, List.length_nil, Array.length_toList] at e1
      simp only [Str.length]
      omega
  · rintro k s' ⟨n1, n2, i, ti, tt, m2, h2, tk2, rfl, rfl, hn, hd, hi, F3, N3, hm1, hm2, hm3, tn, hm4⟩
    clear N2 F2
    have bs : below.length = n1.length + n2.length := by rw [hn, List.length_append]
    have hlr : resp.length = resp.cps.toList.length := by simp [Str.length]
    rcases n2 with _ | ⟨d, n3⟩
    · have hd' : resp.cps.toList.drop i = 34 :: tl := hd
      have hlt : (i : Int) < resp.length := by
        have := congrArg List.length hd'
        simp only [List.length_drop, List.length_cons] at this
        omega
      have hit := item_of hd'
      have hd2 := (drop_step hd').1
      have hc0 : ((⟨#[34]⟩ : Str) == Str.ofString "\"") = true := by rw [quo_is]; decide
      repeat' ((fail_if_success (with_reducible show wpAny _ _ (subscriptTail _ _ _ _) _ _ _)); first | (k_unfold; (try dsimp only)) | (k_end; kc_close) | walk1 | (dsimp only; walk1) | fail "no step")
      refine item_str (fitsSsize_of (N := 9223372036854775808) (by omega) (by omega) (Int.le_refl _)) (by omega) (by omega) (fun _ => ?_)
      rw [hit]
      have hb1 : below = n1 := by rw [hn, List.append_nil]
      subst hb1
      rcases tl with _ | ⟨e, tl2⟩
      · have hge : (↑i + 1 : Int) ≥ ↑resp.length := by
          have := congrArg List.length hd2
          simp only [List.length_drop, List.length_nil] at this
          omega
        k_steps
        rename News h₀ L _ _ => kN
        rename Fr h₀ L _ _ => kF
        exact hret _ _ _ _ ⟨_, rfl, rfl⟩ kF kN
      · have hlt2 : (↑i + 1 : Int) < ↑resp.length := by
          have := congrArg List.length hd2
          simp only [List.length_drop, List.length_cons] at this
          omega
        have hit2 : Txt.item resp (↑i + 1) = ⟨#[e]⟩ := item_of (i := i + 1) hd2
        have he : ((⟨#[e]⟩ : Str) != Str.ofString "\"") = true := by
          rw [bne, one_eq _ _ quo_is, decide_eq_false (fun h => htl (by rw [h]; rfl))]; rfl
        repeat' ((fail_if_success (with_reducible show wpAny _ _ (subscriptTail _ _ _ _) _ _ _)); first | (k_unfold; (try dsimp only)) | (k_end; kc_close) | walk1 | (dsimp only; walk1) | fail "no step")
        refine item_str (fitsSsize_of (N := 9223372036854775808) (by omega) (by omega) (Int.le_refl _)) (by omega) (by omega) (fun _ => ?_)
        rw [hit2]
        k_steps
        rename News h₀ L _ _ => kN
        rename Fr h₀ L _ _ => kF
        exact hret _ _ _ _ ⟨_, rfl, rfl⟩ kF kN
    · have hlt : (i : Int) < resp.length := by
        have := congrArg List.length hd
        simp only [List.length_drop, List.length_cons, List.length_append] at this
        omega
      rw [List.flatMap_cons, List.append_assoc] at hd
      cases hsd : S0 d with
      | false =>
        rw [escq, hsd, if_neg (by decide)] at hd
        have hd' := drop_step hd
        have hit := item_of hd
        have hc : ((⟨#[d]⟩ : Str) == Str.ofString "\"") = false := by
          rw [one_eq _ _ quo_is]; simpa [S0] using hsd
        repeat' ((fail_if_success (with_reducible show wpAny _ _ (subscriptTail _ _ _ _) _ _ _)); first | (k_unfold; (try dsimp only)) | (k_end; kc_close) | walk1 | (dsimp only; walk1) | fail "no step")
        refine item_str (fitsSsize_of (N := 9223372036854775808) (by omega) (by omega) (Int.le_refl _)) (by omega) (by omega) (fun _ => ?_)
        rw [hit]
        k_steps
        rename News g' L' _ _ => N5
        rename Fr g' L' _ _ => F5
        rw [str_app] at F5
        refine ⟨n3.length, Nat.lt_succ_self _, hJv _ _ ⟨n1 ++ [d], n3, i + 1, _, _, _, _, _, rfl, rfl, ?_, hd'.1, ?_, F5, N5, hm1, rfl, rfl, _, hm4⟩⟩
        · rw [hn]; simp
        · omega
      | true =>
        rw [escq, hsd, if_pos rfl] at hd
        have hd' := drop_step hd
        have hd2 := drop_step hd'.1
        have hit := item_of hd
        have hit2 : Txt.item resp (↑i + 1) = ⟨#[d]⟩ := item_of (i := i + 1) hd'.1
        have hlt2 : (↑i + 1 : Int) < ↑resp.length := by omega
        have hd0 : d = 34 := by simpa [S0] using hsd
        have hc : ((⟨#[34]⟩ : Str) == Str.ofString "\"") = true := by rw [quo_is]; decide
        have hc2 : ((⟨#[34]⟩ : Str) != Str.ofString "\"") = false := by rw [quo_is]; decide
        subst hd0
        repeat' ((fail_if_success (with_reducible show wpAny _ _ (subscriptTail _ _ _ _) _ _ _)); first | (k_unfold; (try dsimp only)) | (k_end; kc_close) | walk1 | (dsimp only; walk1) | fail "no step")
        refine item_str (fitsSsize_of (N := 9223372036854775808) (by omega) (by omega) (Int.le_refl _)) (by omega) (by omega) (fun _ => ?_)
        rw [hit]
        repeat' ((fail_if_success (with_reducible show wpAny _ _ (subscriptTail _ _ _ _) _ _ _)); first | (k_unfold; (try dsimp only)) | (k_end; kc_close) | walk1 | (dsimp only; walk1) | fail "no step")
        refine item_str (fitsSsize_of (N := 9223372036854775808) (by omega) (by omega) (Int.le_refl _)) (by omega) (by omega) (fun _ => ?_)
        rw [hit2]
        k_steps
        rename News g' L' _ _ => N5
        rename Fr g' L' _ _ => F5
        rw [show (⟨n1.toArray⟩ : Str) ++ Str.ofString "\"" = ⟨(n1 ++ [34]).toArray⟩ by rw [quo_is, str_app]] at F5
        refine ⟨n3.length, Nat.lt_succ_self _, hJv _ _ ⟨n1 ++ [34], n3, i + 1 + 1, _, _, _, _, _, rfl, rfl, ?_, hd2.1, ?_, F5, N5, hm1, rfl, rfl, _, hm4⟩⟩
        · rw [hn]; simp
        · omega
end Mine
end
section
open PySem PySem.W PyProof.Rows PySem.Builtin PySem.Builtin.Str
namespace Mine
theorem rstrip_quo {x : Str} {l : List Nat} (h : x.cps.toList = l ++ [34]) : Txt.rstrip x = x := by
  obtain ⟨_, h0, h1, h2⟩ := hi_facts Unicode.isSpace x 0 (Nat.zero_le _)
  have hl : x.length = l.length + 1 := by
    have := congrArg List.length h
    simpa [Str.length] using this
  have e : stripHi Unicode.isSpace true x 0 = x.length := by
    rcases Nat.lt_or_ge (stripHi Unicode.isSpace true x 0) x.length with g | g
    · have := h1 l.length (by omega) (by omega)
      have e1 : x.cps.getD l.length 0 = 34 := by
        rw [Array.getD_eq_getD_getElem?, ← Array.getElem?_toList, h]
        simp
      rw [e1] at this
      exact absurd this (by decide +kernel)
    · omega
  unfold Txt.rstrip
  rw [PyProof.Rows.stripBy_eq]
  show strSub x 0 (stripHi Unicode.isSpace true x 0) = x
  rw [e]
  unfold strSub Str.length
  simp
theorem slice_two {x : Str} {a b : Nat} {l : List Nat} (h : x.cps.toList = a :: b :: l) : Txt.slice x (some 2) none = ⟨l.toArray⟩ := by
  refine (StrLaws.sliceText_from (x := x) (i := 2) ⟨by decide, ?_⟩).trans ?_
  · have e : 2 ≤ x.cps.toList.length := by rw [h]; simp
    omega
  · rw [h]
    have e : ((((a :: b :: l).length : Nat) : Int) - 2).toNat = l.length := by simp only [List.length_cons]; omega
    rw [e]
    simp
end Mine
end
section
open PySem PySem.W PyProof.Rows PySem.Calls PySem.Spec
set_option maxRecDepth 100000
set_option maxHeartbeats 8000000
namespace Mine

theorem comment_ok (line : Str) (l : List Nat) (t : Tok) (news : Led) (hb : line.length ≤ 2 ^ 20) (hl : line.cps.toList = l ++ [34]) :
    Spec w 35 3 [.str line t] news (fun v news' => ∃ t, v = .str (Str.ofString "# " ++ line) t ∧ news' = news) := by
  unfold Spec
  w_top off
  k_fill
  intro loose mean mg mb dp un gd cn cs a ccd cl outer A₀ base h₀ L m s Q E h1 h2 h3 h4 h5 codeHd0 h6 h8 h9 hret
  k_dflt cell_enter
  rename_i g' L' h' FG F N B X' T
  have codeHd := CodeHd.keeps codeHd0 FG.keep
  have e := rstrip_quo hl
  have hne : ¬ line.length = 0 := by
    have := congrArg List.length hl
    simp only [Array.length_toList, List.length_append, List.length_cons, List.length_nil] at this
    simp only [Str.length]; omega
  repeat' ((fail_if_success (with_reducible show wpAny _ _ (exec (Stmt.If _ _ _ _) _) _ _ _)); first | (k_unfold; (try dsimp only)) | (k_end; kc_close) | walk1 | (dsimp only; walk1) | fail "no step")
  rename Fr g' L' _ _ => F5
  rw [e] at F5
  k_steps
  · rename News h₀ L _ _ => kN
    rename Fr h₀ L _ _ => kF
    exact hret _ _ _ _ ⟨_, rfl, rfl⟩ kF kN
  · exfalso
    simp_all
end Mine
end
section
open PySem PySem.W PyProof.Rows PySem.Builtin PySem.Builtin.Str
namespace Mine
theorem count_join (c : Nat) : ∀ (p : Str) (parts : List Str), (∀ q ∈ p :: parts, c ∉ q.cps.toList) → (Str.join ⟨#[c]⟩ (p :: parts)).cps.toList.count c = parts.length
  | p, [], h => List.count_eq_zero.mpr (h p List.mem_cons_self)
  | p, q :: r, h => by
    have ih := count_join c q r fun x hx => h x (List.mem_cons_of_mem _ hx)
    show (p ++ ⟨#[c]⟩ ++ Str.join ⟨#[c]⟩ (q :: r)).cps.toList.count c = _
    rw [app_cps, app_cps, List.count_append, List.count_append, ih, List.count_eq_zero.mpr (h p List.mem_cons_self)]
    simp
    omega
theorem count_txt (x : Str) (c : Nat) : Txt.count x ⟨#[c]⟩ = (x.cps.toList.count c : Nat) := by
  obtain ⟨f, hG, hn⟩ := StrLaws.occ_tight x ⟨#[c]⟩ (Nat.le_refl 1)
  obtain ⟨f', hC⟩ := StrLaws.occ_chain x ⟨#[c]⟩ (x.length + 1)
  have hF := StrLaws.parts_free x c _ 0 f hG hn
  have hJ := StrLaws.join_partsFrom x ⟨#[c]⟩ _ 0 f' hC
  rw [StrLaws.sub_whole] at hJ
  have hL : (StrLaws.partsFrom x (⟨#[c]⟩ : Str).length 0 (occurrences x ⟨#[c]⟩ 0 x.length (x.length + 1))).length = (occurrences x ⟨#[c]⟩ 0 x.length (x.length + 1)).length + 1 := by
    rw [← StrLaws.partsBetween_eq, len_partsBetween]
  unfold Txt.count
  generalize hP : StrLaws.partsFrom x (⟨#[c]⟩ : Str).length 0 (occurrences x ⟨#[c]⟩ 0 x.length (x.length + 1)) = parts at *
  cases parts with
  | nil => simp at hL
  | cons p r =>
    have := count_join c p r hF
    rw [hJ] at this
    simp only [List.length_cons] at hL
    rw [this]
    simp only [Nat.add_right_cancel hL]

theorem rowS_0 (below tail : Str) : (rowS 0 below tail).cps.toList = [50, 53, 55, 32, 34] ++ (below.cps.toList.flatMap (escq 34 S0) ++ 34 :: tail.cps.toList) := by
  unfold rowS
  rw [if_pos rfl, app_cps, app_cps, app_cps]
  simp only [List.append_assoc]
  rfl
theorem rowS_1 (below tail : Str) : (rowS 1 below tail).cps.toList = 34 :: (below.cps.toList.flatMap (esc Sq) ++ 34 :: []) := by
  unfold rowS
  rw [if_neg (by decide), if_neg (by decide), if_pos rfl, app_cps, app_cps]
  simp only [List.append_assoc]
  rfl
theorem rowS_2 (below tail : Str) : (rowS 2 below tail).cps.toList = 107 :: (below.cps.toList.flatMap (esc Sb) ++ 32 :: []) := by
  unfold rowS
  rw [if_neg (by decide), if_pos rfl, app_cps, app_cps]
  simp only [List.append_assoc]
  rfl
theorem rowS_3 {k : Int} (h0 : k ≠ 0) (h1 : k ≠ 1) (h2 : k ≠ 2) (below tail : Str) : (rowS k below tail).cps.toList = 35 :: 32 :: 34 :: (below.cps.toList.flatMap (esc Sq) ++ 34 :: []) := by
  unfold rowS
  rw [if_neg h0, if_neg h2, if_neg h1, app_cps, app_cps, app_cps]
  simp only [List.append_assoc]
  rfl
theorem toks_1 (below tail : Str) : Toks (rowS 1 below tail).cps.toList [below.cps.toList, []] [] := by
  rw [rowS_1]
  exact .cons (.quo _ _) (.cons .fin (.nil _))
theorem toks_2 (below tail : Str) : Toks (rowS 2 below tail).cps.toList [107 :: below.cps.toList, []] [] := by
  rw [rowS_2]
  exact .cons (.bare 107 _ _ (by decide)) (.cons .fin (.nil _))
theorem toks_3 {k : Int} (h0 : k ≠ 0) (h1 : k ≠ 1) (h2 : k ≠ 2) (below tail : Str) : Toks (rowS k below tail).cps.toList [[35], below.cps.toList, []] [] := by
  rw [rowS_3 h0 h1 h2]
  exact .cons (.bare 35 [] _ (by decide)) (.cons (.quo _ _) (.cons .fin (.nil _)))
end Mine
end
section
open PySem PySem.W PyProof.Rows PySem.MeetsSeq
namespace Mine
inductive EqAll : List Value → List Value → Prop
  | nil : EqAll [] []
  | str {x y : Str} (t u : Tok) {l r : List Value} : x.cps.toList = y.cps.toList → EqAll l r → EqAll (.str x t :: l) (.str y u :: r)
  | int {a b : Int} (t u : Tok) {l r : List Value} : a = b → EqAll l r → EqAll (.int a t :: l) (.int b u :: r)
theorem EqAll.len {l r : List Value} (h : EqAll l r) : l.length = r.length := by
  induction h with
  | nil => rfl
  | str _ _ _ _ ih => simp [ih]
  | int _ _ _ _ ih => simp [ih]
theorem EqAll.at {l r : List Value} (h : EqAll l r) : ∀ j (h1 : j < l.length) (h2 : j < r.length), EqGives l[j] r[j] true := by
  induction h with
  | nil => intro j h1; exact absurd h1 (Nat.not_lt_zero _)
  | @str x y t u l r e _ ih =>
    intro j h1 h2
    cases j with
    | zero => have := PySem.SeqRoads2.EqGives.str x y t u; rw [beq_iff_eq.mpr e] at this; exact this
    | succ j => exact ih j _ _
  | @int a b t u l r e _ ih =>
    intro j h1 h2
    cases j with
    | zero => have := EqGives.int a b t u; rw [beq_iff_eq.mpr e] at this; exact this
    | succ j => exact ih j _ _
section
variable {prog : Program} {w : World} {A : Around} {E : Value → Shared → Prop} {s : Shared}
theorem eq_all {l b : Addr} {xs ys : List Value} {Q : Value → Shared → Prop} (hl : s.heap.IsList l xs.toArray) (hb : s.heap.IsList b ys.toArray) (hu : A.units < cLine) (he : EqAll xs ys)
    (h : Q (.bool true) s) : wpAny (model prog w) A (compareOp .Eq (.ref l) (.ref b)) Q E s := by
  refine SeqAt.eq_listAt (e := fun _ => true) hl hb (by simpa using he.len) hu (fun j h1 h2 => ?_) ?_
  · have := he.at j (by simpa using h1) (by simpa using h2)
    simpa using this.at _ _
  · have e : (List.range xs.toArray.size).all (fun _ => true) = true := by simp
    rw [e]; exact h
end
end Mine
end
section
open PySem PySem.W PyProof.Rows PySem.Calls PySem.Spec
set_option maxRecDepth 100000
set_option maxHeartbeats 8000000
namespace Mine

theorem back_ok (k : Int) (below tail row : Str) (t u v : Tok) (st news : Led) (hst : TabSt st) (hn : ∀ p ∈ news, p.1 ≠ 135) (hk : 0 ≤ k ∧ k ≤ 3) (hb : below.length ≤ 2 ^ 16) (ht : tail.length ≤ 100) (htl : tail.cps.toList.head? ≠ some 34)
    (hrow : row = rowS k below tail) (hr : row.length ≤ 2 ^ 20) :
    Spec w 145 22 [.int k t, .str row u, .str below v] (st ++ news) (fun v news' => ∃ st', TabSt st' ∧ v = .bool true ∧ news' = st' ++ news) := by
  unfold Spec
  w_top off
  k_fill
  intro loose mean mg mb dp un gd cn cs a ccd cl outer A₀ base h₀ L m s Q E h1 h2 h3 h4 h5 codeHd0 h6 h8 h9 hret
  k_dflt cell_enter
  rename_i g' L' h' FG F N B X' T
  have codeHd := CodeHd.keeps codeHd0 FG.keep
  repeat' ((fail_if_success (with_reducible show wpAny _ _ (PySem.call (.ref 67) _) _ _ _)); (fail_if_success (with_reducible show wpAny _ _ (PySem.call (.ref 138) _) _ _ _)); (fail_if_success (with_reducible show wpAny _ _ (PySem.call (.ref 35) _) _ _ _)); first | (k_unfold; (try dsimp only)) | (k_end; kc_close) | walk1 | (dsimp only; walk1) | fail "no step")
  · rename k = 0 => hk0
    rename News g' L' _ _ => N2
    rename Fr g' L' _ _ => F2
    k_dflt (refine' (parse_ok row below.cps.toList tail.cps.toList u (st ++ news) (by simpa [Str.length] using hb) (by simpa [Str.length] using ht) htl (by rw [hrow, hk0, rowS_0])).use ?B0 F2 ?K0 N2 ?T0 codeHd ?k0 ?d0 ?u0 ?h0)
    case B0 => k_asm
    case K0 => k_asm
    case T0 => k_asm
    case k0 => rfl
    case d0 => ktr_room
    case u0 => ktr_units
    case h0 =>
      rintro v0 news0 h0 tk0 ⟨t0, rfl, rfl⟩ F3 N3
      clear N2 F2
      k_steps
      rename News h₀ L _ _ => kN
      rename Fr h₀ L _ _ => kF
      refine hret _ _ _ _ ⟨st, hst, congrArg Value.bool ?_, rfl⟩ kF kN
      simp
  · rename k = 1 => hk1
    rename News g' L' _ _ => N2
    rename Fr g' L' _ _ => F2
    k_dflt (refine' (heard_ok row u _ 2 [below.cps.toList, []] (by rw [hrow, hk1]; exact toks_1 _ _) rfl (by simp) st news hst hn hr).use ?B1 F2 ?K1 N2 ?T1 codeHd ?k1 ?d1 ?u1 ?h1)
    case B1 => k_asm
    case K1 => k_asm
    case T1 => k_asm
    case k1 => rfl
    case d1 => ktr_room
    case u1 => ktr_units
    case h1 =>
      rintro v1 news1 h1 tk1 ⟨D, LL, t1, st1, hst1, rfl, hL, rfl⟩ F3 N3
      clear N2 F2
      obtain ⟨⟨a0, ta0⟩, L0, rfl, rfl, hL0⟩ := List.map_eq_cons_iff.mp hL
      obtain ⟨⟨a1, ta1⟩, L1, rfl, rfl, hL1⟩ := List.map_eq_cons_iff.mp hL0
      obtain rfl := List.map_eq_nil_iff.mp hL1
      k_fold
      simp only [strVals, List.map_cons, List.map_nil, List.cons_append, List.nil_append] at N3
      repeat' ((fail_if_success (with_reducible show wpAny _ _ (compareOp CmpOp.Eq (.ref _) _) _ _ _)); first | (k_unfold; (try dsimp only)) | (k_end; kc_close) | walk1 | (dsimp only; walk1) | fail "no step")
      rename News g' L' _ _ => N4
      refine eq_all ⟨_, N4.get (by k_mem), rfl, _, rfl⟩ ⟨_, N4.get (by k_mem), rfl, _, rfl⟩ (by ktr_units) (.str _ _ ?_ (.str _ _ ?_ (.int _ _ ?_ .nil))) ?_
      all_goals first | (rw [show Str.ofString "\n" = ⟨#[10]⟩ from rfl, count_txt]; done) | rfl | (rw [app_cps]; rfl) | skip
      k_steps
      rename News h₀ L _ _ => kN
      rename Fr h₀ L _ _ => kF
      exact hret _ _ _ _ ⟨st1, hst1, rfl, rfl⟩ kF (News.sub kN fun p hp => .tail _ (.tail _ hp))
  · rename k = 2 => hk2
    rename News g' L' _ _ => N2
    rename Fr g' L' _ _ => F2
    k_dflt (refine' (heard_ok row u _ 2 [107 :: below.cps.toList, []] (by rw [hrow, hk2]; exact toks_2 _ _) rfl (by simp) st news hst hn hr).use ?B2 F2 ?K2 N2 ?T2 codeHd ?k2 ?d2 ?u2 ?h2)
    case B2 => k_asm
    case K2 => k_asm
    case T2 => k_asm
    case k2 => rfl
    case d2 => ktr_room
    case u2 => ktr_units
    case h2 =>
      rintro v2 news2 h2 tk2 ⟨D, LL, t2, st2, hst2, rfl, hL, rfl⟩ F3 N3
      clear N2 F2
      obtain ⟨⟨a0, ta0⟩, L0, rfl, rfl, hL0⟩ := List.map_eq_cons_iff.mp hL
      obtain ⟨⟨a1, ta1⟩, L1, rfl, rfl, hL1⟩ := List.map_eq_cons_iff.mp hL0
      obtain rfl := List.map_eq_nil_iff.mp hL1
      k_fold
      simp only [strVals, List.map_cons, List.map_nil, List.cons_append, List.nil_append] at N3
      repeat' ((fail_if_success (with_reducible show wpAny _ _ (compareOp CmpOp.Eq (.ref _) _) _ _ _)); first | (k_unfold; (try dsimp only)) | (k_end; kc_close) | walk1 | (dsimp only; walk1) | fail "no step")
      rename News g' L' _ _ => N4
      refine eq_all ⟨_, N4.get (by k_mem), rfl, _, rfl⟩ ⟨_, N4.get (by k_mem), rfl, _, rfl⟩ (by ktr_units) (.str _ _ ?_ (.str _ _ ?_ (.int _ _ ?_ .nil))) ?_
      all_goals first | (rw [show Str.ofString "\n" = ⟨#[10]⟩ from rfl, count_txt]; done) | rfl | (rw [app_cps]; rfl) | skip
      k_steps
      rename News h₀ L _ _ => kN
      rename Fr h₀ L _ _ => kF
      exact hret _ _ _ _ ⟨st2, hst2, rfl, rfl⟩ kF (News.sub kN fun p hp => .tail _ (.tail _ hp))
  · rename k ≠ 2 => hk2
    rename k ≠ 1 => hk1
    rename k ≠ 0 => hk0
    have hrl := rowS_3 hk0 hk1 hk2 below tail
    rw [← hrow] at hrl
    have hsl := slice_two hrl
    have hcm : ((Str.ofString "# " ++ ⟨(34 :: (below.cps.toList.flatMap (esc Sq) ++ 34 :: [])).toArray⟩ : Str) == row) = true := by
      refine beq_iff_eq.mpr (str_ext ?_)
      rw [app_cps, hrl]
      rfl
    rw [hsl]
    rename News g' L' _ _ => N2
    rename Fr g' L' _ _ => F2
    k_dflt (refine' (comment_ok _ (34 :: below.cps.toList.flatMap (esc Sq)) _ (st ++ news) ?len rfl).use ?B5 F2 ?K5 N2 ?T5 codeHd ?k5 ?d5 ?u5 ?h5)
    case B5 => k_asm
    case K5 => k_asm
    case T5 => k_asm
    case k5 => rfl
    case d5 => ktr_room
    case u5 => ktr_units
    case len =>
      have e1 := congrArg List.length hrl
      simp only [List.length_cons, List.length_append, List.length_nil, Array.length_toList] at e1
      simp only [Str.length] at hr ⊢
      simp only [List.size_toArray, List.length_cons, List.length_append, List.length_nil]
      omega
    case h5 =>
      rintro v5 news5 h5 tk5 ⟨t5, rfl, rfl⟩ F3 N3
      clear N2 F2
      repeat' ((fail_if_success (with_reducible show wpAny _ _ (PySem.call (.ref 138) _) _ _ _)); first | (k_unfold; (try dsimp only)) | (k_end; kc_close) | walk1 | (dsimp only; walk1) | fail "no step")
      rename News g' L' _ _ => N2
      rename Fr g' L' _ _ => F2
      k_dflt (refine' (heard_ok row u _ 3 [[35], below.cps.toList, []] (by rw [hrow]; exact toks_3 hk0 hk1 hk2 _ _) rfl (by simp) st news hst hn hr).use ?B3 F2 ?K3 N2 ?T3 codeHd ?k3 ?d3 ?u3 ?h3)
      case B3 => k_asm
      case K3 => k_asm
      case T3 => k_asm
      case k3 => rfl
      case d3 => ktr_room
      case u3 => ktr_units
      case h3 =>
        rintro v3 news3 h3 tk3 ⟨D, LL, t3, st3, hst3, rfl, hL, rfl⟩ F3 N3
        clear N2 F2
        obtain ⟨⟨a0, ta0⟩, L0, rfl, rfl, hL0⟩ := List.map_eq_cons_iff.mp hL
        obtain ⟨⟨a1, ta1⟩, L1, rfl, rfl, hL1⟩ := List.map_eq_cons_iff.mp hL0
        obtain ⟨⟨a2, ta2⟩, L2, rfl, rfl, hL2⟩ := List.map_eq_cons_iff.mp hL1
        obtain rfl := List.map_eq_nil_iff.mp hL2
        k_fold
        simp only [strVals, List.map_cons, List.map_nil, List.cons_append, List.nil_append] at N3
        repeat' ((fail_if_success (with_reducible show wpAny _ _ (compareOp CmpOp.Eq (.ref _) _) _ _ _)); first | (k_unfold; (try dsimp only)) | (k_end; kc_close) | walk1 | (dsimp only; walk1) | fail "no step")
        rename News g' L' _ _ => N4
        refine eq_all ⟨_, N4.get (by k_mem), rfl, _, rfl⟩ ⟨_, N4.get (by k_mem), rfl, _, rfl⟩ (by ktr_units) (.str _ _ ?_ (.str _ _ ?_ (.str _ _ ?_ (.int _ _ ?_ .nil)))) ?_
        all_goals first | (rw [show Str.ofString "\n" = ⟨#[10]⟩ from rfl, count_txt]; done) | rfl | (rw [app_cps]; rfl) | skip
        k_steps
        rename News h₀ L _ _ => kN
        rename Fr h₀ L _ _ => kF
        exact hret _ _ _ _ ⟨st3, hst3, rfl, rfl⟩ kF (News.sub kN fun p hp => .tail _ (.tail _ hp))
end Mine
end
section
open PySem PySem.W PyProof.Rows PySem.Calls
set_option maxRecDepth 100000
set_option maxHeartbeats 4000000
namespace Mine
def IsLi (o : Obj) (D : Addr) (i : Nat) : Prop := o.cls = .type "list_iterator" ∧ o.data = .fields #[.ref D, .int i 0]
section
variable {prog : Program} {w : World} {A : Around} {E : Value → Shared → Prop} {s : Shared} {h₀ : Heap} {L D : Addr} {m : Str → Option Value} {news : Led} {xs : List Value} {n : Nat} {ol : Obj}
theorem li_iter {Q : Value → Shared → Prop} (F : Fr h₀ L s.heap m) (N : News h₀ L s.heap news) (hm : (D, ol) ∈ news) (hc : ol.cls = .type "list") (hd : ol.data = .seq xs.toArray n)
    (h : ∀ I oI h', IsLi oI D 0 → (∀ p ∈ news, p.1 ≠ I) → Fr h₀ L h' m → News h₀ L h' ((I, oI) :: news) → Q (.ref I) { s with heap := h' }) :
    wpAny (model prog w) A (pyIter (.ref D)) Q E s := by
  refine wpAny_pyIter_list (items := xs.toArray) ⟨_, (N _ hm).1, hc, n, hd⟩ (h _ { cls := .type "list_iterator", data := .fields #[.ref D, .int 0 0] } _ ⟨rfl, rfl⟩ (fun p hp => Nat.ne_of_lt (Heap.lt_size (N p hp).1)) (F.keeps fun _ _ e => Heap.get?_push_of_some _ e) fun p hp => ?_)
  rcases List.mem_cons.mp hp with rfl | hp
  · exact ⟨Heap.get?_push_size _ rfl, Ne.symm (Nat.ne_of_lt F.ns.lt), next_is_new F⟩
  · exact ⟨Heap.get?_push_of_some _ (N p hp).1, (N p hp).2⟩
theorem li_next {I : Addr} {oI : Obj} {i : Nat} {Q : Option Value → Shared → Prop} (hh : A.handled = none) (F : Fr h₀ L s.heap m) (N : News h₀ L s.heap ((I, oI) :: news)) (hI : IsLi oI D i) (hn : ∀ p ∈ news, p.1 ≠ I) (hm : (D, ol) ∈ news) (hc : ol.cls = .type "list") (hd : ol.data = .seq xs.toArray n)
    (some' : ∀ x r oI' h', xs.drop i = x :: r → IsLi oI' D (i + 1) → Fr h₀ L h' m → News h₀ L h' ((I, oI') :: news) → Q (some x) { s with heap := h' })
    (none' : ∀ h', xs.drop i = [] → Fr h₀ L h' m → News h₀ L h' news → Q none { s with heap := h' }) :
    wpAny (model prog w) A (pyNext (.ref I)) Q E s := by
  have z := N _ (List.mem_cons_self ..)
  have hit : s.heap.IsListIter I D i := ⟨oI, z.1, hI.1, hI.2⟩
  have hl : s.heap.IsList D xs.toArray := ⟨_, (N _ (.tail _ hm)).1, hc, n, hd⟩
  cases e : xs.drop i with
  | nil =>
    refine wpAny_pyNext_list_end hh hit hl (by
      rw [List.getElem?_toArray]
      exact List.getElem?_eq_none (List.drop_eq_nil_iff.mp e)) fun h' hs => ?_
    refine none' h' e (Fr.but F z.2.1 z.2.2 fun b o hb => hs b o hb) fun p hp => ⟨hs _ _ (hn p hp) (N _ (.tail _ hp)).1, (N _ (.tail _ hp)).2⟩
  | cons x r =>
    refine wpAny_pyNext_list_item hit hl (x := x) (by
      rw [List.getElem?_toArray, ← Nat.add_zero i, ← List.getElem?_drop, e]; rfl) fun h' hi hs => ?_
    obtain ⟨oI', e1, e2, e3⟩ := hi
    refine some' x r oI' h' e ⟨e2, e3⟩ (F.change hs z.2.1 z.2.2) fun p hp => ?_
    rcases List.mem_cons.mp hp with rfl | hp
    · exact ⟨e1, z.2⟩
    · exact ⟨(hs.2 _ (hn p hp)).trans (N _ (.tail _ hp)).1, (N _ (.tail _ hp)).2⟩
theorem kim_last {value slice : Expr} {k : Int} {u : Tok} {v : Value} {l : List Value} {Q : Value → Shared → Prop} (hk : k = -1) (N : News h₀ L s.heap news) (hm : (D, listOf (l ++ [v]).toArray n) ∈ news) (h : Q v s)
    (hs : subscripted slice false (.ref D) (.int k u) = operate [.ref D, .int k u] (getItem (.ref D) (.int k u)) := by with_unfolding_all rfl) (hg : ∀ r, letTemporaryGo value (.ref D) r = pure () := by intro _; with_unfolding_all rfl) :
    wpAny (model prog w) A (subscriptTail value slice (.ref D) (.int k u)) Q E s := by
  subst hk
  refine kim_back N hm rfl rfl (by decide) (by simp; omega) (by decide) ?_ h hs hg
  have e : (-1 + ((l ++ [v]).length : Int)).toNat = l.length := by simp; omega
  rw [e]
  simp
theorem del_first {i : Int} {u : Tok} {v : Value} {l : List Value} {post : Led} {Q : Unit → Shared → Prop} (hi : i = 0) (F : Fr h₀ L s.heap m) (N : News h₀ L s.heap ((D, listOf (v :: l).toArray n) :: post)) (hb : ∀ p ∈ post, p.1 ≠ D) (hz : l.length < sizeLine)
    (h : ∀ h', Fr h₀ L h' m → News h₀ L h' ((D, listOf l.toArray (n + 1)) :: post) → Q () { s with heap := h' }) : wpAny (model prog w) A (delItem (.ref D) (.int i u)) Q E s := by
  have z := N _ (List.mem_cons_self ..)
  subst hi
  refine P.delItem_list (n := n) (k := 0) z.1 rfl ?_ (h _ (F.change (Heap.SameBut.update ..) z.2.1 z.2.2) (ki_turn (pre := []) _ N (fun _ h => nomatch h) hb ?_ ?_)) (by simp; omega)
  · unfold seqIndex?
    simp
  · simp
  · simp
theorem del_last {i : Int} {u : Tok} {v : Value} {l : List Value} {post : Led} {Q : Unit → Shared → Prop} (hi : i = -1) (F : Fr h₀ L s.heap m) (N : News h₀ L s.heap ((D, listOf (l ++ [v]).toArray n) :: post)) (hb : ∀ p ∈ post, p.1 ≠ D) (hz : l.length < sizeLine)
    (h : ∀ h', Fr h₀ L h' m → News h₀ L h' ((D, listOf l.toArray (n + 1)) :: post) → Q () { s with heap := h' }) : wpAny (model prog w) A (delItem (.ref D) (.int i u)) Q E s := by
  have z := N _ (List.mem_cons_self ..)
  subst hi
  refine P.delItem_list (n := n) (k := l.length) z.1 rfl ?_ (h _ (F.change (Heap.SameBut.update ..) z.2.1 z.2.2) (ki_turn (pre := []) _ N (fun _ h => nomatch h) hb ?_ ?_)) (by simp; omega)
  · unfold seqIndex?
    simp
    omega
  · simp [Array.eraseIdxIfInBounds, List.eraseIdx_append_of_length_le]
  · simp
end
open PySem.Builtin PySem.Builtin.Str in
theorem gives_find4 (x y : Str) (i j : Int) (t u v z : Tok) : Gives («str.find» ⟨[.str x t, .str y u, .int i v, .int j z], []⟩) (.int (match occurrences x y (fromIndex x.length i) (min (fromIndex x.length j) x.length) 1 with | k :: _ => (k : Int) | [] => -1)) := by
  show Gives (match occurrences x y (fromIndex x.length i) (min (fromIndex x.length j) x.length) 1 with | k :: _ => retInt k | [] => (do rule "str.find.not-found"; retInt (-1))) _
  cases occurrences x y (fromIndex x.length i) (min (fromIndex x.length j) x.length) 1 with
  | nil => exact .rule (.of_eq rfl)
  | cons k _ => exact .of_eq rfl
def findN (x y : Str) (lo hi : Nat) : Option Nat := (Builtin.Str.occurrences x y lo hi 1).head?
theorem find4 {prog : Program} {w : World} {A : Around} {E : Value → Shared → Prop} {s : Shared} {x y : Str} {t u v z : Tok} {i j : Nat} {Q : Value → Shared → Prop} (hj : j ≤ x.length)
    (some' : ∀ k, findN x y i j = some k → Q (.int (k : Nat) s.toks) { s with toks := s.toks + 1 }) (none' : findN x y i j = none → Q (.int (-1) s.toks) { s with toks := s.toks + 1 }) :
    wpAny (model prog w) A (call (.builtin "str.find") [.str x t, .str y u, .int i v, .int j z]) Q E s := by
  refine call_gives F.slot_str_find (typeIs_str _ _ _) F.entry_str_find (F.args_str_find_4 _ _ _ _) (gives_find4 x y i j t u v z) ?_
  have e1 : fromIndex x.length (i : Int) = i := by unfold fromIndex; rw [if_neg (by omega)]; omega
  have e2 : fromIndex x.length (j : Int) = j := by unfold fromIndex; rw [if_neg (by omega)]; omega
  rw [e1, e2, Nat.min_eq_left hj]
  unfold findN at some' none'
  cases h : Builtin.Str.occurrences x y i j 1 with
  | nil => exact none' (by rw [h]; rfl)
  | cons k r => exact some' k (by rw [h]; rfl)
def fitsL (g : Str) (ep : Nat) : Nat → List Str → Bool
  | _, [] => true
  | sp, w :: r => match findN g w sp ep with
    | none => false
    | some i => fitsL g ep (i + w.length) r
end Mine
end
section
open PySem PySem.W PyProof.Rows PySem.Calls PySem.Spec
set_option maxRecDepth 100000
set_option maxHeartbeats 8000000
namespace Mine

variable {w : World}
local macro_rules | `(tactic| walk_at "eval Name") => `(tactic| (k_here; k_dflt (refine' ld ?k1 ?k2 ?_; (case k1 => k_asm); (case k2 => first | exact rfl | assumption); k_whole)))
local macro_rules | `(tactic| walk_at "loadName") => `(tactic| (k_here; k_dflt (refine' ldn ?k1 ?k2 ?_; (case k1 => k_asm); (case k2 => first | exact rfl | assumption); k_whole)))
local macro_rules | `(tactic| walk_at "ite") => `(tactic| first | (with_reducible refine ite_at_f (by assumption) ?_) | (with_reducible refine ite_at_t (by assumption) ?_))

inductive CutN (g' : Heap) (L' D : Addr) (news : Led) (s : Shared) (got : Str) (u : Tok) (sp ep : Int) (xs : List Value) (s' : Shared) : Prop
  | mk (m2 : Str → Option Value) (h2 : Heap) (tk2 nn : Nat) (t1 t2 : Tok)
    (e0 : s' = { s with heap := h2, toks := tk2 })
    (e1 : Fr g' L' h2 m2)
    (e2 : News g' L' h2 ((D, listOf xs.toArray nn) :: news))
    (e3 : m2 (Str.ofString "ws") = some (.ref D))
    (e4 : m2 (Str.ofString "got") = some (.str got u))
    (e5 : m2 (Str.ofString "startpos") = some (.int sp t1))
    (e6 : m2 (Str.ofString "endpos") = some (.int ep t2)) : CutN g' L' D news s got u sp ep xs s'
inductive CutR (g' : Heap) (L' : Addr) (news : Led) (s : Shared) (v : Value) (s' : Shared) : Prop
  | mk (e0 : v = .bool false) (m2 : Str → Option Value) (h2 : Heap) (tk2 : Nat) (e1 : s' = { s with heap := h2, toks := tk2 }) (e2 : Fr g' L' h2 m2) (e3 : News g' L' h2 news) : CutR g' L' news s v s'
def Cut (good bad : Prop) (g' : Heap) (L' D : Addr) (news : Led) (s : Shared) (got : Str) (u : Tok) (sp ep : Int) (xs : List Value) (f : Flow) (s' : Shared) : Prop :=
  (f = .next ∧ good ∧ CutN g' L' D news s got u sp ep xs s') ∨ ∃ v, f = .ret v ∧ bad ∧ CutR g' L' news s v s'
def pre1 (a : Str) (t : Tok) : List Value := if a.length = 0 then [.str a t] else []

def str1 (a : Str) : List Str := if a.length = 0 then [a] else []
def ellV (n a z : Str) (ms : List Str) : Bool :=
  if a.length = 0 ∨ Txt.startswith n a = true then
    if z.length = 0 ∨ Txt.endswith n z = true then
      if n.length < a.length + z.length then false else fitsL n (n.length - z.length) a.length (str1 a ++ (ms ++ str1 z))
    else false
  else false
inductive InvE (n a' : Str) (u t4 : Tok) (ep nn3 : Nat) (xs : List (Str × Tok)) (D I : Addr) (news : Led) (g' : Heap) (L' : Addr) (s : Shared) (k : Nat) (s' : Shared) : Prop
  | mk (i sp : Nat) (m5 : Str → Option Value) (h5 : Heap) (tk5 : Nat) (oI : Obj) (t5 : Tok)
    (e0 : s' = { s with heap := h5, toks := tk5 })
    (e1 : k = xs.length - i)
    (e2 : i ≤ xs.length)
    (e3 : Fr g' L' h5 m5)
    (e4 : News g' L' h5 ((I, oI) :: (D, listOf (strValues xs).toArray nn3) :: news))
    (e5 : IsLi oI D i)
    (e6 : m5 (Str.ofString "got") = some (.str n u))
    (e7 : m5 (Str.ofString "startpos") = some (.int sp t5))
    (e8 : m5 (Str.ofString "endpos") = some (.int ep t4))
    (e9 : fitsL n ep a'.length (xs.map (·.1)) = fitsL n ep sp ((xs.drop i).map (·.1))) : InvE n a' u t4 ep nn3 xs D I news g' L' s k s'
theorem ell_ok (p n : Str) (t u : Tok) (news : Led) (hp : p.length ≤ 2 ^ 20) (hn : n.length ≤ 2 ^ 20) (a z : Str) (ms : List Str) (hsp : (Builtin.Str.occurrences p (Str.ofString "...") 0 p.length 1).isEmpty = false → Txt.split p (Str.ofString "...") = a :: (ms ++ [z])) (hms : (ms ++ [z]).length < sizeLine) :
    Spec w 28 3 [.str p t, .str n u] news (fun v news' => v = .bool (if (Builtin.Str.occurrences p (Str.ofString "...") 0 p.length 1).isEmpty = true then p == n else ellV n a z ms) ∧ news' = news) := by
  unfold Spec
  w_top off
  k_fill
  intro loose mean mg mb dp un gd cn cs aa ccd cl outer A₀ base h₀ L m s Q E h1 h2 h3 h4 h5 codeHd0 h6 h8 h9 hret
  k_dflt cell_enter
  rename_i g' L' h' FG F N B X' T
  have codeHd := CodeHd.keeps codeHd0 FG.keep
  have hnew : ∀ p ∈ news, p.1 ≠ h'.objs.size := fun p hp => Nat.ne_of_lt (Heap.lt_size (N p hp).1)
  cases hoc : (Builtin.Str.occurrences p (Str.ofString "...") 0 p.length 1).isEmpty with
  | true =>
    k_steps
    rename News h₀ L _ _ => kN
    rename Fr h₀ L _ _ => kF
    exact hret _ _ _ _ ⟨by rw [if_pos hoc], rfl⟩ kF kN
  | false =>
    repeat' ((fail_if_success (with_reducible show wpAny _ _ (exec (Stmt.Assert _ _ _) _) _ _ _)); first | (k_unfold; (try dsimp only)) | (k_end; kc_close) | walk1 | (dsimp only; walk1) | fail "no step")
    rename List.map _ _ = _ => hl
    rename List (Str × Tok) => l
    have hl0 := hl
    rw [hsp hoc] at hl
    have hlen : (2 : Int) ≤ ↑l.length := by
      have := congrArg List.length hl
      simp only [List.length_map, List.length_cons, List.length_append, List.length_nil] at this
      omega
    repeat' ((fail_if_success (with_reducible show wpAny _ _ (subscriptTail _ _ _ _) _ _ _)); first | (k_unfold; (try dsimp only)) | (k_end; kc_close) | walk1 | (dsimp only; walk1) | fail "no step")
    rename News g' L' _ _ => N1
    rename Fr g' L' _ _ => F1
    obtain ⟨⟨a', ta⟩, l2, rfl, ha, hl2⟩ := List.map_eq_cons_iff.mp hl
    obtain ⟨lm, l3, rfl, hlm, hl3⟩ := List.map_eq_append_iff.mp hl2
    obtain ⟨⟨z', tz⟩, l4, rfl, hz, hl4⟩ := List.map_eq_cons_iff.mp hl3
    obtain rfl := List.map_eq_nil_iff.mp hl4
    obtain rfl : a' = a := ha
    obtain rfl : z' = z := hz
    subst hlm
    clear hl hl2 hl3 hl4
    dsimp only at N1 F1 ⊢
    generalize h'.objs.size = D at N1 F1 hnew ⊢
    rw [show strValues ((a', ta) :: (lm ++ [(z', tz)])) = Value.str a' ta :: (strValues lm ++ [Value.str z' tz]) by simp [strValues]] at N1
    have N2 : News g' L' _ ((D, listOf (Value.str a' ta :: (strValues lm ++ [Value.str z' tz])).toArray 0) :: news) := News.sub N1 fun p hp => .tail _ hp
    clear N1
    rename ∀ a ∈ List.map _ _, _ => hle
    have hal : a'.length ≤ 2 ^ 20 := Nat.le_trans (hle a' (by simp)) hp
    have hzl : z'.length ≤ 2 ^ 20 := Nat.le_trans (hle z' (by simp)) hp
    have hml : ∀ x ∈ lm, x.1.length ≤ 2 ^ 20 := fun x hx => Nat.le_trans (hle x.1 (by simp; exact .inr (.inl ⟨_, hx⟩))) hp
    clear hle hlen
    have hlz : lm.length + 1 < sizeLine := by simpa using hms
    k_sweep
    refine kim_list N2 (List.mem_cons_self ..) rfl rfl (by decide) (by decide) rfl ?_
    repeat' ((fail_if_success (with_reducible show wpAny _ _ (exec (Stmt.If _ _ _ _) _) _ _ _)); first | (k_unfold; (try dsimp only)) | (k_end; kc_close) | walk1 | (dsimp only; walk1) | fail "no step")
    skip
    rename News g' L' _ _ => N2x
    rename Fr g' L' _ _ => F2x
    refine wpAny_mono (E := fun _ _ => False) (Q := Cut (a'.length = 0 ∨ Txt.startswith n a' = true) (¬ a'.length = 0 ∧ Txt.startswith n a' = false) g' L' D news s n u a'.length n.length (pre1 a' ta ++ (strValues lm ++ [Value.str z' tz]))) ?part1 ?part2 ?part3
    case part1 =>
      repeat' ((fail_if_success (with_reducible show wpAny _ _ (subscriptTail _ _ _ _) _ _ _)); (fail_if_success (with_reducible show wpAny _ _ (delItem _ _) _ _ _)); first | (k_unfold; (try dsimp only)) | (k_end; kc_close) | walk1 | (dsimp only; walk1) | fail "no step")
      · rename (a'.length : Int) ≠ 0 => ha0
        rename Txt.startswith n a' = true => hsw
        rename News g' L' _ _ => N3
        rename Fr g' L' _ _ => F3
        refine del_first rfl F3 N3 hnew (by simp [strValues]; omega) fun h3 F4 N4 => ?_
        clear F3 N3
        repeat' (first | (k_unfold; (try dsimp only)) | (k_end; kc_close) | walk1 | (dsimp only; walk1) | fail "no step")
        rename News g' L' _ _ => N4
        rename Fr g' L' _ _ => F4
        rw [show pre1 a' ta ++ (strValues lm ++ [Value.str z' tz]) = strValues lm ++ [Value.str z' tz] by rw [pre1, if_neg (by omega)]; rfl]
        exact .inl ⟨rfl, .inr hsw, _, _, _, _, _, _, rfl, F4, N4, rfl, rfl, rfl, rfl⟩
      · rename (a'.length : Int) ≠ 0 => ha0
        rename Txt.startswith n a' = false => hsw
        rename News g' L' _ _ => N3
        rename Fr g' L' _ _ => F3
        exact .inr ⟨_, rfl, ⟨by omega, hsw⟩, rfl, _, _, _, rfl, F3, News.sub N3 fun p hp => .tail _ hp⟩
      · rename (a'.length : Int) = 0 => ha0
        rename News g' L' _ _ => N3
        rename Fr g' L' _ _ => F3
        rw [show pre1 a' ta ++ (strValues lm ++ [Value.str z' tz]) = Value.str a' ta :: (strValues lm ++ [Value.str z' tz]) by rw [pre1, if_pos (by omega)]; rfl, ha0]
        exact .inl ⟨rfl, .inl (by omega), _, _, _, _, _, _, rfl, F3, N3, rfl, rfl, rfl, rfl⟩
    case part2 =>
      clear N2x F2x
      rintro f s' (⟨rfl, hgood, m2, h2x, tk2, nn, t1, t2, rfl, F5, N5, hm1, hm2, hm3, hm4⟩ | ⟨v, rfl, hbad, rfl, m2, h2x, tk2, rfl, F5, N5⟩)
      · rw [← List.append_assoc] at N5
        dsimp only
        repeat' ((fail_if_success (with_reducible show wpAny _ _ (subscriptTail _ _ _ _) _ _ _)); first | (k_unfold; (try dsimp only)) | (k_end; kc_close) | walk1 | (dsimp only; walk1) | fail "no step")
        rename News g' L' _ _ => N6
        refine kim_last rfl N6 (List.mem_cons_self ..) ?_
        repeat' ((fail_if_success (with_reducible show wpAny _ _ (exec (Stmt.If _ _ _ _) _) _ _ _)); first | (k_unfold; (try dsimp only)) | (k_end; kc_close) | walk1 | (dsimp only; walk1) | fail "no step")
        rename News g' L' _ _ => N3x
        rename Fr g' L' _ _ => F3x
        refine wpAny_mono (E := fun _ _ => False) (Q := Cut (z'.length = 0 ∨ Txt.endswith n z' = true) (¬ z'.length = 0 ∧ Txt.endswith n z' = false) g' L' D news s n u a'.length (n.length - z'.length) (pre1 a' ta ++ strValues lm ++ pre1 z' tz)) ?part4 ?part5 ?part6
        case part4 =>
          repeat' ((fail_if_success (with_reducible show wpAny _ _ (delItem _ _) _ _ _)); first | (k_unfold; (try dsimp only)) | (k_end; kc_close) | walk1 | (dsimp only; walk1) | fail "no step")
          · rename (z'.length : Int) ≠ 0 => hz0
            rename Txt.endswith n z' = true => hsw
            rename News g' L' _ _ => N3
            rename Fr g' L' _ _ => F3
            refine del_last rfl F3 N3 hnew (by simp [strValues, pre1]; split <;> simp <;> omega) fun h3 F4 N4 => ?_
            clear F3 N3
            repeat' (first | (k_unfold; (try dsimp only)) | (k_end; kc_close) | walk1 | (dsimp only; walk1) | fail "no step")
            rename News g' L' _ _ => N4
            rename Fr g' L' _ _ => F4
            rw [show pre1 z' tz = [] by rw [pre1, if_neg (by omega)], List.append_nil]
            exact .inl ⟨rfl, .inr hsw, _, _, _, _, _, _, rfl, F4, N4, hm1, hm2, hm3, rfl⟩
          · rename (z'.length : Int) ≠ 0 => hz0
            rename Txt.endswith n z' = false => hsw
            rename News g' L' _ _ => N3
            rename Fr g' L' _ _ => F3
            exact .inr ⟨_, rfl, ⟨by omega, hsw⟩, rfl, _, _, _, rfl, F3, News.sub N3 fun p hp => .tail _ hp⟩
          · rename (z'.length : Int) = 0 => hz0
            rename News g' L' _ _ => N3
            rename Fr g' L' _ _ => F3
            rw [show pre1 z' tz = [Value.str z' tz] by rw [pre1, if_pos (by omega)], hz0, Int.sub_zero]
            exact .inl ⟨rfl, .inl (by omega), _, _, _, _, _, _, rfl, F3, N3, hm1, hm2, hm3, hm4⟩
        case part6 => exact fun _ _ h => h.elim
        case part5 =>
          clear N3x F3x hm1 hm2 hm3 hm4
          rintro f s' (⟨rfl, hgood2, m3, h3x, tk3, nn3, t3, t4, rfl, F5, N5, hm1, hm2, hm3, hm4⟩ | ⟨v, rfl, hbad, rfl, m3, h3x, tk3, rfl, F5, N5⟩)
          · dsimp only
            repeat' ((fail_if_success (with_reducible show wpAny _ _ (exec (Stmt.For _ _ _ _ _) _) _ _ _)); first | (k_unfold; (try dsimp only)) | (k_end; kc_close) | walk1 | (dsimp only; walk1) | fail "no step")
            · rename News h₀ L _ _ => kN
              rename Fr h₀ L _ _ => kF
              exact hret _ _ _ _ ⟨by rw [if_neg (by rw [hoc]; decide), ellV, if_pos hgood, if_pos hgood2, if_pos (by omega)], rfl⟩ kF (News.sub kN fun p hp => .tail _ hp)
            · have hle : a'.length + z'.length ≤ n.length := by omega
              obtain ⟨ep, hep⟩ : ∃ ep : Nat, ep = n.length - z'.length := ⟨_, rfl⟩
              rw [show (n.length : Int) - z'.length = (ep : Int) by omega] at hm4
              obtain ⟨xs, hxs, hxw, hxl⟩ : ∃ xs : List (Str × Tok), strValues xs = pre1 a' ta ++ strValues lm ++ pre1 z' tz ∧ xs.map (·.1) = str1 a' ++ (lm.map (·.1) ++ str1 z') ∧ ∀ x ∈ xs, x.1.length ≤ 2 ^ 20 := by
                refine ⟨(if a'.length = 0 then [(a', ta)] else []) ++ lm ++ (if z'.length = 0 then [(z', tz)] else []), ?_, ?_, ?_⟩
                · unfold strValues pre1
                  split <;> split <;> simp
                · unfold str1
                  split <;> split <;> simp
                · intro x hx
                  simp only [List.mem_append] at hx
                  rcases hx with (hx | hx) | hx
                  · split at hx
                    · rw [List.mem_singleton.mp hx]; exact hal
                    · cases hx
                  · exact hml x hx
                  · split at hx
                    · rw [List.mem_singleton.mp hx]; exact hzl
                    · cases hx
              rw [← hxs] at N5
              have hval : ellV n a' z' (lm.map (·.1)) = fitsL n ep a'.length (xs.map (·.1)) := by
                rw [ellV, if_pos hgood, if_pos hgood2, if_neg (by omega), hxw, hep]
              have hepn : ep ≤ n.length := by omega
              clear hxs hxw hep
              refine for_over ?_
              repeat' ((fail_if_success (with_reducible show wpAny _ _ (pyIter _) _ _ _)); first | (k_unfold; (try dsimp only)) | (k_end; kc_close) | walk1 | (dsimp only; walk1) | fail "no step")
              rename News g' L' _ _ => N6
              rename Fr g' L' _ _ => F6
              refine li_iter F6 N6 (List.mem_cons_self ..) rfl rfl fun I oI h4x hI hfr F6' N6' => ?_
              clear F6 N6
              refine hid (xs.length) (InvE n a' u t4 ep nn3 xs D I news g' L' s) ⟨0, a'.length, _, _, _, oI, _, rfl, by simp, Nat.zero_le _, F6', N6', hI, hm2, hm3, hm4, rfl⟩ fun Jv hJv => ?_
              clear F6' N6' hI
              rintro k s' ⟨i, sp, m5, h5, tk5, oJ, t5, rfl, rfl, hi, F7, N7, hJ, hg1, hg2, hg3, hfit⟩
              refine li_next rfl F7 N7 hJ hfr (List.mem_cons_self ..) rfl rfl (fun x r oJ' h6x hdrop hJ' F8 N8 => ?_) (fun h6x hdrop F8 N8 => ?_)
              · clear F7 N7
                rw [strValues, ← List.map_drop] at hdrop
                obtain ⟨⟨y, ty⟩, r', hd, rfl, rfl⟩ := List.map_eq_cons_iff.mp hdrop
                have hyl : y.length ≤ 2 ^ 20 := hxl (y, ty) (List.mem_of_mem_drop (hd ▸ List.mem_cons_self ..))
                have hd' : xs.drop (i + 1) = r' := by rw [← List.drop_drop, hd]; rfl
                have hi' : i < xs.length := by
                  have := congrArg List.length hd
                  simp only [List.length_drop, List.length_cons] at this
                  omega
                repeat' ((fail_if_success (with_reducible show wpAny _ _ (PySem.call (Value.builtin "str.find") _) _ _ _)); first | (k_unfold; (try dsimp only)) | (k_end; kc_close) | walk1 | (dsimp only; walk1) | fail "no step")
                refine find4 hepn (fun k hk => ?_) (fun hk => ?_)
                · k_steps
                  rename News g' L' _ _ => N9
                  rename Fr g' L' _ _ => F9
                  refine ⟨xs.length - (i + 1), by omega, hJv _ _ ⟨i + 1, k + y.length, _, _, _, oJ', _, rfl, rfl, hi', F9, N9, hJ', hg1, rfl, hg3, ?_⟩⟩
                  rw [hfit, hd, hd']
                  simp [fitsL, hk]
                · k_steps
                  rename News h₀ L _ _ => kN
                  rename Fr h₀ L _ _ => kF
                  exact hret _ _ _ _ ⟨by rw [if_neg (by rw [hoc]; decide), hval, hfit, hd, List.map_cons, fitsL, hk], rfl⟩ kF (News.sub kN fun p hp => .tail _ (.tail _ hp))
              · clear F7 N7
                have hd0 : xs.drop i = [] := by
                  rw [strValues, ← List.map_drop] at hdrop
                  exact List.map_eq_nil_iff.mp hdrop
                k_steps
                rename News h₀ L _ _ => kN
                rename Fr h₀ L _ _ => kF
                exact hret _ _ _ _ ⟨by rw [if_neg (by rw [hoc]; decide), hval, hfit, hd0, List.map_nil, fitsL], rfl⟩ kF (News.sub kN fun p hp => .tail _ hp)
          · dsimp only
            k_steps
            rename News h₀ L _ _ => kN
            rename Fr h₀ L _ _ => kF
            exact hret _ _ _ _ ⟨by rw [if_neg (by rw [hoc]; decide), ellV, if_pos hgood, if_neg (fun h => h.elim hbad.1 (by rw [hbad.2]; decide))], rfl⟩ kF kN
      · dsimp only
        k_steps
        rename News h₀ L _ _ => kN
        rename Fr h₀ L _ _ => kF
        exact hret _ _ _ _ ⟨by rw [if_neg (by rw [hoc]; decide), ellV, if_neg (fun h => h.elim hbad.1 (by rw [hbad.2]; decide))], rfl⟩ kF kN
    case part3 => exact fun _ _ h => h.elim
end Mine
end
section
open PySem PySem.W PyProof.Rows PySem.Calls PySem.Spec
set_option maxRecDepth 100000
set_option maxHeartbeats 4000000
namespace Mine
abbrev intVals (l : List (Nat × Tok)) : List Value := l.map fun q => .int (q.1 : Nat) q.2
section
variable {prog : Program} {w : World} {A : Around} {s : Shared} {h₀ : Heap} {L : Addr} {m : Str → Option Value} {env : Env}
theorem rest_ints {ct elt : Expr} {x : Str} {scope : Scope} {cl : List (Str × Addr)} {S : Led → Prop} {P : Nat → Value → Prop} {Fin : List Value → Led → Prop} {news : Led} (g : Nat → Bool) (f : Nat → Nat) (zs : List Nat)
    (hP : ∀ i v, i < zs.length → P i v → ∃ z t, zs[i]? = some z ∧ v = .int (z : Nat) t) (hS : S news)
    (tct : ∀ (z : Nat) (t : Tok) (I C D : Addr) (oI oC : Obj) (m₂ : Str → Option Value) (ys : List Value) (h : Heap) (tk : Nat) (E' : Value → Shared → Prop), z ∈ zs → LCg.NsObj oC m₂ → m₂ x = some (.int (z : Nat) t) → Fr h₀ L h m →
      News h₀ L h ((I, oI) :: (C, oC) :: (D, LCg.lst ys) :: news) →
      wpAny (model prog w) A (isTrue ct (compEnvC scope cl C env) (eval ct (compEnvC scope cl C env))) (fun ok s' => ok = g z ∧ ∃ h' tk', s' = { s with heap := h', toks := tk' } ∧ Fr h₀ L h' m ∧ News h₀ L h' ((I, oI) :: (C, oC) :: (D, LCg.lst ys) :: news)) E' { s with heap := h, toks := tk })
    (telt : ∀ (z : Nat) (t : Tok) (I C D : Addr) (oI oC : Obj) (m₂ : Str → Option Value) (ys : List Value) (h : Heap) (tk : Nat) (E' : Value → Shared → Prop), z ∈ zs → LCg.NsObj oC m₂ → m₂ x = some (.int (z : Nat) t) → Fr h₀ L h m →
      News h₀ L h ((I, oI) :: (C, oC) :: (D, LCg.lst ys) :: news) →
      wpAny (model prog w) A (eval elt (compEnvC scope cl C env)) (fun r s' => ∃ h' tk' t', r = .int (f z : Nat) t' ∧ s' = { s with heap := h', toks := tk' } ∧ Fr h₀ L h' m ∧ News h₀ L h' ((I, oI) :: (C, oC) :: (D, LCg.lst ys) :: news)) E' { s with heap := h, toks := tk })
    (fin : ∀ l : List (Nat × Tok), l.map (·.1) = (zs.filter g).map f → Fin (intVals l) news) :
    ∀ (k i : Nat) (l0 : List (Nat × Tok)), i + k = zs.length → l0.map (·.1) = ((zs.take i).filter g).map f →
      LCt.CompRestT prog w A h₀ L m env ct elt x scope cl s S P Fin k i (intVals l0) news
  | 0, i, l0, hi, hl => by
    refine LCt.CompRestT.zero (fin l0 ?_)
    rw [hl, List.take_of_length_le (by omega)]
  | k + 1, i, l0, hi, hl => by
    refine LCt.CompRestT.succ fun v I oI C oC D m₂ h tk E' hPv hNs hx F N off hne => ?_
    obtain ⟨z, t, hz, rfl⟩ := hP _ _ (by omega) hPv
    have hzm : z ∈ zs := List.mem_of_getElem? hz
    have htk : zs.take (i + 1) = zs.take i ++ [z] := by rw [List.take_add_one, hz]; rfl
    refine wpAny_mono (tct z t I C D oI oC m₂ _ h tk E' hzm hNs hx F N) (fun ok s' hok => ?_) fun _ _ e => e
    obtain ⟨rfl, h', tk', rfl, F', N'⟩ := hok
    cases hg : g z with
    | true =>
      rw [if_pos rfl]
      refine wpAny_mono (telt z t I C D oI oC m₂ _ h' tk' E' hzm hNs hx F' N') (fun r s' hr => ?_) fun _ _ e => e
      obtain ⟨h2, tk2, t2, rfl, rfl, F2, N2⟩ := hr
      refine LCg.CompEnd.intro F2 N2 news (fun p hp => hp) off hS ?_
      have := rest_ints g f zs hP hS tct telt fin k (i + 1) (l0 ++ [(f z, t2)]) (by omega) (by rw [htk, List.filter_append, List.map_append, List.map_append, hl]; simp [hg])
      simpa [intVals] using this
    | false =>
      rw [if_neg (by decide)]
      refine LCg.CompEnd.intro F' N' news (fun p hp => hp) off hS ?_
      exact rest_ints g f zs hP hS tct telt fin k (i + 1) l0 (by omega) (by rw [htk, List.filter_append, hl]; simp [hg])
theorem drop2 {h : Heap} {a b : Addr × Obj} {r : Led} (N : News h₀ L h (a :: b :: r)) : News h₀ L h (a :: r) := News.sub N fun p hp => by
  rcases List.mem_cons.mp hp with rfl | hp
  · exact .head _
  · exact .tail _ (.tail _ hp)
theorem hP_range (n : Nat) : ∀ (i : Nat) (v : Value), i < (List.range n).length → (∃ t, v = .int (0 + (i : Int)) t) → ∃ z t, (List.range n)[i]? = some z ∧ v = .int (z : Nat) t := by
  rintro i v hi ⟨t, rfl⟩
  rw [List.length_range] at hi
  exact ⟨i, t, by simp [hi], by rw [Int.zero_add]⟩
theorem hP_list (pl : List (Nat × Tok)) : ∀ (i : Nat) (v : Value), i < (pl.map (·.1)).length → (intVals pl).toArray[i]? = some v → ∃ z t, (pl.map (·.1))[i]? = some z ∧ v = .int (z : Nat) t := by
  intro i v _ h
  rw [List.getElem?_toArray, List.getElem?_map] at h
  cases e : pl[i]? with
  | none => rw [e] at h; cases h
  | some q =>
    rw [e] at h
    cases h
    exact ⟨q.1, q.2, by rw [List.getElem?_map, e]; rfl, rfl⟩
theorem up_len {N : Nat} : ∀ (l : List Nat) (a : Nat), l.Pairwise (· < ·) → (∀ k ∈ l, a ≤ k ∧ k ≤ N) → l.length ≤ N + 1 - a
  | [], _, _, _ => Nat.zero_le _
  | x :: r, a, h, hb => by
    obtain ⟨h1, h2⟩ := List.pairwise_cons.mp h
    have b := hb x (List.mem_cons_self ..)
    have := up_len r (x + 1) h2 fun k hk => ⟨h1 k hk, (hb k (.tail _ hk)).2⟩
    rw [List.length_cons]
    omega
theorem slice_is (n : Str) (z c : Nat) : (Txt.slice n (some (z : Int)) (some ((z : Int) + 1)) == (⟨#[c]⟩ : Str)) = (n.cps.toList[z]? == some c) := by
  rw [show ((z : Int) + 1) = ((z + 1 : Nat) : Int) from rfl, slice_nat n (Nat.le_succ z), show z.succ - z = 1 by omega]
  cases h : n.cps.toList.drop z with
  | nil =>
    have e : n.cps.toList[z]? = none := List.getElem?_eq_none (List.drop_eq_nil_iff.mp h)
    rw [e]
    rfl
  | cons x r =>
    have e : n.cps.toList[z]? = some x := by rw [← Nat.add_zero z, ← List.getElem?_drop, h]; rfl
    rw [e, Bool.eq_iff_iff, beq_iff_eq, beq_iff_eq]
    constructor
    · intro q
      have := congrArg (fun y : Str => y.cps.toList) q
      simpa using this
    · intro q
      cases q
      rfl
theorem ints_are : ∀ pl : List (Nat × Tok), IntsAre (intVals pl) (pl.map fun q => (q.1 : Int))
  | [] => .nil
  | q :: r => .cons _ _ (ints_are r)
theorem ne_nil {E : Value → Shared → Prop} {D b : Addr} {o ob : Obj} {nn k : Nat} {news : Led} {Q : Value → Shared → Prop} (N : News h₀ L s.heap news) (hm : (D, o) ∈ news) (hc : o.cls = .type "list") (hd : o.data = .seq (intVals []).toArray nn)
    (hm2 : (b, ob) ∈ news) (hc2 : ob.cls = .type "list") (hd2 : ob.data = .seq #[] k)
    (hu : A.units + 64 < cLine) (h : Q (.bool false) s) : wpAny (model prog w) A (compareOp .NotEq (.ref D) (.ref b)) Q E s :=
  ke_ne_ints (xs := intVals []) (ys := []) (ns := []) (ms := []) ⟨_, (N _ hm).1, hc, _, hd⟩ ⟨_, (N _ hm2).1, hc2, _, hd2⟩ (ints_are []) .nil hu (by simpa using h)
theorem ne_cons {E : Value → Shared → Prop} {D b : Addr} {o ob : Obj} {nn k : Nat} {news : Led} {q : Nat × Tok} {pl : List (Nat × Tok)} {Q : Value → Shared → Prop} (N : News h₀ L s.heap news) (hm : (D, o) ∈ news) (hc : o.cls = .type "list") (hd : o.data = .seq (intVals (q :: pl)).toArray nn)
    (hm2 : (b, ob) ∈ news) (hc2 : ob.cls = .type "list") (hd2 : ob.data = .seq #[] k)
    (hu : A.units + 64 < cLine) (h : Q (.bool true) s) : wpAny (model prog w) A (compareOp .NotEq (.ref D) (.ref b)) Q E s :=
  ke_ne_ints (xs := intVals (q :: pl)) (ys := []) ⟨_, (N _ hm).1, hc, _, hd⟩ ⟨_, (N _ hm2).1, hc2, _, hd2⟩ (ints_are (q :: pl)) .nil hu (by simpa using h)
theorem in_ints {E : Value → Shared → Prop} {D : Addr} {o : Obj} {nn : Nat} {news : Led} {pl : List (Nat × Tok)} {x : Nat} {t : Tok} {Q : Value → Shared → Prop} (N : News h₀ L s.heap news) (hm : (D, o) ∈ news) (hc : o.cls = .type "list") (hd : o.data = .seq (intVals pl).toArray nn)
    (hu : A.units < cLine) (h : Q (.bool (decide (x ∈ pl.map (·.1)))) s) : wpAny (model prog w) A (compareOp .In (.int (x : Nat) t) (.ref D)) Q E s := by
  refine SeqAt.in_listAt (fun v => match v with | .int z _ => z == (x : Int) | _ => false) ⟨_, (N _ hm).1, hc, nn, hd⟩ (fun y hy => ?_) ?_
  · obtain ⟨⟨z, tz⟩, _, rfl⟩ := List.mem_map.mp (List.mem_toArray.mp hy)
    exact (PySem.MeetsSeq.EqGives.int _ _ _ _).at _ _
  · have e : (intVals pl).toArray.any (fun v => match v with | .int z _ => z == (x : Int) | _ => false) = decide (x ∈ pl.map (·.1)) := by
      rw [Bool.eq_iff_iff]
      simp only [List.any_toArray, List.any_eq_true, List.mem_map, decide_eq_true_eq]
      constructor
      · rintro ⟨y, ⟨q, hq, rfl⟩, h⟩
        exact ⟨q, hq, by have := beq_iff_eq.mp h; omega⟩
      · rintro ⟨q, hq, rfl⟩
        exact ⟨_, ⟨q, hq, rfl⟩, by simp⟩
    rw [e]; exact h
end
end Mine
end
section
namespace Mine
def anyTail (f : List Nat → Bool) : List Nat → Bool
  | [] => f []
  | x :: r => f (x :: r) || anyTail f r
/-- a pattern of literal signs (some c) and of gaps (none) matches a text -/
def mt : List (Option Nat) → List Nat → Bool
  | [], l => l.isEmpty
  | some c :: T, l => match l with
    | [] => false
    | x :: r => (x == c) && mt T r
  | none :: T, l => anyTail (mt T) l
def toks : List Nat → List (Option Nat)
  | 46 :: 46 :: 46 :: r => none :: toks r
  | c :: r => some c :: toks r
  | [] => []
theorem toks_dots (r : List Nat) : toks (46 :: 46 :: 46 :: r) = none :: toks r := rfl
theorem toks_nil : toks [] = [] := rfl
theorem toks_cons {c : Nat} {r : List Nat} (h : ¬ ∃ r', c :: r = 46 :: 46 :: 46 :: r') : toks (c :: r) = some c :: toks r := by
  rw [toks]
  rintro r' h1 h2
  exact h ⟨r', by rw [h1, h2]⟩
theorem anyTail_iff (f : List Nat → Bool) : ∀ l : List Nat, anyTail f l = true ↔ ∃ k, k ≤ l.length ∧ f (l.drop k) = true
  | [] => by simp [anyTail]
  | x :: r => by
    rw [anyTail, Bool.or_eq_true, anyTail_iff f r]
    constructor
    · rintro (h | ⟨k, hk, h⟩)
      · exact ⟨0, Nat.zero_le _, h⟩
      · exact ⟨k + 1, by simpa using hk, h⟩
    · rintro ⟨k, hk, h⟩
      cases k with
      | zero => exact .inl h
      | succ k => exact .inr ⟨k, by simpa using hk, h⟩
/-- the places of the law's own matcher say the same -/
def placesSay (T : List (Option Nat)) (n : List Nat) (ks : List Nat) : Bool := ks.any fun k => mt T (n.drop k)
theorem say_gap {T : List (Option Nat)} {n : List Nat} {a : Nat} {r : List Nat} (hs : (a :: r).Pairwise (· < ·)) (hl : ∀ k ∈ a :: r, k ≤ n.length) :
    placesSay (none :: T) n (a :: r) = placesSay T n ((List.range (n.length + 1)).filter fun k => decide (a ≤ k)) := by
  rw [Bool.eq_iff_iff]
  unfold placesSay
  simp only [List.any_eq_true, mt, anyTail_iff, List.mem_filter, List.mem_range, decide_eq_true_eq, List.length_drop, List.drop_drop]
  constructor
  · rintro ⟨k, hk, j, hj, h⟩
    have hkl := hl k hk
    refine ⟨k + j, ⟨by omega, ?_⟩, h⟩
    rcases List.mem_cons.mp hk with rfl | hk
    · omega
    · have := (List.pairwise_cons.mp hs).1 k hk
      omega
  · rintro ⟨k, ⟨hk, ha⟩, h⟩
    exact ⟨a, List.mem_cons_self .., k - a, by omega, by rw [Nat.add_sub_cancel' ha]; exact h⟩
theorem say_gap_nil {T T' : List (Option Nat)} {n : List Nat} : placesSay T n [] = placesSay T' n [] := rfl
theorem say_sign {T : List (Option Nat)} {n : List Nat} {c : Nat} {ks : List Nat} :
    placesSay (some c :: T) n ks = placesSay T n ((ks.filter fun k => n[k]? == some c).map (· + 1)) := by
  rw [Bool.eq_iff_iff]
  unfold placesSay
  simp only [List.any_eq_true, List.mem_map, List.mem_filter, beq_iff_eq]
  constructor
  · rintro ⟨k, hk, h⟩
    cases hd : n.drop k with
    | nil => rw [hd] at h; simp [mt] at h
    | cons x r =>
      rw [hd] at h
      simp only [mt, Bool.and_eq_true, beq_iff_eq] at h
      obtain ⟨rfl, h⟩ := h
      have e : n[k]? = some x := by rw [← Nat.add_zero k, ← List.getElem?_drop, hd]; rfl
      have e2 : n.drop (k + 1) = r := by rw [← List.drop_drop, hd]; rfl
      exact ⟨k + 1, ⟨k, ⟨hk, e⟩, rfl⟩, by rw [e2]; exact h⟩
  · rintro ⟨k', ⟨k, ⟨hk, e⟩, rfl⟩, h⟩
    refine ⟨k, hk, ?_⟩
    obtain ⟨hlt, he⟩ := List.getElem?_eq_some_iff.mp e
    rw [List.drop_eq_getElem_cons hlt, he]
    simp [mt, h]
theorem say_end {n : List Nat} {ks : List Nat} (hl : ∀ k ∈ ks, k ≤ n.length) : placesSay [] n ks = decide (n.length ∈ ks) := by
  rw [Bool.eq_iff_iff]
  unfold placesSay
  simp only [List.any_eq_true, mt, List.isEmpty_iff, decide_eq_true_eq, List.drop_eq_nil_iff]
  constructor
  · rintro ⟨k, hk, h⟩
    have := hl k hk
    have e : k = n.length := by omega
    exact e ▸ hk
  · exact fun h => ⟨_, h, Nat.le_refl _⟩
theorem say_start (T : List (Option Nat)) (n : List Nat) : placesSay T n [0] = mt T n := by simp [placesSay]
end Mine
end
section
open PySem PySem.W PyProof.Rows PySem.Calls PySem.Spec
set_option maxRecDepth 100000
set_option maxHeartbeats 8000000
namespace Mine

variable {w : World}
local macro_rules | `(tactic| k_ne) => `(tactic| (refine neN ?_; (try dsimp only); first | assumption | exact Ne.symm (by assumption)))
local macro_rules | `(tactic| walk_at "ite") => `(tactic| first | (with_reducible refine ite_at_f (by assumption) ?_) | (with_reducible refine ite_at_t (by assumption) ?_))

theorem small_nat {n : Nat} (h : n ≤ 2 ^ 20) : Builtin.Range.small 0 ((n : Int) + 1) 1 = true :=
  small_one (by decide) (by decide) (by omega) (by omega)
inductive InvQ (p n : Str) (t u : Tok) (news : Led) (g' : Heap) (L' : Addr) (s : Shared) (M : Str → Option Value) (k : Nat) (s' : Shared) : Prop
  | mk (i : Nat) (ti : Tok) (D : Addr) (nn : Nat) (pl : List (Nat × Tok)) (oa op on oq : Obj) (h2 : Heap) (tk2 : Nat)
    (e0 : s' = { s with heap := h2, toks := tk2 })
    (e1 : k = p.length - i)
    (e2 : Fr g' L' h2 M)
    (e3 : News g' L' h2 ((D, listOf (intVals pl).toArray nn) :: (L' + 1 + 1 + 1 + 1, oa) :: (L' + 1 + 1 + 1, op) :: (L' + 1 + 1, on) :: (L' + 1, oq) :: news))
    (e4 : (@Ne Nat (L' + 1 + 1 + 1 + 1) D ∧ @Ne Nat (L' + 1 + 1 + 1) D ∧ @Ne Nat (L' + 1 + 1) D ∧ @Ne Nat (L' + 1) D))
    (e5 : oa.data = .cell (some (.int i ti)))
    (e6 : op.data = .cell (some (.ref D)))
    (e7 : on.data = .cell (some (.str n u)))
    (e8 : oq.data = .cell (some (.str p t)))
    (e9 : (pl.map (·.1)).Pairwise (· < ·))
    (e10 : (∀ k ∈ pl.map (·.1), k ≤ n.cps.toList.length))
    (e11 : mt (toks p.cps.toList) n.cps.toList = placesSay (toks (p.cps.toList.drop i)) n.cps.toList (pl.map (·.1))) : InvQ p n t u news g' L' s M k s'
theorem due_ok (p n : Str) (t u : Tok) (news : Led) (hp : p.length ≤ 2 ^ 10) (hn : n.length ≤ 2 ^ 10) :
    Spec w 128 8 [.str p t, .str n u] news (fun v news' => v = .bool (mt (toks p.cps.toList) n.cps.toList) ∧ news' = news) := by
  unfold Spec
  w_top off
  k_fill
  intro loose mean mg mb dp un gd cn cs a ccd cl outer A₀ base h₀ L m s Q E h1 h2 h3 h4 h5 codeHd0 h6 h8 h9 hret
  k_dflt (refine' code_defC ?k1 ?k2 ?k3 ?k4 ?k5 ?kA ?kF ?kK ?k6 ?k7 ?k8 ?k9 ?kB ?kD ?_ ?c2 ?c3 ?c4; (case kA => exact rfl); (case kF => exact rfl); (case kK => assumption); (case k1 => k_asm); (case k2 => k_asm); (case k3 => k_asm); (case k4 => k_asm); (case k5 => k_asm); (case k6 => k_is); (case k7 => k_is); (case k8 => ktr_room); (case k9 => first | exact BindsTo.of_eq rfl); (case kB => exact rfl); (case kD => decide +kernel); (case c2 => exact rfl); (case c3 => exact rfl); (case c4 => exact rfl); k_whole; intro g' L' h' tk' cells' FG' F' N' Y' B' X' T' l1; k_cells Y'; (try simp only [List.cons_append, List.nil_append] at N'); (try dsimp only); (try k_lift B'); (try k_fold))
  have codeHd := codeHd0.keeps FG'.keep
  repeat' ((fail_if_success (with_reducible show wpAny _ _ (exec (Stmt.While _ _ _ _) _) _ _ _)); first | (k_unfold; (try dsimp only)) | (k_end; kc_close) | walk1 | (dsimp only; walk1) | fail "no step")
  rename News g' L' _ _ => N1
  rename Fr g' L' _ _ => F1
  obtain ⟨M, F2⟩ : ∃ M, Fr g' L' _ M := ⟨_, F1⟩
  clear F1
  refine while_hid p.length (InvQ p n t u news g' L' s M) ?_ fun Jv hJv => ?_
  · refine ⟨0, _, _, _, [(0, _)], _, _, _, _, _, _, rfl, rfl, F2, N1, ⟨by omega, by omega, by omega, by omega⟩, by assumption, by assumption, by assumption, by assumption, by simp, by simp, (say_start _ _).symm⟩
  · rintro k s' ⟨i, ti, D, nn, pl, oa, op, on, oq, h2, tk2, rfl, rfl, F3, N3, ⟨hD1, hD2, hD3, hD4⟩, ha, hpl, hnm, hpt, hpw, hple, hsay⟩
    clear N1 F2
    repeat' ((fail_if_success (with_reducible show wpAny _ _ (exec (Stmt.If _ _ _ _) _) _ _ _)); (fail_if_success (with_reducible show wpAny _ _ (compareOp CmpOp.In _ _) _ _ _)); first | (k_unfold; (try dsimp only)) | (k_end; kc_close) | walk1 | (dsimp only; walk1) | fail "no step")
    rotate_left
    · rename News g' L' _ _ => N4
      refine in_ints N4 (List.mem_cons_self ..) rfl rfl (by ktr_units) ?_
      k_steps
      rename News h₀ L _ _ => kN
      rename Fr h₀ L _ _ => kF
      refine hret _ _ _ _ ⟨congrArg Value.bool ?_, rfl⟩ kF (News.sub kN fun p hp => .tail _ (.tail _ (.tail _ (.tail _ (.tail _ hp)))))
      have hlen : p.length = p.cps.toList.length := by simp [Str.length]
      have hlen2 : n.length = n.cps.toList.length := by simp [Str.length]
      rw [hsay, List.drop_of_length_le (by omega), toks_nil, say_end hple, hlen2]
    · have hlen : p.length = p.cps.toList.length := by simp [Str.length]
      have hlen2 : n.length = n.cps.toList.length := by simp [Str.length]
      have hlt : (i : Int) < p.length := by assumption
      by_cases hdots : ∃ r, p.cps.toList.drop i = 46 :: 46 :: 46 :: r
      · obtain ⟨r, hr'⟩ := hdots
        have hsl : (Txt.slice p (some (i : Int)) (some ((i : Int) + 3)) == Str.ofString "...") = true := by
          have e : Txt.slice p (some (i : Int)) (some ((i : Int) + 3)) = Str.ofString "..." := by
            refine (slice_nat p (a := i) (b := i + 3) (by omega)).trans ?_
            rw [hr', Nat.add_sub_cancel_left]
            rfl
          rw [e]; decide +kernel
        repeat' ((fail_if_success (with_reducible show wpAny _ _ (eval (Expr.ListComp _ _ _ _) _) _ _ _)); first | (k_unfold; (try dsimp only)) | (k_end; kc_close) | walk1 | (dsimp only; walk1) | fail "no step")
        rename Fr g' L' _ _ => FF
        k_dflt (refine' LCt.ListComp_T FF ?cc ?cd ?ce ?cf ?cg ?ch)
        case cc => exact rfl
        case cd => decide
        case ce => exact rfl
        case cf => decide
        case cg => exact rfl
        case ch =>
          repeat' ((fail_if_success (with_reducible show LCt.CompSrcT _ _ _ _ _ _ _ _ _ _ _ _ _ _ _)); first | (k_unfold; (try dsimp only)) | (k_end; kc_close) | walk1 | (dsimp only; walk1) | fail "no step")
          rename Fr g' L' _ _ => F7
          rename News g' L' _ _ => N7
          rename IsRange _ _ _ _ _ _ _ _ => hr
          refine LCt.CompSrcT.range (n := n.length + 1) rfl F7 N7 hr (small_nat (by omega)) ((rangeSize_nat _ _).trans (by omega)) (by rw [sizeLine_eq]; omega) fun gg => ?_
          have hdr : p.cps.toList.drop (i + 3) = r := by rw [← List.drop_drop, hr']; rfl
          rw [hr', toks_dots] at hsay
          cases pl with
          | nil =>
            refine rest_ints (fun _ => false) id (List.range (n.length + 1)) ?hP ?hS ?tct ?telt ?fin (n.length + 1) 0 [] (by simp) rfl
            case hS => exact trivial
            case hP => exact hP_range _
            case tct =>
              intro z t I C D' oI oC m₂ ys h tk E' hz hNs hx F8 N8
              k_sweep
              repeat' ((fail_if_success (with_reducible show wpAny _ _ (compareOp CmpOp.NotEq _ _) _ _ _)); first | (k_unfold; (try dsimp only)) | (k_end; kc_close) | walk1 | (dsimp only; walk1) | fail "no step")
              rename News g' L' _ _ => N9
              refine ne_nil N9 (by k_mem) rfl rfl (by k_mem) rfl rfl (by ktr_units) ?_
              k_steps
              all_goals first | exact trivial | assumption | (rename News g' L' _ _ => N10; exact News.sub N10 fun p hp => .tail _ hp)
            case telt =>
              intro z t I C D' oI oC m₂ ys h tk E' hz hNs hx F8 N8
              k_sweep
              k_steps
              all_goals assumption
            case fin =>
              intro l hl D' h tk F8 N8 o1
              k_sweep
              simp only [LCg.Off1] at o1
              obtain ⟨o2, o3, o4, o5, o6, o7⟩ := o1
              have hl0 : l.map (·.1) = [] := by rw [hl]; simp
              k_steps
              rename News g' L' _ _ => N9
              rename Fr g' L' _ _ => F9
              rw [show LCg.lst (intVals l) = listOf (intVals l).toArray (intVals l).length from rfl] at N9
              refine ⟨p.length - (i + 3), by omega, hJv _ _ ⟨i + 3, _, D', _, l, _, _, _, _, _, _, rfl, rfl, F9, drop2 N9, ⟨o3, o4, o5, o6⟩, by assumption, by assumption, by assumption, by assumption, ?_, ?_, ?_⟩⟩
              · rw [hl0]; exact .nil
              · rw [hl0]; intro k hk; cases hk
              · rw [hsay, hdr, hl0]; rfl
          | cons q pl =>
            refine rest_ints (fun k => decide (q.1 ≤ k)) id (List.range (n.length + 1)) ?hP2 ?hS2 ?tct2 ?telt2 ?fin2 (n.length + 1) 0 [] (by simp) rfl
            case hS2 => exact trivial
            case hP2 => exact hP_range _
            case tct2 =>
              intro z t I C D' oI oC m₂ ys h tk E' hz hNs hx F8 N8
              k_sweep
              repeat' ((fail_if_success (with_reducible show wpAny _ _ (compareOp CmpOp.NotEq _ _) _ _ _)); first | (k_unfold; (try dsimp only)) | (k_end; kc_close) | walk1 | (dsimp only; walk1) | fail "no step")
              rename News g' L' _ _ => N9
              refine ne_cons N9 (by k_mem) rfl rfl (by k_mem) rfl rfl (by ktr_units) ?_
              repeat' ((fail_if_success (with_reducible show wpAny _ _ (subscriptTail _ _ _ _) _ _ _)); first | (k_unfold; (try dsimp only)) | (k_end; kc_close) | walk1 | (dsimp only; walk1) | fail "no step")
              rename News g' L' _ _ => N10
              refine kim_list N10 (by k_mem) rfl rfl (by decide) (by decide) rfl ?_
              k_steps
              all_goals first | exact trivial | assumption | exact (decide_eq_true (by omega)).symm | exact (decide_eq_false (by omega)).symm | (rename News g' L' _ _ => N11; exact News.sub N11 fun p hp => .tail _ hp)
            case telt2 =>
              intro z t I C D' oI oC m₂ ys h tk E' hz hNs hx F8 N8
              k_sweep
              k_steps
              all_goals assumption
            case fin2 =>
              intro l hl D' h tk F8 N8 o1
              k_sweep
              simp only [LCg.Off1] at o1
              obtain ⟨o2, o3, o4, o5, o6, o7⟩ := o1
              have hl0 : l.map (·.1) = (List.range (n.length + 1)).filter fun k => decide (q.1 ≤ k) := by rw [hl]; simp
              k_steps
              rename News g' L' _ _ => N9
              rename Fr g' L' _ _ => F9
              rw [show LCg.lst (intVals l) = listOf (intVals l).toArray (intVals l).length from rfl] at N9
              refine ⟨p.length - (i + 3), by omega, hJv _ _ ⟨i + 3, _, D', _, l, _, _, _, _, _, _, rfl, rfl, F9, drop2 N9, ⟨o3, o4, o5, o6⟩, by assumption, by assumption, by assumption, by assumption, ?_, ?_, ?_⟩⟩
              · rw [hl0]; exact List.Pairwise.filter _ List.pairwise_lt_range
              · rw [hl0]; intro k hk
                have := List.mem_range.mp (List.mem_filter.mp hk).1
                omega
              · rw [hsay, hdr, hl0, List.map_cons, say_gap hpw hple, hlen2]
      · have hsl : (Txt.slice p (some (i : Int)) (some ((i : Int) + 3)) == Str.ofString "...") = false := by
          refine beq_eq_false_iff_ne.mpr fun e => hdots ?_
          have e2 := congrArg (fun z : Str => z.cps.toList) ((slice_nat p (a := i) (b := i + 3) (by omega)).symm.trans e)
          rw [Nat.add_sub_cancel_left] at e2
          change (p.cps.toList.drop i).take 3 = [46, 46, 46] at e2
          refine ⟨(p.cps.toList.drop i).drop 3, ?_⟩
          conv => lhs; rw [← List.take_append_drop 3 (p.cps.toList.drop i), e2]
          rfl
        repeat' ((fail_if_success (with_reducible show wpAny _ _ (eval (Expr.ListComp _ _ _ _) _) _ _ _)); first | (k_unfold; (try dsimp only)) | (k_end; kc_close) | walk1 | (dsimp only; walk1) | fail "no step")
        rename Fr g' L' _ _ => FF
        obtain ⟨c, r, hdc⟩ : ∃ c r, p.cps.toList.drop i = c :: r := by
          cases h : p.cps.toList.drop i with
          | nil => have := List.drop_eq_nil_iff.mp h; omega
          | cons c r => exact ⟨c, r, rfl⟩
        have hdc2 := (drop_step hdc).1
        rw [hdc, toks_cons (fun ⟨r', e⟩ => hdots ⟨r', hdc.trans e⟩)] at hsay
        have hit := item_of hdc
        k_dflt (refine' LCt.ListComp_T FF ?cc ?cd ?ce ?cf ?cg ?ch)
        case cc => exact rfl
        case cd => decide
        case ce => exact rfl
        case cf => decide
        case cg => exact rfl
        case ch =>
          repeat' ((fail_if_success (with_reducible show LCt.CompSrcT _ _ _ _ _ _ _ _ _ _ _ _ _ _ _)); first | (k_unfold; (try dsimp only)) | (k_end; kc_close) | walk1 | (dsimp only; walk1) | fail "no step")
          rename Fr g' L' _ _ => F7
          rename News g' L' _ _ => N7
          refine LCt.CompSrcT.ledger (its := (intVals pl).toArray) (k := nn) rfl F7 N7 (by k_mem) (by have := up_len (N := n.cps.toList.length) _ 0 hpw (fun k hk => ⟨Nat.zero_le _, hple k hk⟩); simp only [List.length_map] at this; rw [sizeLine_eq]; simp; omega) fun gg => ?_
          rw [show (intVals pl).toArray.size = pl.length by simp]
          refine rest_ints (fun k => n.cps.toList[k]? == some c) (fun k => k + 1) (pl.map (·.1)) ?hP3 ?hS3 ?tct3 ?telt3 ?fin3 pl.length 0 [] (by simp) rfl
          case hS3 => exact .inr ⟨_, by k_mem, rfl, _, rfl⟩
          case hP3 => exact hP_list pl
          case tct3 =>
            intro z t I C D' oI oC m₂ ys h tk E' hz hNs hx F8 N8
            k_sweep
            have hcmp := slice_is n z c
            repeat' ((fail_if_success (with_reducible show wpAny _ _ (subscriptTail (Expr.Name (Str.ofString "pattern") _) _ _ _) _ _ _)); first | (k_unfold; (try dsimp only)) | (k_end; kc_close) | walk1 | (dsimp only; walk1) | fail "no step")
            refine item_str (fitsSsize_of (N := 9223372036854775808) (by omega) (by omega) (Int.le_refl _)) (by omega) (by omega) (fun _ => ?_)
            rw [hit]
            k_steps
            all_goals first | exact trivial | assumption
          case telt3 =>
            intro z t I C D' oI oC m₂ ys h tk E' hz hNs hx F8 N8
            k_sweep
            k_steps
            all_goals first | exact trivial | assumption
          case fin3 =>
            intro l hl D' h tk F8 N8 o1
            k_sweep
            simp only [LCg.Off1] at o1
            obtain ⟨o2, o3, o4, o5, o6, o7⟩ := o1
            k_steps
            rename News g' L' _ _ => N9
            rename Fr g' L' _ _ => F9
            rw [show LCg.lst (intVals l) = listOf (intVals l).toArray (intVals l).length from rfl] at N9
            refine ⟨p.length - (i + 1), by omega, hJv _ _ ⟨i + 1, _, D', _, l, _, _, _, _, _, _, rfl, rfl, F9, drop2 N9, ⟨o3, o4, o5, o6⟩, by assumption, by assumption, by assumption, by assumption, ?_, ?_, ?_⟩⟩
            · rw [hl, List.pairwise_map]
              exact (hpw.filter _).imp fun h => Nat.succ_lt_succ h
            · rw [hl]
              intro k hk
              obtain ⟨k', hk', rfl⟩ := List.mem_map.mp hk
              have e := beq_iff_eq.mp (List.mem_filter.mp hk').2
              exact (List.getElem?_eq_some_iff.mp e).1
            · rw [hsay, hdc2, hl]; exact say_sign
end Mine
end
section
namespace Mine
theorem cons_inj {a b : Nat} {l r : List Nat} (h : a :: l = b :: r) : a = b ∧ l = r := List.cons.inj h
theorem mt_nil {l : List Nat} : mt [] l = true ↔ l = [] := by
  rw [mt, List.isEmpty_iff]
theorem mt_some {c : Nat} {T : List (Option Nat)} {l : List Nat} : mt (some c :: T) l = true ↔ ∃ r, l = c :: r ∧ mt T r = true := by
  cases l with
  | nil => simp [mt]
  | cons x r =>
    simp only [mt, Bool.and_eq_true, beq_iff_eq]
    constructor
    · rintro ⟨rfl, h⟩
      exact ⟨r, rfl, h⟩
    · rintro ⟨r', e, h⟩
      cases e
      exact ⟨rfl, h⟩
theorem mt_none {T : List (Option Nat)} {l : List Nat} : mt (none :: T) l = true ↔ ∃ a b, l = a ++ b ∧ mt T b = true := by
  rw [mt, anyTail_iff]
  constructor
  · rintro ⟨k, _, h⟩
    exact ⟨l.take k, l.drop k, (List.take_append_drop k l).symm, h⟩
  · rintro ⟨a, b, rfl, h⟩
    exact ⟨a.length, by simp, by simpa using h⟩
theorem mt_app {U : List (Option Nat)} : ∀ {T : List (Option Nat)} {l : List Nat}, mt (T ++ U) l = true ↔ ∃ a b, l = a ++ b ∧ mt T a = true ∧ mt U b = true
  | [], l => by
    rw [List.nil_append]
    constructor
    · exact fun h => ⟨[], l, rfl, rfl, h⟩
    · rintro ⟨a, b, rfl, ha, hb⟩
      rw [mt_nil.mp ha]; exact hb
  | some c :: T, l => by
    rw [List.cons_append, mt_some]
    constructor
    · rintro ⟨r, rfl, h⟩
      obtain ⟨a, b, rfl, ha, hb⟩ := (mt_app (T := T)).mp h
      exact ⟨c :: a, b, rfl, mt_some.mpr ⟨a, rfl, ha⟩, hb⟩
    · rintro ⟨a, b, rfl, ha, hb⟩
      obtain ⟨r, rfl, h⟩ := mt_some.mp ha
      exact ⟨r ++ b, rfl, (mt_app (T := T)).mpr ⟨r, b, rfl, h, hb⟩⟩
  | none :: T, l => by
    rw [List.cons_append, mt_none]
    constructor
    · rintro ⟨a, b, rfl, h⟩
      obtain ⟨x, y, rfl, hx, hy⟩ := (mt_app (T := T)).mp h
      exact ⟨a ++ x, y, (List.append_assoc ..).symm, mt_none.mpr ⟨a, x, rfl, hx⟩, hy⟩
    · rintro ⟨a, b, rfl, ha, hb⟩
      obtain ⟨x, y, rfl, hy⟩ := mt_none.mp ha
      exact ⟨x, y ++ b, (List.append_assoc ..), (mt_app (T := T)).mpr ⟨y, b, rfl, hy, hb⟩⟩
abbrev lits (z : List Nat) : List (Option Nat) := z.map some
theorem mt_lits : ∀ {z l : List Nat}, mt (lits z) l = true ↔ l = z
  | [], l => mt_nil
  | c :: z, l => by
    rw [lits, List.map_cons, mt_some]
    constructor
    · rintro ⟨r, rfl, h⟩
      rw [mt_lits.mp h]
    · rintro rfl
      exact ⟨z, rfl, mt_lits.mpr rfl⟩
/-- a row around a pattern and a name -/
theorem mt_around {T : List (Option Nat)} {pre suf l : List Nat} : mt (lits pre ++ (T ++ lits suf)) (pre ++ (l ++ suf)) = mt T l := by
  rw [Bool.eq_iff_iff, mt_app]
  constructor
  · rintro ⟨a, b, e, ha, hb⟩
    rw [mt_lits.mp ha] at e
    obtain rfl := List.append_cancel_left e
    obtain ⟨x, y, e, hx, hy⟩ := mt_app.mp hb
    rw [mt_lits.mp hy] at e
    rw [List.append_cancel_right e]; exact hx
  · exact fun h => ⟨pre, l ++ suf, rfl, mt_lits.mpr rfl, mt_app.mpr ⟨l, suf, rfl, h, mt_lits.mpr rfl⟩⟩
section
variable {q : Nat} {S : Nat → Bool} (hq : S q = true)
def escT (q : Nat) (S : Nat → Bool) : Option Nat → List (Option Nat)
  | none => [none]
  | some c => if S c then [some q, some c] else [some c]
def escC (q : Nat) (S : Nat → Bool) (c : Nat) : List Nat := if S c then [q, c] else [c]
theorem escT_t {c : Nat} (h : S c = true) {T : List (Option Nat)} : (some c :: T).flatMap (escT q S) = some q :: some c :: T.flatMap (escT q S) := by
  rw [List.flatMap_cons, escT, if_pos h]; rfl
theorem escT_f {c : Nat} (h : ¬ S c = true) {T : List (Option Nat)} : (some c :: T).flatMap (escT q S) = some c :: T.flatMap (escT q S) := by
  rw [List.flatMap_cons, escT, if_neg h]; rfl
theorem escT_n {T : List (Option Nat)} : (none :: T).flatMap (escT q S) = none :: T.flatMap (escT q S) := rfl
theorem escC_t {c : Nat} (h : S c = true) {l : List Nat} : (c :: l).flatMap (escC q S) = q :: c :: l.flatMap (escC q S) := by
  rw [List.flatMap_cons, escC, if_pos h]; rfl
theorem escC_f {c : Nat} (h : ¬ S c = true) {l : List Nat} : (c :: l).flatMap (escC q S) = c :: l.flatMap (escC q S) := by
  rw [List.flatMap_cons, escC, if_neg h]; rfl
/-- a written text cut in two -/
theorem esc_cut : ∀ {l a b : List Nat}, l.flatMap (escC q S) = a ++ b → (∃ x y, l = x ++ y ∧ b = y.flatMap (escC q S)) ∨ ∃ x c y, l = x ++ c :: y ∧ S c = true ∧ b = c :: y.flatMap (escC q S)
  | [], a, b, h => by
    have h' : a ++ b = [] := h.symm
    obtain ⟨rfl, rfl⟩ := List.append_eq_nil_iff.mp h'
    exact .inl ⟨[], [], rfl, rfl⟩
  | c :: l, [], b, h => .inl ⟨[], c :: l, rfl, h.symm⟩
  | c :: l, k :: a, b, h => by
    by_cases hc : S c = true
    · rw [escC_t hc, List.cons_append] at h
      have h2 := (List.cons.inj h).2
      clear h
      cases a with
      | nil => exact .inr ⟨[], c, l, rfl, hc, h2.symm⟩
      | cons d a =>
        rw [List.cons_append] at h2
        have h3 := (List.cons.inj h2).2
        rcases esc_cut h3 with ⟨x, y, rfl, e⟩ | ⟨x, d, y, rfl, hd, e⟩
        · exact .inl ⟨c :: x, y, rfl, e⟩
        · exact .inr ⟨c :: x, d, y, rfl, hd, e⟩
    · rw [escC_f hc, List.cons_append] at h
      have h2 := (List.cons.inj h).2
      rcases esc_cut h2 with ⟨x, y, rfl, e⟩ | ⟨x, d, y, rfl, hd, e⟩
      · exact .inl ⟨c :: x, y, rfl, e⟩
      · exact .inr ⟨c :: x, d, y, rfl, hd, e⟩
theorem esc_to : ∀ {T : List (Option Nat)} {l : List Nat}, mt T l = true → mt (T.flatMap (escT q S)) (l.flatMap (escC q S)) = true
  | [], l, h => by rw [mt_nil.mp h]; rfl
  | none :: T, l, h => by
    obtain ⟨a, b, rfl, h2⟩ := mt_none.mp h
    rw [escT_n, List.flatMap_append, mt_none]
    exact ⟨_, _, rfl, esc_to h2⟩
  | some c :: T, l, h => by
    obtain ⟨r, rfl, h2⟩ := mt_some.mp h
    by_cases hc : S c = true
    · rw [escT_t hc, escC_t hc]
      exact mt_some.mpr ⟨_, rfl, mt_some.mpr ⟨_, rfl, esc_to h2⟩⟩
    · rw [escT_f hc, escC_f hc]
      exact mt_some.mpr ⟨_, rfl, esc_to h2⟩
include hq in
theorem esc_from : ∀ (T : List (Option Nat)), (∀ l, mt (T.flatMap (escT q S)) (l.flatMap (escC q S)) = true → mt T l = true) ∧
    ∀ c l, S c = true → mt (T.flatMap (escT q S)) (c :: l.flatMap (escC q S)) = true → mt T (c :: l) = true
  | [] => by
    refine ⟨fun l h => ?_, fun c l _ h => ?_⟩
    · have e : l.flatMap (escC q S) = [] := mt_nil.mp h
      cases l with
      | nil => rfl
      | cons x r =>
        by_cases hx : S x = true
        · rw [escC_t hx] at e; cases e
        · rw [escC_f hx] at e; cases e
    · exact nomatch mt_nil.mp h
  | none :: T => by
    obtain ⟨iA, iB⟩ := esc_from T
    have A : ∀ l, mt ((none :: T).flatMap (escT q S)) (l.flatMap (escC q S)) = true → mt (none :: T) l = true := by
      intro l h
      rw [escT_n] at h
      obtain ⟨a, b, e, h⟩ := mt_none.mp h
      rcases esc_cut e with ⟨x, y, rfl, rfl⟩ | ⟨x, c, y, rfl, hc, rfl⟩
      · exact mt_none.mpr ⟨x, y, rfl, iA _ h⟩
      · exact mt_none.mpr ⟨x, c :: y, rfl, iB _ _ hc h⟩
    refine ⟨A, fun c l hc h => ?_⟩
    rw [escT_n] at h
    obtain ⟨a, b, e, h'⟩ := mt_none.mp h
    cases a with
    | nil =>
      rw [List.nil_append] at e
      subst e
      exact mt_none.mpr ⟨[], c :: l, rfl, iB _ _ hc h'⟩
    | cons d a =>
      rw [List.cons_append] at e
      have e2 := (List.cons.inj e).2
      have := A l (by rw [escT_n, e2]; exact mt_none.mpr ⟨a, b, rfl, h'⟩)
      obtain ⟨x, y, rfl, h2⟩ := mt_none.mp this
      exact mt_none.mpr ⟨c :: x, y, rfl, h2⟩
  | some c :: T => by
    obtain ⟨iA, iB⟩ := esc_from T
    by_cases hc : S c = true
    · rw [escT_t hc]
      refine ⟨fun l h => ?_, fun d l hd h => ?_⟩
      · obtain ⟨r, e, h2⟩ := mt_some.mp h
        obtain ⟨r', e', h3⟩ := mt_some.mp h2
        rw [e'] at e
        clear h h2 e'
        cases l with
        | nil => cases e
        | cons x l =>
          by_cases hx : S x = true
          · rw [escC_t hx] at e
            obtain ⟨-, e⟩ := cons_inj e
            obtain ⟨rfl, rfl⟩ := cons_inj e
            exact mt_some.mpr ⟨_, rfl, iA _ h3⟩
          · rw [escC_f hx] at e
            obtain ⟨rfl, -⟩ := cons_inj e
            exact absurd hq hx
      · obtain ⟨r, e, h2⟩ := mt_some.mp h
        obtain ⟨r', e2, h3⟩ := mt_some.mp h2
        obtain ⟨rfl, e⟩ := cons_inj e
        rw [← e] at e2
        clear h h2 e
        cases l with
        | nil => cases e2
        | cons x l =>
          by_cases hx : S x = true
          · rw [escC_t hx] at e2
            obtain ⟨rfl, e3⟩ := cons_inj e2
            rw [← e3] at h3
            exact mt_some.mpr ⟨_, rfl, iB _ _ hx h3⟩
          · rw [escC_f hx] at e2
            obtain ⟨rfl, -⟩ := cons_inj e2
            exact absurd hc hx
    · rw [escT_f hc]
      refine ⟨fun l h => ?_, fun d l hd h => ?_⟩
      · obtain ⟨r, e, h2⟩ := mt_some.mp h
        clear h
        cases l with
        | nil => cases e
        | cons x l =>
          by_cases hx : S x = true
          · rw [escC_t hx] at e
            obtain ⟨rfl, -⟩ := cons_inj e
            exact absurd hq hc
          · rw [escC_f hx] at e
            obtain ⟨rfl, rfl⟩ := cons_inj e
            exact mt_some.mpr ⟨_, rfl, iA _ h2⟩
      · obtain ⟨r, e, h2⟩ := mt_some.mp h
        obtain ⟨rfl, -⟩ := cons_inj e
        exact absurd hd hc
include hq in
theorem esc_mt (T : List (Option Nat)) (l : List Nat) : mt (T.flatMap (escT q S)) (l.flatMap (escC q S)) = mt T l := by
  rw [Bool.eq_iff_iff]
  exact ⟨(esc_from hq T).1 l, esc_to⟩
end
theorem toks_esc {q : Nat} {S : Nat → Bool} (hq : q ≠ 46) (hS : S 46 = false) : ∀ (n : Nat) (l : List Nat), l.length ≤ n → toks (l.flatMap (escC q S)) = (toks l).flatMap (escT q S)
  | _, [], _ => rfl
  | 0, c :: l, h => absurd h (by simp)
  | n + 1, c :: l, h => by
    have hS' : ¬ S 46 = true := by rw [hS]; decide
    by_cases hd : ∃ r, c :: l = 46 :: 46 :: 46 :: r
    · obtain ⟨r, e⟩ := hd
      rw [e, escC_f hS', escC_f hS', escC_f hS', toks_dots, toks_dots, escT_n, toks_esc hq hS n r (by
        have := congrArg List.length e
        simp only [List.length_cons] at this h
        omega)]
    · have ih := toks_esc hq hS n l (by simpa using h)
      rw [toks_cons hd]
      by_cases hc : S c = true
      · have hc46 : c ≠ 46 := fun e => hS' (e ▸ hc)
        rw [escC_t hc, escT_t hc, toks_cons (by rintro ⟨r, e⟩; exact hq (cons_inj e).1), toks_cons (by rintro ⟨r, e⟩; exact hc46 (cons_inj e).1), ih]
      · rw [escC_f hc, escT_f hc, toks_cons, ih]
        rintro ⟨r, e0⟩
        obtain ⟨rfl, e⟩ := cons_inj e0
        refine hd ?_
        clear e0 hd ih h
        cases l with
        | nil => cases e
        | cons x l =>
          have hx : x = 46 := by
            by_cases hx : S x = true
            · rw [escC_t hx] at e; exact absurd (cons_inj e).1 hq
            · rw [escC_f hx] at e; exact (cons_inj e).1
          subst hx
          rw [escC_f hS'] at e
          have e2 := (cons_inj e).2
          cases l with
          | nil => cases e2
          | cons x l =>
            have hx : x = 46 := by
              by_cases hx : S x = true
              · rw [escC_t hx] at e2; exact absurd (cons_inj e2).1 hq
              · rw [escC_f hx] at e2; exact (cons_inj e2).1
            subst hx
            exact ⟨l, rfl⟩
theorem toks_pre : ∀ {pre l : List Nat}, 46 ∉ pre → toks (pre ++ l) = lits pre ++ toks l
  | [], _, _ => rfl
  | c :: pre, l, h => by
    rw [List.cons_append, toks_cons (by rintro ⟨r, e⟩; exact h ((cons_inj e).1 ▸ List.mem_cons_self ..)), toks_pre fun m => h (.tail _ m)]
    rfl
theorem toks_suf {c : Nat} {suf : List Nat} (hc : c ≠ 46) : ∀ (n : Nat) (l : List Nat), l.length ≤ n → toks (l ++ c :: suf) = toks l ++ toks (c :: suf)
  | _, [], _ => rfl
  | 0, x :: l, h => absurd h (by simp)
  | n + 1, x :: l, h => by
    by_cases hd : ∃ r, x :: l = 46 :: 46 :: 46 :: r
    · obtain ⟨r, e⟩ := hd
      have := congrArg List.length e
      simp only [List.length_cons] at this h
      rw [e]
      simp only [List.cons_append]
      rw [toks_dots, toks_dots, toks_suf hc n r (by omega)]
      rfl
    · rw [List.cons_append, toks_cons hd, toks_cons, toks_suf hc n l (by simpa using h)]
      · rfl
      · rintro ⟨r, e0⟩
        obtain ⟨rfl, e⟩ := cons_inj e0
        clear e0 h
        cases l with
        | nil => exact hc (cons_inj e).1
        | cons y l =>
          rw [List.cons_append] at e
          obtain ⟨rfl, e2⟩ := cons_inj e
          clear e
          cases l with
          | nil => exact hc (cons_inj e2).1
          | cons z l =>
            rw [List.cons_append] at e2
            obtain ⟨rfl, -⟩ := cons_inj e2
            exact hd ⟨l, rfl⟩
theorem row_plain {q : Nat} {S : Nat → Bool} (hS : S q = true) (hq : q ≠ 46) (h46 : S 46 = false) {pre suf : List Nat} {c : Nat} (hpre : 46 ∉ pre) (hc : c ≠ 46) (hsuf : toks (c :: suf) = lits (c :: suf)) (p n : List Nat) :
    mt (toks (pre ++ (p.flatMap (escC q S) ++ c :: suf))) (pre ++ (n.flatMap (escC q S) ++ c :: suf)) = mt (toks p) n := by
  rw [toks_pre hpre, toks_suf hc _ _ (Nat.le_refl _), hsuf, mt_around, toks_esc hq h46 _ _ (Nat.le_refl _), esc_mt hS]
/-- the parts of a pattern between its gaps -/
def core (ws : List (List Nat)) : List (Option Nat) := none :: ws.flatMap fun w => lits w ++ [none]
theorem mt_gap {T : List (Option Nat)} {a b : List Nat} (h : mt (none :: T) b = true) : mt (none :: T) (a ++ b) = true := by
  obtain ⟨x, y, rfl, h2⟩ := mt_none.mp h
  exact mt_none.mpr ⟨a ++ x, y, (List.append_assoc ..).symm, h2⟩
theorem core_cons {w : List Nat} {ws : List (List Nat)} {l : List Nat} : mt (core (w :: ws)) l = true ↔ ∃ a b, l = a ++ (w ++ b) ∧ mt (core ws) b = true := by
  unfold core
  rw [List.flatMap_cons, mt_none]
  constructor
  · rintro ⟨a, b, rfl, h⟩
    rw [List.append_assoc] at h
    obtain ⟨x, y, rfl, hx, hy⟩ := mt_app.mp h
    rw [mt_lits.mp hx]
    exact ⟨a, y, rfl, hy⟩
  · rintro ⟨a, b, rfl, h⟩
    refine ⟨a, _, rfl, ?_⟩
    rw [List.append_assoc]
    exact mt_app.mpr ⟨w, b, rfl, mt_lits.mpr rfl, h⟩
theorem core_nil {l : List Nat} : mt (core []) l = true := mt_none.mpr ⟨l, [], (List.append_nil l).symm, rfl⟩
/-- the first place does -/
theorem core_first {w : List Nat} {ws : List (List Nat)} {a b : List Nat} (hmin : ∀ a' b', a ++ (w ++ b) = a' ++ (w ++ b') → a.length ≤ a'.length) : mt (core (w :: ws)) (a ++ (w ++ b)) = mt (core ws) b := by
  rw [Bool.eq_iff_iff, core_cons]
  constructor
  · rintro ⟨a', b', e, h⟩
    have hl := hmin a' b' e
    have hL := congrArg List.length e
    simp only [List.length_append] at hL
    have e2 : b = b.take (b.length - b'.length) ++ b' := by
      conv => lhs; rw [← List.take_append_drop (b.length - b'.length) b]
      congr 1
      rw [← List.append_assoc, ← List.append_assoc] at e
      have e3 := congrArg (List.drop (a' ++ w).length) e
      rw [List.drop_left, List.drop_append, List.drop_of_length_le (by simp; omega), List.nil_append] at e3
      rw [← e3]
      congr 1
      have e4 := congrArg List.length e3
      simp only [List.length_drop, List.length_append] at e4 ⊢
      omega
    rw [e2]
    unfold core at h ⊢
    exact mt_gap h
  · exact fun h => ⟨a, b, rfl, h⟩
theorem core_skip {ws : List (List Nat)} {l : List Nat} : mt (core ([] :: ws)) l = mt (core ws) l := by
  rw [Bool.eq_iff_iff, core_cons]
  constructor
  · rintro ⟨a, b, rfl, h⟩
    exact mt_gap h
  · exact fun h => ⟨[], l, rfl, h⟩
theorem core_app {vs ws ws' : List (List Nat)} (h : ∀ l, mt (core ws) l = mt (core ws') l) : ∀ l, mt (core (vs ++ ws)) l = mt (core (vs ++ ws')) l := by
  induction vs with
  | nil => exact h
  | cons v vs ih =>
    intro l
    rw [Bool.eq_iff_iff, List.cons_append, List.cons_append, core_cons, core_cons]
    simp only [ih]
/-- a text of literal signs up to a gap -/
theorem toks_upto : ∀ {u v : List Nat}, (∀ k, k < u.length → ¬ ∃ r, (u ++ 46 :: 46 :: 46 :: v).drop k = 46 :: 46 :: 46 :: r) → toks (u ++ 46 :: 46 :: 46 :: v) = lits u ++ none :: toks v
  | [], _, _ => rfl
  | c :: u, v, h => by
    have h0 := h 0 (by simp)
    rw [List.drop_zero, List.cons_append] at h0
    rw [List.cons_append, toks_cons h0, toks_upto fun k hk => h (k + 1) (by simpa using hk)]
    rfl
theorem toks_all : ∀ {u : List Nat}, (∀ k, ¬ ∃ r, u.drop k = 46 :: 46 :: 46 :: r) → toks u = lits u
  | [], _ => rfl
  | c :: u, h => by
    rw [toks_cons (h 0), toks_all fun k => h (k + 1)]
    rfl
def tokP : List (List Nat) → List (Option Nat)
  | [] => []
  | [p] => lits p
  | p :: q :: r => lits p ++ none :: tokP (q :: r)
theorem tokP_core (z : List Nat) : ∀ (a : List Nat) (ms : List (List Nat)), tokP (a :: (ms ++ [z])) = lits a ++ (core ms ++ lits z)
  | a, [] => rfl
  | a, m :: ms => by
    show lits a ++ none :: tokP (m :: (ms ++ [z])) = _
    rw [tokP_core z m ms]
    simp [core]
end Mine
end
section
open PySem PySem.W PyProof.Rows PySem.Builtin PySem.Builtin.Str PySem.StrLaws
set_option maxRecDepth 100000
namespace Mine
abbrev cl (x : Str) : List Nat := x.cps.toList
theorem cl_len (x : Str) : (cl x).length = x.length := by simp [Str.length]
theorem cl_sub (x : Str) (a c : Nat) : cl (strSub x a c) = ((cl x).drop a).take (c - a) := strSub_toList x a c
theorem dots_cl : cl (Str.ofString "...") = [46, 46, 46] := by decide +kernel
theorem dots_len3 : (Str.ofString "...").length = 3 := by decide +kernel
/-- an occurrence, in lists -/
theorem at_iff {x y : Str} {hi i : Nat} (hh : hi ≤ x.length) : At x y hi i ↔ i + y.length ≤ hi ∧ ∃ r, (cl x).drop i = cl y ++ r := by
  unfold At
  refine and_congr_right fun h => ?_
  rw [subAt_eq, beq_iff_eq]
  constructor
  · intro e
    refine ⟨((cl x).drop i).drop y.length, ?_⟩
    conv => lhs; rw [← List.take_append_drop y.length ((cl x).drop i)]
    rw [show cl y = _ from e.symm]
  · rintro ⟨r, e⟩
    rw [show x.cps.toList.drop i = _ from e, ← cl_len y]
    simp
theorem at_dots {x : Str} {i : Nat} : At x (Str.ofString "...") x.length i ↔ ∃ r, (cl x).drop i = 46 :: 46 :: 46 :: r := by
  rw [at_iff (Nat.le_refl _), dots_cl, dots_len3]
  constructor
  · rintro ⟨_, r, e⟩
    exact ⟨r, e⟩
  · rintro ⟨r, e⟩
    refine ⟨?_, r, e⟩
    have := congrArg List.length e
    simp only [List.length_drop, List.length_cons, cl_len] at this
    omega
theorem toks_parts (x : Str) : ∀ (cuts : List Nat) (a f : Nat), a ≤ x.length → ChainG x (Str.ofString "...") x.length a cuts f → (∀ k, f ≤ k → ¬ At x (Str.ofString "...") x.length k) →
    toks ((cl x).drop a) = tokP ((partsFrom x 3 a cuts).map cl)
  | [], a, f, ha, hG, hn => by
    have e : f = a := hG
    subst e
    show _ = lits (cl (strSub x f x.length))
    rw [cl_sub, List.take_of_length_le (by rw [List.length_drop, cl_len]; omega)]
    refine toks_all fun k hk => ?_
    rw [List.drop_drop] at hk
    exact hn (f + k) (by omega) (at_dots.mpr hk)
  | c :: r, a, f, ha, hG, hn => by
    obtain ⟨h1, h2, h3, h4⟩ := hG
    rw [dots_len3] at h4
    have hc := h2.1
    rw [dots_len3] at hc
    have ih := toks_parts x r (c + 3) f hc h4 hn
    obtain ⟨v, hv⟩ := at_dots.mp h2
    have e3 : (cl x).drop (c + 3) = v := by rw [← List.drop_drop, hv]; rfl
    have hd : (cl x).drop a = cl (strSub x a c) ++ 46 :: 46 :: 46 :: v := by
      rw [cl_sub, ← hv]
      conv => lhs; rw [← List.take_append_drop (c - a) ((cl x).drop a)]
      rw [List.drop_drop, Nat.add_sub_cancel' h1]
    have hl : (cl (strSub x a c)).length = c - a := by
      rw [cl_sub, List.length_take, List.length_drop, cl_len]
      omega
    have ht : toks ((cl x).drop a) = lits (cl (strSub x a c)) ++ none :: toks v := by
      rw [hd]
      refine toks_upto fun k hk => ?_
      rw [← hd, List.drop_drop]
      exact fun h => h3 (a + k) (by omega) (by omega) (at_dots.mpr h)
    rw [ht, ← e3, ih]
    obtain ⟨p, q, e⟩ := partsFrom_ne x 3 (c + 3) r
    show _ = tokP (cl (strSub x a c) :: (partsFrom x 3 (c + 3) r).map cl)
    rw [e]
    rfl
theorem kind_dots (x : Str) : ¬ PySem.Builtin.Str.strKind x < PySem.Builtin.Str.strKind (Str.ofString "...") := by
  rw [show PySem.Builtin.Str.strKind (Str.ofString "...") = 1 from by decide +kernel]
  unfold PySem.Builtin.Str.strKind
  split
  · omega
  · split <;> omega
/-- the split of a pattern with a gap -/
theorem split_dots {p : Str} (h : (occurrences p (Str.ofString "...") 0 p.length 1).isEmpty = false) :
    ∃ a ms z, Txt.split p (Str.ofString "...") = a :: (ms ++ [z]) ∧ toks (cl p) = lits (cl a) ++ (core (ms.map cl) ++ lits (cl z)) ∧ (ms ++ [z]).length ≤ p.length + 1 := by
  obtain ⟨f, hG, hn⟩ := occ_tight p (Str.ofString "...") (by rw [dots_len3]; decide)
  have hlim := occ_length_le_len p (Str.ofString "...") 0 p.length (p.length + 1)
  have hp : 3 ≤ p.length := by
    rcases occ_head p (Str.ofString "...") 1 (Nat.le_refl 1) with ⟨h0, _⟩ | ⟨i, r, _, hA, _⟩
    · rw [h0] at h; cases h
    · have := hA.1; rw [dots_len3] at this; omega
  have hne : ¬ (occurrences p (Str.ofString "...") 0 p.length (p.length + 1)).isEmpty = true := by
    rcases occ_head p (Str.ofString "...") (p.length + 1) (by omega) with ⟨h0, hno⟩ | ⟨i, r, h0, _, _⟩
    · exfalso
      rcases occ_head p (Str.ofString "...") 1 (Nat.le_refl 1) with ⟨h0, _⟩ | ⟨i, r, _, hA, _⟩
      · rw [h0] at h; cases h
      · exact hno i hA
    · rw [h0]; exact fun h => nomatch h
  have hs : Txt.split p (Str.ofString "...") = partsFrom p 3 0 (occurrences p (Str.ofString "...") 0 p.length (p.length + 1)) := by
    unfold Txt.split
    rw [if_neg (by rw [Bool.or_eq_true, decide_eq_true_eq, decide_eq_true_eq, dots_len3]; exact fun h => h.elim (by omega) (kind_dots p)), if_neg hne, partsBetween_eq, dots_len3]
  have ht := toks_parts p _ 0 f (Nat.zero_le _) hG hn
  generalize occurrences p (Str.ofString "...") 0 p.length (p.length + 1) = cuts at hs ht hne hlim
  rw [← hs, List.drop_zero] at ht
  have hL : (Txt.split p (Str.ofString "...")).length = cuts.length + 1 := by rw [hs, ← partsBetween_eq, len_partsBetween]
  cases cuts with
  | nil => exact absurd rfl hne
  | cons c r =>
    generalize Txt.split p (Str.ofString "...") = parts at ht hL
    cases parts with
    | nil => simp at hL
    | cons a rest =>
      rcases (List.eq_nil_or_concat rest).imp id (fun ⟨ms, z, e⟩ => (⟨ms, z, e.trans (List.concat_eq_append ..)⟩ : ∃ ms z, rest = ms ++ [z])) with rfl | ⟨ms, z, rfl⟩
      · simp at hL
      · refine ⟨a, ms, z, rfl, ?_, by simp only [List.length_cons] at hL hlim; omega⟩
        rw [ht, List.map_cons, List.map_append]
        exact tokP_core (cl z) (cl a) (ms.map cl)
theorem none_dots {p : Str} (h : (occurrences p (Str.ofString "...") 0 p.length 1).isEmpty = true) : toks (cl p) = lits (cl p) := by
  rcases occ_head p (Str.ofString "...") 1 (Nat.le_refl 1) with ⟨_, hno⟩ | ⟨i, r, h0, hA, _⟩
  · exact toks_all fun k hk => hno k (at_dots.mpr hk)
  · rw [h0] at h; cases h
theorem find_spec (x y : Str) (lo hi : Nat) : (findN x y lo hi = none ∧ ∀ i, lo ≤ i → ¬ At x y hi i) ∨ ∃ i, findN x y lo hi = some i ∧ lo ≤ i ∧ At x y hi i ∧ ∀ k, lo ≤ k → k < i → ¬ At x y hi k := by
  unfold findN
  rw [occ_eq]
  rcases occ_first x y hi 1 (Nat.le_refl 1) (List.range' lo (hi + 1 - lo)) lo (fun i hi => by have := List.mem_range'_1.mp hi; omega) with ⟨h0, hn⟩ | ⟨pre, a, post, e, h0, ha, hn⟩
  · refine .inl ⟨by rw [h0]; rfl, fun i hlo hi => ?_⟩
    exact hn i (by have := hi.1; rw [List.mem_range'_1]; omega) hi
  · have hs := range'_split_from e
    refine .inr ⟨a, ?_, hs.1, ha, fun k hk0 hk => hn k (hs.2 k hk0 hk)⟩
    generalize (forIn (List.range' lo (hi + 1 - lo)) ((#[] : Array Nat), lo) (occBody x y hi 1)).run.fst = arr at h0
    have h1 : arr.toList[0]? = some a := by simpa using h0
    cases hL : arr.toList with
    | nil => rw [hL] at h1; cases h1
    | cons b t => rw [hL] at h1; simp at h1; rw [h1]; rfl
/-- an occurrence within a window -/
theorem at_window {n w : Str} {A W Z : List Nat} (hn : cl n = A ++ (W ++ Z)) {j : Nat} : At n w (A.length + W.length) (A.length + j) ↔ ∃ u v, W = u ++ (cl w ++ v) ∧ u.length = j := by
  have hl := congrArg List.length hn
  simp only [List.length_append, cl_len] at hl
  rw [at_iff (by omega), hn]
  rw [List.drop_append, List.drop_of_length_le (by omega), List.nil_append, Nat.add_sub_cancel_left]
  constructor
  · rintro ⟨h, r, e⟩
    rw [List.drop_append_of_le_length (by omega)] at e
    refine ⟨W.take j, (W.drop j).drop w.length, ?_, by rw [List.length_take]; omega⟩
    conv => lhs; rw [← List.take_append_drop j W]
    congr 1
    conv => lhs; rw [← List.take_append_drop w.length (W.drop j)]
    congr 1
    have := congrArg (List.take (cl w).length) e
    rw [List.take_left, List.take_append_of_le_length (by rw [List.length_drop, cl_len]; omega), cl_len] at this
    exact this
  · rintro ⟨u, v, rfl, rfl⟩
    refine ⟨by simp only [List.length_append, cl_len]; omega, v ++ Z, ?_⟩
    simp
theorem fits_core (n : Str) (Z : List Nat) : ∀ (ws : List Str) (A W : List Nat), cl n = A ++ (W ++ Z) → fitsL n (A.length + W.length) A.length ws = mt (core (ws.map cl)) W
  | [], A, W, _ => by rw [fitsL]; exact core_nil.symm
  | w :: ws, A, W, hn => by
    rw [fitsL, List.map_cons]
    rcases find_spec n w A.length (A.length + W.length) with ⟨h0, hno⟩ | ⟨i, h0, hlo, hA, hmin⟩
    · rw [h0]
      symm
      rw [Bool.eq_false_iff]
      intro h
      obtain ⟨a, b, e, _⟩ := core_cons.mp h
      exact hno _ (Nat.le_add_right _ _) ((at_window hn).mpr ⟨a, b, e, rfl⟩)
    · rw [h0]
      obtain ⟨j, rfl⟩ := Nat.exists_eq_add_of_le hlo
      obtain ⟨u, v, rfl, rfl⟩ := (at_window hn).mp hA
      rw [core_first]
      · have ih := fits_core n Z ws (A ++ (u ++ cl w)) v (by rw [hn]; simp)
        rw [← ih]
        show fitsL _ _ _ _ = _
        congr 1 <;> simp only [List.length_append, cl_len] <;> omega
      · intro a' b' e
        rcases Nat.lt_or_ge a'.length u.length with h | h
        · exact absurd ((at_window hn).mpr ⟨a', b', e, rfl⟩) (hmin (A.length + a'.length) (by omega) (by omega))
        · exact h
theorem core_ends {a z : Str} {ms : List Str} (l : List Nat) : mt (core ((str1 a ++ (ms ++ str1 z)).map cl)) l = mt (core (ms.map cl)) l := by
  have hz : ∀ l, mt (core ((ms ++ str1 z).map cl)) l = mt (core (ms.map cl)) l := by
    intro l
    unfold str1
    split
    · rename_i h
      rw [List.map_append]
      have e : cl z = [] := List.eq_nil_of_length_eq_zero (by rw [cl_len]; exact h)
      have := core_app (vs := ms.map cl) (ws := [cl z]) (ws' := []) (by rw [e]; exact fun l => core_skip) l
      rw [List.append_nil] at this
      exact this
    · rw [List.append_nil]
  unfold str1
  split
  · rename_i h
    have e : cl a = [] := List.eq_nil_of_length_eq_zero (by rw [cl_len]; exact h)
    rw [List.singleton_append, List.map_cons, e, core_skip]
    exact hz l
  · rw [List.nil_append]
    exact hz l
theorem starts_iff {n a : Str} : (a.length = 0 ∨ Txt.startswith n a = true) ↔ ∃ r, cl n = cl a ++ r := by
  constructor
  · rintro (h | h)
    · exact ⟨cl n, by rw [List.eq_nil_of_length_eq_zero (l := cl a) (by rw [cl_len]; exact h), List.nil_append]⟩
    · unfold Txt.startswith at h
      rw [Bool.and_eq_true, decide_eq_true_eq] at h
      obtain ⟨_, r, e⟩ := (at_iff (Nat.le_refl _)).mp h
      exact ⟨r, e⟩
  · rintro ⟨r, e⟩
    refine .inr ?_
    unfold Txt.startswith
    rw [Bool.and_eq_true, decide_eq_true_eq]
    refine (at_iff (Nat.le_refl _)).mpr ⟨?_, r, e⟩
    have := congrArg List.length e
    simp only [List.length_append, cl_len] at this
    omega
theorem ends_iff {n z : Str} : (z.length = 0 ∨ Txt.endswith n z = true) ↔ ∃ r, cl n = r ++ cl z := by
  constructor
  · rintro (h | h)
    · exact ⟨cl n, by rw [List.eq_nil_of_length_eq_zero (l := cl z) (by rw [cl_len]; exact h), List.append_nil]⟩
    · unfold Txt.endswith at h
      rw [Bool.and_eq_true, decide_eq_true_eq] at h
      have hle := h.1
      obtain ⟨_, r, e⟩ := (at_iff (x := n) (y := z) (i := n.length - z.length) (Nat.le_refl _)).mp ⟨by omega, h.2⟩
      refine ⟨(cl n).take (n.length - z.length), ?_⟩
      have hr : r = [] := by
        have := congrArg List.length e
        simp only [List.length_append, List.length_drop, cl_len] at this
        exact List.eq_nil_of_length_eq_zero (by omega)
      rw [hr, List.append_nil] at e
      conv => lhs; rw [← List.take_append_drop (n.length - z.length) (cl n), e]
  · rintro ⟨r, e⟩
    refine .inr ?_
    have hl := congrArg List.length e
    simp only [List.length_append, cl_len] at hl
    unfold Txt.endswith
    rw [Bool.and_eq_true, decide_eq_true_eq]
    refine ⟨by omega, ((at_iff (x := n) (y := z) (i := n.length - z.length) (Nat.le_refl _)).mpr ⟨by omega, [], ?_⟩).2⟩
    rw [e, List.append_nil, show n.length - z.length = r.length by omega, List.drop_left]
theorem ellV_mt {n a z : Str} {ms : List Str} : ellV n a z ms = mt (lits (cl a) ++ (core (ms.map cl) ++ lits (cl z))) (cl n) := by
  rw [Bool.eq_iff_iff]
  constructor
  · intro h
    unfold ellV at h
    split at h
    · rename_i h1
      split at h
      · rename_i h2
        split at h
        · cases h
        · rename_i h3
          obtain ⟨r, e1⟩ := starts_iff.mp h1
          obtain ⟨r2, e2⟩ := ends_iff.mp h2
          have l1 := congrArg List.length e1
          have l2 := congrArg List.length e2
          simp only [List.length_append, cl_len] at l1 l2
          have e3 : r = r.take (r.length - z.length) ++ cl z := by
            conv => lhs; rw [← List.take_append_drop (r.length - z.length) r]
            congr 1
            have := congrArg (List.drop r2.length) (e1.symm.trans e2)
            rw [List.drop_left, List.drop_append, List.drop_of_length_le (by rw [cl_len]; omega), List.nil_append, cl_len] at this
            rw [← this]
            congr 1
            omega
          generalize r.take (r.length - z.length) = W at e3
          subst e3
          have l3 : n.length = a.length + W.length + z.length := by
            simp only [List.length_append, cl_len] at l1
            omega
          have := fits_core n (cl z) (str1 a ++ (ms ++ str1 z)) (cl a) W e1
          rw [cl_len, core_ends] at this
          rw [show n.length - z.length = a.length + W.length by omega, this] at h
          rw [e1]
          exact mt_app.mpr ⟨cl a, W ++ cl z, rfl, mt_lits.mpr rfl, mt_app.mpr ⟨W, cl z, rfl, h, mt_lits.mpr rfl⟩⟩
      · cases h
    · cases h
  · intro h
    obtain ⟨x, y, e, hx, hy⟩ := mt_app.mp h
    obtain ⟨W, y2, rfl, hW, hz⟩ := mt_app.mp hy
    rw [mt_lits.mp hx, mt_lits.mp hz] at e
    have l1 := congrArg List.length e
    simp only [List.length_append, cl_len] at l1
    unfold ellV
    rw [if_pos (starts_iff.mpr ⟨_, e⟩), if_pos (ends_iff.mpr ⟨cl a ++ W, by rw [e, List.append_assoc]⟩), if_neg (by omega)]
    have := fits_core n (cl z) (str1 a ++ (ms ++ str1 z)) (cl a) W e
    rw [cl_len, core_ends] at this
    rw [show n.length - z.length = a.length + W.length by omega, this]
    exact hW
theorem str_eq {p n : Str} : (p == n) = mt (lits (cl p)) (cl n) := by
  rw [Bool.eq_iff_iff, beq_iff_eq, mt_lits]
  exact ⟨fun h => by rw [h], fun h => (str_ext h).symm⟩
end Mine
end
section
open PySem PySem.W PyProof.Rows
namespace Mine
theorem rowS_len {k : Int} {x tail : Str} {b : Nat} (hx : x.length ≤ b) (ht : tail.length ≤ 5) : (rowS k x tail).length ≤ 2 * b + 16 := by
  have l1 : ∀ a c : Str, (a ++ c).length = a.length + c.length := fun a c => by
    have := congrArg List.length (app_cps a c)
    simpa [Str.length] using this
  have b1 := bodyS_len 34 S0 x
  have b2 := bodyS_len 92 Sb x
  have b3 := bodyS_len 92 Sq x
  unfold rowS
  split
  · rw [l1, l1, l1]
    have e1 : (Str.ofString "257 \"").length = 5 := by decide +kernel
    have e2 : (Str.ofString "\"").length = 1 := by decide +kernel
    omega
  · split
    · rw [l1, l1]
      have e1 : (Str.ofString "k").length = 1 := by decide +kernel
      have e2 : (Str.ofString " ").length = 1 := by decide +kernel
      omega
    · split
      · rw [l1, l1]
        have e2 : (Str.ofString "\"").length = 1 := by decide +kernel
        omega
      · rw [l1, l1, l1]
        have e1 : (Str.ofString "# ").length = 2 := by decide +kernel
        have e2 : (Str.ofString "\"").length = 1 := by decide +kernel
        omega
/-- what `_ellipsis_match` answers -/
def ellB (p n : Str) : Bool := mt (toks p.cps.toList) n.cps.toList
theorem Spec.mono {w : World} {f : Addr} {d : Nat} {args : List Value} {news : Led} {P P' : Value → Led → Prop} (S : Spec w f d args news P) (h : ∀ v n, P v n → P' v n) : Spec w f d args news P' :=
  fun loose mean mg mb dp un gd cn cs a ccd cl outer A₀ base h₀ L m s Q E h1 h2 h3 h4 h5 h6 h7 h8 h9 hq =>
    S loose mean mg mb dp un gd cn cs a ccd cl outer A₀ base h₀ L m s Q E h1 h2 h3 h4 h5 h6 h7 h8 h9 fun v n h' tk hp => hq v n h' tk (h v n hp)
theorem ell_mt (p n : Str) (t u : Tok) (news : Led) {w : World} (hp : p.length ≤ 2 ^ 16) (hn : n.length ≤ 2 ^ 16) : Spec w 28 3 [.str p t, .str n u] news (fun v news' => v = .bool (ellB p n) ∧ news' = news) := by
  have hp' : p.length ≤ 2 ^ 20 := by omega
  have hn' : n.length ≤ 2 ^ 20 := by omega
  cases hoc : (Builtin.Str.occurrences p (Str.ofString "...") 0 p.length 1).isEmpty with
  | true =>
    have h1 : ([] ++ [p] : List Str).length < sizeLine := by rw [sizeLine_eq, List.nil_append, List.length_singleton]; decide
    refine (ell_ok p n t u news hp' hn' p p [] (fun h => by rw [hoc] at h; cases h) h1).mono ?_
    rintro v nw ⟨rfl, rfl⟩
    refine ⟨?_, rfl⟩
    rw [if_pos hoc]
    unfold ellB
    rw [none_dots hoc]
    exact congrArg Value.bool str_eq
  | false =>
    obtain ⟨a, ms, z, hs, ht, hl⟩ := split_dots hoc
    refine (ell_ok p n t u news hp' hn' a z ms (fun _ => hs) (by rw [sizeLine_eq]; omega)).mono ?_
    rintro v nw ⟨rfl, rfl⟩
    refine ⟨?_, rfl⟩
    rw [if_neg (by rw [hoc]; decide), ellV_mt]
    unfold ellB
    rw [ht]
theorem row_mt {k : Int} (p n tail : Str) (ht : tail = Str.ofString "" ∨ tail = Str.ofString " made" ∨ tail = Str.ofString " \"x\"" ∨ tail = Str.ofString "..") : ellB (rowS k p tail) (rowS k n tail) = ellB p n := by
  unfold ellB
  by_cases h0 : k = 0
  · subst h0
    rw [rowS_0, rowS_0]
    refine row_plain (S := S0) (by decide) (by decide) (by decide) (by decide) (by decide) ?_ _ _
    rcases ht with rfl | rfl | rfl | rfl <;> decide +kernel
  · by_cases h2 : k = 2
    · subst h2
      rw [rowS_2, rowS_2]
      exact row_plain (S := Sb) (pre := [107]) (by decide) (by decide) (by decide) (by decide) (by decide) (by decide +kernel) _ _
    · by_cases h1 : k = 1
      · subst h1
        rw [rowS_1, rowS_1]
        exact row_plain (S := Sq) (pre := [34]) (by decide) (by decide) (by decide) (by decide) (by decide) (by decide +kernel) _ _
      · rw [rowS_3 h0 h1 h2, rowS_3 h0 h1 h2]
        exact row_plain (S := Sq) (pre := [35, 32, 34]) (by decide) (by decide) (by decide) (by decide) (by decide) (by decide +kernel) _ _
end Mine
end
section
open PySem PySem.W PyProof.Rows PySem.Calls PySem.Spec
set_option maxRecDepth 100000
set_option maxHeartbeats 8000000
namespace Mine

variable {w : World}
local macro_rules | `(tactic| walk_at "eval Name") => `(tactic| (k_here; k_dflt (refine' ld ?k1 ?k2 ?_; (case k1 => k_asm); (case k2 => first | exact rfl | assumption); k_whole)))
local macro_rules | `(tactic| walk_at "loadName") => `(tactic| (k_here; k_dflt (refine' ldn ?k1 ?k2 ?_; (case k1 => k_asm); (case k2 => first | exact rfl | assumption); k_whole)))
local macro_rules | `(tactic| walk_at "execs cons") => `(tactic| (k_here; refine gen_tok ?gtk ?_; (case gtk => (fail_if_success assumption); omega); intro tk htk))
local macro_rules | `(tactic| walk_at "execs nil") => `(tactic| (k_here; refine gen_tok ?gtk ?_; (case gtk => (fail_if_success assumption); omega); intro tk htk))
local macro_rules | `(tactic| walk_at "ite") => `(tactic| first | (with_reducible refine ite_at_f (by assumption) ?_) | (with_reducible refine ite_at_t (by assumption) ?_))

theorem tab_off {h₀ h : Heap} {L I KL : Addr} {oJ : Obj} {i : Nat} {st news : Led} (hst : TabSt st) (hI : I ≠ 135) (hJ : IsLi oJ KL i) (N : News h₀ L h (st ++ (I, oJ) :: news)) : ∀ p ∈ st, p.1 ≠ I := by
  intro p hp e
  have a1 := (N p (List.mem_append_left _ hp)).1
  have a2 := (N (I, oJ) (List.mem_append_right _ (.head _))).1
  rw [e, a2] at a1
  cases hst with
  | fresh =>
    rw [List.mem_singleton.mp hp] at e
    exact hI e.symm
  | used hd hv hc =>
    rcases List.mem_cons.mp hp with rfl | hp
    · cases a1
      rw [hJ.2] at hd
      cases hd
      cases hv
    · rw [List.mem_singleton.mp hp] at e
      exact hI e.symm
inductive InvK (KL I : Addr) (news : Led) (tail : Str) (tt : Tok) (d : Bool) (g' : Heap) (L' : Addr) (s : Shared) (k : Nat) (s' : Shared) : Prop
  | mk (i : Nat) (st2 : Led) (p2 n2 : Str) (m5 : Str → Option Value) (h5 : Heap) (tk5 : Nat) (oI : Obj) (t1 t2 : Tok)
    (e0 : s' = { s with heap := h5, toks := tk5 })
    (e1 : 1 ≤ tk5)
    (e2 : k = 3 - i)
    (e3 : i ≤ 3)
    (e4 : TabSt st2)
    (e5 : Fr g' L' h5 m5)
    (e6 : News g' L' h5 ((I, oI) :: (st2 ++ news)))
    (e7 : (∀ p ∈ st2, p.1 ≠ I))
    (e8 : IsLi oI KL i)
    (e9 : m5 (Str.ofString "tail") = some (.str tail tt))
    (e10 : m5 (Str.ofString "pattern") = some (.str p2 t1))
    (e11 : m5 (Str.ofString "name") = some (.str n2 t2))
    (e12 : m5 (Str.ofString "due") = some (.bool d))
    (e13 : p2.length ≤ 100 * 3 ^ i)
    (e14 : n2.length ≤ 100 * 3 ^ i)
    (e15 : ellB p2 n2 = d) : InvK KL I news tail tt d g' L' s k s'
theorem tower_ok (k0 k1 k2 : Nat) (u0 u1 u2 : Tok) (KL : Addr) (kn : Nat) (tail p n : Str) (d : Bool) (tt tp tn : Tok) (st news : Led) (hst : TabSt st) (hn : ∀ p ∈ news, p.1 ≠ 135)
    (hm : (KL, listOf (intVals [(k0, u0), (k1, u1), (k2, u2)]).toArray kn) ∈ news) (hk0 : k0 ≤ 3) (hk1 : k1 ≤ 3) (hk2 : k2 ≤ 3) (hp : p.length ≤ 64) (hnl : n.length ≤ 64)
    (ht : tail = Str.ofString "" ∨ tail = Str.ofString " made" ∨ tail = Str.ofString " \"x\"" ∨ tail = Str.ofString "..") (hd : ellB p n = d) :
    SpecT w 152 26 [.ref KL, .str tail tt, .str p tp, .str n tn, .bool d] (st ++ news) (fun v news' => ∃ st', TabSt st' ∧ v = .bool true ∧ news' = st' ++ news) := by
  have htl : tail.length ≤ 5 := by rcases ht with rfl | rfl | rfl | rfl <;> decide +kernel
  have hth : tail.cps.toList.head? ≠ some 34 := by rcases ht with rfl | rfl | rfl | rfl <;> decide +kernel
  unfold SpecT
  w_top off
  k_fill
  intro loose mean mg mb dp un gd cn cs a ccd cl outer A₀ base h₀ L m s Q E h1 h2 h3 h4 h5 codeHd0 h6 h8 h9 htk0 hret
  k_dflt cell_enter
  rename_i g' L' h' FG F N B X' T
  have codeHd := CodeHd.keeps codeHd0 FG.keep
  repeat' ((fail_if_success (with_reducible show wpAny _ _ (exec (Stmt.For _ _ _ _ _) _) _ _ _)); first | (k_unfold; (try dsimp only)) | (k_end; kc_close) | walk1 | (dsimp only; walk1) | fail "no step")
  refine for_over ?_
  repeat' ((fail_if_success (with_reducible show wpAny _ _ (pyIter _) _ _ _)); first | (k_unfold; (try dsimp only)) | (k_end; kc_close) | walk1 | (dsimp only; walk1) | fail "no step")
  rename News g' L' _ _ => N6
  rename Fr g' L' _ _ => F6
  refine li_iter (xs := intVals [(k0, u0), (k1, u1), (k2, u2)]) F6 N6 (List.mem_append_right _ hm) rfl rfl fun I oI h4x hI hfr F6' N6' => ?_
  clear F6 N6
  have hI5 : I ≠ 135 := by
    cases hst with
    | fresh => exact fun e => hfr (135, _) (List.mem_append_left _ (.head _)) e.symm
    | used _ _ _ => exact fun e => hfr (135, _) (List.mem_append_left _ (.tail _ (.head _))) e.symm
  have hfn : ∀ p ∈ news, p.1 ≠ I := fun p hp => hfr p (List.mem_append_right _ hp)
  refine hid 3 (InvK KL I news tail tt d g' L' s) ⟨0, st, p, n, _, _, _, oI, _, _, rfl, ?_, rfl, Nat.zero_le _, hst, F6', N6', fun p hp => hfr p (List.mem_append_left _ hp), hI, rfl, rfl, rfl, rfl, by omega, by omega, hd⟩ fun Jv hJv => ?_
  · (try dsimp only); omega
  · clear F6' N6' hI hfr
    rintro k s' ⟨i, st2, p2, n2, m5, h5, tk5, oJ, t1, t2, rfl, htk5, rfl, hi, hst2, F7, N7, hst2I, hJ, hg1, hg2, hg3, hg4, hpl, hnl2, hdd⟩
    refine li_next rfl F7 N7 hJ (fun p hp => (List.mem_append.mp hp).elim (hst2I p) (hfn p)) (List.mem_append_right _ hm) rfl rfl (fun x r oJ' h6x hdrop hJ' F8 N8 => ?_) (fun h6x hdrop F8 N8 => ?_)
    · clear F7 N7
      have hx : ∃ k u, k ≤ 3 ∧ x = .int (k : Nat) u ∧ i < 3 := by
        have hmem : x ∈ intVals [(k0, u0), (k1, u1), (k2, u2)] := List.mem_of_mem_drop (hdrop ▸ List.mem_cons_self ..)
        have hlen := congrArg List.length hdrop
        simp only [List.length_drop, List.length_map, List.length_cons, List.length_nil] at hlen
        obtain ⟨⟨k, u⟩, hq, rfl⟩ := List.mem_map.mp hmem
        refine ⟨k, u, ?_, rfl, by omega⟩
        simp only [List.mem_cons, List.not_mem_nil, or_false, Prod.mk.injEq] at hq
        rcases hq with ⟨rfl, _⟩ | ⟨rfl, _⟩ | ⟨rfl, _⟩ <;> assumption
      obtain ⟨k, uk, hk3, rfl, hi3⟩ := hx
      obtain ⟨b, hb⟩ : ∃ b, b = 100 * 3 ^ i := ⟨_, rfl⟩
      have hb2 : 100 * 3 ^ (i + 1) = 3 * b := by rw [hb, Nat.pow_succ]; omega
      have hb1 : 100 ≤ b ∧ b ≤ 900 := by
        rw [hb]
        rcases (by omega : i = 0 ∨ i = 1 ∨ i = 2) with rfl | rfl | rfl <;> decide
      rw [← hb] at hpl hnl2
      have r1 := rowS_len (k := k) hpl htl
      have r2 := rowS_len (k := k) hnl2 htl
      have hmt := row_mt (k := k) p2 n2 tail ht
      have hu : p2.length ≤ 2 ^ 16 := by omega
      have hv : n2.length ≤ 2 ^ 16 := by omega
      have hk03 : (0 : Int) ≤ (k : Int) ∧ (k : Int) ≤ 3 := by omega
      clear hdrop hJ
      obtain ⟨U, hU⟩ : ∃ U, U = rowS (k : Int) p2 tail := ⟨_, rfl⟩
      obtain ⟨V, hV⟩ : ∃ V, V = rowS (k : Int) n2 tail := ⟨_, rfl⟩
      rw [← hU] at r1 hmt
      rw [← hV] at r2 hmt
      have hUV := hmt.trans hdd
      repeat' ((fail_if_success (with_reducible show wpAny _ _ (PySem.call (.ref 133) _) _ _ _)); (fail_if_success (with_reducible show wpAny _ _ (PySem.call (.ref 145) _) _ _ _)); (fail_if_success (with_reducible show wpAny _ _ (PySem.call (.ref 28) _) _ _ _)); first | (k_unfold; (try dsimp only)) | (k_end; kc_close) | walk1 | (dsimp only; walk1) | fail "no step")
      rename News g' L' _ _ => NN
      rename Fr g' L' _ _ => FF
      (try dsimp only)
      k_dflt (refine' (row_ok (k : Int) p2 tail _ _ _ _ hk03 hu (by omega)).use ?Ba FF ?Ka NN ?Ta codeHd ?ka ?da ?ua ?ta ?ha)
      case Ba => k_asm
      case Ka => k_asm
      case Ta => k_asm
      case ka => rfl
      case da => ktr_room
      case ua => ktr_units
      case ta => (try dsimp only); omega
      case ha =>
      rintro v0 news0 h0 tk0 htk0' ⟨ta, hv0, rfl⟩ F3 N3
      rw [← hU] at hv0
      subst hv0
      clear FF NN
      repeat' ((fail_if_success (with_reducible show wpAny _ _ (PySem.call (.ref 133) _) _ _ _)); (fail_if_success (with_reducible show wpAny _ _ (PySem.call (.ref 145) _) _ _ _)); (fail_if_success (with_reducible show wpAny _ _ (PySem.call (.ref 28) _) _ _ _)); first | (k_unfold; (try dsimp only)) | (k_end; kc_close) | walk1 | (dsimp only; walk1) | fail "no step")
      rename News g' L' _ _ => NN
      rename Fr g' L' _ _ => FF
      (try dsimp only)
      k_dflt (refine' (row_ok (k : Int) n2 tail _ _ _ _ hk03 hv (by omega)).use ?Bb FF ?Kb NN ?Tb codeHd ?kb ?db ?ub ?tb ?hb)
      case Bb => k_asm
      case Kb => k_asm
      case Tb => k_asm
      case kb => rfl
      case db => ktr_room
      case ub => ktr_units
      case tb => (try dsimp only); omega
      case hb =>
      rintro v0 news0 h0 tk0 htk0' ⟨tb, hv0, rfl⟩ F3 N3
      rw [← hV] at hv0
      subst hv0
      clear FF NN
      repeat' ((fail_if_success (with_reducible show wpAny _ _ (PySem.call (.ref 133) _) _ _ _)); (fail_if_success (with_reducible show wpAny _ _ (PySem.call (.ref 145) _) _ _ _)); (fail_if_success (with_reducible show wpAny _ _ (PySem.call (.ref 28) _) _ _ _)); first | (k_unfold; (try dsimp only)) | (k_end; kc_close) | walk1 | (dsimp only; walk1) | fail "no step")
      rename News g' L' _ _ => NN
      rename Fr g' L' _ _ => FF
      (try dsimp only)
      k_dflt (refine' (back_ok (k : Int) p2 tail U _ _ _ st2 ((I, oJ') :: news) hst2 (List.forall_mem_cons.mpr ⟨hI5, hn⟩) hk03 hu (by omega) hth hU (by omega)).useT ?Bc FF ?Kc (News.sub NN ?sub1) ?Tc codeHd ?kc ?dc ?uc ?tc ?hc)
      case Bc => k_asm
      case Kc => k_asm
      case Tc => k_asm
      case kc => rfl
      case dc => ktr_room
      case uc => ktr_units
      case tc => (try dsimp only); omega
      case sub1 =>
        intro p hp
        rcases List.mem_append.mp hp with hp | hp
        · exact .tail _ (List.mem_append_left _ hp)
        · rcases List.mem_cons.mp hp with rfl | hp
          · exact .head _
          · exact .tail _ (List.mem_append_right _ hp)
      case hc =>
      rintro v0 news0 h0 tk0 htk0' ⟨st3, hst3, rfl, rfl⟩ F3 N3
      clear FF NN
      repeat' ((fail_if_success (with_reducible show wpAny _ _ (PySem.call (.ref 133) _) _ _ _)); (fail_if_success (with_reducible show wpAny _ _ (PySem.call (.ref 145) _) _ _ _)); (fail_if_success (with_reducible show wpAny _ _ (PySem.call (.ref 28) _) _ _ _)); first | (k_unfold; (try dsimp only)) | (k_end; kc_close) | walk1 | (dsimp only; walk1) | fail "no step")
      rename News g' L' _ _ => NN
      rename Fr g' L' _ _ => FF
      (try dsimp only)
      k_dflt (refine' (back_ok (k : Int) n2 tail V _ _ _ st3 ((I, oJ') :: news) hst3 (List.forall_mem_cons.mpr ⟨hI5, hn⟩) hk03 hv (by omega) hth hV (by omega)).useT ?Be FF ?Ke NN ?Te codeHd ?ke ?de ?ue ?te ?he)
      case Be => k_asm
      case Ke => k_asm
      case Te => k_asm
      case ke => rfl
      case de => ktr_room
      case ue => ktr_units
      case te => (try dsimp only); omega
      case he =>
      rintro v0 news0 h0 tk0 htk0' ⟨st4, hst4, rfl, rfl⟩ F3 N3
      clear FF NN
      repeat' ((fail_if_success (with_reducible show wpAny _ _ (PySem.call (.ref 133) _) _ _ _)); (fail_if_success (with_reducible show wpAny _ _ (PySem.call (.ref 145) _) _ _ _)); (fail_if_success (with_reducible show wpAny _ _ (PySem.call (.ref 28) _) _ _ _)); first | (k_unfold; (try dsimp only)) | (k_end; kc_close) | walk1 | (dsimp only; walk1) | fail "no step")
      rename News g' L' _ _ => NN
      rename Fr g' L' _ _ => FF
      (try dsimp only)
      k_dflt (refine' (ell_mt U V _ _ _ (by omega) (by omega)).useT ?Bf FF ?Kf NN ?Tf codeHd ?kf ?df ?uf ?tf ?hf)
      case Bf => k_asm
      case Kf => k_asm
      case Tf => k_asm
      case kf => rfl
      case df => ktr_room
      case uf => ktr_units
      case tf => (try dsimp only); omega
      case hf =>
      rintro v0 news0 h0 tk0 htk0' ⟨hv0, rfl⟩ F3 N3
      clear FF NN
      rw [hUV] at hv0
      subst hv0
      k_steps
      · exfalso
        simp_all
      · rename News g' L' _ _ => N9
        rename Fr g' L' _ _ => F9
        refine ⟨3 - (i + 1), by omega, hJv _ _ ⟨i + 1, st4, U, V, _, _, _, oJ', _, _, rfl, by (try dsimp only); omega, rfl, by omega, hst4, F9, News.sub N9 ?sub2, ?ne, hJ', hg1, rfl, rfl, hg4, by omega, by omega, hmt.trans hdd⟩⟩
        case sub2 =>
          intro p hp
          rcases List.mem_cons.mp hp with rfl | hp
          · exact List.mem_append_right _ (List.mem_cons_self ..)
          · rcases List.mem_append.mp hp with hp | hp
            · exact List.mem_append_left _ hp
            · exact List.mem_append_right _ (.tail _ hp)
        case ne => exact tab_off hst4 hI5 hJ' N9
    · clear F7 N7
      k_steps
      rename News h₀ L _ _ => kN
      rename Fr h₀ L _ _ => kF
      exact hret _ _ _ _ ⟨st2, hst2, rfl, rfl⟩ kF kN
end Mine
end
section
open PySem PySem.W PyProof.Rows PySem.Calls PySem.Spec
set_option maxRecDepth 100000
set_option maxHeartbeats 8000000
namespace Mine

variable {w : World}
local macro_rules | `(tactic| walk_at "eval Name") => `(tactic| (k_here; k_dflt (refine' ld ?k1 ?k2 ?_; (case k1 => k_asm); (case k2 => first | exact rfl | assumption); k_whole)))
local macro_rules | `(tactic| walk_at "loadName") => `(tactic| (k_here; k_dflt (refine' ldn ?k1 ?k2 ?_; (case k1 => k_asm); (case k2 => first | exact rfl | assumption); k_whole)))
local macro_rules | `(tactic| walk_at "ite") => `(tactic| first | (with_reducible refine ite_at_f (by assumption) ?_) | (with_reducible refine ite_at_t (by assumption) ?_))

theorem tup_item {prog : Program} {w : World} {A : Around} {E : Value → Shared → Prop} {s : Shared} {h₀ : Heap} {L : Addr} {news : Led} {value slice : Expr} {a : Addr} {lo : Obj} {l : List Value} {n : Nat} {k : Int} {u : Tok} {Q : Value → Shared → Prop}
    (N : News h₀ L s.heap news) (hm : (a, lo) ∈ news) (hc : lo.cls = .type "tuple") (hd : lo.data = .seq l.toArray n) (h0 : 0 ≤ k) (h1 : k < (l.length : Int)) (hl : l.length ≤ 100) (hall : ∀ v ∈ l, ∃ (x : Str) (t : Tok), v = .str x t ∧ x.length ≤ 1)
    (h : ∀ (x : Str) (t : Tok), x.length ≤ 1 → Q (.str x t) s)
    (hs : subscripted slice false (.ref a) (.int k u) = operate [.ref a, .int k u] (getItem (.ref a) (.int k u)) := by with_unfolding_all rfl) :
    wpAny (model prog w) A (subscriptTail value slice (.ref a) (.int k u)) Q E s := by
  obtain ⟨j, rfl⟩ := Int.eq_ofNat_of_zero_le h0
  have hj : j < l.length := by omega
  obtain ⟨x, t, hx, hxl⟩ := hall _ (List.getElem_mem hj)
  have ht : IsTup s.heap a l.toArray := ⟨lo, (N _ hm).1, hc, n, hd⟩
  have hn : ((j : Nat) : Int) < ((l.toArray.size : Nat) : Int) := by rw [List.size_toArray]; omega
  exact tail_any ht.typeIs slot_tuple_getitem.lookup (getItem_tuple ht (by omega) (by omega) (seqIndex_of h0 hn) (x := .str x t) (by rw [List.getElem?_toArray]; exact (List.getElem?_eq_getElem hj).trans (congrArg some hx)) (h x t hxl)) hs
theorem sign_ok (r : Int) (t : Tok) (news : Led) (hr : 0 ≤ r ∧ r < 10 ^ 8) :
    Spec w 116 3 [.int r t] news (fun v news' => ∃ (x : Str) (t : Tok), v = .str x t ∧ x.length ≤ 1 ∧ news' = news) := by
  unfold Spec
  w_top off
  k_fill
  intro loose mean mg mb dp un gd cn cs a ccd cl outer A₀ base h₀ L m s Q E h1 h2 h3 h4 h5 codeHd0 h6 h8 h9 hret
  k_dflt cell_enter
  rename_i g' L' h' FG F N B X' T
  have codeHd := CodeHd.keeps codeHd0 FG.keep
  repeat' ((fail_if_success (with_reducible show wpAny _ _ (subscriptTail _ _ _ _) _ _ _)); first | (k_unfold; (try dsimp only)) | (k_end; kc_close) | walk1 | (dsimp only; walk1) | fail "no step")
  rename News g' L' _ _ => N1
  refine tup_item N1 (List.mem_cons_self ..) rfl rfl ?_ ?_ (by simp) ?_ (fun x t hx => ?_)
  · rw [Int.fmod_eq_emod_of_nonneg _ (by decide)]; omega
  · rw [Int.fmod_eq_emod_of_nonneg _ (by decide)]
    show r % 9 < (9 : Int)
    omega
  · intro v hv
    simp only [List.mem_cons, List.not_mem_nil, or_false] at hv
    rcases hv with rfl | rfl | rfl | rfl | rfl | rfl | rfl | rfl | rfl
    all_goals first | exact ⟨_, _, rfl, by decide +kernel⟩ | exact ⟨_, _, rfl, Nat.le_refl 1⟩ | skip
  · k_steps
    rename News h₀ L _ _ => kN
    rename Fr h₀ L _ _ => kF
    exact hret _ _ _ _ ⟨x, t, rfl, hx, rfl⟩ kF (News.sub kN fun p hp => .tail _ hp)
end Mine
end
section
open PySem PySem.W PyProof.Rows PySem.Calls PySem.Spec
set_option maxRecDepth 100000
set_option maxHeartbeats 8000000
namespace Mine
local macro_rules | `(tactic| walk_at "pad of mine") => `(tactic| fail "pad")
variable {w : World}
local macro_rules | `(tactic| walk_at "eval Name") => `(tactic| (k_here; k_dflt (refine' ld ?k1 ?k2 ?_; (case k1 => k_asm); (case k2 => first | exact rfl | assumption); k_whole)))
local macro_rules | `(tactic| walk_at "loadName") => `(tactic| (k_here; k_dflt (refine' ldn ?k1 ?k2 ?_; (case k1 => k_asm); (case k2 => first | exact rfl | assumption); k_whole)))
local macro_rules | `(tactic| walk_at "ite") => `(tactic| first | (with_reducible refine ite_at_f (by assumption) ?_) | (with_reducible refine ite_at_t (by assumption) ?_))

theorem app_len (a c : Str) : (a ++ c).length = a.length + c.length := by
  have := congrArg List.length (app_cps a c)
  simpa [Str.length] using this
theorem dots_len : (Str.ofString "...").length = 3 := by decide +kernel
inductive CutD (g' : Heap) (L' : Addr) (led : Led) (s : Shared) (zk zr : Int) (bp bn : Nat) (f : Flow) (s' : Shared) : Prop
  | mk (ef : f = .next) (p3 n3 : Str) (m : Str → Option Value) (h : Heap) (tk : Nat) (t1 t2 t3 t4 : Tok)
    (e0 : s' = { s with heap := h, toks := tk })
    (e1 : Fr g' L' h m)
    (e2 : News g' L' h led)
    (e3 : m (Str.ofString "pattern") = some (.str p3 t1))
    (e4 : m (Str.ofString "name") = some (.str n3 t2))
    (e5 : m (Str.ofString "kind") = some (.int zk t3))
    (e6 : m (Str.ofString "rest") = some (.int zr t4))
    (e7 : p3.length ≤ bp)
    (e8 : n3.length ≤ bn) : CutD g' L' led s zk zr bp bn f s'
inductive InvW (vs : List Value) (KL I : Addr) (news : Led) (g' : Heap) (L' : Addr) (s : Shared) (k : Nat) (s' : Shared) : Prop
  | mk (i : Nat) (p2 n2 : Str) (m5 : Str → Option Value) (h5 : Heap) (tk5 : Nat) (oI : Obj) (t1 t2 : Tok)
    (e0 : s' = { s with heap := h5, toks := tk5 })
    (e1 : k = vs.length - i)
    (e2 : i ≤ vs.length)
    (e3 : Fr g' L' h5 m5)
    (e4 : News g' L' h5 ((I, oI) :: news))
    (e5 : IsLi oI KL i)
    (e6 : m5 (Str.ofString "pattern") = some (.str p2 t1))
    (e7 : m5 (Str.ofString "name") = some (.str n2 t2))
    (e8 : p2.length ≤ 3 * i)
    (e9 : n2.length ≤ 2 * i) : InvW vs KL I news g' L' s k s'
theorem drawn_ok (KL : Addr) (vs : List Value) (kn : Nat) (o : Obj) (news : Led) (hm : (KL, o) ∈ news) (hc : o.cls = .type "list") (hdat : o.data = .seq vs.toArray kn) (hvl : vs.length ≤ 7)
    (hvs : ∀ v ∈ vs, ∃ (z : Int) (t : Tok), v = .int z t ∧ 0 ≤ z ∧ z < 10 ^ 8) :
    Spec w 123 6 [.ref KL] news (fun v news' => ∃ (T : Addr) (p n : Str) (tp tn : Tok), v = .ref T ∧ p.length ≤ 21 ∧ n.length ≤ 14 ∧ news' = (T, { cls := .type "tuple", data := .seq #[.str p tp, .str n tn] }) :: news) := by
  unfold Spec
  w_top off
  k_fill
  intro loose mean mg mb dp un gd cn cs a ccd cl outer A₀ base h₀ L m s Q E h1 h2 h3 h4 h5 codeHd0 h6 h8 h9 hret
  k_dflt cell_enter
  rename_i g' L' h' FG F N B X' T
  have codeHd := CodeHd.keeps codeHd0 FG.keep
  repeat' ((fail_if_success (with_reducible show wpAny _ _ (exec (Stmt.For _ _ _ _ _) _) _ _ _)); first | (k_unfold; (try dsimp only)) | (k_end; kc_close) | walk1 | (dsimp only; walk1) | fail "no step")
  refine for_over ?_
  repeat' ((fail_if_success (with_reducible show wpAny _ _ (pyIter _) _ _ _)); first | (k_unfold; (try dsimp only)) | (k_end; kc_close) | walk1 | (dsimp only; walk1) | fail "no step")
  rename News g' L' _ _ => N6
  rename Fr g' L' _ _ => F6
  refine li_iter (xs := vs) F6 N6 hm hc hdat fun I oI h4x hI hfn F6' N6' => ?_
  clear F6 N6
  refine hid (vs.length) (InvW vs KL I news g' L' s) ⟨0, _, _, _, _, _, oI, _, _, rfl, rfl, Nat.zero_le _, F6', N6', hI, rfl, rfl, Nat.le_refl _, Nat.le_refl _⟩ fun Jv hJv => ?_
  clear F6' N6' hI
  rintro k s' ⟨i, p2, n2, m5, h5, tk5, oJ, t1, t2, rfl, rfl, hi, F7, N7, hJ, hg1, hg2, hpl, hnl⟩
  refine li_next rfl F7 N7 hJ hfn hm hc hdat (fun x r oJ' h6x hdrop hJ' F8 N8 => ?_) (fun h6x hdrop F8 N8 => ?_)
  · clear F7 N7
    obtain ⟨z, tz, rfl, hz0, hz1⟩ := hvs x (List.mem_of_mem_drop (hdrop ▸ List.mem_cons_self ..))
    have hi3 : i < vs.length := by
      have hlen := congrArg List.length hdrop
      simp only [List.length_drop, List.length_cons] at hlen
      omega
    have e1 : z.fdiv 16 = z / 16 := Int.fdiv_eq_ediv_of_nonneg _ (by decide)
    have e2 : (z.fdiv 16).fdiv 9 = z / 16 / 9 := by rw [e1]; exact Int.fdiv_eq_ediv_of_nonneg _ (by decide)
    have hr1 : 0 ≤ z.fdiv 16 ∧ z.fdiv 16 < 10 ^ 8 := by rw [e1]; omega
    have hr2 : 0 ≤ (z.fdiv 16).fdiv 9 ∧ (z.fdiv 16).fdiv 9 < 10 ^ 8 := by rw [e2]; omega
    clear hdrop hJ e1 e2
    repeat' ((fail_if_success (with_reducible show wpAny _ _ (exec (Stmt.If _ _ _ _) _) _ _ _)); first | (k_unfold; (try dsimp only)) | (k_end; kc_close) | walk1 | (dsimp only; walk1) | fail "no step")
    rename News g' L' _ _ => NX1
    rename Fr g' L' _ _ => FX1
    refine wpAny_mono (E := fun _ _ => False) (Q := CutD g' L' ((I, oJ') :: news) s (z.fmod 16) (z.fdiv 16) (3 * i + 3) (2 * i)) ?pa1 ?pb1 ?pc1
    case pc1 => exact fun _ _ h => h.elim
    case pa1 =>
      repeat' (first | ((with_reducible show wpAny _ _ (PySem.call (.ref 116) _) _ _ _); refine (sign_ok _ _ _ (by assumption)).use (by k_asm) (by k_asm) (by k_asm) (by k_asm) (by k_asm) codeHd rfl (by ktr_room) (by ktr_units) ?_; rintro v1 news1 h1x tk1 ⟨x1, t1x, rfl, hx1, rfl⟩ F1 N1; k_sweep) | ((fail_if_success (with_reducible show wpAny _ _ (PySem.call (.ref 116) _) _ _ _)); first | (k_unfold; (try dsimp only)) | (k_end; kc_close) | walk1 | (dsimp only; walk1) | fail "no step"))
      all_goals rename News g' L' _ _ => N9
      all_goals rename Fr g' L' _ _ => F9
      all_goals exact ⟨rfl, _, _, _, _, _, _, _, _, _, rfl, F9, N9, by first | rfl | assumption, by first | rfl | assumption, by first | rfl | assumption, by first | rfl | assumption, by first | omega | (rw [app_len, dots_len]; omega) | (rw [app_len]; omega), by first | omega | (rw [app_len]; omega)⟩
    case pb1 =>
    clear NX1 FX1
    clear hg1 hg2 hpl hnl
    rintro f s' ⟨rfl, p3, n3, m6, h6x, tk6, ta, tb, tc, td, rfl, F8, N8, hq11, hq12, hq13, hq14, hb11, hb12⟩
    dsimp only
    repeat' ((fail_if_success (with_reducible show wpAny _ _ (exec (Stmt.If _ _ _ _) _) _ _ _)); first | (k_unfold; (try dsimp only)) | (k_end; kc_close) | walk1 | (dsimp only; walk1) | fail "no step")
    rename News g' L' _ _ => NX2
    rename Fr g' L' _ _ => FX2
    refine wpAny_mono (E := fun _ _ => False) (Q := CutD g' L' ((I, oJ') :: news) s (z.fmod 16) (z.fdiv 16) (3 * i + 3) (2 * i + 1)) ?pa2 ?pb2 ?pc2
    case pc2 => exact fun _ _ h => h.elim
    case pa2 =>
      repeat' (first | ((with_reducible show wpAny _ _ (PySem.call (.ref 116) _) _ _ _); refine (sign_ok _ _ _ (by assumption)).use (by k_asm) (by k_asm) (by k_asm) (by k_asm) (by k_asm) codeHd rfl (by ktr_room) (by ktr_units) ?_; rintro v1 news1 h1x tk1 ⟨x1, t1x, rfl, hx1, rfl⟩ F1 N1; k_sweep) | ((fail_if_success (with_reducible show wpAny _ _ (PySem.call (.ref 116) _) _ _ _)); first | (k_unfold; (try dsimp only)) | (k_end; kc_close) | walk1 | (dsimp only; walk1) | fail "no step"))
      all_goals rename News g' L' _ _ => N9
      all_goals rename Fr g' L' _ _ => F9
      all_goals exact ⟨rfl, _, _, _, _, _, _, _, _, _, rfl, F9, N9, by first | rfl | assumption, by first | rfl | assumption, by first | rfl | assumption, by first | rfl | assumption, by first | omega | (rw [app_len, dots_len]; omega) | (rw [app_len]; omega), by first | omega | (rw [app_len]; omega)⟩
    case pb2 =>
    clear NX2 FX2
    clear hq11 hq12 hq13 hq14 hb11 hb12
    rintro f s' ⟨rfl, p3, n3, m6, h6x, tk6, ta, tb, tc, td, rfl, F8, N8, hq21, hq22, hq23, hq24, hb21, hb22⟩
    dsimp only
    repeat' ((fail_if_success (with_reducible show wpAny _ _ (exec (Stmt.If _ _ _ _) _) _ _ _)); first | (k_unfold; (try dsimp only)) | (k_end; kc_close) | walk1 | (dsimp only; walk1) | fail "no step")
    rename News g' L' _ _ => NX3
    rename Fr g' L' _ _ => FX3
    refine wpAny_mono (E := fun _ _ => False) (Q := CutD g' L' ((I, oJ') :: news) s (z.fmod 16) (z.fdiv 16) (3 * i + 3) (2 * i + 2)) ?pa3 ?pb3 ?pc3
    case pc3 => exact fun _ _ h => h.elim
    case pa3 =>
      repeat' (first | ((with_reducible show wpAny _ _ (PySem.call (.ref 116) _) _ _ _); refine (sign_ok _ _ _ (by assumption)).use (by k_asm) (by k_asm) (by k_asm) (by k_asm) (by k_asm) codeHd rfl (by ktr_room) (by ktr_units) ?_; rintro v1 news1 h1x tk1 ⟨x1, t1x, rfl, hx1, rfl⟩ F1 N1; k_sweep) | ((fail_if_success (with_reducible show wpAny _ _ (PySem.call (.ref 116) _) _ _ _)); first | (k_unfold; (try dsimp only)) | (k_end; kc_close) | walk1 | (dsimp only; walk1) | fail "no step"))
      all_goals rename News g' L' _ _ => N9
      all_goals rename Fr g' L' _ _ => F9
      all_goals exact ⟨rfl, _, _, _, _, _, _, _, _, _, rfl, F9, N9, by first | rfl | assumption, by first | rfl | assumption, by first | rfl | assumption, by first | rfl | assumption, by first | omega | (rw [app_len, dots_len]; omega) | (rw [app_len]; omega), by first | omega | (rw [app_len]; omega)⟩
    case pb3 =>
    clear NX3 FX3
    clear hq21 hq22 hq23 hq24 hb21 hb22
    rintro f s' ⟨rfl, p3, n3, m6, h6x, tk6, ta, tb, tc, td, rfl, F8, N8, hq31, hq32, hq33, hq34, hb31, hb32⟩
    dsimp only
    k_steps
    rename News g' L' _ _ => N9
    rename Fr g' L' _ _ => F9
    exact ⟨vs.length - (i + 1), by omega, hJv _ _ ⟨i + 1, _, _, _, _, _, oJ', _, _, rfl, rfl, hi3, F9, N9, hJ', hq31, hq32, by omega, by omega⟩⟩
  · clear F7 N7
    k_steps
    rename News h₀ L _ _ => kN
    rename Fr h₀ L _ _ => kF
    exact hret _ _ _ _ ⟨_, _, _, _, _, rfl, by omega, by omega, rfl⟩ kF kN
end Mine
end
end
section
open PySem PySem.W PyProof.Rows PySem.Calls PySem.Spec
set_option maxRecDepth 100000
set_option maxHeartbeats 4000000
namespace Mine
section
variable {prog : Program} {w : World} {A : Around} {E : Value → Shared → Prop} {s : Shared} {h₀ : Heap} {L : Addr} {m : Str → Option Value} {news : Led}
theorem slice_from {value slice : Expr} {l : Addr} {vs : List Value} {ns : List Int} {x : Int} {u : Tok} {Q : Value → Shared → Prop} (F : Fr h₀ L s.heap m) (N : News h₀ L s.heap news) (hl : s.heap.IsList l vs.toArray) (hi : IntsAre vs ns) (hx : 0 ≤ x)
    (hz : vs.toArray.size ≤ sizeLine)
    (h : ∀ D ws h', Fr h₀ L h' m → News h₀ L h' ((D, listOf (List.toArray ws) 0) :: news) → (∀ p ∈ news, p.1 < D) → IntsAre ws (ns.drop x.toNat) → Q (.ref D) { s with heap := h' })
    (hs : subscripted slice false (.ref l) (.ref s.heap.objs.size) = operate [.ref s.heap.objs.size, .ref l] (getItem (.ref l) (.ref s.heap.objs.size)) := by with_unfolding_all rfl) :
    wpAny (model prog w) A (subscriptTail value slice (.ref l) (.ref s.heap.objs.size)) Q E { s with heap := s.heap.push { cls := .type "slice", data := .fields #[.int x u, .none, .none] } } := by
  refine tail_any (Heap.IsList.typeIs (s := { s with heap := s.heap.push { cls := .type "slice", data := .fields #[.int x u, .none, .none] } }) (hl.push _)) list_getitem_lookup
    (wpAny_getItem_list_slice (hl.push _) (Heap.IsSliceOf.new ..) (.int _ _) .none .none (by simp) ?_ hz) hs
  have N1 := News.push (F.push { cls := .type "slice", data := .fields #[.int x u, .none, .none] }) (N.grown fun _ _ e => Heap.get?_push_of_some _ e) { cls := .type "list", data := .seq (slicePick vs.toArray (some x) none none) }
  rw [Heap.size_push] at N1
  show Q (.ref (s.heap.push _).objs.size) _
  rw [Heap.size_push]
  refine h _ (slicePick vs.toArray (some x) none none).toList _ ((F.push _).push _) ?_ (fun p hp => Nat.lt_succ_of_lt (Heap.lt_size (N p hp).1)) (kmk_from hi hx)
  simpa using N1
end
theorem tup_pick {prog : Program} {w : World} {A : Around} {E : Value → Shared → Prop} {s : Shared} {h₀ : Heap} {L : Addr} {news : Led} {value slice : Expr} {a : Addr} {lo : Obj} {l : List Value} {n : Nat} {k : Int} {u : Tok} {Q : Value → Shared → Prop} (P : Str → Prop)
    (N : News h₀ L s.heap news) (hm : (a, lo) ∈ news) (hc : lo.cls = .type "tuple") (hd : lo.data = .seq l.toArray n) (h0 : 0 ≤ k) (h1 : k < (l.length : Int)) (hl : l.length ≤ 100) (hall : ∀ v ∈ l, ∃ (x : Str) (t : Tok), v = .str x t ∧ P x)
    (h : ∀ (x : Str) (t : Tok), P x → Q (.str x t) s)
    (hs : subscripted slice false (.ref a) (.int k u) = operate [.ref a, .int k u] (getItem (.ref a) (.int k u)) := by with_unfolding_all rfl) :
    wpAny (model prog w) A (subscriptTail value slice (.ref a) (.int k u)) Q E s := by
  obtain ⟨j, rfl⟩ := Int.eq_ofNat_of_zero_le h0
  have hj : j < l.length := by omega
  obtain ⟨x, t, hx, hxl⟩ := hall _ (List.getElem_mem hj)
  have ht : IsTup s.heap a l.toArray := ⟨lo, (N _ hm).1, hc, n, hd⟩
  have hn : ((j : Nat) : Int) < ((l.toArray.size : Nat) : Int) := by rw [List.size_toArray]; omega
  exact tail_any ht.typeIs slot_tuple_getitem.lookup (getItem_tuple ht (by omega) (by omega) (seqIndex_of h0 hn) (x := .str x t) (by rw [List.getElem?_toArray]; exact (List.getElem?_eq_getElem hj).trans (congrArg some hx)) (h x t hxl)) hs
theorem mod4 (f : Int) : ∃ k : Nat, f.fmod 4 = (k : Int) ∧ k ≤ 3 := by
  rw [Int.fmod_eq_emod_of_nonneg _ (by decide)]
  exact ⟨(f % 4).toNat, by omega, by omega⟩
theorem ints_app {vs ws : List Value} {ns ms : List Int} (h : IntsAre vs ns) (g : IntsAre ws ms) : IntsAre (vs ++ ws) (ns ++ ms) := by
  induction h with
  | nil => exact g
  | cons a t _ ih => exact .cons a t ih
theorem ints_mem {vs : List Value} {ns : List Int} (h : IntsAre vs ns) (P : Int → Prop) (hP : ∀ z ∈ ns, P z) : ∀ v ∈ vs, ∃ (z : Int) (t : Tok), v = .int z t ∧ P z := by
  induction h with
  | nil => intro v hv; cases hv
  | cons a t _ ih =>
    intro v hv
    rcases List.mem_cons.mp hv with rfl | hv
    · exact ⟨a, t, rfl, hP a (List.mem_cons_self ..)⟩
    · exact ih (fun z hz => hP z (.tail _ hz)) v hv
theorem ints_head {vs : List Value} {ns : List Int} (h : IntsAre vs ns) (hl : 0 < ns.length) : ∃ (z : Int) (t : Tok), vs[0]? = some (.int z t) ∧ z ∈ ns := by
  cases h with
  | nil => exact absurd hl (Nat.lt_irrefl 0)
  | cons a t _ => exact ⟨a, t, rfl, List.mem_cons_self ..⟩
theorem nums_ok {xs : List Int} {k : Nat} (hk : k = (xs.take 8).length) : (((xs.take 8).map fun z : Int => z.fmod 10000000) ++ [178, 0, 26, 16, 64, 92, 96, 33].drop k).length = 8 ∧
    ∀ z ∈ ((xs.take 8).map fun z : Int => z.fmod 10000000) ++ [178, 0, 26, 16, 64, 92, 96, 33].drop k, (0 : Int) ≤ z ∧ z < 10 ^ 8 := by
  constructor
  · have : (xs.take 8).length ≤ 8 := by rw [List.length_take]; omega
    simp only [List.length_append, List.length_map, List.length_drop, List.length_cons, List.length_nil]
    omega
  · intro z hz
    rcases List.mem_append.mp hz with h | h
    · obtain ⟨y, _, rfl⟩ := List.mem_map.mp h
      rw [Int.fmod_eq_emod_of_nonneg _ (by decide)]
      omega
    · have h := List.mem_of_mem_drop h
      simp only [List.mem_cons, List.not_mem_nil, or_false] at h
      omega
section
variable {w : World} {news : Led} {loose : List Str} {mean : ExcName → Option Value} {mg mb : Str → Option Value} {dp un : Nat} {gd : Option (List Code)} {cn : Str} {cs : Scope} {a : Addr} {ccd : Value} {cl : List (Str × Addr)} {outer : List Env}
    {A₀ : Around} {base h₀ : Heap} {L : Addr} {m : Str → Option Value} {s : Shared} {Q E : Value → Shared → Prop}
theorem tower_use {k0 k1 k2 : Nat} {u0 u1 u2 : Tok} {KL : Addr} {tail p n : Str} {d : Bool} {tt tp tn : Tok}
    (h1 : Below A₀ base outer h₀) (h2 : Fr h₀ L s.heap m) (h3 : (hd.heap_39 w.params).In h₀) (h4 : News h₀ L s.heap news) (h5 : Top topProg loose mean mg mb h₀) (h6 : CodeHd h₀ 137 135) (h7 : cs.kind = .function)
    (h8 : dp + 26 < recursionLimit) (h9 : un + 20 * 26 < cLine) (htk : 1 ≤ s.toks)
    (hm : (KL, listOf #[.int (k0 : Nat) u0, .int (k1 : Nat) u1, .int (k2 : Nat) u2] 0) ∈ news) (h135 : (135, tabObj #[]) ∈ news) (hKL : @Ne Nat KL 135)
    (hk0 : k0 ≤ 3) (hk1 : k1 ≤ 3) (hk2 : k2 ≤ 3) (hp : p.length ≤ 64) (hnl : n.length ≤ 64)
    (ht : tail = Str.ofString "" ∨ tail = Str.ofString " made" ∨ tail = Str.ofString " \"x\"" ∨ tail = Str.ofString "..") (hd' : ellB p n = d)
    (h : ∀ h' tk' ps, 1 ≤ tk' → Fr h₀ L h' m → News h₀ L h' [(135, tabObj ps)] → Q (.bool true) { s with heap := h', toks := tk' }) :
    wpAny (model PySem.Challenge.rw_sc0036_01.row.toRowW.prog w) (ktrTop dp un gd cn cs L a ccd cl outer) (call (.ref 152) [.ref KL, .str tail tt, .str p tp, .str n tn, .bool d]) Q E s := by
  refine (tower_ok k0 k1 k2 u0 u1 u2 KL 0 tail p n d tt tp tn [(135, tabObj #[])] [(KL, listOf #[.int (k0 : Nat) u0, .int (k1 : Nat) u1, .int (k2 : Nat) u2] 0)] .fresh (fun p hp => ?_) (List.mem_singleton.mpr rfl) hk0 hk1 hk2 hp hnl ht hd').use
    h1 h2 h3 (News.sub h4 fun p hp => ?_) h5 h6 h7 h8 h9 htk fun v news' h' tk' htk' hP F N => ?_
  · rw [List.mem_singleton.mp hp]; exact hKL
  · rcases List.mem_cons.mp hp with rfl | hp
    · exact h135
    · rw [List.mem_singleton.mp hp]; exact hm
  · obtain ⟨st', hst, rfl, rfl⟩ := hP
    cases hst with
    | fresh => exact h h' tk' _ htk' F (News.sub N fun p hp => by rw [List.mem_singleton.mp hp]; exact .head _)
    | used _ _ _ => exact h h' tk' _ htk' F (News.sub N fun p hp => by rw [List.mem_singleton.mp hp]; exact .tail _ (.head _))
end
end Mine
end
open PySem PySem.W PyProof.Rows PySem.Calls PySem.Spec
open Mine
local macro_rules | `(tactic| walk_at "execs cons") => `(tactic| (k_here; refine gen_tok ?gtk ?_; (case gtk => (fail_if_success assumption); omega); intro tk htk))
local macro_rules | `(tactic| walk_at "execs nil") => `(tactic| (k_here; refine gen_tok ?gtk ?_; (case gtk => (fail_if_success assumption); omega); intro tk htk))
set_option maxRecDepth 100000 in
set_option maxHeartbeats 8000000 in
theorem PySem.Challenge.cw_sc0036_01_holds : PySem.Challenge.rw_sc0036_01.Holds := by
  refine Mine.hd ?_
  k_go0
  w_top off
  all_goals try k_fold
  refine gen_tok (by simp) ?_
  intro tk0 htk0
  refine wp_hide ?_
  intro Qv Ev hQv
  repeat' ((fail_if_success (with_reducible show wpAny _ _ (subscriptTail (Expr.List _ _) _ _ _) _ _ _)); first | (k_unfold; (try dsimp only)) | (k_end; kc_close) | walk1 | (dsimp only; walk1) | fail "no step")
  rename News _ _ _ _ => N1
  rename Fr _ _ _ _ => F1
  refine slice_from F1 N1 ⟨_, (N1.get (by k_mem)), rfl, _, rfl⟩ (.cons _ _ (.cons _ _ (.cons _ _ (.cons _ _ (.cons _ _ (.cons _ _ (.cons _ _ (.cons _ _ .nil)))))))) (by omega) (by simp [sizeLine_eq]) (fun D ws h' F2 N2 l2 hI2 => ?_)
  clear F1 N1
  dsimp only
  repeat' ((fail_if_success (with_reducible show wpAny _ _ (binaryOp _ _ _) _ _ _)); first | (k_unfold; (try dsimp only)) | (k_end; kc_close) | walk1 | (dsimp only; walk1) | fail "no step")
  rename IntsAre _ (List.map _ _) => hI8
  rename List Int => xs
  have e8 := hI8.length
  rw [List.length_map] at e8
  obtain ⟨k, hk, hI3⟩ : ∃ k, k = (xs.take 8).length ∧ IntsAre ws ([178, 0, 26, 16, 64, 92, 96, 33].drop k) := ⟨_, by simp only [List.length_map] at *; omega, hI2⟩
  have hnum := nums_ok hk
  rename News _ _ _ _ => N3
  rename Fr _ _ _ _ => F3
  have hI9 := ints_app hI8 hI3
  refine add_lists F3 N3 ⟨_, (N3.get (by k_mem)), rfl, _, rfl⟩ ⟨_, (N3.get (by k_mem)), rfl, _, rfl⟩ ?_ ?_
  rotate_left
  · have e1 := hI9.length
    rw [hnum.1, List.length_append] at e1
    rw [e1, sizeLine_eq]
    decide
  intro h'4 F4 N4
  clear F3 N3
  (try dsimp only)
  k_sweep
  repeat' ((fail_if_success (with_reducible show wpAny _ _ (subscriptTail _ _ _ _) _ _ _)); first | (k_unfold; (try dsimp only)) | (k_end; kc_close) | walk1 | (dsimp only; walk1) | fail "no step")
  rename News _ _ _ _ => N5
  obtain ⟨f, tf, hf0, hfm⟩ := ints_head hI9 (by rw [hnum.1]; decide)
  have hfb := hnum.2 f hfm
  refine kim_list N5 (List.mem_cons_self ..) rfl rfl (by decide) (by decide) hf0 ?_
  repeat' ((fail_if_success (with_reducible show wpAny _ _ (subscriptTail _ _ _ _) _ _ _)); first | (k_unfold; (try dsimp only)) | (k_end; kc_close) | walk1 | (dsimp only; walk1) | fail "no step")
  rename News _ _ _ _ => N6
  rename Fr _ _ _ _ => F6
  refine slice_from F6 N6 ⟨_, (N6.get (by k_mem)), rfl, _, rfl⟩ hI9 (by decide) ?_ (fun D2 ws2 h'6 F7 N7 l7 hI7 => ?_)
  · rw [List.size_toArray, hI9.length, hnum.1, sizeLine_eq]; decide
  clear F6 N6
  dsimp only
  repeat' ((fail_if_success (with_reducible show wpAny _ _ (PySem.call (.ref 123) _) _ _ _)); first | (k_unfold; (try dsimp only)) | (k_end; kc_close) | walk1 | (dsimp only; walk1) | fail "no step")
  rename News _ _ _ _ => N8
  rename Fr _ _ _ _ => F8
  refine (drawn_ok D2 ws2 0 _ _ (List.mem_cons_self ..) rfl rfl ?v1 ?v2).useT (by k_asm) F8 (by k_asm) N8 (by k_asm) codeHd rfl (by ktr_room) (by ktr_units) (by (try dsimp only); omega) ?_
  case v1 => rw [hI7.length, List.length_drop, hnum.1]; decide
  case v2 => exact ints_mem hI7 _ fun z hz => hnum.2 z (List.mem_of_mem_drop hz)
  rintro v0 news0 h'8 tk8 htk8 ⟨T, p, n, tp, tn, rfl, hp, hn, rfl⟩ F9 N9
  clear F8 N8
  repeat' ((fail_if_success (with_reducible show wpAny _ _ (PySem.call (.ref 128) _) _ _ _)); first | (k_unfold; (try dsimp only)) | (k_end; kc_close) | walk1 | (dsimp only; walk1) | fail "no step")
  rename News _ _ _ _ => N10
  rename Fr _ _ _ _ => F10
  refine (due_ok p n tp tn _ (by omega) (by omega)).useT (by k_asm) F10 (by k_asm) N10 (by k_asm) codeHd rfl (by ktr_room) (by ktr_units) (by (try dsimp only); omega) ?_
  rintro v1 news1 h'9 tk9 htk9 ⟨hv1, rfl⟩ F11 N11
  obtain ⟨due, hdue⟩ : ∃ due, ellB p n = due := ⟨_, rfl⟩
  rw [show mt (toks p.cps.toList) n.cps.toList = due from hdue] at hv1
  subst hv1
  clear F10 N10
  repeat' ((fail_if_success (with_reducible show wpAny _ _ (subscriptTail _ _ _ _) _ _ _)); first | (k_unfold; (try dsimp only)) | (k_end; kc_close) | walk1 | (dsimp only; walk1) | fail "no step")
  rename News _ _ _ _ => N12
  refine tup_pick (fun x => x = Str.ofString "" ∨ x = Str.ofString " made" ∨ x = Str.ofString " \"x\"" ∨ x = Str.ofString "..") N12 (List.mem_cons_self ..) rfl rfl ?w1 ?w2 (by simp) ?w3 (fun tail tt htail => ?_)
  case w1 => rw [Int.fmod_eq_emod_of_nonneg _ (by decide)]; omega
  case w2 =>
    rw [Int.fmod_eq_emod_of_nonneg _ (by decide)]
    show _ % 4 < (4 : Int)
    omega
  case w3 =>
    intro v hv
    simp only [List.mem_cons, List.not_mem_nil, or_false] at hv
    rcases hv with rfl | rfl | rfl | rfl
    · exact ⟨_, _, rfl, .inl rfl⟩
    · exact ⟨_, _, rfl, .inr (.inl rfl)⟩
    · exact ⟨_, _, rfl, .inr (.inr (.inl rfl))⟩
    · exact ⟨_, _, rfl, .inr (.inr (.inr rfl))⟩
  repeat' ((fail_if_success (with_reducible show wpAny _ _ (PySem.call (.ref 28) _) _ _ _)); first | (k_unfold; (try dsimp only)) | (k_end; kc_close) | walk1 | (dsimp only; walk1) | fail "no step")
  rename News _ _ _ _ => N13
  rename Fr _ _ _ _ => F13
  refine (ell_mt p n tp tn _ (by omega) (by omega)).useT (by k_asm) F13 (by k_asm) N13 (by k_asm) codeHd rfl (by ktr_room) (by ktr_units) (by (try dsimp only); omega) ?_
  rintro v2 news2 h'14 tk14 htk14 ⟨hv2, rfl⟩ F14 N14
  clear F13 N13
  rw [hdue] at hv2
  subst hv2
  repeat' ((fail_if_success (with_reducible show wpAny _ _ (PySem.call (.ref 152) _) _ _ _)); first | (k_unfold; (try dsimp only)) | (k_end; kc_close) | walk1 | (dsimp only; walk1) | fail "no step")
  rename News _ _ _ _ => N15
  rename Fr _ _ _ _ => F15
  obtain ⟨k0, e0, hk0⟩ := mod4 f
  obtain ⟨k1, e1, hk1⟩ := mod4 (f.fdiv 4)
  obtain ⟨k2, e2, hk2⟩ := mod4 (f.fdiv 16)
  rw [e0, e1, e2] at N15
  refine tower_use (by k_asm) F15 (by k_asm) N15 (by k_asm) codeHd rfl (by ktr_room) (by ktr_units) (by (try dsimp only); omega) (.tail _ (.head _)) ?t2 ?t1 hk0 hk1 hk2 (by omega) (by omega) htail hdue (fun h'16 tk16 ps16 htk16 F16 N16 => ?_)
  case t2 => repeat (first | exact .head _ | refine .tail _ ?_)
  case t1 => omega
  clear F15 N15
  repeat' ((fail_if_success (with_reducible show Qv _ _)); first | (k_unfold; (try dsimp only)) | (k_end; kc_close) | walk1 | (dsimp only; walk1) | fail "no step")
  all_goals (refine hQv _ _ ?_; k_steps)
