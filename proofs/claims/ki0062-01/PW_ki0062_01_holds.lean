import PyProof.Rows.All
import Wide.All
import OpenK.AllK
import Wide.FinOn
import Lean
import PySem.Challenge.RW_ki0062_01
set_option Elab.async false

/-! part Hd -/
section
open PySem PySem.W PyProof.Rows
namespace Mine
set_option maxRecDepth 100000
set_option maxHeartbeats 8000000
open_top hd for PySem.Challenge.rw_ki0062_01
end Mine
end

/-! part Base -/
section
open PySem PySem.W PySem.Calls PyProof.Rows
namespace Mine
set_option maxRecDepth 100000

/-- all but W stays -/
def Stay (W : List Addr) (h h' : Heap) : Prop := ∀ b o, b ∉ W → h.get? b = some o → h'.get? b = some o
theorem Stay.refl {W h} : Stay W h h := fun _ _ _ e => e
theorem Stay.trans {W h h' h''} (a : Stay W h h') (b : Stay W h' h'') : Stay W h h'' := fun x o n e => b x o n (a x o n e)
theorem Stay.mono {W V h h'} (a : Stay W h h') (s : ∀ x ∈ W, x ∈ V) : Stay V h h' := fun x o n e => a x o (fun q => n (s x q)) e
theorem Stay.of_fr {W : List Addr} {h h' : Heap} {L : Addr} {m} (F : Fr (hideAll h W) L h' m) : Stay W h h' := fun b o n e => F.keep b o (hideAll_get W e n)

/-- what stands of the text's top -/
structure Gd (w : World) (mean : ExcName → Option Value) (mg mb : Str → Option Value) (h : Heap) : Prop where
  X : (hd.heap_39 w.params).In h
  T : Top hd.view_39 (looseW hd.view_39 []) mean mg mb h

theorem fill : (PySem.Challenge.rw_ki0062_01 = PySem.Challenge.rw_ki0062_01) ∧ (hd.heap_39 = hd.heap_39) := by
  k_fill; exact ⟨rfl, rfl⟩

theorem enterF {prog : Program} {w : World} {A : Around} {R : Result → Shared → Prop} {s : Shared} {K : Frag} (W : List Addr)
    {name qual : Str} {params : Arguments} {body : List Stmt} {scope : Scope} {dV kV doc pm cdv ct oc : Value} {an od : Option Addr} {osl : Array (Option Value)} {f : Addr} {args : Args} {binds : List (Str × Value)}
    (X : K.In s.heap) (hlim : s.heap.NoLimit)
    (ho : K.lookup f = some ⟨oc, od, .func (fnOf name qual params body scope dV kV doc pm an cdv ct), osl⟩) (hcd : codeIn K cdv qual = true) (hroom : A.depth < recursionLimit)
    (hbind : BindsTo s (fnOf name qual params body scope dV kV doc pm an cdv ct) args binds) (hloc : ∀ y ∈ binds, scope.names.lookup y.1 = some .local)
    (h : ∀ L' h₁, L' = s.heap.objs.size → Fr (hideAll s.heap W) L' h₁ (fun y => binds.reverse.lookup y) → (∀ b o, s.heap.get? b = some o → h₁.get? b = some o) →
      wpAny (model prog w) (A.deeper (envOf qual scope L' f cdv)) (execs body (envOf qual scope L' f cdv))
        (fun fl s' => R (.ok (.ret (match fl with | .ret v => v | _ => .none))) s')
        (fun e s' => wpAny (model prog w) (A.deeper (envOf qual scope L' f cdv)) (leaving (envOf qual scope L' f cdv) e) (fun _ s'' => R (.error e) s'') (fun e' s'' => R (.error e') s'') s')
        { s with heap := h₁, toks := s.toks + binds.length })
    (hco : scope.isCoroutine = false) (hgen : scope.isGenerator = false) (hk : scope.kind = .function)
    (hcell : ∀ x ∈ scope.names, x.2 ≠ .cell) : codeAny (model prog w) A (.call (.ref f) args) R s := by
  refine codeAny_call_def (fd := fnOf name qual params body scope dV kV doc pm an cdv ct) (body := body) (binds := binds) hroom (X _ _ ho) rfl hlim (codeRec_of X hcd) rfl hbind hcell hloc (fun h₁ hns hk₁ => ?_) hco hgen hk
  exact h _ h₁ rfl ⟨hns, fun b o e => hk₁ b o (of_hideAll _ e), Nat.le_of_eq (hideAll_size _ _)⟩ hk₁

end Mine
end

/-! part Iters -/
section
open PySem PySem.W PySem.Calls PyProof.Rows
namespace Mine
set_option maxRecDepth 100000

abbrev itObj (c : String) (fs : Array Value) : Obj := { cls := .type c, dict := none, data := .fields fs, slots := #[] }

/-- the ints 0 .. n - 1 -/
def upto (n : Nat) : List Int := (List.range n).map fun (i : Nat) => (i : Int)

/-- an iterator over the ints ns that stands at place k; what it reads is src -/
inductive It (h : Heap) (a : Addr) : Option Addr → List Int → Nat → Prop where
  | list {l : Addr} {vs : List Value} {ns : List Int} {k : Nat} : h.get? a = some (itObj "list_iterator" #[.ref l, .int k 0]) → h.IsList l vs.toArray → IntsAre vs ns → k ≤ ns.length → It h a (some l) ns k
  | lend {l : Addr} {ns : List Int} {x : Value} : h.get? a = some (itObj "list_iterator" #[.none, x]) → It h a (some l) ns ns.length
  | tup {t : Addr} {vs : List Value} {ns : List Int} {k : Nat} : h.get? a = some (itObj "tuple_iterator" #[.ref t, .int k 0]) → h.IsTuple t vs.toArray → IntsAre vs ns → k ≤ ns.length → It h a (some t) ns k
  | tend {t : Addr} {vs : List Value} {ns : List Int} {x : Value} : h.get? a = some (itObj "tuple_iterator" #[.none, x]) → h.IsTuple t vs.toArray → It h a (some t) ns ns.length
  | rng {n k : Nat} : IsRangeIter h a k ((n : Int) - k) 1 → k ≤ n → It h a none (upto n) k

def IsIt (h : Heap) (a : Addr) : Prop := ∃ o, h.get? a = some o ∧ (o.cls = .type "list_iterator" ∨ o.cls = .type "tuple_iterator" ∨ o.cls = .type "range_iterator")

theorem It.isIt {h a src ns k} (x : It h a src ns k) : IsIt h a := by
  cases x with
  | list ho _ _ _ => exact ⟨_, ho, .inl rfl⟩
  | lend ho => exact ⟨_, ho, .inl rfl⟩
  | tup ho _ _ _ => exact ⟨_, ho, .inr (.inl rfl)⟩
  | tend ho _ => exact ⟨_, ho, .inr (.inl rfl)⟩
  | rng ho _ => exact ⟨_, ho, .inr (.inr rfl)⟩

theorem It.le {h a src ns k} (x : It h a src ns k) : k ≤ ns.length := by
  cases x with
  | list _ _ _ hk => exact hk
  | lend _ => exact Nat.le_refl _
  | tup _ _ _ hk => exact hk
  | tend _ _ => exact Nat.le_refl _
  | rng _ hk => simpa [upto] using hk

theorem IsIt.not_list {h a vs} (x : IsIt h a) (y : h.IsList a vs) : False := by
  obtain ⟨o, ho, hc⟩ := x
  obtain ⟨o', ho', hc', _⟩ := y
  rw [ho] at ho'; cases ho'
  rw [hc'] at hc; simp at hc
theorem IsIt.not_tuple {h a vs} (x : IsIt h a) (y : h.IsTuple a vs) : False := by
  obtain ⟨o, ho, hc⟩ := x
  obtain ⟨o', ho', hc', _⟩ := y
  rw [ho] at ho'; cases ho'
  rw [hc'] at hc; simp at hc
theorem isList_stay {W h h' a vs} (x : Heap.IsList h a vs) (s : Stay W h h') (n : a ∉ W) : h'.IsList a vs := let ⟨o, ho, r⟩ := x; ⟨o, s _ _ n ho, r⟩
theorem isTuple_stay {W h h' a vs} (x : Heap.IsTuple h a vs) (s : Stay W h h') (n : a ∉ W) : h'.IsTuple a vs := let ⟨o, ho, r⟩ := x; ⟨o, s _ _ n ho, r⟩

theorem It.stay {h h' a src ns k W} (x : It h a src ns k) (s : Stay W h h') (na : a ∉ W) (hw : ∀ b ∈ W, IsIt h b) : It h' a src ns k := by
  cases x with
  | list ho hl hi hk => exact .list (s _ _ na ho) (isList_stay hl s fun q => (hw _ q).not_list hl) hi hk
  | lend ho => exact .lend (s _ _ na ho)
  | tup ho hl hi hk => exact .tup (s _ _ na ho) (isTuple_stay hl s fun q => (hw _ q).not_tuple hl) hi hk
  | tend ho hl => exact .tend (s _ _ na ho) (isTuple_stay hl s fun q => (hw _ q).not_tuple hl)
  | rng ho hk => exact .rng (s _ _ na ho) hk
/-- the same where the source is told apart -/
theorem It.stayS {h h' a src ns k W} (x : It h a src ns k) (s : Stay W h h') (na : a ∉ W) (hw : ∀ b, src = some b → b ∉ W) : It h' a src ns k := by
  cases x with
  | list ho hl hi hk => exact .list (s _ _ na ho) (isList_stay hl s (hw _ rfl)) hi hk
  | lend ho => exact .lend (s _ _ na ho)
  | tup ho hl hi hk => exact .tup (s _ _ na ho) (isTuple_stay hl s (hw _ rfl)) hi hk
  | tend ho hl => exact .tend (s _ _ na ho) (isTuple_stay hl s (hw _ rfl))
  | rng ho hk => exact .rng (s _ _ na ho) hk

theorem intsAre_get {vs : List Value} {ns : List Int} (h : IntsAre vs ns) {k : Nat} {n : Int} (e : ns[k]? = some n) : ∃ t, vs[k]? = some (.int n t) := h.get k n e
theorem intsAre_none {vs : List Value} {ns : List Int} (h : IntsAre vs ns) {k : Nat} (e : ns[k]? = none) : vs[k]? = none := by
  rw [List.getElem?_eq_none_iff] at e ⊢; rw [h.length]; exact e

theorem sameBut_stay {a : Addr} {h h' : Heap} (s : Heap.SameBut a h h') : Stay [a] h h' := fun b o n e => s.extBut b o (fun q => n (by simp [q])) e

section
variable {prog : Program} {w : World} {A : Around} {E : Value → Shared → Prop} {s : Shared}

/-- a new StopIteration -/
theorem stop_wp {α : Type} {Q : α → Shared → Prop} (hh : A.handled = none)
    (h : ∀ h' e, (∀ b o, s.heap.get? b = some o → h'.get? b = some o) → s.heap.get? e = none → (∃ o, h'.get? e = some o ∧ o.cls = .type "StopIteration") → E (.ref e) { s with heap := h' }) :
    wpAny (model prog w) A (Builtin.SmallTypes.stopIteration : Sem α) Q E s := by
  unfold Builtin.SmallTypes.stopIteration
  refine wpAny_bind ?_
  simp only [newExc, newTuple]
  refine wpAny_bind (wpAny_newObj_type ?_ (by size_fits))
  refine wpAny_bind (m := firstArgMember _ _) (wpAny_of_eq (a := Value.none) (by first | rfl | (simp only [firstArgMember]; rfl)) ?_)
  refine wpAny_newObj_type ?_ (by size_fits)
  simp only [raiseNew]
  refine wpAny_bind (wpAny_handled ?_)
  rw [hh]
  refine wpAny_bind (wpAny_pure (wpAny_throw ?_))
  refine h _ _ (fun b o e => Heap.get?_push_of_some _ (Heap.get?_push_of_some _ e)) ?_ ⟨_, Heap.get?_push_size _ rfl, rfl⟩
  exact Heap.get?_none_of_le (by rw [Heap.size_push]; exact Nat.le_succ _)

theorem next_some {a : Addr} {src : Option Addr} {ns : List Int} {k : Nat} {v : Int} {Q : Value → Shared → Prop} (H : It s.heap a src ns k) (hv : ns[k]? = some v)
    (hQ : ∀ h' tk t, It h' a src ns (k + 1) → Stay [a] s.heap h' → Q (.int v t) { s with heap := h', toks := tk }) :
    wpAny (model prog w) A (Builtin.SmallTypes.nextOf (.ref a)) Q E s := by
  have hIt := H.isIt
  have hlt : k < ns.length := by
    rcases Nat.lt_or_ge k ns.length with h | h
    · exact h
    · rw [List.getElem?_eq_none_iff.mpr h] at hv; cases hv
  cases H with
  | list ho hl hi hk =>
    obtain ⟨t, hx⟩ := intsAre_get hi hv
    have hl' := hl
    obtain ⟨ol, hol, _, nl, hdl⟩ := hl
    have hT : s.TypeIs (.ref a) "list_iterator" := ⟨_, ho, rfl⟩
    unfold Builtin.SmallTypes.nextOf
    refine wpAny_bind (wpAny_callSpecial?_slot (name := Str.ofString "__next__") hT slot_listiter_next
      (wpAny_call_entry slot_listiter_next hT entry_listiter_next ?_ (args_listiter_next _)))
    show wpAny _ _ (field (.ref a) 0 >>= _) _ _ s
    refine wpAny_bind (wpAny_field ho rfl (x := .ref _) rfl ?_)
    show wpAny _ _ (if (Value.ref _ == Value.none) = true then _ else _) _ _ s
    rw [if_neg (show ¬ ((Value.ref _ == Value.none) = true) from Bool.false_ne_true)]
    show wpAny _ _ (field (.ref a) 1 >>= _) _ _ s
    refine wpAny_bind (wpAny_field ho rfl (x := .int k 0) rfl ?_)
    refine wpAny_bind (wpAny_seqItems hol hdl ?_)
    simp only [Int.toNat_natCast, List.getElem?_toArray, hx]
    refine wpAny_bind (wpAny_setField_rec ho (by simp) fun h' ho' hs => wpAny_pure ⟨_, rfl, wpAny_pure (hQ h' s.toks t ?_ (sameBut_stay hs))⟩)
    refine .list (k := k + 1) ho' (isList_stay hl' (sameBut_stay hs) fun q => ?_) hi hlt
    rw [List.mem_singleton.mp q] at hl'
    exact hIt.not_list hl'
  | lend ho => exact absurd hlt (Nat.lt_irrefl _)
  | tup ho hl hi hk =>
    obtain ⟨t, hx⟩ := intsAre_get hi hv
    have hl' := hl
    obtain ⟨ol, hol, _, nl, hdl⟩ := hl
    have hT : s.TypeIs (.ref a) "tuple_iterator" := ⟨_, ho, rfl⟩
    unfold Builtin.SmallTypes.nextOf
    refine wpAny_bind (wpAny_callSpecial?_slot (name := Str.ofString "__next__") hT F.slot_tuple_iterator_next
      (wpAny_call_entry F.slot_tuple_iterator_next hT F.entry_tuple_iterator_next ?_ (F.args_tuple_iterator_next_1 _)))
    show wpAny _ _ (field (.ref a) 0 >>= _) _ _ s
    refine wpAny_bind (wpAny_field ho rfl (x := .ref _) rfl ?_)
    show wpAny _ _ (if (Value.ref _ == Value.none) = true then _ else _) _ _ s
    rw [if_neg (show ¬ ((Value.ref _ == Value.none) = true) from Bool.false_ne_true)]
    show wpAny _ _ (field (.ref a) 1 >>= _) _ _ s
    refine wpAny_bind (wpAny_field ho rfl (x := .int k 0) rfl ?_)
    refine wpAny_bind (wpAny_seqItems hol hdl ?_)
    simp only [Int.toNat_natCast, List.getElem?_toArray, hx]
    refine wpAny_bind (wpAny_setField_rec ho (by simp) fun h' ho' hs => wpAny_pure ⟨_, rfl, wpAny_pure (hQ h' s.toks t ?_ (sameBut_stay hs))⟩)
    refine .tup (k := k + 1) ho' (isTuple_stay hl' (sameBut_stay hs) fun q => ?_) hi hlt
    rw [List.mem_singleton.mp q] at hl'
    exact hIt.not_tuple hl'
  | tend ho _ => exact absurd hlt (Nat.lt_irrefl _)
  | @rng n _ ho hk =>
    have hkn : k < n := by simpa [upto] using hlt
    have hv' : v = (k : Int) := by
      rw [upto, List.getElem?_map, List.getElem?_range hkn] at hv
      simpa using hv.symm
    have hT : s.TypeIs (.ref a) "range_iterator" := ⟨_, ho, rfl⟩
    unfold Builtin.SmallTypes.nextOf
    refine wpAny_bind (wpAny_callSpecial?_slot (name := Str.ofString "__next__") hT F.slot_range_iterator_next
      (call_meets F.slot_range_iterator_next hT F.entry_range_iterator_next (F.args_range_iterator_next_1 _) (AutoRange.range_iterator___next___range_iterator_1 a k (n - k) 1 (by omega)) ⟨ho, ?_⟩))
    refine wpAny_pure ?_
    subst hv'
    refine hQ _ _ _ ?_ (sameBut_stay ((Heap.SameBut.update ..).trans (Heap.SameBut.update ..)))
    refine .rng (k := k + 1) ?_ hkn
    have e := Heap.get?_update_self (Obj.mapFields (·.setIfInBounds 1 (rawInt ((n : Int) - k - 1)))) (Heap.get?_update_self (Obj.mapFields (·.setIfInBounds 0 (rawInt ((k : Int) + 1)))) ho rfl) rfl
    refine Eq.trans e ?_
    have e1 : ((n : Int) - k - 1) = (n : Int) - ((k + 1 : Nat) : Int) := by omega
    have e2 : ((k : Int) + 1) = ((k + 1 : Nat) : Int) := by omega
    rw [e1, e2]; rfl

theorem next_end {a : Addr} {src : Option Addr} {ns : List Int} {k : Nat} {Q : Value → Shared → Prop} (hh : A.handled = none) (H : It s.heap a src ns k) (hv : ns[k]? = none)
    (hE : ∀ h' e, It h' a src ns k → Stay [a] s.heap h' → s.heap.get? e = none → (∃ o, h'.get? e = some o ∧ o.cls = .type "StopIteration") → E (.ref e) { s with heap := h' }) :
    wpAny (model prog w) A (Builtin.SmallTypes.nextOf (.ref a)) Q E s := by
  have hIt := H.isIt
  have hle := H.le
  have hge : ns.length ≤ k := List.getElem?_eq_none_iff.mp hv
  have hkl : k = ns.length := by omega
  have hin : A.in1.handled = none := hh
  have fin : ∀ (h₁ : Heap) (Q' : Fin → Shared → Prop), Stay [a] s.heap h₁ → It h₁ a src ns k → (∀ b, s.heap.get? b = none → h₁.get? b = none) →
      wpAny (model prog w) A.in1 (Builtin.SmallTypes.stopIteration : Sem Fin) Q' E { s with heap := h₁ } := fun h₁ Q' hs hi hn =>
    stop_wp (s := { s with heap := h₁ }) hin fun h' e hk he ho => hE h' e (hi.stay (W := []) (fun b o _ x => hk b o x) (by simp) (by simp)) (fun b o n x => hk b o (hs b o n x)) (by
      cases q : s.heap.get? e with
      | none => rfl
      | some o =>
        by_cases hea : e = a
        · subst hea
          obtain ⟨o', ho', _⟩ := hi.isIt
          rw [he] at ho'; cases ho'
        · have := hs e o (by simpa using hea) q
          rw [he] at this; cases this) ho
  cases H with
  | list ho hl hi hk =>
    have hx := intsAre_none hi hv
    obtain ⟨ol, hol, _, nl, hdl⟩ := hl
    have hT : s.TypeIs (.ref a) "list_iterator" := ⟨_, ho, rfl⟩
    unfold Builtin.SmallTypes.nextOf
    refine wpAny_bind (wpAny_callSpecial?_slot (name := Str.ofString "__next__") hT slot_listiter_next
      (wpAny_call_entry slot_listiter_next hT entry_listiter_next ?_ (args_listiter_next _)))
    show wpAny _ _ (field (.ref a) 0 >>= _) _ _ s
    refine wpAny_bind (wpAny_field ho rfl (x := .ref _) rfl ?_)
    show wpAny _ _ (if (Value.ref _ == Value.none) = true then _ else _) _ _ s
    rw [if_neg (show ¬ ((Value.ref _ == Value.none) = true) from Bool.false_ne_true)]
    show wpAny _ _ (field (.ref a) 1 >>= _) _ _ s
    refine wpAny_bind (wpAny_field ho rfl (x := .int k 0) rfl ?_)
    refine wpAny_bind (wpAny_seqItems hol hdl ?_)
    simp only [Int.toNat_natCast, List.getElem?_toArray, hx]
    refine wpAny_bind (wpAny_rule (wpAny_bind (wpAny_setField_rec ho (by simp) fun h' ho' hs => ?_)))
    refine fin h' _ (sameBut_stay hs) ?_ fun b q => ?_
    · subst hkl; exact .lend ho'
    · by_cases hb : b = a
      · subst hb; rw [ho] at q; cases q
      · exact (hs.2 b hb).trans q
  | lend ho =>
    have hT : s.TypeIs (.ref a) "list_iterator" := ⟨_, ho, rfl⟩
    unfold Builtin.SmallTypes.nextOf
    refine wpAny_bind (wpAny_callSpecial?_slot (name := Str.ofString "__next__") hT slot_listiter_next
      (wpAny_call_entry slot_listiter_next hT entry_listiter_next ?_ (args_listiter_next _)))
    show wpAny _ _ (field (.ref a) 0 >>= _) _ _ s
    refine wpAny_bind (wpAny_field ho rfl (x := .none) rfl ?_)
    show wpAny _ _ (if (Value.none == Value.none) = true then _ else _) _ _ s
    rw [if_pos (show ((Value.none == Value.none) = true) from rfl)]
    refine wpAny_bind (wpAny_rule (wpAny_bind ?_))
    exact stop_wp hin fun h' e hk he ho' => hE h' e (It.stay (.lend ho) (W := []) (fun b o _ x => hk b o x) (by simp) (by simp)) (fun b o n x => hk b o x) he ho'
  | tup ho hl hi hk =>
    have hx := intsAre_none hi hv
    have hl' := hl
    obtain ⟨ol, hol, _, nl, hdl⟩ := hl
    have hT : s.TypeIs (.ref a) "tuple_iterator" := ⟨_, ho, rfl⟩
    unfold Builtin.SmallTypes.nextOf
    refine wpAny_bind (wpAny_callSpecial?_slot (name := Str.ofString "__next__") hT F.slot_tuple_iterator_next
      (wpAny_call_entry F.slot_tuple_iterator_next hT F.entry_tuple_iterator_next ?_ (F.args_tuple_iterator_next_1 _)))
    show wpAny _ _ (field (.ref a) 0 >>= _) _ _ s
    refine wpAny_bind (wpAny_field ho rfl (x := .ref _) rfl ?_)
    show wpAny _ _ (if (Value.ref _ == Value.none) = true then _ else _) _ _ s
    rw [if_neg (show ¬ ((Value.ref _ == Value.none) = true) from Bool.false_ne_true)]
    show wpAny _ _ (field (.ref a) 1 >>= _) _ _ s
    refine wpAny_bind (wpAny_field ho rfl (x := .int k 0) rfl ?_)
    refine wpAny_bind (wpAny_seqItems hol hdl ?_)
    simp only [Int.toNat_natCast, List.getElem?_toArray, hx]
    refine wpAny_bind (wpAny_rule (wpAny_bind (wpAny_setField_rec ho (by simp) fun h' ho' hs => ?_)))
    refine fin h' _ (sameBut_stay hs) ?_ fun b q => ?_
    · subst hkl; exact .tend ho' (isTuple_stay hl' (sameBut_stay hs) fun q => by rw [List.mem_singleton.mp q] at hl'; exact hIt.not_tuple hl')
    · by_cases hb : b = a
      · subst hb; rw [ho] at q; cases q
      · exact (hs.2 b hb).trans q
  | tend ho hl =>
    have hT : s.TypeIs (.ref a) "tuple_iterator" := ⟨_, ho, rfl⟩
    unfold Builtin.SmallTypes.nextOf
    refine wpAny_bind (wpAny_callSpecial?_slot (name := Str.ofString "__next__") hT F.slot_tuple_iterator_next
      (wpAny_call_entry F.slot_tuple_iterator_next hT F.entry_tuple_iterator_next ?_ (F.args_tuple_iterator_next_1 _)))
    show wpAny _ _ (field (.ref a) 0 >>= _) _ _ s
    refine wpAny_bind (wpAny_field ho rfl (x := .none) rfl ?_)
    show wpAny _ _ (if (Value.none == Value.none) = true then _ else _) _ _ s
    rw [if_pos (show ((Value.none == Value.none) = true) from rfl)]
    refine wpAny_bind (wpAny_rule (wpAny_bind ?_))
    exact stop_wp hin fun h' e hk he ho' => hE h' e (It.stay (.tend ho hl) (W := []) (fun b o _ x => hk b o x) (by simp) (by simp)) (fun b o n x => hk b o x) he ho'
  | @rng n _ ho hk =>
    have hkn : k = n := by simpa [upto] using hkl
    have hT : s.TypeIs (.ref a) "range_iterator" := ⟨_, ho, rfl⟩
    unfold Builtin.SmallTypes.nextOf
    refine wpAny_bind (wpAny_callSpecial?_slot (name := Str.ofString "__next__") hT F.slot_range_iterator_next
      (wpAny_call_entry F.slot_range_iterator_next hT F.entry_range_iterator_next ?_ (F.args_range_iterator_next_1 _)))
    show wpAny _ _ (field (.ref a) 0 >>= _) _ _ s
    refine wpAny_bind (wpAny_field ho rfl (x := rawInt k) rfl ?_)
    show wpAny _ _ (field (.ref a) 1 >>= _) _ _ s
    refine wpAny_bind (wpAny_field ho rfl (x := rawInt ((n : Int) - k)) rfl ?_)
    show wpAny _ _ (field (.ref a) 2 >>= _) _ _ s
    refine wpAny_bind (wpAny_field ho rfl (x := rawInt 1) rfl ?_)
    show wpAny _ _ (if (n : Int) - k ≤ 0 then _ else _) _ _ s
    rw [if_pos (by omega)]
    refine wpAny_bind (wpAny_rule (wpAny_bind ?_))
    exact stop_wp hin fun h' e hk' he ho' => hE h' e (It.stay (.rng ho hk) (W := []) (fun b o _ x => hk' b o x) (by simp) (by simp)) (fun b o n x => hk' b o x) he ho'
end
end Mine
end

/-! part MapF -/
section
open PySem PySem.W PySem.Calls PyProof.Rows
namespace Mine
set_option maxRecDepth 100000

theorem owner_map : Manifest.owners.lookup (String.ofList ['p', 'a', 'm'].reverse) = some Manifest.sig_map := by kernel_rfl
theorem slot_map_next : Slot "map" "__next__" "map.__next__" :=
  .of (owner := "map") (n := "__next__") (by rw [typeLookup_type, builtinLookup_eq_fast]; kernel_rfl) (by decide +kernel) (by decide +kernel) (by decide +kernel)
    (by first | exact .inl (by decide +kernel) | exact .inr (by decide +kernel)) (by rw [isSubtype_type]; kernel_rfl)
theorem entry_map_next : entryFor table "map.__next__" = some Builtin.«map.__next__» := entryFor_of_tree (by kernel_rfl)
theorem args_map_next (a : Value) : argsOk "map.__next__" ⟨[a], []⟩ := by
  unfold argsOk; rw [signature?_of (id := "map.__next__") (n := ['_', '_', 't', 'x', 'e', 'n', '_', '_']) (o := ['p', 'a', 'm']) (by kernel_rfl) owner_map]; kernel_rfl
theorem slot_map_iter : Slot "map" "__iter__" "map.__iter__" :=
  .of (owner := "map") (n := "__iter__") (by rw [typeLookup_type, builtinLookup_eq_fast]; kernel_rfl) (by decide +kernel) (by decide +kernel) (by decide +kernel)
    (by first | exact .inl (by decide +kernel) | exact .inr (by decide +kernel)) (by rw [isSubtype_type]; kernel_rfl)
theorem args_map_iter (a : Value) : argsOk "map.__iter__" ⟨[a], []⟩ := by
  unfold argsOk; rw [signature?_of (id := "map.__iter__") (n := ['_', '_', 'r', 'e', 't', 'i', '_', '_']) (o := ['p', 'a', 'm']) (by kernel_rfl) owner_map]; kernel_rfl
theorem entry_map_iter : entryFor table "map.__iter__" = some Builtin.«dict_keyiterator.__iter__» :=
  entryFor_alias (id' := "dict_keyiterator.__iter__") (by kernel_rfl) (by first | rfl | decide +kernel | (unfold String.splitOn; simp +decide [String.splitOnAux])) (by decide +kernel) (by kernel_rfl)
theorem mro_map : mroOf (.type "map") = pure [.type "map", .type "object"] := by rw [mroOf_type]; kernel_rfl
theorem lookup_map_new : typeLookup (.type "map") "__new__" = pure (some (.builtin "map.__new__")) := by rw [typeLookup_type, builtinLookup_eq_fast]; kernel_rfl
theorem slot_map_init : Slot "map" "__init__" "object.__init__" :=
  .of (owner := "object") (n := "__init__") (by rw [typeLookup_type, builtinLookup_eq_fast]; kernel_rfl) (by decide +kernel) (by decide +kernel) (by decide +kernel)
    (by first | exact .inl (by decide +kernel) | exact .inr (by decide +kernel)) (by rw [isSubtype_type]; kernel_rfl)
theorem called_map : TypeCalled "map" "map.__new__" "object.__init__" :=
  ⟨by decide +kernel, by decide +kernel, ⟨_, _, mro_map⟩, madeBy_type mro_map lookup_map_new (by decide +kernel), by decide +kernel, by rw [isSubtype_type]; kernel_rfl, slot_map_init⟩
theorem entry_map_new : entryFor table "map.__new__" = some Builtin.«map.__new__» := entryFor_of_tree (by kernel_rfl)
theorem plain_map_new : plainId "map.__new__" = true := by decide +kernel
theorem typeCall_map_2 (a b : Value) : checkTypeCall "map" ⟨[a, b], []⟩ = pure () := by kernel_rfl
theorem typeCall_map_3 (a b c : Value) : checkTypeCall "map" ⟨[a, b, c], []⟩ = pure () := by kernel_rfl
theorem typeCall_map_4 (a b c d : Value) : checkTypeCall "map" ⟨[a, b, c, d], []⟩ = pure () := by kernel_rfl
theorem newCall_map_2 (a b : Value) : checkBuiltinCall "map.__new__" ⟨[.type "map", a, b], []⟩ = pure () := by kernel_rfl
theorem newCall_map_3 (a b c : Value) : checkBuiltinCall "map.__new__" ⟨[.type "map", a, b, c], []⟩ = pure () := by kernel_rfl
theorem newCall_map_4 (a b c d : Value) : checkBuiltinCall "map.__new__" ⟨[.type "map", a, b, c, d], []⟩ = pure () := by kernel_rfl
theorem args_oinit_3 (a b c : Value) : argsOk "object.__init__" ⟨[a, b, c], []⟩ := F.args_object_init_3 a b c
theorem args_oinit_4 (a b c d : Value) : argsOk "object.__init__" ⟨[a, b, c, d], []⟩ := by
  unfold argsOk; rw [signature?_of (id := "object.__init__") (n := ['_', '_', 't', 'i', 'n', 'i', '_', '_']) (o := ['t', 'c', 'e', 'j', 'b', 'o']) (by kernel_rfl) F.owner_object]; kernel_rfl
theorem args_oinit_5 (a b c d e : Value) : argsOk "object.__init__" ⟨[a, b, c, d, e], []⟩ := by
  unfold argsOk; rw [signature?_of (id := "object.__init__") (n := ['_', '_', 't', 'i', 'n', 'i', '_', '_']) (o := ['t', 'c', 'e', 'j', 'b', 'o']) (by kernel_rfl) F.owner_object]; kernel_rfl
theorem map_no_len : typeLookup (.type "map") "__len__" = pure none := by rw [typeLookup_type, builtinLookup_eq_fast]; kernel_rfl
theorem map_no_hint : typeLookup (.type "map") "__length_hint__" = pure none := by rw [typeLookup_type, builtinLookup_eq_fast]; kernel_rfl
theorem sub_map : isSubtype (.type "map") (.type "map") = pure true := by rw [isSubtype_type]; kernel_rfl
end Mine
end

/-! part Pure -/
section
open PySem PySem.W PySem.Calls PyProof.Rows
namespace Mine
set_option maxRecDepth 100000

/-! the plain law: no program in sight -/
def bump (pl : Nat → Nat) (p : Nat) : Nat → Nat := fun q => if q = p then pl p + 1 else pl q
/-- one turn: what the rows give, row by row; none: one had nothing left -/
def draw (ls : Nat → List Int) (n : Nat) : List Nat → (Nat → Nat) → List Int → Option (List Int) × (Nat → Nat)
  | [], pl, tk => (some tk, pl)
  | p :: ps, pl, tk =>
    if p < 4 then (match (ls p)[pl p]? with
      | none => (none, pl)
      | some v => draw ls n ps (bump pl p) (tk ++ [v]))
    else if 4 ≤ n then (none, pl) else draw ls n ps pl (tk ++ [(n : Int)])

/-- the item that the function gives: a tuple of the taken, or their sum -/
inductive Item where
  | tup (xs : List Int)
  | num (x : Int)
def itemOf (way : Nat) (tk : List Int) : Item := if way = 0 then .tup tk else .num tk.sum
def bad (way : Nat) (tk : List Int) : Prop := way = 2 ∧ tk.sum.fmod 5 = 2

/-- the calls' turns, to the end: some: what the list holds; none: the function raised -/
inductive Runs (ls : Nat → List Int) (way : Nat) (ps : List Nat) : Nat → (Nat → Nat) → List Item → Option (List Item) → (Nat → Nat) → Prop where
  | stop {n pl out pl'} : draw ls n ps pl [] = (none, pl') → Runs ls way ps n pl out (some out) pl'
  | raised {n pl out pl' tk} : draw ls n ps pl [] = (some tk, pl') → bad way tk → Runs ls way ps n pl out none pl'
  | turn {n pl out pl' tk r pl''} : draw ls n ps pl [] = (some tk, pl') → ¬ bad way tk → Runs ls way ps (n + 1) pl' (out ++ [itemOf way tk]) r pl'' → Runs ls way ps n pl out r pl''

/-- what is left to be taken -/
def left (ls : Nat → List Int) (pl : Nat → Nat) : Nat := ((ls 0).length - pl 0) + ((ls 1).length - pl 1) + ((ls 2).length - pl 2) + ((ls 3).length - pl 3)

theorem left_bump {ls pl p} (hp : p < 4) (h : pl p < (ls p).length) : left ls (bump pl p) + 1 = left ls pl := by
  have : p = 0 ∨ p = 1 ∨ p = 2 ∨ p = 3 := by omega
  rcases this with rfl | rfl | rfl | rfl <;> simp only [left, bump] <;> simp <;> omega

theorem draw_left (ls : Nat → List Int) (n : Nat) : ∀ (ps : List Nat) (pl : Nat → Nat) (tk : List Int), left ls (draw ls n ps pl tk).2 ≤ left ls pl := by
  intro ps
  induction ps with
  | nil => intro pl tk; exact Nat.le_refl _
  | cons p ps ih =>
    intro pl tk
    unfold draw
    split
    · rename_i hp
      split
      · exact Nat.le_refl _
      · rename_i v hv
        have hlt : pl p < (ls p).length := (List.getElem?_eq_some_iff.mp hv).1
        have := ih (bump pl p) (tk ++ [v])
        have := left_bump hp hlt
        omega
    · split
      · exact Nat.le_refl _
      · exact ih _ _

theorem draw_less {ls n p ps pl tk tk' pl'} (h : draw ls n (p :: ps) pl tk = (some tk', pl')) : left ls pl' + (4 - (n + 1)) < left ls pl + (4 - n) ∨ (left ls pl' < left ls pl) := by
  unfold draw at h
  split at h
  · rename_i hp
    split at h
    · cases h
    · rename_i v hv
      have hlt : pl p < (ls p).length := (List.getElem?_eq_some_iff.mp hv).1
      have h1 := draw_left ls n ps (bump pl p) (tk ++ [v])
      rw [h] at h1
      have h2 := left_bump hp hlt
      right
      dsimp only at h1
      omega
  · split at h
    · cases h
    · rename_i hn
      have h1 := draw_left ls n ps pl (tk ++ [(n : Int)])
      rw [h] at h1
      dsimp only at h1
      left; omega

theorem draw_len {ls n} : ∀ {ps : List Nat} {pl tk tk' pl'}, draw ls n ps pl tk = (some tk', pl') → tk'.length = tk.length + ps.length := by
  intro ps
  induction ps with
  | nil => intro pl tk tk' pl' h; cases h; rfl
  | cons p ps ih =>
    intro pl tk tk' pl' h
    unfold draw at h
    split at h
    · split at h
      · cases h
      · have := ih h; simp at this ⊢; omega
    · split at h
      · cases h
      · have := ih h; simp at this ⊢; omega

theorem draw_fresh {ls n} : ∀ {ps : List Nat} {pl tk tk' pl'}, draw ls n ps pl tk = (some tk', pl') → (∃ p ∈ ps, ¬ p < 4) → n < 4 := by
  intro ps
  induction ps with
  | nil => intro pl tk tk' pl' _ h; obtain ⟨p, hp, _⟩ := h; cases hp
  | cons p ps ih =>
    intro pl tk tk' pl' h hx
    unfold draw at h
    split at h
    · rename_i hp
      split at h
      · cases h
      · refine ih h ?_
        obtain ⟨q, hq, hn⟩ := hx
        rcases List.mem_cons.mp hq with rfl | hq
        · exact absurd hp hn
        · exact ⟨q, hq, hn⟩
    · split at h
      · cases h
      · omega

theorem runs_total (ls : Nat → List Int) (way : Nat) (ps : List Nat) (hp : ps ≠ []) : ∀ (k n : Nat) (pl : Nat → Nat) (out : List Item), left ls pl + (4 - n) ≤ k → ∃ r pl', Runs ls way ps n pl out r pl' := by
  intro k
  induction k with
  | zero =>
    intro n pl out hk
    rcases hd : draw ls n ps pl [] with ⟨r, pl'⟩
    cases r with
    | none => exact ⟨_, _, .stop hd⟩
    | some tk =>
      cases ps with
      | nil => exact absurd rfl hp
      | cons p ps => have := draw_less hd; omega
  | succ k ih =>
    intro n pl out hk
    rcases hd : draw ls n ps pl [] with ⟨r, pl'⟩
    cases r with
    | none => exact ⟨_, _, .stop hd⟩
    | some tk =>
      by_cases hb : bad way tk
      · exact ⟨_, _, .raised hd hb⟩
      · have hl : left ls pl' + (4 - (n + 1)) < left ls pl + (4 - n) := by
          cases ps with
          | nil => exact absurd rfl hp
          | cons p ps => have := draw_less hd; omega
        obtain ⟨r, pl'', hr⟩ := ih (n + 1) pl' (out ++ [itemOf way tk]) (by omega)
        exact ⟨r, pl'', .turn hd hb hr⟩

theorem runs_none {ls way ps n pl out r pl' q} (H : Runs ls way ps n pl out r pl') (h : draw ls n ps pl [] = (none, q)) : r = some out ∧ pl' = q := by
  cases H with
  | stop hd => rw [h] at hd; cases hd; exact ⟨rfl, rfl⟩
  | raised hd _ => rw [h] at hd; cases hd
  | turn hd _ _ => rw [h] at hd; cases hd
theorem runs_some {ls way ps n pl out r pl' tk q} (H : Runs ls way ps n pl out r pl') (h : draw ls n ps pl [] = (some tk, q)) :
    (bad way tk ∧ r = none ∧ pl' = q) ∨ (¬ bad way tk ∧ Runs ls way ps (n + 1) q (out ++ [itemOf way tk]) r pl') := by
  cases H with
  | stop hd => rw [h] at hd; cases hd
  | raised hd hb => rw [h] at hd; cases hd; exact .inl ⟨hb, rfl, rfl⟩
  | turn hd hb hr => rw [h] at hd; cases hd; exact .inr ⟨hb, hr⟩

/-- what a run leaves: places only grow, and stay in the lists -/
theorem draw_places {ls n} : ∀ {ps : List Nat} {pl : Nat → Nat} {tk r pl'}, draw ls n ps pl tk = (r, pl') → (∀ p, p < 4 → pl p ≤ (ls p).length) → ∀ p, p < 4 → pl' p ≤ (ls p).length := by
  intro ps
  induction ps with
  | nil => intro pl tk r pl' h hl; cases h; exact hl
  | cons p ps ih =>
    intro pl tk r pl' h hl
    unfold draw at h
    split at h
    · rename_i hp
      split at h
      · cases h; exact hl
      · rename_i v hv
        have hlt : pl p < (ls p).length := (List.getElem?_eq_some_iff.mp hv).1
        refine ih h fun q hq => ?_
        unfold bump
        split
        · rename_i e; subst e; exact hlt
        · exact hl q hq
    · split at h
      · cases h; exact hl
      · exact ih h hl
theorem runs_places {ls way ps n pl out r pl'} (h : Runs ls way ps n pl out r pl') : (∀ p, p < 4 → pl p ≤ (ls p).length) → ∀ p, p < 4 → pl' p ≤ (ls p).length := by
  induction h with
  | stop hd => exact fun hl => draw_places hd hl
  | raised hd _ => exact fun hl => draw_places hd hl
  | turn hd _ _ ih => exact fun hl => ih (draw_places hd hl)

end Mine
end

/-! part MapN -/
section
open PySem PySem.W PySem.Calls PyProof.Rows
namespace Mine
set_option maxRecDepth 100000

/-- the kept iterators, at their places -/
def KeptOk (ls : Nat → List Int) (ka ks : Nat → Addr) (h : Heap) (pl : Nat → Nat) : Prop := ∀ p, p < 4 → It h (ka p) (some (ks p)) (ls p) (pl p)
def KeptNe (ka : Nat → Addr) : Prop := ∀ p q, p < 4 → q < 4 → ka p = ka q → p = q
def four : List Int := [0, 1, 2, 3]
theorem four_upto : four = upto 4 := by decide

/-- the rows' iterators, ahead of turn n -/
inductive RowsAt (P : Addr → Prop) (ka : Nat → Addr) (h : Heap) (n : Nat) : List Nat → List Addr → Prop where
  | nil : RowsAt P ka h n [] []
  | kept {p ps as} : p < 4 → RowsAt P ka h n ps as → RowsAt P ka h n (p :: ps) (ka p :: as)
  | fresh {p ps a as src} : ¬ p < 4 → It h a src four n → (∀ b, src = some b → P b) → (∀ q, q < 4 → ka q ≠ a) → a ∉ as → RowsAt P ka h n ps as → RowsAt P ka h n (p :: ps) (a :: as)

theorem RowsAt.its {P ls ka ks h n ps as pl} (R : RowsAt P ka h n ps as) (K : KeptOk ls ka ks h pl) : ∀ b ∈ as, IsIt h b := by
  induction R with
  | nil => intro b hb; cases hb
  | kept hp _ ih => intro b hb; rcases List.mem_cons.mp hb with rfl | hb; exact (K _ hp).isIt; exact ih b hb
  | fresh _ hi _ _ _ _ ih => intro b hb; rcases List.mem_cons.mp hb with rfl | hb; exact hi.isIt; exact ih b hb

/-- one address is changed, which is no fresh row's -/
theorem RowsAt.stay {P ka h h' n ps as b} (R : RowsAt P ka h n ps as) (s : Stay [b] h h') (hb : IsIt h b) (hn : (∃ q, q < 4 ∧ ka q = b) ∨ b ∉ as) : RowsAt P ka h' n ps as := by
  induction R with
  | nil => exact .nil
  | kept hp _ ih => exact .kept hp (ih (hn.imp id fun x q => x (List.mem_cons_of_mem _ q)))
  | @fresh p ps a as src hp hi hP hk ha _ ih =>
    refine .fresh hp (hi.stay s (fun q => ?_) (by intro c hc; rw [List.mem_singleton.mp hc]; exact hb)) hP hk ha (ih (hn.imp id fun x q => x (List.mem_cons_of_mem _ q)))
    have e := List.mem_singleton.mp q
    rcases hn with ⟨q, hq, e'⟩ | hn
    · exact hk q hq (e'.trans e.symm)
    · exact hn (by rw [e]; exact List.mem_cons_self)

/-- what is changed is no iterator of theirs and no source -/
theorem RowsAt.stayS {P ka h h' n ps as W} (R : RowsAt P ka h n ps as) (s : Stay W h h') (hw : ∀ b ∈ W, b ∉ as) (hs : ∀ b, P b → b ∉ W) : RowsAt P ka h' n ps as := by
  induction R with
  | nil => exact .nil
  | kept hp _ ih => exact .kept hp (ih fun b hb q => hw b hb (List.mem_cons_of_mem _ q))
  | @fresh p ps a as src hp hi hP hk ha _ ih =>
    exact .fresh hp (hi.stayS s (fun q => hw a q List.mem_cons_self) fun b e => hs b (hP b e)) hP hk ha (ih fun b hb q => hw b hb (List.mem_cons_of_mem _ q))
theorem RowsAt.imp {P P' : Addr → Prop} {ka h n ps as} (R : RowsAt P ka h n ps as) (x : ∀ b, P b → P' b) : RowsAt P' ka h n ps as := by
  induction R with
  | nil => exact .nil
  | kept hp _ ih => exact .kept hp ih
  | fresh hp hi hP hk ha _ ih => exact .fresh hp hi (fun b e => x b (hP b e)) hk ha ih
theorem RowsAt.length {P ka h n ps as} (R : RowsAt P ka h n ps as) : as.length = ps.length := by
  induction R with
  | nil => rfl
  | kept _ _ ih => simp [ih]
  | fresh _ _ _ _ _ _ ih => simp [ih]

theorem KeptOk.bump {ls ka ks h h' pl p} (K : KeptOk ls ka ks h pl) (hne : KeptNe ka) (hp : p < 4) (hi : It h' (ka p) (some (ks p)) (ls p) (pl p + 1)) (s : Stay [ka p] h h') : KeptOk ls ka ks h' (bump pl p) := by
  intro q hq
  unfold Mine.bump
  split
  · rename_i e; subst e; exact hi
  · rename_i e
    exact (K q hq).stay s (fun x => e (hne q p hq hp (List.mem_singleton.mp x))) (by intro c hc; rw [List.mem_singleton.mp hc]; exact (K p hp).isIt)
theorem KeptOk.same {ls ka ks h h' pl p} (K : KeptOk ls ka ks h pl) (hne : KeptNe ka) (hp : p < 4) (hi : It h' (ka p) (some (ks p)) (ls p) (pl p)) (s : Stay [ka p] h h') : KeptOk ls ka ks h' pl := by
  intro q hq
  by_cases e : q = p
  · subst e; exact hi
  · exact (K q hq).stay s (fun x => e (hne q p hq hp (List.mem_singleton.mp x))) (by intro c hc; rw [List.mem_singleton.mp hc]; exact (K p hp).isIt)
theorem KeptOk.other {ls ka ks h h' pl b} (K : KeptOk ls ka ks h pl) (hb : IsIt h b) (hn : ∀ q, q < 4 → ka q ≠ b) (s : Stay [b] h h') : KeptOk ls ka ks h' pl :=
  fun q hq => (K q hq).stay s (fun x => hn q hq (List.mem_singleton.mp x)) (by intro c hc; rw [List.mem_singleton.mp hc]; exact hb)

theorem four_get {n : Nat} (h : ¬ 4 ≤ n) : four[n]? = some (n : Int) := by
  have : n = 0 ∨ n = 1 ∨ n = 2 ∨ n = 3 := by omega
  rcases this with rfl | rfl | rfl | rfl <;> rfl
theorem four_none {n : Nat} (h : 4 ≤ n) : four[n]? = none := List.getElem?_eq_none_iff.mpr (by simpa [four] using h)
theorem intsAre_snoc {vs : List Value} {ns : List Int} (h : IntsAre vs ns) (v : Int) (t : Tok) : IntsAre (vs ++ [.int v t]) (ns ++ [v]) := by
  induction h with
  | nil => exact .cons v t .nil
  | cons n u _ ih => exact .cons n u ih
theorem stay_sub {W V : List Addr} {h h' : Heap} (s : Stay W h h') (x : ∀ b ∈ W, b ∈ V) : Stay V h h' := s.mono x

section
variable {prog : Program} {w : World} {A : Around} {E : Value → Shared → Prop}
/-- a turn's draws end so -/
def DrawEnd (P : Addr → Prop) (ls : Nat → List Int) (ka ks : Nat → Addr) (n : Nat) (ps : List Nat) (as : List Addr) (s : Shared) (Q : Array Value → Shared → Prop) (E : Value → Shared → Prop) : Option (List Int) × (Nat → Nat) → Prop
  | (some tk', pl') => ∀ h' toks items', KeptOk ls ka ks h' pl' → RowsAt P ka h' (n + 1) ps as → IntsAre items' tk' → Stay as s.heap h' → Q items'.toArray { s with heap := h', toks := toks }
  | (none, pl') => ∀ h' toks e, KeptOk ls ka ks h' pl' → Stay as s.heap h' → s.heap.get? e = none → (∃ o, h'.get? e = some o ∧ o.cls = .type "StopIteration") → E (.ref e) { s with heap := h', toks := toks }

theorem draw_wp {P : Addr → Prop} {ls : Nat → List Int} {ka ks : Nat → Addr} {n : Nat} (hh : A.handled = none) (hne : KeptNe ka) : ∀ (ps : List Nat) (as : List Addr) (pl : Nat → Nat) (tk : List Int) (items : List Value) (s : Shared) (Q : Array Value → Shared → Prop),
    RowsAt P ka s.heap n ps as → KeptOk ls ka ks s.heap pl → IntsAre items tk → DrawEnd P ls ka ks n ps as s Q E (draw ls n ps pl tk) →
    wpAny (model prog w) A (forIn (as.map Value.ref) items.toArray fun it (r : Array Value) => do
      let x ← holding r.toList (Builtin.SmallTypes.nextOf it)
      pure (ForInStep.yield (r.push x))) Q E s := by
  intro ps
  induction ps with
  | nil =>
    intro as pl tk items s Q R K hi H
    cases R
    simp only [List.map_nil, List.forIn_nil]
    refine wpAny_pure ?_
    have := H s.heap s.toks items K .nil hi Stay.refl
    exact this
  | cons p ps ih =>
    intro as pl tk items s Q R K hi H
    cases R with
    | @kept _ _ as hp R =>
      simp only [List.map_cons, List.forIn_cons]
      refine wpAny_bind (wpAny_bind (wpAny_holding ?_))
      have hIt := K p hp
      unfold draw at H
      rw [if_pos hp] at H
      cases hv : (ls p)[pl p]? with
      | none =>
        rw [hv] at H
        refine next_end hh hIt hv fun h' e hi' hs he ho => H h' s.toks e (K.same hne hp hi' hs) (stay_sub hs (by intro b hb; rw [List.mem_singleton.mp hb]; exact List.mem_cons_self)) he ho
      | some v =>
        rw [hv] at H
        dsimp only at H
        refine next_some hIt hv fun h' tk' t hi' hs => wpAny_pure ?_
        dsimp only
        have K' := K.bump hne hp hi' hs
        have R' := R.stay hs hIt.isIt (.inl ⟨p, hp, rfl⟩)
        have hI' := intsAre_snoc hi v t
        have e : items.toArray.push (Value.int v t) = (items ++ [Value.int v t]).toArray := by simp
        rw [e]
        refine ih as _ _ _ { s with heap := h', toks := tk' } Q R' K' hI' ?_
        have up : ∀ h'', Stay as h' h'' → Stay (ka p :: as) s.heap h'' := fun h'' x => Stay.trans (stay_sub hs (by intro b hb; rw [List.mem_singleton.mp hb]; exact List.mem_cons_self)) (stay_sub x fun b hb => List.mem_cons_of_mem _ hb)
        revert H
        rcases draw ls n ps (bump pl p) (tk ++ [v]) with ⟨r, pl'⟩
        intro H
        cases r with
        | some tk'' => exact fun h'' toks items' K'' R'' hi'' hs'' => H h'' toks items' K'' (.kept hp R'') hi'' (up h'' hs'')
        | none =>
          exact fun h'' toks e K'' hs'' he ho => H h'' toks e K'' (up h'' hs'') (by
            cases q : s.heap.get? e with
            | none => rfl
            | some o =>
              by_cases hea : e = ka p
              · subst hea; obtain ⟨o', ho', _⟩ := hi'.isIt; rw [show Heap.get? h' (ka p) = none from he] at ho'; cases ho'
              · have := hs e o (by simpa using hea) q
                rw [show Heap.get? h' e = none from he] at this; cases this) ho
    | @fresh _ _ a as src hp hIt hP hk ha R =>
      simp only [List.map_cons, List.forIn_cons]
      refine wpAny_bind (wpAny_bind (wpAny_holding ?_))
      unfold draw at H
      rw [if_neg hp] at H
      by_cases hn : 4 ≤ n
      · rw [if_pos hn] at H
        refine next_end hh hIt (four_none hn) fun h' e hi' hs he ho => H h' s.toks e (K.other hIt.isIt hk hs) (stay_sub hs (by intro b hb; rw [List.mem_singleton.mp hb]; exact List.mem_cons_self)) he ho
      · rw [if_neg hn] at H
        refine next_some hIt (four_get hn) fun h' tk' t hi' hs => wpAny_pure ?_
        dsimp only
        have K' := K.other hIt.isIt hk hs
        have R' := R.stay hs hIt.isIt (.inr ha)
        have hI' := intsAre_snoc hi n t
        have e : items.toArray.push (Value.int n t) = (items ++ [Value.int n t]).toArray := by simp
        rw [e]
        refine ih as _ _ _ { s with heap := h', toks := tk' } Q R' K' hI' ?_
        have up : ∀ h'', Stay as h' h'' → Stay (a :: as) s.heap h'' := fun h'' x => Stay.trans (stay_sub hs (by intro b hb; rw [List.mem_singleton.mp hb]; exact List.mem_cons_self)) (stay_sub x fun b hb => List.mem_cons_of_mem _ hb)
        revert H
        rcases draw ls n ps pl (tk ++ [(n : Int)]) with ⟨r, pl'⟩
        intro H
        cases r with
        | some tk'' =>
          refine fun h'' toks items' K'' R'' hi'' hs'' => H h'' toks items' K'' (.fresh hp (hi'.stay (W := as) hs'' ha fun b hb => ?_) hP hk ha R'') hi'' (up h'' hs'')
          exact R'.its K' b hb
        | none =>
          exact fun h'' toks e K'' hs'' he ho => H h'' toks e K'' (up h'' hs'') (by
            cases q : s.heap.get? e with
            | none => rfl
            | some o =>
              by_cases hea : e = a
              · subst hea; obtain ⟨o', ho', _⟩ := hi'.isIt; rw [show Heap.get? h' e = none from he] at ho'; cases ho'
              · have := hs e o (by simpa using hea) q
                rw [show Heap.get? h' e = none from he] at this; cases this) ho
end
end Mine
end

/-! part MapP -/
section
open PySem PySem.W PySem.Calls PyProof.Rows
namespace Mine
set_option maxRecDepth 100000
section
variable {prog : Program} {w : World} {A : Around} {E : Value → Shared → Prop} {s : Shared}

/-- one more of the map: asked by a walk -/
theorem map_pyNext {P : Addr → Prop} {ls : Nat → List Int} {ka ks : Nat → Addr} {n : Nat} {ps : List Nat} {as : List Addr} {pl : Nat → Nat} {mp its : Addr} {f : Value} {Q : Option Value → Shared → Prop}
    (hh : A.handled = none) (hne : KeptNe ka) (hm : s.heap.get? mp = some (itObj "map" #[.ref its, f])) (ht : s.heap.IsTuple its (as.map Value.ref).toArray) (hmp : mp ∉ as)
    (R : RowsAt P ka s.heap n ps as) (K : KeptOk ls ka ks s.heap pl)
    (H : DrawEnd P ls ka ks n ps as s (fun items s' => wpAny (model prog w) A.in1 (call f items.toList) (fun v s'' => Q (some v) s'')
        (fun e s'' => wpAny (model prog w) A (isInstance e (.type "StopIteration") >>= fun b => if b = true then pure none else throw e) Q E s'') s')
      (fun _ s' => Q none s') (draw ls n ps pl [])) :
    wpAny (model prog w) A (pyNext (.ref mp)) Q E s := by
  have hT : s.TypeIs (.ref mp) "map" := ⟨_, hm, rfl⟩
  have hin : A.in1.handled = none := hh
  unfold pyNext
  refine wpAny_bind (wpAny_attempt (wpAny_callSpecial?_slot (name := Str.ofString "__next__") hT slot_map_next
    (wpAny_call_entry slot_map_next hT entry_map_next ?_ (args_map_next _))))
  obtain ⟨ot, hot, _, nt, hdt⟩ := ht
  show wpAny _ _ (field (.ref mp) 0 >>= _) _ _ s
  refine wpAny_bind (wpAny_field hm rfl (x := .ref its) rfl ?_)
  refine wpAny_bind (wpAny_seqItems hot hdt ?_)
  dsimp only
  refine wpAny_bind ?_
  rw [← Array.forIn_toList]
  refine draw_wp hin hne ps as pl [] [] s _ R K .nil ?_
  revert H
  rcases draw ls n ps pl [] with ⟨r, pl'⟩
  intro H
  cases r with
  | some tk =>
    intro h' toks items' K' R' hi hs
    have H' := H h' toks items' K' R' hi hs
    have hm' : h'.get? mp = some (itObj "map" #[.ref its, f]) := hs _ _ hmp hm
    refine wpAny_bind (wpAny_field hm' rfl (x := f) rfl ?_)
    refine wpAny_bind (wpAny_holding (wpAny_mono H' (fun v s'' q => ?_) fun e s'' q => ?_))
    · refine wpAny_bind (wpAny_letGo (wpAny_pure ⟨v, rfl, ?_⟩))
      exact wpAny_pure q
    · exact q
  | none =>
    intro h' toks e K' hs he ho
    have H' := H h' toks e K' hs he ho
    obtain ⟨o, ho, hc⟩ := ho
    refine wpAny_bind (wpAny_isInstance (T := "StopIteration") (b := true) ⟨o, ho, hc⟩ isSubtype_stop ?_)
    exact wpAny_pure H'

theorem map_self {mp : Addr} {fs : Array Value} {Q : Value → Shared → Prop} (hm : s.heap.get? mp = some (itObj "map" fs)) (hQ : Q (.ref mp) s) : wpAny (model prog w) A (pyIter (.ref mp)) Q E s := by
  have hT : s.TypeIs (.ref mp) "map" := ⟨_, hm, rfl⟩
  refine wpAny_pyIter_slot hT slot_map_iter (wpAny_call_entry slot_map_iter hT entry_map_iter ?_ (args_map_iter _))
  show wpAny _ _ (ret (.ref mp)) _ _ s
  exact wpAny_pure ⟨_, rfl, "map", _, hT, slot_map_next.lookup, hQ⟩
end
end Mine
end

/-! part Fns -/
section
open PySem PySem.W PySem.Calls PyProof.Rows
namespace Mine
set_option maxRecDepth 100000
set_option maxHeartbeats 1000000
def Stop (p : Prop) : Prop := p
theorem stop {p : Prop} (h : Stop p) : p := h

abbrev tupObj (vs : List Value) : Obj := { cls := .type "tuple", data := .seq vs.toArray }

theorem NoLimit_push {h h₁ : Heap} {o o' : Obj} (x : h.NoLimit) (hsb : Heap.SameBut (h.push o).objs.size ((h.push o).push o') h₁) : h₁.NoLimit := by
  have y : (h.push o).NoLimit := x.keeps fun b p e => Heap.get?_push_of_some _ e
  exact y.fresh _ hsb

/-- the binder, for a def of one *rest -/
theorem bind_rest {M : Model} {A : Around} {E : Value → Shared → Prop} {s : Shared} {name qual : Str} {ar : Arg} {body : List Stmt} {scope : Scope} {kV doc pm cdv ct : Value} {an : Option Addr} {vs : List Value} {Q : List (Str × Value) → Shared → Prop}
    (hz : vs.length ≤ sizeLine) (h : Q [(ar.arg, .ref s.heap.objs.size)] { s with heap := s.heap.push (tupObj vs) }) :
    wpAny M A (bindArgs (fnOf name qual { posonlyargs := [], args := [], vararg := some ar, kwonlyargs := [], kw_defaults := [], kwarg := none, defaults := [] } body scope .none kV doc pm an cdv ct) ⟨vs, []⟩) Q E s := by
  have e : ∀ v : Value, v = .none → wpAny M A (seqItems? v) (fun r s' => r = none ∧ s' = s) E s := by
    rintro _ rfl
    exact wpAny_of_eq (a := none) rfl ⟨rfl, rfl⟩
  unfold bindArgs
  simp only [List.map_nil, List.nil_append, List.zip_nil_left, List.forIn_nil, List.length_nil]
  refine wpAny_bind (wpAny_pure ?_)
  refine wpAny_bind (wpAny_mono (e _ rfl) (fun r s' hr => ?_) fun _ _ x => x)
  obtain ⟨rfl, rfl⟩ := hr
  simp only [List.isEmpty_nil, Option.isNone_some, Bool.and_false, Bool.false_eq_true, if_false, Option.getD_none, List.length_nil, List.drop_nil, List.take_nil, List.filter_nil, Bool.not_true, List.zip_nil_left, List.forIn_nil, List.filterMap_nil, List.drop_zero, pure_bind, bind_pure_comp, Nat.sub_zero, Nat.zero_sub]
  refine wpAny_map (wpAny_newObj_type h ?_)
  show vs.toArray.size ≤ sizeLine
  rw [List.size_toArray]; exact hz

theorem enterV {prog : Program} {w : World} {A : Around} {R : Result → Shared → Prop} {s : Shared} {K : Frag} (W : List Addr)
    {name qual : Str} {ar : Arg} {body : List Stmt} {scope : Scope} {kV doc pm cdv ct oc : Value} {an od : Option Addr} {osl : Array (Option Value)} {f : Addr} {vs : List Value}
    (X : K.In s.heap) (hlim : s.heap.NoLimit)
    (ho : K.lookup f = some ⟨oc, od, .func (fnOf name qual { posonlyargs := [], args := [], vararg := some ar, kwonlyargs := [], kw_defaults := [], kwarg := none, defaults := [] } body scope .none kV doc pm an cdv ct), osl⟩) (hcd : codeIn K cdv qual = true) (hroom : A.depth < recursionLimit)
    (hz : vs.length ≤ sizeLine) (hloc : scope.names.lookup ar.arg = some .local)
    (h : ∀ D L' h₁, D = s.heap.objs.size → L' = s.heap.objs.size + 1 → Fr (hideAll s.heap W) L' h₁ (fun y => [(ar.arg, Value.ref D)].lookup y) → News (hideAll s.heap W) L' h₁ [(D, tupObj vs)] → (∀ b o, s.heap.get? b = some o → h₁.get? b = some o) →
      wpAny (model prog w) (A.deeper (envOf qual scope L' f cdv)) (execs body (envOf qual scope L' f cdv))
        (fun fl s' => R (.ok (.ret (match fl with | .ret v => v | _ => .none))) s')
        (fun e s' => wpAny (model prog w) (A.deeper (envOf qual scope L' f cdv)) (leaving (envOf qual scope L' f cdv) e) (fun _ s'' => R (.error e) s'') (fun e' s'' => R (.error e') s'') s')
        { s with heap := h₁, toks := s.toks + 1 })
    (hco : scope.isCoroutine = false) (hgen : scope.isGenerator = false) (hk : scope.kind = .function)
    (hcell : ∀ x ∈ scope.names, x.2 ≠ .cell) : codeAny (model prog w) A (.call (.ref f) ⟨vs, []⟩) R s := by
  refine codeAny_call_function (fd := fnOf name qual _ body scope .none kV doc pm an cdv ct) (body := body) hroom (X _ _ ho) rfl hco hgen rfl (codeRec_of X hcd) ?_
  refine bind_rest hz ?_
  refine wpAny_newFunctionEnv hcell ?_ (fun h₁ hns hsb => ⟨NoLimit_push hlim hsb, codeAny_func ?_⟩) hk
  · intro y hy; rw [List.mem_singleton.mp hy]; exact hloc
  · dsimp only at hns hsb
    have hz1 : (s.heap.push (tupObj vs)).objs.size = s.heap.objs.size + 1 := Heap.size_push ..
    rw [hz1] at hns hsb
    have up : ∀ b o, (s.heap.push (tupObj vs)).get? b = some o → h₁.get? b = some o := fun b o e => hsb.extBut b o (Nat.ne_of_lt (by have := Heap.lt_size e; rw [hz1] at this; exact this)) (Heap.get?_push_of_some _ e)
    have hk₁ : ∀ b o, s.heap.get? b = some o → h₁.get? b = some o := fun b o e => up b o (Heap.get?_push_of_some _ e)
    have hD : s.heap.get? s.heap.objs.size = none := Heap.get?_none_of_le (Nat.le_refl _)
    have hDg : (hideAll s.heap W).get? s.heap.objs.size = none := by
      cases q : (hideAll s.heap W).get? s.heap.objs.size with
      | none => rfl
      | some o => have := of_hideAll W q; rw [hD] at this; cases this
    have := h s.heap.objs.size (s.heap.objs.size + 1) h₁ rfl rfl ⟨hns, fun b o e => hk₁ b o (of_hideAll _ e), by rw [hideAll_size]; exact Nat.le_succ _⟩
      (fun p hp => by rw [List.mem_singleton.mp hp]; exact ⟨up _ _ (Heap.get?_push_size _ rfl), Nat.ne_of_lt (Nat.lt_succ_self _), hDg⟩) hk₁
    rw [hz1]
    exact this
end Mine
end

/-! part Fns2 -/
section
open PySem PySem.W PySem.Calls PyProof.Rows
namespace Mine
set_option maxRecDepth 100000
set_option maxHeartbeats 1000000
theorem fill2 : (PySem.Challenge.rw_ki0062_01 = PySem.Challenge.rw_ki0062_01) ∧ (hd.heap_39 = hd.heap_39) := by
  k_fill; exact ⟨rfl, rfl⟩
theorem Stay.of_fr0 {h h' : Heap} {L : Addr} {m} (F : Fr h L h' m) : Stay [] h h' := fun b o _ e => F.keep b o e
local macro_rules | `(tactic| walk_at "mine") => `(tactic| repeat' (first | walk1 | (dsimp only; walk1)))
section
variable {prog : Program} {w : World} {A : Around} {Q : Value → Shared → Prop} {E : Value → Shared → Prop} {s : Shared} {mean : ExcName → Option Value} {mg mb : Str → Option Value}

theorem all_call {vs : List Value} (G : Gd w mean mg mb s.heap) (hroom : A.depth < recursionLimit) (hz : vs.length ≤ sizeLine)
    (hQ : ∀ h' tk t, Stay [] s.heap h' → s.heap.get? t = none → h'.get? t = some (tupObj vs) → Q (.ref t) { s with heap := h', toks := tk }) :
    wpAny (model prog w) A (call (.ref 28) vs) Q E s := by
  refine wpAny_call ?_
  refine enterV [] G.X G.T.nolimit (by k_is) (by k_is) hroom hz rfl (fun D L' h₁ hD hL F N hk => ?_) rfl rfl rfl (by decide)
  replace F : Fr s.heap L' h₁ _ := F
  replace N : News s.heap L' h₁ [(D, tupObj vs)] := N
  have hDn := (N _ (.head _)).2.2
  have X := G.X
  have T := G.T
  dsimp only
  w_on
  w_strict (walk_at "mine")
  exact hQ h₁ _ D (fun b o _ e => hk b o e) hDn (N _ (.head _)).1

theorem sum_call {vs : List Value} {ns : List Int} (G : Gd w mean mg mb s.heap) (hroom : A.depth < recursionLimit) (hh : A.handled = none) (hz : vs.length ≤ sizeLine) (hi : IntsAre vs ns)
    (hQ : ∀ h' tk t, Stay [] s.heap h' → Q (.int ns.sum t) { s with heap := h', toks := tk }) :
    wpAny (model prog w) A (call (.ref 35) vs) Q E s := by
  refine wpAny_call ?_
  refine enterV [] G.X G.T.nolimit (by k_is) (by k_is) hroom hz rfl (fun D L' h₁ hD hL F N hk => ?_) rfl rfl rfl (by decide)
  replace F : Fr s.heap L' h₁ _ := F
  replace N : News s.heap L' h₁ [(D, tupObj vs)] := N
  have hDn := (N _ (.head _)).2.2
  have X := G.X
  have T := G.T
  dsimp only
  w_on
  w_strict (walk_at "mine")
  exact ktm_sumK hh F N (.head _) hi fun h' tk' t' F' N' => hQ h' tk' t' (Stay.of_fr0 F')

theorem picky_call {vs : List Value} {ns : List Int} (G : Gd w mean mg mb s.heap) (hroom : A.depth < recursionLimit) (hh : A.handled = none) (hz : vs.length ≤ sizeLine) (hi : IntsAre vs ns)
    (hQ : ¬ ns.sum.fmod 5 = 2 → ∀ h' tk t, Stay [] s.heap h' → Q (.int ns.sum t) { s with heap := h', toks := tk })
    {B : Heap} {outer : List Env} (hA : A.frames = some outer) (hB : B.StaysIn s.heap) (hFF : s.heap.FunFrames B outer)
    (hE : ns.sum.fmod 5 = 2 → ∀ h' tk e t, Heap.FlyingW B outer e (.type "ValueError") (.ref t) h' → s.heap.UpToSlots h' → E (.ref e) { s with heap := h', toks := tk }) :
    wpAny (model prog w) A (call (.ref 42) vs) Q E s := by
  refine wpAny_call ?_
  refine enterV [] G.X G.T.nolimit (by k_is) (by k_is) hroom hz rfl (fun D L' h₁ hD hL F N hk => ?_) rfl rfl rfl (by decide)
  replace F : Fr s.heap L' h₁ _ := F
  replace N : News s.heap L' h₁ [(D, tupObj vs)] := N
  have hDn := (N _ (.head _)).2.2
  have X := G.X
  have T := G.T
  dsimp only
  w_on
  w_strict (walk_at "mine")
  refine ktm_sumK hh F N (.head _) hi fun h' tk' t' F' N' => ?_
  clear F N
  w_strict (walk_at "mine")
  · rename_i hbad
    refine Raise_madeB PySem.F.excCall_ValueError PySem.F.excRaise_ValueError hh ?_
    w_strict walk1
    refine ⟨rfl, ?_⟩
    w_strict (walk_at "mine")
    rename_i h₂ e hx
    have hx' : Heap.MadeExcOf h' h₂ e (.type "ValueError") [Value.str (Str.ofString "not this one") tk] := ⟨hx.keeps, hx.new, hx.there⟩
    have hLB : B.get? L' = none := by
      cases q : B.get? L' with
      | none => rfl
      | some o => exact absurd (Nat.lt_of_lt_of_le (Heap.lt_size (hB _ _ q)) F'.above) (Nat.lt_irrefl _)
    refine wpAny_leaves_madeW (Around.frames_deeper hA) rfl (fun b o q => F'.keep b o (hB b o q)) (Heap.FunFrames.cons (show ScopeKind.function ≠ ScopeKind.module by decide) rfl F'.ns hLB (hFF.of_keeps fun b o q _ => ⟨o, F'.keep b o q, rfl⟩)) hx' fun h₃ t hfl _ _ hup => ?_
    exact hE hbad h₃ _ e t hfl (((Heap.UpToSlots.of_keeps F'.keep).trans (Heap.UpToSlots.of_keeps hx.keeps)).trans hup)
  · rename_i hbad
    exact ktm_sumK hh F' N' (.head _) hi fun h' tk' t' F' N' => hQ hbad h' tk' t' (Stay.of_fr0 F')
end
end Mine
end

/-! part Ext -/
section
open PySem PySem.W PySem.Calls PyProof.Rows
namespace Mine
set_option maxRecDepth 100000
set_option maxHeartbeats 1000000

inductive ItemIs (h : Heap) : Value → Item → Prop where
  | num (x : Int) (t : Tok) : ItemIs h (.int x t) (.num x)
  | tup {a : Addr} {vs : List Value} {xs : List Int} : h.get? a = some (tupObj vs) → IntsAre vs xs → ItemIs h (.ref a) (.tup xs)
inductive ItemsAre (h : Heap) : List Value → List Item → Prop where
  | nil : ItemsAre h [] []
  | cons {v x vs xs} : ItemIs h v x → ItemsAre h vs xs → ItemsAre h (v :: vs) (x :: xs)
theorem ItemsAre.snoc {h vs xs v x} (a : ItemsAre h vs xs) (b : ItemIs h v x) : ItemsAre h (vs ++ [v]) (xs ++ [x]) := by
  induction a with
  | nil => exact .cons b .nil
  | cons c _ ih => exact .cons c ih
theorem ItemsAre.length {h vs xs} (a : ItemsAre h vs xs) : vs.length = xs.length := by
  induction a with
  | nil => rfl
  | cons _ _ ih => simp [ih]
/-- none of these is a tuple -/
def NoTup (h : Heap) (W : List Addr) : Prop := ∀ b ∈ W, ∀ vs, h.get? b ≠ some (tupObj vs)
theorem ItemIs.stay {h h' W v x} (a : ItemIs h v x) (s : Stay W h h') (n : NoTup h W) : ItemIs h' v x := by
  cases a with
  | num x t => exact .num x t
  | tup ho hi => exact .tup (s _ _ (fun q => n _ q _ ho) ho) hi
theorem ItemsAre.stay {h h' W vs xs} (a : ItemsAre h vs xs) (s : Stay W h h') (n : NoTup h W) : ItemsAre h' vs xs := by
  induction a with
  | nil => exact .nil
  | cons b _ ih => exact .cons (b.stay s n) ih
theorem IsIt.noTup {h b} (x : IsIt h b) (vs : List Value) : h.get? b ≠ some (tupObj vs) := by
  intro e
  obtain ⟨o, ho, hc⟩ := x
  rw [ho] at e; cases e; simp at hc

def fa : Nat → Addr
  | 0 => 28
  | 1 => 35
  | _ => 42

theorem funFrames_stay {W : List Addr} {base h h' : Heap} : ∀ {l : List Env}, h.FunFrames base l → Stay W h h' → (∀ L ∈ l.filterMap (·.frame), L ∉ W) → h'.FunFrames base l
  | [], _, _, _ => trivial
  | env :: r, ⟨hk, ⟨L, o, hf, hn, ho, hd⟩, hr⟩, s, hw => by
    rw [List.filterMap_cons, hf] at hw
    exact ⟨hk, ⟨L, o, hf, hn, s _ _ (hw L List.mem_cons_self) ho, hd⟩, funFrames_stay hr s fun L' hL' => hw L' (List.mem_cons_of_mem _ hL')⟩
theorem funFrames_hide' {base h : Heap} {l : List Env} (x : h.FunFrames base l) : h.FunFrames (hideAll h (l.filterMap (·.frame))) l :=
  funFrames_hide x fun env he a ha => List.mem_filterMap.mpr ⟨env, he, ha⟩

section
variable {prog : Program} {w : World} {A : Around} {Q : Value → Shared → Prop} {E : Value → Shared → Prop} {s : Shared} {mean : ExcName → Option Value} {mg mb : Str → Option Value}

theorem fn_call {way : Nat} {vs : List Value} {ns : List Int} (hw : way < 3) (G : Gd w mean mg mb s.heap) (hroom : A.depth < recursionLimit) (hh : A.handled = none) (hz : vs.length ≤ sizeLine) (hi : IntsAre vs ns)
    {B : Heap} {outer : List Env} (hA : A.frames = some outer) (hB : B.StaysIn s.heap) (hFF : s.heap.FunFrames B outer)
    (hQ : ¬ bad way ns → ∀ h' tk v, Stay [] s.heap h' → ItemIs h' v (itemOf way ns) → Q v { s with heap := h', toks := tk })
    (hE : bad way ns → ∀ h' tk e t, Heap.FlyingW B outer e (.type "ValueError") (.ref t) h' → s.heap.UpToSlots h' → E (.ref e) { s with heap := h', toks := tk }) :
    wpAny (model prog w) A (call (.ref (fa way)) vs) Q E s := by
  have : way = 0 ∨ way = 1 ∨ way = 2 := by omega
  rcases this with rfl | rfl | rfl
  · exact all_call G hroom hz fun h' tk t hs _ ht => hQ (fun b => absurd b.1 (by decide)) h' tk _ hs (.tup ht hi)
  · exact sum_call G hroom hh hz hi fun h' tk t hs => hQ (fun b => absurd b.1 (by decide)) h' tk _ hs (.num _ t)
  · exact picky_call G hroom hh hz hi (fun hn h' tk t hs => hQ (fun b => hn b.2) h' tk _ hs (.num _ t)) hA hB hFF fun hb h' tk e t hf hu => hE ⟨rfl, hb⟩ h' tk e t hf hu
end

theorem Gd.keeps {w : World} {mean : ExcName → Option Value} {mg mb : Str → Option Value} {h h' : Heap} (G : Gd w mean mg mb h) (k : h.StaysIn h') : Gd w mean mg mb h' := ⟨G.X.keeps k, G.T.keeps k⟩
theorem staysIn_stay {h₀ h h' : Heap} {W : List Addr} (k : h₀.StaysIn h) (s : Stay W h h') (hw : ∀ b ∈ W, h₀.get? b = none) : h₀.StaysIn h' := fun b o e => s b o (fun q => by rw [hw b q] at e; cases e) (k b o e)
theorem sub_VE_stop : isSubtype (.type "ValueError") (.type "StopIteration") = pure false := by rw [isSubtype_type]; kernel_rfl
abbrev lstObj (vs : Array Value) (c : Nat) : Obj := { cls := .type "list", dict := none, data := .seq vs c, slots := #[] }

section
variable {prog : Program} {w : World} {A : Around} {mean : ExcName → Option Value} {mg mb : Str → Option Value}

theorem ext_loop {P : Addr → Prop} {ls : Nat → List Int} {ka ks : Nat → Addr} {way : Nat} {ps : List Nat} {as : List Addr} {mp its S : Addr} {res : Value} {h₀ : Heap} {outer : List Env} {bound : Nat} {R : Result → Shared → Prop}
    (hw : way < 3) (hh : A.handled = none) (hroom : A.depth < recursionLimit) (hA : A.frames = some outer) (hne : KeptNe ka) (G : Gd w mean mg mb h₀)
    (hW : ∀ b ∈ S :: as, h₀.get? b = none) (hS : S ∉ as) (hmp : mp ∉ S :: as) (hits : its ∉ S :: as) (hfr : ∀ L ∈ outer.filterMap (·.frame), L ∉ S :: as)
    (hP : ∀ b, P b → b ≠ S) (hks : ∀ p, p < 4 → ks p ≠ S) (hkS : ∀ p, p < 4 → ka p ≠ S) (hpn : ps.length ≤ sizeLine) (hps : ps ≠ []) (hbd : bound ≤ sizeLine) {n : Nat} {pl pl' : Nat → Nat} {out : List Item} {r : Option (List Item)}
    (H : Runs ls way ps n pl out r pl') : ∀ (s : Shared) (acc : List Value) (c : Nat), h₀.StaysIn s.heap → s.heap.FunFrames h₀ outer →
    s.heap.get? mp = some (itObj "map" #[.ref its, .ref (fa way)]) → s.heap.IsTuple its (as.map Value.ref).toArray → RowsAt P ka s.heap n ps as → KeptOk ls ka ks s.heap pl →
    s.heap.get? S = some (lstObj acc.toArray c) → ItemsAre s.heap acc out → out.length + left ls pl + (4 - n) ≤ bound →
    (match r with
      | some out' => ∀ h' tk acc' c', KeptOk ls ka ks h' pl' → h'.get? S = some (lstObj acc'.toArray c') → ItemsAre h' acc' out' → Stay (S :: as) s.heap h' → R (.ok (.ret res)) { s with heap := h', toks := tk }
      | none => ∀ hc h' tk e t, KeptOk ls ka ks hc pl' → Stay (S :: as) s.heap hc → Heap.FlyingW (hideAll hc (outer.filterMap (·.frame))) outer e (.type "ValueError") (.ref t) h' → hc.UpToSlots h' → R (.error (.ref e)) { s with heap := h', toks := tk }) →
    codeAny (model prog w) A (.builtin "list.extend.loop" ⟨[.ref S, .ref mp, res], []⟩) R s := by
  induction H with
  | @stop n pl out pl' hd =>
    intro s acc c st hFF hm ht hR hK hSo hI hb hRR
    refine codeAny_builtin F.entry_extend_loop ?_
    rw [Around.under_plainId F.plain_extend_loop _]
    show wpAny _ A.in1 (pyNext (.ref mp) >>= _) _ _ s
    refine wpAny_bind (map_pyNext hh hne hm ht (fun q => hmp (List.mem_cons_of_mem _ q)) hR hK ?_)
    rw [hd]
    intro h' tk e K' hs he ho
    have nt : NoTup s.heap as := fun b hb vs => (hR.its hK b hb).noTup vs
    exact wpAny_pure (hRR h' tk acc c K' (hs _ _ hS hSo) (hI.stay hs nt) (stay_sub hs fun b hb => List.mem_cons_of_mem _ hb))
  | @raised n pl out pl' tk hd hbad =>
    intro s acc c st hFF hm ht hR hK hSo hI hb hRR
    refine codeAny_builtin F.entry_extend_loop ?_
    rw [Around.under_plainId F.plain_extend_loop _]
    show wpAny _ A.in1 (pyNext (.ref mp) >>= _) _ _ s
    refine wpAny_bind (map_pyNext hh hne hm ht (fun q => hmp (List.mem_cons_of_mem _ q)) hR hK ?_)
    rw [hd]
    intro hc tkc items' K' R' hi hs
    have hs' : Stay (S :: as) s.heap hc := stay_sub hs fun b hb => List.mem_cons_of_mem _ hb
    have stc : h₀.StaysIn hc := staysIn_stay st hs' hW
    have FFc := funFrames_stay hFF hs' hfr
    refine fn_call (s := { s with heap := hc, toks := tkc }) hw (G.keeps stc) hroom hh (by rw [hi.length, draw_len hd]; simpa using hpn) hi hA (fun b o q => of_hideAll _ q) (funFrames_hide' FFc) (fun hn => absurd hbad hn) fun _ h' tk' e t hf hu => ?_
    obtain ⟨ob, hob, hoc⟩ := hf.there
    refine wpAny_bind (wpAny_isInstance (T := "ValueError") (b := false) ⟨ob, hob, hoc⟩ sub_VE_stop ?_)
    exact wpAny_throw (hRR hc h' tk' e t K' hs' hf hu)
  | @turn n pl out pl' tk r pl'' hd hgood _ ih =>
    intro s acc c st hFF hm ht hR hK hSo hI hb hRR
    refine codeAny_builtin F.entry_extend_loop ?_
    rw [Around.under_plainId F.plain_extend_loop _]
    show wpAny _ A.in1 (pyNext (.ref mp) >>= _) _ _ s
    refine wpAny_bind (map_pyNext hh hne hm ht (fun q => hmp (List.mem_cons_of_mem _ q)) hR hK ?_)
    rw [hd]
    intro hc tkc items' K' R' hi hs
    have hs' : Stay (S :: as) s.heap hc := stay_sub hs fun b hb => List.mem_cons_of_mem _ hb
    have stc : h₀.StaysIn hc := staysIn_stay st hs' hW
    have FFc := funFrames_stay hFF hs' hfr
    refine fn_call (s := { s with heap := hc, toks := tkc }) hw (G.keeps stc) hroom hh (by rw [hi.length, draw_len hd]; simpa using hpn) hi hA (fun b o q => of_hideAll _ q) (funFrames_hide' FFc) (fun _ h' tk' v hs₁ hv => ?_) (fun hb => absurd hb hgood)
    have hz0 : Stay [] hc h' := hs₁
    have up : Stay (S :: as) s.heap h' := hs'.trans (stay_sub hs₁ (by simp))
    have hS' : h'.get? S = some (lstObj acc.toArray c) := hs₁ _ _ (by simp) (hs _ _ hS hSo)
    have hlen : acc.length = out.length := hI.length
    have hless : left ls pl' + (4 - (n + 1)) < left ls pl + (4 - n) := by
      cases ps with
      | nil => exact absurd rfl hps
      | cons p ps => have := draw_less hd; omega
    have nt : NoTup s.heap as := fun b hb vs => (hR.its hK b hb).noTup vs
    show wpAny _ A.in1 (updateSeq S (·.push v) >>= _) _ _ _
    refine wpAny_bind (wpAny_updateSeq hS' rfl ?_ (by rw [List.size_toArray]; omega) (by show (acc.toArray.push v).size ≤ sizeLine + 1; rw [Array.size_push, List.size_toArray]; omega))
    refine wpAny_pure ⟨plainId_quiet F.plain_extend_loop _, ?_⟩
    have su : Stay [S] h' (h'.update S (Obj.mapSeq (·.push v))) := fun b o hb e => (Heap.get?_update_other _ _ (fun q : S = b => hb (by simp [q]))).trans e
    have su' : Stay (S :: as) h' (h'.update S (Obj.mapSeq (·.push v))) := stay_sub su (by intro b hb; rw [List.mem_singleton.mp hb]; exact List.mem_cons_self)
    have upp : Stay (S :: as) s.heap (h'.update S (Obj.mapSeq (·.push v))) := up.trans su'
    have hnt : NoTup h' [S] := fun b hb vs e => by rw [List.mem_singleton.mp hb, hS'] at e; simp at e
    have hSn := Heap.get?_update_self (Obj.mapSeq (·.push v)) hS' rfl
    have eS : Obj.mapSeq (·.push v) (lstObj acc.toArray c) = lstObj (acc ++ [v]).toArray (c + 1) := by
      simp [Obj.mapSeq]
    rw [eS] at hSn
    refine ih { s with heap := h'.update S (Obj.mapSeq (·.push v)), toks := tk' } (acc ++ [v]) (c + 1) (staysIn_stay st upp hW) (funFrames_stay hFF upp hfr) (upp _ _ hmp hm) (isTuple_stay ht upp hits)
      ((R'.stayS hs₁ (by simp) (by simp)).stayS su (by intro b hb; rw [List.mem_singleton.mp hb]; exact hS) (fun b hb => by simpa using hP b hb))
      (fun p hp => ((K' p hp).stayS hs₁ (by simp) (by simp)).stayS su (by simpa using hkS p hp) (fun b e => by cases e; simpa using hks p hp))
      hSn ((((hI.stay hs nt).stay hs₁ (fun b hb => by cases hb)).snoc hv).stay su hnt) (by simp; omega) ?_
    cases r with
    | some out' => exact fun h₂ tk₂ acc' c' K₂ hS₂ hI₂ hs₂ => hRR h₂ tk₂ acc' c' K₂ hS₂ hI₂ (upp.trans hs₂)
    | none => exact fun hc₂ h₂ tk₂ e t K₂ hs₂ hf hu => hRR hc₂ h₂ tk₂ e t K₂ (upp.trans hs₂) hf hu
end
end Mine
end

/-! part ListM -/
section
open PySem PySem.W PySem.Calls PyProof.Rows
namespace Mine
set_option maxRecDepth 100000
set_option maxHeartbeats 1000000
section
variable {prog : Program} {w : World} {A : Around} {mean : ExcName → Option Value} {mg mb : Str → Option Value} {Q : Value → Shared → Prop} {E : Value → Shared → Prop} {s : Shared}

theorem list_map {ls : Nat → List Int} {ka ks : Nat → Addr} {way : Nat} {ps : List Nat} {as : List Addr} {mp its : Addr} {h₀ : Heap} {outer : List Env} {pl pl' : Nat → Nat} {r : Option (List Item)}
    (hw : way < 3) (hh : A.handled = none) (hroom : A.depth < recursionLimit) (hA : A.frames = some outer) (hne : KeptNe ka) (G : Gd w mean mg mb h₀)
    (hW : ∀ b ∈ as, h₀.get? b = none) (hmp : mp ∉ as) (hits : its ∉ as) (hfr : ∀ L ∈ outer.filterMap (·.frame), L ∉ as)
    (hks : ∀ p, p < 4 → ks p < s.heap.objs.size) (hpn : ps.length ≤ sizeLine) (hps : ps ≠ []) (hbd : left ls pl + 4 ≤ 1000)
    (H : Runs ls way ps 0 pl [] r pl') (st : h₀.StaysIn s.heap) (hFF : s.heap.FunFrames h₀ outer)
    (hm : s.heap.get? mp = some (itObj "map" #[.ref its, .ref (fa way)])) (ht : s.heap.IsTuple its (as.map Value.ref).toArray) (hR : RowsAt (fun b => b < s.heap.objs.size) ka s.heap 0 ps as) (hK : KeptOk ls ka ks s.heap pl)
    (hQ : match r with
      | some out' => ∀ h' tk S acc' c', KeptOk ls ka ks h' pl' → s.heap.get? S = none → h'.get? S = some (lstObj acc'.toArray c') → ItemsAre h' acc' out' → Stay as s.heap h' → Q (.ref S) { s with heap := h', toks := tk }
      | none => ∀ hc h' tk e t, KeptOk ls ka ks hc pl' → Stay as s.heap hc → Heap.FlyingW (hideAll hc (outer.filterMap (·.frame))) outer e (.type "ValueError") (.ref t) h' → hc.UpToSlots h' → E (.ref e) { s with heap := h', toks := tk }) :
    wpAny (model prog w) A (call (.type "list") [.ref mp]) Q E s := by
  have hSn : s.heap.get? s.heap.objs.size = none := Heap.get?_none_of_le (Nat.le_refl _)
  have inn : ∀ {a : Addr}, (∃ o, s.heap.get? a = some o) → a ≠ s.heap.objs.size := fun ⟨o, e⟩ q => by rw [q, hSn] at e; cases e
  have hSas : s.heap.objs.size ∉ as := fun q => by obtain ⟨o, ho, _⟩ := hR.its hK _ q; rw [hSn] at ho; cases ho
  have hSm : s.heap.objs.size ≠ mp := fun q => inn ⟨_, hm⟩ q.symm
  have hSi : s.heap.objs.size ≠ its := fun q => by obtain ⟨o, ho, _⟩ := ht; exact inn ⟨_, ho⟩ q.symm
  refine callType_codes (Q₁ := fun obj s₁ => obj = .ref s.heap.objs.size ∧ s₁ = { s with heap := s.heap.push { cls := .type "list", data := .seq #[] } }) F.called_list (F.typeCall_list_1 _) F.entry_list_init
    (code_list_new _ ⟨rfl, rfl⟩) fun obj s₁ h₁ => ?_
  obtain ⟨rfl, rfl⟩ := h₁
  have hS : (s.heap.push { cls := .type "list", data := .seq #[] }).get? s.heap.objs.size = some (lstObj #[] 0) := Heap.get?_push_size _ rfl
  refine ⟨⟨_, hS, rfl⟩, F.args_list_init_2 _ _, ?_⟩
  have p0 : Stay [s.heap.objs.size] s.heap (s.heap.push { cls := .type "list", data := .seq #[] }) := fun b o _ e => Heap.get?_push_of_some _ e
  generalize hHp : s.heap.push { cls := .type "list", data := .seq #[] } = Hp at hS p0
  show wpAny _ _ (do let old ← Builtin.List.listItems (.ref s.heap.objs.size); Builtin.List.listUpdate (.ref s.heap.objs.size) (fun _ => #[]); letGo old.toList.reverse; Builtin.List.listExtendWith (.ref s.heap.objs.size) (.ref mp) .none) _ _ _
  refine wpAny_bind ?_
  unfold Builtin.List.listItems
  refine wpAny_bind (wpAny_seqItems hS rfl (wpAny_pure ?_))
  show wpAny _ _ (updateSeq s.heap.objs.size (fun _ => #[]) >>= fun _ => letGo (#[] : Array Value).toList.reverse >>= fun _ => Builtin.List.listExtendWith (.ref s.heap.objs.size) (.ref mp) .none) _ _ _
  refine wpAny_bind (wpAny_updateSeq hS rfl ?_)
  have hS₂ := Heap.get?_update_self (Obj.mapSeq (fun _ => (#[] : Array Value))) hS rfl
  have up1 : ∀ (f : Obj → Obj) (h : Heap), Stay [s.heap.objs.size] h (h.update s.heap.objs.size f) := fun f h b o hb e => (Heap.get?_update_other _ _ (fun q : s.heap.objs.size = b => hb (by simp [q]))).trans e
  have p1 := p0.trans (up1 (Obj.mapSeq (fun _ => (#[] : Array Value))) Hp)
  generalize hH2 : Hp.update s.heap.objs.size (Obj.mapSeq (fun _ => (#[] : Array Value))) = H2 at hS₂ p1
  refine wpAny_bind (wpAny_letGo ?_)
  have hm2 := p1 _ _ (by simpa using Ne.symm hSm) hm
  have hT : ∀ g d tk os, (⟨H2, g, d, tk, os⟩ : Shared).TypeIs (.ref mp) "map" := fun _ _ _ _ => ⟨_, hm2, rfl⟩
  unfold Builtin.List.listExtendWith
  refine wpAny_bind (wpAny_typeOf (hT _ _ _ _) ?_)
  have h1 : Builtin.List.listSameRef (.ref s.heap.objs.size) (.ref mp) = false := by simp [Builtin.List.listSameRef, hSm]
  have h2 : (Value.type "map" == Value.type "list") = false := by decide
  have h3 : (Value.type "map" == Value.type "tuple") = false := by decide
  simp only [h1, h2, h3, Bool.or_false, Bool.false_eq_true, if_false]
  refine wpAny_bind (map_self hm2 ?_)
  refine wpAny_bind (wpAny_holding ?_)
  unfold Builtin.List.listLengthHint
  refine wpAny_bind (wpAny_specialOf (hT _ _ _ _) map_no_len ?_)
  show wpAny _ _ (specialOf (Value.ref mp) (Str.ofString "__length_hint__") >>= _) _ _ _
  refine wpAny_bind (wpAny_specialOf (hT _ _ _ _) map_no_hint ?_)
  refine wpAny_pure ?_
  show wpAny _ _ (rule "list.extend.makes-room" >>= fun _ => Builtin.List.listTouch (.ref s.heap.objs.size) >>= fun _ =>
    again (.builtin "list.extend.loop" ⟨[.ref s.heap.objs.size, .ref mp, .none], []⟩)) _ _ _
  refine wpAny_bind (wpAny_rule ?_)
  refine wpAny_bind ?_
  show wpAny _ _ (updateSeq s.heap.objs.size (·.push .none) >>= fun _ => updateSeq s.heap.objs.size (·.pop)) _ _ _
  refine wpAny_bind (wpAny_updateSeq hS₂ rfl ?_)
  have hS₃ := Heap.get?_update_self (Obj.mapSeq (·.push Value.none)) hS₂ rfl
  have p2 := p1.trans (up1 (Obj.mapSeq (·.push Value.none)) H2)
  generalize hH3 : H2.update s.heap.objs.size (Obj.mapSeq (·.push Value.none)) = H3 at hS₃ p2
  refine wpAny_updateSeq (hz := by seq_fits) hS₃ rfl ?_
  have hS₄ := Heap.get?_update_self (Obj.mapSeq (·.pop)) hS₃ rfl
  have p3 := p2.trans (up1 (Obj.mapSeq (·.pop)) H3)
  generalize hH4 : H3.update s.heap.objs.size (Obj.mapSeq (·.pop)) = H4 at hS₄ p3
  obtain ⟨c4, hS₅⟩ : ∃ c, H4.get? s.heap.objs.size = some (lstObj ([] : List Value).toArray c) := ⟨_, hS₄⟩
  have hW' : ∀ b ∈ s.heap.objs.size :: as, h₀.get? b = none := fun b hb => by
    rcases List.mem_cons.mp hb with rfl | hb
    · cases q : h₀.get? s.heap.objs.size with
      | none => rfl
      | some o => have := st _ _ q; rw [hSn] at this; cases this
    · exact hW b hb
  have frin : ∀ L ∈ outer.filterMap (·.frame), ∃ o, s.heap.get? L = some o := fun L hL => let ⟨_, o, ho, _⟩ := hFF.mem hL; ⟨o, ho⟩
  have hfrS : ∀ L ∈ outer.filterMap (·.frame), L ∉ [s.heap.objs.size] := fun L hL q => inn (frin L hL) (List.mem_singleton.mp q)
  have back : ∀ h', Stay (s.heap.objs.size :: as) H4 h' → Stay as s.heap h' := fun h' x b o hb e => x b o (by
    intro q; rcases List.mem_cons.mp q with q | q; exact inn ⟨o, e⟩ q; exact hb q) (p3 b o (by simpa using inn ⟨o, e⟩) e)
  refine wpAny_pure ⟨plainId_quiet F.plain_extend_loop _, ?_⟩
  refine ext_loop (A := A.in1) (P := fun b => b < s.heap.objs.size) (bound := 1000) (h₀ := h₀) (outer := outer) hw hh hroom hA hne G hW' hSas (fun q => (List.mem_cons.mp q).elim (fun e => hSm e.symm) hmp) (fun q => (List.mem_cons.mp q).elim (fun e => hSi e.symm) hits)
    (fun L hL q => (List.mem_cons.mp q).elim (fun e => hfrS L hL (by simp [e])) (hfr L hL)) (fun b hb => Nat.ne_of_lt hb) (fun p hp => Nat.ne_of_lt (hks p hp)) (fun p hp => inn (by obtain ⟨o, ho, _⟩ := (hK p hp).isIt; exact ⟨o, ho⟩)) hpn hps (by rw [sizeLine_eq]; omega)
    H { s with heap := H4 } [] c4 (staysIn_stay st p3 fun b hb => hW' b (by rw [List.mem_singleton.mp hb]; exact List.mem_cons_self)) (funFrames_stay hFF p3 hfrS) (p3 _ _ (by simpa using Ne.symm hSm) hm) (isTuple_stay (W := [s.heap.objs.size]) ht p3 (by simpa using Ne.symm hSi))
    (hR.stayS p3 (fun b hb => by rw [List.mem_singleton.mp hb]; exact hSas) (fun b hb => by simpa using Nat.ne_of_lt hb))
    (fun p hp => (hK p hp).stayS (W := [s.heap.objs.size]) p3 (by simpa using inn (by obtain ⟨o, ho, _⟩ := (hK p hp).isIt; exact ⟨o, ho⟩)) (fun b e => by cases e; simpa using Nat.ne_of_lt (hks p hp)))
    hS₅ .nil (by simp; omega) ?_
  cases r with
  | some out' => exact fun h' tk acc' c' K' hS' hI' hs' => ⟨rfl, hQ h' tk _ acc' c' K' hSn hS' hI' (back h' hs')⟩
  | none => exact fun hc h' tk e t K' hs' hf hu => hQ hc h' tk e t K' (back hc hs') hf hu
end
end Mine
end

/-! part MapC -/
section
open PySem PySem.W PySem.Calls PyProof.Rows
namespace Mine
set_option maxRecDepth 100000
set_option maxHeartbeats 1000000

/-- a row as the law hands it -/
inductive RowIs (ka : Nat → Addr) (h : Heap) : Nat → Value → Prop where
  | kept {p} : p < 4 → RowIs ka h p (.ref (ka p))
  | list {p a vs} : ¬ p < 4 → h.IsList a vs → IntsAre vs.toList four → RowIs ka h p (.ref a)
  | range {p a t u v} : ¬ p < 4 → IsRange h a 0 4 1 t u v → RowIs ka h p (.ref a)
  | tuple {p a vs} : ¬ p < 4 → h.IsTuple a vs → IntsAre vs.toList four → RowIs ka h p (.ref a)
inductive RowsAre (ka : Nat → Addr) (h : Heap) : List Nat → List Value → Prop where
  | nil : RowsAre ka h [] []
  | cons {p v ps vs} : RowIs ka h p v → RowsAre ka h ps vs → RowsAre ka h (p :: ps) (v :: vs)
theorem RowIs.stays {ka h h' p v} (x : RowIs ka h p v) (k : h.StaysIn h') : RowIs ka h' p v := by
  cases x with
  | kept hp => exact .kept hp
  | list hp hl hi => obtain ⟨o, ho, r⟩ := hl; exact .list hp ⟨o, k _ _ ho, r⟩ hi
  | range hp hr => exact .range hp (k _ _ hr)
  | tuple hp hl hi => obtain ⟨o, ho, r⟩ := hl; exact .tuple hp ⟨o, k _ _ ho, r⟩ hi
theorem RowsAre.stays {ka h h' ps vs} (x : RowsAre ka h ps vs) (k : h.StaysIn h') : RowsAre ka h' ps vs := by
  induction x with
  | nil => exact .nil
  | cons a _ ih => exact .cons (a.stays k) ih
theorem RowsAre.length {ka h ps vs} (x : RowsAre ka h ps vs) : vs.length = ps.length := by
  induction x with
  | nil => rfl
  | cons _ _ ih => simp [ih]
theorem It.stays {h h' a src ns k} (x : It h a src ns k) (s : h.StaysIn h') : It h' a src ns k := x.stay (W := []) (fun b o _ e => s b o e) (by simp) (by simp)
theorem KeptOk.stays {ls ka ks h h' pl} (x : KeptOk ls ka ks h pl) (s : h.StaysIn h') : KeptOk ls ka ks h' pl := fun p hp => (x p hp).stays s
theorem push_stays (h : Heap) (o : Obj) : h.StaysIn (h.push o) := fun _ _ e => Heap.get?_push_of_some _ e
theorem staysIn_trans {a b c : Heap} (x : a.StaysIn b) (y : b.StaysIn c) : a.StaysIn c := fun p o e => y p o (x p o e)

section
variable {prog : Program} {w : World} {A : Around} {E : Value → Shared → Prop}

theorem kept_iter {s : Shared} {a : Addr} {Q : Value → Shared → Prop} (hl : ∃ o, s.heap.get? a = some o ∧ o.cls = .type "list_iterator") (hQ : Q (.ref a) s) : wpAny (model prog w) A (pyIter (.ref a)) Q E s := by
  have hT : s.TypeIs (.ref a) "list_iterator" := hl
  refine wpAny_pyIter_slot hT slot_listiter_iter (wpAny_call_entry slot_listiter_iter hT entry_listiter_iter ?_ (args_listiter_iter _))
  show wpAny _ _ (ret (.ref a)) _ _ s
  exact wpAny_pure ⟨_, rfl, "list_iterator", _, hT, slot_listiter_next.lookup, hQ⟩

def KeptList (ka : Nat → Addr) (h : Heap) : Prop := ∀ p, p < 4 → ∃ o, h.get? (ka p) = some o ∧ o.cls = .type "list_iterator"

theorem iter_all {ls : Nat → List Int} {ka ks : Nat → Addr} {pl : Nat → Nat} : ∀ (ps : List Nat) (vs : List Value) (acc : List Addr) (s : Shared) (Q : Array Value → Shared → Prop),
    RowsAre ka s.heap ps vs → KeptOk ls ka ks s.heap pl → KeptList ka s.heap →
    (∀ h' as, s.heap.StaysIn h' → RowsAt (fun _ => True) ka h' 0 ps as → (∀ a ∈ as, (∃ q, q < 4 ∧ a = ka q) ∨ s.heap.objs.size ≤ a) → Q ((acc ++ as).map Value.ref).toArray { s with heap := h' }) →
    wpAny (model prog w) A (forIn vs (acc.map Value.ref).toArray fun x (r : Array Value) => do
      let y ← holding r.toList (pyIter x)
      pure (ForInStep.yield (r.push y))) Q E s := by
  intro ps
  induction ps with
  | nil =>
    intro vs acc s Q R K KL H
    cases R
    simp only [List.forIn_nil]
    refine wpAny_pure ?_
    have := H s.heap [] (fun _ _ e => e) .nil (by simp)
    simpa using this
  | cons p ps ih =>
    intro vs acc s Q R K KL H
    cases R with
    | @cons _ v _ vs x R =>
      simp only [List.forIn_cons]
      refine wpAny_bind (wpAny_bind (wpAny_holding ?_))
      have pushed : ∀ (a : Addr), (acc.map Value.ref).toArray.push (Value.ref a) = ((acc ++ [a]).map Value.ref).toArray := fun a => by simp
      have fresh : ∀ (o : Obj) (src : Option Addr), ¬ p < 4 → It (s.heap.push o) s.heap.objs.size src four 0 →
          wpAny (model prog w) A (pure (ForInStep.yield ((acc.map Value.ref).toArray.push (Value.ref s.heap.objs.size)))) (fun r s' => wpAny (model prog w) A
            (match r with | .done b => pure b | .yield b => forIn vs b fun x (r : Array Value) => do
              let y ← holding r.toList (pyIter x)
              pure (ForInStep.yield (r.push y))) Q E s') E { s with heap := s.heap.push o } := fun o src hp hI => by
        refine wpAny_pure ?_
        rw [pushed]
        refine ih vs _ { s with heap := s.heap.push o } Q (R.stays (push_stays _ _)) (K.stays (push_stays _ _)) (fun p hp => let ⟨o', ho, hc⟩ := KL p hp; ⟨o', push_stays _ _ _ _ ho, hc⟩) fun h' as st hR ha => ?_
        have hz : (s.heap.push o).objs.size = s.heap.objs.size + 1 := Heap.size_push ..
        have := H h' (s.heap.objs.size :: as) (staysIn_trans (push_stays _ _) st) (.fresh hp (hI.stays st) (fun _ _ => trivial) (fun q hq e => ?_) (fun hm => ?_) hR) (fun a hm => ?_)
        · simpa using this
        · obtain ⟨o', ho', _⟩ := KL q hq
          rw [e] at ho'
          exact absurd (Heap.lt_size ho') (Nat.lt_irrefl _)
        · rcases ha _ hm with ⟨q, hq, e⟩ | e
          · obtain ⟨o', ho', _⟩ := KL q hq
            rw [← e] at ho'
            exact absurd (Heap.lt_size ho') (Nat.lt_irrefl _)
          · rw [show ({ s with heap := s.heap.push o } : Shared).heap.objs.size = s.heap.objs.size + 1 from hz] at e
            exact absurd e (Nat.not_succ_le_self _)
        · rcases List.mem_cons.mp hm with rfl | hm
          · exact .inr (Nat.le_refl _)
          · refine (ha a hm).imp id fun e => ?_
            rw [show ({ s with heap := s.heap.push o } : Shared).heap.objs.size = s.heap.objs.size + 1 from hz] at e
            omega
      cases x with
      | kept hp =>
        refine kept_iter (KL p hp) (wpAny_pure ?_)
        rw [pushed]
        refine ih vs _ s Q R K KL fun h' as st hR ha => ?_
        have := H h' (ka p :: as) st (.kept hp hR) (fun a hm => (List.mem_cons.mp hm).elim (fun e => .inl ⟨p, hp, e⟩) (ha a))
        simpa using this
      | @list a vs' hp hl hi =>
        refine wpAny_pyIter_list hl ?_
        refine fresh _ (some a) hp (.list (vs := vs'.toList) (k := 0) (Heap.get?_push_size _ rfl) ?_ hi (Nat.zero_le _))
        exact (Heap.IsList.push hl _)
      | @range a t u v hp hr =>
        refine wpAny_pyIter_range hr (by decide) ?_
        refine fresh _ none hp ?_
        rw [four_upto]
        exact .rng (n := 4) (k := 0) (Heap.get?_push_size _ rfl) (Nat.zero_le _)
      | @tuple a vs' hp hl hi =>
        refine wpAny_pyIter_tuple hl ?_
        refine fresh _ (some a) hp (.tup (vs := vs'.toList) (k := 0) (Heap.get?_push_size _ rfl) ?_ hi (Nat.zero_le _))
        exact (Heap.IsTuple.push hl _)
end

theorem RowsAt.src {P ka h ps as} (R : RowsAt P ka h 0 ps as) : RowsAt (fun b => b < h.objs.size) ka h 0 ps as := by
  induction R with
  | nil => exact .nil
  | kept hp _ ih => exact .kept hp ih
  | @fresh p ps a as src hp hi _ hk ha _ ih =>
    refine .fresh hp hi (fun b e => ?_) hk ha ih
    generalize hk0 : (0 : Nat) = k at hi
    generalize hfo : four = fo at hi
    cases hi with
    | list _ hl _ _ => cases e; obtain ⟨o, ho, _⟩ := hl; exact Heap.lt_size ho
    | lend _ => rw [← hfo] at hk0; cases hk0
    | tup _ hl _ _ => cases e; obtain ⟨o, ho, _⟩ := hl; exact Heap.lt_size ho
    | tend _ _ => rw [← hfo] at hk0; cases hk0
    | rng _ _ => cases e

/-- map(f, rows ..) -/
theorem map_new_meets {ls : Nat → List Int} {ka ks : Nat → Addr} {pl : Nat → Nat} {ps : List Nat} {f : Value} {vs : List Value} (hps : ps ≠ []) (hpn : ps.length ≤ 3) :
    Meets (Builtin.«map.__new__» ⟨.type "map" :: f :: vs, []⟩) (fun _ R s => RowsAre ka s.heap ps vs ∧ KeptOk ls ka ks s.heap pl ∧ KeptList ka s.heap ∧
      ∀ h' as its mp, s.heap.StaysIn h' → RowsAt (fun b => b < h'.objs.size) ka h' 0 ps as → (∀ a ∈ as, (∃ q, q < 4 ∧ a = ka q) ∨ s.heap.get? a = none) → h'.IsTuple its (as.map Value.ref).toArray → h'.get? mp = some (itObj "map" #[.ref its, f]) →
        its ∉ as → mp ∉ as → s.heap.get? mp = none → s.heap.get? its = none → R (.ok (.ret (.ref mp))) { s with heap := h' }) :=
  .of_wp fun prog w A R s h => by
    obtain ⟨hR, hK, hKL, h⟩ := h
    have hlen := hR.length
    have hvs : vs ≠ [] := by
      intro e; subst e
      cases ps with
      | nil => exact hps rfl
      | cons _ _ => simp at hlen
    obtain ⟨v0, vr, rfl⟩ := List.exists_cons_of_ne_nil hvs
    have hsub := sub_map
    show wpAny _ _ (Builtin.SmallTypes.newClass "map" _ >>= _) _ _ _
    refine wpAny_bind ?_
    unfold Builtin.SmallTypes.newClass
    dsimp only
    refine wpAny_bind (wpAny_of_eq (a := true) rfl ?_)
    simp only [Bool.not_true, Bool.false_eq_true, if_false]
    refine wpAny_bind (wpAny_of_eq hsub ?_)
    simp only [Bool.not_true, Bool.false_eq_true, if_false]
    refine wpAny_pure ?_
    dsimp only
    refine wpAny_bind (wpAny_of_eq (a := ()) rfl ?_)
    rw [if_neg (by simp)]
    refine wpAny_bind ?_
    unfold Builtin.SmallTypes.iterAll
    refine wpAny_bind ?_
    refine iter_all ps (v0 :: vr) [] s _ hR hK hKL fun h' as st hRo ha => ?_
    refine wpAny_pure ?_
    refine wpAny_bind (wpAny_newTuple ?_ ?_)
    · have hal : as.length = ps.length := hRo.length
      have e0 : (([] ++ as).map Value.ref).toArray.toList = as.map Value.ref := by simp
      rw [e0]
      show wpAny _ _ (newObj (.type "map") (.fields [Value.ref h'.objs.size, f].toArray) >>= _) _ _ _
      refine wpAny_bind (wpAny_newObj_type (wpAny_pure ⟨_, rfl, ?_⟩))
      have st2 := staysIn_trans (push_stays h' { cls := .type "tuple", data := .seq (as.map Value.ref).toArray }) (push_stays _ { cls := .type "map", data := .fields [Value.ref h'.objs.size, f].toArray })
      have hz1 : (h'.push { cls := .type "tuple", data := .seq (as.map Value.ref).toArray }).objs.size = h'.objs.size + 1 := Heap.size_push ..
      have small : ∀ a ∈ as, a < h'.objs.size := fun a hm => by obtain ⟨o, ho, _⟩ := hRo.its (hK.stays st) a hm; exact Heap.lt_size ho
      have old : ∀ n, h'.objs.size ≤ n → s.heap.get? n = none := fun n hn => by
        cases q : s.heap.get? n with
        | none => rfl
        | some o => exact absurd (Heap.lt_size (st _ _ q)) (Nat.not_lt.mpr hn)
      refine h _ as h'.objs.size (h'.push { cls := .type "tuple", data := .seq (as.map Value.ref).toArray }).objs.size (staysIn_trans st st2)
        (RowsAt.src (P := fun _ => True) ?_) (fun a hm => (ha a hm).imp id fun e => Heap.get?_none_of_le e) ⟨_, Heap.get?_push_of_some _ (Heap.get?_push_size _ rfl), rfl, _, rfl⟩ (Heap.get?_push_size _ rfl)
        (fun q => absurd (small _ q) (Nat.lt_irrefl _)) (fun q => by have := small _ q; rw [hz1] at this; exact absurd this (Nat.not_lt.mpr (Nat.le_succ _))) (old _ (by rw [hz1]; omega)) (old _ (Nat.le_refl _))
      exact hRo.stayS (W := []) (fun b o _ e => st2 b o e) (by simp) (by simp)
    · have hal : as.length = ps.length := hRo.length
      simp only [List.nil_append, List.size_toArray, List.length_map]
      rw [hal, sizeLine_eq]; omega

section
variable {prog : Program} {w : World} {A : Around} {E : Value → Shared → Prop} {Q : Value → Shared → Prop} {s : Shared}
theorem map_call {ls : Nat → List Int} {ka ks : Nat → Addr} {pl : Nat → Nat} {ps : List Nat} {f : Value} {vs : List Value} (hps : ps ≠ []) (hpn : ps.length ≤ 3)
    (hR : RowsAre ka s.heap ps vs) (hK : KeptOk ls ka ks s.heap pl) (hKL : KeptList ka s.heap)
    (hQ : ∀ h' as its mp, s.heap.StaysIn h' → RowsAt (fun b => b < h'.objs.size) ka h' 0 ps as → (∀ a ∈ as, (∃ q, q < 4 ∧ a = ka q) ∨ s.heap.get? a = none) → h'.IsTuple its (as.map Value.ref).toArray → h'.get? mp = some (itObj "map" #[.ref its, f]) →
        its ∉ as → mp ∉ as → s.heap.get? mp = none → s.heap.get? its = none → Q (.ref mp) { s with heap := h' }) :
    wpAny (model prog w) A (call (.type "map") (f :: vs)) Q E s := by
  have hlen := hR.length
  have hvs : vs.length = 1 ∨ vs.length = 2 ∨ vs.length = 3 := by
    have : ps.length ≠ 0 := fun e => hps (List.length_eq_zero_iff.mp e)
    omega
  have facts : checkTypeCall "map" ⟨f :: vs, []⟩ = pure () ∧ checkBuiltinCall "map.__new__" ⟨.type "map" :: f :: vs, []⟩ = pure () ∧ ∀ obj, argsOk "object.__init__" ⟨obj :: f :: vs, []⟩ := by
    rcases vs with _ | ⟨a, _ | ⟨b, _ | ⟨c, _ | ⟨d, r⟩⟩⟩⟩
    · simp at hvs
    · exact ⟨typeCall_map_2 _ _, newCall_map_2 _ _, fun obj => args_oinit_3 obj _ _⟩
    · exact ⟨typeCall_map_3 _ _ _, newCall_map_3 _ _ _, fun obj => args_oinit_4 obj _ _ _⟩
    · exact ⟨typeCall_map_4 _ _ _ _, newCall_map_4 _ _ _ _, fun obj => args_oinit_5 obj _ _ _ _⟩
    · simp at hvs
  obtain ⟨f1, f2, f3⟩ := facts
  refine callType_new called_map (by decide) f1 f2 f3 entry_map_new (map_new_meets (ls := ls) (ka := ka) (ks := ks) (pl := pl) hps hpn) ⟨hR, hK, hKL, fun h' as its mp st hRo ha ht hm a1 a2 a3 a4 => ?_⟩
  exact ⟨⟨_, hm, rfl⟩, hQ h' as its mp st hRo ha ht hm a1 a2 a3 a4⟩
end
end Mine
end

/-! part Star -/
section
open PySem PySem.W PySem.Calls PyProof.Rows
namespace Mine
set_option maxRecDepth 100000
set_option maxHeartbeats 1000000
theorem fill3 : (PySem.Challenge.rw_ki0062_01 = PySem.Challenge.rw_ki0062_01) ∧ (hd.heap_39 = hd.heap_39) := by
  k_fill; exact ⟨rfl, rfl⟩
local macro_rules | `(tactic| walk_at "mine") => `(tactic| repeat' (first | walk1 | (dsimp only; walk1)))

def kaL (ka : Nat → Addr) : List Addr := [ka 0, ka 1, ka 2, ka 3]
theorem mem_kaL {ka : Nat → Addr} {p : Nat} (h : p < 4) : ka p ∈ kaL ka := by
  have : p = 0 ∨ p = 1 ∨ p = 2 ∨ p = 3 := by omega
  rcases this with rfl | rfl | rfl | rfl <;> simp [kaL]
theorem of_mem_kaL {ka : Nat → Addr} {a : Addr} (h : a ∈ kaL ka) : ∃ p, p < 4 ∧ a = ka p := by
  simp only [kaL, List.mem_cons, List.not_mem_nil, or_false] at h
  rcases h with rfl | rfl | rfl | rfl
  · exact ⟨0, by decide, rfl⟩
  · exact ⟨1, by decide, rfl⟩
  · exact ⟨2, by decide, rfl⟩
  · exact ⟨3, by decide, rfl⟩
/-- frames' namespaces stand, but for their slots -/
def FrUp (fr : List Addr) (h h' : Heap) : Prop := ∀ L ∈ fr, ∀ o, h.get? L = some o → (∀ vs, o.data ≠ .fields vs) → ∃ sl, h'.get? L = some { o with slots := sl }
abbrev frOf (outer : List Env) : List Addr := outer.filterMap (·.frame)

section
variable {prog : Program} {w : World} {A : Around} {mean : ExcName → Option Value} {mg mb : Str → Option Value} {Q : Value → Shared → Prop} {E : Value → Shared → Prop} {s : Shared}

theorem keep_type {M : Model} {T : String} : ∀ h : Heap, True → ∃ k, (k = Keeper.frame ∨ k = Keeper.machine ∨ k = Keeper.boundFrame) ∧ Looks M h (keeperOf (.type T)) k :=
  fun _ _ => ⟨.machine, .inr (.inl rfl), Looks.of_pure rfl⟩

theorem star_tup {a : Addr} {vs : List Value} {QQ : List Value → Shared → Prop} (ho : s.heap.get? a = some (tupObj vs)) (hz : vs.length ≤ sizeLine) (h : ∀ h', s.heap.StaysIn h' → QQ vs { s with heap := h' }) : StarOf (model prog w) A E (.ref a) QQ s := by
  have hT : s.TypeIs (.ref a) "tuple" := ⟨_, ho, rfl⟩
  unfold StarOf notIterableAtAll
  exact wpAny_bind (wpAny_specialOf hT PySem.F.slot_tuple_iter.lookup (wpAny_pure ⟨rfl, wpAny_collect_seq a (.inr rfl) ho rfl rfl (fun h' hk => h h' hk) (by rw [List.size_toArray]; exact hz)⟩))

theorem stay_hide (h : Heap) (W : List Addr) : Stay W h (hideAll h W) := fun _ _ n e => hideAll_get W e n

/-- how the call of mapstar ends -/
def StarEnd (ls : Nat → List Int) (ka ks : Nat → Addr) (pl' : Nat → Nat) (outer : List Env) (s : Shared) (Q E : Value → Shared → Prop) : Option (List Item) → Prop
  | some out' => ∀ h' tk S acc' c', KeptOk ls ka ks h' pl' → s.heap.get? S = none → h'.get? S = some (lstObj acc'.toArray c') → ItemsAre h' acc' out' → Stay (kaL ka) s.heap h' → Q (.ref S) { s with heap := h', toks := tk }
  | none => ∀ B h' tk e t, KeptOk ls ka ks B pl' → (∀ b o, s.heap.get? b = some o → b ∉ kaL ka → b ∉ frOf outer → B.get? b = some o) → Heap.FlyingW B outer e (.type "ValueError") (.ref t) h' → FrUp (frOf outer) s.heap h' → E (.ref e) { s with heap := h', toks := tk }

theorem mapstar_call {ls : Nat → List Int} {ka ks : Nat → Addr} {way : Nat} {ps : List Nat} {vs : List Value} {ta : Addr} {h₀ : Heap} {outer : List Env} {pl pl' : Nat → Nat} {r : Option (List Item)}
    (hw : way < 3) (hh : A.handled = none) (hroom : A.depth + 1 < recursionLimit) (hA : A.frames = some outer) (hne : KeptNe ka) (G : Gd w mean mg mb h₀)
    (hk0 : ∀ p, p < 4 → h₀.get? (ka p) = none) (hkf : ∀ p, p < 4 → ka p ∉ frOf outer ∧ ks p ∉ frOf outer) (hks : ∀ p, p < 4 → ∃ o, s.heap.get? (ks p) = some o)
    (hps : ps ≠ []) (hpn : ps.length ≤ 3) (hbd : left ls pl + 4 ≤ 1000)
    (H : Runs ls way ps 0 pl [] r pl') (st : h₀.StaysIn s.heap) (hFF : s.heap.FunFrames h₀ outer)
    (ht : s.heap.get? ta = some (tupObj (.ref (fa way) :: vs))) (hR : RowsAre ka s.heap ps vs) (hK : KeptOk ls ka ks s.heap pl) (hKL : KeptList ka s.heap)
    (hQ : StarEnd ls ka ks pl' outer s Q E r) :
    wpAny (model prog w) A (call (.ref 21) [.ref ta]) Q E s := by
  have G' := G.keeps st
  refine wpAny_call ?_
  refine enterF (binds := [(Str.ofString "args", .ref ta)]) [] G'.X G'.T.nolimit (by k_is) (by k_is) (by omega) (BindsTo.of_eq rfl) (locs rfl) (fun L' h₁ hL' F hk => ?_) rfl rfl rfl (by decide)
  replace F : Fr s.heap L' h₁ _ := F
  have X := G'.X
  have T := G'.T
  have N : News s.heap L' h₁ [] := News.nil
  dsimp only
  w_on
  w_strict (walk_at "mine")
  refine ks_call (P := fun _ => True) rfl keep_type ?_
  refine ks_lone ?_
  w_strict (walk_at "mine")
  have hlen := hR.length
  refine star_tup (hk _ _ ht) (by simp only [List.length_cons]; rw [hlen, sizeLine_eq]; omega) fun h₂ st₂ => ⟨trivial, ?_⟩
  have k₂ : s.heap.StaysIn h₂ := fun b o e => st₂ b o (hk b o e)
  refine map_call (s := { s with heap := h₂, toks := _ }) (ls := ls) (ks := ks) (pl := pl) hps hpn (hR.stays k₂) (hK.stays k₂) (fun p hp => let ⟨o, ho, hc⟩ := hKL p hp; ⟨o, k₂ _ _ ho, hc⟩) fun h₃ as its mp st₃ hRo ha hti hm a1 a2 a3 a4 => ?_
  have k₃ : s.heap.StaysIn h₃ := staysIn_trans k₂ st₃
  have hsz : s.heap.objs.size = L' := hL'.symm
  have hLs : s.heap.get? L' = none := by rw [hL']; exact Heap.get?_none_of_le (Nat.le_refl _)
  have hL₃ : h₃.Ns L' _ := F.ns.keeps (fun b o e => st₃ b o (st₂ b o e))
  have haf : ∀ a ∈ as, a ∈ kaL ka ∨ s.heap.get? a = none := fun a hm => (ha a hm).imp (fun ⟨q, hq, e⟩ => e ▸ mem_kaL hq) fun e => by
    cases q : s.heap.get? a with
    | none => rfl
    | some o => have := k₂ _ _ q; rw [show Heap.get? h₂ a = none from e] at this; cases this
  have hLk : ∀ q, q < 4 → L' ≠ ka q := fun q hq e => by
    obtain ⟨o, ho, _⟩ := hKL q hq
    rw [← e, hLs] at ho; cases ho
  have haL : L' ∉ as := fun q => by
    rcases ha _ q with ⟨q, hq, e⟩ | e
    · exact hLk q hq e
    · obtain ⟨o', _, _, ho', _⟩ := F.ns
      rw [show Heap.get? h₂ L' = some o' from st₂ _ _ ho'] at e; cases e
  have frin : ∀ L ∈ frOf outer, ∃ o, s.heap.get? L = some o := fun L hL => let ⟨_, o, ho, _⟩ := hFF.mem hL; ⟨o, ho⟩
  have frk : ∀ L ∈ frOf outer, L ∉ kaL ka := fun L hL q => by
    obtain ⟨p, hp, rfl⟩ := of_mem_kaL q
    exact (hkf p hp).1 hL
  have hfa : ∀ L ∈ L' :: frOf outer, L ∉ as := fun L hL q => by
    rcases List.mem_cons.mp hL with rfl | hL
    · exact haL q
    · rcases haf _ q with e | e
      · exact frk L hL e
      · obtain ⟨o, ho⟩ := frin L hL
        rw [ho] at e; cases e
  have h₀s : ∀ b, s.heap.get? b = none → h₀.get? b = none := fun b e => by
    cases q : h₀.get? b with
    | none => rfl
    | some o => have := st _ _ q; rw [e] at this; cases this
  w_strict (walk_at "mine")
  refine list_map (s := { s with heap := h₃, toks := _ }) (ls := ls) (ka := ka) (ks := ks) (h₀ := h₀) (outer := envOf _ _ L' 21 (.ref 20) :: outer) (pl := pl) (pl' := pl') (r := r) hw hh hroom (Around.frames_deeper hA) hne G
    (fun b hb => (haf b hb).elim (fun e => by obtain ⟨p, hp, rfl⟩ := of_mem_kaL e; exact hk0 p hp) (h₀s b)) a2 a1 hfa
    (fun p hp => let ⟨o, ho⟩ := hks p hp; Heap.lt_size (k₃ _ _ ho)) (by rw [sizeLine_eq]; omega) hps hbd H (staysIn_trans st k₃)
    (Heap.FunFrames.cons (show ScopeKind.function ≠ ScopeKind.module by decide) rfl hL₃ (h₀s _ hLs) (hFF.of_keeps fun b o e _ => ⟨o, k₃ b o e, rfl⟩)) hm hti hRo (hK.stays k₃) ?_
  cases r with
  | some out' =>
    intro h' tk S acc' c' K' hS hS' hI hs'
    refine hQ h' tk S acc' c' K' ?_ hS' hI fun b o hb e => hs' b o (fun q => ?_) (k₃ b o e)
    · cases q : s.heap.get? S with
      | none => rfl
      | some o => have := k₃ _ _ q; rw [show Heap.get? h₃ S = none from hS] at this; cases this
    · rcases haf _ q with x | x
      · exact hb x
      · rw [e] at x; cases x
  | none =>
    intro hc h' tk e t K' hs' hfl hup
    have hcs : ∀ b o, s.heap.get? b = some o → b ∉ kaL ka → hc.get? b = some o := fun b o e hb => hs' b o (fun q => by
      rcases haf _ q with x | x
      · exact hb x
      · rw [e] at x; cases x) (k₃ b o e)
    have hLf : ∀ b o, s.heap.get? b = some o → b ≠ L' := fun b o e q => by rw [q, hLs] at e; cases e
    refine wpAny_leaves_onW (Around.frames_deeper hA) rfl hfl fun h'' hfl' hup' => ?_
    refine hQ _ h'' tk e t (fun p hp => (K' p hp).stayS (stay_hide hc (L' :: frOf outer)) (fun q => ?_) (fun b eb q => ?_)) (fun b o eb hb hbf => ?_) hfl' fun L hL o ho hnf => ?_
    · rcases List.mem_cons.mp q with x | x
      · exact hLk p hp x.symm
      · exact (hkf p hp).1 x
    · cases eb
      rcases List.mem_cons.mp q with x | x
      · obtain ⟨o, ho⟩ := hks p hp
        exact hLf _ o ho x
      · exact (hkf p hp).2 x
    · refine hideAll_get _ (hcs b o eb hb) fun q => ?_
      rcases List.mem_cons.mp q with x | x
      · exact hLf b o eb x
      · exact hbf x
    · obtain ⟨sl, h1⟩ := hup L o (hcs L o ho (frk L hL)) hnf
      obtain ⟨sl', h2⟩ := hup' L _ h1 hnf
      exact ⟨sl', h2⟩
end
end Mine
end

/-! part Told -/
section
open PySem PySem.W PySem.Calls PyProof.Rows
namespace Mine
set_option maxRecDepth 100000
set_option maxHeartbeats 1000000
theorem fill4 : (PySem.Challenge.rw_ki0062_01 = PySem.Challenge.rw_ki0062_01) ∧ (hd.heap_39 = hd.heap_39) := by
  k_fill; exact ⟨rfl, rfl⟩
local macro_rules | `(tactic| walk_at "mine") => `(tactic| repeat' (first | walk1 | (dsimp only; walk1)))
local macro_rules | `(tactic| walk_at "subscriptTail") => `(tactic| refine stop ?_)
local macro_rules | `(tactic| walk_at "binaryOp Add ref ref") => `(tactic| refine stop ?_)
local macro_rules | `(tactic| walk_at "call type:tuple") => `(tactic| refine stop ?_)
local macro_rules | `(tactic| walk_at "call ref") => `(tactic| refine stop ?_)
section
variable {prog : Program} {w : World} {A : Around} {mean : ExcName → Option Value} {mg mb : Str → Option Value} {Q : Value → Shared → Prop} {E : Value → Shared → Prop} {s : Shared}

theorem sub_list {value slice : PySem.Expr} {l : Addr} {vs : List Value} {k : Int} {u : Tok} {v : Value} (hl : s.heap.IsList l vs.toArray) (h0 : 0 ≤ k) (hhi : k < 2 ^ 63) (hx : vs[k.toNat]? = some v) (h : Q v s)
    (hs : subscripted slice false (.ref l) (.int k u) = operate [.ref l, .int k u] (getItem (.ref l) (.int k u)) := by with_unfolding_all rfl) :
    wpAny (model prog w) A (subscriptTail value slice (.ref l) (.int k u)) Q E s :=
  tail_any hl.typeIs slot_list_getitem.lookup (wpAny_getItem_list hl h0 hhi (by simpa using hx) h) hs

/-- what told and due give back -/
inductive ResIs (h : Heap) : Addr → Option (List Item) → Prop where
  | some {R S : Addr} {acc : List Value} {c c' : Nat} {out : List Item} : h.get? R = some (lstObj #[.ref S] c) → h.get? S = some (lstObj acc.toArray c') → ItemsAre h acc out → ResIs h R (some out)
  | none {R : Addr} {c : Nat} {t : Tok} : h.get? R = some (lstObj #[.str (Str.ofString "ValueError") t] c) → ResIs h R none

theorem fr_stay {g : Heap} {L : Addr} {h h' : Heap} {m : Str → Option Value} {W : List Addr} (F : Fr g L h m) (S : Stay W h h') (hL : L ∉ W) (hW : ∀ b ∈ W, g.get? b = Option.none) : Fr g L h' m :=
  ⟨F.ns.at' fun o e => S _ o hL e, fun b o e => S b o (fun q => by rw [hW b q] at e; cases e) (F.keep b o e), F.above⟩
theorem hide_none {h : Heap} {W : List Addr} {b : Addr} (e : h.get? b = Option.none) : (hideAll h W).get? b = Option.none := by
  cases q : (hideAll h W).get? b with
  | none => rfl
  | some o => have := of_hideAll W q; rw [e] at this; cases this

/-- a ledger of all that the base does not hold -/
theorem all_ledger {g h : Heap} {L : Addr} : ∃ ex : List (Addr × Obj), News g L h ex ∧ ∀ b o, h.get? b = Option.some o → b ≠ L → g.get? b = Option.none → (b, o) ∈ ex := by
  refine ⟨(List.range h.objs.size).filterMap fun b => if b = L then Option.none else match h.get? b, g.get? b with | .some o, .none => .some (b, o) | _, _ => .none, fun p hp => ?_, fun b o e hb hg => ?_⟩
  · obtain ⟨b, _, hb⟩ := List.mem_filterMap.mp hp
    split at hb
    · cases hb
    · rename_i hbL
      split at hb
      · rename_i o ho hg
        cases hb
        exact ⟨ho, hbL, hg⟩
      · cases hb
  · refine List.mem_filterMap.mpr ⟨b, List.mem_range.mpr (Heap.lt_size e), ?_⟩
    rw [if_neg hb, e, hg]
theorem stay_all {g h h' : Heap} {L : Addr} {m : Str → Option Value} {ex : List (Addr × Obj)} (hk : g.StaysIn h) (c : ∀ b o, h.get? b = Option.some o → b ≠ L → g.get? b = Option.none → (b, o) ∈ ex) (F : Fr g L h' m) (N : ∀ p ∈ ex, h'.get? p.1 = Option.some p.2) : Stay [L] h h' := fun b o n e => by
  cases q : g.get? b with
  | none => exact N _ (c b o e (by simpa using n) q)
  | some o' =>
    have := hk b o' q
    rw [e] at this; cases this
    exact F.keep b o q

/-- a list is no kept iterator -/
theorem not_kept {ls : Nat → List Int} {ka ks : Nat → Addr} {h' : Heap} {pl : Nat → Nat} (K : KeptOk ls ka ks h' pl) {h : Heap} {a : Addr} (x : a ∉ kaL ka → ∀ {o : Obj}, h.get? a ≠ Option.some o) {o : Obj} (e : h'.get? a = Option.some o) (hc : o.cls = .type "list") : h.get? a = Option.none := by
  by_cases hm : a ∈ kaL ka
  · exfalso
    obtain ⟨p, hp, rfl⟩ := of_mem_kaL hm
    obtain ⟨o', ho', hc'⟩ := (K p hp).isIt
    rw [e] at ho'; cases ho'
    rw [hc] at hc'; simp at hc'
  · cases q : h.get? a with
    | none => rfl
    | some o => exact absurd q (x hm)

theorem told_call {ls : Nat → List Int} {ka ks : Nat → Addr} {way : Nat} {tw : Tok} {ps : List Nat} {vs : List Value} {rl : Addr} {rc : Nat} {h₀ : Heap} {outer : List Env} {pl pl' : Nat → Nat} {r : Option (List Item)}
    (hw : way < 3) (hh : A.handled = none) (hroom : A.depth + 2 < recursionLimit) (hA : A.frames = some outer) (hne : KeptNe ka) (G : Gd w mean mg mb h₀)
    (hk0 : ∀ p, p < 4 → h₀.get? (ka p) = none) (hkf : ∀ p, p < 4 → ka p ∉ frOf outer ∧ ks p ∉ frOf outer) (hks : ∀ p, p < 4 → ∃ o, s.heap.get? (ks p) = some o)
    (hps : ps ≠ []) (hpn : ps.length ≤ 3) (hbd : left ls pl + 4 ≤ 1000)
    (H : Runs ls way ps 0 pl [] r pl') (st : h₀.StaysIn s.heap) (hFF : s.heap.FunFrames h₀ outer)
    (hrl : s.heap.get? rl = some (lstObj vs.toArray rc)) (hR : RowsAre ka s.heap ps vs) (hK : KeptOk ls ka ks s.heap pl) (hKL : KeptList ka s.heap)
    (hQ : ∀ h' tk R, KeptOk ls ka ks h' pl' → ResIs h' R r → s.heap.get? R = Option.none → (∀ S c, h'.get? R = Option.some (lstObj #[.ref S] c) → s.heap.get? S = Option.none) → Stay (kaL ka ++ frOf outer) s.heap h' → FrUp (frOf outer) s.heap h' → Q (.ref R) { s with heap := h', toks := tk }) :
    wpAny (model prog w) A (call (.ref 68) [.int way tw, .ref rl]) Q E s := by
  have G' := G.keeps st
  refine wpAny_call ?_
  refine enterF (binds := [(Str.ofString "way", .int way tw), (Str.ofString "rows", .ref rl)]) [] G'.X G'.T.nolimit (by k_is) (by k_is) (by omega) (BindsTo.of_eq rfl) (locs rfl) (fun L' h₁ hL' F hk => ?_) rfl rfl rfl (by decide)
  replace F : Fr s.heap L' h₁ _ := F
  have X := G'.X
  have T := G'.T
  have N : News s.heap L' h₁ [] := News.nil
  dsimp only
  w_on
  w_strict (walk_at "mine")
  (rename News _ _ _ _ => N2)
  refine sub_list (vs := [.ref 28, .ref 35, .ref 42]) (v := .ref (fa way)) ⟨_, (N2 _ (.head _)).1, rfl, _, rfl⟩ (by omega) (by omega) (by
    have : way = 0 ∨ way = 1 ∨ way = 2 := by omega
    rcases this with rfl | rfl | rfl <;> rfl) ?_
  w_strict (walk_at "mine")
  (rename News _ _ _ _ => N3)
  (rename Fr _ _ _ _ => F3)
  have hlen := hR.length
  refine add_arrays (its := #[.ref (fa way)]) (its2 := vs.toArray) F3 N3 ⟨_, (N3 _ (.head _)).1, rfl, _, rfl⟩ ⟨_, F3.keep _ _ hrl, rfl, _, rfl⟩ (fun h4 F4 N4 => ?_) (by simp only [List.size_toArray]; rw [hlen, sizeLine_eq]; simp; omega)
  clear F3 N3
  w_strict (walk_at "mine")
  refine kde_tupleOf (zs := .ref (fa way) :: vs) F4 N4 ⟨_, (N4 _ (.head _)).1, rfl, _, rfl⟩ (by simp only [List.size_toArray, List.length_append, List.length_cons, List.length_nil]; simp; omega) (by simp) fun D h5 F5 N5 _ => ?_
  clear F4 N4
  w_strict (walk_at "mine")
  have hLs : s.heap.get? L' = Option.none := by rw [hL']; exact Heap.get?_none_of_le (Nat.le_refl _)
  have hLk : ∀ q, q < 4 → L' ≠ ka q := fun q hq e => by
    obtain ⟨o, ho, _⟩ := hKL q hq
    rw [← e, hLs] at ho; cases ho
  have h₀s : ∀ b, s.heap.get? b = Option.none → h₀.get? b = Option.none := fun b e => by
    cases q : h₀.get? b with
    | none => rfl
    | some o => have := st _ _ q; rw [e] at this; cases this
  have k5 : s.heap.StaysIn h5 := F5.keep
  refine mapstar_call (s := { s with heap := h5, toks := _ }) (ls := ls) (ka := ka) (ks := ks) (h₀ := h₀) (outer := envOf _ _ L' 68 (.ref 67) :: outer) (pl := pl) (pl' := pl') (r := r) (ps := ps) (vs := vs) (way := way) hw hh (by show A.depth + 1 + 1 < recursionLimit; omega) (Around.frames_deeper hA) hne G hk0
    (fun p hp => ⟨fun q => ?_, fun q => ?_⟩) (fun p hp => let ⟨o, ho⟩ := hks p hp; ⟨o, k5 _ _ ho⟩) hps hpn hbd H (staysIn_trans st k5)
    (Heap.FunFrames.cons (show ScopeKind.function ≠ ScopeKind.module by decide) rfl F5.ns (h₀s _ hLs) (hFF.of_keeps fun b o e _ => ⟨o, k5 b o e, rfl⟩)) (N5 _ (.head _)).1 (hR.stays k5) (hK.stays k5) (fun p hp => let ⟨o, ho, hc⟩ := hKL p hp; ⟨o, k5 _ _ ho, hc⟩) ?_
  · rcases List.mem_cons.mp q with x | x
    · exact hLk p hp x.symm
    · exact (hkf p hp).1 x
  · rcases List.mem_cons.mp q with x | x
    · obtain ⟨o, ho⟩ := hks p hp
      rw [x, hLs] at ho; cases ho
    · exact (hkf p hp).2 x
  cases r with
  | some out' =>
    intro h' tk' S acc' c' K' hS hS' hI hs'
    have k6 : Stay (kaL ka) s.heap h' := fun b o hb e => hs' b o hb (k5 b o e)
    have st2 : h₀.StaysIn (hideAll s.heap (kaL ka)) := fun b o e => hideAll_get _ (st b o e) fun q => by
      obtain ⟨p, hp, rfl⟩ := of_mem_kaL q
      rw [hk0 p hp] at e; cases e
    have F6 : Fr (hideAll s.heap (kaL ka)) L' h' _ := ⟨F5.ns.at' fun o e => hs' _ o (fun q => by obtain ⟨p, hp, e⟩ := of_mem_kaL q; exact hLk p hp e) e, fun b o e => by
      by_cases hb : b ∈ kaL ka
      · rw [hideAll_none _ hb] at e; cases e
      · exact k6 b o hb (of_hideAll _ e), by rw [hideAll_size]; exact F5.above⟩
    have hSs : s.heap.get? S = Option.none := by
      cases q : s.heap.get? S with
      | none => rfl
      | some o => have := k5 _ _ q; rw [show Heap.get? h5 S = Option.none from hS] at this; cases this
    have F6k : (hideAll s.heap (kaL ka)).StaysIn h' := F6.keep
    have hLns := F6.ns
    have hLn5 := F5.ns
    clear F5 N5 X T
    have G2 := G.keeps st2
    have X := G2.X
    have T := G2.T
    obtain ⟨ex, N6, hex⟩ := all_ledger (g := hideAll s.heap (kaL ka)) (h := h') (L := L')
    w_strict (walk_at "mine")
    (rename News _ _ _ _ => N7)
    (rename Fr _ _ _ _ => F7)
    have s7 : Stay [L'] h' _ := stay_all (F6k) hex F7 fun p hp => (N7 p (.tail _ hp)).1
    have hR7 := (N7 _ (.head _))
    have hLd : NoTup h' [L'] := fun b hb vs e => by
      rw [List.mem_singleton.mp hb] at e
      obtain ⟨o, _, _, ho, hd', _⟩ := hLns
      rw [ho] at e; cases e; cases hd'
    have hSL : S ≠ L' := fun e => by
      obtain ⟨o, _, _, ho, _⟩ := hLn5
      rw [← e] at ho
      rw [show Heap.get? h5 S = Option.none from hS] at ho; cases ho
    have hsL : ∀ b o, s.heap.get? b = Option.some o → b ∉ [L'] := fun b o e q => by rw [List.mem_singleton.mp q, hLs] at e; cases e
    have K7 : KeptOk ls ka ks _ pl' := fun p hp => (K' p hp).stayS s7 (by simpa using (hLk p hp).symm) (fun b eb => by
      cases eb
      obtain ⟨o, ho⟩ := hks p hp
      exact hsL _ o ho)
    refine hQ _ _ _ K7 (.some hR7.1 (s7 _ _ (by simpa using hSL) hS') (hI.stay s7 hLd)) ?_ (fun S' c' e => ?_) (fun b o hb e => s7 b o (hsL b o e) (k6 b o (fun q => hb (List.mem_append_left _ q)) e)) fun L hL o ho hnf => ⟨o.slots, s7 _ _ (hsL L o ho) (k6 _ _ (fun q => ?_) ho)⟩
    · refine not_kept K7 (fun q => ?_) hR7.1 rfl
      intro o e
      have := hR7.2.2
      rw [hideAll_get _ e q] at this; cases this
    · have e' := hR7.1.symm.trans e
      simp at e'
      rw [← e'.1]; exact hSs
    · obtain ⟨p, hp, rfl⟩ := of_mem_kaL q
      exact (hkf p hp).1 hL
  | none =>
    intro B h' tk' e t K' hB hfl hup
    have hLn5 := F5.ns
    have hsL : ∀ b o, s.heap.get? b = Option.some o → b ≠ L' := fun b o e q => by rw [q, hLs] at e; cases e
    have hB' : ∀ b o, s.heap.get? b = Option.some o → b ∉ kaL ka → b ∉ frOf outer → B.get? b = Option.some o := fun b o eb h1 h2 => hB b o (k5 b o eb) h1 fun q => by
      rcases List.mem_cons.mp q with x | x
      · exact hsL b o eb x
      · exact h2 x
    have gB : (hideAll s.heap (kaL ka ++ frOf outer)).StaysIn B := fun b o eb => by
      by_cases hb : b ∈ kaL ka ++ frOf outer
      · rw [hideAll_none _ hb] at eb; cases eb
      · exact hB' b o (of_hideAll _ eb) (fun q => hb (List.mem_append_left _ q)) (fun q => hb (List.mem_append_right _ q))
    have st3 : h₀.StaysIn (hideAll s.heap (kaL ka ++ frOf outer)) := fun b o eb => hideAll_get _ (st b o eb) fun q => by
      rcases List.mem_append.mp q with q | q
      · obtain ⟨p, hp, rfl⟩ := of_mem_kaL q
        rw [hk0 p hp] at eb; cases eb
      · rw [(hFF.mem q).1] at eb; cases eb
    have ns' : ∀ (h6 : Heap), h'.UpToSlots h6 → h6.Ns L' (fun y => List.lookup y [(Str.ofString "way", .int way tw), (Str.ofString "rows", .ref rl)].reverse) := fun h6 hu => by
      obtain ⟨o, es, ep, ho, hd', hr⟩ := hLn5
      have hnf : ∀ vs, o.data ≠ .fields vs := fun vs q => by rw [hd'] at q; cases q
      obtain ⟨sl, h1⟩ := hup L' List.mem_cons_self o ho hnf
      obtain ⟨sl2, h2⟩ := hu L' _ h1 hnf
      exact ⟨_, es, ep, h2, hd', hr⟩
    clear F5 N5 X T
    have G2 := G.keeps st3
    have X := G2.X
    have T := G2.T
    refine wpAny_looks_onW (Around.frames_deeper hA) rfl hfl fun h₄ hheld₄ hsm₄ => ?_
    refine wpAny_landsW hheld₄ fun h₅ hheld hsm₅' => ?_
    have hsm₅ := hsm₄.trans hsm₅'
    obtain ⟨ob, hob, hobc⟩ := hheld.there
    have F6 : Fr (hideAll s.heap (kaL ka ++ frOf outer)) L' h₅ _ := ⟨ns' _ hsm₅, fun b o eb => hheld.1 b o (gB b o eb), by rw [hideAll_size, hL']; exact Nat.le_refl _⟩
    refine wpAny_handleBy_builtin (X := "ValueError") (T := "ValueError") (b := true) (by rw [isSubtype_type]; kernel_rfl) (by rw [isSubtype_type]; kernel_rfl) (by rw [isSubtype_type]; kernel_rfl) ?_
    w_strict walk1
    refine ⟨rfl, ⟨ob, hob, hobc⟩, ?_⟩
    rw [if_pos rfl]
    refine lands_againW hheld fun h₆ hfl₆ hsm₆ => ?_
    clear F6
    have F6 : Fr (hideAll s.heap (kaL ka ++ frOf outer)) L' h₆ _ := ⟨ns' _ (hsm₅.trans hsm₆), fun b o eb => hfl₆.1 b o (gB b o eb), by rw [hideAll_size, hL']; exact Nat.le_refl _⟩
    have F6k := F6.keep
    obtain ⟨ex, N6, hex⟩ := all_ledger (g := hideAll s.heap (kaL ka ++ frOf outer)) (h := h₆) (L := L')
    have fresh7 : ∀ a, (hideAll s.heap (kaL ka ++ frOf outer)).get? a = Option.none → (∀ p ∈ ex, p.1 < a) → a ∉ kaL ka → ∀ {o : Obj}, s.heap.get? a ≠ Option.some o := by
      intro a hg hlt hka o eb
      by_cases hf : a ∈ frOf outer
      · obtain ⟨_, o', ho', hnf⟩ := hFF.mem hf
        obtain ⟨sl, h1⟩ := hup a (List.mem_cons_of_mem _ hf) o' (k5 _ _ ho') hnf
        obtain ⟨sl2, h2⟩ := (hsm₅.trans hsm₆) _ _ h1 hnf
        exact absurd (hlt _ (hex _ _ h2 (hsL _ _ ho') hg)) (Nat.lt_irrefl _)
      · rw [hideAll_get _ eb (by simp [hka, hf])] at hg; cases hg
    w_strict (walk_at "mine")
    (rename News _ _ _ _ => N7)
    (rename Fr _ _ _ _ => F7)
    have s7 : Stay [L'] h₆ _ := stay_all F6k hex F7 fun p hp => (N7 p (.tail _ hp)).1
    have hR7 := (N7 _ (.head _))
    have K7 : KeptOk ls ka ks _ pl' := fun p hp => ((K' p hp).stays hfl₆.1).stayS s7 (by simpa using (hLk p hp).symm) (fun b eb => by
      cases eb
      obtain ⟨o, ho⟩ := hks p hp
      simpa using hsL _ o ho)
    refine hQ _ _ _ K7 (.none hR7.1) ?_ (fun S' c' e => by have e' := hR7.1.symm.trans e; simp at e') (fun b o hb eb => s7 b o (by simpa using hsL b o eb) (hfl₆.1 b o (hB' b o eb (fun q => hb (List.mem_append_left _ q)) fun q => hb (List.mem_append_right _ q)))) fun L hL o ho hnf => ?_
    · (rename (∀ p ∈ ex, p.1 < _) => hlt)
      exact not_kept (h := s.heap) K7 (fun q => fresh7 _ hR7.2.2 hlt q) hR7.1 rfl
    · obtain ⟨sl, h1⟩ := hup L (List.mem_cons_of_mem _ hL) o (k5 _ _ ho) hnf
      obtain ⟨sl2, h2⟩ := (hsm₅.trans hsm₆) L _ h1 hnf
      exact ⟨sl2, s7 _ _ (by simpa using hsL L o ho) h2⟩
end
end Mine
end

/-! part Due -/
section
open PySem PySem.W PySem.Calls PyProof.Rows
namespace Mine
set_option maxRecDepth 100000
set_option maxHeartbeats 2000000
theorem fill5 : (PySem.Challenge.rw_ki0062_01 = PySem.Challenge.rw_ki0062_01) ∧ (hd.heap_39 = hd.heap_39) := by
  k_fill; exact ⟨rfl, rfl⟩
local macro_rules | `(tactic| walk_at "mine") => `(tactic| repeat' (first | walk1 | (dsimp only; walk1)))
local macro_rules | `(tactic| walk_at "subscriptTail Name Name ref int") => `(tactic| refine stop ?_)
local macro_rules | `(tactic| walk_at "Exists") => `(tactic| refine stop ?_)
local macro_rules | `(tactic| walk_at "subscriptTail") => `(tactic| refine stop ?_)
local macro_rules | `(tactic| walk_at "exec While") => `(tactic| refine stop ?_)
local macro_rules | `(tactic| walk_at "exec For Name Name cons nil") => `(tactic| refine stop ?_)
local macro_rules | `(tactic| walk_at "pyIter ref") => `(tactic| refine stop ?_)
local macro_rules | `(tactic| walk_at "call builtin:len") => `(tactic| refine stop ?_)
local macro_rules | `(tactic| walk_at "call builtin:sum") => `(tactic| refine stop ?_)
local macro_rules | `(tactic| walk_at "call type:tuple") => `(tactic| refine stop ?_)
local macro_rules | `(tactic| walk_at "setItem") => `(tactic| refine stop ?_)
local macro_rules | `(tactic| walk_at "getMethod ref") => `(tactic| refine stop ?_)
local macro_rules | `(tactic| walk_at "call builtin:list.append") => `(tactic| refine stop ?_)

/-- the places' list -/
def PlacesAt (h : Heap) (a : Addr) (pl : Nat → Nat) : Prop := ∃ vs, h.IsList a (List.toArray vs) ∧ IntsAre vs [(pl 0 : Int), (pl 1 : Int), (pl 2 : Int), (pl 3 : Int)]
theorem PlacesAt.stay {h h' a pl W} (x : PlacesAt h a pl) (s : Stay W h h') (n : a ∉ W) : PlacesAt h' a pl := let ⟨vs, hl, hi⟩ := x; ⟨vs, isList_stay hl s n, hi⟩
def natInts (ps : List Nat) : List Int := ps.map fun (p : Nat) => (p : Int)

section
variable {prog : Program} {w : World} {A : Around} {mean : ExcName → Option Value} {mg mb : Str → Option Value} {Q : Value → Shared → Prop} {E : Value → Shared → Prop} {s : Shared}

theorem sum_listG {t : Addr} {xs : Array (Int × Tok)} (hh : A.handled = none) (ht : s.heap.IsList t (intItems xs))
    (h : ∀ h' tk t', s.heap.StaysIn h' → Q (.int (preSum (numAt xs) xs.size) t') { s with heap := h', toks := tk }) :
    wpAny (model prog w) A (call (.builtin "sum") [.ref t]) Q E s := by
  obtain ⟨o, ho, hc, n, hd⟩ := id ht
  have hne : t ≠ s.heap.objs.size := Nat.ne_of_lt (Heap.lt_size ho)
  have hsz : (intItems xs).size = xs.size := by simp [intItems]
  have W := (Walks.list (prog := prog) (w := w) (A := A.in1) hh s.heap.objs.size t hne (intItems xs)).toS
  rw [hsz] at W
  refine call_sum_walkAnyS (wpAny_pyIter_list ht ?_)
  refine ⟨s.heap.objs.size, _, _, _, _, _, _, numAt xs, rfl, W, ⟨⟨_, Heap.get?_push_size _ rfl, rfl, rfl⟩, ht.at fun o e => Heap.get?_push_of_some _ e⟩, fun b hb => ?_, fun i v hP => intItems_at hP, fun s' t' hm => ?_⟩
  · rcases List.mem_cons.mp hb with rfl | hb
    · exact Heap.lt_size (Heap.get?_push_size _ rfl)
    · obtain rfl := List.mem_singleton.mp hb
      exact Heap.lt_size (Heap.get?_push_of_some _ ho)
  · obtain ⟨h', g', d', tk', os'⟩ := s'
    have e1 : g' = s.gens := hm.gens
    have e2 : d' = s.drawn := hm.drawn
    have e3 : os' = s.os := hm.os
    subst e1 e2 e3
    exact h h' tk' t' fun b o e => hm.heap b o (fun hb => absurd (Heap.lt_size e) ((List.mem_singleton.mp hb) ▸ Nat.lt_irrefl _)) (Heap.get?_push_of_some _ e)
theorem sum_list {t : Addr} {vs : List Value} {ns : List Int} (hh : A.handled = none) (hl : s.heap.IsList t vs.toArray) (hi : IntsAre vs ns)
    (h : ∀ h' tk t', s.heap.StaysIn h' → Q (.int ns.sum t') { s with heap := h', toks := tk }) :
    wpAny (model prog w) A (call (.builtin "sum") [.ref t]) Q E s := by
  obtain ⟨xs, hx⟩ := hi.allInts.items
  have hn : numsOf vs.toArray.toList = ns := by rw [show vs.toArray.toList = vs from rfl, hi.numsOf]
  rw [hx] at hl hn
  rw [nums_intItems] at hn
  refine sum_listG hh hl fun h' tk t' hk => ?_
  have := h h' tk t' hk
  rw [preSum_eq, List.take_of_length_le (by simp), hn]
  exact this

theorem ns_noTup {h : Heap} {L : Addr} {m : Str → Option Value} (x : h.Ns L m) : NoTup h [L] := fun b hb vs e => by
  rw [List.mem_singleton.mp hb] at e
  obtain ⟨o, _, _, ho, hd', _⟩ := x
  rw [ho] at e; cases e; cases hd'

theorem four_at {f : Nat → Int} {p : Nat} (h : p < 4) : [f 0, f 1, f 2, f 3][p]? = some (f p) := by
  have : p = 0 ∨ p = 1 ∨ p = 2 ∨ p = 3 := by omega
  rcases this with rfl | rfl | rfl | rfl <;> rfl
theorem four_ref {f : Nat → Addr} {p : Nat} (h : p < 4) : [Value.ref (f 0), .ref (f 1), .ref (f 2), .ref (f 3)][p]? = some (.ref (f p)) := by
  have : p = 0 ∨ p = 1 ∨ p = 2 ∨ p = 3 := by omega
  rcases this with rfl | rfl | rfl | rfl <;> rfl

theorem intsAre_set {vs : List Value} {ns : List Int} (h : IntsAre vs ns) (k : Nat) (x : Int) (t : Tok) : IntsAre (vs.set k (.int x t)) (ns.set k x) := by
  induction h generalizing k with
  | nil => exact .nil
  | cons n u _ ih =>
    cases k with
    | zero => exact .cons x t (by assumption)
    | succ k => exact .cons n u (ih k)
theorem four_set {pl : Nat → Nat} {p : Nat} (h : p < 4) : [(pl 0 : Int), (pl 1 : Int), (pl 2 : Int), (pl 3 : Int)].set p ((pl p : Int) + 1) = [(bump pl p 0 : Int), (bump pl p 1 : Int), (bump pl p 2 : Int), (bump pl p 3 : Int)] := by
  have : p = 0 ∨ p = 1 ∨ p = 2 ∨ p = 3 := by omega
  rcases this with rfl | rfl | rfl | rfl <;> simp [bump]

/-- due's names -/
abbrev dueM (way : Nat) (tw : Tok) (pkA LLA PLA ot : Addr) (pv tv : Option Value) : Str → Option Value := fun y =>
  if y = Str.ofString "p" then pv else if y = Str.ofString "taken" then tv else if y = Str.ofString "out" then some (.ref ot) else
    List.lookup y [(Str.ofString "way", Value.int way tw), (Str.ofString "picks", .ref pkA), (Str.ofString "lists", .ref LLA), (Str.ofString "places", .ref PLA)].reverse

theorem due_call {ls : Nat → List Int} {ks : Nat → Addr} {way : Nat} {tw : Tok} {ps : List Nat} {pvs lvs : List Value} {pkA LLA PLA : Addr} {h₀ : Heap} {pl pl' : Nat → Nat} {r : Option (List Item)}
    (hw : way < 3) (hh : A.handled = none) (hroom : A.depth < recursionLimit) (G : Gd w mean mg mb h₀) (st : h₀.StaysIn s.heap)
    (hps : ps ≠ []) (hpn : ps.length ≤ 3) (hbd : left ls pl + 4 ≤ 1000) (H : Runs ls way ps 0 pl [] r pl')
    (hpk : s.heap.IsList pkA pvs.toArray) (hpi : IntsAre pvs (natInts ps)) (hLL : s.heap.IsList LLA [Value.ref (ks 0), .ref (ks 1), .ref (ks 2), .ref (ks 3)].toArray)
    (hls : ∀ p, p < 4 → ∃ vs : List Value, s.heap.IsList (ks p) vs.toArray ∧ IntsAre vs (ls p) ∧ (ls p).length ≤ 1000) (hPL : PlacesAt s.heap PLA pl) (hplb : ∀ p, p < 4 → pl p ≤ (ls p).length) (hP0 : h₀.get? PLA = none)
    (hne : PLA ≠ pkA ∧ PLA ≠ LLA ∧ ∀ p, p < 4 → PLA ≠ ks p)
    (hQ : ∀ h' tk R, PlacesAt h' PLA pl' → ResIs h' R r → s.heap.get? R = none → Stay [PLA] s.heap h' → Q (.ref R) { s with heap := h', toks := tk }) :
    wpAny (model prog w) A (call (.ref 75) [.int way tw, .ref pkA, .ref LLA, .ref PLA]) Q E s := by
  have G' := G.keeps st
  have stg : h₀.StaysIn (hideAll s.heap [PLA]) := fun b o e => hideAll_get _ (st b o e) fun q => by rw [List.mem_singleton.mp q, hP0] at e; cases e
  have Gg := G.keeps stg
  have pkg : (hideAll s.heap [PLA]).IsList pkA pvs.toArray := isList_stay hpk (stay_hide _ _) (by simpa using hne.1.symm)
  have LLg := isList_stay hLL (stay_hide _ [PLA]) (by simpa using hne.2.1.symm)
  have lsg : ∀ p, p < 4 → ∃ vs : List Value, (hideAll s.heap [PLA]).IsList (ks p) vs.toArray ∧ IntsAre vs (ls p) ∧ (ls p).length ≤ 1000 := fun p hp =>
    let ⟨vs, hl, r⟩ := hls p hp; ⟨vs, isList_stay hl (stay_hide _ _) (by simpa using (hne.2.2 p hp).symm), r⟩
  refine wpAny_call ?_
  refine enterF (binds := [(Str.ofString "way", .int way tw), (Str.ofString "picks", .ref pkA), (Str.ofString "lists", .ref LLA), (Str.ofString "places", .ref PLA)]) [PLA] G'.X G'.T.nolimit (by k_is) (by k_is) (by omega) (BindsTo.of_eq rfl) (locs rfl) (fun L' h₁ hL' F hk => ?_) rfl rfl rfl (by decide)
  have X := Gg.X
  have T := Gg.T
  have hPLg : (hideAll s.heap [PLA]).get? PLA = none := hideAll_none _ (by simp)
  have hLs : s.heap.get? L' = none := by rw [hL']; exact Heap.get?_none_of_le (Nat.le_refl _)
  have hPLne : PLA ≠ L' := fun e => by obtain ⟨vs, ⟨o, ho, _⟩, _⟩ := hPL; rw [e, hLs] at ho; cases ho
  have hF0 := F.keep
  obtain ⟨ex, N, hex⟩ := all_ledger (g := hideAll s.heap [PLA]) (h := h₁) (L := L')
  dsimp only
  w_on
  w_strict (walk_at "mine")
  (rename News _ _ _ _ => N2)
  (rename Fr _ _ _ _ => F2)
  have s2 : Stay [L'] h₁ _ := stay_all hF0 hex F2 fun p hp => (N2 p (.tail _ hp)).1
  rename_i ot hx hlt h2
  have hot := N2 _ (.head _)
  have hotP : ot ≠ PLA := fun e => by
    obtain ⟨vs, ⟨o, ho, _⟩, _⟩ := hPL
    have := hlt _ (hex PLA o (hk _ _ ho) hPLne hPLg)
    exact absurd this (by rw [e]; exact Nat.lt_irrefl _)
  have hots : s.heap.get? ot = none := by
    cases q : s.heap.get? ot with
    | none => rfl
    | some o => have := hot.2.2; rw [hideAll_get _ q (by simpa using hotP)] at this; cases this
  have P2 : PlacesAt h2 PLA pl := (hPL.stay (W := []) (fun b o _ e => hk b o e) (by simp)).stay s2 (by simpa using hPLne)
  replace F2 : Fr (hideAll s.heap [PLA]) L' h2 (dueM way tw pkA LLA PLA ot none none) := by
    have e : (fun y => if y = Str.ofString "out" then some (Value.ref ot) else List.lookup y [(Str.ofString "way", Value.int way tw), (Str.ofString "picks", .ref pkA), (Str.ofString "lists", .ref LLA), (Str.ofString "places", .ref PLA)].reverse) = dueM way tw pkA LLA PLA ot none none := by
      funext y
      unfold dueM
      by_cases h1 : y = Str.ofString "p"
      · subst h1; rfl
      · by_cases h2 : y = Str.ofString "taken"
        · subst h2; rfl
        · simp [h1, h2]
    rw [← e]; exact F2
  clear N2 hex hlt hx s2
  refine wpAny_While ?_
  refine codeAny_whileLoop (fun k s' => ∃ n pl out h' tk acc c pv tv, s' = { s with heap := h', toks := tk } ∧ Runs ls way ps n pl out r pl' ∧ k = left ls pl + (4 - n) ∧
      Fr (hideAll s.heap [PLA]) L' h' (dueM way tw pkA LLA PLA ot pv tv) ∧ PlacesAt h' PLA pl ∧ h'.get? ot = some (lstObj (List.toArray acc) c) ∧ ItemsAre h' acc out ∧ out.length = n ∧ (∀ p, p < 4 → pl p ≤ (ls p).length) ∧ n + left ls pl + (4 - n) ≤ 1000 ∧ ((∃ p ∈ ps, ¬ p < 4) → n ≤ 4)) ?_ (left ls pl + (4 - 0))
    ⟨0, pl, [], h2, _, [], 0, none, none, rfl, H, rfl, F2, P2, hot.1, .nil, rfl, hplb, by omega, fun _ => by omega⟩
  clear F2 P2 H hbd hPL hplb
  rintro k s' ⟨n, pl, out, h3, tk3, acc, c, pv, tv, rfl, H, rfl, F3, P3, O3, I3, hlen, hplb, hbd, hn4⟩
  have hF3 := F3.keep
  have nt3 := ns_noTup F3.ns
  have hotL : ot ≠ L' := hot.2.1
  have hotg : (hideAll s.heap [PLA]).get? ot = none := hot.2.2
  clear hot h2
  obtain ⟨ex3, N3, hex3⟩ := all_ledger (g := hideAll s.heap [PLA]) (h := h3) (L := L')
  w_strict (walk_at "mine")
  (rename News _ _ _ _ => N4)
  (rename Fr _ _ _ _ => F4)
  have s4 : Stay [L'] h3 _ := stay_all hF3 hex3 F4 fun p hp => (N4 p (.tail _ hp)).1
  rename_i ta hx hlt h4
  have hta := N4 _ (.head _)
  have htaO : ta ≠ ot := fun e => absurd (hlt _ (hex3 _ _ O3 hotL hotg)) (by rw [e]; exact Nat.lt_irrefl _)
  have htaP : ta ≠ PLA := fun e => by
    obtain ⟨vs, ⟨o, ho, _⟩, _⟩ := P3
    exact absurd (hlt _ (hex3 _ _ ho hPLne hPLg)) (by rw [e]; exact Nat.lt_irrefl _)
  have htaL : ta ≠ L' := hta.2.1
  have htag : (hideAll s.heap [PLA]).get? ta = none := hta.2.2
  have O4 := s4 _ _ (by simpa using hotL) O3
  have I4 : ItemsAre h4 acc out := I3.stay s4 nt3
  have P4 := P3.stay s4 (by simpa using hPLne)
  have A4 : h4.get? ta = some (lstObj ([] : List Value).toArray 0) := hta.1
  replace F4 : Fr (hideAll s.heap [PLA]) L' h4 (dueM way tw pkA LLA PLA ot pv (some (.ref ta))) := by
    have e : (fun y => if y = Str.ofString "taken" then some (Value.ref ta) else dueM way tw pkA LLA PLA ot pv tv y) = dueM way tw pkA LLA PLA ot pv (some (.ref ta)) := by
      funext y
      unfold dueM
      by_cases h1 : y = Str.ofString "taken"
      · subst h1; rfl
      · simp [h1]
    rw [← e]; exact F4
  clear P3 O3 I3 N4 hex3 hlt hx s4 hta hF3 ex3 nt3 h3
  have fin : ∀ (h8 h9 : Heap) (l9 : Addr) (tk : Nat), (hideAll s.heap [PLA]).StaysIn h8 → PlacesAt h8 PLA pl' → h8.get? ot = some (lstObj acc.toArray c) → ItemsAre h8 acc out → NoTup h8 [L'] → Stay [L'] h8 h9 → h9.get? l9 = some (lstObj #[.ref ot] 0) → (hideAll s.heap [PLA]).get? l9 = none → l9 ≠ PLA → r = some out →
      Q (.ref l9) { s with heap := h9, toks := tk } := fun h8 h9 l9 tk k8 P8 O8 I8 nt s9 e9 g9 n9 hr => by
    subst hr
    refine hQ h9 tk l9 (P8.stay s9 (by simpa using hPLne)) (.some e9 (s9 _ _ (by simpa using hotL) O8) (I8.stay s9 nt)) ?_ fun b o hb e => s9 b o (fun q => ?_) (k8 b o (hideAll_get _ e hb))
    · cases q : s.heap.get? l9 with
      | none => rfl
      | some o => rw [hideAll_get _ q (by simpa using n9)] at g9; cases g9
    · rw [List.mem_singleton.mp q, hLs] at e; cases e
  refine wpAny_For ?_
  w_strict walk1
  have pk4 : h4.IsList pkA pvs.toArray := pkg.at fun o e => F4.keep _ o e
  refine wpAny_pyIter_list pk4 ?_
  have hits : h4.get? h4.objs.size = none := Heap.get?_none_of_le (Nat.le_refl _)
  obtain ⟨itA, hitA⟩ : ∃ a, a = h4.objs.size := ⟨_, rfl⟩
  obtain ⟨h5, hh5⟩ : ∃ h, h = h4.push { cls := .type "list_iterator", data := .fields #[.ref pkA, .int 0 0] } := ⟨_, rfl⟩
  have st5 : h4.StaysIn h5 := by rw [hh5]; exact push_stays _ _
  have it5 : h5.IsListIter itA pkA 0 := by rw [hh5, hitA]; exact ⟨_, Heap.get?_push_size _ rfl, rfl, rfl⟩
  have gh4 : ∀ b o, (hideAll s.heap [PLA]).get? b = some o → h4.get? b = some o := F4.keep
  have hin : ∀ {a : Addr} {o : Obj}, h4.get? a = some o → a ≠ itA := fun e q => by rw [q, hitA, hits] at e; cases e
  have hitg : (hideAll s.heap [PLA]).get? itA = none := by
    cases q : (hideAll s.heap [PLA]).get? itA with
    | none => rfl
    | some o => exact absurd rfl (hin (gh4 _ _ q))
  have hitL : L' ≠ itA := by obtain ⟨o, _, _, ho, _⟩ := F4.ns; exact hin ho
  have hitP : PLA ≠ itA := by obtain ⟨vs, ⟨o, ho, _⟩, _⟩ := P4; exact hin ho
  have hitO : ot ≠ itA := hin O4
  have hitT : ta ≠ itA := hin A4
  have hitK : pkA ≠ itA := by obtain ⟨o, ho, _⟩ := pk4; exact hin ho
  dsimp only
  rw [← hitA]
  refine codeAny_forLoop (fun k s' => ∃ i h' tk tkv tvs c' pli pv, s' = { s with heap := h', toks := tk } ∧ i ≤ ps.length ∧ k = ps.length - i ∧ h'.IsListIter itA pkA i ∧
      Fr (hideAll s.heap [PLA]) L' h' (dueM way tw pkA LLA PLA ot pv (some (.ref ta))) ∧ PlacesAt h' PLA pli ∧ h'.get? ot = some (lstObj (List.toArray acc) c) ∧ ItemsAre h' acc out ∧
      h'.get? ta = some (lstObj (List.toArray tvs) c') ∧ IntsAre tvs tkv ∧ tkv.length = i ∧ (∀ p, p < 4 → pli p ≤ (ls p).length) ∧ draw ls n (ps.drop i) pli tkv = draw ls n ps pl []) ?_ ps.length
    ⟨0, h5, _, [], [], 0, pl, pv, by rw [hh5], Nat.zero_le _, rfl, it5, ⟨F4.ns.keeps st5, fun b o e => st5 b o (gh4 b o e), F4.above⟩, P4.stay (W := []) (fun b o _ e => st5 b o e) (by simp), st5 _ _ O4, I4.stay (W := []) (fun b o _ e => st5 b o e) (fun b hb => by cases hb), st5 _ _ A4, .nil, rfl, hplb, rfl⟩
  clear F4 P4 O4 I4 A4 it5 st5 hh5 pk4 hits hin gh4 hitA h5 h4
  rintro k s' ⟨i, h6, tk6, tkv, tvs, c', pli, pv6, rfl, hi, rfl, it6, F6, P6, O6, I6, A6, hti, htl, hpl6, hdr⟩
  have pk6 : h6.IsList pkA pvs.toArray := pkg.at fun o e => F6.keep _ o e
  by_cases hlt : i < ps.length
  · have hpi' : (natInts ps)[i]? = some ((ps[i] : Nat) : Int) := by simp [natInts, hlt]
    obtain ⟨tp, hx⟩ := intsAre_get hpi hpi'
    refine wpAny_pyNext_list_item it6 pk6 (x := .int (ps[i] : Nat) tp) (by simpa using hx) fun h7 it7 hs7 => ?_
    have s7 := sameBut_stay hs7
    have F7 := fr_stay F6 s7 (by simpa using hitL) (by intro b hb; rw [List.mem_singleton.mp hb]; exact hitg)
    dsimp only
    refine wpAny_assign_Name (wpAny_storeName_local rfl F7.ns (fun h8 hn8 hs8 => ?_) rfl)
    have s8 : Stay [L'] h7 h8 := sameBut_stay hs8
    have F8 := F7.set hn8 hs8
    dsimp only
    replace F8 : Fr (hideAll s.heap [PLA]) L' h8 (dueM way tw pkA LLA PLA ot (some (.int (ps[i] : Nat) tp)) (some (.ref ta))) := by
      have e : (fun y => if y = Str.ofString "p" then some (Value.int (ps[i] : Nat) tp) else dueM way tw pkA LLA PLA ot pv6 (some (.ref ta)) y) = dueM way tw pkA LLA PLA ot (some (.int (ps[i] : Nat) tp)) (some (.ref ta)) := by
        funext y
        unfold dueM
        by_cases h1 : y = Str.ofString "p"
        · subst h1; rfl
        · simp [h1]
      rw [← e]; exact F8
    have nt6 : NoTup h6 [itA] := fun b hb vs e => by
      rw [List.mem_singleton.mp hb] at e
      obtain ⟨o, ho, hc, _⟩ := it6
      rw [ho] at e; cases e; simp at hc
    have it8 : h8.IsListIter itA pkA (i + 1) := it7.at fun o e => s8 _ _ (by simpa using hitL.symm) e
    have P8 := (P6.stay s7 (by simpa using hitP)).stay s8 (by simpa using hPLne)
    have O8 := s8 _ _ (by simpa using hotL) (s7 _ _ (by simpa using hitO) O6)
    have A8 := s8 _ _ (by simpa using htaL) (s7 _ _ (by simpa using hitT) A6)
    have I8 := (I6.stay s7 nt6).stay s8 (ns_noTup F7.ns)
    have hdrop : ps.drop i = ps[i] :: ps.drop (i + 1) := List.drop_eq_getElem_cons hlt
    rw [hdrop] at hdr
    clear F7 F6 P6 O6 I6 A6 it6 it7 s7 s8 hn8 hs8 hs7 nt6 pk6 hx hpi' h7 h6
    have k8 := F8.keep
    have nt8 := ns_noTup F8.ns
    obtain ⟨ex8, N, hex8⟩ := all_ledger (g := hideAll s.heap [PLA]) (h := h8) (L := L')
    have P8' := P8
    w_strict (walk_at "mine")
    · rename_i hp4
      have hp : ps[i] < 4 := by omega
      obtain ⟨qvs, Pl8, Pi8⟩ := P8
      obtain ⟨tq, hq⟩ := intsAre_get Pi8 (four_at (f := fun q => (pli q : Int)) hp)
      obtain ⟨lvs, ll, lli, llen⟩ := lsg _ hp
      have ll8 : h8.IsList (ks ps[i]) lvs.toArray := ll.at fun o e => F8.keep _ o e
      have LL8 : h8.IsList LLA [Value.ref (ks 0), .ref (ks 1), .ref (ks 2), .ref (ks 3)].toArray := LLg.at fun o e => F8.keep _ o e
      have hbig : (ps[i] : Int) < 2 ^ 63 := by omega
      refine sub_list Pl8 (by omega) hbig (v := .int (pli ps[i]) tq) (by simpa using hq) ?_
      w_strict (walk_at "mine")
      refine sub_list LL8 (by omega) hbig (v := .ref (ks ps[i])) (by simpa using four_ref hp) ?_
      w_strict (walk_at "mine")
      refine len_list ll8 (by rw [List.size_toArray, lli.length]; omega) ?_
      w_strict (walk_at "mine")
      · rename_i heq l9 h9 _ _ hlt9
        (rename News _ _ _ _ => N9)
        (rename Fr _ _ _ _ => F9)
        have s9 : Stay [L'] h8 h9 := stay_all k8 hex8 F9 fun p hp => (N9 p (.tail _ hp)).1
        have hnone : (ls ps[i])[pli ps[i]]? = none := List.getElem?_eq_none_iff.mpr (by rw [← lli.length]; simp at heq; omega)
        have hd0 : draw ls n ps pl [] = (none, pli) := by rw [← hdr]; simp [draw, hp, hnone]
        obtain ⟨hr, rfl⟩ := runs_none H hd0
        exact fin h8 h9 l9 _ k8 P8' O8 I8 nt8 s9 (N9 _ (.head _)).1 (N9 _ (.head _)).2.2 (fun e => by
          obtain ⟨o, ho, _⟩ := Pl8
          exact absurd (hlt9 _ (hex8 _ _ ho hPLne hPLg)) (by rw [e]; exact Nat.lt_irrefl _)) hr
      · rename_i hneq
        have hle : pli ps[i] ≠ lvs.length := fun e => hneq (by simp [e])
        obtain ⟨v, hv⟩ : ∃ v, (ls ps[i])[pli ps[i]]? = some v := by
          have := hpl6 _ hp
          rcases Nat.lt_or_ge (pli ps[i]) (ls ps[i]).length with h | h
          · exact ⟨_, List.getElem?_eq_getElem h⟩
          · exact absurd (Nat.le_antisymm this h) (by rw [← lli.length]; exact hle)
        obtain ⟨tv', hv'⟩ := intsAre_get lli hv
        refine Calls.getMethod_list_append A8 rfl rfl ?_
        w_strict (walk_at "mine")
        refine sub_list LL8 (by omega) hbig (v := .ref (ks ps[i])) (by simpa using four_ref hp) ?_
        w_strict (walk_at "mine")
        refine sub_list Pl8 (by omega) hbig (v := .int (pli ps[i]) tq) (by simpa using hq) ?_
        w_strict (walk_at "mine")
        have hbig2 : (pli ps[i] : Int) < 2 ^ 63 := by
          have := (List.getElem?_eq_some_iff.mp hv).1
          omega
        refine sub_list ll8 (by omega) hbig2 (v := .int v tv') (by simpa using hv') ?_
        w_strict (walk_at "mine")
        refine append_at A8 (fun h9 hs9 A9 => ?_) (by rw [List.size_toArray, hti.length, htl, sizeLine_eq]; omega)
        have s9 := sameBut_stay hs9
        have F9 := fr_stay F8 s9 (by simpa using htaL.symm) (by intro b hb; rw [List.mem_singleton.mp hb]; exact htag)
        have Pl9 : h9.IsList PLA qvs.toArray := isList_stay Pl8 s9 (by simpa using htaP.symm)
        have nt9 : NoTup h8 [ta] := fun b hb vs e => by rw [List.mem_singleton.mp hb, A8] at e; simp at e
        have O9 := s9 _ _ (by simpa using htaO.symm) O8
        have I9 := I8.stay s9 nt9
        have it9 : h9.IsListIter itA pkA (i + 1) := it8.at fun o e => s9 _ _ (by simpa using hitT.symm) e
        clear F8
        have N9 : News (hideAll s.heap [PLA]) L' h9 [] := News.nil
        w_strict (walk_at "mine")
        refine sub_list Pl9 (by omega) hbig (v := .int (pli ps[i]) tq) (by simpa using hq) ?_
        w_strict (walk_at "mine")
        have hql : qvs.length = 4 := by have := Pi8.length; simpa using this
        refine wpAny_setItem_list Pl9 (by omega) hbig (by rw [List.size_toArray, hql]; omega) fun h10 Pl10 hs10 => ?_
        have s10 := sameBut_stay hs10
        have F10 := fr_stay F9 s10 (by simpa using hPLne.symm) (by intro b hb; rw [List.mem_singleton.mp hb]; exact hPLg)
        have nt10 : NoTup h9 [PLA] := fun b hb vs e => by
          rw [List.mem_singleton.mp hb] at e
          obtain ⟨o, ho, hc, _⟩ := Pl9
          rw [ho] at e; cases e; simp at hc
        have P10 : PlacesAt h10 PLA (bump pli ps[i]) := by
          rw [Int.toNat_natCast, List.setIfInBounds_toArray] at Pl10
          exact ⟨_, Pl10, by rw [← four_set hp]; exact intsAre_set Pi8 _ _ _⟩
        clear F9
        w_strict (walk_at "mine")
        refine ⟨ps.length - (i + 1), by omega, i + 1, h10, _, tkv ++ [v], tvs ++ [.int v tv'], c' + 1, bump pli ps[i], _, rfl, hlt, rfl, it9.at fun o e => s10 _ _ (by simpa using hitP.symm) e, F10, P10, s10 _ _ (by simpa using hotP) O9, I9.stay s10 nt10, ?_, intsAre_snoc hti v tv', by simp [htl], ?_, ?_⟩
        · have := s10 _ _ (by simpa using htaP) A9
          simpa using this
        · intro q hq
          unfold bump
          split
          · rename_i e; subst e; exact (List.getElem?_eq_some_iff.mp hv).1
          · exact hpl6 q hq
        · rw [← hdr]; simp [draw, hp, hv]
    · rename_i hp4
      have hp : ¬ ps[i] < 4 := by omega
      have hacc : acc.length = n := I8.length.trans hlen
      have hn5 : n ≤ 4 := hn4 ⟨_, List.getElem_mem hlt, hp⟩
      refine len_list ⟨_, O8, rfl, _, rfl⟩ (by rw [List.size_toArray, hacc]; omega) ?_
      w_strict (walk_at "mine")
      · rename_i heq l9 h9 _ _ hlt9
        (rename News _ _ _ _ => N9)
        (rename Fr _ _ _ _ => F9)
        have s9 : Stay [L'] h8 h9 := stay_all k8 hex8 F9 fun p hp => (N9 p (.tail _ hp)).1
        have hn : 4 ≤ n := by rw [List.size_toArray, hacc] at heq; omega
        have hd0 : draw ls n ps pl [] = (none, pli) := by rw [← hdr]; simp [draw, hp, hn]
        obtain ⟨hr, rfl⟩ := runs_none H hd0
        exact fin h8 h9 l9 _ k8 P8' O8 I8 nt8 s9 (N9 _ (.head _)).1 (N9 _ (.head _)).2.2 (fun e => by
          obtain ⟨vs, ⟨o, ho, _⟩, _⟩ := P8'
          exact absurd (hlt9 _ (hex8 _ _ ho hPLne hPLg)) (by rw [e]; exact Nat.lt_irrefl _)) hr
      · rename_i hneq
        have hn : ¬ 4 ≤ n := fun h => hneq (by rw [List.size_toArray, hacc]; omega)
        refine Calls.getMethod_list_append A8 rfl rfl ?_
        w_strict (walk_at "mine")
        refine len_list ⟨_, O8, rfl, _, rfl⟩ (by rw [List.size_toArray, hacc]; omega) ?_
        w_strict (walk_at "mine")
        rw [List.size_toArray, hacc]
        refine append_at A8 (fun h9 hs9 A9 => ?_) (by rw [List.size_toArray, hti.length, htl, sizeLine_eq]; omega)
        have s9 := sameBut_stay hs9
        have F9 := fr_stay F8 s9 (by simpa using htaL.symm) (by intro b hb; rw [List.mem_singleton.mp hb]; exact htag)
        have nt9 : NoTup h8 [ta] := fun b hb vs e => by rw [List.mem_singleton.mp hb, A8] at e; simp at e
        have O9 := s9 _ _ (by simpa using htaO.symm) O8
        have I9 := I8.stay s9 nt9
        have P9 := P8'.stay s9 (by simpa using htaP.symm)
        have it9 : h9.IsListIter itA pkA (i + 1) := it8.at fun o e => s9 _ _ (by simpa using hitT.symm) e
        clear F8
        w_strict (walk_at "mine")
        refine ⟨ps.length - (i + 1), by omega, i + 1, h9, _, tkv ++ [(n : Int)], tvs ++ [.int n _], c' + 1, pli, _, rfl, hlt, rfl, it9, F9, P9, O9, I9, by simpa using A9, intsAre_snoc hti n _, by simp [htl], hpl6, ?_⟩
        rw [← hdr]; simp [draw, hp, hn]
  · have hie : i = ps.length := by omega
    subst hie
    have hnn : (natInts ps)[ps.length]? = none := by simp [natInts]
    refine wpAny_pyNext_list_end hh it6 pk6 (by simpa using intsAre_none hpi hnn) fun h7 he7 => ?_
    have s7 : Stay [itA] h6 h7 := fun b o hb e => he7 b o (by simpa using hb) e
    have F7 := fr_stay F6 s7 (by simpa using hitL) (by intro b hb; rw [List.mem_singleton.mp hb]; exact hitg)
    have nt6 : NoTup h6 [itA] := fun b hb vs e => by
      rw [List.mem_singleton.mp hb] at e
      obtain ⟨o, ho, hc, _⟩ := it6
      rw [ho] at e; cases e; simp at hc
    have P7 := (P6.stay s7 (by simpa using hitP))
    have O7 := (s7 _ _ (by simpa using hitO) O6)
    have A7 := (s7 _ _ (by simpa using hitT) A6)
    have I7 := (I6.stay s7 nt6)
    rw [List.drop_length] at hdr
    have hd0 : draw ls n ps pl [] = (some tkv, pli) := hdr.symm
    clear F6 P6 O6 A6 I6 it6 pk6 s7 nt6
    have k7 := F7.keep
    have nt7 := ns_noTup F7.ns
    dsimp only
    have hacc : acc.length = n := I7.length.trans hlen
    have ta7 : h7.IsList ta tvs.toArray := ⟨_, A7, rfl, _, rfl⟩
    have htkl : tvs.length ≤ 3 := by rw [hti.length, htl]; exact hpn
    have hless : left ls pli + (4 - (n + 1)) < left ls pl + (4 - n) := by
      cases ps with
      | nil => exact absurd rfl hps
      | cons p ps => have := draw_less hd0; omega
    have endW : ∀ (h8 h9 : Heap) (tk9 : Nat) (v : Value) (pv : Option Value), Fr (hideAll s.heap [PLA]) L' h8 (dueM way tw pkA LLA PLA ot pv (some (.ref ta))) → PlacesAt h8 PLA pli → h8.get? ot = some (lstObj acc.toArray c) → ItemsAre h8 acc out → ItemIs h8 v (itemOf way tkv) → ¬ bad way tkv →
        Heap.SameBut ot h8 h9 → h9.get? ot = some (lstObj (acc.toArray.push v) (c + 1)) → ∃ m, m < left ls pl + (4 - n) ∧ ∃ n pl out h' tk acc c pv tv, ({ s with heap := h9, toks := tk9 } : Shared) = { s with heap := h', toks := tk } ∧ Runs ls way ps n pl out r pl' ∧ m = left ls pl + (4 - n) ∧
      Fr (hideAll s.heap [PLA]) L' h' (dueM way tw pkA LLA PLA ot pv tv) ∧ PlacesAt h' PLA pl ∧ h'.get? ot = some (lstObj (List.toArray acc) c) ∧ ItemsAre h' acc out ∧ out.length = n ∧ (∀ p, p < 4 → pl p ≤ (ls p).length) ∧ n + left ls pl + (4 - n) ≤ 1000 ∧ ((∃ p ∈ ps, ¬ p < 4) → n ≤ 4) := by
      intro h8 h9 tk9 v pv F8 P8 O8 I8 iv hb hs9 O9
      have s9 := sameBut_stay hs9
      have nt9 : NoTup h8 [ot] := fun b hb vs e => by rw [List.mem_singleton.mp hb, O8] at e; simp at e
      have hr : Runs ls way ps (n + 1) pli (out ++ [itemOf way tkv]) r pl' := by
        rcases runs_some H hd0 with ⟨hb', _⟩ | ⟨_, hr⟩
        · exact absurd hb' hb
        · exact hr
      exact ⟨left ls pli + (4 - (n + 1)), hless, n + 1, pli, out ++ [itemOf way tkv], h9, tk9, acc ++ [v], c + 1, pv, some (.ref ta), rfl, hr, rfl,
        fr_stay F8 s9 (by simpa using hotL.symm) (by intro b hb; rw [List.mem_singleton.mp hb]; exact hotg), P8.stay s9 (by simpa using hotP.symm), by simpa using O9, (I8.snoc iv).stay s9 nt9, by simp [hlen], hpl6, by omega, fun hx => by have := draw_fresh hd0 hx; omega⟩
    obtain ⟨ex7, N, hex7⟩ := all_ledger (g := hideAll s.heap [PLA]) (h := h7) (L := L')
    w_strict (walk_at "mine")
    · rename_i hw2
      have hw2' : way = 2 := by omega
      refine sum_list hh ta7 hti fun h8 tk8 t8 st8 => ?_
      have F8 := F7.keeps st8
      have P8 := P7.stay (W := []) (fun b o _ e => st8 b o e) (by simp)
      have O8 := st8 _ _ O7
      have I8 := I7.stay (W := []) (fun b o _ e => st8 b o e) (fun b hb => by cases hb)
      have ta8 : h8.IsList ta tvs.toArray := ta7.at fun o e => st8 _ o e
      clear F7
      have k8 := F8.keep
      have nt8 := ns_noTup F8.ns
      obtain ⟨ex8, N8, hex8⟩ := all_ledger (g := hideAll s.heap [PLA]) (h := h8) (L := L')
      w_strict (walk_at "mine")
      · rename_i hbad l9 h9 _ _ hlt9
        (rename News _ _ _ _ => N9)
        (rename Fr _ _ _ _ => F9)
        have s9 : Stay [L'] h8 h9 := stay_all k8 hex8 F9 fun p hp => (N9 p (.tail _ hp)).1
        rcases runs_some H hd0 with ⟨_, hr, rfl⟩ | ⟨hg, _⟩
        · subst hr
          have n9 : l9 ≠ PLA := fun e => by
            obtain ⟨vs, ⟨o, ho, _⟩, _⟩ := P8
            exact absurd (hlt9 _ (hex8 _ _ ho hPLne hPLg)) (by rw [e]; exact Nat.lt_irrefl _)
          refine hQ h9 _ l9 (P8.stay s9 (by simpa using hPLne)) (.none (N9 _ (.head _)).1) ?_ fun b o hb e => s9 b o (fun q => ?_) (k8 b o (hideAll_get _ e hb))
          · cases q : s.heap.get? l9 with
            | none => rfl
            | some o => have g9 := (N9 _ (.head _)).2.2; rw [hideAll_get _ q (by simpa using n9)] at g9; cases g9
          · rw [List.mem_singleton.mp q, hLs] at e; cases e
        · exact absurd ⟨hw2', hbad⟩ hg
      · rename_i hgood
        refine Calls.getMethod_list_append O8 rfl rfl ?_
        w_strict (walk_at "mine")
        · rename_i hw0; exfalso; omega
        · refine sum_list hh ta8 hti fun h10 tk10 t10 st10 => ?_
          have F10 := F8.keeps st10
          have P10 := P8.stay (W := []) (fun b o _ e => st10 b o e) (by simp)
          have O10 := st10 _ _ O8
          have I10 := I8.stay (W := []) (fun b o _ e => st10 b o e) (fun b hb => by cases hb)
          clear F8
          w_strict (walk_at "mine")
          refine append_at O10 (fun h11 hs11 O11 => ?_) (by rw [List.size_toArray, hacc, sizeLine_eq]; omega)
          w_strict (walk_at "mine")
          refine endW h10 h11 _ _ _ F10 P10 O10 I10 ?_ (fun hb => hgood hb.2) hs11 O11
          rw [hw2']; exact .num _ t10
    · rename_i hw2
      refine Calls.getMethod_list_append O7 rfl rfl ?_
      w_strict (walk_at "mine")
      · rename_i hw0
        refine call_tuple_list ta7 (fun h10 st10 => ?_) (by rw [List.size_toArray, sizeLine_eq]; omega)
        have k10 : h7.StaysIn (h10.push { cls := .type "tuple", data := .seq tvs.toArray }) := fun b o e => Heap.get?_push_of_some _ (st10 b o e)
        have t10 : (h10.push { cls := .type "tuple", data := .seq tvs.toArray }).get? h10.objs.size = some (tupObj tvs) := Heap.get?_push_size _ rfl
        obtain ⟨h11, hh11⟩ : ∃ h, h = h10.push { cls := .type "tuple", data := .seq tvs.toArray } := ⟨_, rfl⟩
        rw [← hh11] at k10 t10 ⊢
        have F10 := F7.keeps k10
        have P10 := P7.stay (W := []) (fun b o _ e => k10 b o e) (by simp)
        have O10 := k10 _ _ O7
        have I10 := I7.stay (W := []) (fun b o _ e => k10 b o e) (fun b hb => by cases hb)
        clear F7
        w_strict (walk_at "mine")
        refine append_at O10 (fun h12 hs12 O12 => ?_) (by rw [List.size_toArray, hacc, sizeLine_eq]; omega)
        w_strict (walk_at "mine")
        refine endW h11 h12 _ _ _ F10 P10 O10 I10 ?_ (fun hb => hw2 (by have := hb.1; omega)) hs12 O12
        have hw1 : way = 0 := by omega
        unfold itemOf
        rw [if_pos hw1]; exact .tup t10 hti
      · rename_i hw0
        refine sum_list hh ta7 hti fun h10 tk10 t10 st10 => ?_
        have F10 := F7.keeps st10
        have P10 := P7.stay (W := []) (fun b o _ e => st10 b o e) (by simp)
        have O10 := st10 _ _ O7
        have I10 := I7.stay (W := []) (fun b o _ e => st10 b o e) (fun b hb => by cases hb)
        clear F7
        w_strict (walk_at "mine")
        refine append_at O10 (fun h11 hs11 O11 => ?_) (by rw [List.size_toArray, hacc, sizeLine_eq]; omega)
        w_strict (walk_at "mine")
        refine endW h10 h11 _ _ _ F10 P10 O10 I10 ?_ (fun hb => hw2 (by have := hb.1; omega)) hs11 O11
        have hw1 : way ≠ 0 := by omega
        unfold itemOf
        rw [if_neg hw1]; exact .num _ t10
end
end Mine
end

/-! part Rng -/
section
open PySem PySem.W PySem.Calls PyProof.Rows
namespace Mine
set_option maxRecDepth 100000
theorem fr_ext {g h : Heap} {L : Addr} {m m' : Str → Option Value} (F : Fr g L h m) (e : ∀ y, m y = m' y) : Fr g L h m' := (funext e : m = m') ▸ F
section
variable {prog : Program} {w : World} {A : Around} {Q : Value → Shared → Prop} {E : Value → Shared → Prop} {s : Shared}
theorem range_iter {N : Nat} {t : Tok} (hN : N ≤ 1000) (h : ∀ h' tk itA, s.heap.StaysIn h' → s.heap.get? itA = none → IsRangeIter h' itA (0 : Nat) ((N : Int) - (0 : Nat)) 1 → Q (.ref itA) { s with heap := h', toks := tk }) :
    wpAny (model prog w) A (call (.type "range") [.int N t]) (fun v s₁ => wpAny (model prog w) A (pyIter v) Q E s₁) E s := by
  refine call_range_1 ?_
  have hz : Builtin.Range.rangeSize 0 N 1 = (N : Int) := by
    rw [rangeSize_nat]; simp
  refine wpAny_pyIter_range (a := 0) (b := N) (c := 1) (Heap.get?_push_size _ rfl) (small_one (by omega) (by omega) (by omega) (by omega)) ?_
  refine h _ _ _ (staysIn_trans (push_stays _ _) (push_stays _ _)) (Heap.get?_none_of_le (by rw [Heap.size_push]; exact Nat.le_succ _)) ?_
  rw [hz]
  have := Heap.get?_push_size (s.heap.push { cls := .type "range", data := .fields #[.int 0 s.toks, .int N t, .int 1 (s.toks + 1)] }) (o := { cls := .type "range_iterator", data := .fields #[rawInt 0, rawInt N, rawInt 1] }) rfl
  simpa using this
end
end Mine
end

/-! part Plan -/
section
open PySem PySem.W PySem.Calls PyProof.Rows
namespace Mine
set_option maxRecDepth 100000
set_option maxHeartbeats 2000000
theorem fill6 : (PySem.Challenge.rw_ki0062_01 = PySem.Challenge.rw_ki0062_01) ∧ (hd.heap_39 = hd.heap_39) := by
  k_fill; exact ⟨rfl, rfl⟩
local macro_rules | `(tactic| walk_at "mine") => `(tactic| repeat' (first | walk1 | (dsimp only; walk1)))
local macro_rules | `(tactic| walk_at "exec For Name Call cons nil") => `(tactic| refine stop ?_)
local macro_rules | `(tactic| walk_at "call type:range") => `(tactic| refine stop ?_)
local macro_rules | `(tactic| walk_at "getMethod ref") => `(tactic| refine stop ?_)
local macro_rules | `(tactic| walk_at "call builtin:list.append") => `(tactic| refine stop ?_)
local macro_rules | `(tactic| walk_at "Exists") => `(tactic| refine stop ?_)

abbrev planM (x : Int) (t : Tok) (pk : Addr) (rv tv : Option Value) : Str → Option Value := fun y =>
  if y = Str.ofString "turn" then tv else if y = Str.ofString "rest" then rv else if y = Str.ofString "picks" then some (.ref pk) else List.lookup y [(Str.ofString "x", Value.int x t)].reverse

section
variable {prog : Program} {w : World} {A : Around} {mean : ExcName → Option Value} {mg mb : Str → Option Value} {Q : Value → Shared → Prop} {E : Value → Shared → Prop} {s : Shared}
theorem plan_call {x : Int} {t : Tok} (hh : A.handled = none) (hroom : A.depth < recursionLimit) (G : Gd w mean mg mb s.heap)
    (hQ : ∀ h' tk pt pk (wy : Nat) t1 ps pvs c, Stay [] s.heap h' → s.heap.get? pt = none → s.heap.get? pk = none → pt ≠ pk → h'.get? pt = some (tupObj [.int wy t1, .ref pk]) → h'.get? pk = some (lstObj (List.toArray pvs) c) → IntsAre pvs (natInts ps) →
      (∀ p ∈ ps, p < 7) → ps ≠ [] → ps.length ≤ 3 → wy < 3 → Q (.ref pt) { s with heap := h', toks := tk }) :
    wpAny (model prog w) A (call (.ref 56) [.int x t]) Q E s := by
  refine wpAny_call ?_
  refine enterF (binds := [(Str.ofString "x", .int x t)]) [] G.X G.T.nolimit (by k_is) (by k_is) (by omega) (BindsTo.of_eq rfl) (locs rfl) (fun L' h₁ hL' F hk => ?_) rfl rfl rfl (by decide)
  replace F : Fr s.heap L' h₁ _ := F
  have X := G.X
  have T := G.T
  have N : News s.heap L' h₁ [] := News.nil
  dsimp only
  w_on
  w_strict (walk_at "mine")
  (rename News _ _ _ _ => N2)
  (rename Fr _ _ _ _ => F2)
  rename_i h1' pk h2' _ h2
  have hpk := N2 _ (.head _)
  refine wpAny_For ?_
  w_strict (walk_at "mine")
  obtain ⟨N, hN, hN1, hN3⟩ : ∃ N : Nat, (x.fdiv 3).fmod 3 + 1 = (N : Int) ∧ 1 ≤ N ∧ N ≤ 3 := by
    have h1 : 0 ≤ (x.fdiv 3).fmod 3 := Int.fmod_nonneg_of_pos _ (by decide)
    have h2 : (x.fdiv 3).fmod 3 < 3 := Int.fmod_lt_of_pos _ (by decide)
    exact ⟨((x.fdiv 3).fmod 3 + 1).toNat, by omega, by omega, by omega⟩
  rw [hN]
  refine range_iter (by omega) fun h3 tk3 itA st3 hit it3 => ?_
  have hpkL : pk ≠ L' := hpk.2.1
  have hpks : s.heap.get? pk = none := hpk.2.2
  have hin : ∀ {a : Addr} {o : Obj}, h2.get? a = some o → a ≠ itA := fun e q => by rw [← q] at hit; rw [show Heap.get? h2 _ = none from hit] at e; cases e
  have hitL : L' ≠ itA := by obtain ⟨o, _, _, ho, _⟩ := F2.ns; exact hin ho
  have hitP : pk ≠ itA := hin hpk.1
  have hits : s.heap.get? itA = none := by
    cases q : s.heap.get? itA with
    | none => rfl
    | some o => exact absurd rfl (hin (F2.keep _ _ q))
  have A3 : h3.get? pk = some (lstObj ([] : List Value).toArray 0) := st3 _ _ hpk.1
  obtain ⟨m2, F3, e1, ⟨tr, e2⟩, e3⟩ : ∃ m, Fr s.heap L' h3 m ∧ m (Str.ofString "picks") = some (.ref pk) ∧ (∃ tr, m (Str.ofString "rest") = some (.int (x.fdiv 9) tr)) ∧ (∀ y, y ≠ Str.ofString "picks" → y ≠ Str.ofString "rest" → m y = List.lookup y [(Str.ofString "x", Value.int x t)].reverse) :=
    ⟨_, F2.keeps st3, rfl, ⟨_, rfl⟩, fun y h1 h2 => by simp [h1, h2]⟩
  replace F3 : Fr s.heap L' h3 (planM x t pk (some (.int (x.fdiv 9) tr)) none) := fr_ext F3 fun y => by
    unfold planM
    by_cases h1 : y = Str.ofString "turn"
    · subst h1; rw [e3 _ (by decide) (by decide)]; rfl
    · by_cases h2 : y = Str.ofString "rest"
      · subst h2; rw [e2]; rfl
      · by_cases h3 : y = Str.ofString "picks"
        · subst h3; rw [e1]; rfl
        · rw [e3 y h3 h2]; simp [h1, h2, h3]
  clear e1 e2 e3
  clear N2 hpk
  refine codeAny_forLoop (fun k s' => ∃ i h' tk ps pvs c rv tr tv, s' = { s with heap := h', toks := tk } ∧ i ≤ N ∧ k = N - i ∧ IsRangeIter h' itA (i : Nat) ((N : Int) - (i : Nat)) 1 ∧ Fr s.heap L' h' (planM x t pk (some (.int rv tr)) tv) ∧
      h'.get? pk = some (lstObj (List.toArray pvs) c) ∧ IntsAre pvs (natInts ps) ∧ (∀ p ∈ ps, p < 7) ∧ ps.length = i) ?_ N
    ⟨0, h3, tk3, [], [], 0, _, tr, none, rfl, Nat.zero_le _, rfl, it3, F3, A3, .nil, by simp, rfl⟩
  clear F2 F3 A3 it3 st3 hit hin h3 tk3
  rintro k s' ⟨i, h6, tk6, ps, pvs, c, rv, tr6, tv6, rfl, hi, rfl, it6, F6, A6, hpi, hp7, hpl⟩
  by_cases hlt : i < N
  · refine wpAny_pyNext_range_item it6 (by omega) fun h7 it7 hs7 => ?_
    have s7 := sameBut_stay hs7
    have F7 := fr_stay F6 s7 (by simpa using hitL) (by intro b hb; rw [List.mem_singleton.mp hb]; exact hits)
    dsimp only
    refine wpAny_assign_Name (wpAny_storeName_local rfl F7.ns (fun h8 hn8 hs8 => ?_) rfl)
    have s8 : Stay [L'] h7 h8 := sameBut_stay hs8
    have F8 := F7.set hn8 hs8
    dsimp only
    have A8 := s8 _ _ (by simpa using hpkL) (s7 _ _ (by simpa using hitP) A6)
    have it8 : IsRangeIter h8 itA ((i + 1 : Nat) : Int) ((N : Int) - ((i + 1 : Nat) : Int)) 1 := by
      have e1 : ((i : Nat) : Int) + 1 = ((i + 1 : Nat) : Int) := by omega
      have e2 : (N : Int) - (i : Nat) - 1 = (N : Int) - ((i + 1 : Nat) : Int) := by omega
      rw [e1, e2] at it7
      exact s8 _ _ (by simpa using hitL.symm) it7
    obtain ⟨tv8, F8⟩ : ∃ tv, Fr s.heap L' h8 (planM x t pk (some (.int rv tr6)) tv) := ⟨some (.int i tk6), fr_ext F8 fun y => by
      unfold planM
      by_cases h1 : y = Str.ofString "turn"
      · subst h1; rfl
      · simp [h1]⟩
    clear F6 F7 A6 it6 it7 s7 s8 hs7 hs8 hn8
    have N8 : News s.heap L' h8 [] := News.nil
    w_strict (walk_at "mine")
    refine Calls.getMethod_list_append A8 rfl rfl ?_
    w_strict (walk_at "mine")
    refine append_at A8 (fun h9 hs9 A9 => ?_) (by rw [List.size_toArray, hpi.length, natInts, List.length_map, hpl, sizeLine_eq]; omega)
    have s9 := sameBut_stay hs9
    have F9 := fr_stay F8 s9 (by simpa using hpkL.symm) (by intro b hb; rw [List.mem_singleton.mp hb]; exact hpks)
    have it9 := s9 _ _ (by simpa using hitP.symm) it8
    clear F8 N8
    have k9 := F9.keep
    obtain ⟨ex9, N9, hex9⟩ := all_ledger (g := s.heap) (h := h9) (L := L')
    obtain ⟨d, hd, hd7⟩ : ∃ d : Nat, rv.fmod 7 = (d : Int) ∧ d < 7 := by
      have h1 : 0 ≤ rv.fmod 7 := Int.fmod_nonneg_of_pos _ (by decide)
      have h2 : rv.fmod 7 < 7 := Int.fmod_lt_of_pos _ (by decide)
      exact ⟨(rv.fmod 7).toNat, by omega, by omega⟩
    w_strict (walk_at "mine")
    (rename News _ _ _ _ => N10)
    (rename Fr _ _ _ _ => F10)
    have s10 : Stay [L'] h9 _ := stay_all k9 hex9 F10 fun p hp => (N10 p hp).1
    rw [hd] at A9
    obtain ⟨m10, F11, ⟨tr10, e1⟩, e2⟩ : ∃ m, Fr s.heap L' _ m ∧ (∃ tr, m (Str.ofString "rest") = some (.int (rv.fdiv 7) tr)) ∧ (∀ y, y ≠ Str.ofString "rest" → m y = planM x t pk (some (.int rv tr6)) tv8 y) :=
      ⟨_, F10, ⟨_, rfl⟩, fun y h => by simp [h]⟩
    replace F11 := fr_ext (m' := planM x t pk (some (.int (rv.fdiv 7) tr10)) tv8) F11 fun y => by
      by_cases h1 : y = Str.ofString "rest"
      · subst h1; rw [e1]; rfl
      · rw [e2 y h1]; unfold planM; simp [h1]
    refine ⟨N - (i + 1), by omega, i + 1, _, _, ps ++ [d], pvs ++ [.int d (tk6 + 1 + 1 + 1)], c + 1, rv.fdiv 7, tr10, tv8, rfl, hlt, rfl, s10 _ _ (by simpa using hitL.symm) it9, F11, ?_, ?_, ?_, by simp [hpl]⟩
    · have := s10 _ _ (by simpa using hpkL) A9
      simpa using this
    · have := intsAre_snoc hpi (d : Int) (tk6 + 1 + 1 + 1)
      simpa [natInts] using this
    · intro p hp
      rcases List.mem_append.mp hp with h | h
      · exact hp7 p h
      · rw [List.mem_singleton.mp h]; exact hd7
  · have hie : i = N := by omega
    subst hie
    refine wpAny_pyNext_range_end hh it6 (by omega) fun h7 he7 => ?_
    have s7 : Stay [itA] h6 h7 := fun b o hb e => he7 b o (by simpa using hb) e
    have F7 := fr_stay F6 s7 (by simpa using hitL) (by intro b hb; rw [List.mem_singleton.mp hb]; exact hits)
    have A7 := s7 _ _ (by simpa using hitP) A6
    clear F6
    have k7 := F7.keep
    obtain ⟨ex7, N7, hex7⟩ := all_ledger (g := s.heap) (h := h7) (L := L')
    dsimp only
    w_strict (walk_at "mine")
    (rename News _ _ _ _ => N8)
    (rename Fr _ _ _ _ => F8)
    rename_i pt h8 hlt8
    have s8 : Stay [L'] h7 h8 := stay_all k7 hex7 F8 fun p hp => (N8 p (.tail _ hp)).1
    have hpt := N8 _ (.head _)
    obtain ⟨wy, hwy, hw3⟩ : ∃ d : Nat, x.fmod 3 = (d : Int) ∧ d < 3 := by
      have h1 : 0 ≤ x.fmod 3 := Int.fmod_nonneg_of_pos _ (by decide)
      have h2 : x.fmod 3 < 3 := Int.fmod_lt_of_pos _ (by decide)
      exact ⟨(x.fmod 3).toNat, by omega, by omega⟩
    have h1 := hpt.1
    rw [hwy] at h1
    refine hQ h8 _ pt pk wy _ ps pvs c (fun b o _ e => F8.keep b o e) hpt.2.2 hpks (fun e => ?_) h1 (s8 _ _ (by simpa using hpkL) A7) hpi hp7 ?_ (by omega) hw3
    · exact absurd (hlt8 _ (hex7 _ _ A7 hpkL hpks)) (by rw [e]; exact Nat.lt_irrefl _)
    · intro e; rw [e] at hpl; simp at hpl; omega
end
end Mine
end

/-! part Lsts -/
section
open PySem PySem.W PySem.Calls PyProof.Rows
namespace Mine
set_option maxRecDepth 100000
set_option maxHeartbeats 2000000
theorem fill7 : (PySem.Challenge.rw_ki0062_01 = PySem.Challenge.rw_ki0062_01) ∧ (hd.heap_39 = hd.heap_39) := by
  k_fill; exact ⟨rfl, rfl⟩
local macro_rules | `(tactic| walk_at "mine") => `(tactic| repeat' (first | walk1 | (dsimp only; walk1)))
local macro_rules | `(tactic| walk_at "exec For Name Call cons nil") => `(tactic| refine stop ?_)
local macro_rules | `(tactic| walk_at "call type:range") => `(tactic| refine stop ?_)
local macro_rules | `(tactic| walk_at "getMethod ref") => `(tactic| refine stop ?_)
local macro_rules | `(tactic| walk_at "call builtin:list.append") => `(tactic| refine stop ?_)
local macro_rules | `(tactic| walk_at "call builtin:len") => `(tactic| refine stop ?_)
local macro_rules | `(tactic| walk_at "Exists") => `(tactic| refine stop ?_)
local macro_rules | `(tactic| walk_at "subscriptTail Name Name ref int") => `(tactic| refine stop ?_)
local macro_rules | `(tactic| walk_at "subscriptTail Name Constant ref int") => `(tactic| refine stop ?_)
local macro_rules | `(tactic| walk_at "subscriptTail") => `(tactic| refine stop ?_)
local macro_rules | `(tactic| walk_at "binaryOp Add ref ref") => `(tactic| refine stop ?_)

def dealt (ns : List Int) : Nat → Nat → List Int
  | 0, _ => []
  | i + 1, p => if i % 4 = p then dealt ns i p ++ [ns.getD i 0] else dealt ns i p
theorem dealt_len (ns : List Int) : ∀ (i p : Nat), (dealt ns i p).length ≤ i
  | 0, _ => Nat.le_refl _
  | i + 1, p => by
    unfold dealt
    have := dealt_len ns i p
    split
    · rw [List.length_append, List.length_singleton]; omega
    · omega
def tails : Nat → List Int
  | 0 => [1, 2, 3]
  | 1 => [4]
  | 2 => [5, 6]
  | _ => []
def LS (ns : List Int) (p : Nat) : List Int := dealt ns ns.length p ++ tails p

theorem intsAre_append {vs ws : List Value} {ns ms : List Int} (h : IntsAre vs ns) (k : IntsAre ws ms) : IntsAre (vs ++ ws) (ns ++ ms) := by
  induction h with
  | nil => exact k
  | cons n t _ ih => exact .cons n t ih
abbrev listsM (nA lA : Addr) (kv : Option Value) : Str → Option Value := fun y =>
  if y = Str.ofString "k" then kv else if y = Str.ofString "lists" then some (.ref lA) else List.lookup y [(Str.ofString "numbers", Value.ref nA)].reverse
/-- one of four -/
abbrev pick4 (a0 a1 a2 a3 : Nat) : Nat → Nat := fun p => if p = 0 then a0 else if p = 1 then a1 else if p = 2 then a2 else a3
theorem pick4_all {P : Nat → Addr → Prop} {a0 a1 a2 a3 : Addr} (h0 : P 0 a0) (h1 : P 1 a1) (h2 : P 2 a2) (h3 : P 3 a3) : ∀ p, p < 4 → P p (pick4 a0 a1 a2 a3 p) := by
  intro p hp
  have : p = 0 ∨ p = 1 ∨ p = 2 ∨ p = 3 := by omega
  rcases this with rfl | rfl | rfl | rfl
  · exact h0
  · exact h1
  · exact h2
  · exact h3
theorem pick4_ne {a0 a1 a2 a3 : Nat} (h1 : a0 < a1) (h2 : a1 < a2) (h3 : a2 < a3) : ∀ p q, p < 4 → q < 4 → pick4 a0 a1 a2 a3 p = pick4 a0 a1 a2 a3 q → p = q := by
  intro p q hp hq e
  have hp' : p = 0 ∨ p = 1 ∨ p = 2 ∨ p = 3 := by omega
  have hq' : q = 0 ∨ q = 1 ∨ q = 2 ∨ q = 3 := by omega
  have e' : (pick4 a0 a1 a2 a3 p : Nat) = (pick4 a0 a1 a2 a3 q : Nat) := e
  have c0 : (pick4 a0 a1 a2 a3 0 : Nat) = a0 := rfl
  have c1 : (pick4 a0 a1 a2 a3 1 : Nat) = a1 := rfl
  have c2 : (pick4 a0 a1 a2 a3 2 : Nat) = a2 := rfl
  have c3 : (pick4 a0 a1 a2 a3 3 : Nat) = a3 := rfl
  rcases hp' with rfl | rfl | rfl | rfl <;> rcases hq' with rfl | rfl | rfl | rfl <;> omega
theorem pick4_ref {a0 a1 a2 a3 : Addr} : [Value.ref (pick4 a0 a1 a2 a3 0), .ref (pick4 a0 a1 a2 a3 1), .ref (pick4 a0 a1 a2 a3 2), .ref (pick4 a0 a1 a2 a3 3)] = [.ref a0, .ref a1, .ref a2, .ref a3] := rfl

section
variable {prog : Program} {w : World} {A : Around} {mean : ExcName → Option Value} {mg mb : Str → Option Value} {Q : Value → Shared → Prop} {E : Value → Shared → Prop} {s : Shared}
theorem lists_call {nA : Addr} {nvs : List Value} {ns : List Int} (hh : A.handled = none) (hroom : A.depth < recursionLimit) (G : Gd w mean mg mb s.heap) (hn : s.heap.IsList nA nvs.toArray) (hni : IntsAre nvs ns) (hnl : ns.length ≤ 20)
    (hQ : ∀ h' tk R (ks : Nat → Addr), Stay [] s.heap h' → h'.IsList R [Value.ref (ks 0), .ref (ks 1), .ref (ks 2), .ref (ks 3)].toArray → s.heap.get? R = none → (∀ p, p < 4 → s.heap.get? (ks p) = none) →
      (∀ p, p < 4 → ∃ vs : List Value, h'.IsList (ks p) vs.toArray ∧ IntsAre vs (LS ns p)) → Q (.ref R) { s with heap := h', toks := tk }) :
    wpAny (model prog w) A (call (.ref 49) [.ref nA]) Q E s := by
  refine wpAny_call ?_
  refine enterF (binds := [(Str.ofString "numbers", .ref nA)]) [] G.X G.T.nolimit (by k_is) (by k_is) (by omega) (BindsTo.of_eq rfl) (locs rfl) (fun L' h₁ hL' F hk => ?_) rfl rfl rfl (by decide)
  replace F : Fr s.heap L' h₁ _ := F
  have X := G.X
  have T := G.T
  have N : News s.heap L' h₁ [] := News.nil
  dsimp only
  w_on
  w_strict (walk_at "mine")
  (rename News _ _ _ _ => N2)
  (rename Fr _ _ _ _ => F2)
  refine wpAny_For ?_
  w_strict (walk_at "mine")
  rename_i a0 _ _ a1 _ q1 a2 _ q2 a3 _ q3 lA _ q4 h2
  have f3 := N2 _ (.tail _ (.head _))
  have f2 := N2 _ (.tail _ (.tail _ (.head _)))
  have f1 := N2 _ (.tail _ (.tail _ (.tail _ (.head _))))
  have f0 := N2 _ (.tail _ (.tail _ (.tail _ (.tail _ (.head _)))))
  have hl2 := N2 _ (.head _)
  obtain ⟨aa, haa⟩ : ∃ aa, aa = pick4 a0 a1 a2 a3 := ⟨_, rfl⟩
  have aL : ∀ p, p < 4 → aa p ≠ L' := by rw [haa]; exact pick4_all (P := fun _ a => a ≠ L') f0.2.1 f1.2.1 f2.2.1 f3.2.1
  have as0 : ∀ p, p < 4 → s.heap.get? (aa p) = none := by rw [haa]; exact pick4_all (P := fun _ a => s.heap.get? a = none) f0.2.2 f1.2.2 f2.2.2 f3.2.2
  have ao : ∀ p, p < 4 → h2.get? (aa p) = some (lstObj ([] : List Value).toArray 0) := by rw [haa]; exact pick4_all (P := fun _ a => h2.get? a = some (lstObj ([] : List Value).toArray 0)) f0.1 f1.1 f2.1 f3.1
  have al : ∀ p, p < 4 → aa p ≠ lA := by rw [haa]; exact pick4_all (P := fun _ a => a ≠ lA) (Nat.ne_of_lt q4.2.2.2) (Nat.ne_of_lt q4.2.2.1) (Nat.ne_of_lt q4.2.1) (Nat.ne_of_lt q4.1)
  have ane : ∀ p q, p < 4 → q < 4 → aa p = aa q → p = q := by rw [haa]; exact pick4_ne q1 q2.1 q3.1
  have hlA : h2.get? lA = some (lstObj [Value.ref (aa 0), .ref (aa 1), .ref (aa 2), .ref (aa 3)].toArray 0) := by rw [haa]; exact hl2.1
  have hlL : lA ≠ L' := hl2.2.1
  have hls : s.heap.get? lA = none := hl2.2.2
  clear f0 f1 f2 f3 hl2 q1 q2 q3 q4 N2 haa
  have n2 : h2.IsList nA nvs.toArray := hn.at fun o e => F2.keep _ o e
  refine len_list n2 (by rw [List.size_toArray, hni.length]; omega) ?_
  w_strict (walk_at "mine")
  rw [List.size_toArray, hni.length]
  refine range_iter (by omega) fun h3 tk3 itA st3 hit it3 => ?_
  have hin : ∀ {a : Addr} {o : Obj}, h2.get? a = some o → a ≠ itA := fun e q => by rw [← q] at hit; rw [show Heap.get? h2 _ = none from hit] at e; cases e
  have hitL : L' ≠ itA := by obtain ⟨o, _, _, ho, _⟩ := F2.ns; exact hin ho
  have hita : ∀ p, p < 4 → aa p ≠ itA := fun p hp => hin (ao p hp)
  have hitl : lA ≠ itA := hin hlA
  have hits : s.heap.get? itA = none := by
    cases q : s.heap.get? itA with
    | none => rfl
    | some o => exact absurd rfl (hin (F2.keep _ _ q))
  have F3 : Fr s.heap L' h3 (listsM nA lA none) := fr_ext (F2.keeps st3) fun y => by
    unfold listsM
    by_cases h1 : y = Str.ofString "k"
    · subst h1; rfl
    · simp [h1]
  refine codeAny_forLoop (fun k s' => ∃ i h' tk kv, s' = { s with heap := h', toks := tk } ∧ i ≤ ns.length ∧ k = ns.length - i ∧ IsRangeIter h' itA (i : Nat) ((ns.length : Int) - (i : Nat)) 1 ∧ Fr s.heap L' h' (listsM nA lA kv) ∧
      h'.get? lA = some (lstObj [Value.ref (aa 0), .ref (aa 1), .ref (aa 2), .ref (aa 3)].toArray 0) ∧ (∀ p, p < 4 → ∃ vs c, h'.get? (aa p) = some (lstObj (List.toArray vs) c) ∧ IntsAre vs (dealt ns i p))) ?_ ns.length
    ⟨0, h3, tk3, none, rfl, Nat.zero_le _, rfl, it3, F3, st3 _ _ hlA, fun p hp => ⟨[], 0, st3 _ _ (ao p hp), .nil⟩⟩
  clear F2 F3 it3 st3 hit hin n2 hlA ao h3 tk3
  rintro k s' ⟨i, h6, tk6, kv6, rfl, hi, rfl, it6, F6, B6, A6⟩
  by_cases hlt : i < ns.length
  · refine wpAny_pyNext_range_item it6 (by omega) fun h7 it7 hs7 => ?_
    have s7 := sameBut_stay hs7
    have F7 := fr_stay F6 s7 (by simpa using hitL) (by intro b hb; rw [List.mem_singleton.mp hb]; exact hits)
    dsimp only
    refine wpAny_assign_Name (wpAny_storeName_local rfl F7.ns (fun h8 hn8 hs8 => ?_) rfl)
    have s8 : Stay [L'] h7 h8 := sameBut_stay hs8
    have F8 := F7.set hn8 hs8
    dsimp only
    have B8 := s8 _ _ (by simpa using hlL) (s7 _ _ (by simpa using hitl) B6)
    have A8 : ∀ p, p < 4 → ∃ vs c, h8.get? (aa p) = some (lstObj (List.toArray vs) c) ∧ IntsAre vs (dealt ns i p) := fun p hp =>
      let ⟨vs, c, e, hi⟩ := A6 p hp; ⟨vs, c, s8 _ _ (by simpa using aL p hp) (s7 _ _ (by simpa using hita p hp) e), hi⟩
    have it8 : IsRangeIter h8 itA ((i + 1 : Nat) : Int) ((ns.length : Int) - ((i + 1 : Nat) : Int)) 1 := by
      have e1 : ((i : Nat) : Int) + 1 = ((i + 1 : Nat) : Int) := by omega
      have e2 : (ns.length : Int) - (i : Nat) - 1 = (ns.length : Int) - ((i + 1 : Nat) : Int) := by omega
      rw [e1, e2] at it7
      exact s8 _ _ (by simpa using hitL.symm) it7
    replace F8 : Fr s.heap L' h8 (listsM nA lA (some (.int i tk6))) := fr_ext F8 fun y => by
      unfold listsM
      by_cases h1 : y = Str.ofString "k"
      · subst h1; rfl
      · simp [h1]
    clear F6 F7 A6 B6 it6 it7 s7 s8 hs7 hs8 hn8
    have N8 : News s.heap L' h8 [] := News.nil
    w_strict (walk_at "mine")
    have hm : ((i : Nat) : Int).fmod 4 = ((i % 4 : Nat) : Int) := by rw [Int.fmod_eq_emod_of_nonneg _ (by decide)]; omega
    have h4 : i % 4 < 4 := Nat.mod_lt _ (by decide)
    rw [hm]
    refine sub_list ⟨_, B8, rfl, _, rfl⟩ (by omega) (by omega) (v := .ref (aa (i % 4))) (by rw [Int.toNat_natCast]; exact four_ref h4) ?_
    w_strict (walk_at "mine")
    obtain ⟨vs, c, e8, hi8⟩ := A8 _ h4
    refine Calls.getMethod_list_append e8 rfl rfl ?_
    w_strict (walk_at "mine")
    obtain ⟨tv, hv⟩ := intsAre_get hni (List.getElem?_eq_getElem hlt)
    have n8 : h8.IsList nA nvs.toArray := hn.at fun o e => F8.keep _ o e
    refine sub_list n8 (by omega) (by omega) (v := .int ns[i] tv) (by simpa using hv) ?_
    w_strict (walk_at "mine")
    refine append_at e8 (fun h9 hs9 A9 => ?_) (by rw [List.size_toArray, hi8.length, sizeLine_eq]; have := dealt_len ns i (i % 4); omega)
    have s9 := sameBut_stay hs9
    have F9 := fr_stay F8 s9 (by simpa using (aL _ h4).symm) (by intro b hb; rw [List.mem_singleton.mp hb]; exact as0 _ h4)
    clear F8
    w_strict (walk_at "mine")
    refine ⟨ns.length - (i + 1), by omega, i + 1, h9, _, _, rfl, hlt, rfl, s9 _ _ (by simpa using (hita _ h4).symm) it8, F9, s9 _ _ (by simpa using (al _ h4).symm) B8, fun p hp => ?_⟩
    by_cases hpe : i % 4 = p
    · subst hpe
      refine ⟨vs ++ [.int ns[i] tv], c + 1, by simpa using A9, ?_⟩
      unfold dealt
      rw [if_pos rfl]
      have : ns.getD i 0 = ns[i] := by simp [hlt]
      rw [this]
      exact intsAre_snoc hi8 _ _
    · obtain ⟨vs', c', e', hi'⟩ := A8 p hp
      refine ⟨vs', c', s9 _ _ (by simpa using fun q => hpe (ane _ _ h4 hp q.symm)) e', ?_⟩
      unfold dealt
      rw [if_neg hpe]; exact hi'
  · have hie : i = ns.length := by omega
    subst hie
    refine wpAny_pyNext_range_end hh it6 (by omega) fun h7 he7 => ?_
    have s7 : Stay [itA] h6 h7 := fun b o hb e => he7 b o (by simpa using hb) e
    have F7 := fr_stay F6 s7 (by simpa using hitL) (by intro b hb; rw [List.mem_singleton.mp hb]; exact hits)
    have B7 := s7 _ _ (by simpa using hitl) B6
    have A7 : ∀ p, p < 4 → ∃ vs c, h7.get? (aa p) = some (lstObj (List.toArray vs) c) ∧ IntsAre vs (dealt ns ns.length p) := fun p hp =>
      let ⟨vs, c, e, hi⟩ := A6 p hp; ⟨vs, c, (s7 _ _ (by simpa using hita p hp) e), hi⟩
    clear F6 A6 B6 it6
    have k7 := F7.keep
    obtain ⟨ex7, N7, hex7⟩ := all_ledger (g := s.heap) (h := h7) (L := L')
    have Lin : ∀ h : Heap, (∀ p ∈ ex7, h.get? p.1 = some p.2) → h.IsList lA [Value.ref (aa 0), .ref (aa 1), .ref (aa 2), .ref (aa 3)].toArray := fun h hx => ⟨_, hx _ (hex7 _ _ B7 hlL hls), rfl, _, rfl⟩
    obtain ⟨v0, c0, e0, i0⟩ := A7 0 (by decide)
    obtain ⟨v1, c1, e1, i1⟩ := A7 1 (by decide)
    obtain ⟨v2, c2, e2, i2⟩ := A7 2 (by decide)
    obtain ⟨v3, c3, e3, i3⟩ := A7 3 (by decide)
    have hx0 := hex7 _ _ e0 (aL 0 (by decide)) (as0 0 (by decide))
    have hx1 := hex7 _ _ e1 (aL 1 (by decide)) (as0 1 (by decide))
    have hx2 := hex7 _ _ e2 (aL 2 (by decide)) (as0 2 (by decide))
    have hx3 := hex7 _ _ e3 (aL 3 (by decide)) (as0 3 (by decide))
    have vl : ∀ {vs : List Value} {p : Nat}, IntsAre vs (dealt ns ns.length p) → vs.length ≤ 20 := fun {vs p} h => by rw [h.length]; have := dealt_len ns ns.length p; omega
    dsimp only
    w_strict (walk_at "mine")
    refine sub_list (Lin _ fun p hp => (N7 p hp).1) (by decide) (by decide) (v := .ref (aa 0)) rfl ?_
    w_strict (walk_at "mine")
    (rename News _ _ _ _ => N8)
    (rename Fr _ _ _ _ => F8)
    refine add_arrays F8 N8 ⟨_, (N8 _ (.tail _ hx0)).1, rfl, _, rfl⟩ ⟨_, (N8 _ (.head _)).1, rfl, _, rfl⟩ (fun h9 F9 N9 => ?_) (by have := vl i0; rw [sizeLine_eq]; simp; omega)
    clear F8 N8
    dsimp only at F9 N9
    w_strict (walk_at "mine")
    refine sub_list (Lin _ fun p hp => (N9 p (.tail _ (.tail _ hp))).1) (by decide) (by decide) (v := .ref (aa 1)) rfl ?_
    w_strict (walk_at "mine")
    (rename News _ _ _ _ => N10)
    (rename Fr _ _ _ _ => F10)
    refine add_arrays F10 N10 ⟨_, (N10 _ (.tail _ (.tail _ (.tail _ hx1)))).1, rfl, _, rfl⟩ ⟨_, (N10 _ (.head _)).1, rfl, _, rfl⟩ (fun h11 F11 N11 => ?_) (by have := vl i1; rw [sizeLine_eq]; simp; omega)
    clear F10 N10
    dsimp only at F11 N11
    w_strict (walk_at "mine")
    refine sub_list (Lin _ fun p hp => (N11 p (.tail _ (.tail _ (.tail _ (.tail _ hp))))).1) (by decide) (by decide) (v := .ref (aa 2)) rfl ?_
    w_strict (walk_at "mine")
    (rename News _ _ _ _ => N12)
    (rename Fr _ _ _ _ => F12)
    refine add_arrays F12 N12 ⟨_, (N12 _ (.tail _ (.tail _ (.tail _ (.tail _ (.tail _ hx2)))))).1, rfl, _, rfl⟩ ⟨_, (N12 _ (.head _)).1, rfl, _, rfl⟩ (fun h13 F13 N13 => ?_) (by have := vl i2; rw [sizeLine_eq]; simp; omega)
    clear F12 N12
    dsimp only at F13 N13
    w_strict (walk_at "mine")
    refine sub_list (Lin _ fun p hp => (N13 p (.tail _ (.tail _ (.tail _ (.tail _ (.tail _ (.tail _ hp))))))).1) (by decide) (by decide) (v := .ref (aa 3)) rfl ?_
    w_strict (walk_at "mine")
    (rename News _ _ _ _ => N14)
    (rename Fr _ _ _ _ => F14)
    have g0 := N14 _ (.tail _ (.tail _ (.tail _ (.tail _ (.tail _ (.head _))))))
    have g1 := N14 _ (.tail _ (.tail _ (.tail _ (.head _))))
    have g2 := N14 _ (.tail _ (.head _))
    have g3 := N14 _ (.tail _ (.tail _ (.tail _ (.tail _ (.tail _ (.tail _ (.tail _ hx3)))))))
    have gR := N14 _ (.head _)
    have at3 : ∀ {vs ns : _}, IntsAre vs ns → IntsAre vs (ns ++ []) := fun h => by simpa using h
    refine hQ _ _ _ (pick4 _ _ _ (aa 3)) (fun b o _ e => F14.keep b o e) ⟨_, gR.1, rfl, _, rfl⟩ gR.2.2 (pick4_all (P := fun _ a => s.heap.get? a = none) g0.2.2 g1.2.2 g2.2.2 g3.2.2)
      (pick4_all (P := fun p a => ∃ vs : List Value, Heap.IsList _ a vs.toArray ∧ IntsAre vs (LS ns p)) ⟨_, ⟨_, g0.1, rfl, _, rfl⟩, ?_⟩ ⟨_, ⟨_, g1.1, rfl, _, rfl⟩, ?_⟩ ⟨_, ⟨_, g2.1, rfl, _, rfl⟩, ?_⟩ ⟨_, ⟨_, g3.1, rfl, _, rfl⟩, at3 i3⟩)
    · exact intsAre_append i0 (.cons _ _ (.cons _ _ (.cons _ _ .nil)))
    · exact intsAre_append i1 (.cons _ _ .nil)
    · exact intsAre_append i2 (.cons _ _ (.cons _ _ .nil))
end
end Mine
end

/-! part CompO -/
section
open PySem PySem.W PySem.Calls PyProof.Rows
namespace Mine
set_option maxRecDepth 100000
set_option maxHeartbeats 1000000

/-- entering a def with cells -/
theorem enterC {prog : Program} {w : World} {A : Around} {R : Result → Shared → Prop} {s : Shared} {K : Frag} (W : List Addr)
    {name qual : Str} {params : Arguments} {body : List Stmt} {scope : Scope} {dV kV doc pm cdv ct oc : Value} {an od : Option Addr} {osl : Array (Option Value)} {f : Addr} {args : Args} {binds : List (Str × Value)}
    (X : K.In s.heap) (hlim : s.heap.NoLimit)
    (ho : K.lookup f = some ⟨oc, od, .func (fnOf name qual params body scope dV kV doc pm an cdv ct), osl⟩) (hcd : codeIn K cdv qual = true) (hroom : A.depth < recursionLimit)
    (hbind : BindsTo s (fnOf name qual params body scope dV kV doc pm an cdv ct) args binds) (hkind : (binds.all fun y => scope.names.lookup y.1 == some .local || scope.names.lookup y.1 == some .cell) = true)
    (hnd : ((cellsFrom 0 scope.names []).map (·.1)).Nodup)
    (h : ∀ L' h₁ tk cells, L' = s.heap.objs.size → Fr (hideAll s.heap W) L' h₁ (bindL (envOfC qual scope L' f cdv).kindOf binds fun _ => none) → News (hideAll s.heap W) L' h₁ cells →
      CellsAre (bindC (envOfC qual scope L' f cdv).kindOf binds fun _ => none) (cellsFrom (L' + 1) scope.names []) cells → (∀ p ∈ cells, s.heap.get? p.1 = none) → (∀ b o, s.heap.get? b = some o → h₁.get? b = some o) →
      wpAny (model prog w) (A.deeper (envOfC qual scope L' f cdv)) (execs body (envOfC qual scope L' f cdv))
        (fun fl s' => R (.ok (.ret (match fl with | .ret v => v | _ => .none))) s')
        (fun e s' => wpAny (model prog w) (A.deeper (envOfC qual scope L' f cdv)) (leaving (envOfC qual scope L' f cdv) e) (fun _ s'' => R (.error e) s'') (fun e' s'' => R (.error e') s'') s')
        { s with heap := h₁, toks := tk })
    (hco : scope.isCoroutine = false) (hgen : scope.isGenerator = false) (hk : scope.kind = .function) : codeAny (model prog w) A (.call (.ref f) args) R s := by
  refine codeAny_call_function (fd := fnOf name qual params body scope dV kV doc pm an cdv ct) (body := body) hroom (X _ _ ho) rfl hco hgen rfl (codeRec_of X hcd) (hbind _ _ _ _ ?_)
  refine wpAny_newFunctionEnv_cells hk (kindsX hkind _) fun env' he s' x => ?_
  subst he
  refine ⟨hlim.keeps x.toInCall.keep, codeAny_func ?_⟩
  obtain ⟨h₁, tk, rfl, _⟩ := x.done
  have hk₁ := x.toInCall.keep
  obtain ⟨cells, NC, Y⟩ := Cl.news (h₀ := s.heap) (Nat.le_refl _) fun n c hm => ⟨x.cell n c (lookup_of_mem_nodup (cellsFrom_names scope.names 0 (s.heap.objs.size + 1) [] [] rfl ▸ hnd) hm), x.above n c hm⟩
  refine h s.heap.objs.size h₁ tk cells rfl ⟨x.toInCall.ns, fun b o e => hk₁ b o (of_hideAll _ e), Nat.le_of_eq (hideAll_size _ _)⟩ (fun p hp => ⟨(NC p hp).1, (NC p hp).2.1, hide_none (NC p hp).2.2⟩) Y (fun p hp => (NC p hp).2.2) hk₁

section
variable {prog : Program} {w : World} {A : Around} {E : Value → Shared → Prop} {env : Env}

/-- what a comprehension's walk is asked -/
structure CompIs (prog : Program) (w : World) (A : Around) (env : Env) (scope : Scope) (cl : List (Str × Addr)) (x : Str) (elt : Expr) (fp wr : List Addr) (n : Nat) (P : Nat → Value → Prop) (St : Nat → Heap → Prop)
    (J : Addr → Addr → Nat → List Value → Heap → Prop) (PP : Addr → Addr → Shared → Prop) (s₂ : Shared) : Prop where
  start : ∀ C D h, s₂.heap.objs.size ≤ C → s₂.heap.objs.size ≤ D → C ≠ D → s₂.heap.StaysIn h → J C D 0 [] h
  stab : ∀ C D i ys h h', J C D i ys h → Stay (C :: D :: wr) h h' → J C D i ys h'
  elt : ∀ C D i v ys s₃ m₃ E', s₂.heap.objs.size ≤ C → s₂.heap.objs.size ≤ D → C ≠ D → i < n → P i v → St (i + 1) s₃.heap → (∃ o, s₃.heap.get? D = some o) → J C D i ys s₃.heap → s₃.heap.Ns C m₃ → m₃ x = some v → (∃ h tk, s₃ = { s₂ with heap := h, toks := tk }) →
    wpAny (model prog w) A (eval elt (compEnvC scope cl C env)) (fun y s₄ => ∃ h tk, s₄ = { s₂ with heap := h, toks := tk } ∧ J C D (i + 1) (ys ++ [y]) h ∧ (∃ m, h.Ns C m) ∧ ∀ b ∈ D :: fp, ∀ o, s₃.heap.get? b = some o → h.get? b = some o) E' s₃
  done : ∀ C D ys h tk c m, s₂.heap.objs.size ≤ C → s₂.heap.objs.size ≤ D → C ≠ D → J C D n ys h → ys.length = n → h.get? D = some (lstObj ys.toArray c) → h.Ns C m → PP C D { s₂ with heap := h, toks := tk }

theorem comp_block {s₂ : Shared} {elt iter : Expr} {x : Str} {px : Pos} {scope : Scope} {cl : List (Str × Addr)} {pos : Pos} {I : Addr} {fp wr : List Addr} {n : Nat} {P : Nat → Value → Prop} {St : Nat → Heap → Prop} {J : Addr → Addr → Nat → List Value → Heap → Prop}
    {use : Option (Value → Sem Unit)} {Q : Value → Shared → Prop}
    (hcell : ∀ y ∈ scope.names, y.2 ≠ .cell) (hkind : scope.kind = .function) (hx : scope.names.lookup x = some .local)
    (W : Walks prog w A I fp wr n P St) (hsz : n ≤ sizeLine) (hst : St 0 s₂.heap) (hfp : ∀ b ∈ fp, b < s₂.heap.objs.size)
    (CI : CompIs prog w A env scope cl x elt fp wr n P St J (fun C D s' => ∀ fl, compPost (model prog w) A E use Q (.ref D) C (.ok fl) s') s₂) :
    wpAny (model prog w) A (newList []) (fun acc s₃ => wpAny (model prog w) A (newFunctionEnv scope env.globals cl [] env.qual none .none (some env)) (fun cenv s₄ =>
        codeAny (model prog w) A (.compStart (.ListComp elt [⟨.Name x px, iter, [], 0⟩] scope pos) 0 (.ref I) acc { cenv with scope := relabel scope env }) (compPost (model prog w) A E use Q acc cenv.locals) s₄) E s₃) E s₂ := by
  refine wpAny_newObj_type (wpAny_newFunctionEnv hcell (by intro y hy; simp at hy) (fun h₁ hns₁ hsb₁ => ?_) hkind)
  dsimp only at hns₁ hsb₁ ⊢
  generalize hH2 : s₂.heap.push { cls := .type "list", dict := none, data := .seq ([] : List Value).toArray } = H2 at hns₁ hsb₁ ⊢
  obtain ⟨D, hD⟩ : ∃ D, D = s₂.heap.objs.size := ⟨_, rfl⟩
  obtain ⟨C, hCdef⟩ : ∃ C, C = H2.objs.size := ⟨_, rfl⟩
  rw [← hCdef] at hns₁ hsb₁
  have hC : C = D + 1 := by rw [hCdef, ← hH2, Heap.size_push, hD]
  have hCD : C ≠ D := by rw [hC]; exact Nat.succ_ne_self _
  have hfpD : ∀ b ∈ fp, b < D := fun b hb => by rw [hD]; exact hfp b hb
  have hDf : D ∉ fp := fun hm => absurd (hfpD _ hm) (Nat.lt_irrefl _)
  have hCf : C ∉ fp := fun hm => by have := hfpD _ hm; rw [hC] at this; exact absurd this (Nat.not_lt.mpr (Nat.le_succ _))
  have hDn : s₂.heap.get? D = none := Heap.get?_none_of_le (by rw [hD]; exact Nat.le_refl _)
  have hCn : s₂.heap.get? C = none := Heap.get?_none_of_le (by rw [hC, hD]; exact Nat.le_succ _)
  have hDle : s₂.heap.objs.size ≤ D := by rw [hD]; exact Nat.le_refl _
  have hCle : s₂.heap.objs.size ≤ C := by rw [hC, hD]; exact Nat.le_succ _
  have hDw : D ∉ wr := fun q => hDf (W.sub _ q)
  have hCw : C ∉ wr := fun q => hCf (W.sub _ q)
  have old : s₂.heap.StaysIn h₁ := fun b o e => hsb₁.extBut b o (fun q => by rw [q, hCn] at e; cases e) (Heap.get?_push_of_some _ (hH2 ▸ Heap.get?_push_of_some _ e))
  have hacc : h₁.get? D = some (lstObj ([] : List Value).toArray 0) := hsb₁.extBut _ _ hCD.symm (Heap.get?_push_of_some _ (hH2 ▸ by rw [hD]; exact Heap.get?_push_size _ rfl))
  have hst₁ : St 0 h₁ := W.frame _ _ _ hst fun b _ o e => old b o e
  rw [← hD, ← hCdef]
  have loop : ∀ s₃ : Shared, s₃ = { s₂ with heap := h₁, toks := s₂.toks + ([] : List (Str × Value)).length } →
      codeAny (model prog w) A (.compLoop (.ListComp elt [⟨.Name x px, iter, [], 0⟩] scope pos) 0 (.ref I) (.ref D) (compEnvC scope cl C env)) (compPost (model prog w) A E use Q (.ref D) C) s₃ := by
    rintro s₃ rfl
    refine codeAny_compLoop_list (fun k s' => ∃ i ys h' tk c m', s' = { s₂ with heap := h', toks := tk } ∧ i ≤ n ∧ k = n + 1 - i ∧ ys.length = i ∧ St i h' ∧ J C D i ys h' ∧ h'.get? D = some (lstObj (List.toArray ys) c) ∧ h'.Ns C m') ?_ (n + 1)
      ⟨0, [], h₁, _, 0, _, rfl, Nat.zero_le _, rfl, rfl, hst₁, CI.start C D h₁ hCle hDle hCD old, hacc, hns₁⟩
    rintro k s' ⟨i, ys, H, tk, c, m', rfl, hi, rfl, hyl, hstH, hJ, hacc', hn'⟩
    by_cases hlt : i < n
    · refine W.item i _ _ _ hlt hstH fun v h₂ tk₂ hPv hst₂ hk₂ => ?_
      have hJ2 : J C D i ys h₂ := CI.stab C D i ys H h₂ hJ fun b o hb e => hk₂ b o (fun q => hb (List.mem_cons_of_mem _ (List.mem_cons_of_mem _ q))) e
      have hn2 : h₂.Ns C m' := hn'.at' fun o e => hk₂ _ o hCw e
      have hacc2 := hk₂ _ _ hDw hacc'
      refine wpAny_assign_Name (wpAny_storeName_local (lookup_relabel_local hx) hn2 (fun h₃ hn₃ hs₃ => ?_) (by simp [compEnvC, relabel, hkind]))
      replace hs₃ : Heap.SameBut C h₂ h₃ := hs₃
      replace hn₃ : h₃.Ns C _ := hn₃
      have s₃ := sameBut_stay hs₃
      have hJ3 : J C D i ys h₃ := CI.stab C D i ys h₂ h₃ hJ2 (stay_sub s₃ (by intro b hb; rw [List.mem_singleton.mp hb]; exact List.mem_cons_self))
      have hacc3 := s₃ _ _ (by simpa using hCD.symm) hacc2
      have hst3 : St (i + 1) h₃ := W.frame _ _ _ hst₂ fun b hb o e => s₃ _ _ (by simp; intro q; exact hCf (q ▸ hb)) e
      refine wpAny_mono (CI.elt C D i v ys { s₂ with heap := h₃, toks := _ } _ _ hCle hDle hCD hlt hPv hst3 ⟨_, hacc3⟩ hJ3 hn₃ (by simp) ⟨h₃, _, rfl⟩) (fun y s₄ h₄ => ?_) fun _ _ e => e
      obtain ⟨h5, tk5, rfl, hJ5, ⟨m5, hn5⟩, hk5⟩ := h₄
      have hacc5 := hk5 D (by simp) _ hacc3
      have hst5 : St (i + 1) h5 := W.frame _ _ _ hst3 fun b hb o e => hk5 b (by simp [hb]) o e
      refine append_at hacc5 (fun h6 hs6 hacc6 => ?_) (by rw [List.size_toArray, hyl]; omega)
      have s6 := sameBut_stay hs6
      refine ⟨n + 1 - (i + 1), by omega, i + 1, ys ++ [y], h6, _, c + 1, _, rfl, hlt, rfl, by simp [hyl], W.frame _ _ _ hst5 fun b hb o e => s6 _ _ (by simp; intro q; exact hDf (q ▸ hb)) e, ?_, by simpa using hacc6, hn5.at' fun o e => s6 _ _ (by simpa using hCD) e⟩
      exact CI.stab C D (i + 1) (ys ++ [y]) h5 h6 hJ5 (stay_sub s6 (by intro b hb; rw [List.mem_singleton.mp hb]; simp))
    · have hin : i = n := by omega
      subst hin
      refine W.done _ _ _ hstH fun h₂ tk₂ hk₂ => ?_
      have hJ2 : J C D i ys h₂ := CI.stab C D i ys H h₂ hJ fun b o hb e => hk₂ b o (fun q => hb (List.mem_cons_of_mem _ (List.mem_cons_of_mem _ q))) e
      exact CI.done C D ys h₂ _ c m' hCle hDle hCD hJ2 hyl (hk₂ _ _ hDw hacc') (hn'.at' fun o e => hk₂ _ o hCw e) _
  exact codeAny_compStart_list (loop _ rfl) (W.self 0 _ _ _ hst₁ (loop _ rfl))

/-- the walk's end, where the list is a value -/
theorem comp_own {s : Shared} {elt iter : Expr} {x : Str} {px : Pos} {scope : Scope} {cl : List (Str × Addr)} {pos : Pos} {Q : Value → Shared → Prop}
    (hclos : closureFor scope env = pure cl) (hcell : ∀ y ∈ scope.names, y.2 ≠ .cell) (hkind : scope.kind = .function)
    (hnames : ∀ y ∈ scope.names, y.2 = .local → scope.names.lookup y.1 = some .local) (hx : scope.names.lookup x = some .local)
    (h : wpAny (model prog w) A (eval iter env) (fun xv s₁ => wpAny (model prog w) A (pyIter xv) (fun it s₂ => ∃ I fp wr n P St J, it = .ref I ∧ Walks prog w A I fp wr n P St ∧ n ≤ sizeLine ∧ St 0 s₂.heap ∧ (∀ b ∈ fp, b < s₂.heap.objs.size) ∧
      CompIs prog w A env scope cl x elt fp wr n P St J (fun C D s' => ∀ h', Heap.SameBut C s'.heap h' → Q (.ref D) { s' with heap := h' }) s₂) E s₁) E s)
    (hs : ∀ x, foldedSetIterable iter env x = pure x := by intro _; rfl) :
    wpAny (model prog w) A (eval (.ListComp elt [⟨.Name x px, iter, [], 0⟩] scope pos) env) Q E s := by
  rw [eval_ListComp]
  refine wpAny_comprehension_free (use := none) rfl hs hclos hkind hnames (wpAny_mono h (fun xv s₁ h₁ => wpAny_mono h₁ (fun it s₂ h₂ => ?_) fun _ _ e => e) fun _ _ e => e)
  obtain ⟨I, fp, wr, n, P, St, J, rfl, W, hsz, hst, hfp, CI⟩ := h₂
  refine comp_block hcell hkind hx W hsz hst hfp ⟨CI.start, CI.stab, CI.elt, fun C D ys h tk c m a1 a2 a3 a4 a5 a6 a7 fl => ⟨m, a7, CI.done C D ys h tk c m a1 a2 a3 a4 a5 a6 a7⟩⟩
theorem comp_asg {s : Shared} {elt iter : Expr} {x y : Str} {px py : Pos} {scope : Scope} {cl : List (Str × Addr)} {pos spos : Pos} {Q : Flow → Shared → Prop}
    (hsw : swapsWith (.ListComp elt [⟨.Name x px, iter, [], 0⟩] scope pos) (some (.Name y py)) spos.line env = pure true)
    (hclos : closureFor scope env = pure cl) (hcell : ∀ y ∈ scope.names, y.2 ≠ .cell) (hkind : scope.kind = .function)
    (hnames : ∀ y ∈ scope.names, y.2 = .local → scope.names.lookup y.1 = some .local) (hx : scope.names.lookup x = some .local)
    (h : wpAny (model prog w) A (eval iter env) (fun xv s₁ => wpAny (model prog w) A (pyIter xv) (fun it s₂ => ∃ I fp wr n P St J, it = .ref I ∧ Walks prog w A I fp wr n P St ∧ n ≤ sizeLine ∧ St 0 s₂.heap ∧ (∀ b ∈ fp, b < s₂.heap.objs.size) ∧
      CompIs prog w A env scope cl x elt fp wr n P St J (fun C D s' => wpAny (model prog w) A (assign (.Name y py) env (.ref D)) (fun _ s'' => ∃ m, s''.heap.Ns C m ∧ ∀ h', Heap.SameBut C s''.heap h' → Q .next { s'' with heap := h' }) E s') s₂) E s₁) E s)
    (hs : ∀ x, foldedSetIterable iter env x = pure x := by intro _; rfl) :
    wpAny (model prog w) A (exec (.Assign [.Name y py] (.ListComp elt [⟨.Name x px, iter, [], 0⟩] scope pos) spos) env) Q E s := by
  rw [exec_Assign_Name_used _ _ _ _ hsw]
  refine wpAny_bind (wpAny_standAt (wpAny_bind ?_))
  show wpAny _ A (do let _ ← comprehension (.ListComp elt [⟨.Name x px, iter, [], 0⟩] scope pos) scope env _ (newList []) false (eval iter env) (some (assign (.Name y py) env))) _ _ s
  refine wpAny_bind (wpAny_mono (wpAny_comprehension_free (use := some (assign (.Name y py) env)) (Q := fun _ s' => Q .next s') rfl hs hclos hkind hnames
    (wpAny_mono h (fun xv s₁ h₁ => wpAny_mono h₁ (fun it s₂ h₂ => ?_) fun _ _ e => e) fun _ _ e => e)) (fun _ s' hq => wpAny_pure (wpAny_pure hq)) fun _ _ e => e)
  obtain ⟨I, fp, wr, n, P, St, J, rfl, W, hsz, hst, hfp, CI⟩ := h₂
  exact comp_block hcell hkind hx W hsz hst hfp ⟨CI.start, CI.stab, CI.elt, fun C D ys h tk c m a1 a2 a3 a4 a5 a6 a7 fl => CI.done C D ys h tk c m a1 a2 a3 a4 a5 a6 a7⟩
end
end Mine
end

/-! part Rowz -/
section
open PySem PySem.W PySem.Calls PyProof.Rows
namespace Mine
set_option maxRecDepth 100000
set_option maxHeartbeats 2000000
theorem fill8 : (PySem.Challenge.rw_ki0062_01 = PySem.Challenge.rw_ki0062_01) ∧ (hd.heap_39 = hd.heap_39) := by
  k_fill; exact ⟨rfl, rfl⟩
section
variable {M : Model} {A : Around} {E : Value → Shared → Prop} {s : Shared} {K : Frag} {h₀ : Heap} {C : Addr} {m mg mb : Str → Option Value} {cl : List (Str × Addr)} {p : Program} {loose : List Str} {mean : ExcName → Option Value}
  {x : Str} {pos : Pos} {v : Value} {Q : Value → Shared → Prop} {sc : Scope} {env : Env} {c : Addr}
theorem c_local (F : Fr h₀ C s.heap m) (hv : m x = some v) (h : Q v s) (hk : (compEnvC sc cl C env).scope.kind = .function := by rfl)
    (hl : (compEnvC sc cl C env).kindOf x = some .local := by rfl) (hd : (x == ("__debug__" : Str)) = false := by decide) : wpAny M A (eval (.Name x pos) (compEnvC sc cl C env)) Q E s :=
  wpAny_Name (wpAny_loadName_local hk hl F.ns hv h) hd
theorem c_cell (hv : s.heap.IsCell c (some v)) (h : Q v s) (hk : (compEnvC sc cl C env).scope.kind = .function := by rfl)
    (hl : (compEnvC sc cl C env).kindOf x = some .cell := by rfl) (hc : cl.lookup x = some c := by rfl) (hd : (x == ("__debug__" : Str)) = false := by decide) : wpAny M A (eval (.Name x pos) (compEnvC sc cl C env)) Q E s :=
  wpAny_Name (wpAny_loadName_cell hk hl hc hv h) hd
theorem c_B (F : Fr h₀ C s.heap m) (X : K.In h₀) (T : TopRead p loose mg mb h₀) (e : nsIn K mainGlobals x = some none) (hv : bootBuiltins x = some v) (hn : x ≠ "__name__") (h : Q v s)
    (hg : (compEnvC sc cl C env).globals = mainGlobals := by rfl) (hb : (compEnvC sc cl C env).builtins = builtinsNs := by rfl)
    (hk : (compEnvC sc cl C env).scope.kind = .function := by rfl) (hx : (compEnvC sc cl C env).kindOf x = some .globalImplicit := by rfl) (hd : (x == ("__debug__" : Str)) = false := by decide) :
    wpAny M A (eval (.Name x pos) (compEnvC sc cl C env)) Q E s :=
  Name_function_global hk hx (loadGlobal_builtin (env := compEnvC sc cl C env) (by rw [hg]; exact T.g.keeps F.keep) (mg_none_of X T.g e) (by rw [hb]; exact T.b.keeps F.keep) ((T.builtins x hn).trans hv) h) hd
end
local macro_rules | `(tactic| walk_at "mine") => `(tactic| repeat' (first | walk1 | (dsimp only; walk1)))
local macro_rules | `(tactic| walk_at "eval ListComp") => `(tactic| refine stop ?_)
local macro_rules | `(tactic| walk_at "eval Name") => `(tactic| (with_reducible (show wpAny _ _ (eval (Expr.Name _ _) (compEnvC _ _ _ _)) _ _ _); refine stop ?_))
local macro_rules | `(tactic| walk_at "eval Name") => `(tactic| (k_here; k_dflt (refine' c_B ?F ?X ?T ?e ?v ?n ?_; (case F => k_asm); (case X => k_asm); (case T => k_asm); (case e => k_is); (case v => boot_fast); (case n => decide); k_whole)))
local macro_rules | `(tactic| walk_at "eval Name") => `(tactic| (k_dflt (refine' c_local ?F ?v ?_; (case F => assumption); (case v => assumption))))
local macro_rules | `(tactic| walk_at "subscriptTail") => `(tactic| refine stop ?_)
local macro_rules | `(tactic| walk_at "call type:range") => `(tactic| refine stop ?_)
local macro_rules | `(tactic| walk_at "Exists") => `(tactic| refine stop ?_)

theorem RowIs.stay {ka h h' p v W} (x : RowIs ka h p v) (s : Stay W h h') (n : ∀ a, v = .ref a → a ∉ W) : RowIs ka h' p v := by
  cases x with
  | kept hp => exact .kept hp
  | list hp hl hi => exact .list hp (isList_stay hl s (n _ rfl)) hi
  | range hp hr => exact .range hp (s _ _ (n _ rfl) hr)
  | tuple hp hl hi => exact .tuple hp (isTuple_stay hl s (n _ rfl)) hi
theorem RowsAre.stay {ka h h' ps vs W} (x : RowsAre ka h ps vs) (s : Stay W h h') (n : ∀ v ∈ vs, ∀ a, v = .ref a → a ∉ W) : RowsAre ka h' ps vs := by
  induction x with
  | nil => exact .nil
  | cons a _ ih => exact .cons (a.stay s (n _ List.mem_cons_self)) (ih fun v hv => n v (List.mem_cons_of_mem _ hv))
theorem RowsAre.snoc {ka h ps vs p v} (x : RowsAre ka h ps vs) (y : RowIs ka h p v) : RowsAre ka h (ps ++ [p]) (vs ++ [v]) := by
  induction x with
  | nil => exact .cons y .nil
  | cons a _ ih => exact .cons a ih

section
variable {prog : Program} {w : World} {A : Around} {mean : ExcName → Option Value} {mg mb : Str → Option Value} {Q : Value → Shared → Prop} {E : Value → Shared → Prop} {s : Shared}
theorem rows_call {ka : Nat → Addr} {pkA kA : Addr} {pvs : List Value} {ps : List Nat} (hh : A.handled = none) (hroom : A.depth < recursionLimit) (G : Gd w mean mg mb s.heap) (hpk : s.heap.IsList pkA pvs.toArray) (hpi : IntsAre pvs (natInts ps)) (hpl : ps.length ≤ 3) (hp7 : ∀ p ∈ ps, p < 7)
    (hk : s.heap.IsList kA [Value.ref (ka 0), .ref (ka 1), .ref (ka 2), .ref (ka 3)].toArray) (hka : ∀ p, p < 4 → ∃ o, s.heap.get? (ka p) = some o)
    (hQ : ∀ h' tk R vs c, Stay [] s.heap h' → s.heap.get? R = none → h'.get? R = some (lstObj (List.toArray vs) c) → RowsAre ka h' ps vs → Q (.ref R) { s with heap := h', toks := tk }) :
    wpAny (model prog w) A (call (.ref 61) [.ref pkA, .ref kA]) Q E s := by
  refine wpAny_call ?_
  refine enterC (binds := [(Str.ofString "picks", .ref pkA), (Str.ofString "kept", .ref kA)]) [] G.X G.T.nolimit (by k_is) (by k_is) (by omega) (BindsTo.of_eq rfl) rfl (by decide +kernel) (fun L' h₁ tk cells hL' F N Y hcn hk1 => ?_) rfl rfl rfl
  replace F : Fr s.heap L' h₁ _ := F
  replace N : News s.heap L' h₁ cells := N
  have X := G.X
  have T := G.T
  obtain ⟨oc, rfl, hoc⟩ := CellsAre.one Y
  replace hoc : oc.data = .cell (some (.ref kA)) := hoc
  have hcell := N _ (.head _)
  dsimp only
  w_on
  w_strict (walk_at "mine")
  refine comp_own (cl := [(Str.ofString "kept", L' + 1)]) rfl (by decide) rfl (by decide) rfl ?_
  w_strict (walk_at "mine")
  have hk1' : s.heap.StaysIn h₁ := hk1
  have pk1 : h₁.IsList pkA pvs.toArray := hpk.at fun o e => hk1 _ o e
  refine wpAny_pyIter_list pk1 ?_
  obtain ⟨I, hI⟩ : ∃ I, I = h₁.objs.size := ⟨_, rfl⟩
  have hI1 : h₁.get? I = none := Heap.get?_none_of_le (by rw [hI]; exact Nat.le_refl _)
  have hne : pkA ≠ I := fun e => by obtain ⟨o, ho, _⟩ := pk1; rw [e, hI1] at ho; cases ho
  have W := fun (B : Around) (hB : B.handled = none) => Walks.list (prog := prog) (w := w) (A := B) hB I pkA hne pvs.toArray
  have hz : (h₁.push { cls := .type "list_iterator", data := .fields #[.ref pkA, .int 0 0] }).objs.size = h₁.objs.size + 1 := Heap.size_push ..
  dsimp only
  rw [← hI] at hz ⊢
  obtain ⟨h2, hh2⟩ : ∃ h, h = h₁.push { cls := .type "list_iterator", data := .fields #[.ref pkA, .int 0 0] } := ⟨_, rfl⟩
  have st2 : h₁.StaysIn h2 := by rw [hh2]; exact push_stays _ _
  have it2 : h2.IsListIter I pkA 0 := by rw [hh2, hI]; exact ⟨_, Heap.get?_push_size _ rfl, rfl, rfl⟩
  rw [← hh2] at hz ⊢
  have sz1 : s.heap.objs.size ≤ h₁.objs.size := by
    have := hcell.1
    have := Heap.lt_size this
    rw [hL'] at this
    exact Nat.le_of_lt (Nat.lt_of_succ_lt this)
  have big : ∀ {b : Addr} {o : Obj} {C : Addr}, h2.objs.size ≤ C → h₁.get? b = some o → b ≠ C := fun hC e q => by
    have h1 := Heap.lt_size (st2 _ _ e)
    rw [q] at h1
    exact absurd h1 (Nat.not_lt.mpr hC)
  have nI : ∀ {b : Addr} {o : Obj}, h₁.get? b = some o → b ≠ I := fun e q => by rw [q, hI1] at e; cases e
  refine ⟨I, _, _, _, _, _, fun C D i ys h => h2.objs.size ≤ C ∧ h2.objs.size ≤ D ∧ h₁.StaysIn h ∧ RowsAre ka h (ps.take i) ys ∧ (∀ v ∈ ys, ∀ a, v = .ref a → a ∉ [C, D, I]), rfl, W _ hh, ?_, ⟨it2, pk1.at fun o e => st2 _ o e⟩, ?_, ?_, ?_, ?_, ?_⟩
  · rw [List.size_toArray, hpi.length, natInts, List.length_map, sizeLine_eq]; omega
  · intro b hb
    rcases List.mem_cons.mp hb with rfl | hb
    · rw [hz]; exact Nat.lt_succ_self _
    · rw [List.mem_singleton.mp hb]
      obtain ⟨o, ho, _⟩ := pk1
      exact Heap.lt_size (st2 _ _ ho)
  · exact fun C D h hC hD _ hst => ⟨hC, hD, staysIn_trans st2 hst, by simpa using RowsAre.nil, by simp⟩
  · rintro C D i ys h h' ⟨hC, hD, hs, hR, hn⟩ hst
    exact ⟨hC, hD, fun b o e => hst b o (by simp; exact ⟨big hC e, big hD e, nI e⟩) (hs b o e), hR.stay hst hn, hn⟩
  · rintro C D i v ys s₃ m₃ E' hC hD hCD hi hP hSt ⟨oD, hoD⟩ ⟨_, _, hs, hR, hn⟩ hns hm ⟨h3, tk3, rfl⟩
    dsimp only at hs hR hns hSt hoD ⊢
    have hi' : i < ps.length := by rw [List.size_toArray, hpi.length, natInts, List.length_map] at hi; exact hi
    have hpi' : (natInts ps)[i]? = some ((ps[i] : Nat) : Int) := by simp [natInts, hi']
    obtain ⟨tp, hx⟩ := intsAre_get hpi hpi'
    have hv : v = .int (ps[i] : Nat) tp := by
      have : pvs[i]? = some v := by simpa using hP
      rw [hx] at this; exact (Option.some.inj this).symm
    subst hv
    have F3 : Fr s.heap C h3 m₃ := ⟨hns, fun b o e => hs b o (hk1 b o e), Nat.le_trans sz1 (Nat.le_trans (by rw [hz, hI]; exact Nat.le_succ _) hC)⟩
    have F3k := F3.keep
    have cell3 : h3.IsCell (L' + 1) (some (.ref kA)) := ⟨oc, hs _ _ hcell.1, hoc⟩
    have kA3 : h3.IsList kA [Value.ref (ka 0), .ref (ka 1), .ref (ka 2), .ref (ka 3)].toArray := hk.at fun o e => F3k _ o e
    have htake : ps.take (i + 1) = ps.take i ++ [ps[i]] := by rw [List.take_add_one]; simp [hi']
    have hp7' := hp7 _ (List.getElem_mem hi')
    clear F N
    obtain ⟨ex3, N3, hex3⟩ := all_ledger (g := s.heap) (h := h3) (L := C)
    w_strict (walk_at "mine")
    · rename_i hp4
      have hp : ps[i] < 4 := by omega
      refine c_cell cell3 ?_
      w_strict (walk_at "mine")
      refine sub_list kA3 (by omega) (by omega) (v := .ref (ka ps[i])) (by simpa using four_ref hp) ?_
      w_strict (walk_at "mine")
      refine ⟨h3, _, rfl, ⟨hC, hD, hs, ?_, ?_⟩, ⟨_, hns⟩, fun _ _ _ e => e⟩
      · rw [htake]; exact hR.snoc (.kept hp)
      · intro v hv a e
        rcases List.mem_append.mp hv with hv | hv
        · exact hn v hv a e
        · rw [List.mem_singleton.mp hv] at e
          cases e
          obtain ⟨o, ho⟩ := hka _ hp
          simp
          exact ⟨big hC (hk1 _ _ ho), big hD (hk1 _ _ ho), nI (hk1 _ _ ho)⟩
    · rename_i hp4 l4 h4 F4 N4 hlt4
      have hp : ¬ ps[i] < 4 := by omega
      refine call_range_1 ?_
      have F5 := F4.push { cls := .type "range", data := .fields #[.int 0 (tk3 + 1 + 1 + 1 + 1 + 1 + 1), .int 4 (tk3 + 1 + 1 + 1 + 1 + 1), .int 1 (tk3 + 1 + 1 + 1 + 1 + 1 + 1 + 1)] }
      have N5 := N4.push F4 { cls := .type "range", data := .fields #[.int 0 (tk3 + 1 + 1 + 1 + 1 + 1 + 1), .int 4 (tk3 + 1 + 1 + 1 + 1 + 1), .int 1 (tk3 + 1 + 1 + 1 + 1 + 1 + 1 + 1)] }
      have l4s : l4 < h4.objs.size := Heap.lt_size (N4 _ (.head _)).1
      clear F4 N4
      dsimp only
      w_strict (walk_at "mine")
      rename_i D' h5 l5 l' h6 F6 N6 lt6
      have st6 : Stay [C] h3 h6 := stay_all F3k hex3 F6 fun p hp => (N6 p (by simp [hp])).1
      have oldD : D < l4 := hlt4 _ (hex3 _ _ hoD hCD.symm ?nD)
      obtain ⟨oI, hoI⟩ : ∃ o, h3.get? I = some o := by obtain ⟨o, ho, _⟩ := hSt.1; exact ⟨o, ho⟩
      have nIC : I ≠ C := fun q => by have := Heap.lt_size it2.choose_spec.1; rw [q] at this; exact absurd this (Nat.not_lt.mpr hC)
      have oldI : I < l4 := hlt4 _ (hex3 _ _ hoI nIC ?nI)
      have q4 := N6 (l4, _) (by simp; exact .inr (.inr (.inr (.inl rfl))))
      have qr := N6 (h4.objs.size, _) (by simp; exact .inr (.inr (.inl rfl)))
      have qD := N6 (D', _) (by simp; exact .inr (.inl rfl))
      have hR6 : RowsAre ka h6 (ps.take i) ys := hR.stay st6 fun v hv a e q => hn v hv a e (by rw [List.mem_singleton.mp q]; simp)
      have fin : ∀ a tt, RowIs ka h6 ps[i] (.ref a) → a ≠ C → l4 ≤ a → ∃ (h : Heap) (tk : Nat), ({ s with heap := h6, toks := tt } : Shared) = { s with heap := h, toks := tk } ∧
          (h2.objs.size ≤ C ∧ h2.objs.size ≤ D ∧ h₁.StaysIn h ∧ RowsAre ka h (ps.take (i + 1)) (ys ++ [.ref a]) ∧ (∀ v ∈ ys ++ [Value.ref a], ∀ a, v = .ref a → a ∉ [C, D, I])) ∧ (∃ m, h.Ns C m) ∧ ∀ b ∈ D :: [I, pkA], ∀ o, h3.get? b = some o → h.get? b = some o := by
        intro a tt ha hac hal
        refine ⟨h6, _, rfl, ⟨hC, hD, fun b o e => st6 b o (by simpa using big hC e) (hs b o e), by rw [htake]; exact hR6.snoc ha, ?_⟩, ⟨_, F6.ns⟩, ?_⟩
        · intro v hv b e
          rcases List.mem_append.mp hv with hv | hv
          · exact hn v hv b e
          · rw [List.mem_singleton.mp hv] at e
            cases e
            simp
            exact ⟨hac, fun q => absurd (q ▸ oldD) (Nat.not_lt.mpr hal), fun q => absurd (q ▸ oldI) (Nat.not_lt.mpr hal)⟩
        · intro b hb o e
          refine st6 b o ?_ e
          simp at hb
          rcases hb with rfl | rfl | rfl
          · simpa using hCD.symm
          · simpa using nIC
          · obtain ⟨o, ho, _⟩ := pk1
            simpa using big hC ho
      have L6 : h6.IsList l' [Value.ref l4, .ref h4.objs.size, .ref D'].toArray := (N6.isList (.head _))
      have hcase : ps[i] = 4 ∨ ps[i] = 5 ∨ ps[i] = 6 := by omega
      rcases hcase with hc | hc | hc
      · refine sub_list L6 (by omega) (by omega) (v := .ref l4) (by rw [hc]; rfl) ?_
        exact fin _ _ (.list hp ⟨_, q4.1, rfl, ⟨_, rfl⟩⟩ (by repeat constructor)) q4.2.1 (Nat.le_refl _)
      · refine sub_list L6 (by omega) (by omega) (v := .ref h4.objs.size) (by rw [hc]; rfl) ?_
        exact fin _ _ (.range hp qr.1) qr.2.1 (Nat.le_of_lt l4s)
      · refine sub_list L6 (by omega) (by omega) (v := .ref D') (by rw [hc]; rfl) ?_
        exact fin _ _ (.tuple hp ⟨_, qD.1, rfl, ⟨_, rfl⟩⟩ (by repeat constructor)) qD.2.1 (Nat.le_of_lt l5.2.1)
      case nD =>
        cases q : s.heap.get? D with
        | none => rfl
        | some o => exact absurd rfl (big hD (hk1 _ _ q))
      case nI =>
        cases q : s.heap.get? I with
        | none => rfl
        | some o => exact absurd rfl (nI (hk1 _ _ q))
  · rintro C D ys h tk' c m hC hD hCD ⟨_, _, hs, hR, hn⟩ hyl hDo hns h' hsb
    have s7 := sameBut_stay hsb
    refine hQ h' tk' D ys c (fun b o _ e => s7 b o (by simpa using big hC (hk1 _ _ e)) (hs b o (hk1 b o e))) ?_ (s7 _ _ (by simpa using hCD.symm) hDo) ?_
    · cases q : s.heap.get? D with
      | none => rfl
      | some o => exact absurd rfl (big hD (hk1 _ _ q))
    · rw [List.take_of_length_le (by rw [List.size_toArray, hpi.length, natInts, List.length_map]; exact Nat.le_refl _)] at hR
      exact hR.stay s7 fun v hv a e q => hn v hv a e (by rw [List.mem_singleton.mp q]; simp)
end
end Mine
end

/-! part EqR -/
section
open PySem PySem.W PySem.Calls PyProof.Rows PyProof.V PySem.Spec
namespace Mine
def itemDat : Item → PyData
  | .tup xs => .tuple (xs.map PyData.int)
  | .num x => .int x
def resDat : Option (List Item) → PyData
  | some out => .list [.list (out.map itemDat)]
  | none => .list [.str (Str.ofString "ValueError")]
theorem itemsDat_lay : ∀ out : List Item, PyData.canLayAll0 (out.map itemDat) = true ∧ PyData.depthAll (out.map itemDat) ≤ 1
  | [] => by simp [PyData.canLayAll0, PyData.depthAll]
  | x :: r => by
    have := itemsDat_lay r
    cases x with
    | tup xs => simp [PyData.canLayAll0, PyData.depthAll, itemDat, PyData.canLay0, PyData.depth, ke_canLayAll0, ke_depthAll, this.1]; have := this.2; omega
    | num x => simp [PyData.canLayAll0, PyData.depthAll, itemDat, PyData.canLay0, PyData.depth, this.1]; exact this.2
theorem resDat_shaped (r : Option (List Item)) : SeqAt.shaped (resDat r) = true := by
  cases r with
  | none => decide +kernel
  | some out =>
    have := itemsDat_lay out
    simp [SeqAt.shaped, resDat, PyData.canLay0, PyData.canLayAll0, PyData.depth, PyData.depthAll, this.1]
    omega
theorem ItemIs.reads {h v x} (i : ItemIs h v x) : ∃ as, Reads h v (itemDat x) as := by
  cases i with
  | tup ht hi => exact ⟨_, reads_tuple_at ht rfl rfl ((ke_carried hi).reads h)⟩
  | num => exact ⟨_, .int _ _⟩
theorem ItemsAre.reads {h vs xs} (i : ItemsAre h vs xs) : ∃ as, ReadsAll h vs (xs.map itemDat) as := by
  induction i with
  | nil => exact ⟨_, .nil⟩
  | cons a _ ih => obtain ⟨as, ha⟩ := a.reads; obtain ⟨bs, hb⟩ := ih; exact ⟨_, .cons ha hb⟩
theorem ResIs.reads {h R r} (x : ResIs h R r) : ∃ as, Reads h (.ref R) (resDat r) as := by
  cases x with
  | some hR hS hi => obtain ⟨as, ha⟩ := hi.reads; exact ⟨_, .list hR rfl rfl (.cons (.list hS rfl rfl (by simpa using ha)) .nil)⟩
  | none hR => exact ⟨_, .list hR rfl rfl (.cons (.str _ _) .nil)⟩
theorem ne_res {prog : Program} {w : World} {A : Around} {E : Value → Shared → Prop} {s : Shared} {a b : Addr} {r} {Q : Value → Shared → Prop} (ha : ResIs s.heap a r) (hb : ResIs s.heap b r) (hu : A.units + 64 < cLine) (h : Q (.bool false) s) :
    wpAny (model prog w) A (compareOp .NotEq (.ref a) (.ref b)) Q E s := by
  obtain ⟨as, ra⟩ := ha.reads
  obtain ⟨bs, rb⟩ := hb.reads
  refine ne_dataH ra rb (resDat_shaped r) (resDat_shaped r) hu ?_
  rw [SeqAt.eqv_refl _ (SeqAt.canLay_of_shaped (resDat_shaped r))]
  exact h
/-- a list of four lists of ints -/
def Rows4 (h : Heap) (a : Addr) (xs : Nat → List Int) : Prop := ∃ ks : Nat → Addr, h.IsList a [Value.ref (ks 0), .ref (ks 1), .ref (ks 2), .ref (ks 3)].toArray ∧ ∀ p, p < 4 → ∃ vs : List Value, h.IsList (ks p) vs.toArray ∧ IntsAre vs (xs p)
def dat4 (xs : Nat → List Int) : PyData := .list [.list ((xs 0).map .int), .list ((xs 1).map .int), .list ((xs 2).map .int), .list ((xs 3).map .int)]
theorem dat4_shaped (xs) : SeqAt.shaped (dat4 xs) = true := by
  simp [SeqAt.shaped, dat4, PyData.canLay0, PyData.canLayAll0, PyData.depth, PyData.depthAll, ke_canLayAll0, ke_depthAll]
theorem Rows4.reads {h a xs} (x : Rows4 h a xs) : ∃ as, Reads h (.ref a) (dat4 xs) as := by
  obtain ⟨ks, ⟨o, ho, hc, n, hd⟩, hk⟩ := x
  obtain ⟨v0, l0, i0⟩ := hk 0 (by decide)
  obtain ⟨v1, l1, i1⟩ := hk 1 (by decide)
  obtain ⟨v2, l2, i2⟩ := hk 2 (by decide)
  obtain ⟨v3, l3, i3⟩ := hk 3 (by decide)
  exact ⟨_, .list ho hc hd (.cons (reads_newData l0 (ke_carried i0)) (.cons (reads_newData l1 (ke_carried i1)) (.cons (reads_newData l2 (ke_carried i2)) (.cons (reads_newData l3 (ke_carried i3)) .nil))))⟩
theorem eq_rows4 {prog : Program} {w : World} {A : Around} {E : Value → Shared → Prop} {s : Shared} {a b : Addr} {xs} {Q : Value → Shared → Prop} (ha : Rows4 s.heap a xs) (hb : Rows4 s.heap b xs) (hu : A.units + 64 < cLine) (h : Q (.bool true) s) :
    wpAny (model prog w) A (compareOp .Eq (.ref a) (.ref b)) Q E s := by
  obtain ⟨as, ra⟩ := ha.reads
  obtain ⟨bs, rb⟩ := hb.reads
  refine eq_dataH ra rb (dat4_shaped xs) (dat4_shaped xs) hu ?_
  rw [SeqAt.eqv_refl _ (SeqAt.canLay_of_shaped (dat4_shaped xs))]
  exact h
end Mine
end

/-! part LIt -/
section
open PySem PySem.W PySem.Calls PyProof.Rows
namespace Mine
set_option maxRecDepth 100000
set_option maxHeartbeats 1000000
section
variable {prog : Program} {w : World} {A : Around} {Q : Value → Shared → Prop} {E : Value → Shared → Prop} {s : Shared}
/-- a list iterator over ns, at k -/
def LI (h : Heap) (I l : Addr) (ns : List Int) (k : Nat) : Prop := (∃ vs : List Value, h.IsListIter I l k ∧ h.IsList l vs.toArray ∧ IntsAre vs ns ∧ k ≤ ns.length) ∨ (k = ns.length ∧ ∃ x, h.get? I = some (itObj "list_iterator" #[.none, x]))
theorem LI.of_it {h I l ns k} (H : It h I (some l) ns k) (hc : ∃ o, h.get? I = some o ∧ o.cls = .type "list_iterator") : LI h I l ns k := by
  obtain ⟨o, ho, hc⟩ := hc
  cases H with
  | @list _ vs _ _ hi hl hv' hk => exact .inl ⟨vs, ⟨_, hi, rfl, rfl⟩, hl, hv', hk⟩
  | lend hi => exact .inr ⟨rfl, _, hi⟩
  | tup hi => rw [hi] at ho; cases ho; simp at hc
  | tend hi => rw [hi] at ho; cases ho; simp at hc
theorem LI.ty {h I l ns k} (H : LI h I l ns k) : ∃ o, h.get? I = some o ∧ o.cls = .type "list_iterator" := by
  rcases H with ⟨_, ⟨o, ho, hc, _⟩, _⟩ | ⟨_, _, ho⟩
  · exact ⟨o, ho, hc⟩
  · exact ⟨_, ho, rfl⟩
theorem LI.le {h I l ns k} (H : LI h I l ns k) : k ≤ ns.length := by
  rcases H with ⟨_, _, _, _, hk⟩ | ⟨hk, _⟩
  · exact hk
  · exact Nat.le_of_eq hk
theorem LI.stay {h h' I l ns k W} (H : LI h I l ns k) (s : Stay W h h') (n1 : I ∉ W) (n2 : l ∉ W) : LI h' I l ns k := by
  rcases H with ⟨vs, ⟨o, ho, r⟩, hl, hi, hk⟩ | ⟨hk, x, ho⟩
  · exact .inl ⟨vs, ⟨o, s _ _ n1 ho, r⟩, isList_stay hl s n2, hi, hk⟩
  · exact .inr ⟨hk, x, s _ _ n1 ho⟩
theorem pyNext_ended {it : Addr} {x : Value} {Q : Option Value → Shared → Prop} (hh : A.handled = none) (ho : s.heap.get? it = some (itObj "list_iterator" #[.none, x]))
    (hQ : ∀ h', s.heap.StaysIn h' → Q none { s with heap := h' }) : wpAny (model prog w) A (pyNext (.ref it)) Q E s := by
  have hT : s.TypeIs (.ref it) "list_iterator" := ⟨_, ho, rfl⟩
  unfold pyNext
  refine wpAny_bind (wpAny_attempt (wpAny_callSpecial?_slot (name := Str.ofString "__next__") hT slot_listiter_next
    (wpAny_call_entry slot_listiter_next hT entry_listiter_next ?_ (args_listiter_next _))))
  show wpAny _ _ (field (.ref it) 0 >>= _) _ _ s
  refine wpAny_bind (wpAny_field ho rfl (x := .none) rfl ?_)
  show wpAny _ _ (if (Value.none == Value.none) = true then _ else _) _ _ s
  rw [if_pos (by decide)]
  refine wpAny_bind (wpAny_rule (wpAny_bind ?_))
  refine stop_wp (s := s) (A := A.in1) hh fun h' e hk he ho => ?_
  obtain ⟨o, ho, hc⟩ := ho
  refine wpAny_bind (wpAny_isInstance (T := "StopIteration") (b := true) ⟨o, ho, hc⟩ isSubtype_stop ?_)
  exact wpAny_pure (hQ h' hk)
theorem li_next_some {I l : Addr} {ns : List Int} {k : Nat} {v : Int} {Q : Option Value → Shared → Prop} (H : LI s.heap I l ns k) (hIl : l ≠ I) (hv : ns[k]? = some v)
    (hQ : ∀ h' t, LI h' I l ns (k + 1) → Stay [I] s.heap h' → Q (some (.int v t)) { s with heap := h' }) : wpAny (model prog w) A (pyNext (.ref I)) Q E s := by
  have hlt : k < ns.length := (List.getElem?_eq_some_iff.mp hv).1
  rcases H with ⟨vs, hi, hl, hv', hk⟩ | ⟨hk, x, ho⟩
  · obtain ⟨t, ht⟩ := intsAre_get hv' hv
    refine wpAny_pyNext_list_item (it := I) (l := l) (i := k) hi hl (by simpa using ht) fun h' hi' hs => ?_
    have st := sameBut_stay hs
    exact hQ h' t (.inl ⟨vs, hi', isList_stay hl st (by simpa using hIl), hv', hlt⟩) st
  · omega
theorem li_next_end {I l : Addr} {ns : List Int} {k : Nat} {Q : Option Value → Shared → Prop} (hh : A.handled = none) (H : LI s.heap I l ns k) (hv : ns[k]? = none)
    (hQ : ∀ h', Stay [I] s.heap h' → Q none { s with heap := h' }) : wpAny (model prog w) A (pyNext (.ref I)) Q E s := by
  rcases H with ⟨vs, hi, hl, hv', hk⟩ | ⟨hk, x, ho⟩
  · refine wpAny_pyNext_list_end (it := I) (l := l) (i := k) hh hi hl (by simpa using intsAre_none hv' hv) fun h' hs => ?_
    exact hQ h' fun b o hb e => hs b o (by simpa using hb) e
  · exact pyNext_ended hh ho fun h' hs => hQ h' fun b o _ e => hs b o e
theorem IntsAre.snoc' {vs : List Value} {ns : List Int} (h : IntsAre vs ns) (v : Int) (t : Tok) : IntsAre (vs ++ [.int v t]) (ns ++ [v]) := intsAre_append h (.cons v t .nil)

theorem it_loop {S I l : Addr} {ns : List Int} {res : Value} {R : Result → Shared → Prop} (hh : A.handled = none) (hSI : S ≠ I) (hSl : S ≠ l) (hIl : l ≠ I) (hbd : ns.length ≤ 1000) : ∀ (d k : Nat) (s : Shared) (acc : List Value) (c : Nat) (xs : List Int), d = ns.length - k → LI s.heap I l ns k →
    s.heap.get? S = some (lstObj acc.toArray c) → IntsAre acc xs → xs.length = 0 + xs.length → xs.length + d ≤ 1000 →
    (∀ h' acc' c', h'.get? S = some (lstObj (List.toArray acc') c') → IntsAre acc' (xs ++ ns.drop k) → Stay [S, I] s.heap h' → R (.ok (.ret res)) { s with heap := h' }) →
    codeAny (model prog w) A (.builtin "list.extend.loop" ⟨[.ref S, .ref I, res], []⟩) R s := by
  intro d
  induction d with
  | zero =>
    intro k s acc c xs hd H hS hi _ hb hR
    have hle := H.le
    refine codeAny_builtin F.entry_extend_loop ?_
    rw [Around.under_plainId F.plain_extend_loop _]
    show wpAny _ A.in1 (pyNext (.ref I) >>= _) _ _ s
    refine wpAny_bind (li_next_end (A := A.in1) hh H (List.getElem?_eq_none_iff.mpr (by omega)) fun h' hs => ?_)
    refine wpAny_pure (hR h' acc c (hs _ _ (by simpa using hSI) hS) ?_ (stay_sub hs (by simp)))
    rw [List.drop_of_length_le (by omega), List.append_nil]; exact hi
  | succ d ih =>
    intro k s acc c xs hd H hS hi _ hb hR
    have hk : k < ns.length := by omega
    refine codeAny_builtin F.entry_extend_loop ?_
    rw [Around.under_plainId F.plain_extend_loop _]
    show wpAny _ A.in1 (pyNext (.ref I) >>= _) _ _ s
    refine wpAny_bind (li_next_some (A := A.in1) H hIl (List.getElem?_eq_getElem hk) fun h' t H' hs => ?_)
    have hS' : h'.get? S = some (lstObj acc.toArray c) := hs _ _ (by simpa using hSI) hS
    have hlen := hi.length
    show wpAny _ A.in1 (updateSeq S (·.push (Value.int ns[k] t)) >>= _) _ _ _
    refine wpAny_bind (wpAny_updateSeq hS' rfl ?_ (by rw [List.size_toArray, sizeLine_eq]; omega) (by show (acc.toArray.push _).size ≤ sizeLine + 1; rw [Array.size_push, List.size_toArray, sizeLine_eq]; omega))
    refine wpAny_pure ⟨plainId_quiet F.plain_extend_loop _, ?_⟩
    have su : Stay [S] h' (h'.update S (Obj.mapSeq (·.push (Value.int ns[k] t)))) := fun b o hb e => (Heap.get?_update_other _ _ (fun q : S = b => hb (by simp [q]))).trans e
    have hSn := Heap.get?_update_self (Obj.mapSeq (·.push (Value.int ns[k] t))) hS' rfl
    have eS : Obj.mapSeq (·.push (Value.int ns[k] t)) (lstObj acc.toArray c) = lstObj (acc ++ [Value.int ns[k] t]).toArray (c + 1) := by simp [Obj.mapSeq]
    rw [eS] at hSn
    have s2 : Stay [S, I] s.heap (h'.update S (Obj.mapSeq (·.push (Value.int ns[k] t)))) := (stay_sub hs (by simp)).trans (stay_sub su (by simp))
    refine ih (k + 1) { s with heap := h'.update S (Obj.mapSeq (·.push (Value.int ns[k] t))) } (acc ++ [.int ns[k] t]) (c + 1) (xs ++ [ns[k]]) (by omega) (H'.stay su (by simpa using hSI.symm) (by simpa using hSl.symm)) hSn (IntsAre.snoc' hi _ _) (by simp) (by simp; omega) fun h2 acc' c' hS2 hi2 hs2 => ?_
    refine hR h2 acc' c' hS2 ?_ (s2.trans hs2)
    rw [List.drop_eq_getElem_cons hk]
    simpa using hi2

theorem list_it {I l : Addr} {ns : List Int} {k : Nat} (hh : A.handled = none) (H : LI s.heap I l ns k) (hIl : l ≠ I) (hl : l < s.heap.objs.size) (hbd : ns.length ≤ 1000)
    (hQ : ∀ h' S acc c, S = s.heap.objs.size → h'.get? S = some (lstObj (List.toArray acc) c) → IntsAre acc (ns.drop k) → Stay [I] s.heap h' → Q (.ref S) { s with heap := h' }) :
    wpAny (model prog w) A (call (.type "list") [.ref I]) Q E s := by
  have hSn : s.heap.get? s.heap.objs.size = none := Heap.get?_none_of_le (Nat.le_refl _)
  obtain ⟨oI, hoI, hcI⟩ := H.ty
  have hSI : s.heap.objs.size ≠ I := fun q => by rw [← q, hSn] at hoI; cases hoI
  have hSl : s.heap.objs.size ≠ l := fun q => absurd hl (by rw [q]; exact Nat.lt_irrefl _)
  refine callType_codes (Q₁ := fun obj s₁ => obj = .ref s.heap.objs.size ∧ s₁ = { s with heap := s.heap.push { cls := .type "list", data := .seq #[] } }) F.called_list (F.typeCall_list_1 _) F.entry_list_init
    (code_list_new _ ⟨rfl, rfl⟩) fun obj s₁ h₁ => ?_
  obtain ⟨rfl, rfl⟩ := h₁
  have hS : (s.heap.push { cls := .type "list", data := .seq #[] }).get? s.heap.objs.size = some (lstObj #[] 0) := Heap.get?_push_size _ rfl
  refine ⟨⟨_, hS, rfl⟩, F.args_list_init_2 _ _, ?_⟩
  have p0 : Stay [s.heap.objs.size] s.heap (s.heap.push { cls := .type "list", data := .seq #[] }) := fun b o _ e => Heap.get?_push_of_some _ e
  generalize hHp : s.heap.push { cls := .type "list", data := .seq #[] } = Hp at hS p0
  show wpAny _ _ (do let old ← Builtin.List.listItems (.ref s.heap.objs.size); Builtin.List.listUpdate (.ref s.heap.objs.size) (fun _ => #[]); letGo old.toList.reverse; Builtin.List.listExtendWith (.ref s.heap.objs.size) (.ref I) .none) _ _ _
  refine wpAny_bind ?_
  unfold Builtin.List.listItems
  refine wpAny_bind (wpAny_seqItems hS rfl (wpAny_pure ?_))
  show wpAny _ _ (updateSeq s.heap.objs.size (fun _ => #[]) >>= fun _ => letGo (#[] : Array Value).toList.reverse >>= fun _ => Builtin.List.listExtendWith (.ref s.heap.objs.size) (.ref I) .none) _ _ _
  refine wpAny_bind (wpAny_updateSeq hS rfl ?_)
  have hS₂ := Heap.get?_update_self (Obj.mapSeq (fun _ => (#[] : Array Value))) hS rfl
  have up1 : ∀ (f : Obj → Obj) (h : Heap), Stay [s.heap.objs.size] h (h.update s.heap.objs.size f) := fun f h b o hb e => (Heap.get?_update_other _ _ (fun q : s.heap.objs.size = b => hb (by simp [q]))).trans e
  have p1 := p0.trans (up1 (Obj.mapSeq (fun _ => (#[] : Array Value))) Hp)
  generalize hH2 : Hp.update s.heap.objs.size (Obj.mapSeq (fun _ => (#[] : Array Value))) = H2 at hS₂ p1
  refine wpAny_bind (wpAny_letGo ?_)
  have hI2 := p1 _ _ (by simpa using hSI.symm) hoI
  have hT : ∀ g d tk os, (⟨H2, g, d, tk, os⟩ : Shared).TypeIs (.ref I) "list_iterator" := fun _ _ _ _ => ⟨_, hI2, hcI⟩
  unfold Builtin.List.listExtendWith
  refine wpAny_bind (wpAny_typeOf (hT _ _ _ _) ?_)
  have h1 : Builtin.List.listSameRef (.ref s.heap.objs.size) (.ref I) = false := by simp [Builtin.List.listSameRef, hSI]
  have h2 : (Value.type "list_iterator" == Value.type "list") = false := by decide
  have h3 : (Value.type "list_iterator" == Value.type "tuple") = false := by decide
  simp only [h1, h2, h3, Bool.or_false, Bool.false_eq_true, if_false]
  refine wpAny_bind (kept_iter ⟨_, hI2, hcI⟩ ?_)
  refine wpAny_bind (wpAny_holding ?_)
  unfold Builtin.List.listLengthHint
  refine wpAny_bind (wpAny_specialOf (hT _ _ _ _) F.nolen_li ?_)
  show wpAny _ _ (specialOf (Value.ref I) (Str.ofString "__length_hint__") >>= _) _ _ _
  refine wpAny_bind (wpAny_specialOf (hT _ _ _ _) F.hint_li ?_)
  (generalize hid : ("list_iterator.__length_hint__" : String) = id0; (fail_if_success (clear hid id0)); wp_delta; rw [show splitId id0 = some ("list_iterator", "__length_hint__") from by subst hid; decide +kernel]; subst hid)
  refine wpAny_bind (wpAny_isInstance (b := true) (hT _ _ _ _) (by rw [isSubtype_type]; kernel_rfl) ?_)
  refine wpAny_pure ?_
  rw [if_neg (by decide)]
  refine wpAny_pure ⟨plainId_quiet F.plain_extend_loop _, ?_⟩
  refine it_loop (A := A.in1) hh hSI hSl hIl hbd (ns.length - k) k { s with heap := H2 } [] _ [] rfl (H.stay p1 (by simpa using hSI.symm) (by simpa using hSl.symm)) hS₂ .nil (by simp) (by simp; omega) fun h' acc' c' hS' hi' hs' => ?_
  refine ⟨rfl, hQ h' _ acc' c' rfl hS' (by simpa using hi') ?_⟩
  intro b o hb e
  have hbS : b ≠ s.heap.objs.size := fun q => by rw [q, hSn] at e; cases e
  exact hs' b o (by simp; exact ⟨hbS, by simpa using hb⟩) (p1 b o (by simpa using hbS) e)
end
end Mine
end

/-! part Calls -/
section
open PySem PySem.W PySem.Calls PyProof.Rows
namespace Mine
set_option maxRecDepth 100000
set_option maxHeartbeats 2000000
theorem fill9 : (PySem.Challenge.rw_ki0062_01 = PySem.Challenge.rw_ki0062_01) ∧ (hd.heap_39 = hd.heap_39) := by
  k_fill; exact ⟨rfl, rfl⟩
local macro_rules | `(tactic| walk_at "mine") => `(tactic| repeat' (first | walk1 | (dsimp only; walk1)))
local macro_rules | `(tactic| walk_at "eval ListComp") => `(tactic| refine stop ?_)
local macro_rules | `(tactic| walk_at "exec Assign cons ListComp") => `(tactic| refine stop ?_)
local macro_rules | `(tactic| walk_at "eval Name") => `(tactic| (k_here; k_dflt (refine' c_B ?F ?X ?T ?e ?v ?n ?_; (case F => k_asm); (case X => k_asm); (case T => k_asm); (case e => k_is); (case v => boot_fast); (case n => decide); k_whole)))
local macro_rules | `(tactic| walk_at "eval Name") => `(tactic| (k_dflt (refine' c_cell ?v ?_; (case v => assumption))))
local macro_rules | `(tactic| walk_at "eval Name") => `(tactic| (k_dflt (refine' c_local ?F ?v ?_; (case F => assumption); (case v => assumption))))
local macro_rules | `(tactic| walk_at "call builtin:iter") => `(tactic| refine stop ?_)
local macro_rules | `(tactic| walk_at "storeName") => `(tactic| refine stop ?_)
local macro_rules | `(tactic| walk_at "exec Assign cons List") => `(tactic| (refine wpAny_Assign_Name ?_))
local macro_rules | `(tactic| walk_at "compareOp NotEq ref ref") => `(tactic| refine stop ?_)
local macro_rules | `(tactic| walk_at "compareOp Eq ref ref") => `(tactic| refine stop ?_)
local macro_rules | `(tactic| walk_at "call type:list") => `(tactic| refine stop ?_)
local macro_rules | `(tactic| walk_at "call type:range") => `(tactic| refine stop ?_)
local macro_rules | `(tactic| walk_at "subscriptTail") => `(tactic| refine stop ?_)
local macro_rules | `(tactic| walk_at "subscriptTail Name Name ref int") => `(tactic| refine stop ?_)
local macro_rules | `(tactic| walk_at "exec For Name Name cons nil") => `(tactic| refine stop ?_)
local macro_rules | `(tactic| walk_at "call ref") => `(tactic| refine stop ?_)
local macro_rules | `(tactic| walk_at "Exists") => `(tactic| refine stop ?_)

theorem KeptOk.lists {ls ka ks h pl} (K : KeptOk ls ka ks h pl) (hl : ∀ p, p < 4 → ∃ vs : List Value, h.IsList (ks p) vs.toArray) : KeptList ka h := fun p hp => by
  obtain ⟨vs, o, ho, hc, _⟩ := hl p hp
  have H := K p hp
  generalize pl p = k at H
  generalize ls p = ns at H
  cases H with
  | list hi _ _ _ => exact ⟨_, hi, rfl⟩
  | lend hi => exact ⟨_, hi, rfl⟩
  | tup _ ht _ _ => obtain ⟨o', ho', hc', _⟩ := ht; rw [ho] at ho'; cases ho'; rw [hc] at hc'; simp at hc'
  | tend _ ht => obtain ⟨o', ho', hc', _⟩ := ht; rw [ho] at ho'; cases ho'; rw [hc] at hc'; simp at hc'

/-- what stands amid the calls -/
structure CSt (ls : Nat → List Int) (ka ks : Nat → Addr) (sh : Heap) (fr : List Addr) (kA PLA LLA L : Addr) (pl pq : Nat → Nat) (h : Heap) : Prop where
  up : Stay fr sh h
  fu : FrUp fr sh h
  cl : h.IsCell (L + 1) (some (.ref LLA))
  cp : h.IsCell (L + 1 + 1) (some (.ref PLA))
  kp : h.IsList kA [Value.ref (ka 0), .ref (ka 1), .ref (ka 2), .ref (ka 3)].toArray
  K : KeptOk ls ka ks h pl
  P : PlacesAt h PLA pq
/-- the new addresses that must stand -/
def own (ka : Nat → Addr) (kA PLA L : Addr) : List Addr := [L + 1, L + 1 + 1, kA, PLA] ++ kaL ka
theorem CSt.stay {ls ka ks sh fr kA PLA LLA L pl pq h h' W} (x : CSt ls ka ks sh fr kA PLA LLA L pl pq h) (s : Stay W h h') (ho : ∀ b ∈ W, b ∉ own ka kA PLA L) (hs : ∀ b ∈ W, sh.get? b = none) (hks : ∀ p, p < 4 → ∃ o, sh.get? (ks p) = some o) :
    CSt ls ka ks sh fr kA PLA LLA L pl pq h' := by
  have nk : ∀ p, p < 4 → ka p ∉ W := fun p hp q => ho _ q (by unfold own; exact List.mem_append_right _ (mem_kaL hp))
  have nks : ∀ p, p < 4 → ks p ∉ W := fun p hp q => by obtain ⟨o, e⟩ := hks p hp; rw [hs _ q] at e; cases e
  have n1 : L + 1 ∉ W := fun q => ho _ q (by simp [own])
  have n2 : L + 1 + 1 ∉ W := fun q => ho _ q (by simp [own])
  have n3 : kA ∉ W := fun q => ho _ q (by simp [own])
  have n4 : PLA ∉ W := fun q => ho _ q (by simp [own])
  have nsh : ∀ {b o}, sh.get? b = some o → b ∉ W := fun e q => by rw [hs _ q] at e; cases e
  refine ⟨fun b o hb e => s b o (nsh e) (x.up b o hb e), fun L hL o e hn => ?_, ?_, ?_, isList_stay x.kp s n3, fun p hp => (x.K p hp).stayS s (nk p hp) (fun b e => by cases e; exact nks p hp), x.P.stay s n4⟩
  · obtain ⟨sl, q⟩ := x.fu L hL o e hn; exact ⟨sl, s _ _ (nsh e) q⟩
  · obtain ⟨o, q, r⟩ := x.cl; exact ⟨o, s _ _ n1 q, r⟩
  · obtain ⟨o, q, r⟩ := x.cp; exact ⟨o, s _ _ n2 q, r⟩
theorem CSt.frames {ls ka ks sh kA PLA LLA L pl pq h h₀} {outer : List Env} (x : CSt ls ka ks sh (frOf outer) kA PLA LLA L pl pq h) (hF : sh.FunFrames h₀ outer) : h.FunFrames h₀ outer :=
  hF.of_keeps fun b o e hn => by
    by_cases hb : b ∈ frOf outer
    · obtain ⟨sl, q⟩ := x.fu b hb o e hn; exact ⟨_, q, rfl⟩
    · exact ⟨o, x.up b o hb e, rfl⟩
theorem CSt.list {ls ka ks sh fr kA PLA LLA L pl pq h} {a : Addr} {vs : Array Value} (x : CSt ls ka ks sh fr kA PLA LLA L pl pq h) (hl : sh.IsList a vs) (hn : a ∉ fr) : h.IsList a vs := isList_stay hl x.up hn

theorem intsAre_drop {vs : List Value} {ns : List Int} (h : IntsAre vs ns) (k : Nat) : IntsAre (vs.drop k) (ns.drop k) := by
  induction h generalizing k with
  | nil => simp; exact .nil
  | cons v t r ih =>
    cases k with
    | zero => exact .cons v t r
    | succ k => exact ih k
theorem left_le (ls : Nat → List Int) (pl : Nat → Nat) : left ls pl ≤ left ls (fun _ => 0) := by unfold left; simp only [Nat.sub_zero]; omega
theorem ResIs.stay {h h' R r W} (x : ResIs h R r) (s : Stay W h h') (n1 : R ∉ W) (n2 : ∀ S c, h.get? R = Option.some (lstObj #[.ref S] c) → S ∉ W) (nt : NoTup h W) : ResIs h' R r := by
  cases x with
  | some hR hS hi => exact .some (s _ _ n1 hR) (s _ _ (n2 _ _ hR) hS) (hi.stay s nt)
  | none hR => exact .none (s _ _ n1 hR)
theorem CSt.frIn {ls ka ks sh kA PLA LLA L pl pq h h₀} {outer : List Env} (x : CSt ls ka ks sh (frOf outer) kA PLA LLA L pl pq h) (hF : sh.FunFrames h₀ outer) {b : Addr} (hb : b ∈ frOf outer) : ∃ o, h.get? b = some o := by
  obtain ⟨_, o, ho, hn⟩ := hF.mem hb
  obtain ⟨sl, q⟩ := x.fu b hb o ho hn
  exact ⟨_, q⟩
/-- the lists that a comprehension has made so far -/
def RowsJ (xs : Nat → List Int) (bad : List Addr) (i : Nat) (ys : List Value) (h : Heap) : Prop := ∃ as : List Addr, ys = as.map Value.ref ∧ as.length = i ∧ ∀ p a, as[p]? = some a → a ∉ bad ∧ ∃ vs : List Value, h.IsList a vs.toArray ∧ IntsAre vs (xs p)
theorem RowsJ.nil {xs bad h} : RowsJ xs bad 0 [] h := ⟨[], rfl, rfl, by simp⟩
theorem RowsJ.stay {xs bad i ys h h' W} (x : RowsJ xs bad i ys h) (s : Stay W h h') (hb : ∀ b ∈ W, b ∈ bad) : RowsJ xs bad i ys h' := by
  obtain ⟨as, h1, h2, h3⟩ := x
  exact ⟨as, h1, h2, fun p a e => let ⟨n, vs, l, v⟩ := h3 p a e; ⟨n, vs, isList_stay l s (fun q => n (hb _ q)), v⟩⟩
theorem RowsJ.snoc {xs bad i ys h a} {vs : List Value} (x : RowsJ xs bad i ys h) (n : a ∉ bad) (l : h.IsList a vs.toArray) (v : IntsAre vs (xs i)) : RowsJ xs bad (i + 1) (ys ++ [.ref a]) h := by
  obtain ⟨as, h1, h2, h3⟩ := x
  refine ⟨as ++ [a], by simp [h1], by simp [h2], fun p b e => ?_⟩
  by_cases hp : p < as.length
  · rw [List.getElem?_append_left hp] at e; exact h3 p b e
  · rw [List.getElem?_append_right (by omega)] at e
    have hp0 : p - as.length = 0 := by
      by_cases h0 : p - as.length = 0
      · exact h0
      · rw [List.getElem?_eq_none_iff.mpr (by simp; omega)] at e; cases e
    rw [hp0] at e
    cases e
    have : p = i := by omega
    subst this
    exact ⟨n, vs, l, v⟩
theorem RowsJ.rows4 {xs bad ys h D c} (x : RowsJ xs bad 4 ys h) (hD : h.get? D = some (lstObj ys.toArray c)) : Rows4 h D xs := by
  obtain ⟨as, rfl, h2, h3⟩ := x
  match as, h2, h3 with
  | [a0, a1, a2, a3], _, h3 =>
    refine ⟨fun p => if p = 0 then a0 else if p = 1 then a1 else if p = 2 then a2 else a3, ⟨_, hD, rfl, _, rfl⟩, fun p hp => ?_⟩
    have : p = 0 ∨ p = 1 ∨ p = 2 ∨ p = 3 := by omega
    rcases this with rfl | rfl | rfl | rfl
    · exact (h3 0 a0 rfl).2
    · exact (h3 1 a1 rfl).2
    · exact (h3 2 a2 rfl).2
    · exact (h3 3 a3 rfl).2
theorem Rows4.stays {h h' a xs} (x : Rows4 h a xs) (s : h.StaysIn h') : Rows4 h' a xs := by
  obtain ⟨ks, l, r⟩ := x
  exact ⟨ks, l.at fun o e => s _ o e, fun p hp => let ⟨vs, l, v⟩ := r p hp; ⟨vs, l.at fun o e => s _ o e, v⟩⟩
def callsM (kA cA : Addr) (ox ow op ot : Option Value) : Str → Option Value := fun y =>
  if y = Str.ofString "told" then ot else if y = Str.ofString "picks" then op else if y = Str.ofString "way" then ow else if y = Str.ofString "x" then ox else
  if y = Str.ofString "kept" then some (.ref kA) else if y = Str.ofString "cells" then some (.ref cA) else none
theorem callsM_x {kA cA ox ow op ot v} : (fun y => if y = Str.ofString "x" then some v else callsM kA cA ox ow op ot y) = callsM kA cA (some v) ow op ot := by
  funext y
  unfold callsM
  by_cases h1 : y = Str.ofString "x"
  · subst h1; simp +decide
  · simp [h1]
theorem callsM_way {kA cA ox ow op ot v} : (fun y => if y = Str.ofString "way" then some v else callsM kA cA ox ow op ot y) = callsM kA cA ox (some v) op ot := by
  funext y
  unfold callsM
  by_cases h1 : y = Str.ofString "way"
  · subst h1; simp +decide
  · simp [h1]
theorem callsM_picks {kA cA ox ow op ot v} : (fun y => if y = Str.ofString "picks" then some v else callsM kA cA ox ow op ot y) = callsM kA cA ox ow (some v) ot := by
  funext y
  unfold callsM
  by_cases h1 : y = Str.ofString "picks"
  · subst h1; simp +decide
  · simp [h1]
theorem callsM_told {kA cA ox ow op ot v} : (fun y => if y = Str.ofString "told" then some v else callsM kA cA ox ow op ot y) = callsM kA cA ox ow op (some v) := by
  funext y
  unfold callsM
  by_cases h1 : y = Str.ofString "told"
  · subst h1; simp
  · simp [h1]

section
variable {prog : Program} {w : World} {A : Around} {mean : ExcName → Option Value} {mg mb : Str → Option Value} {Q : Value → Shared → Prop} {E : Value → Shared → Prop} {s : Shared}
theorem call_iter_list {l : Addr} {items : Array Value} (hl : s.heap.IsList l items) (h : Q (.ref s.heap.objs.size) { s with heap := s.heap.push (itObj "list_iterator" #[.ref l, .int 0 0]) }) :
    wpAny (model prog w) A (call (.builtin "iter") [.ref l]) Q E s := by
  refine call_function_entry (by decide +kernel) (by decide +kernel) kdk_entry_iter (kdk_args_iter _) ?_
  unfold Builtin.«iter»
  refine wpAny_bind (m := someArgs "iter" 1 2 _) (wpAny_of_eq (a := [Value.ref l]) (by first | rfl | kernel_rfl!) ?_)
  show wpAny _ _ (pyIter (.ref l) >>= _) _ _ _
  refine wpAny_bind (wpAny_pyIter_list hl ?_)
  exact wpAny_pure ⟨_, rfl, h⟩
theorem calls_call {ls : Nat → List Int} {ks : Nat → Addr} {cA LLA : Addr} {cvs : List Value} {cns : List Int} {h₀ : Heap} {outer : List Env}
    (hh : A.handled = none) (hroom : A.depth + 3 < recursionLimit) (hu : A.units + 100 < cLine) (hA : A.frames = some outer) (G : Gd w mean mg mb h₀) (st : h₀.StaysIn s.heap) (hFF : s.heap.FunFrames h₀ outer)
    (hc : s.heap.IsList cA cvs.toArray) (hci : IntsAre cvs cns) (hcn : cns.length ≤ 1000) (hLL : s.heap.IsList LLA [Value.ref (ks 0), .ref (ks 1), .ref (ks 2), .ref (ks 3)].toArray)
    (hls : ∀ p, p < 4 → ∃ vs : List Value, s.heap.IsList (ks p) vs.toArray ∧ IntsAre vs (ls p) ∧ (ls p).length ≤ 1000) (hbd : left ls (fun _ => 0) + 4 ≤ 1000)
    (hfr : cA ∉ frOf outer ∧ LLA ∉ frOf outer ∧ ∀ p, p < 4 → ks p ∉ frOf outer)
    (hQ : ∀ h' tk, Stay (frOf outer) s.heap h' → FrUp (frOf outer) s.heap h' → Q (.bool true) { s with heap := h', toks := tk }) :
    wpAny (model prog w) A (call (.ref 80) [.ref cA, .ref LLA]) Q E s := by
  have G' := G.keeps st
  refine wpAny_call ?_
  refine enterC (binds := [(Str.ofString "cells", .ref cA), (Str.ofString "lists", .ref LLA)]) [] G'.X G'.T.nolimit (by k_is) (by k_is) (by omega) (BindsTo.of_eq rfl) rfl (by decide +kernel) (fun L' h₁ tk cells hL' F N Y hcn hk1 => ?_) rfl rfl rfl
  replace F : Fr s.heap L' h₁ _ := F
  replace N : News s.heap L' h₁ cells := N
  obtain ⟨oc1, oc2, rfl, hoc1, hoc2⟩ := CellsAre.two Y
  replace hoc1 : oc1.data = .cell none := hoc1
  replace hoc2 : oc2.data = .cell (some (.ref LLA)) := hoc2
  have X := G'.X
  have T := G'.T
  have F1n := F.ns
  have c1 := (N _ (.head _)).1
  have c2 := (N _ (.tail _ (.head _))).1
  dsimp only
  w_on
  w_strict (walk_at "mine")
  refine comp_asg (cl := []) (by with_unfolding_all rfl) rfl (by decide) rfl (by decide) rfl ?_
  w_strict (walk_at "mine")
  have LL1 : h₁.IsList LLA _ := hLL.at fun o e => hk1 _ o e
  refine wpAny_pyIter_list LL1 ?_
  obtain ⟨I, hI⟩ : ∃ I, I = h₁.objs.size := ⟨_, rfl⟩
  have hI1 : h₁.get? I = none := Heap.get?_none_of_le (by rw [hI]; exact Nat.le_refl _)
  have hne : LLA ≠ I := fun e => by obtain ⟨o, ho, _⟩ := LL1; rw [e, hI1] at ho; cases ho
  have W := fun (B : Around) (hB : B.handled = none) => Walks.list (prog := prog) (w := w) (A := B) hB I LLA hne [Value.ref (ks 0), .ref (ks 1), .ref (ks 2), .ref (ks 3)].toArray
  have hz : (h₁.push { cls := .type "list_iterator", data := .fields #[.ref LLA, .int 0 0] }).objs.size = h₁.objs.size + 1 := Heap.size_push ..
  dsimp only
  rw [← hI] at hz ⊢
  obtain ⟨h2, hh2⟩ : ∃ h, h = h₁.push { cls := .type "list_iterator", data := .fields #[.ref LLA, .int 0 0] } := ⟨_, rfl⟩
  have st2 : h₁.StaysIn h2 := by rw [hh2]; exact push_stays _ _
  have it2 : h2.IsListIter I LLA 0 := by rw [hh2, hI]; exact ⟨_, Heap.get?_push_size _ rfl, rfl, rfl⟩
  rw [← hh2] at hz ⊢
  have sz1 : s.heap.objs.size ≤ h₁.objs.size := by
    have := Heap.lt_size c2
    rw [hL'] at this
    exact Nat.le_of_lt (Nat.lt_of_succ_lt this)
  have big : ∀ {b : Addr} {o : Obj} {C : Addr}, h2.objs.size ≤ C → h₁.get? b = some o → b ≠ C := fun hC e q => by
    have h1 := Heap.lt_size (st2 _ _ e)
    rw [q] at h1
    exact absurd h1 (Nat.not_lt.mpr hC)
  have nI : ∀ {b : Addr} {o : Obj}, h₁.get? b = some o → b ≠ I := fun e q => by rw [q, hI1] at e; cases e
  refine ⟨I, _, _, _, _, _, fun C D i ys h => h₁.StaysIn h ∧ h2.objs.size ≤ C ∧ h2.objs.size ≤ D ∧ ∃ as : List Addr, ys = as.map Value.ref ∧ as.length = i ∧ as.Nodup ∧ (∀ a ∈ as, a ∉ [C, D, I] ∧ h₁.get? a = none) ∧ ∀ p a, as[p]? = some a → h.get? a = some (itObj "list_iterator" #[.ref (ks p), .int 0 0]),
    rfl, W _ hh, by rw [sizeLine_eq]; exact Nat.le_of_ble_eq_true rfl, ⟨it2, LL1.at fun o e => st2 _ o e⟩, ?_, ?_, ?_, ?_, ?_⟩
  · intro b hb
    rcases List.mem_cons.mp hb with rfl | hb
    · rw [hz]; exact Nat.lt_succ_self _
    · rw [List.mem_singleton.mp hb]
      obtain ⟨o, ho, _⟩ := LL1
      exact Heap.lt_size (st2 _ _ ho)
  · exact fun C D h hC hD _ hst => ⟨staysIn_trans st2 hst, hC, hD, [], rfl, rfl, List.nodup_nil, by simp, by simp⟩
  · rintro C D i ys h h' ⟨hs, hC, hD, as, hy, hlen, hnd, hnew, hit⟩ hst
    exact ⟨fun b o e => hst b o (by simp; exact ⟨big hC e, big hD e, nI e⟩) (hs b o e), hC, hD, as, hy, hlen, hnd, hnew, fun p a e => hst _ _ (hnew a (List.mem_of_getElem? e)).1 (hit p a e)⟩
  · rintro C D i v ys s₃ m₃ E' hC hD hCD hi hP hSt ⟨oD, hoD⟩ ⟨hs, _, _, as, hy, hlen, hnd, hnew, hit⟩ hns hm ⟨h3, tk3, rfl⟩
    dsimp only at hs hit hns hSt hoD ⊢
    have hi' : i < 4 := hi
    have hv : v = .ref (ks i) := by
      have : [Value.ref (ks 0), .ref (ks 1), .ref (ks 2), .ref (ks 3)][i]? = some v := by simpa using hP
      rw [four_ref hi'] at this; exact (Option.some.inj this).symm
    subst hv
    have F3 : Fr s.heap C h3 m₃ := ⟨hns, fun b o e => hs b o (hk1 b o e), Nat.le_trans sz1 (Nat.le_trans (by rw [hz, hI]; exact Nat.le_succ _) hC)⟩
    have F3k := F3.keep
    clear F N
    w_strict (walk_at "mine")
    obtain ⟨vsk, lk, ik, _⟩ := hls i hi'
    have lk3 : h3.IsList (ks i) vsk.toArray := lk.at fun o e => F3k _ o e
    refine call_iter_list lk3 ?_
    w_strict (walk_at "mine")
    have hnn : h3.get? h3.objs.size = none := Heap.get?_none_of_le (Nat.le_refl _)
    have pst : h3.StaysIn (h3.push (itObj "list_iterator" #[.ref (ks i), .int 0 0])) := push_stays _ _
    have nw : ∀ {b : Addr} {o : Obj}, h3.get? b = some o → h3.objs.size ≠ b := fun e q => by rw [← q, hnn] at e; cases e
    refine ⟨_, _, rfl, ⟨staysIn_trans hs pst, hC, hD, as ++ [h3.objs.size], by simp [hy], by simp [hlen], ?_, ?_, ?_⟩, ⟨_, hns.at' fun o e => pst _ o e⟩, fun b _ o e => pst b o e⟩
    · refine List.nodup_append.mpr ⟨hnd, by simp, ?_⟩
      intro a ha b hb e
      obtain ⟨p, hp⟩ := List.getElem?_of_mem ha
      exact nw (hit p a hp) (by rw [e]; exact (List.mem_singleton.mp hb).symm)
    · intro a ha
      rcases List.mem_append.mp ha with ha | ha
      · exact hnew a ha
      · rw [List.mem_singleton.mp ha]
        obtain ⟨oI, hoI, _⟩ := hSt.1
        obtain ⟨oC, _, _, hoC, _⟩ := hns
        refine ⟨by simp; exact ⟨nw hoC, nw hoD, nw hoI⟩, ?_⟩
        cases q : h₁.get? h3.objs.size with
        | none => rfl
        | some o => exact absurd rfl (nw (hs _ _ q))
    · intro p a e
      by_cases hp : p < as.length
      · rw [List.getElem?_append_left hp] at e
        exact pst _ _ (hit p a e)
      · rw [List.getElem?_append_right (by omega)] at e
        have hp0 : p - as.length = 0 := by
          by_cases h0 : p - as.length = 0
          · exact h0
          · rw [List.getElem?_eq_none_iff.mpr (by simp; omega)] at e; cases e
        rw [hp0] at e
        cases e
        have : p = i := by omega
        subst this
        exact Heap.get?_push_size _ rfl
  · rintro C D ys h tk' c mC hC hD hCD ⟨hs, _, _, as, rfl, hlen, hnd, hnew, hit⟩ hyl hDo hnC
    refine wpAny_assign_Name (wpAny_storeName_local rfl (F1n.at' fun o e => hs _ o e) (fun h3 hn3 hs3 => ?_) rfl)
    replace hs3 : Heap.SameBut L' h h3 := hs3
    have s3 := sameBut_stay hs3
    have hLh : ∀ {b : Addr} {o : Obj}, h₁.get? b = some o → b ≠ C := fun e => big hC e
    have hL1 : ∃ o, h₁.get? L' = some o := by obtain ⟨o, _, _, ho, _⟩ := F1n; exact ⟨o, ho⟩
    have hLC : L' ≠ C := let ⟨o, ho⟩ := hL1; hLh ho
    have hDL : D ≠ L' := fun q => let ⟨o, ho⟩ := hL1; absurd q.symm (big hD ho)
    refine ⟨mC, hnC.at' fun o e => s3 _ _ (by simpa using hLC.symm) e, fun h4 hs4 => ?_⟩
    replace hs4 : Heap.SameBut C h3 h4 := hs4
    have s4 := sameBut_stay hs4
    have st4 : Stay [L'] h₁ h4 := fun b o hb e => s4 b o (by simpa using hLh e) (s3 b o hb (hs b o e))
    replace hn3 : h3.Ns L' _ := hn3
    have ns4 : h4.Ns L' _ := hn3.at' fun o e => s4 _ o (by simpa using hLC) e
    have D4 : h4.get? D = some (lstObj (as.map Value.ref).toArray c) := s4 _ _ (by simpa using hCD.symm) (s3 _ _ (by simpa using hDL) hDo)
    have it4 : ∀ p a, as[p]? = some a → h4.get? a = some (itObj "list_iterator" #[.ref (ks p), .int 0 0]) := fun p a e => by
      have hm := hnew a (List.mem_of_getElem? e)
      have haL : a ≠ L' := fun q => by obtain ⟨o, ho⟩ := hL1; rw [q, ho] at hm; cases hm.2
      exact s4 _ _ (by have := hm.1; simp at this; simpa using this.1) (s3 _ _ (by simpa using haL) (hit p a e))
    obtain ⟨ka, hka⟩ : ∃ ka : Nat → Addr, ∀ p, p < 4 → as[p]? = some (ka p) := ⟨fun p => as.getD p 0, fun p hp => by
      have : p < as.length := by rw [hlen]; exact hp
      simp [this]⟩
    have hasL : as = [ka 0, ka 1, ka 2, ka 3] := by
      have l4 : as.length = 4 := hlen
      match as, l4, hka with
      | [a0, a1, a2, a3], _, hka =>
        have e0 := hka 0 (by decide); have e1 := hka 1 (by decide); have e2 := hka 2 (by decide); have e3 := hka 3 (by decide)
        simp at e0 e1 e2 e3
        rw [e0, e1, e2, e3]
    have hne4 : KeptNe ka := by
      intro p q hp hq e
      have hpl : p < as.length := by rw [hlen]; exact hp
      have hql : q < as.length := by rw [hlen]; exact hq
      have ep := hka p hp; have eq := hka q hq
      rw [e] at ep
      exact (List.getElem?_inj hpl hnd).mp (ep.trans eq.symm)
    have ka4 : ∀ p, p < 4 → h4.get? (ka p) = some (itObj "list_iterator" #[.ref (ks p), .int 0 0]) := fun p hp => it4 p _ (hka p hp)
    have kaN : ∀ p, p < 4 → h₁.get? (ka p) = none := fun p hp => (hnew _ (List.mem_of_getElem? (hka p hp))).2
    have DN : h₁.get? D = none := by
      cases q : h₁.get? D with
      | none => rfl
      | some o => exact absurd rfl (big hD q)
    rw [hasL] at D4
    simp only [List.map_cons, List.map_nil] at D4
    clear hit it4 hnew hka hasL hlen hyl hDo hs3 hs4 s3 s4 hs hn3 hnC
    obtain ⟨g, hg⟩ : ∃ g, g = hideAll s.heap (frOf outer) := ⟨_, rfl⟩
    have gs : g.StaysIn s.heap := fun b o e => by rw [hg] at e; exact of_hideAll _ e
    have stg : h₀.StaysIn g := fun b o e => by rw [hg]; exact hideAll_get _ (st b o e) fun q => by rw [(hFF.mem q).1] at e; cases e
    have gsz : g.objs.size = s.heap.objs.size := by rw [hg]; exact hideAll_size _ _
    have Gg := G.keeps stg
    have hLs : s.heap.get? L' = none := by rw [hL']; exact Heap.get?_none_of_le (Nat.le_refl _)
    have nL : ∀ {b : Addr} {o : Obj}, s.heap.get? b = some o → b ∉ [L'] := fun e q => by rw [List.mem_singleton.mp q, hLs] at e; cases e
    clear F N X T
    have X := Gg.X
    have T := Gg.T
    have F4 : Fr g L' h4 _ := ⟨ns4, fun b o e => st4 b o (nL (gs b o e)) (hk1 b o (gs b o e)), by rw [gsz, hL']; exact Nat.le_refl _⟩
    have F4k := F4.keep
    obtain ⟨ex4, N4, hex4⟩ := all_ledger (g := g) (h := h4) (L := L')
    w_strict (walk_at "mine")
    rename_i PLA h5 F5 N5 lt5
    have s5 : Stay [L'] h4 h5 := stay_all F4k hex4 F5 fun p hp => (N5 p (.tail _ hp)).1
    have P5 := N5 _ (.head _)
    have n2L : L' + 1 + 1 ∉ [L'] := fun q => by have := List.mem_singleton.mp q; omega
    have n1L : L' + 1 ∉ [L'] := fun q => by have := List.mem_singleton.mp q; omega
    refine wpAny_storeName_cell (c := L' + 1 + 1) rfl rfl rfl ⟨oc1, s5 _ _ n2L (st4 _ _ n2L c1), hoc1⟩ fun h6 hv6 hs6 => ?_
    have s6 : Stay [L' + 1 + 1] h5 h6 := sameBut_stay hs6
    have hP5 : h5.get? PLA = some (PySem.W.listOf #[Value.int 0 (tk' + 1), Value.int 0 (tk' + 1 + 1), Value.int 0 (tk' + 1 + 1 + 1), Value.int 0 (tk' + 1 + 1 + 1 + 1)] 0) := P5.1
    have in4 : ∀ {b : Addr} {o : Obj}, h4.get? b = some o → b ≠ L' → b ≠ PLA := fun e n q => by
      cases gq : g.get? _ with
      | none => exact absurd (lt5 _ (hex4 _ _ e n gq)) (by rw [q]; exact Nat.lt_irrefl _)
      | some o => rw [q] at gq; rw [P5.2.2] at gq; cases gq
    have hP2 : PLA ≠ L' + 1 + 1 := fun q => in4 (st4 _ _ n2L c1) (by simpa using n2L) q.symm
    have hP1 : PLA ≠ L' + 1 := fun q => in4 (st4 _ _ n1L c2) (by simpa using n1L) q.symm
    have hPD : PLA ≠ D := fun q => in4 D4 hDL q.symm
    have haL : ∀ p, p < 4 → ka p ≠ L' := fun p hp q => by obtain ⟨o, ho⟩ := hL1; rw [← q, kaN p hp] at ho; cases ho
    have hPa : ∀ p, p < 4 → PLA ≠ ka p := fun p hp q => in4 (ka4 p hp) (haL p hp) q.symm
    have hkc : ∀ p, p < 4 → ka p ≠ L' + 1 + 1 := fun p hp q => by have := kaN p hp; rw [q, c1] at this; cases this
    have hkc1 : ∀ p, p < 4 → ka p ≠ L' + 1 := fun p hp q => by have := kaN p hp; rw [q, c2] at this; cases this
    have hDc : D ≠ L' + 1 + 1 := fun q => by rw [q, c1] at DN; cases DN
    have hDc1 : D ≠ L' + 1 := fun q => by rw [q, c2] at DN; cases DN
    have sh6 : s.heap.StaysIn h6 := fun b o e => s6 b o (fun q => by have := hcn (L' + 1 + 1, oc1) (by simp); rw [List.mem_singleton.mp q] at e; rw [this] at e; cases e) (s5 b o (nL e) (st4 b o (nL e) (hk1 b o e)))
    have hks : ∀ p, p < 4 → ∃ o, s.heap.get? (ks p) = some o := fun p hp => by obtain ⟨vs, ⟨o, ho, _⟩, _⟩ := hls p hp; exact ⟨o, ho⟩
    have kaS : ∀ p, p < 4 → s.heap.get? (ka p) = none := fun p hp => by
      cases q : s.heap.get? (ka p) with
      | none => rfl
      | some o => have := hk1 _ _ q; rw [kaN p hp] at this; cases this
    have DS : s.heap.get? D = none := by
      cases q : s.heap.get? D with
      | none => rfl
      | some o => have := hk1 _ _ q; rw [DN] at this; cases this
    have PS : s.heap.get? PLA = none := by
      cases q : s.heap.get? PLA with
      | none => rfl
      | some o => exact absurd rfl (in4 (st4 _ _ (nL q) (hk1 _ _ q)) (by simpa using nL q))
    have ns6 : h6.Ns L' _ := F5.ns.at' fun o e => s6 L' o (fun q => absurd (List.mem_singleton.mp q) (Nat.ne_of_lt (Nat.lt_succ_of_lt (Nat.lt_succ_self L')))) e
    have ka6 : ∀ p, p < 4 → h6.get? (ka p) = some (itObj "list_iterator" #[.ref (ks p), .int 0 0]) := fun p hp => s6 _ _ (by simpa using hkc p hp) (s5 _ _ (by simpa using haL p hp) (ka4 p hp))
    have I6 : CSt ls ka ks s.heap (frOf outer) D PLA LLA L' (fun _ => 0) (fun _ => 0) h6 := by
      refine ⟨fun b o _ e => sh6 b o e, fun L _ o e _ => ⟨o.slots, sh6 _ _ e⟩, ⟨oc2, s6 _ _ (by simp) (s5 _ _ n1L (st4 _ _ n1L c2)), hoc2⟩, hv6, ⟨_, s6 _ _ (by simpa using hDc) (s5 _ _ (by simpa using hDL) D4), rfl, _, rfl⟩, fun p hp => ?_, ?_⟩
      · obtain ⟨vs, lk, ik, _⟩ := hls p hp
        exact .list (ka6 p hp) (lk.at fun o e => sh6 _ o e) ik (Nat.zero_le _)
      · exact ⟨_, ⟨_, s6 _ _ (by simpa using hP2) hP5, rfl, _, rfl⟩, by repeat constructor⟩
    have e6 : (fun x => if x = Str.ofString "kept" then some (Value.ref D) else (if x = Str.ofString "cells" then some (.ref cA) else none)) = callsM D cA none none none none := by
      funext y
      unfold callsM
      by_cases h1 : y = Str.ofString "told"
      · subst h1; simp +decide
      by_cases h2 : y = Str.ofString "picks"
      · subst h2; simp +decide
      by_cases h3 : y = Str.ofString "way"
      · subst h3; simp +decide
      by_cases h4 : y = Str.ofString "x"
      · subst h4; simp +decide
      simp [h1, h2, h3, h4]
    replace ns6 : h6.Ns L' (fun x => if x = Str.ofString "kept" then some (Value.ref D) else (if x = Str.ofString "cells" then some (.ref cA) else none)) := ns6
    rw [e6] at ns6
    clear e6 F5 N5 ka6 hv6 hs6 s6 s5 F4k hex4 lt5 in4 hP5 P5 D4 ka4 ns4 st4 hne
    have F6 : Fr g L' h6 _ := ⟨ns6, fun b o e => sh6 b o (gs b o e), by rw [gsz, hL']; exact Nat.le_refl _⟩
    obtain ⟨ex6, N6, hex6⟩ := all_ledger (g := g) (h := h6) (L := L')
    w_strict (walk_at "mine")
    refine wpAny_For ?_
    w_strict walk1
    have cA6 : h6.IsList cA cvs.toArray := hc.at fun o e => sh6 _ o e
    refine wpAny_pyIter_list cA6 ?_
    have hits : h6.get? h6.objs.size = none := Heap.get?_none_of_le (Nat.le_refl _)
    obtain ⟨itA, hitA⟩ : ∃ a, a = h6.objs.size := ⟨_, rfl⟩
    obtain ⟨h7, hh7⟩ : ∃ h, h = h6.push { cls := .type "list_iterator", data := .fields #[.ref cA, .int 0 0] } := ⟨_, rfl⟩
    have st7 : h6.StaysIn h7 := by rw [hh7]; exact push_stays _ _
    have it7 : h7.IsListIter itA cA 0 := by rw [hh7, hitA]; exact ⟨_, Heap.get?_push_size _ rfl, rfl, rfl⟩
    have hin : ∀ {a : Addr} {o : Obj}, h6.get? a = some o → a ≠ itA := fun e q => by rw [q, hitA, hits] at e; cases e
    have hitL : L' ≠ itA := by obtain ⟨o, _, _, ho, _⟩ := ns6; exact hin ho
    have hitS : s.heap.get? itA = none := by
      cases q : s.heap.get? itA with
      | none => rfl
      | some o => exact absurd rfl (hin (sh6 _ _ q))
    have hitO : ∀ b ∈ [itA], b ∉ own ka D PLA L' := fun b hb q => by
      rw [List.mem_singleton.mp hb] at q
      simp only [own, List.cons_append, List.nil_append, List.mem_cons] at q
      rcases q with q | q | q | q | q
      · obtain ⟨o, ho, _⟩ := I6.cl; exact hin ho q.symm
      · obtain ⟨o, ho, _⟩ := I6.cp; exact hin ho q.symm
      · obtain ⟨o, ho, _⟩ := I6.kp; exact hin ho q.symm
      · obtain ⟨vs, ⟨o, ho, _⟩, _⟩ := I6.P; exact hin ho q.symm
      · obtain ⟨p, hp, e⟩ := of_mem_kaL q
        obtain ⟨o, ho, _⟩ := (I6.K p hp).isIt
        exact hin ho e.symm
    have hitO1 : ∀ b ∈ [itA], s.heap.get? b = none := fun b hb => by rw [List.mem_singleton.mp hb]; exact hitS
    have LO : ∀ b ∈ [L'], b ∉ own ka D PLA L' := fun b hb q => by
      rw [List.mem_singleton.mp hb] at q
      simp only [own, List.cons_append, List.nil_append, List.mem_cons] at q
      rcases q with q | q | q | q | q
      · exact absurd q (Nat.ne_of_lt (Nat.lt_succ_self L'))
      · exact absurd q (Nat.ne_of_lt (Nat.lt_succ_of_lt (Nat.lt_succ_self L')))
      · exact hDL q.symm
      · obtain ⟨vs, ⟨o, ho, hcl, n, hd⟩, _⟩ := I6.P
        obtain ⟨o', _, _, ho', hd', _⟩ := ns6
        rw [q, ho] at ho'; cases ho'; rw [hd] at hd'; cases hd'
      · obtain ⟨p, hp, e⟩ := of_mem_kaL q
        exact haL p hp e.symm
    have LO1 : ∀ b ∈ [L'], s.heap.get? b = none := fun b hb => by rw [List.mem_singleton.mp hb]; exact hLs
    dsimp only
    rw [← hitA, ← hh7]
    have I7 := I6.stay (W := []) (fun b o _ e => st7 b o e) (by simp) (by simp) hks
    refine codeAny_forLoop (fun k s' => ∃ i h tk pl ox ow op ot, s' = { s with heap := h, toks := tk } ∧ i ≤ cns.length ∧ k = cns.length - i ∧ h.IsListIter itA cA i ∧ CSt ls ka ks s.heap (frOf outer) D PLA LLA L' pl pl h ∧
      h.Ns L' (callsM D cA ox ow op ot) ∧ ∀ p, p < 4 → pl p ≤ (ls p).length) ?_ cns.length ⟨0, h7, _, fun _ => 0, none, none, none, none, rfl, Nat.zero_le _, rfl, it7, I7, ns6.keeps st7, fun p _ => Nat.zero_le _⟩
    clear I7 I6 F6 N6 hex6 ex6 it7 st7 hh7 hitA hin hits sh6 ns6 cA6
    rintro k s' ⟨i, h, tk8, pl, ox, ow, op, ot, rfl, hi, rfl, it8, I8, ns8, hpl⟩
    have cA8 : h.IsList cA cvs.toArray := I8.list hc hfr.1
    by_cases hlt : i < cns.length
    · obtain ⟨tx, hx⟩ := intsAre_get hci (List.getElem?_eq_getElem hlt)
      refine wpAny_pyNext_list_item it8 cA8 (x := .int cns[i] tx) (by simpa using hx) fun h9 it9 hs9 => ?_
      have s9 := sameBut_stay hs9
      have I9 := I8.stay s9 hitO hitO1 hks
      have ns9 : h9.Ns L' _ := ns8.at' fun o e => s9 _ o (by simpa using hitL) e
      dsimp only
      refine wpAny_assign_Name (wpAny_storeName_local rfl ns9 (fun h10 ns10 hs10 => ?_) rfl)
      replace ns10 : h10.Ns L' _ := ns10
      replace hs10 : Heap.SameBut L' h9 h10 := hs10
      have s10 := sameBut_stay hs10
      have I10 := I9.stay s10 LO LO1 hks
      have it10 : h10.IsListIter itA cA (i + 1) := let ⟨o, ho, r⟩ := it9; ⟨o, s10 _ _ (by simpa using hitL.symm) ho, r⟩
      dsimp only
      rw [callsM_x] at ns10
      clear s9 s10 hs9 hs10 I8 I9 ns8 ns9 it8 it9 cA8
      have gk : ∀ {h : Heap} {pl pq}, CSt ls ka ks s.heap (frOf outer) D PLA LLA L' pl pq h → g.StaysIn h := fun I b o e => I.up b o (fun q => by rw [hg, hideAll_none _ q] at e; cases e) (gs b o e)
      have F10 : Fr g L' h10 _ := ⟨ns10, gk I10, by rw [gsz, hL']; exact Nat.le_refl _⟩
      obtain ⟨ex10, N10, hex10⟩ := all_ledger (g := g) (h := h10) (L := L')
      w_strict (walk_at "mine")
      have Gh : ∀ {h : Heap} {pl pq}, CSt ls ka ks s.heap (frOf outer) D PLA LLA L' pl pq h → Gd w mean mg mb h := fun I => Gg.keeps (gk I)
      clear N10 hex10 F10
      have frN : ∀ b, s.heap.get? b = none → b ∉ frOf outer := fun b e q => by obtain ⟨_, o, ho, _⟩ := hFF.mem q; rw [e] at ho; cases ho
      refine plan_call (s := { s with heap := h10, toks := _ }) hh (by show A.depth + 1 < recursionLimit; omega) (Gh I10) fun h11 tk11 pt pk wy t1 ps pvs cp s11 ptN pkN hpp pt11 pk11 hpi hp7 hps hpn hwy => ?_
      replace s11 : Stay [] h10 h11 := s11
      replace ptN : h10.get? pt = none := ptN
      replace pkN : h10.get? pk = none := pkN
      have I11 := I10.stay s11 (by simp) (by simp) hks
      have ns11 : h11.Ns L' _ := ns10.at' fun o e => s11 _ o (by simp) e
      have it11 : h11.IsListIter itA cA (i + 1) := let ⟨o, ho, r⟩ := it10; ⟨o, s11 _ _ (by simp) ho, r⟩
      have newp : ∀ {b : Addr} {o : Obj}, h10.get? b = some o → pk ≠ b := fun e q => by rw [← q, pkN] at e; cases e
      have pkL : pk ≠ L' := by obtain ⟨o, _, _, ho, _⟩ := ns10; exact newp ho
      have pkI : pk ≠ itA := by obtain ⟨o, ho, _⟩ := it10; exact newp ho
      have pkP : pk ≠ PLA := by obtain ⟨vs, ⟨o, ho, _⟩, _⟩ := I10.P; exact newp ho
      have pka : ∀ p, p < 4 → pk ≠ ka p := fun p hp => by obtain ⟨o, ho, _⟩ := (I10.K p hp).isIt; exact newp ho
      have pkF : pk ∉ frOf outer := fun q => by obtain ⟨o, ho⟩ := I10.frIn hFF q; rw [pkN] at ho; cases ho
      have F11 : Fr g L' h11 _ := ⟨ns11, gk I11, by rw [gsz, hL']; exact Nat.le_refl _⟩
      have F11k := F11.keep
      obtain ⟨ex11, N11', hex11⟩ := all_ledger (g := g) (h := h11) (L := L')
      have ptL : pt ≠ L' := by obtain ⟨o, _, _, ho, _⟩ := ns10; intro q; rw [← q, ptN] at ho; cases ho
      have ptg : g.get? pt = none := by
        cases q : g.get? pt with
        | none => rfl
        | some o => have := gk I10 _ _ q; rw [ptN] at this; cases this
      have N11 : News g L' h11 ((pt, tupObj [.int wy t1, .ref pk]) :: ex11) := fun p hp => by
        rcases List.mem_cons.mp hp with rfl | hp
        · exact ⟨pt11, ptL, ptg⟩
        · exact N11' p hp
      clear N11'
      w_strict (walk_at "mine")
      refine unpackN_ (items := #[.int wy t1, .ref pk]) F11 N11 ⟨_, pt11, rfl, _, rfl⟩ hh rfl rfl fun h12 F12 N12 => ?_
      clear F11 N11
      w_strict (walk_at "mine")
      have s12 : Stay [L'] h11 h12 := stay_all F11k hex11 F12 fun p hp => (N12 p (.tail _ hp)).1
      refine wpAny_storeName_local rfl F12.ns (fun h13 ns13 hs13 => ?_) rfl
      replace ns13 : h13.Ns L' _ := ns13
      rw [callsM_way] at ns13
      have s13 : Stay [L'] h12 h13 := sameBut_stay hs13
      clear F12 N12
      w_strict (walk_at "mine")
      refine wpAny_storeName_local rfl ns13 (fun h14 ns14 hs14 => ?_) rfl
      replace ns14 : h14.Ns L' _ := ns14
      have s14 : Stay [L'] h13 h14 := sameBut_stay hs14
      rw [callsM_picks] at ns14
      have t14 : Stay [L'] h11 h14 := (s12.trans s13).trans s14
      have I14 := I11.stay t14 LO LO1 hks
      have it14 : h14.IsListIter itA cA (i + 1) := let ⟨o, ho, r⟩ := it11; ⟨o, t14 _ _ (by simpa using hitL.symm) ho, r⟩
      have pk14 : h14.IsList pk pvs.toArray := ⟨_, t14 _ _ (by simpa using pkL) pk11, rfl, _, rfl⟩
      clear s12 s13 s14 hs13 hs14 t14 ns13 I11 I10 ns11 ns10 it11 it10 F11k hex11 pt11 pk11 s11
      have F14 : Fr g L' h14 _ := ⟨ns14, gk I14, by rw [gsz, hL']; exact Nat.le_refl _⟩
      obtain ⟨ex14, N14, hex14⟩ := all_ledger (g := g) (h := h14) (L := L')
      w_strict (walk_at "mine")
      clear N14 hex14 F14
      refine rows_call (s := { s with heap := h14, toks := _ }) (ka := ka) (pvs := pvs) (ps := ps) hh (by show A.depth + 1 < recursionLimit; omega) (Gh I14) pk14 hpi hpn hp7 I14.kp (fun p hp => by obtain ⟨o, ho, _⟩ := (I14.K p hp).isIt; exact ⟨o, ho⟩) fun h15 tk15 rl rvs rc s15 rlN rl15 hR15 => ?_
      replace s15 : Stay [] h14 h15 := s15
      have I15 := I14.stay s15 (by simp) (by simp) hks
      have ns15 : h15.Ns L' _ := ns14.at' fun o e => s15 _ o (by simp) e
      have it15 : h15.IsListIter itA cA (i + 1) := let ⟨o, ho, r⟩ := it14; ⟨o, s15 _ _ (by simp) ho, r⟩
      have pk15 : h15.IsList pk pvs.toArray := isList_stay pk14 s15 (by simp)
      have F15 : Fr g L' h15 _ := ⟨ns15, gk I15, by rw [gsz, hL']; exact Nat.le_refl _⟩
      obtain ⟨ex15, N15, hex15⟩ := all_ledger (g := g) (h := h15) (L := L')
      w_strict (walk_at "mine")
      clear N15 hex15 F15
      have l15 : ∀ p, p < 4 → ∃ vs : List Value, h15.IsList (ks p) vs.toArray := fun p hp => by obtain ⟨vs, lk, _⟩ := hls p hp; exact ⟨vs, I15.list lk (hfr.2.2 p hp)⟩
      obtain ⟨r, pl', HR⟩ := runs_total ls wy ps hps (left ls pl + 4) 0 pl [] (by omega)
      have hlf := left_le ls pl
      have h₀s : ∀ b, s.heap.get? b = none → h₀.get? b = none := fun b e => by
        cases q : h₀.get? b with
        | none => rfl
        | some o => have := st _ _ q; rw [e] at this; cases this
      refine told_call (s := { s with heap := h15, toks := _ }) (ls := ls) (ka := ka) (ks := ks) (h₀ := h₀) (outer := envOfC _ _ L' 80 (.ref 79) :: outer) (pl := pl) (pl' := pl') (r := r) (ps := ps) (vs := rvs) hwy hh (by show A.depth + 1 + 2 < recursionLimit; omega) (Around.frames_deeper hA) hne4 G (fun p hp => h₀s _ (kaS p hp))
        (fun p hp => ⟨fun q => ?_, fun q => ?_⟩) (fun p hp => let ⟨vs, o, ho, _⟩ := l15 p hp; ⟨o, ho⟩) hps hpn (by omega) HR (staysIn_trans stg (gk I15))
        (Heap.FunFrames.cons (show ScopeKind.function ≠ ScopeKind.module by decide) rfl ns15 (h₀s _ hLs) (I15.frames hFF)) rl15 hR15 I15.K (I15.K.lists l15) ?_
      · rcases List.mem_cons.mp q with x | x
        · exact haL p hp x
        · exact frN _ (kaS p hp) x
      · rcases List.mem_cons.mp q with x | x
        · obtain ⟨o, ho⟩ := hks p hp; exact nL ho (List.mem_singleton.mpr x)
        · exact hfr.2.2 p hp x
      intro h16 tk16 R1 K16 R16 R1N S1N s16 u16
      replace s16 : Stay (kaL ka ++ (L' :: frOf outer)) h15 h16 := s16
      replace u16 : FrUp (L' :: frOf outer) h15 h16 := u16
      replace R1N : h15.get? R1 = none := R1N
      replace S1N : ∀ (S : Addr) (c : Nat), h16.get? R1 = some (lstObj #[Value.ref S] c) → h15.get? S = none := S1N
      have nW : ∀ {b : Addr}, (∀ p, p < 4 → b ≠ ka p) → b ≠ L' → b ∉ frOf outer → b ∉ kaL ka ++ (L' :: frOf outer) := fun h1 h2 h3 q => by
        rcases List.mem_append.mp q with q | q
        · obtain ⟨p, hp, e⟩ := of_mem_kaL q; exact h1 p hp e
        · rcases List.mem_cons.mp q with q | q
          · exact h2 q
          · exact h3 q
      have cN1 : s.heap.get? (L' + 1) = none := hcn (L' + 1, oc2) (by simp)
      have cN2 : s.heap.get? (L' + 1 + 1) = none := hcn (L' + 1 + 1, oc1) (by simp)
      have k1 := nW (b := L' + 1) (fun p hp => (hkc1 p hp).symm) (by simpa using n1L) (frN _ cN1)
      have k2 := nW (b := L' + 1 + 1) (fun p hp => (hkc p hp).symm) (by simpa using n2L) (frN _ cN2)
      have hDa : ∀ p, p < 4 → D ≠ ka p := fun p hp q => by
        obtain ⟨o, ho, hcl, _⟩ := I15.kp
        obtain ⟨o', ho', hcl'⟩ := (I15.K p hp).isIt
        rw [q, ho'] at ho; cases ho; rw [hcl] at hcl'; simp at hcl'
      have k3 := nW (b := D) hDa hDL (frN _ DS)
      have hPL : PLA ≠ L' := fun q => by
        obtain ⟨vs, ⟨o, ho, hcl, n, hd⟩, _⟩ := I15.P
        obtain ⟨o', _, _, ho', hd', _⟩ := ns15
        rw [q, ho'] at ho; cases ho; rw [hd] at hd'; cases hd'
      have k4 := nW (b := PLA) hPa hPL (frN _ PS)
      have I16 : CSt ls ka ks s.heap (frOf outer) D PLA LLA L' pl' pl h16 := by
        refine ⟨fun b o hb e => s16 b o (nW (fun p hp q => by rw [q, kaS p hp] at e; cases e) (fun q => nL e (List.mem_singleton.mpr q)) hb) (I15.up b o hb e), fun L hL o e hn => ?_, ?_, ?_, isList_stay I15.kp s16 k3, K16, I15.P.stay s16 k4⟩
        · obtain ⟨sl, q⟩ := I15.fu L hL o e hn
          obtain ⟨sl2, q2⟩ := u16 L (List.mem_cons_of_mem _ hL) _ q hn
          exact ⟨sl2, q2⟩
        · obtain ⟨o, q, r⟩ := I15.cl; exact ⟨o, s16 _ _ k1 q, r⟩
        · obtain ⟨o, q, r⟩ := I15.cp; exact ⟨o, s16 _ _ k2 q, r⟩
      have ns16 : h16.Ns L' (callsM D cA (some (Value.int cns[i] tx)) (some (.int wy t1)) (some (.ref pk)) ot) := by
        obtain ⟨o, es, ep, ho, hd', hr⟩ := ns15
        have hnf : ∀ vs, o.data ≠ .fields vs := fun vs q => by rw [hd'] at q; cases q
        obtain ⟨sl, h1⟩ := u16 L' List.mem_cons_self o ho hnf
        exact ⟨_, es, ep, h1, hd', hr⟩
      have kit := nW (b := itA) (fun p hp q => hitO itA (by simp) (by rw [q]; exact List.mem_append_right _ (mem_kaL hp))) hitL.symm (frN _ hitS)
      have it16 : h16.IsListIter itA cA (i + 1) := let ⟨o, ho, r⟩ := it15; ⟨o, s16 _ _ kit ho, r⟩
      have pk16 : h16.IsList pk pvs.toArray := isList_stay pk15 s16 (nW pka pkL pkF)
      have in15 : ∀ {b : Addr} {o : Obj}, h15.get? b = some o → R1 ≠ b := fun e q => by rw [← q, R1N] at e; cases e
      have R1L : R1 ≠ L' := by obtain ⟨o, _, _, ho, _⟩ := ns15; exact in15 ho
      have R1P : R1 ≠ PLA := by obtain ⟨vs, ⟨o, ho, _⟩, _⟩ := I15.P; exact in15 ho
      have S1L : ∀ (S : Addr) (c : Nat), h16.get? R1 = some (lstObj #[Value.ref S] c) → S ≠ L' := fun S c e q => by
        have := S1N S c e
        obtain ⟨o, _, _, ho, _⟩ := ns15
        rw [q, ho] at this; cases this
      have S1P : ∀ (S : Addr) (c : Nat), h16.get? R1 = some (lstObj #[Value.ref S] c) → S ≠ PLA := fun S c e q => by
        have := S1N S c e
        obtain ⟨vs, ⟨o, ho, _⟩, _⟩ := I15.P
        rw [q, ho] at this; cases this
      clear I15 I14 ns15 ns14 it15 it14 pk15 pk14 s15 s16 u16 hR15 rl15 l15
      w_strict (walk_at "mine")
      refine wpAny_storeName_local rfl ns16 (fun h17 ns17 hs17 => ?_) rfl
      replace ns17 : h17.Ns L' _ := ns17
      have s17 : Stay [L'] h16 h17 := sameBut_stay hs17
      rw [callsM_told] at ns17
      have I17 := I16.stay s17 LO LO1 hks
      have it17 : h17.IsListIter itA cA (i + 1) := let ⟨o, ho, r⟩ := it16; ⟨o, s17 _ _ (by simpa using hitL.symm) ho, r⟩
      have pk17 : h17.IsList pk pvs.toArray := isList_stay pk16 s17 (by simpa using pkL)
      have R17 : ResIs h17 R1 r := R16.stay s17 (by simpa using R1L) (fun S c e => by simpa using S1L S c e) (ns_noTup ns16)
      have S17 : ∀ (S : Addr) (c : Nat), h17.get? R1 = some (lstObj #[Value.ref S] c) → S ≠ PLA := fun S c e => by
        cases R16 with
        | some hR _ _ => have e' := s17 _ _ (by simpa using R1L) hR; rw [e] at e'; simp at e'; rw [e'.1]; exact S1P _ _ hR
        | none hR => have e' := s17 _ _ (by simpa using R1L) hR; rw [e] at e'; simp at e'
      clear s17 hs17 I16 ns16 it16 pk16 R16
      have F17 : Fr g L' h17 _ := ⟨ns17, gk I17, by rw [gsz, hL']; exact Nat.le_refl _⟩
      obtain ⟨ex17, N17', hex17⟩ := all_ledger (g := g) (h := h17) (L := L')
      obtain ⟨o1, ho1, hd1⟩ := I17.cl
      obtain ⟨o2, ho2, hd2⟩ := I17.cp
      have gN : ∀ {b : Addr}, s.heap.get? b = none → g.get? b = none := fun e => by
        cases q : g.get? _ with
        | none => rfl
        | some o => have := gs _ _ q; rw [e] at this; cases this
      have N17 : News g L' h17 ((L' + 1, o1) :: (L' + 1 + 1, o2) :: ex17) := fun p hp => by
        rcases List.mem_cons.mp hp with rfl | hp
        · exact ⟨ho1, by simpa using n1L, gN cN1⟩
        · rcases List.mem_cons.mp hp with rfl | hp
          · exact ⟨ho2, by simpa using n2L, gN cN2⟩
          · exact N17' p hp
      clear N17'
      w_strict (walk_at "mine")
      clear N17 hex17 F17
      have PLl : PLA ≠ LLA := fun q => by obtain ⟨o, ho, _⟩ := hLL; rw [← q, PS] at ho; cases ho
      have PLk : ∀ p, p < 4 → PLA ≠ ks p := fun p hp q => by obtain ⟨o, ho⟩ := hks p hp; rw [← q, PS] at ho; cases ho
      refine due_call (lvs := []) (s := { s with heap := h17, toks := _ }) (ls := ls) (ks := ks) (h₀ := h₀) (pl := pl) (pl' := pl') (r := r) (ps := ps) (pvs := pvs) hwy hh (by show A.depth + 1 < recursionLimit; omega) G (staysIn_trans stg (gk I17)) hps hpn (by omega) HR pk17 hpi
        (I17.list hLL hfr.2.1) (fun p hp => by obtain ⟨vs, lk, ik, hl⟩ := hls p hp; exact ⟨vs, I17.list lk (hfr.2.2 p hp), ik, hl⟩) I17.P hpl (h₀s _ PS) ⟨pkP.symm, PLl, PLk⟩ fun h18 tk18 R2 P18 R2s R2N s18 => ?_
      replace s18 : Stay [PLA] h17 h18 := s18
      replace R2N : h17.get? R2 = none := R2N
      have PO : ∀ {b : Addr}, b ≠ PLA → b ∉ [PLA] := fun h q => h (List.mem_singleton.mp q)
      have ntP : NoTup h17 [PLA] := fun b hb vs e => by
        rw [List.mem_singleton.mp hb] at e
        obtain ⟨vs', ⟨o, ho, hcl, _⟩, _⟩ := I17.P
        rw [ho] at e; cases e; simp at hcl
      have R18 : ResIs h18 R1 r := R17.stay s18 (PO R1P) (fun S c e => PO (S17 S c e)) ntP
      have I18 : CSt ls ka ks s.heap (frOf outer) D PLA LLA L' pl' pl' h18 := by
        refine ⟨fun b o hb e => s18 b o (PO fun q => by rw [q, PS] at e; cases e) (I17.up b o hb e), fun L hL o e hn => ?_, ?_, ?_, isList_stay I17.kp s18 (PO hPD.symm), fun p hp => (I17.K p hp).stayS s18 (PO (hPa p hp).symm) (fun b e => by cases e; exact PO (PLk p hp).symm), P18⟩
        · obtain ⟨sl, q⟩ := I17.fu L hL o e hn
          exact ⟨sl, s18 _ _ (PO fun q => by rw [q, PS] at e; cases e) q⟩
        · obtain ⟨o, q, r⟩ := I17.cl; exact ⟨o, s18 _ _ (PO hP1.symm) q, r⟩
        · obtain ⟨o, q, r⟩ := I17.cp; exact ⟨o, s18 _ _ (PO hP2.symm) q, r⟩
      have ns18 : h18.Ns L' _ := ns17.at' fun o e => s18 _ o (PO hPL.symm) e
      have itP : itA ≠ PLA := fun q => hitO itA (by simp) (by rw [q]; simp [own])
      have it18 : h18.IsListIter itA cA (i + 1) := let ⟨o, ho, r⟩ := it17; ⟨o, s18 _ _ (PO itP) ho, r⟩
      have F18 : Fr g L' h18 _ := ⟨ns18, gk I18, by rw [gsz, hL']; exact Nat.le_refl _⟩
      obtain ⟨ex18, N18, hex18⟩ := all_ledger (g := g) (h := h18) (L := L')
      w_strict (walk_at "mine")
      refine ne_res R18 R2s (by show A.units + 3 + 64 < cLine; omega) ?_
      w_strict (walk_at "mine")
      exact ⟨cns.length - (i + 1), by omega, i + 1, h18, _, pl', _, _, _, _, rfl, by omega, rfl, it18, I18, ns18, runs_places HR hpl⟩
    · have hie : i = cns.length := by omega
      subst hie
      refine wpAny_pyNext_list_end hh it8 cA8 (by simp [hci.length]) fun h9 he9 => ?_
      have s9 : Stay [itA] h h9 := fun b o hb e => he9 b o (by simpa using hb) e
      have I9 := I8.stay s9 hitO hitO1 hks
      have ns9 : h9.Ns L' _ := ns8.at' fun o e => s9 _ o (by simpa using hitL) e
      clear s9 he9 I8 ns8 it8 cA8
      have gk : ∀ {h : Heap} {pl pq}, CSt ls ka ks s.heap (frOf outer) D PLA LLA L' pl pq h → g.StaysIn h := fun I b o e => I.up b o (fun q => by rw [hg, hideAll_none _ q] at e; cases e) (gs b o e)
      have F9 : Fr g L' h9 _ := ⟨ns9, gk I9, by rw [gsz, hL']; exact Nat.le_refl _⟩
      obtain ⟨ex9, N9, hex9⟩ := all_ledger (g := g) (h := h9) (L := L')
      dsimp only
      w_strict (walk_at "mine")
      refine comp_own (cl := []) rfl (by decide) rfl (by decide) rfl ?_
      w_strict (walk_at "mine")
      refine wpAny_pyIter_list I9.kp ?_
      obtain ⟨J2, hJ2⟩ : ∃ I, I = h9.objs.size := ⟨_, rfl⟩
      have J2N : h9.get? J2 = none := Heap.get?_none_of_le (by rw [hJ2]; exact Nat.le_refl _)
      have in9 : ∀ {b : Addr} {o : Obj}, h9.get? b = some o → b ≠ J2 := fun e q => by rw [q, J2N] at e; cases e
      have kpJ : D ≠ J2 := by obtain ⟨o, ho, _⟩ := I9.kp; exact in9 ho
      have W2 := fun (B : Around) (hB : B.handled = none) => Walks.list (prog := prog) (w := w) (A := B) hB J2 D kpJ [Value.ref (ka 0), .ref (ka 1), .ref (ka 2), .ref (ka 3)].toArray
      have hz2 : (h9.push { cls := .type "list_iterator", data := .fields #[.ref D, .int 0 0] }).objs.size = h9.objs.size + 1 := Heap.size_push ..
      dsimp only
      rw [← hJ2] at hz2 ⊢
      obtain ⟨h10, hh10⟩ : ∃ h, h = h9.push { cls := .type "list_iterator", data := .fields #[.ref D, .int 0 0] } := ⟨_, rfl⟩
      have st10 : h9.StaysIn h10 := by rw [hh10]; exact push_stays _ _
      have it10 : h10.IsListIter J2 D 0 := by rw [hh10, hJ2]; exact ⟨_, Heap.get?_push_size _ rfl, rfl, rfl⟩
      rw [← hh10] at hz2 ⊢
      have big9 : ∀ {b : Addr} {o : Obj} {C : Addr}, h10.objs.size ≤ C → h9.get? b = some o → b ≠ C := fun hC e q => by
        have h1 := Heap.lt_size (st10 _ _ e)
        rw [q] at h1
        exact absurd h1 (Nat.not_lt.mpr hC)
      have bigJ : ∀ {C : Addr}, h10.objs.size ≤ C → J2 ≠ C := fun hC q => by
        have h1 : J2 < h10.objs.size := by rw [hz2]; exact Nat.lt_succ_self _
        rw [q] at h1
        exact absurd h1 (Nat.not_lt.mpr hC)
      have ka9 : ∀ p, p < 4 → ∃ o, h9.get? (ka p) = some o := fun p hp => by obtain ⟨o, ho, _⟩ := (I9.K p hp).isIt; exact ⟨o, ho⟩
      have l9 : ∀ p, p < 4 → ∃ vs : List Value, h9.IsList (ks p) vs.toArray ∧ IntsAre vs (ls p) ∧ (ls p).length ≤ 1000 := fun p hp => by obtain ⟨vs, lk, ik, hl⟩ := hls p hp; exact ⟨vs, I9.list lk (hfr.2.2 p hp), ik, hl⟩
      have KL9 := I9.K.lists fun p hp => let ⟨vs, l, _⟩ := l9 p hp; ⟨vs, l⟩
      have ksa : ∀ p q, p < 4 → q < 4 → ks p ≠ ka q := fun p q hp hq e => by obtain ⟨o, ho⟩ := hks p hp; rw [e, kaS q hq] at ho; cases ho
      refine ⟨J2, _, _, _, _, _, fun C C2 i ys h => h10.objs.size ≤ C ∧ h10.objs.size ≤ C2 ∧ Stay (kaL ka) h9 h ∧ (∀ p, i ≤ p → p < 4 → LI h (ka p) (ks p) (ls p) (pl p)) ∧ RowsJ (fun p => (ls p).drop (pl p)) (C :: C2 :: J2 :: kaL ka) i ys h,
        rfl, W2 _ hh, by rw [sizeLine_eq]; exact Nat.le_of_ble_eq_true rfl, ⟨it10, I9.kp.at fun o e => st10 _ o e⟩, ?_, ?_, ?_, ?_, ?_⟩
      · intro b hb
        rcases List.mem_cons.mp hb with rfl | hb
        · rw [hz2]; exact Nat.lt_succ_self _
        · rw [List.mem_singleton.mp hb]
          obtain ⟨o, ho, _⟩ := I9.kp
          exact Heap.lt_size (st10 _ _ ho)
      · intro C C2 hx hC hC2 _ hst
        have hs := staysIn_trans st10 hst
        exact ⟨hC, hC2, fun b o _ e => hs b o e, fun p _ hp => LI.of_it ((I9.K p hp).stays hs) (let ⟨o, ho, hc⟩ := KL9 p hp; ⟨o, hs _ _ ho, hc⟩), .nil⟩
      · rintro C C2 i ys hx hx' ⟨hC, hC2, hs, hLI, hJ⟩ hst
        have nn : ∀ {b : Addr} {o : Obj}, h9.get? b = some o → b ∉ [C, C2, J2] := fun e => by simp; exact ⟨big9 hC e, big9 hC2 e, in9 e⟩
        exact ⟨hC, hC2, fun b o hb e => hst b o (nn e) (hs b o hb e), fun p h1 h2 => (hLI p h1 h2).stay hst (let ⟨o, ho⟩ := ka9 p h2; nn ho) (let ⟨vs, ⟨o, ho, _⟩, _⟩ := l9 p h2; nn ho), hJ.stay hst (by intro b hb; simp at hb ⊢; rcases hb with rfl | rfl | rfl <;> simp)⟩
      · rintro C C2 i v ys s₃ m₃ E' hC hC2 hCC hi hP hSt ⟨oD, hoD⟩ ⟨_, _, hs, hLI, hJ⟩ hns hm ⟨h3, tk3, rfl⟩
        dsimp only at hs hLI hJ hns hSt hoD ⊢
        have hi' : i < 4 := hi
        have hv : v = .ref (ka i) := by
          have : [Value.ref (ka 0), .ref (ka 1), .ref (ka 2), .ref (ka 3)][i]? = some v := by simpa using hP
          rw [four_ref hi'] at this; exact (Option.some.inj this).symm
        subst hv
        have gS : ∀ b o, g.get? b = some o → h3.get? b = some o := fun b o e => hs b o (fun q => by
          obtain ⟨p, hp, e'⟩ := of_mem_kaL q
          have := gs b o e
          rw [e', kaS p hp] at this; cases this) (gk I9 b o e)
        have gsz9 : g.objs.size ≤ C := by
          rw [gsz]
          have h1 : L' < h9.objs.size := by obtain ⟨o, _, _, ho, _⟩ := ns9; exact Heap.lt_size ho
          rw [hL'] at h1
          exact Nat.le_trans (Nat.le_of_lt h1) (Nat.le_trans (by rw [hz2, hJ2]; exact Nat.le_succ _) hC)
        have F3 : Fr g C h3 m₃ := ⟨hns, gS, gsz9⟩
        clear F9 N9
        w_strict (walk_at "mine")
        obtain ⟨vsi, lki, iki, hli⟩ := l9 i hi'
        have hksi : ks i < h3.objs.size := by
          obtain ⟨o, ho, _⟩ := lki
          refine Heap.lt_size (hs _ _ (fun q => ?_) ho)
          obtain ⟨q', hq', e⟩ := of_mem_kaL q
          exact ksa i q' hi' hq' e
        refine list_it (A := _) hh (hLI i (Nat.le_refl _) hi') (ksa i i hi' hi') hksi hli fun h4 S acc c hSN hS4 hacc s4 => ?_
        w_strict (walk_at "mine")
        have s4' : Stay [ka i] h3 h4 := s4
        have hSz : S = h3.objs.size := hSN
        have lt3 : ∀ {b : Addr}, b < h3.objs.size → b ≠ S := fun h q => by rw [q, hSz] at h; exact Nat.lt_irrefl _ h
        have hCz : C < h3.objs.size := by obtain ⟨o, _, _, ho, _⟩ := hns; exact Heap.lt_size ho
        have hkz : ∀ p, p < 4 → ka p < h3.objs.size := fun p hp => by
          obtain ⟨o, ho⟩ := ka9 p hp
          exact Nat.lt_trans (Nat.lt_of_lt_of_le (Heap.lt_size (st10 _ _ ho)) hC) hCz
        have hCk : C ≠ ka i := by obtain ⟨o, ho⟩ := ka9 i hi'; exact (big9 hC ho).symm
        have hC2k : C2 ≠ ka i := by obtain ⟨o, ho⟩ := ka9 i hi'; exact (big9 hC2 ho).symm
        have hJk : J2 ≠ ka i := by obtain ⟨o, ho⟩ := ka9 i hi'; exact (in9 ho).symm
        have hDk : D ≠ ka i := fun q => by
          obtain ⟨o, ho, hcl, _⟩ := I9.kp
          obtain ⟨o', ho', hcl'⟩ := (I9.K i hi').isIt
          rw [q, ho'] at ho; cases ho; rw [hcl] at hcl'; simp at hcl'
        refine ⟨h4, _, rfl, ⟨hC, hC2, fun b o hb e => s4' b o (fun q => hb (by rw [List.mem_singleton.mp q]; exact mem_kaL hi')) (hs b o hb e), fun p h1 h2 => (hLI p (by omega) h2).stay s4' (fun q => ?_) (fun q => ksa p i h2 hi' (List.mem_singleton.mp q)),
          (hJ.stay s4' (fun b hb => ?_)).snoc (fun q => ?_) ⟨_, hS4, rfl, _, rfl⟩ hacc⟩, ⟨_, hns.at' fun o e => s4' _ o (by simpa using hCk) e⟩, fun b hb o e => s4' b o ?_ e⟩
        · have := hne4 p i h2 hi' (List.mem_singleton.mp q); omega
        · rw [List.mem_singleton.mp hb]
          exact List.mem_cons_of_mem _ (List.mem_cons_of_mem _ (List.mem_cons_of_mem _ (mem_kaL hi')))
        · simp only [List.mem_cons] at q
          rcases q with q | q | q | q
          · exact lt3 hCz q.symm
          · exact lt3 (Heap.lt_size hoD) q.symm
          · obtain ⟨o, ho, _⟩ := hSt.1; exact lt3 (Heap.lt_size ho) q.symm
          · obtain ⟨p, hp, e⟩ := of_mem_kaL q; exact lt3 (hkz p hp) e.symm
        · simp only [List.mem_cons, List.not_mem_nil, or_false] at hb
          rcases hb with rfl | rfl | rfl
          · simpa using hC2k
          · simpa using hJk
          · simpa using hDk
      · rintro C C2 ys h2x tk' c mC hC hC2 hCC ⟨_, _, hs, _, hJ⟩ hyl hDo hnC h11 hsb
        have s7 := sameBut_stay hsb
        have in9C : ∀ {b : Addr} {o : Obj}, h9.get? b = some o → b ∉ [C] := fun e => by simpa using big9 hC e
        have s11 : Stay (kaL ka) h9 h11 := fun b o hb e => s7 b o (in9C e) (hs b o hb e)
        have R11 : Rows4 h11 C2 (fun p => (ls p).drop (pl p)) := (hJ.stay s7 (by intro b hb; rw [List.mem_singleton.mp hb]; simp)).rows4 (s7 _ _ (by simpa using hCC.symm) hDo)
        have nk : ∀ {b : Addr}, s.heap.get? b = none ∨ (∃ o, s.heap.get? b = some o) → (∀ p, p < 4 → b ≠ ka p) → b ∉ kaL ka := fun _ h q => by obtain ⟨p, hp, e⟩ := of_mem_kaL q; exact h p hp e
        have shk : ∀ {b : Addr} {o : Obj}, s.heap.get? b = some o → b ∉ kaL ka := fun e q => by obtain ⟨p, hp, e'⟩ := of_mem_kaL q; rw [e', kaS p hp] at e; cases e
        have up11 : Stay (frOf outer) s.heap h11 := fun b o hb e => s11 b o (shk e) (I9.up b o hb e)
        have fu11 : FrUp (frOf outer) s.heap h11 := fun L hL o e hn => let ⟨sl, q⟩ := I9.fu L hL o e hn; ⟨sl, s11 _ _ (shk e) q⟩
        have ns11 : h11.Ns L' _ := ns9.at' fun o e => s11 _ o (fun q => by obtain ⟨p, hp, e'⟩ := of_mem_kaL q; exact haL p hp e'.symm) e
        have cl11 : h11.IsCell (L' + 1) (some (.ref LLA)) := by obtain ⟨o, q, r⟩ := I9.cl; exact ⟨o, s11 _ _ (fun q => by obtain ⟨p, hp, e'⟩ := of_mem_kaL q; exact hkc1 p hp e'.symm) q, r⟩
        have cp11 : h11.IsCell (L' + 1 + 1) (some (.ref PLA)) := by obtain ⟨o, q, r⟩ := I9.cp; exact ⟨o, s11 _ _ (fun q => by obtain ⟨p, hp, e'⟩ := of_mem_kaL q; exact hkc p hp e'.symm) q, r⟩
        have P11 : PlacesAt h11 PLA pl := I9.P.stay s11 (fun q => by obtain ⟨p, hp, e'⟩ := of_mem_kaL q; exact hPa p hp e')
        have LL11 : h11.IsList LLA _ := isList_stay hLL up11 hfr.2.1
        have g11 : g.StaysIn h11 := fun b o e => up11 b o (fun q => by rw [hg, hideAll_none _ q] at e; cases e) (gs b o e)
        have F11 : Fr g L' h11 _ := ⟨ns11, g11, by rw [gsz, hL']; exact Nat.le_refl _⟩
        clear F9 N9
        obtain ⟨ex11, N11, hex11⟩ := all_ledger (g := g) (h := h11) (L := L')
        dsimp only
        w_strict (walk_at "mine")
        refine comp_own (cl := [(Str.ofString "places", L' + 1 + 1), (Str.ofString "lists", L' + 1)]) rfl (by decide) rfl (by decide) rfl ?_
        w_strict (walk_at "mine")
        refine range_iter (N := 4) (by omega) fun h12 tk12 J3 st12 J3N it12 => ?_
        replace st12 : h11.StaysIn h12 := st12
        replace J3N : h11.get? J3 = none := J3N
        clear F11 N11 hex11
        have big11 : ∀ {b : Addr} {o : Obj} {C : Addr}, h12.objs.size ≤ C → h11.get? b = some o → b ≠ C := fun hC e q => by
          have h1 := Heap.lt_size (st12 _ _ e)
          rw [q] at h1
          exact absurd h1 (Nat.not_lt.mpr hC)
        have nJ3 : ∀ {b : Addr} {o : Obj}, h11.get? b = some o → b ≠ J3 := fun e q => by rw [q, J3N] at e; cases e
        have W3 := fun (B : Around) (hB : B.handled = none) => Walks.range (prog := prog) (w := w) (A := B) hB J3 0 1 4
        have i0 : IsRangeIter h12 J3 (0 + ((0 : Nat) : Int) * 1) (((4 : Nat) : Int) - ((0 : Nat) : Int)) 1 := by simpa using it12
        refine ⟨J3, _, _, _, _, _, fun C C3 i ys h => h12.objs.size ≤ C ∧ h12.objs.size ≤ C3 ∧ h11.StaysIn h ∧ RowsJ (fun p => (ls p).drop (pl p)) [C, C3, J3] i ys h,
          rfl, W3 _ hh, by rw [sizeLine_eq]; exact Nat.le_of_ble_eq_true rfl, i0, ?_, ?_, ?_, ?_, ?_⟩
        · intro b hb
          rw [List.mem_singleton.mp hb]
          exact Heap.lt_size it12
        · exact fun C C3 hx hC hC3 _ hst => ⟨hC, hC3, staysIn_trans st12 hst, .nil⟩
        · rintro C C3 i ys hx hx' ⟨hC, hC3, hs, hJ⟩ hst
          exact ⟨hC, hC3, fun b o e => hst b o (by simp; exact ⟨big11 hC e, big11 hC3 e, nJ3 e⟩) (hs b o e), hJ.stay hst (fun b hb => hb)⟩
        · rintro C C3 i v ys s₃ m₃ E' hC hC3 hCC hi ⟨tv, rfl⟩ hSt ⟨oD, hoD⟩ ⟨_, _, hs, hJ⟩ hns hm ⟨h3, tk3, rfl⟩
          dsimp only at hs hJ hns hSt hoD ⊢
          have ev : (0 + (i : Int) * 1) = (i : Int) := by omega
          rw [ev] at hm
          have cl3 : h3.IsCell (L' + 1) (some (.ref LLA)) := by obtain ⟨o, q, r⟩ := cl11; exact ⟨o, hs _ _ q, r⟩
          have cp3 : h3.IsCell (L' + 1 + 1) (some (.ref PLA)) := by obtain ⟨o, q, r⟩ := cp11; exact ⟨o, hs _ _ q, r⟩
          have LL3 : h3.IsList LLA _ := LL11.at fun o e => hs _ o e
          obtain ⟨pvs3, P3, Pi3⟩ := P11.stay (W := []) (fun b o _ e => hs b o e) (by simp)
          obtain ⟨vsi, lki, iki, hli⟩ := hls i hi
          have lk3 : h3.IsList (ks i) vsi.toArray := (isList_stay lki up11 (hfr.2.2 i hi)).at fun o e => hs _ o e
          have hlen := iki.length
          have F3 : Fr g C h3 m₃ := ⟨hns, fun b o e => hs b o (g11 b o e), by
            rw [gsz]
            have h1 : L' < h12.objs.size := by obtain ⟨o, _, _, ho, _⟩ := ns11; exact Heap.lt_size (st12 _ _ ho)
            rw [hL'] at h1
            exact Nat.le_trans (Nat.le_of_lt h1) hC⟩
          w_strict (walk_at "mine")
          have hi4 : i < 4 := hi
          refine sub_list LL3 (by omega) (by omega) (v := .ref (ks i)) (by simpa using four_ref hi4) ?_
          w_strict (walk_at "mine")
          obtain ⟨tq, hq⟩ := intsAre_get Pi3 (four_at (f := fun q => (pl q : Int)) hi4)
          refine sub_list P3 (by omega) (by omega) (v := .int (pl i) tq) (by simpa using hq) ?_
          w_strict (walk_at "mine")
          have lk3' : (h3.push { cls := Value.type "slice", data := Data.fields #[Value.int (↑(pl i)) tq, Value.none, Value.none] }).IsList (ks i) vsi.toArray := lk3.push _
          refine tail_any (ops := [.ref h3.objs.size, .ref (ks i)]) lk3'.typeIs slot_list_getitem.lookup (wpAny_getItem_list_slice (lo := some (pl i : Int)) (hi := none) (st := none) lk3' (Heap.IsSliceOf.new ..) (.int _ _) .none .none (by simp) ?_ (by rw [List.size_toArray, hlen, sizeLine_eq]; omega)) (by with_unfolding_all rfl)
          rw [slicePick_from']
          have pst : h3.StaysIn ((h3.push { cls := Value.type "slice", data := Data.fields #[Value.int (↑(pl i)) tq, Value.none, Value.none] }).push { cls := .type "list", data := .seq (vsi.toArray.toList.drop (pl i)).toArray }) := staysIn_trans (push_stays _ _) (push_stays _ _)
          have hnew : ∀ {b : Addr} {o : Obj}, h3.get? b = some o → (h3.push { cls := Value.type "slice", data := Data.fields #[Value.int (↑(pl i)) tq, Value.none, Value.none] }).objs.size ≠ b := fun e q => by
            have := Heap.lt_size e
            rw [← q, Heap.size_push] at this
            exact absurd this (Nat.not_lt.mpr (Nat.le_succ _))
          refine ⟨_, _, rfl, ⟨hC, hC3, staysIn_trans hs pst, (hJ.stay (W := []) (fun b o _ e => pst b o e) (by simp)).snoc (vs := vsi.drop (pl i)) ?_ ⟨_, Heap.get?_push_size _ rfl, rfl, _, rfl⟩ (intsAre_drop iki _)⟩, ⟨_, hns.at' fun o e => pst _ o e⟩, fun b _ o e => pst b o e⟩
          obtain ⟨oC, _, _, hoC, _⟩ := hns
          intro q
          simp only [List.mem_cons, List.not_mem_nil, or_false] at q
          rcases q with q | q | q
          · exact hnew hoC q
          · exact hnew hoD q
          · exact hnew hSt q
        · rintro C C3 ys h13 tk' c mC hC hC3 hCC ⟨_, _, hs, hJ⟩ hyl hDo hnC h14 hsb
          have s7 := sameBut_stay hsb
          have s14 : h11.StaysIn h14 := fun b o e => s7 b o (by simpa using big11 hC e) (hs b o e)
          have R14 : Rows4 h14 C3 (fun p => (ls p).drop (pl p)) := (hJ.stay s7 (by intro b hb; rw [List.mem_singleton.mp hb]; simp)).rows4 (s7 _ _ (by simpa using hCC.symm) hDo)
          have ns14 : h14.Ns L' _ := ns11.at' fun o e => s14 _ o e
          have F14 : Fr g L' h14 _ := ⟨ns14, staysIn_trans g11 s14, by rw [gsz, hL']; exact Nat.le_refl _⟩
          obtain ⟨ex14, N14, hex14⟩ := all_ledger (g := g) (h := h14) (L := L')
          dsimp only
          w_strict (walk_at "mine")
          refine eq_rows4 (R11.stays s14) R14 (by show A.units + 3 + 64 < cLine; omega) ?_
          w_strict (walk_at "mine")
          exact hQ h14 _ (fun b o hb e => s14 b o (up11 b o hb e)) (fun L hL o e hn => let ⟨sl, q⟩ := fu11 L hL o e hn; ⟨sl, s14 _ _ q⟩)
end
end Mine
end

/-! part Law -/
section
open PySem PySem.W PySem.Calls PyProof.Rows
namespace Mine
set_option maxRecDepth 100000
set_option maxHeartbeats 8000000
local macro_rules | `(tactic| walk_at "mine") => `(tactic| repeat' (first | walk1 | (dsimp only; walk1)))
local macro_rules | `(tactic| walk_at "eval Name") => `(tactic| (k_dflt (refine' c_cell ?v ?_; (case v => assumption))))
local macro_rules | `(tactic| walk_at "eval Name") => `(tactic| (k_dflt (refine' c_local ?F ?v ?_; (case F => assumption); (case v => assumption))))
local macro_rules | `(tactic| walk_at "eval ListComp") => `(tactic| refine stop ?_)
local macro_rules | `(tactic| walk_at "call ref") => `(tactic| refine stop ?_)
local macro_rules | `(tactic| walk_at "call builtin:len") => `(tactic| refine stop ?_)
local macro_rules | `(tactic| walk_at "call type:range") => `(tactic| refine stop ?_)
local macro_rules | `(tactic| walk_at "binaryOp Add ref ref") => `(tactic| refine stop ?_)
local macro_rules | `(tactic| walk_at "subscriptTail Name Name ref int") => `(tactic| refine stop ?_)
local macro_rules | `(tactic| walk_at "Exists") => `(tactic| refine stop ?_)
local macro_rules | `(tactic| walk_at "compareOp Eq ref ref") => `(tactic| refine stop ?_)
theorem news_cons {g h : Heap} {L a : Addr} {o : Obj} {ex : List (Addr × Obj)} (N : News g L h ex) (h1 : h.get? a = some o) (h2 : a ≠ L) (h3 : g.get? a = none) : News g L h ((a, o) :: ex) := fun p hp => by
  rcases List.mem_cons.mp hp with rfl | hp
  · exact ⟨h1, h2, h3⟩
  · exact N p hp
theorem ns_up {h h' : Heap} {L : Addr} {m : Str → Option Value} (n : h.Ns L m) (u : FrUp [L] h h') : h'.Ns L m := by
  obtain ⟨o, es, ep, ho, hd', hr⟩ := n
  have hnf : ∀ vs, o.data ≠ .fields vs := fun vs q => by rw [hd'] at q; cases q
  obtain ⟨sl, h1⟩ := u _ List.mem_cons_self o ho hnf
  exact ⟨_, es, ep, h1, hd', hr⟩
theorem LS_len (ns : List Int) (p : Nat) (hp : p < 4) : (LS ns p).length ≤ ns.length + 3 := by
  unfold LS
  rw [List.length_append]
  have h1 := dealt_len ns ns.length p
  have h2 : (tails p).length ≤ 3 := by
    have : p = 0 ∨ p = 1 ∨ p = 2 ∨ p = 3 := by omega
    rcases this with rfl | rfl | rfl | rfl <;> decide
  omega
theorem LS_left (ns : List Int) (h : ns.length ≤ 20) : left (LS ns) (fun _ => 0) + 4 ≤ 1000 := by
  have h0 := LS_len ns 0 (by decide)
  have h1 := LS_len ns 1 (by decide)
  have h2 := LS_len ns 2 (by decide)
  have h3 := LS_len ns 3 (by decide)
  unfold left
  simp only [Nat.sub_zero]
  omega
theorem law_holds : PySem.Challenge.rw_ki0062_01.Holds := by
  refine hd ?_
  w_strict (k_go0)
  w_strict (walk_at "mine")
  rename_i D5 ws5 x5 hI5 hC5 hL5 l5 h5 o5 F5 N5 d5
  (rename Shared => s1)
  (rename World => wW)
  (rename Top _ _ _ _ _ _ => T5)
  have G : Gd _ _ _ _ _ := ⟨by assumption, T5⟩
  have hlen20 := Nat.le_trans (Nat.le_of_eq hC5) (Nat.min_le_left 20 _)
  clear hC5 hL5
  generalize List.take 20 _ = ns at hI5 hlen20
  refine lists_call (nvs := ws5) rfl (by show 1 + claimMargin + 1 < recursionLimit; decide +kernel) (G.keeps F5.keep) ⟨_, (N5 _ (.head _)).1, rfl, _, rfl⟩ hI5 hlen20 fun h6 tk6 LLA ks s6 LL6 LLN ksN ls6 => ?_
  replace s6 : Stay [] h5 h6 := s6
  have F6 := fr_stay F5 s6 (by simp) (by simp)
  have F6k := F6.keep
  have D6 : h6.IsList D5 ws5.toArray := ⟨_, s6 _ _ (by simp) (N5 _ (.head _)).1, rfl, _, rfl⟩
  have C6 := s6 _ _ (by simp) (N5 _ (.tail _ (.head _))).1
  have cN := (N5 _ (.tail _ (.head _))).2
  have dN := (N5 _ (.head _)).2
  replace LLN : h5.get? LLA = none := LLN
  replace ksN : ∀ p, p < 4 → h5.get? (ks p) = none := ksN
  replace C6 : h6.get? (s1.heap.objs.size + 1) = some o5 := C6
  have nL5 : ∀ b, h5.get? b = none → b ≠ s1.heap.objs.size := fun b e q => by obtain ⟨o, _, _, ho, _⟩ := F5.ns; rw [← q, e] at ho; cases ho
  have LLL := nL5 _ LLN
  have ksL : ∀ p, p < 4 → ks p ≠ s1.heap.objs.size := fun p hp => nL5 _ (ksN p hp)
  obtain ⟨ex6, N6', hex6⟩ := all_ledger (g := s1.heap) (h := h6) (L := s1.heap.objs.size)
  have N6 := news_cons N6' C6 cN.1 cN.2
  clear N6' F5 N5
  w_strict (walk_at "mine")
  rename_i h7 F7 N7
  have s7 : Stay [s1.heap.objs.size] h6 h7 := stay_all F6k hex6 F7 fun p hp => (N7 p (.tail _ hp)).1
  have D7 : h7.IsList D5 ws5.toArray := isList_stay D6 s7 (by simpa using dN.1)
  have C7 : h7.get? (s1.heap.objs.size + 1) = some o5 := (N7 _ (.head _)).1
  have LL7 : h7.IsList LLA _ := isList_stay LL6 s7 (by simpa using LLL)
  have ls7 : ∀ p, p < 4 → ∃ vs : List Value, h7.IsList (ks p) vs.toArray ∧ IntsAre vs (LS ns p) := fun p hp => let ⟨vs, l, v⟩ := ls6 p hp; ⟨vs, isList_stay l s7 (by simpa using ksL p hp), v⟩
  have F7k := F7.keep
  have ns7 := F7.ns
  have hwl := hI5.length
  refine comp_own (cl := [(Str.ofString "numbers", s1.heap.objs.size + 1)]) rfl (by decide) rfl (by decide) rfl ?_
  w_strict (walk_at "mine")
  refine len_list D7 (by rw [List.size_toArray, hwl]; omega) ?_
  w_strict (walk_at "mine")
  refine range_iter (N := ws5.length) (by omega) fun h8 tk8 J3 st8 J3N it8 => ?_
  replace st8 : h7.StaysIn h8 := st8
  replace J3N : h7.get? J3 = none := J3N
  clear N7
  have big7 : ∀ {b : Addr} {o : Obj} {C : Addr}, h8.objs.size ≤ C → h7.get? b = some o → b ≠ C := fun hC e q => by
    have h1 := Heap.lt_size (st8 _ _ e)
    rw [q] at h1
    exact absurd h1 (Nat.not_lt.mpr hC)
  have nJ3 : ∀ {b : Addr} {o : Obj}, h7.get? b = some o → b ≠ J3 := fun e q => by rw [q, J3N] at e; cases e
  have W3 := fun (B : Around) (hB : B.handled = none) => Walks.range (prog := PySem.Challenge.rw_ki0062_01.row.prog) (w := wW) (A := B) hB J3 0 1 ws5.length
  have i0 : IsRangeIter h8 J3 (0 + ((0 : Nat) : Int) * 1) (((ws5.length : Nat) : Int) - ((0 : Nat) : Int)) 1 := by simpa using it8
  refine ⟨J3, _, _, _, _, _, fun C C3 i ys h => h8.objs.size ≤ C ∧ h8.objs.size ≤ C3 ∧ h7.StaysIn h ∧ ∃ cs : List Int, IntsAre ys cs ∧ cs.length = i,
    rfl, W3 _ rfl, by rw [sizeLine_eq]; omega, i0, ?_, ?_, ?_, ?_, ?_⟩
  · intro b hb
    rw [List.mem_singleton.mp hb]
    exact Heap.lt_size it8
  · exact fun C C3 hx hC hC3 _ hst => ⟨hC, hC3, staysIn_trans st8 hst, [], .nil, rfl⟩
  · rintro C C3 i ys hx hx' ⟨hC, hC3, hs, hJ⟩ hst
    exact ⟨hC, hC3, fun b o e => hst b o (by simp; exact ⟨big7 hC e, big7 hC3 e, nJ3 e⟩) (hs b o e), hJ⟩
  · rintro C C3 i v ys s₃ m₃ E' hC hC3 hCC hi ⟨tv, rfl⟩ hSt ⟨oD, hoD⟩ ⟨_, _, hs, cs, hcs, hcl⟩ hns hm ⟨h3, tk3, rfl⟩
    dsimp only at hs hns hSt hoD ⊢
    have ev : (0 + (i : Int) * 1) = (i : Int) := by omega
    rw [ev] at hm
    have c3 : h3.IsCell (s1.heap.objs.size + 1) (some (.ref D5)) := ⟨o5, hs _ _ C7, d5⟩
    have D3 : h3.IsList D5 ws5.toArray := D7.at fun o e => hs _ o e
    have F3 : Fr s1.heap C h3 m₃ := ⟨hns, fun b o e => hs b o (F7k b o e), by
      have h1 : s1.heap.objs.size < h8.objs.size := by obtain ⟨o, _, _, ho, _⟩ := ns7; exact Heap.lt_size (st8 _ _ ho)
      exact Nat.le_trans (Nat.le_of_lt h1) hC⟩
    clear F7
    obtain ⟨ex3, N3, hex3⟩ := all_ledger (g := s1.heap) (h := h3) (L := C)
    w_strict (walk_at "mine")
    have hin : i < ns.length := by rw [← hwl]; exact hi
    obtain ⟨tq, hq⟩ := intsAre_get hI5 (List.getElem?_eq_getElem hin)
    refine sub_list D3 (by omega) (by omega) (v := .int ns[i] tq) (by simpa using hq) ?_
    w_strict (walk_at "mine")
    exact ⟨h3, _, rfl, ⟨hC, hC3, hs, cs ++ [_], IntsAre.snoc' hcs _ _, by simp [hcl]⟩, ⟨_, hns⟩, fun _ _ _ e => e⟩
  · rintro C C3 ys h9 tk' c mC hC hC3 hCC ⟨_, _, hs, cs, hcs, hcl⟩ hyl hDo hnC h11 hsb
    have sC := sameBut_stay hsb
    have s11 : h7.StaysIn h11 := fun b o e => sC b o (by simpa using big7 hC e) (hs b o e)
    have R11 : h11.IsList C3 ys.toArray := ⟨_, sC _ _ (by simpa using hCC.symm) hDo, rfl, _, rfl⟩
    have ns11 := ns7.keeps s11
    have F11 : Fr s1.heap s1.heap.objs.size h11 _ := ⟨ns11, fun b o e => s11 b o (F7k b o e), Nat.le_refl _⟩
    have F11k := F11.keep
    clear F7
    obtain ⟨ex11, N11', hex11⟩ := all_ledger (g := s1.heap) (h := h11) (L := s1.heap.objs.size)
    have N11 := news_cons N11' (s11 _ _ C7) cN.1 cN.2
    clear N11'
    dsimp only
    w_strict (walk_at "mine")
    rename_i l12 h12 F12 N12 lt12
    have s12 : Stay [s1.heap.objs.size] h11 h12 := stay_all F11k hex11 F12 fun p hp => (N12 p (.tail _ (.tail _ hp))).1
    have hC3L : C3 ≠ s1.heap.objs.size := by obtain ⟨o, _, _, ho, _⟩ := ns7; exact (big7 hC3 ho).symm
    have R12 : h12.IsList C3 ys.toArray := isList_stay R11 s12 (by simpa using hC3L)
    have hT12 := N12 _ (.head _)
    have hycs := hcs.length
    have h4 : cs.length ≤ 20 := by rw [hcl, hwl]; exact hlen20
    refine add_arrays (its := ys.toArray) F12 N12 R12 ⟨_, hT12.1, rfl, _, rfl⟩ (fun h13 F13 N13 => ?_) (by simp only [List.size_toArray]; rw [hycs, sizeLine_eq]; simp; omega)
    have F13k := F13.keep
    have s13 : Stay [s1.heap.objs.size] h11 h13 := stay_all F11k hex11 F13 fun p hp => (N13 p (.tail _ (.tail _ (.tail _ hp)))).1
    have cA13 := N13 _ (.head _)
    clear F12 N12 hex11
    obtain ⟨ex13, N13', hex13⟩ := all_ledger (g := s1.heap) (h := h13) (L := s1.heap.objs.size)
    have N14 := news_cons N13' (N13 _ (.tail _ (.tail _ (.head _)))).1 cN.1 cN.2
    clear N13 N13'
    dsimp only
    w_strict (walk_at "mine")
    rename_i h14 F14 N15
    have s14 : Stay [s1.heap.objs.size] h13 h14 := stay_all F13k hex13 F14 fun p hp => (N15 p (.tail _ hp)).1
    have u14 : Stay [s1.heap.objs.size] h7 h14 := (fun b o hb e => s14 b o hb (s13 b o hb (s11 b o e)))
    have F14k := F14.keep
    have ns14 := F14.ns
    have C14 : h14.get? (s1.heap.objs.size + 1) = some o5 := (N15 _ (.head _)).1
    have LL14 : h14.IsList LLA _ := isList_stay LL7 u14 (by simpa using LLL)
    have ls14 : ∀ p, p < 4 → ∃ vs : List Value, h14.IsList (ks p) vs.toArray ∧ IntsAre vs (LS ns p) ∧ (LS ns p).length ≤ 1000 := fun p hp => let ⟨vs, l, v⟩ := ls7 p hp; ⟨vs, isList_stay l u14 (by simpa using ksL p hp), v, by have := LS_len ns p hp; omega⟩
    have D14 : h14.IsList D5 ws5.toArray := isList_stay D7 u14 (by simpa using dN.1)
    have cAL : h12.objs.size ≠ s1.heap.objs.size := cA13.2.1
    have cA14 : h14.IsList h12.objs.size _ := ⟨_, s14 _ _ (by simpa using cAL) cA13.1, rfl, _, rfl⟩
    have hLn : s1.heap.get? s1.heap.objs.size = none := Heap.get?_none_of_le (Nat.le_refl _)
    clear N15 F14
    refine calls_call (s := { s1 with heap := h14, toks := _ }) (ls := LS ns) (ks := ks) (cns := cs ++ [3, 12, 20]) (h₀ := s1.heap) (outer := [envOfC _ _ s1.heap.objs.size _ _]) rfl (by show 1 + claimMargin + 1 + 3 < recursionLimit; decide +kernel) (by show 4 + 3 + 100 < cLine; decide +kernel) (Around.frames_deeper rfl) G F14k
      (Heap.FunFrames.cons (show ScopeKind.function ≠ ScopeKind.module by decide) rfl ns14 hLn trivial) cA14 (intsAre_append hcs (by repeat constructor)) (by simp; omega) LL14 ls14 (LS_left ns hlen20) ⟨?_, ?_, ?_⟩ fun h15 tk15 up15 fu15 => ?_
    · exact fun q => cAL (List.mem_singleton.mp q)
    · exact fun q => LLL (List.mem_singleton.mp q)
    · exact fun p hp q => ksL p hp (List.mem_singleton.mp q)
    replace up15 : Stay [s1.heap.objs.size] h14 h15 := up15
    replace fu15 : FrUp [s1.heap.objs.size] h14 h15 := fu15
    have ns15 := ns_up ns14 fu15
    have F15 : Fr s1.heap s1.heap.objs.size h15 _ := ⟨ns15, fun b o e => up15 b o (fun q => by rw [List.mem_singleton.mp q, hLn] at e; cases e) (F14k b o e), Nat.le_refl _⟩
    have F15k := F15.keep
    obtain ⟨ex15, N15', hex15⟩ := all_ledger (g := s1.heap) (h := h15) (L := s1.heap.objs.size)
    have N15 := news_cons N15' (up15 _ _ (by simpa using cN.1) C14) cN.1 cN.2
    clear N15'
    have LL15 : Rows4 h15 LLA (LS ns) := ⟨ks, isList_stay LL14 up15 (by simpa using LLL), fun p hp => let ⟨vs, l, v, _⟩ := ls14 p hp; ⟨vs, isList_stay l up15 (by simpa using ksL p hp), v⟩⟩
    have D15 : h15.IsList D5 ws5.toArray := isList_stay D14 up15 (by simpa using dN.1)
    dsimp only
    w_strict (walk_at "mine")
    refine lists_call (nvs := ws5) rfl (by show 1 + claimMargin + 1 < recursionLimit; decide +kernel) (G.keeps F15k) D15 hI5 hlen20 fun h16 tk16 L2 k2 s16 LL16 _ _ ls16 => ?_
    replace s16 : Stay [] h15 h16 := s16
    have F16 := fr_stay F15 s16 (by simp) (by simp)
    clear F15 N15
    obtain ⟨ex16, N16, hex16⟩ := all_ledger (g := s1.heap) (h := h16) (L := s1.heap.objs.size)
    dsimp only
    w_strict (walk_at "mine")
    refine eq_rows4 (LL15.stays fun b o e => s16 b o (by simp) e) ⟨k2, LL16, ls16⟩ (by show 4 + 3 + 64 < cLine; decide +kernel) ?_
    w_strict (walk_at "mine")
    refine goodW_bool F16 (by assumption) (raisesW_false ?_) ?_
    · wrow_none_raised
    · wrow_post
end Mine
end

theorem PySem.Challenge.cw_ki0062_01_holds : PySem.Challenge.rw_ki0062_01.Holds := by
  exact Mine.law_holds
