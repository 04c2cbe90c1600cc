import PyProof.Rows.All
import Wide.All
import OpenK.AllK
import Wide.FinOn
import PySem.Challenge.RW_br0029_01
set_option Elab.async false

section
open PySem PySem.W PyProof.Rows
namespace Mine
set_option maxRecDepth 100000 in
set_option maxHeartbeats 8000000 in
open_top hd for PySem.Challenge.rw_br0029_01
end Mine
end

section
open PySem PySem.W PySem.Calls PyProof.Rows PySem.Spec
namespace Mine
set_option maxRecDepth 100000

/-- a letter, or the None that pads -/
abbrev Key := Option Str

def isKey : Key → Value → Bool
  | none, .none => true
  | some x, v => Value.isStrOf x v
  | _, _ => false

theorem isKey_shape {k : Key} {v : Value} (h : isKey k v = true) : (k = none ∧ v = .none) ∨ ∃ x t, k = some x ∧ v = .str x t := by
  cases k with
  | none => cases v <;> simp_all [isKey]
  | some x => obtain ⟨t, e⟩ := Value.isStrOf_shape (show Value.isStrOf x v = true by cases v <;> exact h); exact .inr ⟨x, t, rfl, e⟩

theorem isKey_str (x : Str) (t : Tok) : isKey (some x) (.str x t) = true := by simp [isKey, Value.isStrOf]
theorem isKey_none : isKey none .none = true := rfl

section
variable {prog : Program} {w : World} {A : Around} {E : Value → Shared → Prop} {s : Shared}

theorem pyHash_none {Q : Int → Shared → Prop} (h : Q 0xFCA86420 { s with toks := s.toks + 1 }) : wpAny (model prog w) A (pyHash .none) Q E s := by
  have hT : s.TypeIs .none "NoneType" := rfl
  show wpAny _ _ (pyHashByItsType .none) Q E s
  unfold pyHashByItsType
  have hv : [Value.none].any Value.onHeap = false := rfl
  refine wpAny_bind ?_
  rw [cRoomFor, if_neg (by rw [hv]; exact Bool.false_ne_true)]; refine wpAny_pure ?_
  refine wpAny_bind (wpAny_specialOf hT PySem.F.slot_NoneType_hash.lookup ?_)
  show wpAny _ _ (if (some (Value.builtin "NoneType.__hash__") == some Value.none) = true then _ else _) Q E s
  rw [if_neg (by rw [beq_builtin_none]; exact Bool.false_ne_true)]
  refine wpAny_bind (wpAny_specialOf hT PySem.F.slot_NoneType_hash.lookup ?_)
  show wpAny _ _ (callSpecialIfBoundUnlessNone? .none "__hash__" _ >>= _) Q E s
  refine wpAny_bind (wpAny_callSpecialIfBoundUnlessNone?_slot hT PySem.F.slot_NoneType_hash
    (wpAny_call_entry PySem.F.slot_NoneType_hash hT PySem.F.entry_NoneType_hash
      (show wpAny _ _ (do ret (← mkInt 0xFCA86420)) _ _ s from wpAny_ret_mkInt ?_) (PySem.F.args_NoneType_hash_1 _)))
  show wpAny _ _ (if (decide (-(2 : Int) ^ 63 ≤ (0xFCA86420 : Int)) && decide ((0xFCA86420 : Int) < 2 ^ 63)) = true then _ else _) Q E _
  rw [if_pos (by decide)]
  exact wpAny_pure h

theorem eqBool_ns {x : Str} {t : Tok} {Q : Bool → Shared → Prop} (h : Q false s) : wpAny (model prog w) A (eqBool .none (.str x t)) Q E s := by
  show wpAny _ _ (richCompare .Eq (Value.none) (Value.str x t) >>= truthOfDropped) Q E s
  exact wpAny_bind (EqNone.eq_none_str (prog := prog) (wpAny_truthy_bool h))
theorem eqBool_sn {x : Str} {t : Tok} {Q : Bool → Shared → Prop} (h : Q false s) : wpAny (model prog w) A (eqBool (.str x t) .none) Q E s := by
  show wpAny _ _ (richCompare .Eq (Value.str x t) (Value.none) >>= truthOfDropped) Q E s
  exact wpAny_bind (EqNone.eq_str_none (prog := prog) (wpAny_truthy_bool h))
theorem eqBool_nn {Q : Bool → Shared → Prop} (h : Q true s) : wpAny (model prog w) A (eqBool .none .none) Q E s := by
  show wpAny _ _ (rule "eq-bool.same-object" >>= fun _ => pure true) Q E s
  exact wpAny_bind (wpAny_rule (wpAny_pure h))
end

def keyKind (prog : Program) (w : World) : KeyKind prog w Key where
  is := isKey
  hash := fun k => match k with | none => 0xFCA86420 | some x => hashStr w x
  inj := fun v a b ha hb => by
    rcases isKey_shape ha with ⟨rfl, rfl⟩ | ⟨x, t, rfl, rfl⟩ <;> rcases isKey_shape hb with ⟨rfl, e⟩ | ⟨y, u, rfl, e⟩ <;> simp_all
  byValue := fun k v h => by rcases isKey_shape h with ⟨rfl, rfl⟩ | ⟨x, t, rfl, rfl⟩ <;> rfl
  pyHash := fun hv h => by
    rcases isKey_shape hv with ⟨rfl, rfl⟩ | ⟨x, t, rfl, rfl⟩
    · exact pyHash_none h
    · exact wpAny_pyHash_str h
  eqBool := fun hu hv h => by
    rcases isKey_shape hu with ⟨rfl, rfl⟩ | ⟨x, t, rfl, rfl⟩ <;> rcases isKey_shape hv with ⟨rfl, rfl⟩ | ⟨y, u, rfl, rfl⟩
    · exact eqBool_nn (by simpa using h)
    · exact eqBool_ns (by simpa using h)
    · exact eqBool_sn (by simpa using h)
    · exact wpAny_eqBool_str (by simpa using h)
  «strs» := fun k x t v h => by
    rcases isKey_shape h with ⟨rfl, e⟩ | ⟨y, u, rfl, e⟩
    · cases e
    · cases e
      cases v <;> simp [isKey, Value.isStrOf, Value.isStr]

/-- the values bear the keys -/
inductive KeysAre : List Value → List Key → Prop where
  | nil : KeysAre [] []
  | cons {v k vs ks} : isKey k v = true → KeysAre vs ks → KeysAre (v :: vs) (k :: ks)
theorem KeysAre.length {vs : List Value} {ks : List Key} (h : KeysAre vs ks) : vs.length = ks.length := by
  induction h with
  | nil => rfl
  | cons _ _ ih => simp [ih]
theorem KeysAre.at {vs : List Value} {ks : List Key} (h : KeysAre vs ks) : ∀ (i : Nat) (v : Value), vs[i]? = some v → ∃ k, ks[i]? = some k ∧ isKey k v = true := by
  induction h with
  | nil => intro i v e; simp at e
  | cons hk _ ih =>
    intro i v e
    cases i with
    | zero => simp at e; subst e; exact ⟨_, rfl, hk⟩
    | succ i => simpa using ih i v (by simpa using e)
end Mine
end

section
open PySem PySem.W PySem.Calls PyProof.Rows PySem.Spec
namespace Mine
set_option maxRecDepth 100000

def dd (σ : List Key) (k : Key) : List Key := if σ.any (· == k) then σ else σ ++ [k]
def met (ks : List Key) (i : Nat) : List Key := (ks.take i).foldl dd []
theorem met_zero (ks : List Key) : met ks 0 = [] := rfl
theorem met_succ {ks : List Key} {i : Nat} {k : Key} (h : ks[i]? = some k) : met ks (i + 1) = dd (met ks i) k := by
  unfold met
  rw [List.take_add_one, h, List.foldl_append]; rfl
theorem dd_any (σ : List Key) (v k : Key) : (dd σ v).any (· == k) = (σ.any (· == k) || decide (k = v)) := by
  unfold dd
  by_cases h : σ.any (· == v) = true
  · rw [if_pos h]
    by_cases e : k = v
    · subst e; rw [h]; simp
    · simp [e]
  · rw [if_neg h, List.any_append]
    by_cases e : k = v
    · subst e; simp
    · have hb : (v == k) = false := by simpa [beq_iff_eq] using (fun h' : v = k => e h'.symm)
      simp [hb, e]
theorem dd_length (σ : List Key) (v : Key) : (dd σ v).length = if σ.any (· == v) then σ.length else σ.length + 1 := by
  unfold dd; split <;> simp
theorem met_length_le (ks : List Key) : ∀ i, (met ks i).length ≤ i
  | 0 => Nat.le_refl _
  | i + 1 => by
    have ih := met_length_le ks i
    cases h : ks[i]? with
    | none =>
      have e : met ks (i + 1) = met ks i := by unfold met; rw [List.take_add_one, h]; simp
      rw [e]; omega
    | some k => rw [met_succ h, dd_length]; split <;> omega

theorem setOf_congr {prog : Program} {w : World} {h : Heap} {a : Addr} {S S' : Key → Bool} {n n' : Nat}
    (hS : h.SetOf (keyKind prog w) a S n) (e : ∀ k, S k = S' k) (en : n = n') : h.SetOf (keyKind prog w) a S' n' := by
  have : S = S' := funext e
  subst this; subst en; exact hS

theorem isKey_scannable {k : Key} {v : Value} (h : isKey k v = true) : v.scannable = true := by
  rcases isKey_shape h with ⟨rfl, rfl⟩ | ⟨x, t, rfl, rfl⟩ <;> rfl

section
variable {prog : Program} {w : World} {A : Around} {R : Result → Shared → Prop} {I : Addr} {fp wr : List Addr} {G : Array GenState → Array GenState → Prop} {n : Nat} {P : Nat → Value → Prop} {St : Nat → Shared → Prop}

theorem set_update_loop (W : WalksS prog w A.in1 I fp wr G n P St) (S : Addr) (hSf : S ∉ fp)
    (ks : List Key) (hn : ks.length = n) (hval : ∀ i v, P i v → ∃ k, ks[i]? = some k ∧ isKey k v = true) (hb : n + 1 < scanBound) :
    ∀ (k i : Nat) (s : Shared), n - i = k → i ≤ n → St i s →
      s.heap.SetOf (keyKind prog w) S (fun k' => (met ks i).any (· == k')) (met ks i).length →
      (∀ s', Moved (S :: wr) G s s' → s'.heap.SetOf (keyKind prog w) S (fun k' => (met ks n).any (· == k')) (met ks n).length → R (.ok (.ret .none)) s') →
      codeAny (model prog w) A (.builtin "set.update.loop" ⟨[.ref S, .ref I], []⟩) R s := by
  have hSw : S ∉ wr := fun h => hSf (W.sub _ h)
  have hsub : ∀ b ∈ wr, b ∈ S :: wr := fun b hb => List.mem_cons_of_mem _ hb
  intro k
  induction k with
  | zero =>
    intro i s hk hi hst hS hR
    have hin : i = n := by omega
    subst hin
    refine codeAny_builtin PyProof.Rows.F.entry_set_update_loop ?_
    rw [Around.under_plainId PyProof.Rows.F.plain_set_update_loop _]
    show wpAny _ A.in1 (pyNext (.ref I) >>= _) _ _ s
    refine wpAny_bind (W.done s _ _ hst fun s' hm => ?_)
    show wpAny _ A.in1 (ret Value.none) _ _ s'
    exact wpAny_pure (hR s' (hm.mono hsub) (by
      obtain ⟨o, es, ep, t, ho, rest⟩ := hS
      exact ⟨o, es, ep, t, hm.heap S _ hSw ho, rest⟩))
  | succ k ih =>
    intro i s hk hi hst hS hR
    have hlt : i < n := by omega
    refine codeAny_builtin PyProof.Rows.F.entry_set_update_loop ?_
    rw [Around.under_plainId PyProof.Rows.F.plain_set_update_loop _]
    show wpAny _ A.in1 (pyNext (.ref I) >>= _) _ _ s
    refine wpAny_bind (W.item i s _ _ hlt hst fun v s' hP hst' hm => ?_)
    obtain ⟨key, hkey, hik⟩ := hval i v hP
    have hS' : s'.heap.SetOf (keyKind prog w) S (fun k' => (met ks i).any (· == k')) (met ks i).length := by
      obtain ⟨o, es, ep, tb, ho, rest⟩ := hS
      exact ⟨o, es, ep, tb, hm.heap S _ hSw ho, rest⟩
    show wpAny _ A.in1 (holding [v] (setAdd S v) >>= _) _ _ s'
    refine wpAny_bind (wpAny_holding ?_)
    unfold setAdd
    refine wpAny_holding ?_
    refine wpAny_bind ((keyKind prog w).pyHash (k := key) hik ?_)
    have hroom : (met ks i).length + 1 < scanBound := by have := met_length_le ks i; omega
    refine wpAny_setAddHashed_of (knd := keyKind prog w) (s := { s' with toks := s'.toks + 1 }) hik (isKey_scannable hik) hS' hroom fun h' hsb hS2 => ?_
    have hSi : h'.SetOf (keyKind prog w) S (fun k' => (met ks (i + 1)).any (· == k')) (met ks (i + 1)).length :=
      setOf_congr hS2 (fun k' => by rw [met_succ hkey, dd_any]) (by rw [met_succ hkey, dd_length])
    refine wpAny_pure ⟨plainId_quiet PyProof.Rows.F.plain_set_update_loop _, ih (i + 1) _ (by omega) hlt (W.frame _ s' _ _ hst' (Nat.le_succ _) fun b hb o e => ?_) hSi fun s'' hm'' hS'' => ?_⟩
    · rw [hsb.2 b (fun h : b = S => hSf (by rw [← h]; exact hb))]; exact e
    · refine hR s'' (Moved.trans W.gtrans ((hm.mono hsub).then_heap (Nat.le_succ _) fun b o hb e => ?_) hm'') hS''
      rw [hsb.2 b (fun h : b = S => hb (by rw [h]; exact List.mem_cons_self))]; exact e
end

section
variable {prog : Program} {w : World} {A : Around} {E : Value → Shared → Prop} {s : Shared}

set_option maxHeartbeats 3200000 in
/-- set(tuple) of letters and Nones -/
theorem call_set_tuple {l : Addr} {items : Array Value} {ks : List Key} {Q : Value → Shared → Prop}
    (hh : A.handled = none) (hl : s.heap.IsTuple l items) (hi : KeysAre items.toList ks) (hb : items.size + 1 < scanBound)
    (h : ∀ (h' : Heap) (tk : Nat), h'.SetOf (keyKind prog w) s.heap.objs.size (fun k' => (met ks items.size).any (· == k')) (met ks items.size).length →
      (∀ b o, b < s.heap.objs.size → s.heap.get? b = some o → h'.get? b = some o) → Q (.ref s.heap.objs.size) { s with heap := h', toks := tk }) :
    wpAny (model prog w) A (call (.type "set") [.ref l]) Q E s := by
  obtain ⟨c, tl, hmro⟩ := PySem.F.called_set.mro
  have hmade := PySem.F.called_set.made
  have hsub := PySem.F.called_set.sub
  refine wpAny_call (codeAny_of_tree ?_)
  show wpAny _ _ (callAny (.type "set") _) _ _ _
  refine wpAny_pure ⟨Code.quiet_builtin _ (by decide +kernel), codeAny_builtin PySem.F.entry_type_call ?_⟩
  rw [Around.under_plain (weight_type_call_type "set" [.ref l] []) rfl]
  have h1 := PySem.F.called_set.notType
  have h2 := PySem.F.called_set.canCreate
  have hct := PySem.F.typeCall_set_1 (.ref l)
  repeat (any_goals (first | assumption | wp_step))
  refine codeAny_mono (code_set_new_1 (.ref l) (E := E) (Q₁ := fun obj s₁ => ∃ led : Bool, obj = .ref s.heap.objs.size ∧ s₁ = { s with heap := s.heap.push { cls := .type "set", dict := none, data := .set #[] 0 (.fresh 0 0 led) } }) fun led => ⟨led, rfl, rfl⟩) fun r s₁ hr => ?_
  cases r with
  | error e => exact hr
  | ok fl =>
    cases fl with
    | ret obj =>
      obtain ⟨led, rfl, rfl⟩ := hr
      have hS : (s.heap.push { cls := .type "set", dict := none, data := .set #[] 0 (.fresh 0 0 led) }).get? s.heap.objs.size = some { cls := .type "set", dict := none, data := .set #[] 0 (.fresh 0 0 led) } := Heap.get?_push_size _ rfl
      have hT : Shared.TypeIs { s with heap := s.heap.push { cls := .type "set", dict := none, data := .set #[] 0 (.fresh 0 0 led) } } (.ref s.heap.objs.size) "set" := ⟨_, hS, rfl⟩
      have hli := PySem.F.called_set.init.lookup
      have hbi := PySem.F.called_set.init.bind (.ref s.heap.objs.size)
      repeat (any_goals (first | assumption | wp_step))
      refine codeAny_mono (codeAny_call_builtin (R := wants (fun r s₂ => r = .none ∧ ∃ h' tk, s₂ = { s with heap := h', toks := tk } ∧
          h'.SetOf (keyKind prog w) s.heap.objs.size (fun k' => (met ks items.size).any (· == k')) (met ks items.size).length ∧
          (∀ b o, b < s.heap.objs.size → s.heap.get? b = some o → h'.get? b = some o)) E) PySem.F.called_set.init.plain PySem.F.entry_set_init (check_set_init_1 hT ?_)) fun r₂ s₂ hr₂ => ?_
      · obtain ⟨ol, hol, hcl, nl, hdl⟩ := hl
        obtain ⟨ocls, odict, odata, oslots⟩ := ol
        simp only at hcl hdl
        subst hcl; subst hdl
        have hol' : (s.heap.push { cls := .type "set", dict := none, data := .set #[] 0 (.fresh 0 0 led) }).get? l = some { cls := .type "tuple", dict := odict, data := .seq items nl, slots := oslots } := Heap.get?_push_of_some _ hol
        have hsls := PySem.F.sub_tuple_set
        have hslf := PySem.F.sub_tuple_frozenset
        have hne : (Value.type "tuple" == Value.type "dict") = false := by decide
        have hl1 : (s.heap.push { cls := .type "set", dict := none, data := .set #[] 0 (.fresh 0 0 led) }).IsTuple l items := ⟨_, hol', rfl, nl, rfl⟩
        unfold Builtin.«set.__init__» noKeywords Builtin.Frozenset.updateFrom
        generalize hPI : pyIter = PI
        wp_walk
        subst hPI
        refine wpAny_pyIter_tuple hl1 ?_
        refine wpAny_bind (wpAny_runValue ?_)
        have hlS : l < s.heap.objs.size := Heap.lt_size hol
        have hh3 : A.in1.in1.in1.handled = none := by simp [hh]
        have hneI : l ≠ (s.heap.push { cls := .type "set", dict := none, data := .set #[] 0 (.fresh 0 0 led) }).objs.size := by
          rw [Heap.size_push]; exact Nat.ne_of_lt (Nat.lt_succ_of_lt hlS)
        have hSf : s.heap.objs.size ∉ [(s.heap.push { cls := .type "set", dict := none, data := .set #[] 0 (.fresh 0 0 led) }).objs.size, l] := by
          rw [Heap.size_push]; simp only [List.mem_cons, List.mem_singleton, List.not_mem_nil, or_false, not_or]
          exact ⟨Nat.ne_of_lt (Nat.lt_succ_self _), Nat.ne_of_gt hlS⟩
        have hval : ∀ (i : Nat) (v : Value), items[i]? = some v → ∃ k, ks[i]? = some k ∧ isKey k v = true := fun i v hv =>
          hi.at i v (by rw [Array.getElem?_toList]; exact hv)
        have hlen : ks.length = items.size := by rw [← hi.length]; simp
        refine set_update_loop ((Walks.tuple hh3 _ l hneI items).toS) s.heap.objs.size
          hSf ks hlen hval hb (items.size - 0) 0 _ (by omega) (Nat.zero_le _)
          ⟨⟨_, Heap.get?_push_size _ rfl, rfl, rfl⟩, (hl1.push _)⟩ ?hS0 ?hR
        case hS0 =>
          have hget : ((s.heap.push { cls := .type "set", dict := none, data := .set #[] 0 (.fresh 0 0 led) }).push { cls := .type "tuple_iterator", data := .fields #[.ref l, .int 0 0] }).get? s.heap.objs.size
              = some { cls := .type "set", dict := none, data := .set #[] 0 (.fresh 0 0 led) } := Heap.get?_push_of_some _ hS
          exact setOf_congr ((PyProof.Rows.setObjOf_fresh (knd := keyKind prog w) led).setOf hget (by unfold scanBound; omega)) (fun _ => rfl) rfl
        case hR =>
          intro s' hm hS'
          obtain ⟨h', g', d', tk', os'⟩ := s'
          have eg : g' = s.gens := hm.gens
          have ed : d' = s.drawn := hm.drawn
          have eo : os' = s.os := hm.os
          subst eg; subst ed; subst eo
          show wpAny _ _ _ _ _ _
          refine wpAny_pure ?_
          show wpAny _ _ (ret Value.none) _ _ _
          refine wpAny_pure ⟨rfl, h', tk', rfl, hS', fun b o hb e => ?_⟩
          have hb1 : b ≠ s.heap.objs.size := Nat.ne_of_lt hb
          have hb2 : b ≠ (s.heap.push { cls := .type "set", dict := none, data := .set #[] 0 (.fresh 0 0 led) }).objs.size := by
            rw [Heap.size_push]; exact Nat.ne_of_lt (Nat.lt_succ_of_lt hb)
          exact hm.heap b o (by simp only [List.mem_cons, List.mem_singleton, List.not_mem_nil, or_false, not_or]; exact ⟨hb1, hb2⟩) (Heap.get?_push_of_some _ (Heap.get?_push_of_some _ e))
      · cases r₂ with
        | error e => exact hr₂
        | ok fl₂ =>
          cases fl₂ with
          | ret r =>
            obtain ⟨rfl, h', tk, rfl, hS', hk'⟩ := hr₂
            repeat (any_goals (first | assumption | wp_step))
            exact h _ _ hS' hk'
          | _ => exact hr₂.elim
    | _ => exact hr.elim
end
end Mine
end

section
open PySem PySem.W PySem.Calls PyProof.Rows PySem.Spec
namespace Mine
set_option maxRecDepth 100000

theorem bind_rest0 {fd : FuncData} {a : Arg} {vs : List Value} (hp : fd.params = { posonlyargs := [], args := [], vararg := some a, kwonlyargs := [], kw_defaults := [], kwarg := none, defaults := [] }) (hd : fd.defaults = .none) :
    bindArgs fd ⟨vs, []⟩ = (newTuple vs >>= fun t => pure [(a.arg, t)]) := by
  unfold bindArgs
  rw [hp, hd]
  simp [seqItems?]
  rfl
theorem bind_rest1 {fd : FuncData} {a b : Arg} {x : Value} {vs : List Value} (hp : fd.params = { posonlyargs := [], args := [b], vararg := some a, kwonlyargs := [], kw_defaults := [], kwarg := none, defaults := [] }) (hd : fd.defaults = .none) :
    bindArgs fd ⟨x :: vs, []⟩ = (newTuple vs >>= fun t => pure [(b.arg, x), (a.arg, t)]) := by
  unfold bindArgs
  rw [hp, hd]
  simp [seqItems?]
  rfl

/-- what a callee keeps, told to the caller -/
def Back (h₀ : Heap) (L : Addr) (m : Str → Option Value) (g : Heap) : Prop :=
  ∀ (h : Heap) (L' : Addr) (m' : Str → Option Value) (news' : List (Addr × Obj)), Fr g L' h m' → News g L' h news' → Fr h₀ L h m ∧ News h₀ L h news'

theorem ground0 {h₀ h : Heap} {L : Addr} {m : Str → Option Value} {news : List (Addr × Obj)} (F : Fr h₀ L h m) (N : News h₀ L h news) :
    h₀.StaysIn (hideAll h (news.map (·.1))) ∧ Back h₀ L m (hideAll h (news.map (·.1))) := by
  have nm : ∀ b o, h₀.get? b = some o → b ∉ news.map (·.1) := fun b o e q => by
    obtain ⟨p, hp, rfl⟩ := List.mem_map.mp q
    rw [(N p hp).2.2] at e; cases e
  have st : h₀.StaysIn (hideAll h (news.map (·.1))) := fun b o e => hideAll_get _ (F.keep b o e) (nm b o e)
  obtain ⟨oL, es, ep, hL, hLd, hLk, hLf⟩ := F.ns
  have nL : L ∉ news.map (·.1) := fun q => by
    obtain ⟨p, hp, e⟩ := List.mem_map.mp q
    exact (N p hp).2.1 e
  have hLg := hideAll_get (news.map (·.1)) hL nL
  refine ⟨st, fun h' L' m' news' F' N' => ⟨⟨⟨oL, es, ep, F'.keep L oL hLg, hLd, hLk, hLf⟩, fun b o e => F'.keep b o (st b o e), F.above⟩, fun p hp => ⟨(N' p hp).1, fun q => ?_, ?_⟩⟩⟩
  · have := (N' p hp).2.2; rw [q, hLg] at this; cases this
  · cases q : h₀.get? p.1 with
    | none => rfl
    | some o => have := (N' p hp).2.2; rw [st _ _ q] at this; cases this

abbrev tupO (vs : List Value) : Obj := { cls := .type "tuple", data := .seq vs.toArray }
abbrev lstO (vs : List Value) : Obj := { cls := .type "list", data := .seq vs.toArray }

section
variable {prog : Program} {w : World} {A : Around} {s : Shared} {K : Frag} {L : Addr} {h₀ : Heap} {m : Str → Option Value} {news : List (Addr × Obj)}
  {R : Result → Shared → Prop} {name qual : Str} {params : Arguments} {body : List Stmt} {scope : Scope} {dV kV doc pm cdv ct oc : Value} {an od : Option Addr} {osl : Array (Option Value)} {f : Addr} {args : Args}

theorem enter_rest {vs : List Value} {binds : Value → List (Str × Value)} (F : Fr h₀ L s.heap m) (X₀ : K.In h₀) (N : News h₀ L s.heap news) (hlim : h₀.NoLimit)
    (ho : K.lookup f = some ⟨oc, od, .func (fnOf name qual params body scope dV kV doc pm an cdv ct), osl⟩) (hcd : codeIn K cdv qual = true) (hroom : A.depth < recursionLimit)
    (hb : bindArgs (fnOf name qual params body scope dV kV doc pm an cdv ct) args = (newTuple vs >>= fun t => pure (binds t))) (hsz : vs.length ≤ sizeLine)
    (hloc : ∀ D, ∀ y ∈ binds (.ref D), scope.names.lookup y.1 = some .local)
    (h : ∀ D g L' h₁ tk, (∀ p ∈ news, p.1 < D) → h₀.StaysIn g → Fr g L' h₁ (fun y => (binds (.ref D)).reverse.lookup y) → News g L' h₁ ((D, tupO vs) :: news) → Back h₀ L m g → (∀ h L'' m'', Fr g L'' h m'' → News g L'' h ((D, tupO vs) :: news) → s.heap.StaysIn h) →
      wpAny (model prog w) (A.deeper (envOf qual scope L' f cdv)) (execs body (envOf qual scope L' f cdv))
        (fun fl s' => R (.ok (.ret (match fl with | .ret v => v | _ => .none))) s') (fun _ _ => False) { s with heap := h₁, toks := tk })
    (hco : scope.isCoroutine = false) (hgen : scope.isGenerator = false) (hk : scope.kind = .function)
    (hcell : ∀ x ∈ scope.names, x.2 ≠ .cell) : codeAny (model prog w) A (.call (.ref f) args) R s := by
  refine codeAny_call_function (fd := fnOf name qual params body scope dV kV doc pm an cdv ct) (body := body) hroom ((X₀.keeps F.keep) _ _ ho) rfl hco hgen rfl (codeRec_of (X₀.keeps F.keep) hcd) ?_
  rw [hb]
  refine wpAny_bind (newTuple_NK F N (fun h' F' N' hge => wpAny_pure ?_) hsz)
  have hD : ∀ p ∈ news, p.1 < s.heap.objs.size := fun p hp => Heap.lt_size (N p hp).1
  generalize hDe : s.heap.objs.size = D at N' hD ⊢
  obtain ⟨st, bk⟩ := ground0 F' N'
  have hl' : h'.NoLimit := hlim.keeps F'.keep
  refine wpAny_newFunctionEnv hcell (hloc D) (fun h₁ hns hsb => ⟨hl'.fresh _ hsb, codeAny_func ?_⟩) hk
  have hk₁ : ∀ b o, h'.get? b = some o → h₁.get? b = some o := fun b o e => hsb.extBut b o (Nat.ne_of_lt (Heap.lt_size e)) (Heap.get?_push_of_some _ e)
  refine wpAny_mono (h D _ h'.objs.size h₁ _ hD st ⟨hns, fun b o e => hk₁ b o (of_hideAll _ e), Nat.le_of_eq (hideAll_size _ _)⟩
    (fun p hp => ⟨hk₁ _ _ (N' p hp).1, Nat.ne_of_lt (Heap.lt_size (N' p hp).1), hideAll_none _ (List.mem_map_of_mem hp)⟩) bk fun h L'' m'' F₂ N₂ b o e => ?_) (fun fl s' hl => hl) fun _ _ y => y.elim
  by_cases hb : b ∈ ((D, tupO vs) :: news).map (·.1)
  · obtain ⟨p, hp, rfl⟩ := List.mem_map.mp hb
    have h1 := (N' p hp).1
    rw [hge _ o e] at h1
    cases h1
    exact (N₂ p hp).1
  · exact F₂.keep b o (hideAll_get _ (hge b o e) hb)

theorem enter_plain {binds : List (Str × Value)} (F : Fr h₀ L s.heap m) (X₀ : K.In h₀) (N : News h₀ L s.heap news) (hlim : h₀.NoLimit)
    (ho : K.lookup f = some ⟨oc, od, .func (fnOf name qual params body scope dV kV doc pm an cdv ct), osl⟩) (hcd : codeIn K cdv qual = true) (hroom : A.depth < recursionLimit)
    (hb : BindsTo s (fnOf name qual params body scope dV kV doc pm an cdv ct) args binds)
    (hloc : ∀ y ∈ binds, scope.names.lookup y.1 = some .local)
    (h : ∀ g L' h₁ tk, h₀.StaysIn g → Fr g L' h₁ (fun y => binds.reverse.lookup y) → News g L' h₁ news → Back h₀ L m g →
      wpAny (model prog w) (A.deeper (envOf qual scope L' f cdv)) (execs body (envOf qual scope L' f cdv))
        (fun fl s' => R (.ok (.ret (match fl with | .ret v => v | _ => .none))) s') (fun _ _ => False) { s with heap := h₁, toks := tk })
    (hco : scope.isCoroutine = false) (hgen : scope.isGenerator = false) (hk : scope.kind = .function)
    (hcell : ∀ x ∈ scope.names, x.2 ≠ .cell) : codeAny (model prog w) A (.call (.ref f) args) R s := by
  refine codeAny_call_function (fd := fnOf name qual params body scope dV kV doc pm an cdv ct) (body := body) hroom ((X₀.keeps F.keep) _ _ ho) rfl hco hgen rfl (codeRec_of (X₀.keeps F.keep) hcd) (hb _ _ _ _ ?_)
  obtain ⟨st, bk⟩ := ground0 F N
  have hl' : s.heap.NoLimit := hlim.keeps F.keep
  refine wpAny_newFunctionEnv hcell hloc (fun h₁ hns hsb => ⟨hl'.fresh _ hsb, codeAny_func ?_⟩) hk
  have hk₁ : ∀ b o, s.heap.get? b = some o → h₁.get? b = some o := fun b o e => hsb.extBut b o (Nat.ne_of_lt (Heap.lt_size e)) (Heap.get?_push_of_some _ e)
  refine wpAny_mono (h _ s.heap.objs.size h₁ _ st ⟨hns, fun b o e => hk₁ b o (of_hideAll _ e), Nat.le_of_eq (hideAll_size _ _)⟩
    (fun p hp => ⟨hk₁ _ _ (N p hp).1, Nat.ne_of_lt (Heap.lt_size (N p hp).1), hideAll_none _ (List.mem_map_of_mem hp)⟩) bk) (fun fl s' hl => hl) fun _ _ y => y.elim
end

/-- what every walk stands on -/
structure Amb (w : World) (mg mb : Str → Option Value) (p : Program) (loose : List Str) (h₀ : Heap) : Prop where
  k : (hd.heap_39 w.params).In h₀
  t : TopRead p loose mg mb h₀
theorem Amb.keeps {w : World} {mg mb : Str → Option Value} {p : Program} {loose : List Str} {h h' : Heap} (x : Amb w mg mb p loose h) (k : h.StaysIn h') : Amb w mg mb p loose h' := ⟨x.k.keeps k, x.t.keeps k⟩

theorem wpAny_noRaise {M : Model} {A : Around} {α : Type} {t : Sem α} {Q : α → Shared → Prop} {E : Value → Shared → Prop} {s : Shared} (h : wpAny M A t Q (fun _ _ => False) s) : wpAny M A t Q E s :=
  wpAny_mono h (fun _ _ q => q) fun _ _ q => q.elim
end Mine
namespace Mine
def SetLen (o : Obj) (n : Nat) : Prop := ∃ es ep t, o.ExactSet ∧ o.data = .set es ep t ∧ t.fits es.size = true ∧ es.size = n
section
variable {prog : Program} {w : World} {A : Around} {E : Value → Shared → Prop} {s : Shared} {L : Addr} {h₀ : Heap} {m : Str → Option Value} {news : List (Addr × Obj)}

/-- heap growth, in the frame's words -/
theorem fr_grow {h h' : Heap} (F : Fr h₀ L h m) (hk : ∀ b o, b < h.objs.size → h.get? b = some o → h'.get? b = some o) : Fr h₀ L h' m := by
  obtain ⟨oL, a, b, hL, r⟩ := F.ns
  exact ⟨⟨oL, a, b, hk _ _ (Heap.lt_size hL) hL, r⟩, fun b o e => hk b o (Heap.lt_size (F.keep b o e)) (F.keep b o e), F.above⟩
theorem news_grow {h h' : Heap} (N : News h₀ L h news) (hk : ∀ b o, b < h.objs.size → h.get? b = some o → h'.get? b = some o) : News h₀ L h' news :=
  fun p hp => ⟨hk _ _ (Heap.lt_size (N p hp).1) (N p hp).1, (N p hp).2⟩
theorem news_new {h h' : Heap} {a : Addr} {o : Obj} (F : Fr h₀ L h m) (N : News h₀ L h' news) (ha : h.objs.size ≤ a) (ho : h'.get? a = some o) : News h₀ L h' ((a, o) :: news) := fun p hp => by
  rcases List.mem_cons.mp hp with rfl | hp
  · refine ⟨ho, ?_, ?_⟩
    · obtain ⟨oL, _, _, hL, _⟩ := F.ns
      exact fun e => Nat.lt_irrefl _ (Nat.lt_of_lt_of_le (Heap.lt_size hL) (show h.objs.size ≤ L by rw [← e]; exact ha))
    · cases hq : h₀.get? a with
      | none => rfl
      | some o' => exact absurd (Heap.lt_size (F.keep _ _ hq)) (Nat.not_lt.mpr ha)
  · exact N p hp

theorem set_N {vs : List Value} {ks : List Key} {D : Addr} {Q : Value → Shared → Prop} (F : Fr h₀ L s.heap m) (N : News h₀ L s.heap news) (hh : A.handled = none) (hm : (D, tupO vs) ∈ news)
    (hi : KeysAre vs ks) (hb : vs.length + 1 < scanBound)
    (h : ∀ h' tk S o, Fr h₀ L h' m → News h₀ L h' ((S, o) :: news) → SetLen o (met ks ks.length).length → Q (.ref S) { s with heap := h', toks := tk }) :
    wpAny (model prog w) A (call (.type "set") [.ref D]) Q E s := by
  have hsz : vs.toArray.size = ks.length := by rw [List.size_toArray, hi.length]
  refine call_set_tuple (items := vs.toArray) (ks := ks) hh ⟨_, (N _ hm).1, rfl, 0, rfl⟩ (by simpa using hi) (by rw [List.size_toArray]; exact hb) fun h' tk hS hk => ?_
  rw [hsz] at hS
  obtain ⟨o, es, ep, t, ho, hex, hd, hel, _, _, hf, hn⟩ := hS
  exact h h' tk _ o (fr_grow F hk) (news_new F (news_grow N hk) (Nat.le_refl _) ho) ⟨es, ep, t, hex, hd, hf, hn⟩

theorem len_set_N {S : Addr} {o : Obj} {n : Nat} {Q : Value → Shared → Prop} (N : News h₀ L s.heap news) (hm : (S, o) ∈ news) (hS : SetLen o n) (hn : n < 2 ^ 62)
    (h : Q (.int n (s.toks + 1)) { s with toks := s.toks + 1 + 1 }) : wpAny (model prog w) A (call (.builtin "len") [.ref S]) Q E s := by
  obtain ⟨es, ep, t, hex, hd, hf, rfl⟩ := hS
  exact call_len_set (N _ hm).1 hex hd hf (by omega) h
end
end Mine
namespace Mine
section
variable {M : Model} {A : Around} {E : Value → Shared → Prop} {s : Shared} {env : Env}
theorem starMethod_ {o : Expr} {name : Str} {apos pos sp : Pos} {arg : Expr} {Q : Value → Shared → Prop}
    (h : wpAny M A (eval o env) (fun ov s₁ => wpAny M A (getAttr ov name true) (fun f s₂ => wpAny M A (callWith pos f [] (backTo pos (starEach [.Starred arg sp] env)) []) Q E s₂) E s₁) E s)
    (he : eval (.Call (.Attribute o name apos) [.Starred arg sp] [] pos) env = (do
      let ov ← eval o env
      standAt apos.atName
      let (f, first) ← holding [ov] (do pure (← getAttr ov name true, []))
      callWith pos f first (backTo pos (starEach [.Starred arg sp] env)) []) := by rfl) :
    wpAny M A (eval (.Call (.Attribute o name apos) [.Starred arg sp] [] pos) env) Q E s := by
  rw [he]
  exact wpAny_bind (wpAny_mono h (fun ov s₁ h₁ => wpAny_bind (wpAny_standAt (wpAny_bind (wpAny_holding (wpAny_bind (wpAny_mono h₁ (fun f s₂ h₂ => wpAny_pure h₂) fun _ _ x => x)))))) fun _ _ x => x)
end
end Mine
namespace Mine
section
variable {prog : Program} {w : World} {A : Around} {E : Value → Shared → Prop} {s : Shared} {K : Frag} {x C f L p : Addr} {ox : Obj} {name : Str} {expr : Bool} {h₀ : Heap} {m : Str → Option Value} {es : List DictEntry} {n : Nat} {Q : Value → Shared → Prop} {fv : Value} {rest : List Value}
theorem get_sm (F : Fr h₀ L s.heap m) (X₀ : K.In h₀) (I : InstAt s.heap x ox C (some (dictOf es n))) (hg : plainGet K C name = true) (hh : hasDictIn K C = true) (ha : findIn K (.ref C) name = some (some (.ref p)))
    (hgf : specialIn K (.ref p) "__get__" = some (some (.builtin "staticmethod.__get__"))) (hts : takesIn K (.ref p) = some false) (hc : copiedNames.contains name = false) (hl : getL name es = some none) (hp : recIn K p "staticmethod" = some (fv :: rest)) (hv : handedIn fv = true)
    (h : Q fv { s with toks := s.toks + 1 }) : wpAny (model prog w) A (getAttr (.ref x) name expr) Q E s :=
  get_bind (X₀.keeps F.keep) I (plainGet_of hg).1 (findObj_fn hh ha hgf hts hc (by show lookIn name (dictOf es n) = _; rw [lookIn_dict, hl])) (plainGet_of hg).2
      (wpAny_call (sm_get (s := { s with toks := s.toks + 1 }) (X₀.keeps F.keep) hp (handed_on hv h)))
end
end Mine
namespace Mine
section
variable {prog : Program} {w : World} {A : Around} {E : Value → Shared → Prop} {s : Shared} {h₀ : Heap} {L a : Addr} {m : Str → Option Value} {news : List (Addr × Obj)} {vs : List Value} {K : Frag}
theorem star_tup_N {Q : List Value → Shared → Prop} (F : Fr h₀ L s.heap m) (N : News h₀ L s.heap news) (X : K.In h₀) (ha : (a, tupO vs) ∈ news) (hz : vs.length ≤ sizeLine)
    (h : ∀ h', Fr h₀ L h' m → News h₀ L h' news → Q vs { s with heap := h' }) : StarOf (model prog w) A E (.ref a) (fun vs s => K.In s.heap ∧ Q vs s) s :=
  star_seq (o := tupO vs) (T := "tuple") (its := vs.toArray) (n := 0) F N ha rfl rfl (.inr rfl) rfl (by rw [List.size_toArray]; exact hz) fun h' F' N' => ⟨X.keeps F'.keep, h h' F' N'⟩
theorem star_lst_N {Q : List Value → Shared → Prop} (F : Fr h₀ L s.heap m) (N : News h₀ L s.heap news) (X : K.In h₀) (ha : (a, lstO vs) ∈ news) (hz : vs.length ≤ sizeLine)
    (h : ∀ h', Fr h₀ L h' m → News h₀ L h' news → Q vs { s with heap := h' }) : StarOf (model prog w) A E (.ref a) (fun vs s => K.In s.heap ∧ Q vs s) s :=
  star_seq (o := lstO vs) (T := "list") (its := vs.toArray) (n := 0) F N ha rfl rfl (.inl rfl) rfl (by rw [List.size_toArray]; exact hz) fun h' F' N' => ⟨X.keeps F'.keep, h h' F' N'⟩
end
end Mine
namespace Mine
section
variable {prog : Program} {w : World} {A : Around} {s : Shared} {K : Frag} {L : Addr} {h₀ : Heap} {m : Str → Option Value} {news : List (Addr × Obj)}
  {R : Result → Shared → Prop} {name qual : Str} {params : Arguments} {body : List Stmt} {scope : Scope} {dV kV doc pm cdv ct oc : Value} {an od : Option Addr} {osl : Array (Option Value)} {f : Addr} {args : Args}

/-- the frame of a def with cells, its arguments bound -/
theorem frame_cells {binds : List (Str × Value)} {E : Value → Shared → Prop} (F : Fr h₀ L s.heap m) (N : News h₀ L s.heap news) (hlim : h₀.NoLimit)
    (hkind : ∀ n, ∀ x ∈ binds, scope.names.lookup x.1 = some .local ∨ (scope.names.lookup x.1 = some .cell ∧ ((cellsFrom n scope.names []).lookup x.1).isSome = true))
    (hnd : ((cellsFrom 0 scope.names []).map (·.1)).Nodup)
    (h : ∀ g L' h₁ tk cells, h₀.StaysIn g → Fr g L' h₁ (bindL (envOfC qual scope L' f cdv).kindOf binds fun _ => none) → News g L' h₁ (cells ++ news) →
      CellsAre (bindC (envOfC qual scope L' f cdv).kindOf binds fun _ => none) (cellsFrom (L' + 1) scope.names []) cells → Back h₀ L m g → (∀ p ∈ news, p.1 < L') →
      wpAny (model prog w) (A.deeper (envOfC qual scope L' f cdv)) (execs body (envOfC qual scope L' f cdv))
        (fun fl s' => R (.ok (.ret (match fl with | .ret v => v | _ => .none))) s') (fun _ _ => False) { s with heap := h₁, toks := tk })
    (hk : scope.kind = .function) :
    wpAny (model prog w) A.in1 (newFunctionEnv scope mainGlobals [] binds (qual ++ ".<locals>.") (some f) cdv none builtinsNs) (fun env' s₂ => s₂.heap.NoLimit ∧ codeAny (model prog w) A (.func body env') R s₂) E s := by
  obtain ⟨st, bk⟩ := ground0 F N
  have hl' : s.heap.NoLimit := hlim.keeps F.keep
  refine wpAny_newFunctionEnv_cells hk (hkind _) fun env' he s' x => ?_
  subst he
  refine ⟨hl'.keeps x.toInCall.keep, codeAny_func ?_⟩
  obtain ⟨h₁, tk, rfl, _⟩ := x.done
  have hk₁ := x.toInCall.keep
  obtain ⟨cells, NC, Y⟩ := Cl.news (h₀ := s.heap) (Nat.le_refl _) fun n c hm => ⟨x.cell n c (lookup_of_mem_nodup (cellsFrom_names scope.names 0 (s.heap.objs.size + 1) [] [] rfl ▸ hnd) hm), x.above n c hm⟩
  refine wpAny_mono (h _ s.heap.objs.size h₁ tk cells st ⟨x.toInCall.ns, fun b o e => hk₁ b o (of_hideAll _ e), Nat.le_of_eq (hideAll_size _ _)⟩ (fun p hp => ?_) Y bk (fun p hp => Heap.lt_size (N p hp).1)) (fun fl s' hl => hl) fun _ _ y => y.elim
  rcases List.mem_append.mp hp with hp | hp
  · refine ⟨(NC p hp).1, (NC p hp).2.1, ?_⟩
    cases q : (hideAll s.heap (news.map (·.1))).get? p.1 with
    | none => rfl
    | some o => have := of_hideAll _ q; rw [(NC p hp).2.2] at this; cases this
  · exact ⟨hk₁ _ _ (N p hp).1, Nat.ne_of_lt (Heap.lt_size (N p hp).1), hideAll_none _ (List.mem_map_of_mem hp)⟩

theorem enter_restC {vs : List Value} {binds : Value → List (Str × Value)} (F : Fr h₀ L s.heap m) (X₀ : K.In h₀) (N : News h₀ L s.heap news) (hlim : h₀.NoLimit)
    (ho : K.lookup f = some ⟨oc, od, .func (fnOf name qual params body scope dV kV doc pm an cdv ct), osl⟩) (hcd : codeIn K cdv qual = true) (hroom : A.depth < recursionLimit)
    (hb : bindArgs (fnOf name qual params body scope dV kV doc pm an cdv ct) args = (newTuple vs >>= fun t => pure (binds t))) (hsz : vs.length ≤ sizeLine)
    (hkind : ∀ D n, ∀ x ∈ binds (.ref D), scope.names.lookup x.1 = some .local ∨ (scope.names.lookup x.1 = some .cell ∧ ((cellsFrom n scope.names []).lookup x.1).isSome = true))
    (hnd : ((cellsFrom 0 scope.names []).map (·.1)).Nodup)
    (h : ∀ D g L' h₁ tk cells, (∀ p ∈ news, p.1 < D) → h₀.StaysIn g → Fr g L' h₁ (bindL (envOfC qual scope L' f cdv).kindOf (binds (.ref D)) fun _ => none) → News g L' h₁ (cells ++ (D, tupO vs) :: news) →
      CellsAre (bindC (envOfC qual scope L' f cdv).kindOf (binds (.ref D)) fun _ => none) (cellsFrom (L' + 1) scope.names []) cells → Back h₀ L m g → (∀ p ∈ (D, tupO vs) :: news, p.1 < L') →
      wpAny (model prog w) (A.deeper (envOfC qual scope L' f cdv)) (execs body (envOfC qual scope L' f cdv))
        (fun fl s' => R (.ok (.ret (match fl with | .ret v => v | _ => .none))) s') (fun _ _ => False) { s with heap := h₁, toks := tk })
    (hco : scope.isCoroutine = false) (hgen : scope.isGenerator = false) (hk : scope.kind = .function) : codeAny (model prog w) A (.call (.ref f) args) R s := by
  refine codeAny_call_function (fd := fnOf name qual params body scope dV kV doc pm an cdv ct) (body := body) hroom ((X₀.keeps F.keep) _ _ ho) rfl hco hgen rfl (codeRec_of (X₀.keeps F.keep) hcd) ?_
  rw [hb]
  refine wpAny_bind (newTuple_N F N (fun h' F' N' => wpAny_pure ?_) hsz)
  have hD : ∀ p ∈ news, p.1 < s.heap.objs.size := fun p hp => Heap.lt_size (N p hp).1
  exact frame_cells (s := { s with heap := h' }) F' N' hlim (hkind _) hnd (fun g L' h₁ tk cells st F₁ N₁ Y bk l => h _ g L' h₁ tk cells hD st F₁ N₁ Y bk l) hk

theorem enter_plainC {binds : List (Str × Value)} (F : Fr h₀ L s.heap m) (X₀ : K.In h₀) (N : News h₀ L s.heap news) (hlim : h₀.NoLimit)
    (ho : K.lookup f = some ⟨oc, od, .func (fnOf name qual params body scope dV kV doc pm an cdv ct), osl⟩) (hcd : codeIn K cdv qual = true) (hroom : A.depth < recursionLimit)
    (hb : BindsTo s (fnOf name qual params body scope dV kV doc pm an cdv ct) args binds)
    (hkind : ∀ n, ∀ x ∈ binds, scope.names.lookup x.1 = some .local ∨ (scope.names.lookup x.1 = some .cell ∧ ((cellsFrom n scope.names []).lookup x.1).isSome = true))
    (hnd : ((cellsFrom 0 scope.names []).map (·.1)).Nodup)
    (h : ∀ g L' h₁ tk cells, h₀.StaysIn g → Fr g L' h₁ (bindL (envOfC qual scope L' f cdv).kindOf binds fun _ => none) → News g L' h₁ (cells ++ news) →
      CellsAre (bindC (envOfC qual scope L' f cdv).kindOf binds fun _ => none) (cellsFrom (L' + 1) scope.names []) cells → Back h₀ L m g → (∀ p ∈ news, p.1 < L') →
      wpAny (model prog w) (A.deeper (envOfC qual scope L' f cdv)) (execs body (envOfC qual scope L' f cdv))
        (fun fl s' => R (.ok (.ret (match fl with | .ret v => v | _ => .none))) s') (fun _ _ => False) { s with heap := h₁, toks := tk })
    (hco : scope.isCoroutine = false) (hgen : scope.isGenerator = false) (hk : scope.kind = .function) : codeAny (model prog w) A (.call (.ref f) args) R s := by
  refine codeAny_call_function (fd := fnOf name qual params body scope dV kV doc pm an cdv ct) (body := body) hroom ((X₀.keeps F.keep) _ _ ho) rfl hco hgen rfl (codeRec_of (X₀.keeps F.keep) hcd) (hb _ _ _ _ ?_)
  exact frame_cells F N hlim hkind hnd (fun g L' h₁ tk cells st F₁ N₁ Y bk l => h g L' h₁ tk cells st F₁ N₁ Y bk l) hk
end
end Mine
namespace Mine
/-- ledgers, part and whole -/
def Sub (l l' : List (Addr × Obj)) : Prop := ∀ p ∈ l, p ∈ l'
theorem sub_refl {l : List (Addr × Obj)} : Sub l l := fun _ h => h
theorem sub_drop {p : Addr × Obj} {l l' : List (Addr × Obj)} (h : Sub l l') : Sub l (p :: l') := fun q hq => List.mem_cons_of_mem _ (h q hq)
theorem sub_keep {p : Addr × Obj} {l l' : List (Addr × Obj)} (h : Sub l l') : Sub (p :: l) (p :: l') := fun q hq => by
  rcases List.mem_cons.mp hq with rfl | hq
  · exact List.mem_cons_self
  · exact List.mem_cons_of_mem _ (h q hq)
theorem sub_take {p : Addr × Obj} {l l' : List (Addr × Obj)} (hp : p ∈ l') (h : Sub l l') : Sub (p :: l) l' := fun q hq => by
  rcases List.mem_cons.mp hq with rfl | hq
  · exact hp
  · exact h q hq
theorem news_sub {h₀ h : Heap} {L : Addr} {l l' : List (Addr × Obj)} (N : News h₀ L h l') (hs : Sub l l') : News h₀ L h l := fun p hp => N p (hs p hp)
end Mine
namespace Mine
/-- what a call gives, in the words of its codes -/
abbrev Ret (Q : Value → Shared → Prop) (E : Value → Shared → Prop) : Result → Shared → Prop := fun r s' => match r with | .ok (.ret v) => Q v s' | .ok _ => False | .error e => E e s'
section
variable {prog : Program} {w : World} {A : Around} {E : Value → Shared → Prop} {s : Shared} {K : Frag} {x C f q L : Addr} {ox : Obj} {od : Option Obj} {h₀ : Heap} {m : Str → Option Value} {news : List (Addr × Obj)} {env : Env} {pos p : Pos} {e : Expr} {Q : Value → Shared → Prop}

/-- a bound method called with a star -/
theorem starM {self : Value} (hf : fnIn K f = true) (h : wpAny (model prog w) A (eval e env) (fun v s₁ => StarOf (model prog w) A E v (fun vs s₂ => MethP K q f self s₂.heap ∧ codeAny (model prog w) A (.call (.ref f) ⟨self :: vs, []⟩) (Ret Q E) s₂) s₁) E s)
    (he : starEach [.Starred e p] env = [(true, eval e env)] := by rfl) :
    wpAny (model prog w) A (callWith pos (.ref q) [] (backTo pos (starEach [.Starred e p] env)) []) Q E s := by
  rw [he]
  refine ks_call (P := MethP K q f self) rfl (keeps_M hf) (ks_lone (wpAny_mono h (fun v s₁ h₁ => ?_) fun _ _ x => x))
  unfold StarOf at h₁ ⊢
  refine wpAny_mono h₁ (fun b s₂ h₂ => ⟨h₂.1, wpAny_mono h₂.2 (fun vs s₃ h₃ => ⟨h₃.1, wpAny_call (method_call h₃.1.1 h₃.2)⟩) fun _ _ x => x⟩) fun _ _ x => x

/-- an object called with a star -/
theorem starI (hd : ox.data = .plain) (hs : findIn K (.ref C) "__call__" = some (some (.ref f))) (hf : isFn K (.ref f) = true) (hfn : fnIn K f = true)
    (h : wpAny (model prog w) A (eval e env) (fun v s₁ => StarOf (model prog w) A E v (fun vs s₂ => (K.In s₂.heap ∧ InstAt s₂.heap x ox C od) ∧ codeAny (model prog w) A (.call (.ref f) ⟨.ref x :: vs, []⟩) (Ret Q E) s₂) s₁) E s)
    (he : starEach [.Starred e p] env = [(true, eval e env)] := by rfl) :
    wpAny (model prog w) A (callWith pos (.ref x) [] (backTo pos (starEach [.Starred e p] env)) []) Q E s := by
  rw [he]
  unfold callWith
  refine wpAny_bind (wpAny_holding (wpAny_mono (ks_lone (Q := fun a s₂ => a.kw = [] ∧ (K.In s₂.heap ∧ InstAt s₂.heap x ox C od) ∧ codeAny (model prog w) A (.call (.ref f) ⟨.ref x :: a.pos, []⟩) (Ret Q E) s₂) (wpAny_mono h (fun v s₁ h₁ => ?_) fun _ _ x => x)) (fun a s₁ h₁ => wpAny_bind (wpAny_standAt ?_)) fun _ _ y => y))
  · unfold StarOf at h₁ ⊢
    exact wpAny_mono h₁ (fun b s₂ h₂ => ⟨h₂.1, wpAny_mono h₂.2 (fun vs s₃ h₃ => ⟨rfl, h₃⟩) fun _ _ x => x⟩) fun _ _ x => x
  · obtain ⟨apos, akw⟩ := a
    obtain ⟨hk, ⟨X, I⟩, hc⟩ := h₁
    simp only at hk
    subst hk
    have L := kco_keeper (M := model prog w) I hd
    refine wpAny_bind (L.here ?_)
    have tail : ∀ {t : Sem Value}, wpAny (model prog w) A t Q E s₁ → wpAny (model prog w) A (t >>= fun r => holding [r] point >>= fun _ => pure r) Q E s₁ :=
      fun ht => wpAny_bind (wpAny_mono ht (fun r s₂ hr => wpAny_bind (wpAny_holding (wpAny_point (wpAny_pure hr)))) fun _ _ y => y)
    exact tail (wpAny_operating (wpAny_call (kco_code X I hd hs hf hfn hc)))
end
end Mine
namespace Mine
section
variable {prog : Program} {w : World} {A : Around} {E : Value → Shared → Prop} {s : Shared} {h₀ : Heap} {L a : Addr} {m : Str → Option Value} {news : List (Addr × Obj)} {vs : List Value}
theorem star_tup_G {Q : List Value → Shared → Prop} (F : Fr h₀ L s.heap m) (N : News h₀ L s.heap news) (ha : (a, tupO vs) ∈ news) (hz : vs.length ≤ sizeLine)
    (h : ∀ h', Fr h₀ L h' m → News h₀ L h' news → Q vs { s with heap := h' }) : StarOf (model prog w) A E (.ref a) Q s :=
  star_seq (o := tupO vs) (T := "tuple") (its := vs.toArray) (n := 0) F N ha rfl rfl (.inr rfl) rfl (by rw [List.size_toArray]; exact hz) h
theorem star_lst_G {Q : List Value → Shared → Prop} {c : Nat} (F : Fr h₀ L s.heap m) (N : News h₀ L s.heap news) (ha : (a, listOf vs.toArray c) ∈ news) (hz : vs.length ≤ sizeLine)
    (h : ∀ h', Fr h₀ L h' m → News h₀ L h' news → Q vs { s with heap := h' }) : StarOf (model prog w) A E (.ref a) Q s :=
  star_seq (o := listOf vs.toArray c) (T := "list") (its := vs.toArray) (n := c) F N ha rfl rfl (.inl rfl) rfl (by rw [List.size_toArray]; exact hz) h
end
end Mine
end

section
open PySem PySem.W PySem.Calls PyProof.Rows PySem.Spec
namespace Mine
set_option maxRecDepth 100000

section
variable {w : World} {A : Around} {mg mb : Str → Option Value} {p : Program} {loose : List Str} {h₀ : Heap} {L : Addr} {m : Str → Option Value} {news : List (Addr × Obj)} {s : Shared} {E : Value → Shared → Prop}

abbrev pg : Program := PySem.Challenge.pw_br0029_01

theorem ident_ct {vs : List Value} {ks : List Key} {Q : Value → Shared → Prop} (hh : A.handled = none) (hroom : A.depth < recursionLimit)
    (F : Fr h₀ L s.heap m) (X : Amb w mg mb p loose h₀) (N : News h₀ L s.heap news) (hv : KeysAre vs ks) (hsz : vs.length < 1000)
    (h : ∀ h' tk, Fr h₀ L h' m → News h₀ L h' news → s.heap.StaysIn h' → Q (.bool (decide ((met ks ks.length).length = 1))) { s with heap := h', toks := tk }) :
    wpAny (model pg w) A (call (.ref 100) vs) Q E s := by
  refine wpAny_call ?_
  refine' enter_rest (K := hd.heap_39 w.params) (vs := vs) (binds := ?b) F X.k N X.t.nolimit ?k1 ?k2 hroom ?k3 ?k4 ?k5 ?_ ?c1 ?c2 ?c3 ?c4
  case k1 => k_is
  case k2 => k_is
  case k3 => (refine' bind_rest0 ?p ?d; (case p => rfl); (case d => rfl))
  case k4 => rw [sizeLine_eq]; omega
  case k5 => exact fun D => locs rfl
  case c1 => rfl
  case c2 => rfl
  case c3 => rfl
  case c4 => decide
  intro D g L' h₁ tk hD st F₁ N₁ bk hkp
  have X₁ := X.keeps st
  obtain ⟨KX, TX⟩ := X₁
  clear F N X st hroom
  repeat' (first | walk1 | (dsimp only; walk1))
  refine set_N F₁ N₁ hh (List.mem_cons_self ..) hv (by unfold scanBound; omega) ?_
  intro h₂ tk₂ S o F₂ N₂ hS
  clear F₁ N₁
  have hml := met_length_le ks ks.length
  have hkl := hv.length
  repeat' (first | walk1 | (dsimp only; walk1))
  refine len_set_N N₂ (List.mem_cons_self ..) hS (by omega) ?_
  repeat' (first | walk1 | (dsimp only; walk1))
  obtain ⟨Fb, Nb⟩ := bk _ _ _ _ F₂ N₂
  rw [show (((met ks ks.length).length : Int) == 1) = decide ((met ks ks.length).length = 1) from by
    rw [Bool.eq_iff_iff]; simp only [beq_iff_eq, decide_eq_true_eq]; omega]
  exact h _ _ Fb (fun p hp => Nb p (List.mem_cons_of_mem _ (List.mem_cons_of_mem _ hp))) (hkp _ _ _ F₂ (news_sub N₂ (sub_drop sub_refl)))
end
end Mine
end

section
open PySem PySem.W PySem.Calls PyProof.Rows PySem.Spec
namespace Mine
set_option maxRecDepth 100000

theorem keys_of_strs {vs : List Value} {ws : List Str} (h : StrsAre vs ws) : KeysAre vs (ws.map some) := by
  induction h with
  | nil => exact .nil
  | cons x t _ ih => exact .cons (isKey_str x t) ih

theorem strs_at {vs : List Value} {ws : List Str} (h : StrsAre vs ws) : ∀ (i : Nat) (v : Value), vs[i]? = some v → ∃ x t, ws[i]? = some x ∧ v = .str x t := by
  induction h with
  | nil => intro i v e; simp at e
  | cons x t _ ih =>
    intro i v e
    cases i with
    | zero => simp at e; subst e; exact ⟨x, t, rfl, rfl⟩
    | succ i => simpa using ih i v (by simpa using e)

section
variable {prog : Program} {w : World} {A : Around} {R : Result → Shared → Prop} {I : Addr} {fp wr : List Addr} {n : Nat} {P : Nat → Value → Prop} {St : Nat → Heap → Prop}

theorem all_loop_true (W : Walks prog w A.in1 I fp wr n P St) (htr : ∀ i v (s : Shared) (Q : Bool → Shared → Prop) (E : Value → Shared → Prop), P i v → (∀ tk, Q true { s with toks := tk }) → wpAny (model prog w) A.in1 (truthy v) Q E s) :
    ∀ (k i : Nat) (s : Shared), n - i = k → i ≤ n → St i s.heap →
    (∀ h' tk, (∀ b o, b ∉ wr → s.heap.get? b = some o → h'.get? b = some o) → R (.ok (.ret (.bool true))) { s with heap := h', toks := tk }) →
    codeAny (model prog w) A (.builtin "all.loop" ⟨[.ref I], []⟩) R s := by
  intro k
  induction k with
  | zero =>
    intro i s hk hi hst hR
    have hin : i = n := by omega
    subst hin
    refine codeAny_builtin PySem.F.entry_all_loop ?_
    rw [Around.under_plainId PySem.F.plain_all_loop _]
    show wpAny _ A.in1 (pyNext (.ref I) >>= _) _ _ s
    refine wpAny_bind (W.done s _ _ hst fun h' tk hk' => ?_)
    exact wpAny_bind (wpAny_rule (wpAny_pure (hR h' tk hk')))
  | succ k ih =>
    intro i s hk hi hst hR
    have hlt : i < n := by omega
    refine codeAny_builtin PySem.F.entry_all_loop ?_
    rw [Around.under_plainId PySem.F.plain_all_loop _]
    show wpAny _ A.in1 (pyNext (.ref I) >>= _) _ _ s
    refine wpAny_bind (W.item i s _ _ hlt hst fun v h' tk hP hst' hk' => ?_)
    refine wpAny_bind (wpAny_holding (htr i v _ _ _ hP fun tk' => ?_))
    refine wpAny_bind (wpAny_letGo ?_)
    simp only [if_true]
    exact wpAny_pure ⟨plainId_quiet PySem.F.plain_all_loop _, ih (i + 1) _ (by omega) hlt hst' fun h'' tk'' hk'' => hR h'' tk'' fun b o hbw e => hk'' b o hbw (hk' b o hbw e)⟩
end

section
variable {prog : Program} {w : World} {A : Around} {E : Value → Shared → Prop} {s : Shared} {L : Addr} {h₀ : Heap} {m : Str → Option Value} {news : List (Addr × Obj)}

theorem all_words {vs : List Value} {ws : List Str} {D : Addr} {Q : Value → Shared → Prop} (F : Fr h₀ L s.heap m) (N : News h₀ L s.heap news) (hh : A.handled = none) (hm : (D, tupO vs) ∈ news)
    (hi : StrsAre vs ws) (hw : ∀ x ∈ ws, 0 < x.length ∧ x.length < 1000)
    (h : ∀ h' tk, Fr h₀ L h' m → News h₀ L h' news → Q (.bool true) { s with heap := h', toks := tk }) :
    wpAny (model prog w) A (call (.builtin "all") [.ref D]) Q E s := by
  have ht : s.heap.IsTuple D vs.toArray := ⟨_, (N _ hm).1, rfl, 0, rfl⟩
  refine call_function_tree PySem.F.kind_all PySem.F.plain_all PySem.F.entry_all (PySem.F.args_all1 _) ?_
  unfold Builtin.«all»
  refine wpAny_bind (m := oneArg "all" _) (wpAny_pure ?_)
  refine wpAny_bind (wpAny_pyIter_tuple ht ?_)
  have hlt : D < s.heap.objs.size := Heap.lt_size (N _ hm).1
  refine wpAny_pure ⟨plainId_quiet PySem.F.plain_all_loop _, all_loop_true (Walks.tuple (by simpa using hh) s.heap.objs.size D (Nat.ne_of_lt hlt) vs.toArray) ?_ vs.toArray.size 0 _ rfl (Nat.zero_le _)
    ⟨⟨_, Heap.get?_push_size _ rfl, rfl, rfl⟩, ht.push _⟩ fun h' tk hk => ?_⟩
  · intro i v s' Q' E' hv hQ
    obtain ⟨x, t, hx, rfl⟩ := strs_at hi i v (by simpa using hv)
    have hxw := hw x (List.mem_of_getElem? hx)
    refine PySem.P.truthy_str (by omega) ?_
    have e : ((x.length : Int) != 0) = true := by simp only [bne_iff_ne, ne_eq]; omega
    rw [e]; exact hQ _
  · have up : ∀ b o, b < s.heap.objs.size → s.heap.get? b = some o → h'.get? b = some o := fun b o hb e =>
      hk b o (by simp only [List.mem_singleton]; exact Nat.ne_of_lt hb) (Heap.get?_push_of_some _ e)
    exact h h' tk (fr_grow F up) (news_grow N up)
end
end Mine
namespace Mine
section
variable {prog : Program} {w : World} {A : Around} {E : Value → Shared → Prop} {s : Shared} {L : Addr} {h₀ : Heap} {m : Str → Option Value} {news : List (Addr × Obj)} {vs : List Value} {D : Addr}

theorem len_tup_N {Q : Value → Shared → Prop} (N : News h₀ L s.heap news) (hm : (D, tupO vs) ∈ news) (hz : vs.length < 2 ^ 62)
    (h : ∀ t tk, Q (.int vs.length t) { s with toks := tk }) : wpAny (model prog w) A (call (.builtin "len") [.ref D]) Q E s := by
  have ht : IsTup s.heap D vs.toArray := ⟨_, (N _ hm).1, rfl, 0, rfl⟩
  refine len_tuple ht (by rw [List.size_toArray]; omega) ?_
  rw [List.size_toArray]; exact h _ _
theorem len_lst_N {Q : Value → Shared → Prop} (N : News h₀ L s.heap news) (hm : (D, lstO vs) ∈ news) (hz : vs.length < 2 ^ 62)
    (h : ∀ t tk, Q (.int vs.length t) { s with toks := tk }) : wpAny (model prog w) A (call (.builtin "len") [.ref D]) Q E s := by
  have ht : s.heap.IsList D vs.toArray := ⟨_, (N _ hm).1, rfl, 0, rfl⟩
  refine call_len_list ht (by rw [List.size_toArray]; omega) ?_
  rw [List.size_toArray]; exact h _ _
theorem truthy_tup_N {Q : Bool → Shared → Prop} (N : News h₀ L s.heap news) (hm : (D, tupO vs) ∈ news) (hz : 0 < vs.length ∧ vs.length < 2 ^ 62)
    (h : ∀ tk, Q true { s with toks := tk }) : wpAny (model prog w) A (truthy (.ref D)) Q E s := by
  have ht : IsTup s.heap D vs.toArray := ⟨_, (N _ hm).1, rfl, 0, rfl⟩
  refine truthy_tuple ht (by rw [List.size_toArray]; omega) ?_
  have e : (!vs.toArray.isEmpty) = true := by cases vs with | nil => exact absurd hz.1 (Nat.lt_irrefl 0) | cons _ _ => rfl
  rw [e]; exact h _
end
end Mine
end

section
open PySem PySem.W PySem.Calls PyProof.Rows PySem.Spec
namespace Mine
set_option maxRecDepth 100000
local macro_rules | `(tactic| k_mem) => `(tactic| first | ktr_member | exact List.mem_cons_self | (refine' List.mem_cons_of_mem _ ?_; k_mem))
local macro_rules | `(tactic| walk_at "mine sm") => `(tactic| (refine' get_sm ?k1 ?k2 ?k4 ?k5 ?k6 ?k7 ?k9 ?k10 ?k11 ?k12 ?k13 ?k14 ?_; (case k1 => k_asm); (case k2 => k_asm); (case k4 => k_inst); (case k5 => k_is); (case k6 => k_is); (case k7 => k_is); (case k9 => k_is); (case k10 => k_is); (case k11 => decide +kernel); (case k12 => k_get); (case k13 => k_is); (case k14 => k_handed)))
local macro_rules | `(tactic| walk_at "mine stop") => `(tactic| first
  | (with_reducible show wpAny _ _ (eval (Expr.Call (Expr.Attribute _ _ _) [Expr.Starred _ _] _ _) _) _ _ _)
  | (with_reducible show StarOf _ _ _ _ _ _)
  | (with_reducible show wpAny _ _ (getAttr _ (Str.ofString "_ident") _) _ _ _)
  | (with_reducible show wpAny _ _ (truthy (Value.ref _)) _ _ _))
local macro_rules | `(tactic| walk_at "mine go") => `(tactic| repeat' ((fail_if_success (walk_at "mine stop")); (first | walk1 | (dsimp only; walk1))))

/-- a Hamming's dict -/
abbrev hamD (hs : Int × Int × Int × Int) (ts : Tok × Tok × Tok × Tok) (tq : Tok) (b : Bool) : Obj :=
  dictOf [⟨hs.1, .str (Str.ofString "qval") ts.1, .int 1 tq⟩, ⟨hs.2.1, .str (Str.ofString "test_func") ts.2.1, .ref 100⟩, ⟨hs.2.2.1, .str (Str.ofString "truncate") ts.2.2.1, .bool b⟩, ⟨hs.2.2.2, .str (Str.ofString "external") ts.2.2.2, .bool false⟩] 4

section
variable {w : World} {A : Around} {mg mb : Str → Option Value} {p : Program} {loose : List Str} {h₀ : Heap} {L : Addr} {m : Str → Option Value} {news : List (Addr × Obj)} {s : Shared} {E : Value → Shared → Prop}

def same (ks : List Key) : Bool := decide ((met ks ks.length).length = 1)

theorem quick_ct {x dx : Addr} {hs ts tq} {b : Bool} {vs : List Value} {ws : List Str} {Q : Value → Shared → Prop} (hh : A.handled = none) (hroom : A.depth + 5 < recursionLimit)
    (F : Fr h₀ L s.heap m) (X : Amb w mg mb p loose h₀) (N : News h₀ L s.heap news) (hx : (x, instObj 173 dx) ∈ news) (hdx : (dx, hamD hs ts tq b) ∈ news) (hv : StrsAre vs ws) (hsz : 2 ≤ vs.length ∧ vs.length < 1000)
    (hw : ∀ x ∈ ws, 0 < x.length ∧ x.length < 1000)
    (h : ∀ h' tk tk', Fr h₀ L h' m → News h₀ L h' news → Q (if same (ws.map some) then .int 0 tk' else .none) { s with heap := h', toks := tk }) :
    codeAny (model pg w) A (.call (.ref 93) ⟨.ref x :: vs, []⟩) (Ret Q E) s := by
  refine' enter_rest (K := hd.heap_39 w.params) (vs := vs) (binds := ?b) F X.k N X.t.nolimit ?k1 ?k2 ?k0 ?k3 ?k4 ?k5 ?_ ?c1 ?c2 ?c3 ?c4
  case k0 => omega
  case k1 => k_is
  case k2 => k_is
  case k3 => (refine' bind_rest1 ?kp9 ?kd9; (case kp9 => rfl); (case kd9 => rfl))
  case k4 => rw [sizeLine_eq]; omega
  case k5 => exact fun D => locs rfl
  case c1 => rfl
  case c2 => rfl
  case c3 => rfl
  case c4 => decide
  intro D g L' h₁ tk hD st F₁ N₁ bk _
  have hlen : vs.toArray.size = vs.length := List.size_toArray ..
  obtain ⟨KX, TX⟩ := X.keeps st
  clear F N X st
  walk_at "mine go"
  refine truthy_tup_N N₁ (List.mem_cons_self ..) (by omega) fun tk₂ => ?_
  walk_at "mine go"
  · exfalso; omega
  refine starMethod_ ?_
  walk_at "mine go"
  walk_at "mine sm"
  walk_at "mine go"
  have hvl := hv.len_eq
  refine star_tup_N F₁ N₁ KX (List.mem_cons_self ..) (by rw [sizeLine_eq]; omega) fun h₂ F₂ N₂ => ?_
  clear F₁ N₁
  show wpAny _ _ (call (.ref 100) vs) _ _ _
  refine ident_ct (ks := ws.map some) hh ?_ F₂ ⟨KX, TX⟩ N₂ (keys_of_strs hv) (by omega) fun h₃ tk₃ F₃ N₃ _ => ?_
  · simp only [depth_deeper]; omega
  clear F₂ N₂
  show wpAny _ _ (truthy (.bool (same (ws.map some)))) _ _ _
  walk_at "mine go"
  · obtain ⟨Fb, Nb⟩ := bk _ _ _ _ F₃ N₃
    have hq := fun a b => h _ a b Fb fun p hp => Nb p (List.mem_cons_of_mem _ hp)
    (with_reducible rename same _ = true => hsame)
    simp only [hsame, if_true] at hq
    exact hq _ _
  refine all_words F₃ N₃ hh (List.mem_cons_self ..) hv hw fun h₄ tk₄ F₄ N₄ => ?_
  clear F₃ N₃
  walk_at "mine go"
  · obtain ⟨Fb, Nb⟩ := bk _ _ _ _ F₄ N₄
    have hq := fun a b => h _ a b Fb fun p hp => Nb p (List.mem_cons_of_mem _ hp)
    (with_reducible rename same _ = false => hsame)
    simp only [hsame, Bool.false_eq_true, if_false] at hq
    exact hq _ 0
end
end Mine
end

section
open PySem PySem.W PySem.Calls PyProof.Rows PySem.Spec
namespace Mine
set_option maxRecDepth 100000
local macro_rules | `(tactic| walk_at "mine go") => `(tactic| repeat' (first | walk1 | (dsimp only; walk1)))
local macro_rules | `(tactic| k_mem) => `(tactic| first | ktr_member | exact List.mem_cons_self | (refine' List.mem_cons_of_mem _ ?_; k_mem))
section
variable {w : World} {A : Around} {mg mb : Str → Option Value} {p : Program} {loose : List Str} {h₀ : Heap} {L : Addr} {m : Str → Option Value} {news : List (Addr × Obj)} {s : Shared} {E : Value → Shared → Prop}

theorem getseq_ct {x dx : Addr} {hs ts tq} {b : Bool} {vs : List Value} {Q : Value → Shared → Prop} (hh : A.handled = none) (hroom : A.depth + 5 < recursionLimit)
    (F : Fr h₀ L s.heap m) (X : Amb w mg mb p loose h₀) (N : News h₀ L s.heap news) (hx : (x, instObj 173 dx) ∈ news) (hdx : (dx, hamD hs ts tq b) ∈ news) (hsz : vs.length < 1000)
    (h : ∀ h' tk l c, Fr h₀ L h' m → News h₀ L h' ((l, listOf vs.toArray c) :: news) → Q (.ref l) { s with heap := h', toks := tk }) :
    codeAny (model pg w) A (.call (.ref 108) ⟨.ref x :: vs, []⟩) (Ret Q E) s := by
  refine' enter_restC (K := hd.heap_39 w.params) (vs := vs) (binds := ?b) F X.k N X.t.nolimit ?k1 ?k2 ?k0 ?k3 ?k4 ?k5 ?k6 ?_ ?c1 ?c2 ?c3
  case k0 => omega
  case k1 => k_is
  case k2 => k_is
  case k3 => (refine' bind_rest1 ?kp9 ?kd9; (case kp9 => rfl); (case kd9 => rfl))
  case k4 => rw [sizeLine_eq]; omega
  case k5 => exact fun D => kindsX rfl
  case k6 => decide +kernel
  case c1 => rfl
  case c2 => rfl
  case c3 => rfl
  intro D g L' h₁ tk cells hD st F₁ N₁ Y bk lt
  obtain ⟨KX, TX⟩ := X.keeps st
  clear F N X st
  obtain ⟨oc, rfl, hoc⟩ := CellsAre.one Y
  have hlen : vs.toArray.size = vs.length := List.size_toArray ..
  replace N₁ : News g L' h₁ ((_, oc) :: (D, tupO vs) :: news) := N₁
  walk_at "mine go"
  (with_reducible rename Fr _ _ _ _ => F')
  (with_reducible rename News _ _ _ _ => N')
  obtain ⟨Fb, Nb⟩ := bk _ _ _ _ F' N'
  exact h _ _ _ _ Fb (news_sub Nb (sub_keep (sub_drop (sub_drop sub_refl))))
end
end Mine
end

section
open PySem PySem.W PySem.Calls PyProof.Rows PySem.Spec
namespace Mine
set_option maxRecDepth 100000

def lett (x : Str) : List Key := x.cps.toList.map fun c => some ⟨#[c]⟩
def col (kss : List (List Key)) (i : Nat) : List Key := kss.map fun ks => ks.getD i none

/-- one iterator of a zip, i letters on -/
def Ready (B : List Addr) (N : Nat) (it : Addr) (ks : List Key) (i : Nat) (h : Heap) : Prop :=
  (∃ l vs, (l ∉ B ∧ l < N) ∧ h.IsListIter it l i ∧ h.IsList l vs ∧ KeysAre vs.toList ks) ∨ (∃ x t ty, (ty = "str_ascii_iterator" ∨ ty = "str_iterator") ∧ h.IsStrIter it ty x t i ∧ ks = lett x)

theorem Ready.frame {B : List Addr} {N : Nat} {it : Addr} {ks : List Key} {i : Nat} {h h' : Heap} (r : Ready B N it ks i h) (hk : ∀ b o, b = it ∨ b ∉ B → h.get? b = some o → h'.get? b = some o) : Ready B N it ks i h' := by
  rcases r with ⟨l, vs, hl, hi, hL, k⟩ | ⟨x, t, ty, hty, hi, k⟩
  · exact .inl ⟨l, vs, hl, hi.at fun o e => hk _ o (.inl rfl) e, hL.at fun o e => hk _ o (.inr hl.1) e, k⟩
  · obtain ⟨o, ho, r⟩ := hi
    exact .inr ⟨x, t, ty, hty, ⟨o, hk _ o (.inl rfl) ho, r⟩, k⟩

def At (kss : List (List Key)) (i j : Nat) (v : Value) : Prop := ∃ ks key, kss[j]? = some ks ∧ ks[i]? = some key ∧ isKey key v = true

theorem keys_of_at {i : Nat} : ∀ {kss : List (List Key)} {vs : List Value}, vs.length = kss.length → (∀ j v, vs[j]? = some v → At kss i j v) → KeysAre vs (col kss i)
  | [], [], _, _ => .nil
  | ks :: kss, v :: vs, hl, h => by
    obtain ⟨ks', key, e1, e2, e3⟩ := h 0 v rfl
    simp only [List.getElem?_cons_zero, Option.some.injEq] at e1
    subst e1
    refine .cons ?_ (keys_of_at (by simpa using hl) fun j v' e => ?_)
    · show isKey (ks.getD i none) v = true
      rw [List.getD_eq_getElem?_getD, e2]; exact e3
    · obtain ⟨a, b, c, d⟩ := h (j + 1) v' (by simpa using e)
      exact ⟨a, b, by simpa using c, d⟩
  | [], _ :: _, hl, _ => by simp at hl
  | _ :: _, [], hl, _ => by simp at hl

section
variable {prog : Program} {w : World} {A : Around} {E : Value → Shared → Prop} {s : Shared}

theorem wpAny_loadIfAlive {M : Model} {a : Addr} {Q : Option Obj → Shared → Prop} (h : Q (s.heap.get? a) s) : wpAny M A (loadIfAlive a) Q E s := fun _ _ _ => h

theorem ready_next {B : List Addr} {N : Nat} {it : Addr} {ks : List Key} {i : Nat} {Q : Value → Shared → Prop} (hh : A.handled = none) (hB : it ∈ B) (r : Ready B N it ks i s.heap)
    (hQ : ∀ key v h' tk, ks[i]? = some key → isKey key v = true → Ready B N it ks (i + 1) h' → Heap.SameBut it s.heap h' → Q v { s with heap := h', toks := tk })
    (hE : i = ks.length → ∀ h' e, Heap.ExtBut it s.heap h' → (∃ o, h'.get? e = some o ∧ o.cls = .type "StopIteration") → E (.ref e) { s with heap := h' })
    (hi : i ≤ ks.length) : wpAny (model prog w) A (Builtin.SmallTypes.nextOf (.ref it)) Q E s := by
  rcases r with ⟨l, vs, hl, hI, hL, k⟩ | ⟨x, t, ty, hty, hI, k⟩
  · have D := Draws.list (prog := prog) (w := w) (A := A) hh it l (fun e => hl.1 (e ▸ hB)) vs
    have hn : vs.size = ks.length := by rw [← k.length]; simp
    rcases Nat.lt_or_eq_of_le hi with hlt | heq
    · refine D.item i s _ _ (by omega) ⟨hI, hL⟩ fun v h' tk hv st sb => ?_
      obtain ⟨key, hk1, hk2⟩ := k.at i v (by simpa using hv)
      exact hQ key v h' tk hk1 hk2 (.inl ⟨l, vs, hl, st.1, st.2, k⟩) sb
    · exact D.done s _ _ (by rw [hn, ← heq]; exact ⟨hI, hL⟩) fun h' e x y => hE heq h' e x y
  · have D : Draws prog w A it [it] x.cps.size (fun i v => ∃ c u, x.cps[i]? = some c ∧ v = .str ⟨#[c]⟩ u) (fun i h => h.IsStrIter it ty x t i) := by
      rcases hty with rfl | rfl
      · exact Draws.strAscii hh it x t
      · exact Draws.strWide hh it x t
    have hn : x.cps.size = ks.length := by rw [k]; simp [lett]
    rcases Nat.lt_or_eq_of_le hi with hlt | heq
    · refine D.item i s _ _ (by omega) hI fun v h' tk hv st sb => ?_
      obtain ⟨c, u, hc, rfl⟩ := hv
      refine hQ (some ⟨#[c]⟩) _ h' tk (by rw [k]; simp [lett, hc]) (isKey_str _ _) (.inr ⟨x, t, ty, hty, st, k⟩) sb
    · exact D.done s _ _ (by rw [hn, ← heq]; exact hI) fun h' e x y => hE heq h' e x y
end

theorem forIn_arr {M : Model} {A : Around} {E : Value → Shared → Prop} {s : Shared} {α β : Type} (f : α → β → Sem (ForInStep β)) (I : List α → β → Shared → Prop) (Q : β → Shared → Prop)
    (turn : ∀ x rest b s, I (x :: rest) b s → wpAny M A (f x b) (fun r s' => match r with | .yield b' => I rest b' s' | .done b' => Q b' s') E s)
    (fin : ∀ b s, I [] b s → Q b s) (xs : Array α) (b : β) (h : I xs.toList b s) : wpAny M A (forIn xs b f) Q E s := by
  rw [← Array.forIn_toList]
  exact wpAny_forIn_list f I Q turn fin _ b h

structure ZipFix (N : Nat) (z TI TO : Addr) (its : List Addr) (kss : List (List Key)) (n : Nat) : Prop where
  len : its.length = kss.length
  nod : (z :: TO :: its).Nodup
  ti : TI ∉ z :: TO :: its
  least : ∀ ks ∈ kss, n ≤ ks.length
  hit : ∃ ks ∈ kss, ks.length = n
  few : its.length < 1000
  lt : ∀ b ∈ z :: TI :: TO :: its, b < N
  top : N = z + 1

abbrev zipO (f0 f1 : Value) (TI TO : Addr) : Obj := { cls := .type "zip", dict := none, data := .fields #[f0, f1, .bool false, .ref TI, .ref TO], slots := #[] }

/-- a zip, i columns on -/
structure ZipAt (N : Nat) (z TI TO : Addr) (its : List Addr) (kss : List (List Key)) (i : Nat) (h : Heap) : Prop where
  hz : ∃ f0 f1, (f0 = .none ∨ ∃ T : Addr, f0 = rawInt T) ∧ h.get? z = some (zipO f0 f1 TI TO)
  ti : h.get? TI = some (tupO (its.map .ref))
  to : ∃ os, os.length = its.length ∧ h.get? TO = some (tupO os)
  rd : ∀ (k : Nat) (it : Addr) (ks : List Key), its[k]? = some it → kss[k]? = some ks → Ready (z :: TO :: its) N it ks i h

theorem ZipAt.frame {N n : Nat} {z TI TO : Addr} {its : List Addr} {kss : List (List Key)} {i : Nat} {h h' : Heap} (Z : ZipFix N z TI TO its kss n) (x : ZipAt N z TI TO its kss i h)
    (hk : ∀ b o, b < N → h.get? b = some o → h'.get? b = some o) : ZipAt N z TI TO its kss i h' := by
  obtain ⟨f0, f1, hf, hz⟩ := x.hz
  obtain ⟨os, hos, hto⟩ := x.to
  refine ⟨⟨f0, f1, hf, hk _ _ (Z.lt _ (by simp)) hz⟩, hk _ _ (Z.lt _ (by simp)) x.ti, ⟨os, hos, hk _ _ (Z.lt _ (by simp)) hto⟩, fun k it ks a b => ?_⟩
  have hit : it < N := Z.lt _ (by simp [List.mem_of_getElem? a])
  rcases x.rd k it ks a b with ⟨l, vs, hl, hi, hL, q⟩ | ⟨x, t, ty, hty, hi, q⟩
  · exact .inl ⟨l, vs, hl, hi.at fun o e => hk _ o hit e, hL.at fun o e => hk _ o hl.2 e, q⟩
  · obtain ⟨o, ho, r⟩ := hi
    exact .inr ⟨x, t, ty, hty, ⟨o, hk _ o hit ho, r⟩, q⟩

/-- in the middle of a draw: k of the iterators are drawn -/
structure Mid (N : Nat) (z TI TO : Addr) (its : List Addr) (kss : List (List Key)) (i k : Nat) (f0 f1 : Value) (h₀ h : Heap) : Prop where
  hz : h.get? z = some (zipO f0 f1 TI TO)
  ti : h.get? TI = some (tupO (its.map .ref))
  rd : ∀ (j : Nat) (it : Addr) (ks : List Key), its[j]? = some it → kss[j]? = some ks → Ready (z :: TO :: its) N it ks (if j < k then i + 1 else i) h
  got : ∀ (j : Nat) (ks : List Key), j < k → kss[j]? = some ks → i < ks.length
  keep : ∀ b o, b ∉ z :: TO :: its → h₀.get? b = some o → h.get? b = some o
  size : h₀.objs.size ≤ h.objs.size

theorem idx_ne {its : List Addr} (hn : its.Nodup) {j k : Nat} {a b : Addr} (hj : its[j]? = some a) (hk : its[k]? = some b) (h : j ≠ k) : a ≠ b := fun e => by
  subst e
  obtain ⟨hj', ej⟩ := List.getElem?_eq_some_iff.mp hj
  obtain ⟨hk', ek⟩ := List.getElem?_eq_some_iff.mp hk
  have P := List.pairwise_iff_getElem.mp hn
  rcases Nat.lt_or_gt_of_ne h with hl | hl
  · exact P j k hj' hk' hl (ej.trans ek.symm)
  · exact P k j hk' hj' hl (ek.trans ej.symm)

/-- one iterator drawn -/
theorem Mid.draw {N : Nat} {z TI TO it : Addr} {its : List Addr} {kss : List (List Key)} {n i k : Nat} {f0 f1 : Value} {h₀ h h' : Heap} {ks : List Key} {key : Key} (Z : ZipFix N z TI TO its kss n) (x : Mid N z TI TO its kss i k f0 f1 h₀ h)
    (hit : its[k]? = some it) (hks : kss[k]? = some ks) (hkey : ks[i]? = some key) (r : Ready (z :: TO :: its) N it ks (i + 1) h') (sb : Heap.SameBut it h h') : Mid N z TI TO its kss i (k + 1) f0 f1 h₀ h' := by
  have nd := Z.nod
  simp only [List.nodup_cons, List.mem_cons, not_or] at nd
  obtain ⟨⟨hzt, hzi⟩, hti, hni⟩ := nd
  have mem : it ∈ its := List.mem_of_getElem? hit
  have ext := sb.extBut
  refine ⟨ext _ _ (fun e => hzi (e ▸ mem)) x.hz, ext _ _ (fun e => Z.ti (by rw [e]; simp [mem])) x.ti, fun j it' ks' hj hk' => ?_, fun j ks' hj hk' => ?_, fun b o hb e => ext _ _ (fun e' => hb (by rw [e']; simp [mem])) (x.keep b o hb e), by rw [sb.1]; exact x.size⟩
  · by_cases hjk : j = k
    · subst hjk
      rw [hit] at hj; cases hj
      rw [hks] at hk'; cases hk'
      rw [if_pos (Nat.lt_succ_self _)]; exact r
    · have := x.rd j it' ks' hj hk'
      rw [show (if j < k + 1 then i + 1 else i) = (if j < k then i + 1 else i) from by split <;> split <;> omega]
      refine this.frame fun b o hb e => ext b o ?_ e
      rcases hb with rfl | hb
      · exact idx_ne hni hj hit hjk
      · exact fun e => hb (by rw [e]; simp [mem])
  · by_cases hjk : j = k
    · subst hjk; rw [hks] at hk'; cases hk'
      exact (List.getElem?_eq_some_iff.mp hkey).1
    · exact x.got j ks' (by omega) hk'

/-- a change in the record or in the tuple kept -/
theorem Mid.own {N : Nat} {z TI TO a : Addr} {its : List Addr} {kss : List (List Key)} {n i k : Nat} {f0 f1 f0' f1' : Value} {h₀ h h' : Heap} (Z : ZipFix N z TI TO its kss n) (x : Mid N z TI TO its kss i k f0 f1 h₀ h) (ha : a = z ∨ a = TO)
    (hz : h'.get? z = some (zipO f0' f1' TI TO)) (ext : Heap.ExtBut a h h') (hs : h.objs.size ≤ h'.objs.size) : Mid N z TI TO its kss i k f0' f1' h₀ h' := by
  have nd := Z.nod
  simp only [List.nodup_cons, List.mem_cons, not_or] at nd
  obtain ⟨⟨hzt, hzi⟩, hti, hni⟩ := nd
  have hB : a ∈ z :: TO :: its := by rcases ha with rfl | rfl <;> simp
  have hI : a ∉ its := by rcases ha with rfl | rfl <;> assumption
  exact ⟨hz, ext _ _ (fun e => Z.ti (e ▸ hB)) x.ti, fun j it ks hj hk => (x.rd j it ks hj hk).frame fun b o hb e => ext b o (fun e' => by
    rcases hb with rfl | hb
    · exact hI (e' ▸ List.mem_of_getElem? hj)
    · exact hb (e' ▸ hB)) e, x.got, fun b o hb e => ext _ _ (fun e' => hb (e' ▸ hB)) (x.keep b o hb e), Nat.le_trans x.size hs⟩

section
variable {prog : Program} {w : World} {A : Around} {E : Value → Shared → Prop} {s : Shared} {N : Nat} {z TI TO : Addr} {its : List Addr} {kss : List (List Key)} {n i : Nat}

theorem zip_idx_drop {l : List Value} {k : Nat} {x : Value × Nat} {rest : List (Value × Nat)} (h : l.zipIdx.drop k = x :: rest) : l[k]? = some x.1 ∧ x.2 = k ∧ rest = l.zipIdx.drop (k + 1) := by
  have h1 : l.zipIdx[k]? = some x := by
    have := congrArg (fun l => l[0]?) h
    simpa using this
  refine ⟨?_, ?_, ?_⟩
  · rw [List.getElem?_zipIdx] at h1
    cases q : l[k]? with
    | none => rw [q] at h1; simp at h1
    | some v => rw [q] at h1; simp at h1; rw [← h1]
  · rw [List.getElem?_zipIdx] at h1
    cases q : l[k]? with
    | none => rw [q] at h1; simp at h1
    | some v => rw [q] at h1; simp at h1; rw [← h1]
  · have := congrArg List.tail h
    simpa using this.symm

theorem Mid.full {f0 f1 : Value} {h₀ h : Heap} (Z : ZipFix N z TI TO its kss n) (x : Mid N z TI TO its kss i its.length f0 f1 h₀ h) (hi : i ≤ n) : i < n := by
  obtain ⟨ks, hm, e⟩ := Z.hit
  obtain ⟨j, hj⟩ := List.mem_iff_getElem?.mp hm
  have hlt : j < kss.length := (List.getElem?_eq_some_iff.mp hj).1
  have := x.got j ks (by rw [Z.len]; exact hlt) hj
  omega

theorem zip_next {Q : Value → Shared → Prop} (hh : A.handled = none) (Z : ZipFix N z TI TO its kss n) (x : ZipAt N z TI TO its kss i s.heap) (hi : i ≤ n)
    (hQ : i < n → ∀ T vs h' tk, s.heap.objs.size ≤ T → h'.get? T = some (tupO vs) → KeysAre vs (col kss i) → ZipAt N z TI TO its kss (i + 1) h' → (∀ b o, b ∉ z :: TO :: its → s.heap.get? b = some o → h'.get? b = some o) →
      Q (.ref T) { s with heap := h', toks := tk })
    (hE : i = n → ∀ e h' tk, (∀ b o, b ∉ z :: TO :: its → s.heap.get? b = some o → h'.get? b = some o) → (∃ o, h'.get? e = some o ∧ o.cls = .type "StopIteration") → E (.ref e) { s with heap := h', toks := tk }) :
    wpAny (model prog w) A (Builtin.«zip.__next__» ⟨[.ref z], []⟩) (fun fin s' => ∃ v, fin = .done (.ret v) ∧ Q v s') E s := by
  obtain ⟨f0, f1, hf, hz⟩ := x.hz
  obtain ⟨os, hos, hto⟩ := x.to
  have nd := Z.nod
  simp only [List.nodup_cons, List.mem_cons, not_or] at nd
  obtain ⟨⟨hzt, hzi⟩, hti, hni⟩ := nd
  have htz : TI ≠ z := fun e => Z.ti (by rw [e]; simp)
  have hne : its ≠ [] := fun e => by
    obtain ⟨ks, hm, _⟩ := Z.hit
    have := Z.len; rw [e] at this
    cases kss with
    | nil => cases hm
    | cons _ _ => cases this
  show wpAny _ _ (field (.ref z) 2 >>= _) _ _ _
  refine wpAny_bind (wpAny_field hz rfl (x := .bool false) rfl ?_)
  show wpAny _ _ (field (.ref z) 3 >>= _) _ _ _
  refine wpAny_bind (wpAny_field hz rfl (x := .ref TI) rfl ?_)
  refine wpAny_bind (wpAny_seqItems x.ti rfl ?_)
  show wpAny _ _ (if (its.map Value.ref).toArray.isEmpty = true then _ else _) _ _ _
  rw [if_neg (by cases its with | nil => exact absurd rfl hne | cons _ _ => simp)]
  have start : ∀ {f0' f1' : Value} {h' : Heap}, h'.get? z = some (zipO f0' f1' TI TO) → Heap.SameBut z s.heap h' → Mid N z TI TO its kss i 0 f0' f1' s.heap h' := fun {f0' f1' h'} hz' sb =>
    ⟨hz', sb.extBut _ _ htz x.ti, fun j it ks a b => by
        rw [if_neg (Nat.not_lt_zero _)]
        exact (x.rd j it ks a b).frame fun b' o hb e => sb.extBut b' o (by
          rcases hb with rfl | hb
          · exact fun e' => hzi (e' ▸ List.mem_of_getElem? a)
          · exact fun e' => hb (by rw [e']; simp)) e,
      fun j ks hj => absurd hj (Nat.not_lt_zero _), fun b o hb e => sb.extBut b o (fun e' => hb (by rw [e']; simp)) e, Nat.le_of_eq sb.1.symm⟩
  show wpAny _ _ (Builtin.SmallTypes.ownedTupleIsFree (.ref z) >>= _) _ _ _
  refine wpAny_bind (wpAny_mono (Q := fun b s₁ => (b = true ∧ s₁ = s) ∨ (b = false ∧ ∃ h' f1', s₁ = { s with heap := h' } ∧ Mid N z TI TO its kss i 0 f0 f1' s.heap h' ∧ h'.get? TO = some (tupO os))) (E := E) ?_ (fun b s₁ hb => ?_) fun _ _ e => e)
  · unfold Builtin.SmallTypes.ownedTupleIsFree
    refine wpAny_bind (wpAny_field hz rfl (x := f0) rfl ?_)
    rcases hf with rfl | ⟨T, rfl⟩
    · exact wpAny_pure (.inl ⟨rfl, rfl⟩)
    · simp only [rawInt]
      refine wpAny_bind (wpAny_loadIfAlive ?_)
      simp only [Int.toNat_natCast]
      split
      · exact wpAny_pure (.inl ⟨rfl, rfl⟩)
      · refine wpAny_bind (wpAny_field hz rfl (x := f1) rfl ?_)
        split
        · exact wpAny_bind (wpAny_setField_rec hz (by simp) fun h₁ hz₁ hs₁ => wpAny_pure (.inr ⟨rfl, h₁, _, rfl, start hz₁ hs₁, hs₁.extBut _ _ (Ne.symm hzt) hto⟩))
        · exact wpAny_bind (wpAny_pure (wpAny_pure (.inr ⟨rfl, s.heap, _, rfl, start hz (.refl ..), hto⟩)))
  rcases hb with ⟨rfl, rfl⟩ | ⟨rfl, h', f1', rfl, M, hto'⟩
  · -- the tuple that the zip keeps is free
    rw [if_pos rfl]
    refine wpAny_bind (wpAny_rule (wpAny_bind (wpAny_field hz rfl (x := .ref TO) rfl ?_)))
    refine wpAny_bind (wpAny_setField_rec hz (by simp) fun h₁ hz₁ hs₁ => ?_)
    have M₁ := start hz₁ hs₁
    have hto₁ : h₁.get? TO = some (tupO os) := hs₁.extBut _ _ (Ne.symm hzt) hto
    refine wpAny_bind (wpAny_mono (wpAny_forIn_list _ (fun rest b s' => b.1 = none ∧ ∃ k h' tk os, rest = (its.map Value.ref).zipIdx.drop k ∧ k ≤ its.length ∧ s' = { s₁ with heap := h', toks := tk } ∧ Mid N z TI TO its kss i k .ellipsis f1 s₁.heap h' ∧
        h'.get? TO = some (tupO os) ∧ os.length = its.length ∧ ∀ (j : Nat) (v : Value), j < k → os[j]? = some v → At kss i j v)
      (fun b s' => b.1 = none ∧ ∃ h' tk os, s' = { s₁ with heap := h', toks := tk } ∧ Mid N z TI TO its kss i its.length .ellipsis f1 s₁.heap h' ∧
        h'.get? TO = some (tupO os) ∧ os.length = its.length ∧ ∀ (j : Nat) (v : Value), os[j]? = some v → At kss i j v) ?turn ?fin _ _ ⟨rfl, 0, h₁, s₁.toks, os, rfl, Nat.zero_le _, rfl, M₁, hto₁, hos, fun j _ hj => absurd hj (Nat.not_lt_zero _)⟩) (fun b s' hb => ?aft) fun _ _ e => e)
    case turn =>
      rintro x' rest b s' ⟨hb, k, h', tk, os, hr, hkl, rfl, M, hto, hos, hat⟩
      obtain ⟨hx1, hx2, hrest⟩ := zip_idx_drop hr.symm
      obtain ⟨x1, x2⟩ := x'
      simp only at hx1 hx2
      subst hx2
      obtain ⟨it, hit, rfl⟩ : ∃ it, its[x2]? = some it ∧ x1 = .ref it := by
        rw [List.getElem?_map] at hx1
        cases q : its[x2]? with
        | none => rw [q] at hx1; cases hx1
        | some it => rw [q] at hx1; cases hx1; exact ⟨it, rfl, rfl⟩
      have hlt : x2 < its.length := (List.getElem?_eq_some_iff.mp hit).1
      obtain ⟨ks, hks⟩ : ∃ ks, kss[x2]? = some ks := ⟨_, List.getElem?_eq_getElem (by rw [← Z.len]; exact hlt)⟩
      have hmem : it ∈ its := List.mem_of_getElem? hit
      have hitz : it ≠ z := fun e => hzi (e ▸ hmem)
      have hitt : it ≠ TO := fun e => hti (e ▸ hmem)
      have hR := M.rd x2 it ks hit hks
      rw [if_neg (Nat.lt_irrefl _)] at hR
      refine wpAny_bind (wpAny_onRaise ?_)
      show wpAny _ _ (Builtin.SmallTypes.nextOf (.ref it) >>= _) _ _ _
      refine wpAny_bind (ready_next hh (by simp [hmem]) hR (fun key v h₂ tk₂ hkey hv hR₂ sb => wpAny_pure ?_) (fun hend h₂ e ext he => ?_) (Nat.le_trans hi (Z.least ks (List.mem_of_getElem? hks))))
      · have M₂ := M.draw Z hit hks hkey hR₂ sb
        have hto₂ : h₂.get? TO = some (tupO os) := sb.extBut _ _ (Ne.symm hitt) hto
        refine wpAny_bind (wpAny_seqItems hto₂ rfl ?_)
        have fw := Z.few
        refine wpAny_bind (wpAny_updateSeq hto₂ rfl ?_ (by rw [List.size_toArray, sizeLine_eq]; omega) (by simp only [Array.size_setIfInBounds, List.size_toArray]; rw [sizeLine_eq]; omega))
        refine wpAny_bind (wpAny_letGo (wpAny_pure ?_))
        have sb₃ := Heap.SameBut.update h₂ TO (Obj.mapSeq (·.setIfInBounds x2 v))
        have hto₃ : (h₂.update TO (Obj.mapSeq (·.setIfInBounds x2 v))).get? TO = some (tupO (os.set x2 v)) := by
          rw [Heap.get?_update_self _ hto₂ rfl]
          simp [Obj.mapSeq]
        refine ⟨rfl, x2 + 1, _, _, _, hrest, hlt, rfl, M₂.own Z (.inr rfl) (sb₃.extBut _ _ hzt M₂.hz) sb₃.extBut (Nat.le_of_eq sb₃.1.symm), hto₃, by rw [List.length_set]; exact hos, fun j u hj hu => ?_⟩
        rw [List.getElem?_set] at hu
        by_cases hjk : x2 = j
        · subst hjk
          rw [if_pos rfl, if_pos (by omega)] at hu
          cases hu
          exact ⟨ks, key, hks, hkey, hv⟩
        · rw [if_neg hjk] at hu
          exact hat j u (by omega) hu
      · obtain ⟨oe, hoe, hce⟩ := he
        have hz₂ := ext _ _ (Ne.symm hitz) M.hz
        have hez : e ≠ z := fun q => by subst q; rw [hz₂] at hoe; cases hoe; simp at hce
        have hin : i = n := by
          have := Z.least ks (List.mem_of_getElem? hks); omega
        refine wpAny_setField_rec hz₂ (by simp) fun h₃ _ sb₃ => hE hin e h₃ _ (fun b o hb q => ?_) ⟨oe, sb₃.extBut _ _ hez hoe, hce⟩
        exact sb₃.extBut b o (fun q' => hb (by rw [q']; simp)) (ext _ _ (fun q' => hb (by rw [q']; simp [hmem])) (M.keep b o hb q))
    case fin =>
      rintro b s' ⟨hb, k, h', tk, os, hr, hkl, rfl, M, hto, hos, hat⟩
      have hk : its.length = k := by
        have := congrArg List.length hr
        simp only [List.length_nil, List.length_drop, List.length_zipIdx, List.length_map] at this
        omega
      subst hk
      exact ⟨hb, h', tk, os, rfl, M, hto, hos, fun j v hv => hat j v (by rw [← hos]; exact (List.getElem?_eq_some_iff.mp hv).1) hv⟩
    case aft =>
      obtain ⟨hb, h', tk, os, rfl, M, hto, hos, hat⟩ := hb
      obtain ⟨b1, b2⟩ := b
      simp only at hb
      subst hb
      have hin := M.full Z hi
      have fw := Z.few
      refine wpAny_bind (wpAny_seqItems hto rfl ?_)
      refine wpAny_bind (wpAny_newTuple ?_ (by show os.length ≤ _; rw [sizeLine_eq]; omega))
      refine wpAny_bind ?_
      unfold Builtin.SmallTypes.ownedTupleHandOut
      have hz₆ : (h'.push (tupO os)).get? z = some (zipO .ellipsis f1 TI TO) := Heap.get?_push_of_some _ M.hz
      refine wpAny_bind (wpAny_setField_rec hz₆ (by simp) fun h₇ hz₇ hs₇ => ?_)
      replace hz₇ : h₇.get? z = some (zipO (rawInt h'.objs.size) f1 TI TO) := hz₇
      refine wpAny_setField_rec hz₇ (by simp) fun h₈ hz₈ hs₈ => ?_
      replace hz₈ : h₈.get? z = some (zipO (rawInt h'.objs.size) (.bool false) TI TO) := hz₈
      have up : ∀ b o, b ≠ z → h'.get? b = some o → h₈.get? b = some o := fun b o hb e => hs₈.extBut _ _ hb (hs₇.extBut _ _ hb (Heap.get?_push_of_some _ e))
      have hTz : h'.objs.size ≠ z := fun e => Nat.lt_irrefl _ (e ▸ Heap.lt_size M.hz)
      refine wpAny_pure ⟨_, rfl, hQ hin h'.objs.size os _ _ M.size (hs₈.extBut _ _ hTz (hs₇.extBut _ _ hTz (Heap.get?_push_size _ rfl))) (keys_of_at (by rw [hos, Z.len]) hat)
        ⟨⟨_, _, .inr ⟨_, rfl⟩, hz₈⟩, up _ _ htz M.ti, ⟨os, hos, up _ _ (Ne.symm hzt) hto⟩, fun k it ks a b => ?_⟩ fun b o hb e => up _ _ (fun e' => hb (by rw [e']; simp)) (M.keep b o hb e)⟩
      have := M.rd k it ks a b
      rw [if_pos (List.getElem?_eq_some_iff.mp a).1] at this
      exact this.frame fun b o hb e => up b o (fun e' => by
        rcases hb with rfl | hb
        · exact hzi (e' ▸ List.mem_of_getElem? a)
        · exact hb (by rw [e']; simp)) e
  · rw [if_neg Bool.false_ne_true]
    refine wpAny_bind (wpAny_mono (forIn_arr _ (fun rest b s' => b.1 = none ∧ ∃ k h' tk, rest = (its.map Value.ref).drop k ∧ k ≤ its.length ∧ s' = { s with heap := h', toks := tk } ∧ Mid N z TI TO its kss i k f0 f1' s.heap h' ∧ h'.get? TO = some (tupO os) ∧
        b.2.size = k ∧ ∀ (j : Nat) (v : Value), b.2[j]? = some v → At kss i j v)
      (fun b s' => b.1 = none ∧ ∃ h' tk, s' = { s with heap := h', toks := tk } ∧ Mid N z TI TO its kss i its.length f0 f1' s.heap h' ∧ h'.get? TO = some (tupO os) ∧
        b.2.size = its.length ∧ ∀ (j : Nat) (v : Value), b.2[j]? = some v → At kss i j v) ?turn ?fin _ _ ⟨rfl, 0, h', s.toks, rfl, Nat.zero_le _, rfl, M, hto', rfl, fun j v hv => by simp at hv⟩) (fun b s' hb => ?aft) fun _ _ e => e)
    case turn =>
      rintro x' rest b s' ⟨hb, k, h', tk, hr, hkl, rfl, M, hto, hsz, hat⟩
      obtain ⟨it, hit, rfl, hrest⟩ : ∃ it, its[k]? = some it ∧ x' = .ref it ∧ rest = (its.map Value.ref).drop (k + 1) := by
        have h1 : (its.map Value.ref)[k]? = some x' := by
          have := congrArg (fun l => l[0]?) hr.symm
          simpa using this
        have h2 := congrArg List.tail hr
        rw [List.getElem?_map] at h1
        cases q : its[k]? with
        | none => rw [q] at h1; cases h1
        | some it => rw [q] at h1; cases h1; exact ⟨it, rfl, rfl, by simpa using h2⟩
      have hlt : k < its.length := (List.getElem?_eq_some_iff.mp hit).1
      obtain ⟨ks, hks⟩ : ∃ ks, kss[k]? = some ks := ⟨_, List.getElem?_eq_getElem (by rw [← Z.len]; exact hlt)⟩
      have hmem : it ∈ its := List.mem_of_getElem? hit
      have hR := M.rd k it ks hit hks
      rw [if_neg (Nat.lt_irrefl _)] at hR
      refine wpAny_bind (wpAny_holding ?_)
      show wpAny _ _ (Builtin.SmallTypes.nextOf (.ref it) >>= _) _ _ _
      refine wpAny_bind (ready_next hh (by simp [hmem]) hR (fun key v h₂ tk₂ hkey hv hR₂ sb => wpAny_pure ?_) (fun hend h₂ e ext he => ?_) (Nat.le_trans hi (Z.least ks (List.mem_of_getElem? hks))))
      · have M₂ := M.draw Z hit hks hkey hR₂ sb
        refine wpAny_pure ⟨rfl, k + 1, _, _, hrest, hlt, rfl, M₂, sb.extBut _ _ (fun e => hti (e ▸ hmem)) hto, by simp [hsz], fun j u hu => ?_⟩
        rw [Array.getElem?_push] at hu
        by_cases hjk : j = k
        · rw [if_pos (by rw [hsz]; exact hjk)] at hu
          cases hu; subst hjk
          exact ⟨ks, key, hks, hkey, hv⟩
        · rw [if_neg (by rw [hsz]; exact hjk)] at hu
          exact hat j u hu
      · have hin : i = n := by
          have := Z.least ks (List.mem_of_getElem? hks); omega
        exact hE hin e h₂ _ (fun b o hb q => ext _ _ (fun q' => hb (by rw [q']; simp [hmem])) (M.keep b o hb q)) he
    case fin =>
      rintro b s' ⟨hb, k, h', tk, hr, hkl, rfl, M, hto, hsz, hat⟩
      have hk : its.length = k := by
        have := congrArg List.length hr
        simp only [List.length_nil, List.length_drop, List.length_map] at this
        omega
      subst hk
      exact ⟨hb, h', tk, rfl, M, hto, hsz, hat⟩
    case aft =>
      obtain ⟨hb, h', tk, rfl, M, hto, hsz, hat⟩ := hb
      obtain ⟨b1, items⟩ := b
      simp only at hb hsz hat
      subst hb
      have hin := M.full Z hi
      have fw := Z.few
      refine wpAny_bind (wpAny_newTuple ?_ (by rw [Array.length_toList]; show items.size ≤ _; rw [sizeLine_eq]; omega))
      refine wpAny_pure ⟨_, rfl, ?_⟩
      have up : ∀ b o, h'.get? b = some o → (h'.push (tupO items.toList)).get? b = some o := fun b o e => Heap.get?_push_of_some _ e
      refine hQ hin h'.objs.size items.toList _ _ M.size (Heap.get?_push_size _ rfl) (keys_of_at (by rw [Array.length_toList, hsz, Z.len]) fun j v hv => hat j v (by simpa using hv))
        ⟨⟨f0, f1', hf, up _ _ M.hz⟩, up _ _ M.ti, ?_, fun k it ks a b => ?_⟩ fun b o hb e => up _ _ (M.keep b o hb e)
      · exact ⟨os, hos, up _ _ hto⟩
      · have := M.rd k it ks a b
        rw [if_pos (List.getElem?_eq_some_iff.mp a).1] at this
        exact this.frame fun b o _ e => up b o e
end
end Mine
end

section
open PySem PySem.W PySem.Calls PyProof.Rows PySem.Spec
namespace Mine
set_option maxRecDepth 100000

/-- an iterator whose items the heap tells -/
structure WalksH (prog : Program) (w : World) (A : Around) (I : Addr) (fp wr : List Addr) (n : Nat) (P : Nat → Value → Heap → Prop) (St : Nat → Heap → Prop) : Prop where
  sub : ∀ b ∈ wr, b ∈ fp
  frame : ∀ i h h', St i h → (∀ b ∈ fp, ∀ o, h.get? b = some o → h'.get? b = some o) → St i h'
  item : ∀ i (s : Shared) (Q : Option Value → Shared → Prop) (E : Value → Shared → Prop), i < n → St i s.heap →
    (∀ v h' tk, P i v h' → St (i + 1) h' → (∀ b o, b ∉ wr → s.heap.get? b = some o → h'.get? b = some o) → Q (some v) { s with heap := h', toks := tk }) → wpAny (model prog w) A (pyNext (.ref I)) Q E s
  done : ∀ (s : Shared) (Q : Option Value → Shared → Prop) (E : Value → Shared → Prop), St n s.heap →
    (∀ h' tk, (∀ b o, b ∉ wr → s.heap.get? b = some o → h'.get? b = some o) → Q none { s with heap := h', toks := tk }) → wpAny (model prog w) A (pyNext (.ref I)) Q E s
  self : ∀ i (s : Shared) (Q : Value → Shared → Prop) (E : Value → Shared → Prop), St i s.heap → Q (.ref I) s → wpAny (model prog w) A (pyIter (.ref I)) Q E s

theorem WalksH.mono_fp {prog : Program} {w : World} {A : Around} {I : Addr} {fp fp' wr : List Addr} {n : Nat} {P : Nat → Value → Heap → Prop} {St : Nat → Heap → Prop} (W : WalksH prog w A I fp wr n P St)
    (h : ∀ b ∈ fp, b ∈ fp') : WalksH prog w A I fp' wr n P St where
  sub := fun b hb => h b (W.sub b hb)
  frame := fun i h₁ h₂ st hk => W.frame i h₁ h₂ st fun b hb o e => hk b (h b hb) o e
  item := W.item
  done := W.done
  self := W.self

abbrev tt : Nat → Bool := fun _ => true

section
variable {prog : Program} {w : World} {A : Around}

structure QuietH (prog : Program) (w : World) (cenv : Env) (x : Str) (elt : Expr) (fp wr : List Addr) (P : Nat → Value → Heap → Prop) (F : Nat → Value → Prop) (href : Heap) (D : Nat) : Prop where
  stay : ∀ i v h h' m, P i v h → h.Ns cenv.locals m → Heap.SameBut cenv.locals h h' → P i v h'
  elt : ∀ (A' : Around) E' i v (s₂ : Shared) m₂, A'.handled = none → A'.depth ≤ D → P i v s₂.heap → s₂.heap.Ns cenv.locals m₂ → m₂ x = some v → (∀ b ∈ fp, b ∉ wr → ∀ o, href.get? b = some o → s₂.heap.get? b = some o) →
    wpAny (model prog w) A' (eval elt cenv) (fun y s₃ => F i y ∧ Keeps s₂ s₃) E' s₂

theorem loopH {elt iter : Expr} {x : Str} {px : Pos} {scope : Scope} {pos : Pos} {I : Addr} {fp wr : List Addr} {n₀ : Nat} {P : Nat → Value → Heap → Prop} {St₀ : Nat → Heap → Prop} {cenv : Env}
    (hh : A.handled = none) (W₀ : ∀ A' : Around, A'.handled = none → WalksH prog w A' I fp wr n₀ P St₀) (F : Nat → Value → Prop) (href : Heap)
    (hx : cenv.kindOf x = some .local) (hp : (cenv.scope.kind == .class || (cenv.scope.kind == .module && cenv.locals != cenv.globals)) = false)
    (hco : cenv.scope.isCoroutine = false) (hCf : cenv.locals ∉ fp) (hq : QuietH prog w cenv x elt fp wr P F href (A.depth + 1)) :
    ∀ (k i : Nat) (s₀ s : Shared) (m : Str → Option Value), n₀ - i = k → i ≤ n₀ → St₀ i s.heap → s.heap.Ns cenv.locals m → GenSince cenv.locals wr s₀ s →
      (∀ b ∈ fp, b ∉ wr → ∀ o, href.get? b = some o → s.heap.get? b = some o) →
      Seg (model prog w) A (fun n s₀ r s₁ => r = .ok .next ∧ (n = 0 ∧ GenSince cenv.locals wr s₀ s₁)) (genProto cenv.locals fp wr tt n₀ F) (passing tt n₀ i).length s₀
        (.compLoop (.GeneratorExp elt [⟨.Name x px, iter, [], 0⟩] scope pos) 0 (.ref I) .none cenv)
        ((model prog w).den (.compLoop (.GeneratorExp elt [⟨.Name x px, iter, [], 0⟩] scope pos) 0 (.ref I) .none cenv)) [] s := by
  have hh' : (A.over (.compLoop (.GeneratorExp elt [⟨.Name x px, iter, [], 0⟩] scope pos) 0 (.ref I) .none cenv) []).handled = none := hh
  have hdep' : (A.over (.compLoop (.GeneratorExp elt [⟨.Name x px, iter, [], 0⟩] scope pos) 0 (.ref I) .none cenv) []).depth ≤ A.depth + 1 := Nat.le_of_eq rfl
  have hCw : cenv.locals ∉ wr := fun h => hCf ((W₀ A hh).sub _ h)
  intro k
  induction k with
  | zero =>
    intro i s₀ s m hk hi hst hn hsince hkp
    have hin : i = n₀ := by omega
    subst hin
    show Seg _ A _ _ _ s₀ _ ((compTurn (.GeneratorExp elt [⟨.Name x px, iter, [], 0⟩] scope pos) 0 (.ref I) .none cenv).onRaise (leaving cenv)) [] s
    rw [compTurn_gen, Sem.onRaise_eq_wrap]
    refine seg_bind_wrap (wpAny_standAt ?_)
    refine seg_bind_wrap ((W₀ _ hh').done s _ _ hst fun h' tk hk' => ?_)
    exact seg_end (.ok .next) ⟨rfl, by rw [passing_end]; rfl, hsince.step fun b o _ hw e => hk' b o hw e⟩
  | succ k ih =>
    intro i s₀ s m hk hi hst hn hsince hkp
    have hlt : i < n₀ := by omega
    show Seg _ A _ _ _ s₀ _ ((compTurn (.GeneratorExp elt [⟨.Name x px, iter, [], 0⟩] scope pos) 0 (.ref I) .none cenv).onRaise (leaving cenv)) [] s
    rw [compTurn_gen, Sem.onRaise_eq_wrap]
    refine seg_bind_wrap (wpAny_standAt ?_)
    refine seg_bind_wrap ((W₀ _ hh').item i s _ _ hlt hst fun v h₁ tk₁ hPv hst₁ hk₁ => ?_)
    refine seg_bind_wrap (wpAny_of_eq (rfl : letOwnedTupleGo (.Name x px) (.ref I) v = pure ()) ?_)
    have hn₁ : h₁.Ns cenv.locals m := hn.at' fun o e => hk₁ _ o hCw e
    refine seg_bind_wrap (wpAny_assign_Name (wpAny_storeName_local hx hn₁ (fun h₂ hn₂ hs₂ => ?_) hp))
    have up₂ : ∀ b o, b ≠ cenv.locals → b ∉ wr → s.heap.get? b = some o → h₂.get? b = some o := fun b o hbC hbw e => hs₂.extBut b o hbC (hk₁ b o hbw e)
    have hst₂ : St₀ (i + 1) h₂ := (W₀ A hh).frame _ _ _ hst₁ fun b hb o e => hs₂.extBut b o (fun h => hCf (h ▸ hb)) e
    have hkp₂ : ∀ b ∈ fp, b ∉ wr → ∀ o, href.get? b = some o → h₂.get? b = some o := fun b hb hbw o e => up₂ b o (fun h => hCf (h ▸ hb)) hbw (hkp b hb hbw o e)
    have hP₂ : P i v h₂ := hq.stay i v h₁ h₂ m hPv hn₁ hs₂
    refine seg_bind_wrap (wpAny_of_eq (by rw [List.forIn_nil]) ?_)
    have hsince₃ : GenSince cenv.locals wr s₀ { s with heap := h₂, toks := tk₁ } := hsince.step fun b o hbC hbw e => up₂ b o hbC hbw e
    rw [passing_true hlt rfl, List.length_cons]
    simp only [if_true]
    have hy : ∀ v, yieldOut cenv v = yieldValue v := fun v => by simp only [yieldOut, hco, Bool.false_eq_true, if_false]
    simp only [hy]
    rw [Sem.bind_eq_wrap', Sem.bind_eq_wrap', Sem.wrap_wrap, Sem.wrap_wrap]
    refine seg_wrap (wpAny_mono (hq.elt _ _ i v _ _ hh' hdep' hP₂ hn₂ (by simp) hkp₂) (fun y s₄ h₄ => ?_) fun _ _ e => e)
    obtain ⟨hFy, h₄, tk₄, rfl, hk₄⟩ := h₄
    refine seg_at (seg_yield rfl rfl rfl ⟨⟨i, passing_here hlt rfl, hFy⟩, hsince₃.step fun b o _ _ e => hk₄ b o e, fun s'' hal => ?_⟩)
    refine seg_again rfl (ih (i + 1) s'' s'' _ (by omega) hlt ((W₀ A hh).frame _ _ _ hst₂ fun b hb o e => hal b (List.mem_cons_of_mem _ hb) o (hk₄ b o e))
      ((hn₂.keeps hk₄).at' fun o e => hal _ (List.mem_cons_self ..) o e) (GenSince.refl _ _ _) fun b hb hbw o e => hal b (List.mem_cons_of_mem _ hb) o (hk₄ b o (hkp₂ b hb hbw o e)))

theorem startH {elt iter : Expr} {x : Str} {px : Pos} {scope : Scope} {pos : Pos} {I : Addr} {fp wr : List Addr} {n₀ : Nat} {P : Nat → Value → Heap → Prop} {St₀ : Nat → Heap → Prop} {cenv : Env}
    (hh : A.handled = none) (W₀ : ∀ A' : Around, A'.handled = none → WalksH prog w A' I fp wr n₀ P St₀) (F : Nat → Value → Prop) (href : Heap)
    (hx : cenv.kindOf x = some .local) (hp : (cenv.scope.kind == .class || (cenv.scope.kind == .module && cenv.locals != cenv.globals)) = false)
    (hco : cenv.scope.isCoroutine = false) (hCf : cenv.locals ∉ fp) (hq : QuietH prog w cenv x elt fp wr P F href (A.depth + 1))
    (s₀ s : Shared) (m : Str → Option Value) (hst : St₀ 0 s.heap) (hn : s.heap.Ns cenv.locals m) (hsince : GenSince cenv.locals wr s₀ s)
    (hkp : ∀ b ∈ fp, b ∉ wr → ∀ o, href.get? b = some o → s.heap.get? b = some o) :
    Seg (model prog w) A (fun n s₀ r s₁ => r = .ok .next ∧ (n = 0 ∧ GenSince cenv.locals wr s₀ s₁)) (genProto cenv.locals fp wr tt n₀ F) (passing tt n₀ 0).length s₀
      (.compStart (.GeneratorExp elt [⟨.Name x px, iter, [], 0⟩] scope pos) 0 (.ref I) .none cenv)
      ((model prog w).den (.compStart (.GeneratorExp elt [⟨.Name x px, iter, [], 0⟩] scope pos) 0 (.ref I) .none cenv)) [] s := by
  have hh' : (A.over (.compStart (.GeneratorExp elt [⟨.Name x px, iter, [], 0⟩] scope pos) 0 (.ref I) .none cenv) []).handled = none := hh
  have loop := loopH (iter := iter) (px := px) (scope := scope) (pos := pos) hh W₀ F href hx hp hco hCf hq n₀ 0 s₀ s m (Nat.sub_zero _) (Nat.zero_le _) hst hn hsince hkp
  show Seg _ A _ _ _ s₀ _ ((compStart (.GeneratorExp elt [⟨.Name x px, iter, [], 0⟩] scope pos) 0 (.ref I) .none cenv).onRaise (leaving cenv)) [] s
  unfold compStart
  rw [Sem.onRaise_eq_wrap]
  show Seg _ A _ _ _ s₀ _ ((ask >>= _).wrap _ _ _ _) [] s
  refine seg_bind_wrap (wpAny_askSetting ?_)
  split
  · exact seg_again rfl loop
  · first
      | exact seg_bind_wrap (wpAny_rule (seg_bind_wrap (wpAny_standAt (seg_bind_wrap ((W₀ _ hh').self 0 s _ _ hst (seg_again rfl loop))))))
      | (refine seg_bind_wrap (wpAny_rule ?_); show Seg _ A _ _ _ s₀ _ ((standAt iter.pos >>= _).wrap _ _ _ _) [] s; exact seg_bind_wrap (wpAny_standAt (seg_bind_wrap ((W₀ _ hh').self 0 s _ _ hst (seg_again rfl loop)))))

theorem freshH {elt iter : Expr} {x : Str} {px : Pos} {scope : Scope} {pos : Pos} {I a : Addr} {g : Nat} {fp wr : List Addr} {n₀ : Nat} {P : Nat → Value → Heap → Prop} {St₀ : Nat → Heap → Prop} {cenv : Env}
    (hh : A.handled = none) (W₀ : ∀ A' : Around, A'.handled = none → WalksH prog w A' I fp wr n₀ P St₀) (F : Nat → Value → Prop)
    (hx : cenv.kindOf x = some .local) (hp : (cenv.scope.kind == .class || (cenv.scope.kind == .module && cenv.locals != cenv.globals)) = false)
    (hco : cenv.scope.isCoroutine = false) (hCf : cenv.locals ∉ fp) {s : Shared} {m : Str → Option Value} (hq : QuietH prog w cenv x elt fp wr P F s.heap (A.depth + 1))
    (hg : s.heap.IsGen a g) (hgs : s.gens[g]? = some (.fresh (.compStart (.GeneratorExp elt [⟨.Name x px, iter, [], 0⟩] scope pos) 0 (.ref I) .none cenv)))
    (hst : St₀ 0 s.heap) (hn : s.heap.Ns cenv.locals m) (hl : s.heap.NoLimit) : GenAt prog w A a g cenv.locals fp wr tt n₀ F 0 s :=
  ⟨hg, hl, _, hgs, fun s'' hal => ⟨rfl, startH (A := A.in1) hh W₀ F s.heap hx hp hco hCf hq s'' s'' m ((W₀ A hh).frame _ _ _ hst fun b hb o e => hal b (List.mem_cons_of_mem _ hb) o e)
    (hn.at' fun o e => hal _ (List.mem_cons_self ..) o e) (GenSince.refl _ _ _) fun b hb _ o e => hal b (List.mem_cons_of_mem _ hb) o e⟩⟩
end

section
variable {prog : Program} {w : World} {A : Around} {E : Value → Shared → Prop} {s : Shared}

theorem genexpH {env : Env} {elt iter : Expr} {x : Str} {px : Pos} {scope : Scope} {cl : List (Str × Addr)} {pos : Pos} {Q : Value → Shared → Prop}
    (hh : A.handled = none) (hco : scope.isCoroutine = false) (hclos : closureFor scope env = pure cl) (hcell : ∀ y ∈ scope.names, y.2 ≠ .cell) (h0 : scope.names.lookup (".0" : Str) = some NameKind.local)
    (hx : scope.names.lookup x = some .local) (hkind : scope.kind = .function) (hroom : A.depth < recursionLimit)
    (h : wpAny (model prog w) A (eval iter env) (fun xv s₁ => wpAny (model prog w) A (pyIter xv) (fun it s₂ => s₂.heap.NoLimit ∧
      wpAny (model prog w) A (genexprCode env pos (env.qual ++ "<genexpr>") scope) (fun code s₃ => wpAny (model prog w) A (builtinsFor env.globals env.builtins) (fun bi s₄ =>
        ∃ I fp wr n₀ P St₀ F, it = .ref I ∧ (∀ A' : Around, A'.handled = none → WalksH prog w A' I fp wr n₀ P St₀) ∧ St₀ 0 s₄.heap ∧ (∀ b ∈ fp, b < s₄.heap.objs.size) ∧ s₄.heap.NoLimit ∧ cStatics ∉ wr ∧
          (∀ href : Heap, (∀ b o, s₄.heap.get? b = some o → href.get? b = some o) →
            QuietH prog w (genEnv scope cl s₄.heap.objs.size code bi env) x elt (List.range s₄.heap.objs.size) wr P F href (A.depth + 1)) ∧
          (∀ a h₅ tk gs, gs.bare = true → s₄.heap.objs.size < a → h₅.objs.size = a + 1 → (∀ b o, s₄.heap.get? b = some o → h₅.get? b = some o) →
            WalksS prog w A.in4 a (a :: s₄.heap.objs.size :: List.range s₄.heap.objs.size) (s₄.heap.objs.size :: wr) (GenOnlyQ s₄.gens.size) (passing tt n₀ 0).length
              (fun j y => ∃ i, (passing tt n₀ 0)[j]? = some i ∧ F i y) (GenAt prog w A.in4 a s₄.gens.size s₄.heap.objs.size (List.range s₄.heap.objs.size) wr tt n₀ F) →
            GenAt prog w A.in4 a s₄.gens.size s₄.heap.objs.size (List.range s₄.heap.objs.size) wr tt n₀ F 0 { s₄ with gens := s₄.gens.push gs, toks := tk, heap := h₅ } →
            Q (.ref a) { s₄ with gens := s₄.gens.push gs, toks := tk, heap := h₅ })) E s₃) E s₂) E s₁) E s)
    (hs : ∀ x, genFold iter env x = pure x) :
    wpAny (model prog w) A (eval (.GeneratorExp elt [⟨.Name x px, iter, [], 0⟩] scope pos) env) Q E s := by
  refine wpAny_GeneratorExp_make hco hclos hcell h0 hkind hroom (wpAny_mono h (fun xv s₁ h₁ => wpAny_mono h₁ (fun it s₂ h₂ => ⟨h₂.1, wpAny_mono h₂.2 (fun code s₃ h₃ => wpAny_mono h₃ (fun bi s₄ h₄ => ?_)
    fun _ _ e => e) fun _ _ e => e⟩) fun _ _ e => e) fun _ _ e => e) hs
  obtain ⟨I, fp, wr, n₀, P, St₀, F, rfl, W₀, hst, hfp, hl₄, hcw, hq, hQ⟩ := h₄
  have hclt : cStatics < s₄.heap.objs.size := let ⟨_, hn, _⟩ := hl₄; hn.lt
  intro h' hn' hs'
  have hsz : h'.objs.size = s₄.heap.objs.size + 1 := by rw [hs'.1, Heap.size_push]
  have keep' : ∀ b o, s₄.heap.get? b = some o → h'.get? b = some o := fun b o e => hs'.extBut b o (Nat.ne_of_lt (Heap.lt_size e)) (Heap.get?_push_of_some _ e)
  have hsub : ∀ b ∈ wr, b ∈ List.range s₄.heap.objs.size := fun b hb => List.mem_range.mpr (hfp b ((W₀ A hh).sub b hb))
  have haC : h'.objs.size ≠ s₄.heap.objs.size := by rw [hsz]; exact Nat.succ_ne_self _
  have haf : h'.objs.size ∉ List.range s₄.heap.objs.size := fun hm => by have := List.mem_range.mp hm; omega
  have keep₅ : ∀ b o, s₄.heap.get? b = some o → (h'.push { cls := .type "generator", data := .fields #[.int s₄.gens.size 0, .str "<genexpr>" (s₄.toks + 1), .str (env.qual ++ "<genexpr>") (s₄.toks + 1 + 1)] }).get? b = some o :=
    fun b o e => Heap.get?_push_of_some _ (keep' b o e)
  refine hQ _ _ _ _ rfl (by omega) (by rw [Heap.size_push]) keep₅ (WalksS.genexpQ (A := A.in4) hh _ _ _ _ wr tt n₀ F haC haf hsub hroom (List.mem_range.mpr hclt) (Nat.ne_of_lt hclt) hcw) ?_
  refine freshH (A := A.in4) (cenv := genEnv scope cl s₄.heap.objs.size code bi env) (m := fun y => if y = ".0" then some (.ref I) else none) hh
    (fun A' hA => (W₀ A' hA).mono_fp fun b hb => List.mem_range.mpr (hfp b hb)) F hx (by simp [genEnv, hkind]) hco
    (fun hm => Nat.lt_irrefl _ (List.mem_range.mp hm)) (hq _ keep₅) ⟨_, _, _, Heap.get?_push_size _ rfl, rfl, rfl, rfl⟩ (Array.getElem?_push_size ..) ((W₀ A hh).frame _ _ _ hst fun b _ o e => keep₅ b o e) (hn'.push _) (hl₄.keeps keep₅)
end
end Mine
namespace Mine
section
variable {prog : Program} {w : World} {A : Around} {E : Value → Shared → Prop} {s : Shared} {N : Nat} {z TI TO : Addr} {its : List Addr} {kss : List (List Key)} {n i : Nat}

theorem pyNext_zip {Q : Option Value → Shared → Prop} (hh : A.handled = none) (Z : ZipFix N z TI TO its kss n) (x : ZipAt N z TI TO its kss i s.heap) (hi : i ≤ n)
    (hQ : i < n → ∀ T vs h' tk, s.heap.objs.size ≤ T → h'.get? T = some (tupO vs) → KeysAre vs (col kss i) → ZipAt N z TI TO its kss (i + 1) h' → (∀ b o, b ∉ z :: TO :: its → s.heap.get? b = some o → h'.get? b = some o) →
      Q (some (.ref T)) { s with heap := h', toks := tk })
    (hE : i = n → ∀ h' tk, (∀ b o, b ∉ z :: TO :: its → s.heap.get? b = some o → h'.get? b = some o) → Q none { s with heap := h', toks := tk }) :
    wpAny (model prog w) A (pyNext (.ref z)) Q E s := by
  obtain ⟨f0, f1, hf, hz⟩ := x.hz
  have hT : s.TypeIs (.ref z) "zip" := ⟨_, hz, rfl⟩
  unfold pyNext
  refine wpAny_bind (wpAny_attempt (wpAny_callSpecial?_slot (name := Str.ofString "__next__") hT F.slot_zip_next
    (wpAny_call_entry F.slot_zip_next hT F.entry_zip_next
      (zip_next (by simpa using hh) Z x hi (fun hlt T vs h' tk a b c d e => wpAny_pure (hQ hlt T vs h' tk a b c d e)) fun heq e h' tk hk he => ?_) (F.args_zip_next_1 _))))
  obtain ⟨o, ho, hc⟩ := he
  refine wpAny_bind (wpAny_isInstance (T := "StopIteration") (b := true) ⟨o, ho, hc⟩ isSubtype_stop ?_)
  exact wpAny_pure (hE heq h' tk hk)

/-- the tuple of a column -/
def ColAt (N : Nat) (kss : List (List Key)) (i : Nat) (v : Value) (h : Heap) : Prop := ∃ T vs, v = .ref T ∧ N ≤ T ∧ h.get? T = some (tupO vs) ∧ KeysAre vs (col kss i)

theorem WalksH.zip (hh : A.handled = none) (Z : ZipFix N z TI TO its kss n) :
    WalksH prog w A z (List.range N) (z :: TO :: its) n (ColAt N kss) (ZipAt N z TI TO its kss) where
  sub := fun b hb => List.mem_range.mpr (Z.lt b (by simp only [List.mem_cons] at hb ⊢; rcases hb with h | h | h <;> simp [h]))
  frame := fun i h h' x hk => x.frame Z fun b o hb e => hk b (List.mem_range.mpr hb) o e
  item := fun i s Q E hi x hQ => pyNext_zip hh Z x (Nat.le_of_lt hi) (fun _ T vs h' tk a b c d e => hQ _ h' tk ⟨T, vs, rfl, Nat.le_trans (by obtain ⟨f0, f1, hf, hz⟩ := x.hz; rw [Z.top]; exact Heap.lt_size hz) a, b, c⟩ d e) fun heq => absurd heq (Nat.ne_of_lt hi)
  done := fun s Q E x hQ => pyNext_zip hh Z x (Nat.le_refl _) (fun h => absurd h (Nat.lt_irrefl _)) fun _ h' tk hk => hQ h' tk hk
  self := fun i s Q E x hQ => by
    obtain ⟨f0, f1, hf, hz⟩ := x.hz
    have hT : s.TypeIs (.ref z) "zip" := ⟨_, hz, rfl⟩
    refine wpAny_pyIter_slot hT F.slot_zip_iter (wpAny_call_entry F.slot_zip_iter hT F.entry_zip_iter ?_ (F.args_zip_iter_1 _))
    show wpAny _ _ (ret (.ref z)) _ _ s
    exact wpAny_pure ⟨_, rfl, "zip", _, hT, F.slot_zip_next.lookup, hQ⟩

/-- what zip is called with: lists or words -/
def SrcOf (h : Heap) (v : Value) (ks : List Key) : Prop :=
  (∃ l vs, v = .ref l ∧ h.IsList l vs ∧ KeysAre vs.toList ks) ∨ (∃ x t, v = .str x t ∧ ks = lett x)
theorem SrcOf.keeps {h h' : Heap} {v : Value} {ks : List Key} (x : SrcOf h v ks) (hk : ∀ b o, h.get? b = some o → h'.get? b = some o) : SrcOf h' v ks := by
  rcases x with ⟨l, vs, a, b, c⟩ | q
  · exact .inl ⟨l, vs, a, b.at fun o e => hk _ o e, c⟩
  · exact .inr q

/-- an iterator over it, fresh -/
def NewIt (h : Heap) (it : Addr) (v : Value) : Prop :=
  (∃ l, v = .ref l ∧ h.IsListIter it l 0) ∨ (∃ x t ty, v = .str x t ∧ (ty = "str_ascii_iterator" ∨ ty = "str_iterator") ∧ h.IsStrIter it ty x t 0)
theorem NewIt.keeps {h h' : Heap} {it : Addr} {v : Value} (x : NewIt h it v) (hk : ∀ b o, h.get? b = some o → h'.get? b = some o) : NewIt h' it v := by
  rcases x with ⟨l, a, b⟩ | ⟨x, t, ty, a, b, o, ho, r⟩
  · exact .inl ⟨l, a, b.at fun o e => hk _ o e⟩
  · exact .inr ⟨x, t, ty, a, b, o, hk _ _ ho, r⟩

theorem newIt {v : Value} {ks : List Key} {Q : Value → Shared → Prop} (x : SrcOf s.heap v ks)
    (h : ∀ o, NewIt (s.heap.push o) s.heap.objs.size v → Q (.ref s.heap.objs.size) { s with heap := s.heap.push o }) : wpAny (model prog w) A (pyIter v) Q E s := by
  rcases x with ⟨l, vs, rfl, hl, _⟩ | ⟨x, t, rfl, _⟩
  · exact wpAny_pyIter_list hl (h _ (.inl ⟨l, rfl, ⟨_, Heap.get?_push_size _ rfl, rfl, rfl⟩⟩))
  · cases ha : x.cps.all (· < 128)
    · exact wpAny_pyIter_wide ha (h _ (.inr ⟨x, t, _, rfl, .inr rfl, ⟨_, Heap.get?_push_size _ rfl, rfl, rfl⟩⟩))
    · exact wpAny_pyIter_ascii ha (h _ (.inr ⟨x, t, _, rfl, .inl rfl, ⟨_, Heap.get?_push_size _ rfl, rfl, rfl⟩⟩))

abbrev itsOf (b n : Nat) : List Addr := (List.range n).map (b + ·)

structure ItersOn (h₀ h : Heap) (vs : List Value) (k : Nat) : Prop where
  size : h.objs.size = h₀.objs.size + k
  keep : ∀ b o, h₀.get? b = some o → h.get? b = some o
  its : ∀ (j : Nat) (v : Value), j < k → vs[j]? = some v → NewIt h (h₀.objs.size + j) v

theorem iterAll_N {vs : List Value} {kss : List (List Key)} {Q : List Value → Shared → Prop} (hv : ∀ (j : Nat) (v : Value), vs[j]? = some v → ∃ ks, SrcOf s.heap v ks)
    (h : ∀ h', ItersOn s.heap h' vs vs.length → Q ((itsOf s.heap.objs.size vs.length).map .ref) { s with heap := h' }) :
    wpAny (model prog w) A (Builtin.SmallTypes.iterAll vs) Q E s := by
  unfold Builtin.SmallTypes.iterAll
  refine wpAny_bind (wpAny_mono (wpAny_forIn_list _ (fun rest b s' => ∃ k h', rest = vs.drop k ∧ k ≤ vs.length ∧ s' = { s with heap := h' } ∧ ItersOn s.heap h' vs k ∧ b.toList = (itsOf s.heap.objs.size k).map .ref)
    (fun b s' => ∃ h', s' = { s with heap := h' } ∧ ItersOn s.heap h' vs vs.length ∧ b.toList = (itsOf s.heap.objs.size vs.length).map .ref) ?turn ?fin _ _ ⟨0, s.heap, rfl, Nat.zero_le _, rfl, ⟨rfl, fun _ _ e => e, fun j _ hj => absurd hj (Nat.not_lt_zero _)⟩, rfl⟩) (fun b s' hb => ?aft) fun _ _ e => e)
  case turn =>
    rintro x rest b s' ⟨k, h', hr, hk, rfl, I, hb⟩
    have h1 : vs[k]? = some x := by
      have := congrArg (fun l => l[0]?) hr.symm
      simpa using this
    have hrest : rest = vs.drop (k + 1) := by simpa using congrArg List.tail hr
    obtain ⟨ks, hsrc⟩ := hv k x h1
    refine wpAny_bind (wpAny_holding (newIt (hsrc.keeps I.keep) fun o hn => ?_))
    refine wpAny_pure ⟨k + 1, _, hrest, (List.getElem?_eq_some_iff.mp h1).1, rfl, ⟨?_, fun b o e => Heap.get?_push_of_some _ (I.keep b o e), fun j v hj e => ?_⟩, ?_⟩
    · show (h'.push o).objs.size = _
      rw [Heap.size_push, I.size]; omega
    · by_cases hjk : j = k
      · subst hjk
        rw [h1] at e; cases e
        have := hn
        rw [show ({ s with heap := h' } : Shared).heap.objs.size = s.heap.objs.size + j from I.size] at this
        exact this
      · exact (I.its j v (by omega) e).keeps fun b o e => Heap.get?_push_of_some _ e
    · rw [Array.toList_push, hb, show ({ s with heap := h' } : Shared).heap.objs.size = s.heap.objs.size + k from I.size]
      simp [itsOf, List.range_succ]
  case fin =>
    rintro b s' ⟨k, h', hr, hk, rfl, I, hb⟩
    have : vs.length = k := by
      have := congrArg List.length hr
      simp only [List.length_nil, List.length_drop] at this
      omega
    subst this
    exact ⟨h', rfl, I, hb⟩
  case aft =>
    obtain ⟨h', rfl, I, hb⟩ := hb
    refine wpAny_pure ?_
    rw [hb]; exact h h' I
end
end Mine
end

section
open PySem PySem.W PySem.Calls PyProof.Rows PySem.Spec
namespace Mine
set_option maxRecDepth 100000

section
variable {prog : Program} {w : World} {A : Around} {E : Value → Shared → Prop} {s : Shared}

def ZipMade (h₀ h : Heap) (vs : List Value) : Prop :=
  let b := h₀.objs.size
  let n := vs.length
  h.get? (b + n + 2) = some (zipO .none (.bool false) (b + n) (b + n + 1)) ∧ h.get? (b + n) = some (tupO ((itsOf b n).map .ref)) ∧ h.get? (b + n + 1) = some (tupO (vs.map fun _ => .none)) ∧
    (∀ (j : Nat) (v : Value), vs[j]? = some v → NewIt h (b + j) v) ∧ h.objs.size = b + n + 3 ∧ ∀ a o, h₀.get? a = some o → h.get? a = some o

theorem meets_zip_newN (vs : List Value) (hlen : vs.length < 1000) :
    Meets (Builtin.«zip.__new__» ⟨.type "zip" :: vs, []⟩) (fun _ R s => (∀ (j : Nat) (v : Value), vs[j]? = some v → ∃ ks, SrcOf s.heap v ks) ∧
      ∀ h', ZipMade s.heap h' vs → R (.ok (.ret (.ref (s.heap.objs.size + vs.length + 2)))) { s with heap := h' }) :=
  .of_wp fun prog w A R s h => by
    obtain ⟨hsrc, h⟩ := h
    obtain ⟨hp, g, d, tk, os⟩ := s
    have hsub := sub_zip
    unfold Builtin.«zip.__new__» Builtin.SmallTypes.newClass
    dsimp only
    have it := fun (A : Around) (Q : List Value → Shared → Prop) (E : Value → Shared → Prop) => iterAll_N (prog := prog) (w := w) (A := A) (E := E) (Q := Q) (kss := []) hsrc
    wp_walk using (it _ _ _)
    intro h' I
    have hn : ((itsOf hp.objs.size vs.length).map Value.ref).length = vs.length := by simp
    refine wpAny_bind (wpAny_newTuple ?_ (by rw [hn, sizeLine_eq]; omega))
    refine wpAny_bind (wpAny_newTuple ?_ (by rw [List.length_map, hn, sizeLine_eq]; omega))
    refine wpAny_bind (m := Builtin.SmallTypes.newRecord _ _) ?_
    show wpAny _ _ (newObj (.type "zip") (.fields #[.none, .bool false, .bool false, .ref h'.objs.size, .ref (h'.push (tupO ((itsOf hp.objs.size vs.length).map .ref))).objs.size])) _ _ _
    refine wpAny_newObj_type ?_
    refine wpAny_pure ⟨_, rfl, ?_⟩
    have hs : h'.objs.size = hp.objs.size + vs.length := I.size
    have hs1 : (h'.push (tupO ((itsOf hp.objs.size vs.length).map .ref))).objs.size = hp.objs.size + vs.length + 1 := by rw [Heap.size_push, hs]
    have hs2 : ((h'.push (tupO ((itsOf hp.objs.size vs.length).map .ref))).push (tupO (((itsOf hp.objs.size vs.length).map Value.ref).map fun _ => Value.none))).objs.size = hp.objs.size + vs.length + 2 := by rw [Heap.size_push, hs1]
    have e0 : (((itsOf hp.objs.size vs.length).map Value.ref).map fun _ => Value.none) = vs.map fun _ => Value.none := by
      apply List.ext_getElem?
      intro j
      simp only [List.getElem?_map, List.getElem?_range]
      by_cases hj : j < vs.length
      · simp [hj]
      · simp [hj, List.getElem?_eq_none (Nat.not_lt.mp hj)]
    have key := h (((h'.push (tupO ((itsOf hp.objs.size vs.length).map .ref))).push (tupO (((itsOf hp.objs.size vs.length).map Value.ref).map fun _ => Value.none))).push
      (zipO .none (.bool false) h'.objs.size (h'.push (tupO ((itsOf hp.objs.size vs.length).map .ref))).objs.size)) ⟨?_, ?_, ?_, fun j v e => ?_, ?_, fun a o e => ?_⟩
    · show R (.ok (.ret (.ref _))) _
      rw [show ({ heap := hp, gens := g, drawn := d, toks := tk, os := os } : Shared).heap.objs.size + vs.length + 2 = _ from hs2.symm] at key
      exact key
    · have := Heap.get?_push_size (h := ((h'.push (tupO ((itsOf hp.objs.size vs.length).map .ref))).push (tupO (((itsOf hp.objs.size vs.length).map Value.ref).map fun _ => Value.none)))) (o := zipO .none (.bool false) h'.objs.size (h'.push (tupO ((itsOf hp.objs.size vs.length).map .ref))).objs.size) rfl
      rw [hs2] at this
      rw [this, hs, hs1]
    · rw [show ({ heap := hp, gens := g, drawn := d, toks := tk, os := os } : Shared).heap.objs.size + vs.length = h'.objs.size from hs.symm]
      exact Heap.get?_push_of_some _ (Heap.get?_push_of_some _ (Heap.get?_push_size _ rfl))
    · rw [show ({ heap := hp, gens := g, drawn := d, toks := tk, os := os } : Shared).heap.objs.size + vs.length + 1 = _ from hs1.symm, ← e0]
      exact Heap.get?_push_of_some _ (Heap.get?_push_size _ rfl)
    · exact (I.its j v (List.getElem?_eq_some_iff.mp e).1 e).keeps fun b o q => Heap.get?_push_of_some _ (Heap.get?_push_of_some _ (Heap.get?_push_of_some _ q))
    · rw [Heap.size_push, hs2]
    · exact Heap.get?_push_of_some _ (Heap.get?_push_of_some _ (Heap.get?_push_of_some _ (I.keep a o e)))

theorem typeCall_zip_N (vs : List Value) : checkTypeCall "zip" ⟨vs, []⟩ = pure () := by kernel_rfl
theorem pre_zip (vs : List Value) : checkBuiltinCall "zip.__new__" ⟨.type "zip" :: vs, []⟩ = (match Manifest.signature? "zip.__new__" with | some sig => Bind.checkArgs "zip.__new__" sig ⟨.type "zip" :: vs, []⟩ | none => pure ()) := by kernel_rfl
theorem sig_zip_new : Manifest.signature? "zip.__new__" = Manifest.sig_zip.lookup "__new__" := signature?_of (id := "zip.__new__") (n := ['_', '_', 'w', 'e', 'n', '_', '_']) (o := ['p', 'i', 'z']) (by kernel_rfl) F.owner_zip
theorem newCall_zip_N (vs : List Value) (h : 2 ≤ vs.length ∧ vs.length ≤ 4) : checkBuiltinCall "zip.__new__" ⟨.type "zip" :: vs, []⟩ = pure () := by
  rw [pre_zip, sig_zip_new]
  match vs, h with
  | [_, _], _ => kernel_rfl
  | [_, _, _], _ => kernel_rfl
  | [_, _, _, _], _ => kernel_rfl
  | [], h => simp at h
  | [_], h => simp at h
  | _ :: _ :: _ :: _ :: _ :: _, h => simp at h
theorem args_object_init_N (obj : Value) (vs : List Value) : argsOk "object.__init__" ⟨obj :: vs, []⟩ := by
  unfold argsOk; rw [signature?_of (id := "object.__init__") (n := ['_', '_', 't', 'i', 'n', 'i', '_', '_']) (o := ['t', 'c', 'e', 'j', 'b', 'o']) (by kernel_rfl) F.owner_object]; kernel_rfl

theorem call_zip_N {vs : List Value} {Q : Value → Shared → Prop} (hl : 2 ≤ vs.length ∧ vs.length ≤ 4) (hsrc : ∀ (j : Nat) (v : Value), vs[j]? = some v → ∃ ks, SrcOf s.heap v ks)
    (h : ∀ h', ZipMade s.heap h' vs → Q (.ref (s.heap.objs.size + vs.length + 2)) { s with heap := h' }) :
    wpAny (model prog w) A (call (.type "zip") vs) Q E s := by
  refine callType_new F.called_zip (by decide) (typeCall_zip_N vs) (newCall_zip_N vs hl) (fun obj => args_object_init_N obj vs) F.entry_zip_new (meets_zip_newN vs (by omega)) ⟨hsrc, fun h' m => ?_⟩
  show _ ∧ _
  exact ⟨⟨_, m.1, rfl⟩, h h' m⟩

theorem its_facts (b n : Nat) : (∀ a ∈ (List.range n).map (b + ·), b ≤ a ∧ a < b + n) ∧ ((b + n + 2) :: (b + n + 1) :: (List.range n).map (b + ·)).Nodup ∧ b + n ∉ (b + n + 2) :: (b + n + 1) :: (List.range n).map (b + ·) ∧
    (∀ a ∈ (b + n + 2) :: (b + n) :: (b + n + 1) :: (List.range n).map (b + ·), a < b + n + 3) ∧ (∀ a, a < b → a ∉ (b + n + 2) :: (b + n + 1) :: (List.range n).map (b + ·)) := by
  have hmem : ∀ a ∈ (List.range n).map (b + ·), b ≤ a ∧ a < b + n := fun a ha => by
    simp only [List.mem_map, List.mem_range] at ha
    obtain ⟨j, hj, rfl⟩ := ha
    omega
  refine ⟨hmem, List.nodup_cons.mpr ⟨fun q => ?_, List.nodup_cons.mpr ⟨fun q => ?_, List.Pairwise.map _ (fun a b hab e => hab (by omega)) List.nodup_range⟩⟩, fun q => ?_, fun a q => ?_, fun a ha q => ?_⟩
  · rcases List.mem_cons.mp q with q | q
    · omega
    · have := hmem _ q; omega
  · have := hmem _ q; omega
  · rcases List.mem_cons.mp q with q | q
    · omega
    · rcases List.mem_cons.mp q with q | q
      · omega
      · have := hmem _ q; omega
  · simp only [List.mem_cons] at q
    rcases q with q | q | q | q
    · omega
    · omega
    · omega
    · have := hmem _ q; omega
  · simp only [List.mem_cons] at q
    rcases q with q | q | q
    · omega
    · omega
    · have := hmem _ q; omega

/-- a zip just made -/
theorem ZipMade.at {h₀ h : Heap} {vs : List Value} {kss : List (List Key)} {n : Nat} (m : ZipMade h₀ h vs) (hlen : vs.length = kss.length) (hl : vs.length < 1000) (hsrc : ∀ (j : Nat) (v : Value) (ks : List Key), vs[j]? = some v → kss[j]? = some ks → SrcOf h₀ v ks)
    (least : ∀ ks ∈ kss, n ≤ ks.length) (hit : ∃ ks ∈ kss, ks.length = n) :
    ZipFix (h₀.objs.size + vs.length + 3) (h₀.objs.size + vs.length + 2) (h₀.objs.size + vs.length) (h₀.objs.size + vs.length + 1) (itsOf h₀.objs.size vs.length) kss n ∧
    ZipAt (h₀.objs.size + vs.length + 3) (h₀.objs.size + vs.length + 2) (h₀.objs.size + vs.length) (h₀.objs.size + vs.length + 1) (itsOf h₀.objs.size vs.length) kss 0 h := by
  obtain ⟨m1, m2, m3, m4, m5, m6⟩ := m
  obtain ⟨f1, f2, f3, f4, f5⟩ := its_facts h₀.objs.size vs.length
  refine ⟨⟨by simp [itsOf, hlen], f2, f3, least, hit, by simpa [itsOf] using hl, f4, rfl⟩, ⟨⟨_, _, .inl rfl, m1⟩, m2, ⟨_, by simp [itsOf], m3⟩, fun k it ks a b => ?_⟩⟩
  · have hk : k < vs.length := by
      have := (List.getElem?_eq_some_iff.mp a).1
      simpa [itsOf] using this
    have hit' : it = h₀.objs.size + k := by
      simp only [itsOf, List.getElem?_map, List.getElem?_range hk, Option.map_some, Option.some.injEq] at a
      exact a.symm
    subst hit'
    have hv : vs[k]? = some vs[k] := List.getElem?_eq_getElem hk
    have hs := hsrc k _ ks hv b
    rcases m4 k _ hv with ⟨l, e, hi⟩ | ⟨x, t, ty, e, hty, hi⟩
    · rcases hs with ⟨l', us, e', hL, hK⟩ | ⟨x, t, e', _⟩
      · rw [e] at e'; cases e'
        have hlt : l < h₀.objs.size := by obtain ⟨o, ho, _⟩ := hL; exact Heap.lt_size ho
        refine .inl ⟨l, us, ⟨f5 l hlt, Nat.lt_of_lt_of_le hlt (by omega)⟩, hi, hL.at fun o q => m6 _ o q, hK⟩
      · rw [e] at e'; cases e'
    · rcases hs with ⟨l', us, e', hL, hK⟩ | ⟨x', t', e', hK⟩
      · rw [e] at e'; cases e'
      · rw [e] at e'; cases e'
        exact .inr ⟨x, t, ty, hty, hi, hK⟩
end
end Mine
end

section
open PySem PySem.W PySem.Calls PyProof.Rows PySem.Spec
namespace Mine
set_option maxRecDepth 100000

def cnt (kss : List (List Key)) (n : Nat) : Nat := ((List.range n).filter fun i => !same (col kss i)).length
def cntVal (kss : List (List Key)) (j : Nat) : Int := if same (col kss j) then 0 else 1
theorem cnt_sum (kss : List (List Key)) : ∀ n, preSum (cntVal kss) n = cnt kss n
  | 0 => rfl
  | n + 1 => by
    rw [preSum, cnt_sum kss n]
    unfold cnt cntVal
    rw [List.range_succ, List.filter_append, List.length_append]
    cases h : same (col kss n) <;> simp [h]
theorem lett_length (x : Str) : (lett x).length = x.length := by simp [lett, Str.length]
theorem passing_all (n : Nat) : passing tt n 0 = List.range n := by
  unfold passing; rw [List.drop_zero, List.filter_eq_self]; simp

section
variable {prog : Program} {w : World} {A : Around} {E : Value → Shared → Prop} {s : Shared} {g : Heap} {L bm : Addr} {ob : Obj} {m mg : Str → Option Value} {news : List (Addr × Obj)} {ps : Array Value}

theorem genexprCode_N {M : Model} {env : Env} {pos : Pos} {q : Str} {scope : Scope} {Q : Value → Shared → Prop} (hc : env.code = .ref 169) (C : CodeHd s.heap 169 167) (hP : s.heap.get? 167 = some (tabObj ps)) (ht : TriplesOk ps.toList)
    (h : ∀ code h' tk ps', Heap.ExtBut 167 s.heap h' → s.heap.objs.size ≤ h'.objs.size → h'.get? 167 = some (tabObj ps') → TriplesOk ps'.toList → Q code { s with heap := h', toks := tk }) :
    wpAny M A (genexprCode env pos q scope) Q E s := by
  cases hnf : codeAmong pos ps.toList with
  | none =>
    refine wpAny_genexprCodeX hc (C.code hP ht) (C.tab hP) hnf fun c' h' tk he h1 h2 _ _ h5 _ => h _ h' tk _ he (Nat.le_trans h1 (Nat.le_of_lt h2)) h5.2 ?_
    rw [Array.toList_append]
    exact TriplesOk_snoc _ _ _ _ ht
  | some cv =>
    obtain ⟨o, vs, file, tf, flags, tg, inF, text, tt, op, ho, hd, h11, h2, h7, h9, h10, hop, hpd, htr, hne⟩ := C.code hP ht
    unfold genexprCode codeAt
    rw [hc, if_neg (show ¬ ((Value.ref 169 == Value.none) = true) from Bool.false_ne_true)]
    refine wpAny_bind (wpAny_fieldsOf ho hd ?_)
    rw [h11]
    refine wpAny_bind (wpAny_fieldsOf hop hpd ?_)
    rw [hnf]
    exact wpAny_pure (h cv s.heap s.toks ps (fun _ _ _ e => e) (Nat.le_refl _) hP ht)

abbrev GenF (kss : List (List Key)) (n : Nat) (j : Nat) (y : Value) : Prop := ∃ i, (passing tt n 0)[j]? = some i ∧ y = .bool (!same (col kss i))

theorem ZipAt.tab {N z TI TO P : Nat} {its : List Addr} {kss : List (List Key)} {i : Nat} {h h' : Heap} (x : ZipAt N z TI TO its kss i h) (hP : h.get? P = some (tabObj ps)) (he : Heap.ExtBut P h h') : ZipAt N z TI TO its kss i h' := by
  obtain ⟨f0, f1, hf, hz⟩ := x.hz
  obtain ⟨os, hos, hto⟩ := x.to
  have ne : ∀ {b : Addr} {o : Obj}, h.get? b = some o → o.cls ≠ .none → b ≠ P := fun e hc q => by
    rw [q, hP] at e; cases e; exact hc rfl
  refine ⟨⟨f0, f1, hf, he _ _ (ne hz (by simp)) hz⟩, he _ _ (ne x.ti (by simp)) x.ti, ⟨os, hos, he _ _ (ne hto (by simp)) hto⟩, fun k it ks a b => ?_⟩
  rcases x.rd k it ks a b with ⟨l, vs, hl, ⟨o1, e1, c1, d1⟩, ⟨o2, e2, c2, d2⟩, q⟩ | ⟨x, t, ty, hty, ⟨o, ho, hc, r⟩, q⟩
  · exact .inl ⟨l, vs, hl, ⟨o1, he _ _ (ne e1 (by rw [c1]; simp)) e1, c1, d1⟩, ⟨o2, he _ _ (ne e2 (by rw [c2]; simp)) e2, c2, d2⟩, q⟩
  · exact .inr ⟨x, t, ty, hty, ⟨o, he _ _ (ne ho (by rw [hc]; simp)) ho, hc, r⟩, q⟩

/-- what stands once the zip of a generator is made -/
def ZipPost (prog : Program) (w : World) (A : Around) (env : Env) (scope : Scope) (cl : List (Str × Addr)) (pos : Pos) (q x : Str) (elt : Expr) (Q : Value → Shared → Prop) (E : Value → Shared → Prop) (xv : Value) (s₁ : Shared) : Prop :=
  wpAny (model prog w) A (pyIter xv) (fun it s₂ => s₂.heap.NoLimit ∧
      wpAny (model prog w) A (genexprCode env pos q scope) (fun code s₃ => wpAny (model prog w) A (builtinsFor env.globals env.builtins) (fun bi s₄ =>
        ∃ I fp wr n₀ P St₀ F, it = .ref I ∧ (∀ A' : Around, A'.handled = none → WalksH prog w A' I fp wr n₀ P St₀) ∧ St₀ 0 s₄.heap ∧ (∀ b ∈ fp, b < s₄.heap.objs.size) ∧ s₄.heap.NoLimit ∧ cStatics ∉ wr ∧
          (∀ href : Heap, (∀ b o, s₄.heap.get? b = some o → href.get? b = some o) →
            QuietH prog w (genEnv scope cl s₄.heap.objs.size code bi env) x elt (List.range s₄.heap.objs.size) wr P F href (A.depth + 1)) ∧
          (∀ a h₅ tk gs, gs.bare = true → s₄.heap.objs.size < a → h₅.objs.size = a + 1 → (∀ b o, s₄.heap.get? b = some o → h₅.get? b = some o) →
            WalksS prog w A.in4 a (a :: s₄.heap.objs.size :: List.range s₄.heap.objs.size) (s₄.heap.objs.size :: wr) (GenOnlyQ s₄.gens.size) (passing tt n₀ 0).length
              (fun j y => ∃ i, (passing tt n₀ 0)[j]? = some i ∧ F i y) (GenAt prog w A.in4 a s₄.gens.size s₄.heap.objs.size (List.range s₄.heap.objs.size) wr tt n₀ F) →
            GenAt prog w A.in4 a s₄.gens.size s₄.heap.objs.size (List.range s₄.heap.objs.size) wr tt n₀ F 0 { s₄ with gens := s₄.gens.push gs, toks := tk, heap := h₅ } →
            Q (.ref a) { s₄ with gens := s₄.gens.push gs, toks := tk, heap := h₅ })) E s₃) E s₂) E s₁

theorem genexpZ {prog : Program} {w : World} {A : Around} {E : Value → Shared → Prop} {s : Shared} {env : Env} {elt iter : Expr} {x : Str} {px : Pos} {scope : Scope} {cl : List (Str × Addr)} {pos : Pos} {Q : Value → Shared → Prop}
    (hh : A.handled = none) (hco : scope.isCoroutine = false) (hclos : closureFor scope env = pure cl) (hcell : ∀ y ∈ scope.names, y.2 ≠ .cell) (h0 : scope.names.lookup (".0" : Str) = some NameKind.local)
    (hx : scope.names.lookup x = some .local) (hkind : scope.kind = .function) (hroom : A.depth < recursionLimit)
    (h : wpAny (model prog w) A (eval iter env) (ZipPost prog w A env scope cl pos (env.qual ++ "<genexpr>") x elt Q E) E s)
    (hs : ∀ x, genFold iter env x = pure x) :
    wpAny (model prog w) A (eval (.GeneratorExp elt [⟨.Name x px, iter, [], 0⟩] scope pos) env) Q E s :=
  genexpH hh hco hclos hcell h0 hx hkind hroom h hs

theorem genzip {env : Env} {elt : Expr} {x q : Str} {pos : Pos} {scope : Scope} {cl : List (Str × Addr)} {vs : List Value} {kss : List (List Key)} {n : Nat} {own : List (Addr × Obj)} {Q : Value → Shared → Prop}
    (hh : A.handled = none) (hroom : A.depth < recursionLimit) (F : Fr g L s.heap m) (N : News g L s.heap news) (BM : BMod g mainGlobals mg bm ob) (hlim : g.NoLimit) (C : CodeHd g 169 167) (hG : AllBare s.gens)
    (hcode : env.code = .ref 169) (hgl : env.globals = mainGlobals) (htab : (167, tabObj ps) ∈ news) (ht : TriplesOk ps.toList) (hown : ∀ p ∈ own, p ∈ news ∧ p.1 ≠ 167)
    (hl : 2 ≤ vs.length ∧ vs.length ≤ 4) (hlen : vs.length = kss.length) (hsrc : ∀ (j : Nat) (v : Value) (ks : List Key), vs[j]? = some v → kss[j]? = some ks → SrcOf s.heap v ks)
    (least : ∀ ks ∈ kss, n ≤ ks.length) (hit : ∃ ks ∈ kss, ks.length = n)
    (helt : ∀ (C : Addr) (code : Value) (A' : Around) E' (i : Nat) (T : Addr) (us : List Value) (t : Shared) (m₂ : Str → Option Value), A'.handled = none → A'.depth ≤ A.depth + 1 → KeysAre us (col kss i) → Fr g C t.heap m₂ → News g C t.heap ((T, tupO us) :: own) → m₂ x = some (.ref T) →
      wpAny (model prog w) A' (eval elt (genEnv scope cl C code builtinsNs env)) (fun y s₃ => y = .bool (!same (col kss i)) ∧ Keeps t s₃) E' t)
    (hQ : ∀ a s' ps', Fr g L s'.heap m → News g L s'.heap ((167, tabObj ps') :: own) → TriplesOk ps'.toList → s'.os = s.os → AllBare s'.gens → (∃ K, L ≤ K ∧ (∀ p ∈ (167, tabObj ps') :: own, p.1 ≤ K) ∧ Gen prog w A K a n (GenF kss n) s') → Q (.ref a) s') :
    wpAny (model prog w) A (call (.type "zip") vs) (ZipPost prog w A env scope cl pos q x elt Q E) E s := by
  unfold ZipPost
  refine call_zip_N hl (fun j v e => ?_) fun h₂ M => ?_
  · have hj : j < kss.length := by rw [← hlen]; exact (List.getElem?_eq_some_iff.mp e).1
    exact ⟨_, hsrc j v _ e (List.getElem?_eq_getElem hj)⟩
  obtain ⟨Z, ZA⟩ := M.at hlen (by omega) hsrc least hit
  have m6 := M.2.2.2.2.2
  have m5 := M.2.2.2.2.1
  have hb : s.heap.objs.size ≤ s.heap.objs.size + vs.length + 2 := by omega
  have F₂ : Fr g L h₂ m := F.keeps m6
  have N₂ : News g L h₂ news := fun p hp => ⟨m6 _ _ (N p hp).1, (N p hp).2⟩
  have tab₂ := (N₂ _ htab).1
  refine (WalksH.zip (prog := prog) (w := w) (A := A) hh Z).self 0 _ _ _ ZA ⟨hlim.keeps F₂.keep, ?_⟩
  refine genexprCode_N hcode (C.keeps F₂.keep) tab₂ ht fun code h₃ tk₃ ps' he hsz tab₃ ht₃ => ?_
  have F₃ : Fr g L h₃ m := by
    obtain ⟨oL, a1, a2, hL, r⟩ := F₂.ns
    have no : g.get? 167 = none := (N _ htab).2.2
    have hL167 : L ≠ 167 := fun e => (N _ htab).2.1 e.symm
    exact ⟨⟨oL, a1, a2, he _ _ hL167 hL, r⟩, fun b o e => he b o (fun q => by rw [q, no] at e; cases e) (F₂.keep b o e), F₂.above⟩
  have N₃ : News g L h₃ ((167, tabObj ps') :: own) := fun p hp => by
    rcases List.mem_cons.mp hp with rfl | hp
    · exact ⟨tab₃, (N _ htab).2⟩
    · exact ⟨he _ _ (hown p hp).2 (N₂ p (hown p hp).1).1, (N p (hown p hp).1).2⟩
  have B₃ := BM.keeps F₃.keep
  have lb : ∀ b ∈ (s.heap.objs.size + vs.length + 2) :: (s.heap.objs.size + vs.length + 1) :: itsOf s.heap.objs.size vs.length, s.heap.objs.size ≤ b := fun b hb => by
    obtain ⟨f1, f2, f3, f4, f5⟩ := its_facts s.heap.objs.size vs.length
    exact Nat.not_lt.mp fun hlt => f5 b hlt hb
  have h167 : (167 : Nat) < s.heap.objs.size := Heap.lt_size (N _ htab).1
  rw [hgl]
  refine wpAny_builtinsFor B₃.ns B₃.name B₃.ne B₃.obj B₃.cls B₃.dict B₃.data ?_
  have ZA₃ := ZA.tab tab₂ he
  have hLlt : L < s.heap.objs.size := F.ns.lt
  have hglt : g.objs.size ≤ h₃.objs.size := Nat.le_trans F₃.above (Nat.le_of_lt F₃.ns.lt)
  have hN3 : s.heap.objs.size + vs.length + 3 ≤ h₃.objs.size := by rw [← m5]; exact hsz
  have hB : s.heap.objs.size ≤ s.heap.objs.size + vs.length + 3 := by omega
  have hB3 : s.heap.objs.size ≤ h₃.objs.size := Nat.le_trans hB hN3
  have base : ∀ b o, g.get? b = some o → b < s.heap.objs.size := fun b o e => Heap.lt_size (F.keep b o e)
  have nwr : ∀ b, b < s.heap.objs.size → b ∉ (s.heap.objs.size + vs.length + 2) :: (s.heap.objs.size + vs.length + 1) :: itsOf s.heap.objs.size vs.length := fun b hb hm => Nat.lt_irrefl _ (Nat.lt_of_lt_of_le hb (lb b hm))
  refine ⟨_, _, _, n, _, _, fun i y => y = .bool (!same (col kss i)), rfl, fun A' hA => WalksH.zip hA Z, ZA₃, fun b hb => Nat.lt_of_lt_of_le (List.mem_range.mp hb) hN3, hlim.keeps F₃.keep, ?_, fun href hhref => ⟨?_, ?_⟩, ?_⟩
  · obtain ⟨mc, hns, _⟩ := hlim
    obtain ⟨o, es, ep, ho, _⟩ := hns
    exact nwr _ (base _ _ ho)
  · rintro i v h h' m' ⟨T, us, rfl, hTN, hT, hK⟩ hns sb
    refine ⟨T, us, rfl, hTN, sb.extBut _ _ (fun e => ?_) hT, hK⟩
    obtain ⟨o, es, ep, ho, hd, _⟩ := hns
    rw [← e, hT] at ho; cases ho; cases hd
  · rintro A' E' i v t m₂ hA hD ⟨T, us, rfl, hTN, hT, hK⟩ hns hm hk
    have kp : ∀ b o, b < s.heap.objs.size → h₃.get? b = some o → t.heap.get? b = some o := fun b o hb e =>
      hk b (List.mem_range.mpr (Nat.lt_of_lt_of_le hb hB3)) (nwr b hb) o (hhref b o e)
    have Ft : Fr g h₃.objs.size t.heap m₂ := ⟨hns, fun b o e => kp b o (base b o e) (F₃.keep b o e), hglt⟩
    refine helt h₃.objs.size code A' E' i T us t m₂ hA hD hK Ft (fun p hp => ?_) hm
    rcases List.mem_cons.mp hp with rfl | hp
    · refine ⟨hT, fun e => ?_, ?_⟩
      · obtain ⟨o, es, ep, ho, hd, _⟩ := hns
        have e' : T = h₃.objs.size := e
        rw [show (genEnv scope cl h₃.objs.size code builtinsNs env).locals = h₃.objs.size from rfl, ← e', hT] at ho; cases ho; cases hd
      · cases q : g.get? T with
        | none => rfl
        | some o => exact absurd (Nat.lt_of_lt_of_le (base _ _ q) (Nat.le_trans hB hTN)) (Nat.lt_irrefl _)
    · have hp3 := N₃ p (List.mem_cons_of_mem _ hp)
      have hlt : p.1 < s.heap.objs.size := Heap.lt_size (N p (hown p hp).1).1
      exact ⟨kp _ _ hlt hp3.1, Nat.ne_of_lt (Nat.lt_of_lt_of_le hlt hB3), hp3.2.2⟩
  · intro a h₅ tk gs hgs hag hsz₅ hk₅ W hat
    refine hQ a _ ps' (F₃.keeps hk₅) (fun p hp => ⟨hk₅ _ _ (N₃ p hp).1, (N₃ p hp).2⟩) ht₃ rfl (hG.push hgs) ⟨s.heap.objs.size - 1, Nat.le_sub_one_of_lt hLlt, fun p hp => ?_, ?_⟩
    · have : p.1 < s.heap.objs.size := by
        rcases List.mem_cons.mp hp with rfl | hp
        · exact h167
        · exact Heap.lt_size (N p (hown p hp).1).1
      exact Nat.le_sub_one_of_lt this
    · have hn : (passing tt n 0).length = n := by rw [passing_all, List.length_range]
      rw [hn] at W
      refine ⟨_, _, _, _, W, hat, (fun i s' st => st.1.typeIs), List.mem_cons_self, fun b hb => ?_, fun b hb => ?_⟩
      · show b < h₅.objs.size
        rw [hsz₅]
        rcases List.mem_cons.mp hb with rfl | hb
        · exact Nat.lt_succ_self _
        · rcases List.mem_cons.mp hb with rfl | hb
          · exact Nat.lt_succ_of_lt hag
          · exact Nat.lt_succ_of_lt (Nat.lt_trans (List.mem_range.mp hb) hag)
      · have : s.heap.objs.size ≤ b := by
          rcases List.mem_cons.mp hb with rfl | hb
          · exact hB3
          · exact lb b hb
        exact Nat.lt_of_lt_of_le (Nat.sub_lt (Nat.lt_of_le_of_lt (Nat.zero_le _) h167) Nat.one_pos) this

theorem preSum_congr {f f' : Nat → Int} : ∀ n, (∀ j, j < n → f j = f' j) → preSum f n = preSum f' n
  | 0, _ => rfl
  | n + 1, h => by rw [preSum, preSum, preSum_congr n fun j hj => h j (Nat.lt_succ_of_lt hj), h n (Nat.lt_succ_self n)]

theorem sumgen {a : Addr} {kss : List (List Key)} {n : Nat} {Q : Value → Shared → Prop} (F : Fr g L s.heap m) (N : News g L s.heap news) (hG : AllBare s.gens) (X : ∃ K, L ≤ K ∧ (∀ p ∈ news, p.1 ≤ K) ∧ Gen prog w A K a n (GenF kss n) s)
    (hQ : ∀ s' t, Fr g L s'.heap m → News g L s'.heap news → s'.os = s.os → AllBare s'.gens → Q (.int (cnt kss n) t) s') : wpAny (model prog w) A (call (.builtin "sum") [.ref a]) Q E s := by
  obtain ⟨K, hLK, hK, X⟩ := X
  refine sum_rowsKB F hG X hLK (cntVal kss) (fun j y hy => ?_) fun s' t' F' G' hos hk => ?_
  · obtain ⟨i, hi, rfl⟩ := hy
    have : i = j := by
      rw [passing_all] at hi
      by_cases hj : j < n
      · rw [List.getElem?_range hj] at hi; exact (Option.some.inj hi).symm
      · rw [List.getElem?_eq_none (by simpa using hj)] at hi; cases hi
    subst this
    refine .inr ⟨_, rfl, ?_⟩
    unfold cntVal
    cases same (col kss i) <;> rfl
  · rw [cnt_sum]
    exact hQ s' t' F' (fun p hp => ⟨hk _ _ (hK p hp) (N p hp).1, (N p hp).2⟩) hos G'
end
end Mine
namespace Mine
section
variable {prog : Program} {w : World} {A : Around} {E : Value → Shared → Prop} {s : Shared} {env : Env} {pos p : Pos} {e : Expr} {Q : Value → Shared → Prop}
/-- a builtin type called with a star -/
theorem starT {T : String} (h : wpAny (model prog w) A (eval e env) (fun v s₁ => StarOf (model prog w) A E v (fun vs s₂ => wpAny (model prog w) A (call (.type T) vs) Q E s₂) s₁) E s)
    (he : starEach [.Starred e p] env = [(true, eval e env)] := by rfl) :
    wpAny (model prog w) A (callWith pos (.type T) [] (backTo pos (starEach [.Starred e p] env)) []) Q E s := by
  rw [he]
  refine ks_call (P := fun _ => True) rfl (fun h _ => ⟨.machine, .inr (.inl rfl), .now⟩) (ks_lone (wpAny_mono h (fun v s₁ h₁ => ?_) fun _ _ x => x))
  unfold StarOf at h₁ ⊢
  refine wpAny_mono h₁ (fun b s₂ h₂ => ⟨h₂.1, wpAny_mono h₂.2 (fun vs s₃ h₃ => ⟨trivial, h₃⟩) fun _ _ x => x⟩) fun _ _ x => x

theorem star_tup_K {a : Addr} {vs : List Value} {Q : List Value → Shared → Prop} (ha : s.heap.get? a = some (tupO vs)) (hz : vs.length ≤ sizeLine)
    (h : ∀ h', s.heap.StaysIn h' → Q vs { s with heap := h' }) : StarOf (model prog w) A E (.ref a) Q s := by
  have hT' : s.TypeIs (.ref a) "tuple" := ⟨_, ha, rfl⟩
  have z : wpAny (model prog w) A (collect (.ref a)) Q E s := by
    refine wpAny_collect_seq a (.inr rfl) ha rfl rfl (fun h' hk => ?_) (by rw [List.size_toArray]; exact hz)
    exact h h' hk
  unfold StarOf notIterableAtAll
  exact wpAny_bind (wpAny_specialOf hT' PySem.F.slot_tuple_iter.lookup (wpAny_pure ⟨rfl, z⟩))
end
end Mine
end

section
open PySem PySem.W PySem.Calls PyProof.Rows PySem.Spec
namespace Mine
set_option maxRecDepth 100000
set_option maxHeartbeats 1000000
local macro_rules | `(tactic| k_mem) => `(tactic| first | ktr_member | exact List.mem_cons_self | (refine' List.mem_cons_of_mem _ ?_; k_mem))
theorem cd169 {w : World} : codeHdIn (hd.heap_39 w.params) 169 167 = true := by kernel_rfl
section
variable {w : World} {A : Around} {mg mb : Str → Option Value} {p : Program} {loose : List Str} {g : Heap} {C : Addr} {m : Str → Option Value} {news : List (Addr × Obj)} {s : Shared} {E : Value → Shared → Prop}

theorem elt_ct {x dx c T : Addr} {oc : Obj} {hs ts tq} {b : Bool} {us : List Value} {ks : List Key} {scope : Scope} {cl : List (Str × Addr)} {code : Value} {env : Env} {p1 p2 p3 p4 p5 p6 : Pos} (hh : A.handled = none) (hroom : A.depth + 2 < recursionLimit)
    (F : Fr g C s.heap m) (X : Amb w mg mb p loose g) (N : News g C s.heap ((T, tupO us) :: news)) (hx : (x, instObj 173 dx) ∈ news) (hdx : (dx, hamD hs ts tq b) ∈ news) (hm : m ("es" : Str) = some (.ref T)) (hK : KeysAre us ks) (hsz : us.length < 1000)
    (hcl : cl.lookup ("self" : Str) = some c) (hc : (c, oc) ∈ news) (hoc : oc.data = .cell (some (.ref x))) (hk : scope.kind = .function) (h1 : scope.names.lookup ("self" : Str) = some .free) (h2 : scope.names.lookup ("es" : Str) = some .local) :
    wpAny (model pg w) A (eval (.UnaryOp .Not (.Call (.Attribute (.Name "self" p1) "test_func" p2) [.Starred (.Name "es" p3) p4] [] p5) p6) (genEnv scope cl C code builtinsNs env)) (fun y s₃ => y = .bool (!same ks) ∧ Keeps s s₃) E s := by
  obtain ⟨KX, TX⟩ := X
  walk1
  refine starMethod_ ?_
  refine ldFreeG hcl ⟨oc, (N _ (List.mem_cons_of_mem _ hc)).1, hoc⟩ ?_ hk h1
  walk1
  refine' callWith_S (K := hd.heap_39 w.params) ?k1 ?k2 ?_
  case k1 => exact KX
  case k2 => k_is
  refine ldVarG F hm ?_ hk h2
  refine star_tup_K (N _ List.mem_cons_self).1 (by rw [sizeLine_eq]; omega) fun h₁₀ hk₁₀ => ⟨KX.keeps fun b o e => hk₁₀ b o (F.keep b o e), ?_⟩
  have F₁₀ : Fr g C h₁₀ m := F.keeps hk₁₀
  have N₁₀ : News g C h₁₀ [] := fun p hp => absurd hp List.not_mem_nil
  show wpAny _ _ (call (.ref 100) us) _ _ _
  refine ident_ct (ks := ks) hh (by omega) F₁₀ ⟨KX, TX⟩ N₁₀ hK hsz fun h₁₁ tk₁₁ F₁₁ N₁₁ kp₁₁ => ?_
  show wpAny _ _ (unaryOp UnaryOp.Not (.bool (same ks))) _ _ _
  clear N
  walk1
  exact wpAny_truthy_bool ⟨rfl, h₁₁, _, rfl, fun b o e => kp₁₁ b o (hk₁₀ b o e)⟩
end
end Mine
end

section
open PySem PySem.W PySem.Calls PyProof.Rows PySem.Spec
namespace Mine
set_option maxRecDepth 100000
set_option maxHeartbeats 0
local macro_rules | `(tactic| walk_at "mine stop") => `(tactic| first
  | (with_reducible show wpAny _ _ (eval (Expr.Call (Expr.Attribute _ _ _) [Expr.Starred _ _] _ _) _) _ _ _)
  | (with_reducible show wpAny _ _ (callWith _ (Value.ref _) _ (backTo _ (starEach [Expr.Starred _ _] _)) _) _ _ _)
  | (with_reducible show wpAny _ _ (callWith _ (Value.type _) _ (backTo _ (starEach [Expr.Starred _ _] _)) _) _ _ _)
  | (with_reducible show StarOf _ _ _ _ _ _)
  | (with_reducible show wpAny _ _ (call (Value.builtin "sum") _) _ _ _))
local macro_rules | `(tactic| walk_at "mine go") => `(tactic| repeat' ((fail_if_success (walk_at "mine stop")); (first | walk1 | (dsimp only; walk1))))
local macro_rules | `(tactic| k_mem) => `(tactic| first | ktr_member | exact List.mem_cons_self | (refine' List.mem_cons_of_mem _ ?_; k_mem))
section
variable {w : World} {A : Around} {mg mb : Str → Option Value} {p : Program} {loose : List Str} {h₀ : Heap} {L : Addr} {m : Str → Option Value} {news : List (Addr × Obj)} {s : Shared} {E : Value → Shared → Prop}


theorem callT_ct {x dx bm : Addr} {ob : Obj} {hs ts tq} {vs : List Value} {ws : List Str} {ps : Array Value} {n : Nat} {Q : Value → Shared → Prop} (hh : A.handled = none) (hroom : A.depth + 12 < recursionLimit)
    (F : Fr h₀ L s.heap m) (X : Amb w mg mb p loose h₀) (BM : BMod h₀ mainGlobals mg bm ob) (N : News h₀ L s.heap ((167, tabObj ps) :: news)) (hne : ∀ p ∈ news, p.1 ≠ 167) (htr : TriplesOk ps.toList) (hG : AllBare s.gens)
    (hx : (x, instObj 173 dx) ∈ news) (hdx : (dx, hamD hs ts tq true) ∈ news) (hv : StrsAre vs ws) (hsz : 2 ≤ vs.length ∧ vs.length ≤ 4)
    (hw : ∀ x ∈ ws, 0 < x.length ∧ x.length < 1000) (least : ∀ x ∈ ws, n ≤ x.length) (hit : ∃ x ∈ ws, x.length = n)
    (h : ∀ s' ps' t, Fr h₀ L s'.heap m → News h₀ L s'.heap ((167, tabObj ps') :: news) → TriplesOk ps'.toList → s'.os = s.os → AllBare s'.gens → Q (.int (if same (ws.map some) then 0 else cnt (ws.map lett) n) t) s') :
    codeAny (model pg w) A (.call (.ref 170) ⟨.ref x :: vs, []⟩) (Ret Q E) s := by
  refine' enter_restC (K := hd.heap_39 w.params) (vs := vs) (binds := ?b) F X.k N X.t.nolimit ?k1 ?k2 ?k0 ?k3 ?k4 ?k5 ?k6 ?_ ?c1 ?c2 ?c3
  case k0 => omega
  case k1 => k_is
  case k2 => k_is
  case k3 => (refine' bind_rest1 ?kp9 ?kd9; (case kp9 => rfl); (case kd9 => rfl))
  case k4 => rw [sizeLine_eq]; omega
  case k5 => exact fun D => kindsX rfl
  case k6 => decide +kernel
  case c1 => rfl
  case c2 => rfl
  case c3 => rfl
  intro D g L' h₁ tk cells hD st F₁ N₁ Y bk lt
  obtain ⟨KX, TX⟩ := X.keeps st
  replace BM := BM.keeps st
  clear F N X st
  obtain ⟨oc, oc', rfl, hoc, hoc'⟩ := CellsAre.two Y
  replace N₁ : News g L' h₁ ((_, oc) :: (_, oc') :: (D, tupO vs) :: (167, tabObj ps) :: news) := N₁
  have hvl := hv.len_eq
  walk_at "mine go"
  refine starMethod_ ?_
  walk_at "mine go"
  (with_reducible rename Fr _ _ _ _ => F₂)
  (with_reducible rename News _ _ _ _ => N₂)
  refine' starM (K := hd.heap_39 w.params) (f := 108) (self := .ref x) ?hf ?_
  case hf => k_is
  walk_at "mine go"
  refine star_tup_G F₂ N₂ (by k_mem) (by rw [sizeLine_eq]; omega) fun h₃ F₃ N₃ => ⟨⟨(N₃ _ (by k_mem)).1, KX.keeps F₃.keep⟩, ?_⟩
  (try clear F₂ N₂)
  refine getseq_ct (dx := dx) (hs := hs) (ts := ts) (tq := tq) (b := true) hh ?_ F₃ ⟨KX, TX⟩ N₃ (by k_mem) (by k_mem) (by omega) fun h₄ tk₄ l c F₄ N₄ => ?_
  · simp only [depth_deeper]; omega
  (try clear F₃ N₃)
  walk_at "mine go"
  refine starMethod_ ?_
  walk_at "mine go"
  (with_reducible rename Fr _ _ _ _ => F₅)
  (with_reducible rename News _ _ _ _ => N₅)
  refine' starM (K := hd.heap_39 w.params) (f := 93) (self := .ref x) ?hf ?_
  case hf => k_is
  walk_at "mine go"
  refine star_lst_G (a := l) F₅ N₅ (by k_mem) (by rw [sizeLine_eq]; omega) fun h₆ F₆ N₆ => ⟨⟨(N₆ _ (by k_mem)).1, KX.keeps F₆.keep⟩, ?_⟩
  (try clear F₅ N₅)
  refine quick_ct (dx := dx) (hs := hs) (ts := ts) (tq := tq) (b := true) (ws := ws) hh ?_ F₆ ⟨KX, TX⟩ N₆ (by k_mem) (by k_mem) hv (by omega) hw fun h₇ tk₇ tk₇' F₇ N₇ => ?_
  · simp only [depth_deeper]; omega
  (try clear F₆ N₆)
  cases hsame : same (ws.map some)
  · simp only [hsame, Bool.false_eq_true, if_false] at h ⊢
    walk_at "mine go"
    (with_reducible rename Fr _ _ _ _ => F₈)
    (with_reducible rename News _ _ _ _ => N₈)
    refine' genexpZ (cl := ?cl) ?a0 ?a1 ?a2 ?a3 ?a4 ?a5 ?a6 ?a7 ?_ ?a8
    case a0 => exact hh
    case a1 => rfl
    case a2 => rfl
    case a3 => decide
    case a4 => rfl
    case a5 => rfl
    case a6 => rfl
    case a7 => simp only [depth_deeper]; omega
    case a8 => exact fun _ => rfl
    walk_at "mine go"
    refine starT ?_
    walk_at "mine go"
    refine star_lst_G (a := l) F₈ N₈ (by k_mem) (by rw [sizeLine_eq]; omega) fun h₉ F₉ N₉ => ?_
    (try clear F₈ N₈)
    have h167 : (167 : Nat) < L' := lt (167, tabObj ps) (by k_mem)
    refine' genzip (kss := ws.map lett) (n := n) (own := (L' + 1 + 1, oc) :: (L' + 1, oc') :: news) ?b0 ?b1 ?bF ?bN BM TX.nolimit ?b2 ?bG ?b21 ?b22 ?b3 htr ?b4 hsz ?b5 ?b6 ?b7 ?b8 ?b9 ?b10
    case b1 => simp only [depth_deeper]; omega
    case b2 => exact codeHd_of_K KX cd169
    case b0 => exact hh
    case bF => exact F₉
    case bN => exact N₉
    case bG => exact hG
    case b21 => rfl
    case b22 => rfl
    case b3 => k_mem
    case b4 =>
      intro p hp
      rcases List.mem_cons.mp hp with rfl | hp
      · exact ⟨by k_mem, Nat.ne_of_gt (by omega)⟩
      · rcases List.mem_cons.mp hp with rfl | hp
        · exact ⟨by k_mem, Nat.ne_of_gt (by omega)⟩
        · exact ⟨by simp [hp], hne p hp⟩
    case b5 => rw [List.length_map]; exact hvl
    case b6 =>
      intro j v ks e1 e2
      obtain ⟨y, t, e3, rfl⟩ := strs_at hv j v e1
      rw [List.getElem?_map, e3] at e2
      cases e2
      exact .inr ⟨y, t, rfl, rfl⟩
    case b7 =>
      intro ks hks
      obtain ⟨y, hy, rfl⟩ := List.mem_map.mp hks
      rw [lett_length]; exact least y hy
    case b8 =>
      obtain ⟨y, hy, hyn⟩ := hit
      exact ⟨_, List.mem_map_of_mem hy, by rw [lett_length]; exact hyn⟩
    case b9 =>
      clear F₉ N₉
      intro C code A' E' i T us t m₂ hA hD9 hK Ft Nt hm
      refine elt_ct (x := x) (dx := dx) (hs := hs) (ts := ts) (tq := tq) (b := true) (c := L' + 1) (oc := oc') hA ?_ Ft ⟨KX, TX⟩ Nt (by k_mem) (by k_mem) hm hK (by have := hK.length; simp [col] at this; omega) rfl (by k_mem) hoc' rfl rfl rfl
      simp only [depth_deeper] at hD9; omega
    case b10 =>
      intro a s' ps' Fs Ns hts hos hGs X9
      clear F₉ N₉
      walk_at "mine go"
      refine sumgen Fs Ns hGs X9 fun s'' t'' F₁₂ N₁₂ hos₂ hG₂ => ?_
      clear Fs Ns
      walk_at "mine go"
      obtain ⟨Fb, Nb⟩ := bk _ _ _ _ F₁₂ N₁₂
      exact h s'' ps' t'' Fb (news_sub Nb (sub_keep (sub_drop (sub_drop sub_refl)))) hts (hos₂.trans hos) hG₂
  · simp only [hsame, if_true] at h ⊢
    walk_at "mine go"
    dsimp only
    (with_reducible rename Fr _ _ _ _ => F₈)
    (with_reducible rename News _ _ _ _ => N₈)
    obtain ⟨Fb, Nb⟩ := bk _ _ _ _ F₈ N₈
    exact h _ ps _ Fb (news_sub Nb (sub_drop (sub_drop (sub_drop (sub_drop (sub_drop (sub_drop sub_refl))))))) htr rfl hG
end
end Mine
end

section
open PySem PySem.W PySem.Calls PyProof.Rows PySem.Spec
namespace Mine
set_option maxRecDepth 100000

namespace MF
theorem owner_map : Manifest.owners.lookup (String.ofList ['p', 'a', 'm'].reverse) = some Manifest.sig_map := by kernel_rfl
theorem slot_map_init : Slot "map" "__init__" "object.__init__" :=
  .of (owner := "object") (n := "__init__") (by rw [typeLookup_type, builtinLookup_eq_fast]; kernel_rfl) (by decide +kernel) (by decide +kernel) (by decide +kernel)
    (by first | exact .inl (by decide +kernel) | exact .inr (by decide +kernel)) (by rw [isSubtype_type]; kernel_rfl)
theorem slot_map_iter : Slot "map" "__iter__" "map.__iter__" :=
  .of (owner := "map") (n := "__iter__") (by rw [typeLookup_type, builtinLookup_eq_fast]; kernel_rfl) (by decide +kernel) (by decide +kernel) (by decide +kernel)
    (by first | exact .inl (by decide +kernel) | exact .inr (by decide +kernel)) (by rw [isSubtype_type]; kernel_rfl)
theorem slot_map_next : Slot "map" "__next__" "map.__next__" :=
  .of (owner := "map") (n := "__next__") (by rw [typeLookup_type, builtinLookup_eq_fast]; kernel_rfl) (by decide +kernel) (by decide +kernel) (by decide +kernel)
    (by first | exact .inl (by decide +kernel) | exact .inr (by decide +kernel)) (by rw [isSubtype_type]; kernel_rfl)
theorem entry_map_next : entryFor table "map.__next__" = some Builtin.«map.__next__» := entryFor_of_tree (by kernel_rfl)
theorem entry_map_new : entryFor table "map.__new__" = some Builtin.«map.__new__» := entryFor_of_tree (by kernel_rfl)
theorem entry_map_iter : entryFor table "map.__iter__" = some Builtin.«dict_keyiterator.__iter__» :=
  entryFor_alias (id' := "dict_keyiterator.__iter__") (by rw [fastTable_eq_tree]; kernel_rfl) rfl (by decide +kernel) (by rw [fastTable_eq_tree]; kernel_rfl)
theorem args_map_next_1 (a : Value) : argsOk "map.__next__" ⟨[a], []⟩ := by
  unfold argsOk; rw [signature?_of (id := "map.__next__") (n := ['_', '_', 't', 'x', 'e', 'n', '_', '_']) (o := ['p', 'a', 'm']) (by kernel_rfl) owner_map]; kernel_rfl
theorem args_map_iter_1 (a : Value) : argsOk "map.__iter__" ⟨[a], []⟩ := by
  unfold argsOk; rw [signature?_of (id := "map.__iter__") (n := ['_', '_', 'r', 'e', 't', 'i', '_', '_']) (o := ['p', 'a', 'm']) (by kernel_rfl) owner_map]; kernel_rfl
theorem mro_map : mroOf (.type "map") = pure [.type "map", .type "object"] := by rw [mroOf_type]; kernel_rfl
theorem lookup_map_new : typeLookup (.type "map") "__new__" = pure (some (.builtin "map.__new__")) := by rw [typeLookup_type, builtinLookup_eq_fast]; kernel_rfl
theorem called_map : TypeCalled "map" "map.__new__" "object.__init__" :=
  ⟨by decide +kernel, by decide +kernel, ⟨_, _, mro_map⟩, madeBy_type mro_map lookup_map_new (by decide +kernel), by decide +kernel, by rw [isSubtype_type]; kernel_rfl, slot_map_init⟩
theorem typeCall_map_2 (a b : Value) : checkTypeCall "map" ⟨[a, b], []⟩ = pure () := by kernel_rfl
theorem newCall_map_2 (a b : Value) : checkBuiltinCall "map.__new__" ⟨[.type "map", a, b], []⟩ = pure () := by
  unfold checkBuiltinCall; rw [signature?_of (id := "map.__new__") (n := ['_', '_', 'w', 'e', 'n', '_', '_']) (o := ['p', 'a', 'm']) (by kernel_rfl) owner_map]; kernel_rfl
end MF
theorem sub_map : isSubtype (.type "map") (.type "map") = pure true := by rw [isSubtype_type]; kernel_rfl

section
variable {prog : Program} {w : World} {A : Around} {E : Value → Shared → Prop} {s : Shared}

theorem nextOf_tuple_item {it l : Addr} {i : Nat} {items} {x : Value} {Q : Value → Shared → Prop} (hit : s.heap.IsTupleIter it l i)
    (hl : s.heap.IsTuple l items) (hx : items[i]? = some x)
    (hQ : ∀ h', h'.IsTupleIter it l (i + 1) → Heap.SameBut it s.heap h' → Q x { s with heap := h' }) :
    wpAny (model prog w) A (Builtin.SmallTypes.nextOf (.ref it)) Q E s := by
  obtain ⟨o, ho, hc, hd⟩ := id hit
  obtain ⟨ol, hol, _, nl, hdl⟩ := hl
  unfold Builtin.SmallTypes.nextOf
  refine wpAny_bind (wpAny_callSpecial?_slot (name := Str.ofString "__next__") hit.typeIs F.slot_tuple_iterator_next
    (wpAny_call_entry F.slot_tuple_iterator_next hit.typeIs F.entry_tuple_iterator_next ?_ (F.args_tuple_iterator_next_1 _)))
  show wpAny _ _ (field (.ref it) 0 >>= _) _ _ s
  refine wpAny_bind (wpAny_field ho hd (x := .ref l) rfl ?_)
  show wpAny _ _ (if (Value.ref l == Value.none) = true then _ else _) _ _ s
  rw [if_neg (show ¬ ((Value.ref l == Value.none) = true) from Bool.false_ne_true)]
  show wpAny _ _ (field (.ref it) 1 >>= _) _ _ s
  refine wpAny_bind (wpAny_field ho hd (x := .int i 0) rfl ?_)
  show wpAny _ _ (seqItems? (.ref l) >>= _) _ _ s
  refine wpAny_bind (wpAny_seqItems hol hdl ?_)
  simp only [Int.toNat_natCast, hx]
  refine wpAny_bind (wpAny_setField ho hd (by simp) (wpAny_pure ⟨x, rfl, wpAny_pure (hQ _ ?_ (Heap.SameBut.update ..))⟩))
  exact ⟨_, Heap.get?_update_self _ ho (Obj.isFreed_of_fields (Obj.data_mapFields hd _)), (Obj.cls_mapFields ..).trans hc, by
    rw [Obj.data_mapFields hd]; simp [rawInt]⟩

theorem nextOf_tuple_end {it l : Addr} {i : Nat} {items} {Q : Value → Shared → Prop} (hh : A.handled = none)
    (hit : s.heap.IsTupleIter it l i) (hl : s.heap.IsTuple l items) (hx : items[i]? = none)
    (hE : ∀ h' e, Heap.ExtBut it s.heap h' → (∃ o, h'.get? e = some o ∧ o.cls = .type "StopIteration") → E (.ref e) { s with heap := h' }) :
    wpAny (model prog w) A (Builtin.SmallTypes.nextOf (.ref it)) Q E s := by
  obtain ⟨o, ho, hc, hd⟩ := id hit
  obtain ⟨ol, hol, _, nl, hdl⟩ := hl
  unfold Builtin.SmallTypes.nextOf
  refine wpAny_bind (wpAny_callSpecial?_slot (name := Str.ofString "__next__") hit.typeIs F.slot_tuple_iterator_next
    (wpAny_call_entry F.slot_tuple_iterator_next hit.typeIs F.entry_tuple_iterator_next ?_ (F.args_tuple_iterator_next_1 _)))
  show wpAny _ _ (field (.ref it) 0 >>= _) _ _ s
  refine wpAny_bind (wpAny_field ho hd (x := .ref l) rfl ?_)
  show wpAny _ _ (if (Value.ref l == Value.none) = true then _ else _) _ _ s
  rw [if_neg (show ¬ ((Value.ref l == Value.none) = true) from Bool.false_ne_true)]
  show wpAny _ _ (field (.ref it) 1 >>= _) _ _ s
  refine wpAny_bind (wpAny_field ho hd (x := .int i 0) rfl ?_)
  show wpAny _ _ (seqItems? (.ref l) >>= _) _ _ s
  refine wpAny_bind (wpAny_seqItems hol hdl ?_)
  simp only [Int.toNat_natCast, hx]
  refine wpAny_bind (wpAny_rule (wpAny_bind (wpAny_setField ho hd (by simp) ?_)))
  show wpAny _ _ (newExc (.type "StopIteration") [] >>= _) _ _ _
  refine wpAny_bind ?_
  simp only [newExc, newTuple]
  refine wpAny_bind (wpAny_newObj_type ?_ (by size_fits))
  refine wpAny_bind (m := firstArgMember _ _) (wpAny_of_eq (a := Value.none) (by first | rfl | (simp only [firstArgMember]; rfl)) ?_)
  refine wpAny_newObj_type ?_ (by size_fits)
  simp only [raiseNew]
  refine wpAny_bind (wpAny_handled ?_)
  first | rw [show A.in1.handled = none from hh] | rw [hh]
  refine wpAny_bind (wpAny_pure (wpAny_throw ?_))
  exact hE _ _ (((Heap.SameBut.update ..).extBut.push _).push _) ⟨_, Heap.get?_push_size _ rfl, rfl⟩

theorem Draws.tuple (hh : A.handled = none) (it l : Addr) (hne : l ≠ it) (items : Array Value) :
    Draws prog w A it [it, l] items.size (fun i v => items[i]? = some v) (fun i h => h.IsTupleIter it l i ∧ h.IsTuple l items) where
  live := fun _ _ st => let ⟨o, ho, _⟩ := st.1; ⟨o, ho⟩
  frame := fun _ _ _ st hk => ⟨let ⟨o, ho, r⟩ := st.1; ⟨o, hk it (by simp) o ho, r⟩, let ⟨o, ho, r⟩ := st.2; ⟨o, hk l (by simp) o ho, r⟩⟩
  item := fun i s Q E hi st hQ => by
    refine nextOf_tuple_item st.1 st.2 (x := items[i]) (by simp [hi]) fun h' hit' hs' => ?_
    exact hQ _ h' s.toks (by simp [hi]) ⟨hit', st.2.extBut hs'.extBut hne⟩ hs'
  done := fun s Q E st hE => nextOf_tuple_end hh st.1 st.2 (by simp) hE

end
end Mine
end

section
open PySem PySem.W PySem.Calls PyProof.Rows PySem.Spec
namespace Mine
set_option maxRecDepth 100000
section
variable {prog : Program} {w : World} {A : Around} {E : Value → Shared → Prop} {s : Shared}

abbrev mapO (TI : Addr) (f : Value) : Obj := { cls := .type "map", dict := none, data := .fields #[.ref TI, f], slots := #[] }

/-- map(len, words) -/
structure MapAt (mp TI it : Addr) (St : Nat → Heap → Prop) (i : Nat) (h : Heap) : Prop where
  hm : h.get? mp = some (mapO TI (.builtin "len"))
  ti : h.get? TI = some (tupO [.ref it])
  st : St i h

def lenAt (ws : List Str) (j : Nat) : Int := ((ws[j]?).getD ⟨#[]⟩).length

theorem map_next {mp TI it : Addr} {ws : List Str} {fp : List Addr} {n i : Nat} {P : Nat → Value → Prop} {St : Nat → Heap → Prop} {Q : Option Value → Shared → Prop} (hh : A.handled = none)
    (D : ∀ A' : Around, A'.handled = none → Draws prog w A' it fp n P St) (hP : ∀ i v, P i v → ∃ x t, v = .str x t ∧ ws[i]? = some x ∧ x.length < 1000) (h1 : mp ≠ it) (h2 : TI ≠ it) (x : MapAt mp TI it St i s.heap) (hi : i ≤ n)
    (hQ : i < n → ∀ t h' tk, MapAt mp TI it St (i + 1) h' → Heap.SameBut it s.heap h' → Q (some (.int (lenAt ws i) t)) { s with heap := h', toks := tk })
    (hE : i = n → ∀ h', Heap.ExtBut it s.heap h' → Q none { s with heap := h' }) : wpAny (model prog w) A (pyNext (.ref mp)) Q E s := by
  have hT : s.TypeIs (.ref mp) "map" := ⟨_, x.hm, rfl⟩
  unfold pyNext
  refine wpAny_bind (wpAny_attempt (wpAny_callSpecial?_slot (name := Str.ofString "__next__") hT MF.slot_map_next
    (wpAny_call_entry MF.slot_map_next hT MF.entry_map_next ?_ (MF.args_map_next_1 _))))
  show wpAny _ _ (field (.ref mp) 0 >>= _) _ _ s
  refine wpAny_bind (wpAny_field x.hm rfl (x := .ref TI) rfl ?_)
  refine wpAny_bind (wpAny_seqItems x.ti rfl ?_)
  dsimp only
  rw [← Array.forIn_toList]
  simp only [List.forIn_cons, List.forIn_nil]
  refine wpAny_bind (wpAny_bind (wpAny_bind (wpAny_holding ?_)))
  rcases Nat.lt_or_eq_of_le hi with hlt | heq
  · refine (D _ (by simpa using hh)).item i s _ _ hlt x.st fun v h' tk hv st sb => wpAny_pure (wpAny_pure ?_)
    obtain ⟨y, t, rfl, hy, hl⟩ := hP i v hv
    have hm' := sb.extBut _ _ h1 x.hm
    refine wpAny_bind (wpAny_field hm' rfl (x := .builtin "len") rfl ?_)
    refine wpAny_bind (wpAny_holding ?_)
    show wpAny _ _ (call (.builtin "len") [.str y t]) _ _ _
    refine PySem.P.len_str (by omega) ?_
    refine wpAny_bind (wpAny_letGo (wpAny_pure ⟨_, rfl, wpAny_pure ?_⟩))
    have e : (y.length : Int) = lenAt ws i := by unfold lenAt; rw [hy]; rfl
    rw [e]
    exact hQ hlt _ h' _ ⟨hm', sb.extBut _ _ h2 x.ti, st⟩ sb
  · refine (D _ (by simpa using hh)).done s _ _ (heq ▸ x.st) fun h' e ext he => ?_
    obtain ⟨o, ho, hc⟩ := he
    refine wpAny_bind (wpAny_isInstance (T := "StopIteration") (b := true) ⟨o, ho, hc⟩ isSubtype_stop ?_)
    exact wpAny_pure (hE heq h' ext)

abbrev itO (ty : String) (l : Addr) : Obj := { cls := .type ty, data := .fields #[.ref l, .int 0 0] }

theorem meets_map_list (l : Addr) (xs : Array Value) :
    Meets (Builtin.«map.__new__» ⟨[.type "map", .builtin "len", .ref l], []⟩) (fun _ R s => s.heap.IsList l xs ∧
      R (.ok (.ret (.ref (s.heap.objs.size + 2)))) { s with heap := ((s.heap.push (itO "list_iterator" l)).push (tupO [.ref s.heap.objs.size])).push (mapO (s.heap.push (itO "list_iterator" l)).objs.size (.builtin "len")) }) :=
  .of_wp fun prog w A R s h => by
    obtain ⟨hp, g, d, tk, os⟩ := s; obtain ⟨hl, h⟩ := h
    have hsub := sub_map
    have hL : Heap.IsList (Shared.heap ⟨hp, g, d, tk, os⟩) l xs := hl
    wp_walk using wpAny_pyIter_list hL
    rw [show hp.objs.size + 2 = ((hp.push (itO "list_iterator" l)).push (tupO [.ref hp.objs.size])).objs.size from by rw [Heap.size_push, Heap.size_push]] at h
    exact ⟨_, rfl, h⟩
theorem meets_map_tuple (l : Addr) (xs : Array Value) :
    Meets (Builtin.«map.__new__» ⟨[.type "map", .builtin "len", .ref l], []⟩) (fun _ R s => s.heap.IsTuple l xs ∧
      R (.ok (.ret (.ref (s.heap.objs.size + 2)))) { s with heap := ((s.heap.push (itO "tuple_iterator" l)).push (tupO [.ref s.heap.objs.size])).push (mapO (s.heap.push (itO "tuple_iterator" l)).objs.size (.builtin "len")) }) :=
  .of_wp fun prog w A R s h => by
    obtain ⟨hp, g, d, tk, os⟩ := s; obtain ⟨hl, h⟩ := h
    have hsub := sub_map
    have hL : Heap.IsTuple (Shared.heap ⟨hp, g, d, tk, os⟩) l xs := hl
    wp_walk using wpAny_pyIter_tuple hL
    rw [show hp.objs.size + 2 = ((hp.push (itO "tuple_iterator" l)).push (tupO [.ref hp.objs.size])).objs.size from by rw [Heap.size_push, Heap.size_push]] at h
    exact ⟨_, rfl, h⟩
end
section
variable {prog : Program} {w : World} {A : Around} {E : Value → Shared → Prop} {s : Shared} {h₀ : Heap} {L l : Addr} {m : Str → Option Value} {news : List (Addr × Obj)}

def MapOn (ty : String) (l : Addr) (h₀ : Heap) (L : Addr) (news : List (Addr × Obj)) (mp : Addr) (h : Heap) : Prop :=
  ∃ TI it, mp ≠ it ∧ TI ≠ it ∧ l ≠ it ∧ (∀ p ∈ news, p.1 ≠ it) ∧ L ≠ it ∧ h₀.get? it = none ∧ News h₀ L h ((mp, mapO TI (.builtin "len")) :: (TI, tupO [.ref it]) :: (it, itO ty l) :: news)

theorem map_N {ty : String} {o : Obj} {vs : List Value} {Q : Value → Shared → Prop} (hty : (ty = "list_iterator" ∧ s.heap.IsList l vs.toArray) ∨ (ty = "tuple_iterator" ∧ s.heap.IsTuple l vs.toArray)) (F : Fr h₀ L s.heap m) (N : News h₀ L s.heap news) (ho : s.heap.get? l = some o)
    (h : ∀ h' mp, Fr h₀ L h' m → News h₀ L h' news → MapOn ty l h₀ L news mp h' → Q (.ref mp) { s with heap := h' }) :
    wpAny (model prog w) A (call (.type "map") [.builtin "len", .ref l]) Q E s := by
  have key : ∀ (mp : Addr), mp = s.heap.objs.size + 2 → Q (.ref mp) { s with heap := ((s.heap.push (itO ty l)).push (tupO [.ref s.heap.objs.size])).push (mapO (s.heap.push (itO ty l)).objs.size (.builtin "len")) } := fun mp e => by
    have s1 : (s.heap.push (itO ty l)).objs.size = s.heap.objs.size + 1 := Heap.size_push ..
    have s2 : ((s.heap.push (itO ty l)).push (tupO [.ref s.heap.objs.size])).objs.size = s.heap.objs.size + 2 := by rw [Heap.size_push, s1]
    have N1 := N.push F (itO ty l)
    have F1 := F.push (itO ty l)
    have N2 := N1.push F1 (tupO [.ref s.heap.objs.size])
    have F2 := F1.push (tupO [.ref s.heap.objs.size])
    have N3 := N2.push F2 (mapO (s.heap.push (itO ty l)).objs.size (.builtin "len"))
    have F3 := F2.push (mapO (s.heap.push (itO ty l)).objs.size (.builtin "len"))
    rw [s2] at N3
    subst e
    refine h _ _ F3 (fun p hp => N3 p (List.mem_cons_of_mem _ (List.mem_cons_of_mem _ (List.mem_cons_of_mem _ hp)))) ⟨_, _, ?_, ?_, Nat.ne_of_lt (Heap.lt_size ho), fun p hp => Nat.ne_of_lt (Heap.lt_size (N p hp).1), Nat.ne_of_lt F.ns.lt, ?_, N3⟩
    · exact Nat.ne_of_gt (by omega)
    · rw [s1]; exact Nat.ne_of_gt (by omega)
    · exact (N3 _ (List.mem_cons_of_mem _ (List.mem_cons_of_mem _ List.mem_cons_self))).2.2
  have hgt : ∀ ty, (((s.heap.push (itO ty l)).push (tupO [.ref s.heap.objs.size])).push (mapO (s.heap.push (itO ty l)).objs.size (.builtin "len"))).get? (s.heap.objs.size + 2) = some (mapO (s.heap.push (itO ty l)).objs.size (.builtin "len")) := fun ty => by
    have s2 : ((s.heap.push (itO ty l)).push (tupO [.ref s.heap.objs.size])).objs.size = s.heap.objs.size + 2 := by rw [Heap.size_push, Heap.size_push]
    rw [← s2]; exact Heap.get?_push_size _ rfl
  rcases hty with ⟨rfl, hl⟩ | ⟨rfl, hl⟩
  · refine callType_new MF.called_map (by decide) (MF.typeCall_map_2 _ _) (MF.newCall_map_2 _ _) (fun obj => PySem.F.args_object_init_3 obj _ _) MF.entry_map_new (meets_map_list l vs.toArray) ⟨hl, ?_⟩
    show _ ∧ _
    exact ⟨⟨_, hgt _, rfl⟩, key _ rfl⟩
  · refine callType_new MF.called_map (by decide) (MF.typeCall_map_2 _ _) (MF.newCall_map_2 _ _) (fun obj => PySem.F.args_object_init_3 obj _ _) MF.entry_map_new (meets_map_tuple l vs.toArray) ⟨hl, ?_⟩
    show _ ∧ _
    exact ⟨⟨_, hgt _, rfl⟩, key _ rfl⟩

theorem Walks.map {mp TI it : Addr} {ws : List Str} {fp : List Addr} {n : Nat} {P : Nat → Value → Prop} {St : Nat → Heap → Prop} (hh : A.handled = none)
    (D : ∀ A' : Around, A'.handled = none → Draws prog w A' it fp n P St) (hP : ∀ i v, P i v → ∃ x t, v = .str x t ∧ ws[i]? = some x ∧ x.length < 1000) (h1 : mp ≠ it) (h2 : TI ≠ it) (hit : it ∈ fp) :
    Walks prog w A mp (mp :: TI :: fp) [it] n (fun i v => ∃ t, v = .int (lenAt ws i) t) (MapAt mp TI it St) where
  sub := fun b hb => by simp only [List.mem_singleton] at hb; subst hb; simp [hit]
  frame := fun i h h' x hk => ⟨hk _ (by simp) _ x.hm, hk _ (by simp) _ x.ti, (D A hh).frame i h h' x.st fun b hb o e => hk b (by simp [hb]) o e⟩
  item := fun i s Q E hi x hQ => map_next hh D hP h1 h2 x (Nat.le_of_lt hi) (fun _ t h' tk x' sb => hQ _ h' tk ⟨t, rfl⟩ x' fun b o hb e => sb.extBut b o (by simpa using hb) e) fun heq => absurd heq (Nat.ne_of_lt hi)
  done := fun s Q E x hQ => map_next hh D hP h1 h2 x (Nat.le_refl _) (fun h => absurd h (Nat.lt_irrefl _)) fun _ h' ext => hQ h' s.toks fun b o hb e => ext b o (by simpa using hb) e
  self := fun i s Q E x hQ => by
    have hT : s.TypeIs (.ref mp) "map" := ⟨_, x.hm, rfl⟩
    refine wpAny_pyIter_slot hT MF.slot_map_iter (wpAny_call_entry MF.slot_map_iter hT MF.entry_map_iter ?_ (MF.args_map_iter_1 _))
    show wpAny _ _ (ret (.ref mp)) _ _ s
    exact wpAny_pure ⟨_, rfl, "map", _, hT, MF.slot_map_next.lookup, hQ⟩

theorem max_N {ty : String} {mp : Addr} {vs : List Value} {ws : List Str} {Q : Value → Shared → Prop} (hh : A.handled = none) (hty : (ty = "list_iterator" ∧ s.heap.IsList l vs.toArray) ∨ (ty = "tuple_iterator" ∧ s.heap.IsTuple l vs.toArray))
    (hv : StrsAre vs ws) (h0 : 0 < ws.length) (hw : ∀ x ∈ ws, x.length < 1000) (F : Fr h₀ L s.heap m) (N : News h₀ L s.heap news) (M : MapOn ty l h₀ L news mp s.heap)
    (h : ∀ h' tk t (z : Nat), (∃ x ∈ ws, x.length = z) → (∀ x ∈ ws, x.length ≤ z) → Fr h₀ L h' m → News h₀ L h' news → Q (.int z t) { s with heap := h', toks := tk }) :
    wpAny (model prog w) A (call (.builtin "max") [.ref mp]) Q E s := by
  obtain ⟨TI, it, h1, h2, h3, h4, h5, h6, NM⟩ := M
  have hmp := (NM _ List.mem_cons_self).1
  have hti := (NM _ (List.mem_cons_of_mem _ List.mem_cons_self)).1
  have hito := (NM _ (List.mem_cons_of_mem _ (List.mem_cons_of_mem _ List.mem_cons_self))).1
  have hn : vs.toArray.size = ws.length := by rw [List.size_toArray, hv.len_eq]
  obtain ⟨St, hD, hSt, hl⟩ : ∃ St : Nat → Heap → Prop, (∀ A' : Around, A'.handled = none → Draws prog w A' it [it, l] vs.toArray.size (fun i v => vs.toArray[i]? = some v) St) ∧ St 0 s.heap ∧ l < s.heap.objs.size := by
    rcases hty with ⟨rfl, hl⟩ | ⟨rfl, hl⟩
    · exact ⟨_, fun A' hA => Draws.list hA it l h3 vs.toArray, ⟨⟨_, hito, rfl, rfl⟩, hl⟩, by obtain ⟨o, ho, _⟩ := hl; exact Heap.lt_size ho⟩
    · exact ⟨_, fun A' hA => Draws.tuple hA it l h3 vs.toArray, ⟨⟨_, hito, rfl, rfl⟩, hl⟩, by obtain ⟨o, ho, _⟩ := hl; exact Heap.lt_size ho⟩
  have hP : ∀ (i : Nat) (v : Value), vs.toArray[i]? = some v → ∃ (x : Str) (t : Tok), v = .str x t ∧ ws[i]? = some x ∧ x.length < 1000 := fun i v e => by
    obtain ⟨x, t, hx, rfl⟩ := strs_at hv i v (by rw [List.getElem?_toArray] at e; exact e)
    exact ⟨x, t, rfl, hx, hw x (List.mem_of_getElem? hx)⟩
  have x0 : MapAt mp TI it St 0 s.heap := ⟨hmp, hti, hSt⟩
  have W := Walks.map (prog := prog) (w := w) (A := A.in1) (ws := ws) (by simpa using hh) hD hP h1 h2 (by simp)
  refine call_max_walk (W.self 0 _ _ _ x0 ⟨mp, _, _, _, _, _, _, rfl, W, x0, fun b hb => ?_, by rw [hn]; exact h0, CmpOf.ints_gt (lenAt ws) (fun i v h => h), fun v h' tk hv' hk => ?_⟩)
  · simp only [List.mem_cons, List.not_mem_nil, or_false] at hb
    rcases hb with rfl | rfl | rfl | rfl
    · exact Heap.lt_size hmp
    · exact Heap.lt_size hti
    · exact Heap.lt_size hito
    · exact hl
  · obtain ⟨t, rfl⟩ := hv'
    have hb := argBest_gt (lenAt ws) (vs.toArray.size - 1)
    rw [hn] at hb ⊢
    generalize argBest (fun i j => decide (lenAt ws i > lenAt ws j)) (ws.length - 1) = k at hb ⊢
    have hk' : k < ws.length := by omega
    have ek : ws[k]? = some ws[k] := List.getElem?_eq_getElem hk'
    have el : lenAt ws k = (ws[k].length : Int) := by unfold lenAt; rw [ek]; rfl
    rw [el] at hb ⊢
    refine h h' tk t ws[k].length ⟨_, List.getElem_mem hk', rfl⟩ (fun x hx => ?_) ?_ ?_
    · obtain ⟨j, hj⟩ := List.mem_iff_getElem?.mp hx
      have hjl := (List.getElem?_eq_some_iff.mp hj).1
      have := hb.2 j (by omega)
      unfold lenAt at this
      rw [hj] at this
      simpa using this
    · obtain ⟨oL, a1, a2, hL, r⟩ := F.ns
      have kp : ∀ b o, b ≠ it → s.heap.get? b = some o → h'.get? b = some o := fun b o hb e => hk b o (by simpa using hb) e
      exact ⟨⟨oL, a1, a2, kp _ _ h5 hL, r⟩, fun b o e => kp b o (fun q => by rw [q, h6] at e; cases e) (F.keep b o e), F.above⟩
    · exact fun p hp => ⟨hk _ _ (by simpa using h4 p hp) (N p hp).1, (N p hp).2⟩
end
end Mine
end

section
open PySem PySem.W PySem.Calls PyProof.Rows PySem.Spec
namespace Mine
set_option maxRecDepth 100000
theorem strs_append {a b : List Value} {x y : List Str} (h : StrsAre a x) (g : StrsAre b y) : StrsAre (a ++ b) (x ++ y) := by
  induction h with
  | nil => exact g
  | cons q t _ ih => exact .cons q t ih
section
variable {prog : Program} {w : World} {A : Around} {E : Value → Shared → Prop} {s : Shared} {h₀ : Heap} {L : Addr} {m : Str → Option Value} {env : Env}

/-- a comprehension by an invariant over its ledger -/
theorem comp_inv {elt : Expr} {x : Str} {scope : Scope} {cl : List (Str × Addr)} {S : List (Addr × Obj) → Prop} {P : Nat → Value → Prop} {Fin : List Value → List (Addr × Obj) → Prop} {n : Nat} (Inv : Nat → List Value → List (Addr × Obj) → Prop)
    (turn : ∀ i ys news, i < n → Inv i ys news → ∀ v I oI C oC D m₂ h tk (E' : Value → Shared → Prop), P i v → LCg.NsObj oC m₂ → m₂ x = some v → Fr h₀ L h m → News h₀ L h ((I, oI) :: (C, oC) :: (D, LCg.lst ys) :: news) → LCg.Off3 I C D news → ((@Ne Nat I C) ∧ (@Ne Nat I D) ∧ (@Ne Nat C D)) →
      wpAny (model prog w) A (eval elt (compEnvC scope cl C env)) (LCg.CompEnd h₀ L m { s with heap := h, toks := tk } I oI C oC D (LCg.lst ys) S (fun y news' => Inv (i + 1) (ys ++ [y]) news')) E' { s with heap := h, toks := tk })
    (fin : ∀ ys news, Inv n ys news → Fin ys news) : ∀ k i ys news, i + k = n → Inv i ys news → LCg.CompRest prog w A h₀ L m env elt x scope cl s S P Fin k i ys news
  | 0, i, ys, news, e, hI => by
    have : i = n := by omega
    subst this
    exact fin ys news hI
  | k + 1, i, ys, news, e, hI => fun v I oI C oC D m₂ h tk E' hv ho hm F N off ne =>
    wpAny_mono (turn i ys news (by omega) hI v I oI C oC D m₂ h tk E' hv ho hm F N off ne) (fun y s₂ ⟨h', tk', news', e1, e2, e3, e4, e5, e6⟩ => ⟨h', tk', news', e1, e2, e3, e4, e5, comp_inv Inv turn fin k (i + 1) _ _ (by omega) e6⟩) fun _ _ q => q

theorem cn_global {M : Model} {Q : Value → Shared → Prop} {K : Frag} {C : Addr} {mg mb : Str → Option Value} {scope : Scope} {cl : List (Str × Addr)} {p : Program} {loose : List Str} {x : Str} {pos : Pos} {v : Value} (F : Fr h₀ L s.heap m) (X : K.In h₀) (T : TopRead p loose mg mb h₀) (e : nsIn K mainGlobals x = some (some v)) (h : Q v s) (hg : env.globals = mainGlobals)
    (hk : (compEnvC scope cl C env).scope.kind = .function) (hx : (compEnvC scope cl C env).kindOf x = some .globalImplicit) (hd : (x == ("__debug__" : Str)) = false) :
    wpAny M A (eval (.Name x pos) (compEnvC scope cl C env)) Q E s :=
  Name_function_global hk hx (loadGlobal_global (env := compEnvC scope cl C env) (show s.heap.Ns env.globals mg from hg ▸ (T.keeps F.keep).g) (mg_of X T.g e) h) hd
theorem cn_built {M : Model} {Q : Value → Shared → Prop} {K : Frag} {C : Addr} {mg mb : Str → Option Value} {scope : Scope} {cl : List (Str × Addr)} {p : Program} {loose : List Str} {x : Str} {pos : Pos} {v : Value} (F : Fr h₀ L s.heap m) (X : K.In h₀) (T : TopRead p loose mg mb h₀) (e : nsIn K mainGlobals x = some none) (hv : bootBuiltins x = some v) (hn : x ≠ "__name__") (h : Q v s) (hg : env.globals = mainGlobals) (hb : env.builtins = builtinsNs)
    (hk : (compEnvC scope cl C env).scope.kind = .function) (hx : (compEnvC scope cl C env).kindOf x = some .globalImplicit) (hd : (x == ("__debug__" : Str)) = false) :
    wpAny M A (eval (.Name x pos) (compEnvC scope cl C env)) Q E s :=
  Name_function_global hk hx (loadGlobal_builtin (env := compEnvC scope cl C env) (show s.heap.Ns env.globals mg from hg ▸ (T.keeps F.keep).g) (mg_none_of X T.g e) (show s.heap.Ns env.builtins mb from hb ▸ (T.keeps F.keep).b) ((T.builtins x hn).trans hv) h) hd

/-- padded with None -/
def padL (n : Nat) (x : Str) : List Key := lett x ++ List.replicate (n - x.length) none
theorem padL_length {n : Nat} {x : Str} (h : x.length ≤ n) : (padL n x).length = n := by
  unfold padL; rw [List.length_append, lett_length, List.length_replicate]; omega
/-- lists of padded letters, made so far -/
def Padded (base : List (Addr × Obj)) (ws : List Str) (n i : Nat) (ys : List Value) (news : List (Addr × Obj)) : Prop :=
  (∀ p ∈ base, p ∈ news) ∧ ys.length = i ∧ ∀ (j : Nat) (v : Value), ys[j]? = some v → ∃ a o us x, v = .ref a ∧ (a, o) ∈ news ∧ o.cls = .type "list" ∧ (∃ c, o.data = .seq us c) ∧ KeysAre us.toList (padL n x) ∧ ws[j]? = some x
theorem Padded.step {base : List (Addr × Obj)} {ws : List Str} {n i : Nat} {ys : List Value} {news news' : List (Addr × Obj)} {a c : Nat} {us : Array Value} {x : Str} (h : Padded base ws n i ys news) (hx : ws[i]? = some x) (hu : KeysAre us.toList (padL n x))
    (hs : ∀ p ∈ news, p ∈ news') (hm : (a, W.listOf us c) ∈ news') : Padded base ws n (i + 1) (ys ++ [.ref a]) news' := by
  obtain ⟨h1, h2, h3⟩ := h
  refine ⟨fun p hp => hs p (h1 p hp), by simp [h2], fun j v hj => ?_⟩
  by_cases hlt : j < ys.length
  · rw [List.getElem?_append_left hlt] at hj
    obtain ⟨a', o, us', x', e1, e2, e3, e4, e5, e6⟩ := h3 j v hj
    exact ⟨a', o, us', x', e1, hs _ e2, e3, e4, e5, e6⟩
  · rw [List.getElem?_append_right (Nat.not_lt.mp hlt)] at hj
    have hj0 : j - ys.length = 0 := by
      rcases Nat.eq_zero_or_pos (j - ys.length) with h | h
      · exact h
      · rw [List.getElem?_eq_none (by simp only [List.length_singleton]; exact h)] at hj; cases hj
    rw [hj0] at hj
    simp only [List.getElem?_cons_zero, Option.some.injEq] at hj
    have hji : j = i := by omega
    subst hji
    exact ⟨a, _, us, x, hj.symm, hm, rfl, ⟨c, rfl⟩, hu, hx⟩
end
end Mine
end

section
open PySem PySem.W PySem.Calls PyProof.Rows PySem.Spec
namespace Mine
set_option maxRecDepth 100000
section
variable {prog : Program} {w : World} {A : Around} {E : Value → Shared → Prop} {s : Shared} {h₀ : Heap} {L : Addr} {m : Str → Option Value} {news : List (Addr × Obj)}

theorem keys_items {x : Str} {acc : Array Value} (h : ItemsOf (SignAt x) acc x.cps.size) : KeysAre acc.toList (lett x) := by
  have hlen : acc.toList.length = (lett x).length := by simp [lett, h.1]
  refine go acc.toList (lett x) hlen fun j v hv => ?_
  have hj : j < x.cps.size := by
    have := (List.getElem?_eq_some_iff.mp hv).1
    rw [Array.length_toList, h.1] at this; exact this
  obtain ⟨c, u, hc, rfl⟩ := h.2 j v (by simpa using hv)
  exact ⟨some ⟨#[c]⟩, by simp [lett, hc], isKey_str _ _⟩
where go : ∀ (vs : List Value) (ks : List Key), vs.length = ks.length → (∀ (j : Nat) (v : Value), vs[j]? = some v → ∃ k, ks[j]? = some k ∧ isKey k v = true) → KeysAre vs ks
  | [], [], _, _ => .nil
  | v :: vs, k :: ks, hl, h => by
    obtain ⟨k', e, hk⟩ := h 0 v rfl
    simp only [List.getElem?_cons_zero, Option.some.injEq] at e
    subst e
    exact .cons hk (go vs ks (by simpa using hl) fun j v' e => by
      obtain ⟨k', e', q⟩ := h (j + 1) v' (by simpa using e)
      exact ⟨k', by simpa using e', q⟩)
  | [], _ :: _, hl, _ => by simp at hl
  | _ :: _, [], hl, _ => by simp at hl

theorem keys_append {a b : List Value} {ka kb : List Key} (h : KeysAre a ka) (g : KeysAre b kb) : KeysAre (a ++ b) (ka ++ kb) := by
  induction h with
  | nil => exact g
  | cons hk _ ih => exact .cons hk ih
theorem keys_nones : ∀ n, KeysAre (List.replicate n .none) (List.replicate n none)
  | 0 => .nil
  | n + 1 => .cons isKey_none (keys_nones n)

theorem list_str_N {x : Str} {t : Tok} {Q : Value → Shared → Prop} (hh : A.handled = none) (F : Fr h₀ L s.heap m) (N : News h₀ L s.heap news) (hx : x.length < 1000)
    (h : ∀ h' tk D us c, Fr h₀ L h' m → News h₀ L h' ((D, W.listOf us c) :: news) → KeysAre us.toList (lett x) → Q (.ref D) { s with heap := h', toks := tk }) :
    wpAny (model prog w) A (call (.type "list") [.str x t]) Q E s := by
  refine call_list_str hh x t (fun h' tk acc' c' hk hS hI => ?_) (by rw [sizeLine_eq]; have : x.cps.size = x.length := rfl; omega)
  exact h h' tk _ acc' c' (F.keeps hk) (news_new F (fun p hp => ⟨hk _ _ (N p hp).1, (N p hp).2⟩) (Nat.le_refl _) hS) (keys_items hI)

theorem mul_none_N {l : Addr} {c : Nat} {x : Int} {u : Tok} {Q : Value → Shared → Prop} (F : Fr h₀ L s.heap m) (N : News h₀ L s.heap news) (hl : (l, W.listOf #[.none] c) ∈ news) (h0 : 0 ≤ x) (h1 : x < 1000)
    (h : ∀ h' D c', Fr h₀ L h' m → News h₀ L h' ((D, W.listOf (List.replicate x.toNat Value.none).toArray c') :: news) → Q (.ref D) { s with heap := h' }) :
    wpAny (model prog w) A (binaryOp .Mult (.ref l) (.int x u)) Q E s := by
  refine mul_list F N (N _ hl).1 (by omega) (by omega) (by simp only [List.size_toArray, List.length_singleton]; omega) fun h' F' N' => h h' _ 0 F' ?_
  have e : (List.foldl (fun x1 x2 => x1 ++ x2) #[] (List.replicate (if (#[Value.none] : Array Value).isEmpty = true then 0 else x.toNat) #[Value.none])) = (List.replicate x.toNat Value.none).toArray := by
    rw [if_neg (by simp), listMul_foldl]
    simp [lm_rep_flat_one]
  rw [e] at N'
  exact N'

theorem add_lists_N {a b : Addr} {us vs : Array Value} {c d : Nat} {Q : Value → Shared → Prop} (F : Fr h₀ L s.heap m) (N : News h₀ L s.heap news) (ha : (a, W.listOf us c) ∈ news) (hb : (b, W.listOf vs d) ∈ news) (h1 : us.size < 1000) (h2 : vs.size < 1000)
    (h : ∀ h' D c', Fr h₀ L h' m → News h₀ L h' ((D, W.listOf (us ++ vs) c') :: news) → (∀ p ∈ news, p.1 < D) → Q (.ref D) { s with heap := h' }) :
    wpAny (model prog w) A (binaryOp .Add (.ref a) (.ref b)) Q E s := by
  refine add_lists (vs := us.toList) (ws := vs.toList) F N ⟨_, (N _ ha).1, rfl, c, by rw [Array.toArray_toList]⟩ ⟨_, (N _ hb).1, rfl, d, by rw [Array.toArray_toList]⟩ (fun h' F' N' => h h' _ 0 F' ?_ fun p hp => Heap.lt_size (N p hp).1) (by rw [Array.length_toList, Array.length_toList, sizeLine_eq]; omega)
  have e : (us.toList ++ vs.toList).toArray = us ++ vs := by simp
  rw [e] at N'
  exact N'
end
end Mine
end

section
open PySem PySem.W PySem.Calls PyProof.Rows PySem.Spec
namespace Mine
set_option maxRecDepth 100000
set_option maxHeartbeats 0
local macro_rules | `(tactic| walk_at "mine stop") => `(tactic| first
  | (with_reducible show wpAny _ _ (eval (Expr.Call (Expr.Attribute _ _ _) [Expr.Starred _ _] _ _) _) _ _ _)
  | (with_reducible show wpAny _ _ (callWith _ (Value.ref _) _ (backTo _ (starEach [Expr.Starred _ _] _)) _) _ _ _)
  | (with_reducible show wpAny _ _ (callWith _ (Value.type _) _ (backTo _ (starEach [Expr.Starred _ _] _)) _) _ _ _)
  | (with_reducible show StarOf _ _ _ _ _ _)
  | (with_reducible show wpAny _ _ (call (Value.builtin "sum") _) _ _ _)
  | (with_reducible show wpAny _ _ (call (Value.builtin "max") _) _ _ _)
  | (with_reducible show wpAny _ _ (call (Value.type "map") _) _ _ _)
  | (with_reducible show wpAny _ _ (storeName _ (Str.ofString "longest") _) _ _ _)
  | (with_reducible show wpAny _ _ (binaryOp Operator.Add (Value.ref _) (Value.ref _)) _ _ _))
local macro_rules | `(tactic| walk_at "mine go") => `(tactic| repeat' ((fail_if_success (walk_at "mine stop")); (first | walk1 | (dsimp only; walk1))))
local macro_rules | `(tactic| k_mem) => `(tactic| first | ktr_member | exact List.mem_cons_self | (refine' List.mem_cons_of_mem _ ?_; k_mem))
local macro_rules | `(tactic| walk_at "eval Name") => `(tactic| ((with_reducible show wpAny _ _ (eval (Expr.Name _ _) (compEnvC _ _ _ _)) _ _ _); (first
  | (refine' cn_global ?k1 ?k2 ?k3 ?k4 ?_ ?k5 ?k6 ?k7 ?k8; (case k1 => k_asm); (case k2 => k_asm); (case k3 => k_asm); (case k4 => k_is); (case k5 => rfl); (case k6 => rfl); (case k7 => rfl); (case k8 => decide))
  | (refine' cn_built ?k1 ?k2 ?k3 ?k4 ?k9 ?k10 ?_ ?k5 ?k11 ?k6 ?k7 ?k8; (case k1 => k_asm); (case k2 => k_asm); (case k3 => k_asm); (case k4 => k_is); (case k9 => boot_by_name); (case k10 => decide); (case k5 => rfl); (case k11 => rfl); (case k6 => rfl); (case k7 => rfl); (case k8 => decide)))))
local macro_rules | `(tactic| walk_at "binaryOp Mult ref int") => `(tactic| (refine mul_none_N (by k_asm) (by k_asm) (by k_mem) (by omega) (by omega) ?_; intro h' D' c' F' N'))
section
variable {w : World} {A : Around} {mg mb : Str → Option Value} {p : Program} {loose : List Str} {h₀ : Heap} {L : Addr} {m : Str → Option Value} {news : List (Addr × Obj)} {s : Shared} {E : Value → Shared → Prop}


theorem callP_ct {x dx bm : Addr} {ob : Obj} {hs ts tq} {vs : List Value} {ws : List Str} {ps : Array Value} {n : Nat} {Q : Value → Shared → Prop} (hh : A.handled = none) (hroom : A.depth + 12 < recursionLimit)
    (F : Fr h₀ L s.heap m) (X : Amb w mg mb p loose h₀) (BM : BMod h₀ mainGlobals mg bm ob) (N : News h₀ L s.heap ((167, tabObj ps) :: news)) (hne : ∀ p ∈ news, p.1 ≠ 167) (htr : TriplesOk ps.toList) (hG : AllBare s.gens)
    (hx : (x, instObj 173 dx) ∈ news) (hdx : (dx, hamD hs ts tq false) ∈ news) (hv : StrsAre vs ws) (hsz : 2 ≤ vs.length ∧ vs.length ≤ 4)
    (hw : ∀ x ∈ ws, 0 < x.length ∧ x.length < 1000) (most : ∀ x ∈ ws, x.length ≤ n) (hit : ∃ x ∈ ws, x.length = n)
    (h : ∀ s' ps' t, Fr h₀ L s'.heap m → News h₀ L s'.heap ((167, tabObj ps') :: news) → TriplesOk ps'.toList → s'.os = s.os → AllBare s'.gens → Q (.int (if same (ws.map some) then 0 else cnt (ws.map (padL n)) n) t) s') :
    codeAny (model pg w) A (.call (.ref 170) ⟨.ref x :: vs, []⟩) (Ret Q E) s := by
  refine' enter_restC (K := hd.heap_39 w.params) (vs := vs) (binds := ?b) F X.k N X.t.nolimit ?k1 ?k2 ?k0 ?k3 ?k4 ?k5 ?k6 ?_ ?c1 ?c2 ?c3
  case k0 => omega
  case k1 => k_is
  case k2 => k_is
  case k3 => (refine' bind_rest1 ?kp9 ?kd9; (case kp9 => rfl); (case kd9 => rfl))
  case k4 => rw [sizeLine_eq]; omega
  case k5 => exact fun D => kindsX rfl
  case k6 => decide +kernel
  case c1 => rfl
  case c2 => rfl
  case c3 => rfl
  intro D g L' h₁ tk cells hD st F₁ N₁ Y bk lt
  obtain ⟨KX, TX⟩ := X.keeps st
  replace BM := BM.keeps st
  clear F N X st
  obtain ⟨oc, oc', rfl, hoc, hoc'⟩ := CellsAre.two Y
  replace N₁ : News g L' h₁ ((_, oc) :: (_, oc') :: (D, tupO vs) :: (167, tabObj ps) :: news) := N₁
  have hvl := hv.len_eq
  walk_at "mine go"
  refine starMethod_ ?_
  walk_at "mine go"
  (with_reducible rename Fr _ _ _ _ => F₂)
  (with_reducible rename News _ _ _ _ => N₂)
  refine' starM (K := hd.heap_39 w.params) (f := 108) (self := .ref x) ?hf ?_
  case hf => k_is
  walk_at "mine go"
  refine star_tup_G F₂ N₂ (by k_mem) (by rw [sizeLine_eq]; omega) fun h₃ F₃ N₃ => ⟨⟨(N₃ _ (by k_mem)).1, KX.keeps F₃.keep⟩, ?_⟩
  (try clear F₂ N₂)
  refine getseq_ct (dx := dx) (hs := hs) (ts := ts) (tq := tq) (b := false) hh ?_ F₃ ⟨KX, TX⟩ N₃ (by k_mem) (by k_mem) (by omega) fun h₄ tk₄ l c F₄ N₄ => ?_
  · simp only [depth_deeper]; omega
  (try clear F₃ N₃)
  walk_at "mine go"
  refine starMethod_ ?_
  walk_at "mine go"
  (with_reducible rename Fr _ _ _ _ => F₅)
  (with_reducible rename News _ _ _ _ => N₅)
  refine' starM (K := hd.heap_39 w.params) (f := 93) (self := .ref x) ?hf ?_
  case hf => k_is
  walk_at "mine go"
  refine star_lst_G (a := l) F₅ N₅ (by k_mem) (by rw [sizeLine_eq]; omega) fun h₆ F₆ N₆ => ⟨⟨(N₆ _ (by k_mem)).1, KX.keeps F₆.keep⟩, ?_⟩
  (try clear F₅ N₅)
  refine quick_ct (dx := dx) (hs := hs) (ts := ts) (tq := tq) (b := false) (ws := ws) hh ?_ F₆ ⟨KX, TX⟩ N₆ (by k_mem) (by k_mem) hv (by omega) hw fun h₇ tk₇ tk₇' F₇ N₇ => ?_
  · simp only [depth_deeper]; omega
  (try clear F₆ N₆)
  cases hsame : same (ws.map some)
  · simp only [hsame, Bool.false_eq_true, if_false] at h ⊢
    walk_at "mine go"
    (with_reducible rename Fr _ _ _ _ => F₈)
    (with_reducible rename News _ _ _ _ => N₈)
    have hLst : ∀ {h : Heap} {L : Addr} {nn : List (Addr × Obj)}, News g L h nn → (l, W.listOf vs.toArray c) ∈ nn → h.IsList l vs.toArray := fun N hm => ⟨_, (N _ hm).1, rfl, _, rfl⟩
    refine map_N (ty := "list_iterator") (.inl ⟨rfl, hLst N₈ (by k_mem)⟩) F₈ N₈ (N₈ (l, W.listOf vs.toArray c) (by k_mem)).1 fun h₉ mp F₉ N₉ M₉ => ?_
    (try clear F₈ N₈)
    walk_at "mine go"
    refine max_N (ty := "list_iterator") hh (.inl ⟨rfl, hLst N₉ (by k_mem)⟩) hv (by omega) (fun x hx => (hw x hx).2) F₉ N₉ M₉ fun h₁₀ tk₁₀ t₁₀ z hz1 hz2 F₁₀ N₁₀ => ?_
    (try clear F₉ N₉ M₉)
    obtain rfl : z = n := by
      obtain ⟨a, ha, ea⟩ := hz1
      obtain ⟨b, hb, eb⟩ := hit
      have := most a ha
      have := hz2 b hb
      omega
    walk_at "mine go"
    refine wpAny_storeName_cell (v₀ := none) rfl rfl rfl ⟨oc, (N₁₀ (L' + 1 + 1, oc) (by k_mem)).1, hoc⟩ fun h₁₁ hcell sb₁₁ => ?_
    obtain ⟨oc₂, hoc₂, hoc₂d⟩ := hcell
    have hcne : L' ≠ L' + 1 + 1 := Nat.ne_of_lt (by omega)
    have hcg := (N₁₀ (L' + 1 + 1, oc) (by k_mem)).2.2
    have ext₁₁ := sb₁₁.extBut
    have F₁₁ := F₁₀.change sb₁₁ hcne.symm hcg
    have N₁₁ : News g L' h₁₁ ((L' + 1 + 1, oc₂) :: (L' + 1, oc') :: (l, W.listOf vs.toArray c) :: (167, tabObj ps) :: news) := fun p hp => by
      rcases List.mem_cons.mp hp with rfl | hp
      · exact ⟨hoc₂, (N₁₀ (L' + 1 + 1, oc) (by k_mem)).2⟩
      · rcases List.mem_cons.mp hp with rfl | hp
        · have q := N₁₀ (L' + 1, oc') (by k_mem)
          exact ⟨ext₁₁ _ _ (Nat.ne_of_lt (by omega)) q.1, q.2⟩
        · rcases List.mem_cons.mp hp with rfl | hp
          · have q := N₁₀ (l, W.listOf vs.toArray c) (by k_mem)
            refine ⟨ext₁₁ _ _ (fun e => ?_) q.1, q.2⟩
            have q' := N₁₀ (L' + 1 + 1, oc) (by k_mem)
            have e' : l = L' + 1 + 1 := e
            rw [e', q'.1] at q
            have := q.1; cases this; cases hoc
          · have hlt : p.1 < L' := lt p (List.mem_cons_of_mem _ hp)
            have q : News g L' h₁₀ ((167, tabObj ps) :: news) := fun p' hp' => N₁₀ p' (by simp only [List.mem_cons] at hp' ⊢; rcases hp' with h | h <;> simp [h])
            exact ⟨ext₁₁ _ _ (Nat.ne_of_lt (Nat.lt_of_lt_of_le hlt (Nat.le_succ_of_le (Nat.le_succ L')))) (q p hp).1, (q p hp).2⟩
    clear F₁₀ N₁₀
    walk_at "mine go"
    refine LCg.CompSrc.ledger (k := c) hh (by with_reducible assumption) (by with_reducible assumption) (by k_mem) (by rw [List.size_toArray, sizeLine_eq]; omega) fun h₁₂ => ?_
    clear F₁₁ N₁₁
    refine comp_inv (n := vs.toArray.size) (Padded ((L' + 1 + 1, oc₂) :: (L' + 1, oc') :: (l, W.listOf vs.toArray c) :: (167, tabObj ps) :: news) ws z) ?turn ?fin _ 0 [] _ (Nat.zero_add _) ⟨fun p hp => hp, rfl, fun j v e => by simp at e⟩
    case turn =>
      intro i ys nn hi hI v I oI C oC D' m₂ h₁₃ tk₁₃ E' hPv hNs hm hF hN hoff hne3
      obtain ⟨y, ty, hy, rfl⟩ := strs_at hv i v (by rw [List.getElem?_toArray] at hPv; exact hPv)
      have hc2 : (L' + 1 + 1, oc₂) ∈ nn := hI.1 _ (by k_mem)
      have hyl := (hw y (List.mem_of_getElem? hy)).2
      have hyn := most y (List.mem_of_getElem? hy)
      have hzl : z < 1000 := by obtain ⟨q, hq1, hq2⟩ := hit; have := (hw q hq1).2; omega
      walk_at "mine go"
      refine list_str_N hh hF hN hyl fun h₁₄ tk₁₄ D₁₄ us c₁₄ F₁₄ N₁₄ hus => ?_
      walk_at "mine go"
      (with_reducible rename Fr _ _ _ _ => F₁₅)
      (with_reducible rename News _ _ _ _ => N₁₅)
      have hul : us.size = y.length := by have := hus.length; simpa [lett, Str.length] using this
      refine add_lists_N (a := D₁₄) F₁₅ N₁₅ (by k_mem) (by k_mem) (by omega) (by simp; omega) ?_
      intro h₁₆ D₁₆ c₁₆ F₁₆ N₁₆ l₁₆
      clear F₁₅ N₁₅
      refine LCg.CompEnd.intro F₁₆ N₁₆ ((D₁₆, W.listOf (us ++ (List.replicate ((z : Int) - (y.length : Int)).toNat Value.none).toArray) c₁₆) :: nn) (fun p hp => ?_) ⟨⟨Nat.ne_of_gt (l₁₆ (I, oI) (by k_mem)), Nat.ne_of_gt (l₁₆ (C, oC) (by k_mem)), Nat.ne_of_gt (l₁₆ (D', LCg.lst ys) (by k_mem))⟩, hoff⟩
        (.inr ⟨_, List.mem_cons_of_mem _ (hI.1 (l, W.listOf vs.toArray c) (by k_mem)), rfl, _, rfl⟩) (hI.step hy ?_ (fun p hp => List.mem_cons_of_mem _ hp) List.mem_cons_self)
      · simp only [List.mem_cons] at hp ⊢
        rcases hp with hp | hp | hp | hp | hp <;> simp [hp]
      · rw [Array.toList_append]
        refine keys_append hus ?_
        rw [show ((z : Int) - (y.length : Int)).toNat = z - y.length from by omega]
        exact keys_nones _
    case fin =>
      intro ys nn hI
      unfold LCg.FinA
      intro D₂ h₁₇ tk₁₇ F₁₇ N₁₇ o1
      obtain ⟨hI1, hI2, hI3⟩ := hI
      rw [List.size_toArray] at hI2
      have hm1 : (L' + 1, oc') ∈ nn := hI1 _ (by k_mem)
      have hm2 : (167, tabObj ps) ∈ nn := hI1 _ (by k_mem)
      dsimp only
      walk_at "mine go"
      (with_reducible rename Fr _ _ _ _ => F₈)
      (with_reducible rename News _ _ _ _ => N₈)
      refine' genexpZ (cl := ?cl) ?a0 ?a1 ?a2 ?a3 ?a4 ?a5 ?a6 ?a7 ?_ ?a8
      case a0 => exact hh
      case a1 => rfl
      case a2 => rfl
      case a3 => decide
      case a4 => rfl
      case a5 => rfl
      case a6 => rfl
      case a7 => simp only [depth_deeper]; omega
      case a8 => exact fun _ => rfl
      walk_at "mine go"
      refine starT ?_
      walk_at "mine go"
      refine star_lst_G (a := D₂) (vs := ys) (c := ys.length) F₈ N₈ List.mem_cons_self (by rw [sizeLine_eq]; omega) fun h₉ F₉ N₉ => ?_
      (try clear F₈ N₈)
      have h167 : (167 : Nat) < L' := lt (167, tabObj ps) (by k_mem)
      refine' genzip (kss := ws.map (padL z)) (n := z) (own := (L' + 1, oc') :: news) ?b0 ?b1 ?bF ?bN BM TX.nolimit ?b2 ?bG ?b21 ?b22 ?b3 htr ?b4 (by omega) ?b5 ?b6 ?b7 ?b8 ?b9 ?b10
      case b1 => simp only [depth_deeper]; omega
      case b2 => exact codeHd_of_K KX cd169
      case b0 => exact hh
      case bF => exact F₉
      case bN => exact N₉
      case bG => exact hG
      case b21 => rfl
      case b22 => rfl
      case b3 => exact List.mem_cons_of_mem _ hm2
      case b4 =>
        intro p hp
        rcases List.mem_cons.mp hp with rfl | hp
        · exact ⟨List.mem_cons_of_mem _ hm1, Nat.ne_of_gt (by omega)⟩
        · exact ⟨List.mem_cons_of_mem _ (hI1 p (by simp [hp])), hne p hp⟩
      case b5 => rw [List.length_map]; omega
      case b6 =>
        intro j v ks e1 e2
        obtain ⟨a, o, us, y, rfl, ho, hoc1, ⟨c1, hod⟩, hK, hy⟩ := hI3 j v e1
        rw [List.getElem?_map, hy] at e2
        cases e2
        exact .inl ⟨a, us, rfl, ⟨o, (N₉ (a, o) (List.mem_cons_of_mem _ ho)).1, hoc1, c1, hod⟩, hK⟩
      case b7 =>
        intro ks hks
        obtain ⟨y, hy, rfl⟩ := List.mem_map.mp hks
        rw [padL_length (most y hy)]; exact Nat.le_refl _
      case b8 =>
        obtain ⟨y, hy, hyn⟩ := hit
        exact ⟨_, List.mem_map_of_mem hy, padL_length (most y hy)⟩
      case b9 =>
        clear F₉ N₉
        intro C code A' E' i T us t m₂ hA hD9 hK Ft Nt hm
        refine elt_ct (x := x) (dx := dx) (hs := hs) (ts := ts) (tq := tq) (b := false) (c := L' + 1) (oc := oc') hA ?_ Ft ⟨KX, TX⟩ Nt (by k_mem) (by k_mem) hm hK (by have := hK.length; simp [col] at this; omega) rfl (by k_mem) hoc' rfl rfl rfl
        simp only [depth_deeper] at hD9; omega
      case b10 =>
        intro a s' ps' Fs Ns hts hos hGs X9
        clear F₉ N₉
        walk_at "mine go"
        refine sumgen Fs Ns hGs X9 fun s'' t'' F₁₂ N₁₂ hos₂ hG₂ => ?_
        clear Fs Ns
        walk_at "mine go"
        obtain ⟨Fb, Nb⟩ := bk _ _ _ _ F₁₂ N₁₂
        exact h s'' ps' t'' Fb (news_sub Nb (sub_keep (sub_drop sub_refl))) hts (hos₂.trans hos) hG₂
  · simp only [hsame, if_true] at h ⊢
    walk_at "mine go"
    dsimp only
    (with_reducible rename Fr _ _ _ _ => F₈)
    (with_reducible rename News _ _ _ _ => N₈)
    obtain ⟨Fb, Nb⟩ := bk _ _ _ _ F₈ N₈
    exact h _ ps _ Fb (news_sub Nb (sub_drop (sub_drop (sub_drop (sub_drop (sub_drop (sub_drop sub_refl))))))) htr rfl hG
end
end Mine
end

section
open PySem PySem.W PySem.Calls PyProof.Rows PySem.Spec
namespace Mine
set_option maxRecDepth 100000
set_option maxHeartbeats 0
local macro_rules | `(tactic| walk_at "mine stop") => `(tactic| first
  | (with_reducible show wpAny _ _ (eval (Expr.Call (Expr.Attribute _ _ _) [Expr.Starred _ _] _ _) _) _ _ _)
  | (with_reducible show wpAny _ _ (callWith _ (Value.ref _) _ (backTo _ (starEach [Expr.Starred _ _] _)) _) _ _ _)
  | (with_reducible show StarOf _ _ _ _ _ _))
local macro_rules | `(tactic| walk_at "mine go") => `(tactic| repeat' ((fail_if_success (walk_at "mine stop")); (first | walk1 | (dsimp only; walk1))))
local macro_rules | `(tactic| k_mem) => `(tactic| first | ktr_member | exact List.mem_cons_self | (refine' List.mem_cons_of_mem _ ?_; k_mem))
section
variable {w : World} {A : Around} {mg mb : Str → Option Value} {p : Program} {loose : List Str} {h₀ : Heap} {L : Addr} {m : Str → Option Value} {news : List (Addr × Obj)} {s : Shared} {E : Value → Shared → Prop}

/-- what Hamming counts -/
def HamN (b : Bool) (ws : List Str) (r : Nat) : Prop :=
  (b = true ∧ ∃ n, (∀ x ∈ ws, n ≤ x.length) ∧ (∃ x ∈ ws, x.length = n) ∧ r = if same (ws.map some) then 0 else cnt (ws.map lett) n) ∨
  (b = false ∧ ∃ n, (∀ x ∈ ws, x.length ≤ n) ∧ (∃ x ∈ ws, x.length = n) ∧ r = if same (ws.map some) then 0 else cnt (ws.map (padL n)) n)

theorem ite_cast (c : Bool) (a : Nat) : ((if c = true then (0 : Nat) else a : Nat) : Int) = if c = true then (0 : Int) else (a : Int) := by cases c <;> rfl

theorem call_ct {x dx bm : Addr} {ob : Obj} {hs ts tq} {b : Bool} {vs : List Value} {ws : List Str} {ps : Array Value} {r : Nat} {Q : Value → Shared → Prop} (hh : A.handled = none) (hroom : A.depth + 12 < recursionLimit)
    (F : Fr h₀ L s.heap m) (X : Amb w mg mb p loose h₀) (BM : BMod h₀ mainGlobals mg bm ob) (N : News h₀ L s.heap ((167, tabObj ps) :: news)) (hne : ∀ p ∈ news, p.1 ≠ 167) (htr : TriplesOk ps.toList) (hG : AllBare s.gens)
    (hx : (x, instObj 173 dx) ∈ news) (hdx : (dx, hamD hs ts tq b) ∈ news) (hv : StrsAre vs ws) (hsz : 2 ≤ vs.length ∧ vs.length ≤ 4)
    (hw : ∀ x ∈ ws, 0 < x.length ∧ x.length < 1000) (hr : HamN b ws r)
    (h : ∀ s' ps' t, Fr h₀ L s'.heap m → News h₀ L s'.heap ((167, tabObj ps') :: news) → TriplesOk ps'.toList → s'.os = s.os → AllBare s'.gens → Q (.int r t) s') :
    codeAny (model pg w) A (.call (.ref 170) ⟨.ref x :: vs, []⟩) (Ret Q E) s := by
  rcases hr with ⟨rfl, n, h1, h2, rfl⟩ | ⟨rfl, n, h1, h2, rfl⟩
  · rw [ite_cast] at h
    exact callT_ct hh hroom F X BM N hne htr hG hx hdx hv hsz hw h1 h2 h
  · rw [ite_cast] at h
    exact callP_ct hh hroom F X BM N hne htr hG hx hdx hv hsz hw h1 h2 h

theorem dist_ct {x dx bm : Addr} {ob : Obj} {hs ts tq} {b : Bool} {vs : List Value} {ws : List Str} {ps : Array Value} {r : Nat} {Q : Value → Shared → Prop} (hh : A.handled = none) (hroom : A.depth + 16 < recursionLimit)
    (F : Fr h₀ L s.heap m) (X : Amb w mg mb p loose h₀) (BM : BMod h₀ mainGlobals mg bm ob) (N : News h₀ L s.heap ((167, tabObj ps) :: news)) (hne : ∀ p ∈ news, p.1 ≠ 167) (htr : TriplesOk ps.toList) (hG : AllBare s.gens)
    (hx : (x, instObj 173 dx) ∈ news) (hdx : (dx, hamD hs ts tq b) ∈ news) (hv : StrsAre vs ws) (hsz : 2 ≤ vs.length ∧ vs.length ≤ 4)
    (hw : ∀ x ∈ ws, 0 < x.length ∧ x.length < 1000) (hr : HamN b ws r)
    (h : ∀ s' ps' t, Fr h₀ L s'.heap m → News h₀ L s'.heap ((167, tabObj ps') :: news) → TriplesOk ps'.toList → s'.os = s.os → AllBare s'.gens → Q (.int r t) s') :
    codeAny (model pg w) A (.call (.ref 65) ⟨.ref x :: vs, []⟩) (Ret Q E) s := by
  refine' enter_rest (K := hd.heap_39 w.params) (vs := vs) (binds := ?b) F X.k N X.t.nolimit ?k1 ?k2 ?k0 ?k3 ?k4 ?k5 ?_ ?c1 ?c2 ?c3 ?c4
  case k0 => omega
  case k1 => k_is
  case k2 => k_is
  case k3 => (refine' bind_rest1 ?kp9 ?kd9; (case kp9 => rfl); (case kd9 => rfl))
  case k4 => rw [sizeLine_eq]; omega
  case k5 => exact fun D => locs rfl
  case c1 => rfl
  case c2 => rfl
  case c3 => rfl
  case c4 => decide
  intro D g L' h₁ tk hD st F₁ N₁ bk _
  obtain ⟨KX, TX⟩ := X.keeps st
  replace BM := BM.keeps st
  clear F N X st
  have h167 : (167 : Nat) < D := hD (167, tabObj ps) (by k_mem)
  walk_at "mine go"
  have hI : ∀ {h : Heap}, News g L' h ((D, tupO vs) :: (167, tabObj ps) :: news) → InstAt h x (instObj 173 dx) 173 (some (hamD hs ts tq b)) := fun {h} N => ⟨(N (x, instObj 173 dx) (by k_mem)).1, rfl, rfl, (N (dx, hamD hs ts tq b) (by k_mem)).1⟩
  refine' starI (K := hd.heap_39 w.params) (C := 173) (f := 170) (ox := instObj 173 dx) (od := some (hamD hs ts tq b)) rfl ?k1 ?k2 ?k3 ?_
  case k1 => k_is
  case k2 => k_is
  case k3 => k_is
  walk_at "mine go"
  refine star_tup_G F₁ N₁ List.mem_cons_self (by rw [sizeLine_eq]; omega) fun h₂ F₂ N₂ => ⟨⟨KX.keeps F₂.keep, hI N₂⟩, ?_⟩
  clear F₁ N₁
  refine call_ct (ps := ps) (news := news) hh ?_ F₂ ⟨KX, TX⟩ BM (news_sub N₂ (sub_drop sub_refl)) hne htr hG hx hdx hv hsz hw hr fun s' ps' t' F₃ N₃ ht₃ hos hG₃ => ?_
  · simp only [depth_deeper]; omega
  walk_at "mine go"
  obtain ⟨Fb, Nb⟩ := bk _ _ _ _ F₃ N₃
  exact h s' ps' t' Fb Nb ht₃ hos hG₃
end
end Mine
end

section
open PySem PySem.W PySem.Calls PyProof.Rows PySem.Spec
namespace Mine
set_option maxRecDepth 100000
set_option maxHeartbeats 0
local macro_rules | `(tactic| walk_at "mine stop") => `(tactic| first
  | (with_reducible show wpAny _ _ (eval (Expr.Call (Expr.Attribute _ _ _) [Expr.Starred _ _] _ _) _) _ _ _)
  | (with_reducible show StarOf _ _ _ _ _ _)
  | (with_reducible show wpAny _ _ (call (Value.builtin "max") _) _ _ _)
  | (with_reducible show wpAny _ _ (call (Value.type "map") _) _ _ _)
  | (with_reducible show wpAny _ _ (getAttr _ (Str.ofString "maximum") _) _ _ _))
local macro_rules | `(tactic| walk_at "mine go") => `(tactic| repeat' ((fail_if_success (walk_at "mine stop")); (first | walk1 | (dsimp only; walk1))))
local macro_rules | `(tactic| k_mem) => `(tactic| first | ktr_member | exact List.mem_cons_self | (refine' List.mem_cons_of_mem _ ?_; k_mem))
local macro_rules | `(tactic| walk_at "mine sm") => `(tactic| (refine' get_sm ?k1 ?k2 ?k4 ?k5 ?k6 ?k7 ?k9 ?k10 ?k11 ?k12 ?k13 ?k14 ?_; (case k1 => k_asm); (case k2 => k_asm); (case k4 => k_inst); (case k5 => k_is); (case k6 => k_is); (case k7 => k_is); (case k9 => k_is); (case k10 => k_is); (case k11 => decide +kernel); (case k12 => k_get); (case k13 => k_is); (case k14 => k_handed)))
section
variable {w : World} {A : Around} {mg mb : Str → Option Value} {p : Program} {loose : List Str} {h₀ : Heap} {L : Addr} {m : Str → Option Value} {news : List (Addr × Obj)} {s : Shared} {E : Value → Shared → Prop}

theorem maxi_ct {vs : List Value} {ws : List Str} {n : Nat} {Q : Value → Shared → Prop} (hh : A.handled = none) (hroom : A.depth + 4 < recursionLimit)
    (F : Fr h₀ L s.heap m) (X : Amb w mg mb p loose h₀) (N : News h₀ L s.heap news) (hv : StrsAre vs ws) (hsz : 2 ≤ vs.length ∧ vs.length ≤ 4)
    (hw : ∀ x ∈ ws, 0 < x.length ∧ x.length < 1000) (most : ∀ x ∈ ws, x.length ≤ n) (hit : ∃ x ∈ ws, x.length = n)
    (h : ∀ h' tk t, Fr h₀ L h' m → News h₀ L h' news → Q (.int n t) { s with heap := h', toks := tk }) :
    wpAny (model pg w) A (call (.ref 55) vs) Q E s := by
  refine wpAny_call ?_
  refine' enter_rest (K := hd.heap_39 w.params) (vs := vs) (binds := ?b) F X.k N X.t.nolimit ?k1 ?k2 ?k0 ?k3 ?k4 ?k5 ?_ ?c1 ?c2 ?c3 ?c4
  case k0 => omega
  case k1 => k_is
  case k2 => k_is
  case k3 => (refine' bind_rest0 ?kp9 ?kd9; (case kp9 => rfl); (case kd9 => rfl))
  case k4 => rw [sizeLine_eq]; omega
  case k5 => exact fun D => locs rfl
  case c1 => rfl
  case c2 => rfl
  case c3 => rfl
  case c4 => decide
  intro D g L' h₁ tk hD st F₁ N₁ bk _
  obtain ⟨KX, TX⟩ := X.keeps st
  clear F N X st
  have hvl := hv.len_eq
  walk_at "mine go"
  have hT : ∀ {h : Heap}, News g L' h ((D, tupO vs) :: news) → h.IsTuple D vs.toArray := fun N => ⟨_, (N _ List.mem_cons_self).1, rfl, _, rfl⟩
  refine map_N (ty := "tuple_iterator") (.inr ⟨rfl, hT N₁⟩) F₁ N₁ (N₁ (D, tupO vs) List.mem_cons_self).1 fun h₉ mp F₉ N₉ M₉ => ?_
  clear F₁ N₁
  walk_at "mine go"
  refine max_N (ty := "tuple_iterator") hh (.inr ⟨rfl, hT N₉⟩) hv (by omega) (fun x hx => (hw x hx).2) F₉ N₉ M₉ fun h₁₀ tk₁₀ t₁₀ z hz1 hz2 F₁₀ N₁₀ => ?_
  clear F₉ N₉ M₉
  obtain rfl : z = n := by
    obtain ⟨a, ha, ea⟩ := hz1
    obtain ⟨b, hb, eb⟩ := hit
    have := most a ha
    have := hz2 b hb
    omega
  walk_at "mine go"
  obtain ⟨Fb, Nb⟩ := bk _ _ _ _ F₁₀ N₁₀
  exact h _ _ t₁₀ Fb (news_sub Nb (sub_drop sub_refl))

theorem sim_ct {x dx bm : Addr} {ob : Obj} {hs ts tq} {b : Bool} {vs : List Value} {ws : List Str} {ps : Array Value} {r n : Nat} {Q : Value → Shared → Prop} (hh : A.handled = none) (hroom : A.depth + 20 < recursionLimit)
    (F : Fr h₀ L s.heap m) (X : Amb w mg mb p loose h₀) (BM : BMod h₀ mainGlobals mg bm ob) (N : News h₀ L s.heap ((167, tabObj ps) :: news)) (hne : ∀ p ∈ news, p.1 ≠ 167) (htr : TriplesOk ps.toList) (hG : AllBare s.gens)
    (hx : (x, instObj 173 dx) ∈ news) (hdx : (dx, hamD hs ts tq b) ∈ news) (hv : StrsAre vs ws) (hsz : 2 ≤ vs.length ∧ vs.length ≤ 4)
    (hw : ∀ x ∈ ws, 0 < x.length ∧ x.length < 1000) (hr : HamN b ws r) (most : ∀ x ∈ ws, x.length ≤ n) (hit : ∃ x ∈ ws, x.length = n)
    (h : ∀ s' ps' t, Fr h₀ L s'.heap m → News h₀ L s'.heap ((167, tabObj ps') :: news) → TriplesOk ps'.toList → s'.os = s.os → AllBare s'.gens → Q (.int ((n : Int) - (r : Int)) t) s') :
    codeAny (model pg w) A (.call (.ref 72) ⟨.ref x :: vs, []⟩) (Ret Q E) s := by
  refine' enter_rest (K := hd.heap_39 w.params) (vs := vs) (binds := ?b) F X.k N X.t.nolimit ?k1 ?k2 ?k0 ?k3 ?k4 ?k5 ?_ ?c1 ?c2 ?c3 ?c4
  case k0 => omega
  case k1 => k_is
  case k2 => k_is
  case k3 => (refine' bind_rest1 ?kp9 ?kd9; (case kp9 => rfl); (case kd9 => rfl))
  case k4 => rw [sizeLine_eq]; omega
  case k5 => exact fun D => locs rfl
  case c1 => rfl
  case c2 => rfl
  case c3 => rfl
  case c4 => decide
  intro D g L' h₁ tk hD st F₁ N₁ bk _
  obtain ⟨KX, TX⟩ := X.keeps st
  replace BM := BM.keeps st
  clear F N X st
  have h167 : (167 : Nat) < D := hD (167, tabObj ps) (by k_mem)
  walk_at "mine go"
  refine starMethod_ ?_
  walk_at "mine go"
  walk_at "mine sm"
  walk_at "mine go"
  refine star_tup_N F₁ N₁ KX List.mem_cons_self (by rw [sizeLine_eq]; omega) fun h₂ F₂ N₂ => ?_
  clear F₁ N₁
  show wpAny _ _ (call (.ref 55) vs) _ _ _
  refine maxi_ct (n := n) hh ?_ F₂ ⟨KX, TX⟩ N₂ hv hsz hw most hit fun h₃ tk₃ t₃ F₃ N₃ => ?_
  · simp only [depth_deeper]; omega
  clear F₂ N₂
  walk_at "mine go"
  refine starMethod_ ?_
  iterate 2 (first | walk1 | (dsimp only; walk1))
  (with_reducible rename Fr _ _ _ _ => F₅)
  (with_reducible rename News _ _ _ _ => N₅)
  refine' starM (K := hd.heap_39 w.params) (f := 65) (self := .ref x) ?hf ?_
  case hf => k_is
  walk_at "mine go"
  refine star_tup_G (a := D) F₅ N₅ (by k_mem) (by rw [sizeLine_eq]; omega) fun h₆ F₆ N₆ => ⟨⟨(N₆ _ (by k_mem)).1, KX.keeps F₆.keep⟩, ?_⟩
  clear F₅ N₅
  refine dist_ct (ps := ps) (news := news) hh ?_ F₆ ⟨KX, TX⟩ BM (news_sub N₆ (sub_drop (sub_drop sub_refl))) hne htr hG hx hdx hv hsz hw hr fun s' ps' t' F₇ N₇ ht₇ hos hG₇ => ?_
  · simp only [depth_deeper]; omega
  walk_at "mine go"
  obtain ⟨Fb, Nb⟩ := bk _ _ _ _ F₇ N₇
  exact h { s' with toks := s'.toks + 1 } ps' s'.toks Fb Nb ht₇ hos hG₇
end
end Mine
end

section
open PySem PySem.W PySem.Calls PyProof.Rows PySem.Spec
namespace Mine
set_option maxRecDepth 100000
set_option maxHeartbeats 0
local macro_rules | `(tactic| walk_at "mine go") => `(tactic| repeat' (first | walk1 | (dsimp only; walk1)))
local macro_rules | `(tactic| k_mem) => `(tactic| first | ktr_member | exact List.mem_cons_self | (refine' List.mem_cons_of_mem _ ?_; k_mem))
section
variable {w : World} {A : Around} {mg mb : Str → Option Value} {p : Program} {loose : List Str} {h₀ : Heap} {L : Addr} {m : Str → Option Value} {news : List (Addr × Obj)} {s : Shared} {E : Value → Shared → Prop}

theorem at_ct {l : Addr} {vs : List Value} {ns : List Int} {k o : Int} {tk to : Tok} {Q : Value → Shared → Prop} (hh : A.handled = none) (hroom : A.depth + 4 < recursionLimit)
    (F : Fr h₀ L s.heap m) (X : Amb w mg mb p loose h₀) (N : News h₀ L s.heap news) (hl : h₀.IsList l vs.toArray) (hi : IntsAre vs ns) (hlen : ns.length < 1000) (hk : 0 ≤ k ∧ k < 1000)
    (h : ∀ h' tk t z, Fr h₀ L h' m → News h₀ L h' news → Q (.int z t) { s with heap := h', toks := tk }) :
    wpAny (model pg w) A (call (.ref 182) [.ref l, .int k tk, .int o to]) Q E s := by
  refine wpAny_call ?_
  refine' enter_plain (K := hd.heap_39 w.params) (binds := ?b) F X.k N X.t.nolimit ?k1 ?k2 ?k0 ?k3 ?k5 ?_ ?c1 ?c2 ?c3 ?c4
  case k0 => omega
  case k1 => k_is
  case k2 => k_is
  case k3 => exact BindsTo.of_eq (by with_unfolding_all rfl)
  case k5 => exact locs rfl
  case c1 => rfl
  case c2 => rfl
  case c3 => rfl
  case c4 => decide
  intro g L' h₁ tk₁ st F₁ N₁ bk
  obtain ⟨KX, TX⟩ := X.keeps st
  have hlg : g.IsList l vs.toArray := hl.at fun o e => st _ o e
  clear F N X st hl
  walk_at "mine go"
  all_goals
    obtain ⟨Fb, Nb⟩ := bk _ _ _ _ F₁ N₁
    exact h _ _ _ _ Fb Nb
end
end Mine
end

section

open PySem PySem.W PySem.Calls PyProof.Rows PySem.Spec
namespace Mine
set_option maxRecDepth 100000
set_option maxHeartbeats 0
local macro_rules | `(tactic| walk_at "mine stop") => `(tactic| first
  | (with_reducible show wpAny _ _ (call (Value.builtin "str.join") _) _ _ _))
local macro_rules | `(tactic| walk_at "mine go") => `(tactic| repeat' ((fail_if_success (walk_at "mine stop")); (first | walk1 | (dsimp only; walk1))))
local macro_rules | `(tactic| k_mem) => `(tactic| first | ktr_member | exact List.mem_cons_self | (refine' List.mem_cons_of_mem _ ?_; k_mem))
local macro_rules | `(tactic| walk_at "eval Name") => `(tactic| ((with_reducible show wpAny _ _ (eval (Expr.Name _ _) (compEnvC _ _ _ _)) _ _ _); (first
  | (refine' cn_global ?k1 ?k2 ?k3 ?k4 ?_ ?k5 ?k6 ?k7 ?k8; (case k1 => k_asm); (case k2 => k_asm); (case k3 => k_asm); (case k4 => k_is); (case k5 => rfl); (case k6 => rfl); (case k7 => rfl); (case k8 => decide))
  | (refine' cn_built ?k1 ?k2 ?k3 ?k4 ?k9 ?k10 ?_ ?k5 ?k11 ?k6 ?k7 ?k8; (case k1 => k_asm); (case k2 => k_asm); (case k3 => k_asm); (case k4 => k_is); (case k9 => boot_by_name); (case k10 => decide); (case k5 => rfl); (case k11 => rfl); (case k6 => rfl); (case k7 => rfl); (case k8 => decide)))))
local macro_rules | `(tactic| walk_at "call ref") => `(tactic| ((with_reducible show wpAny _ _ (call (Value.ref 182) _) _ _ _); refine at_ct (by with_unfolding_all assumption) (by (try simp only [depth_deeper]); omega) (by k_asm) ⟨by k_asm, by k_asm⟩ (by k_asm) (by assumption) (by assumption) (by assumption) (by omega) ?_; intro h' tk' t' z' F' N'; (try k_sweep)))
section
variable {w : World} {A : Around} {mg mb : Str → Option Value} {p : Program} {loose : List Str} {h₀ : Heap} {L : Addr} {m : Str → Option Value} {news : List (Addr × Obj)} {s : Shared} {E : Value → Shared → Prop}

theorem item_abB {i : Int} (h0 : 0 ≤ i) (h1 : i < 3) : (Txt.item (Str.ofString "abB") i).length = 1 := by
  rw [item_meets ⟨h0, by have : ((Str.ofString "abB").length : Int) = 3 := by decide
                         omega⟩]; rfl
/-- letters made so far -/
def Chars (base : List (Addr × Obj)) (i : Nat) (ys : List Value) (nn : List (Addr × Obj)) : Prop := (∀ p ∈ base, p ∈ nn) ∧ ys.length = i ∧ ∃ ws, StrsAre ys ws ∧ ∀ x ∈ ws, x.length = 1
theorem Chars.start {base : List (Addr × Obj)} : Chars base 0 [] base := ⟨fun _ h => h, rfl, [], .nil, by simp⟩

theorem word_ct {l : Addr} {vs : List Value} {ns : List Int} {k o : Int} {t1 t2 t3 t4 : Tok} {Q : Value → Shared → Prop} (hh : A.handled = none) (hroom : A.depth + 8 < recursionLimit)
    (F : Fr h₀ L s.heap m) (X : Amb w mg mb p loose h₀) (N : News h₀ L s.heap news) (hl : h₀.IsList l vs.toArray) (hi : IntsAre vs ns) (hlen : ns.length < 1000) (hk : 0 ≤ k ∧ k < 100)
    (h : ∀ h' tk t (x : Str), x.length ≤ 6 → Fr h₀ L h' m → News h₀ L h' news → Q (.str x t) { s with heap := h', toks := tk }) :
    wpAny (model pg w) A (call (.ref 187) [.ref l, .int k t1, .int 6 t2, .str (Str.ofString "abB") t3, .int o t4]) Q E s := by
  refine wpAny_call ?_
  refine' enter_plainC (K := hd.heap_39 w.params) (binds := ?b) F X.k N X.t.nolimit ?k1 ?k2 ?k0 ?k3 ?k5 ?k6 ?_ ?c1 ?c2 ?c3
  case k0 => omega
  case k1 => k_is
  case k2 => k_is
  case k3 => exact BindsTo.of_eq (by with_unfolding_all rfl)
  case k5 => exact kindsX rfl
  case k6 => decide +kernel
  case c1 => rfl
  case c2 => rfl
  case c3 => rfl
  intro g L' h₁ tk₁ cells st F₁ N₁ Y bk lt
  obtain ⟨KX, TX⟩ := X.keeps st
  have hlg : g.IsList l vs.toArray := hl.at fun o e => st _ o e
  clear F N X st hl
  k_cells Y
  simp only [List.cons_append, List.nil_append] at N₁
  walk_at "mine go"
  (with_reducible rename Fr _ _ _ _ => F₂)
  (with_reducible rename News _ _ _ _ => N₂)
  (with_reducible rename IsRange _ _ _ _ _ _ _ _ => hr)
  generalize hz : Int.fmod _ (6 + 1) = z at F₂ hr ⊢
  have hz1 : 0 ≤ z := by rw [← hz]; exact Int.fmod_nonneg_of_pos _ (by decide)
  have hz2 : z < 7 := by rw [← hz]; exact Int.fmod_lt_of_pos _ (by decide)
  refine LCg.CompSrc.range (n := z.toNat) hh F₂ N₂ hr ?s1 ?s2 (by rw [sizeLine_eq]; omega) fun h₃ => ?_
  case s1 => exact small_one (by omega) (by omega) (by omega) (by omega)
  case s2 => rw [rangeSize_nat]; congr 2; omega
  refine comp_inv (n := z.toNat) (Chars _ ) ?turn ?fin _ 0 [] _ (Nat.zero_add _) (Chars.start)
  case turn =>
    intro i ys nn hi9 hI v I oI C oC D' m₂ h₁₃ tk₁₃ E' hPv hNs hm hF hN hoff hne3
    obtain ⟨tv, rfl⟩ := hPv
    obtain ⟨hI1, hI2, hI3⟩ := hI
    simp only [List.forall_mem_cons] at hI1
    obtain ⟨hc1, hc2, hc3, hc4, hc5⟩ := hI1
    clear F₂ N₂
    walk_at "mine go"
    (with_reducible rename Fr _ _ _ _ => F₄)
    (with_reducible rename News _ _ _ _ => N₄)
    refine LCg.CompEnd.intro F₄ N₄ nn (fun p hp => ?_) hoff trivial ⟨?_, by simp [hI2], ?_⟩
    · simp only [List.mem_cons] at hp ⊢
      rcases hp with hp | hp | hp | hp <;> simp [hp]
    · simp only [List.forall_mem_cons]
      exact ⟨hc1, hc2, hc3, hc4, hc5⟩
    · obtain ⟨ws, hs, hw⟩ := hI3
      refine ⟨ws ++ [_], strs_append hs (.cons _ _ .nil), fun x hx => ?_⟩
      rcases List.mem_append.mp hx with hx | hx
      · exact hw x hx
      · rw [List.mem_singleton.mp hx]; exact item_abB (Int.fmod_nonneg_of_pos _ (by decide)) (Int.fmod_lt_of_pos _ (by decide))
  case fin =>
    intro ys nn hI
    unfold LCg.FinE
    intro D₂ h₁₇ tk₁₇ F₁₇ N₁₇ o1
    clear F₂ N₂
    dsimp only
    walk_at "mine go"
    obtain ⟨hI1, hI2, ws, hs, hw⟩ := hI
    have hsum : ∀ (ws : List Str), (∀ x ∈ ws, x.length = 1) → (ws.map (·.length)).sum = ws.length := fun ws => by
      induction ws with
      | nil => intro _; rfl
      | cons a r ih => intro h; rw [List.map_cons, List.sum_cons, ih fun x hx => h x (List.mem_cons_of_mem _ hx), h a List.mem_cons_self, List.length_cons]; omega
    have hlw : ws.length = z.toNat := by rw [← hs.len_eq, hI2]
    refine join_list (items := ys.toArray) (ys := ws) ⟨_, (N₁₇ (D₂, LCg.lst ys) List.mem_cons_self).1, rfl, _, rfl⟩ hs (by rw [hsum ws hw, hlw]; show z.toNat + z.toNat * 0 ≤ _; omega) fun t' k' => ?_
    obtain ⟨Fb, Nb⟩ := bk _ _ _ _ F₁₇ N₁₇
    refine h _ _ _ _ ?_ Fb (news_sub Nb fun p hp => List.mem_cons_of_mem _ (hI1 p (by simp [hp])))
    rw [KT.join_ones ws hw, hlw]; omega
end
end Mine
end

section
open PySem PySem.W PySem.Calls PyProof.Rows PySem.Spec
namespace Mine
set_option maxRecDepth 100000
set_option maxHeartbeats 0
section
variable {prog : Program} {w : World} {A : Around} {s : Shared} {K : Frag} {h₀ : Heap} {news : List (Addr × Obj)}
  {R : Result → Shared → Prop} {name qual : Str} {params : Arguments} {body : List Stmt} {scope : Scope} {dV kV doc pm cdv ct oc : Value} {an od : Option Addr} {osl : Array (Option Value)} {f : Addr} {args : Args}

/-- a def with cells entered from the top -/
theorem enter_topC {binds : List (Str × Value)} (hst : h₀.StaysIn s.heap) (hsz : h₀.objs.size ≤ s.heap.objs.size) (X₀ : K.In h₀) (hlim : h₀.NoLimit) (N : ∀ p ∈ news, s.heap.get? p.1 = some p.2 ∧ h₀.get? p.1 = none)
    (ho : K.lookup f = some ⟨oc, od, .func (fnOf name qual params body scope dV kV doc pm an cdv ct), osl⟩) (hcd : codeIn K cdv qual = true) (hroom : A.depth < recursionLimit)
    (hb : BindsTo s (fnOf name qual params body scope dV kV doc pm an cdv ct) args binds)
    (hkind : ∀ n, ∀ x ∈ binds, scope.names.lookup x.1 = some .local ∨ (scope.names.lookup x.1 = some .cell ∧ ((cellsFrom n scope.names []).lookup x.1).isSome = true))
    (hnd : ((cellsFrom 0 scope.names []).map (·.1)).Nodup)
    (h : ∀ L' h₁ tk cells, Fr h₀ L' h₁ (bindL (envOfC qual scope L' f cdv).kindOf binds fun _ => none) → News h₀ L' h₁ (cells ++ news) →
      CellsAre (bindC (envOfC qual scope L' f cdv).kindOf binds fun _ => none) (cellsFrom (L' + 1) scope.names []) cells → (∀ p ∈ news, p.1 < L') →
      wpAny (model prog w) (A.deeper (envOfC qual scope L' f cdv)) (execs body (envOfC qual scope L' f cdv))
        (fun fl s' => R (.ok (.ret (match fl with | .ret v => v | _ => .none))) s') (fun _ _ => False) { s with heap := h₁, toks := tk })
    (hco : scope.isCoroutine = false) (hgen : scope.isGenerator = false) (hk : scope.kind = .function) : codeAny (model prog w) A (.call (.ref f) args) R s := by
  refine codeAny_call_function (fd := fnOf name qual params body scope dV kV doc pm an cdv ct) (body := body) hroom ((X₀.keeps hst) _ _ ho) rfl hco hgen rfl (codeRec_of (X₀.keeps hst) hcd) (hb _ _ _ _ ?_)
  have hl' : s.heap.NoLimit := hlim.keeps hst
  refine wpAny_newFunctionEnv_cells hk (hkind _) fun env' he s' x => ?_
  subst he
  refine ⟨hl'.keeps x.toInCall.keep, codeAny_func ?_⟩
  obtain ⟨h₁, tk, rfl, _⟩ := x.done
  have hk₁ := x.toInCall.keep
  have lt : ∀ p ∈ news, p.1 < s.heap.objs.size := fun p hp => Heap.lt_size (N p hp).1
  obtain ⟨cells, NC, Y⟩ := Cl.news (h₀ := s.heap) (Nat.le_refl _) fun n c hm => ⟨x.cell n c (lookup_of_mem_nodup (cellsFrom_names scope.names 0 (s.heap.objs.size + 1) [] [] rfl ▸ hnd) hm), x.above n c hm⟩
  refine wpAny_mono (h s.heap.objs.size h₁ tk cells ⟨x.toInCall.ns, fun b o e => hk₁ b o (hst b o e), hsz⟩ (fun p hp => ?_) Y lt) (fun fl s' hl => hl) fun _ _ y => y.elim
  rcases List.mem_append.mp hp with hp | hp
  · refine ⟨(NC p hp).1, (NC p hp).2.1, ?_⟩
    cases q : h₀.get? p.1 with
    | none => rfl
    | some o => have := hst _ _ q; rw [(NC p hp).2.2] at this; cases this
  · exact ⟨hk₁ _ _ (N p hp).1, Nat.ne_of_lt (lt p hp), (N p hp).2⟩
end
end Mine
namespace Mine
set_option maxRecDepth 100000
set_option maxHeartbeats 0
local macro_rules | `(tactic| walk_at "mine stop") => `(tactic| first
  | (with_reducible show wpAny _ _ (storeName _ (Str.ofString "words") _) _ _ _))
local macro_rules | `(tactic| walk_at "mine go") => `(tactic| repeat' ((fail_if_success (walk_at "mine stop")); (first | walk1 | (dsimp only; walk1))))
local macro_rules | `(tactic| k_mem) => `(tactic| first | ktr_member | exact List.mem_cons_self | (refine' List.mem_cons_of_mem _ ?_; k_mem))
local macro_rules | `(tactic| walk_at "eval Name") => `(tactic| ((with_reducible show wpAny _ _ (eval (Expr.Name _ _) (compEnvC _ _ _ _)) _ _ _); (first
  | (refine' cn_global ?k1 ?k2 ?k3 ?k4 ?_ ?k5 ?k6 ?k7 ?k8; (case k1 => k_asm); (case k2 => k_asm); (case k3 => k_asm); (case k4 => k_is); (case k5 => rfl); (case k6 => rfl); (case k7 => rfl); (case k8 => decide))
  | (refine' cn_built ?k1 ?k2 ?k3 ?k4 ?k9 ?k10 ?_ ?k5 ?k11 ?k6 ?k7 ?k8; (case k1 => k_asm); (case k2 => k_asm); (case k3 => k_asm); (case k4 => k_is); (case k9 => boot_by_name); (case k10 => decide); (case k5 => rfl); (case k11 => rfl); (case k6 => rfl); (case k7 => rfl); (case k8 => decide)))))
local macro_rules | `(tactic| walk_at "call ref") => `(tactic| ((with_reducible show wpAny _ _ (call (Value.ref 182) _) _ _ _); refine at_ct (by with_unfolding_all assumption) (by (try simp only [depth_deeper]); omega) (by k_asm) ⟨by k_asm, by k_asm⟩ (by k_asm) (by assumption) (by assumption) (by assumption) (by omega) ?_; intro h' tk' t' z' F' N'; (try k_sweep)))
local macro_rules | `(tactic| walk_at "call ref") => `(tactic| ((with_reducible show wpAny _ _ (call (Value.ref 187) _) _ _ _); refine word_ct (by with_unfolding_all assumption) (by (try simp only [depth_deeper]); omega) (by k_asm) ⟨by k_asm, by k_asm⟩ (by k_asm) (by assumption) (by assumption) (by assumption) (by omega) ?_; intro h' tk' t' x' hx' F' N'; (try k_sweep)))

noncomputable def fdOf (K : Frag) (f : Addr) : FuncData := match K.lookup f with | some ⟨_, _, .func fd, _⟩ => fd | _ => default
noncomputable def bodyOf (fd : FuncData) : List Stmt := match fd.body with | .stmts b => b | _ => []
noncomputable def lawFd (w : World) : FuncData := fdOf (hd.heap_39 w.params) 192
noncomputable def lawS (w : World) (i : Nat) : Stmt := ((bodyOf (lawFd w))[i]?).getD default
noncomputable def lawEnv (w : World) (L : Addr) : Env := envOfC (lawFd w).qualname (lawFd w).scope L 192 (lawFd w).code

section
variable {w : World} {A : Around} {mg mb : Str → Option Value} {p : Program} {loose : List Str} {g : Heap} {L : Addr} {m : Str → Option Value} {news : List (Addr × Obj)} {s : Shared} {E : Value → Shared → Prop}

def Apart (L a : Addr) : Prop := a ≠ L + 1 ∧ a ≠ L + 1 + 1 ∧ a ≠ L + 1 + 1 + 1 ∧ a ≠ L + 1 + 1 + 1 + 1
theorem off1_mem {D : Addr} : ∀ {l : List (Addr × Obj)}, LCg.Off1 D l → ∀ p ∈ l, p.1 ≠ D
  | [], _, _, h => nomatch h
  | _ :: _, x, p, h => by
    rcases List.mem_cons.mp h with rfl | h
    · exact x.1
    · exact off1_mem x.2 p h
theorem store_cell_N {prog : Program} {env : Env} {name : Str} {c : Addr} {o : Obj} {v : Value} {v₀ : Option Value} {pre post : List (Addr × Obj)} {Q : Unit → Shared → Prop} (F : Fr g L s.heap m) (N : News g L s.heap (pre ++ (c, o) :: post)) (hoff : ∀ p ∈ pre ++ post, p.1 ≠ c)
    (hd : o.data = .cell v₀) (hk : env.scope.kind = .function) (hl : env.kindOf name = some .cell) (hc : env.cells.lookup name = some c)
    (h : ∀ h' o', o'.data = .cell (some v) → Fr g L h' m → News g L h' (pre ++ (c, o') :: post) → Q () { s with heap := h' }) : wpAny (model prog w) A (storeName env name v) Q E s := by
  have hm := N (c, o) (by simp)
  refine wpAny_storeName_cell hk hl hc ⟨o, hm.1, hd⟩ fun h' hcell sb => ?_
  obtain ⟨o', ho', hd'⟩ := hcell
  refine h h' o' hd' (F.change sb hm.2.1 hm.2.2) fun p hp => ?_
  by_cases hpc : p ∈ pre ++ post
  · have q := N p (by simp only [List.mem_append, List.mem_cons] at hpc ⊢; rcases hpc with h | h <;> simp [h])
    exact ⟨sb.extBut _ _ (hoff p hpc) q.1, q.2⟩
  · have : p = (c, o') := by
      simp only [List.mem_append, List.mem_cons, not_or] at hp hpc
      rcases hp with h | h | h
      · exact absurd h hpc.1
      · exact h
      · exact absurd h hpc.2
    subst this
    exact ⟨ho', hm.2⟩
theorem item_ab {i : Int} (h0 : 0 ≤ i) (h1 : i < 2) : (Txt.item (Str.ofString "ab") i).length = 1 := by
  rw [item_meets ⟨h0, by have : ((Str.ofString "ab").length : Int) = 2 := by decide
                         omega⟩]; rfl
/-- words made so far -/
def Words (base : List (Addr × Obj)) (i : Nat) (ys : List Value) (nn : List (Addr × Obj)) : Prop := (∀ p ∈ base, p ∈ nn) ∧ ys.length = i ∧ ∃ ws, StrsAre ys ws ∧ ∀ x ∈ ws, 0 < x.length ∧ x.length ≤ 7
theorem Words.start {base : List (Addr × Obj)} : Words base 0 [] base := ⟨fun _ h => h, rfl, [], .nil, by simp⟩

/-- the words -/
theorem seg0 {l : Addr} {vs : List Value} {ns : List Int} {o1' o2 o3 o4 : Obj} {Q : Flow → Shared → Prop} (hh : A.handled = none) (hroom : A.depth + 12 < recursionLimit)
    (F : Fr g L s.heap m) (X : Amb w mg mb p loose g) (N : News g L s.heap ((L + 1 + 1 + 1 + 1, o4) :: (L + 1 + 1 + 1, o3) :: (L + 1 + 1, o2) :: (L + 1, o1') :: news)) (hl : g.IsList l vs.toArray) (hi : IntsAre vs ns) (hlen : ns.length < 1000)
    (hs : o1'.data = .cell (some (.ref l))) (hs2 : o2.data = .cell none) (hnc : ∀ p ∈ news, Apart L p.1)
    (h : ∀ h' tk lw ys ws o2', o2'.data = .cell (some (.ref lw)) → StrsAre ys ws → (2 ≤ ys.length ∧ ys.length ≤ 4) → (∀ x ∈ ws, 0 < x.length ∧ x.length ≤ 7) →
      (∀ p ∈ (L + 1 + 1 + 1 + 1, o4) :: (L + 1 + 1 + 1, o3) :: (L + 1 + 1, o2) :: (L + 1, o1') :: news, p.1 ≠ lw) → Fr g L h' m →
      News g L h' ((L + 1 + 1 + 1 + 1, o4) :: (L + 1 + 1 + 1, o3) :: (L + 1 + 1, o2') :: (L + 1, o1') :: (lw, LCg.lst ys) :: news) → Q .next { s with heap := h', toks := tk }) : wpAny (model pg w) A (exec (lawS w 0) (lawEnv w L)) Q E s := by
  unfold lawEnv
  conv in lawS _ _ => whnf
  repeat (conv in lawFd _ => whnf)
  obtain ⟨KX, TX⟩ := X
  walk_at "mine go"
  (with_reducible rename Fr _ _ _ _ => F₂)
  (with_reducible rename News _ _ _ _ => N₂)
  (with_reducible rename IsRange _ _ _ _ _ _ _ _ => hr)
  generalize hy : Int.fmod _ 3 = y9 at hr ⊢
  have hy1 : 0 ≤ y9 := by rw [← hy]; exact Int.fmod_nonneg_of_pos _ (by decide)
  have hy2 : y9 < 3 := by rw [← hy]; exact Int.fmod_lt_of_pos _ (by decide)
  generalize hz : (2 + y9 : Int) = z at hr ⊢
  have hz1 : 2 ≤ z := by omega
  have hz2 : z < 5 := by omega
  refine LCg.CompSrc.range (n := z.toNat) hh F₂ N₂ hr ?s1 ?s2 (by rw [sizeLine_eq]; omega) fun h₃ => ?_
  case s1 => exact small_one (by omega) (by omega) (by omega) (by omega)
  case s2 => rw [rangeSize_nat]; congr 2; omega
  refine comp_inv (n := z.toNat) (Words _ ) ?turn ?fin _ 0 [] _ (Nat.zero_add _) (Words.start)
  case turn =>
    intro i ys nn hi9 hI v I oI C oC D' m₂ h₁₃ tk₁₃ E' hPv hNs hm hF hN hoff hne3
    obtain ⟨tv, rfl⟩ := hPv
    obtain ⟨hI1, hI2, hI3⟩ := hI
    simp only [List.forall_mem_cons] at hI1
    obtain ⟨hc1, hc2, hc3, hc4, hc5⟩ := hI1
    clear F₂ N₂
    walk_at "mine go"
    (with_reducible rename Fr _ _ _ _ => F₄)
    (with_reducible rename News _ _ _ _ => N₄)
    (with_reducible rename Str.length _ ≤ 6 => hx6)
    refine LCg.CompEnd.intro F₄ N₄ nn (fun p hp => ?_) hoff trivial ⟨?_, by simp [hI2], ?_⟩
    · simp only [List.mem_cons] at hp ⊢
      rcases hp with hp | hp | hp | hp <;> simp [hp]
    · simp only [List.forall_mem_cons]
      exact ⟨hc1, hc2, hc3, hc4, hc5⟩
    · obtain ⟨ws, hs, hw⟩ := hI3
      refine ⟨ws ++ [_], strs_append hs (.cons _ _ .nil), fun x hx => ?_⟩
      rcases List.mem_append.mp hx with hx | hx
      · exact hw x hx
      · rw [List.mem_singleton.mp hx, Str.length_append, item_ab (Int.fmod_nonneg_of_pos _ (by decide)) (Int.fmod_lt_of_pos _ (by decide))]; omega
  case fin =>
    intro ys nn hI
    unfold LCg.FinE
    intro D₂ h₁₇ tk₁₇ F₁₇ N₁₇ o1
    clear F₂ N₂
    dsimp only
    obtain ⟨hI1, hI2, ws, hsw, hw⟩ := hI
    have off1 : ∀ p ∈ nn, p.1 ≠ D₂ := off1_mem o1
    have hfr : ∀ p ∈ (L + 1 + 1 + 1 + 1, o4) :: (L + 1 + 1 + 1, o3) :: (L + 1 + 1, o2) :: (L + 1, o1') :: news, p.1 ≠ D₂ := fun p hp => off1 p (hI1 p hp)
    refine store_cell_N (pre := [(L + 1 + 1 + 1 + 1, o4), (L + 1 + 1 + 1, o3)]) (post := (L + 1, o1') :: (D₂, LCg.lst ys) :: news) F₁₇ (news_sub N₁₇ fun p hp => ?_) (fun p hp => ?_) hs2 rfl rfl rfl fun h' o' ho' F' N' => ?_
    · simp only [List.mem_append, List.mem_cons, List.not_mem_nil, or_false] at hp
      rcases hp with (hp | hp) | hp | hp | hp | hp
      · exact List.mem_cons_of_mem _ (hI1 p (by simp [hp]))
      · exact List.mem_cons_of_mem _ (hI1 p (by simp [hp]))
      · exact List.mem_cons_of_mem _ (hI1 p (by simp [hp]))
      · exact List.mem_cons_of_mem _ (hI1 p (by simp [hp]))
      · rw [hp]; exact List.mem_cons_self
      · exact List.mem_cons_of_mem _ (hI1 p (by simp [hp]))
    · simp only [List.mem_append, List.mem_cons, List.not_mem_nil, or_false] at hp
      rcases hp with (rfl | rfl) | rfl | rfl | hp
      · exact Nat.ne_of_gt (by omega)
      · exact Nat.ne_of_gt (by omega)
      · exact Nat.ne_of_lt (by omega)
      · exact Ne.symm (hfr (L + 1 + 1, o2) (by simp))
      · exact (hnc p hp).2.1
    · exact h h' _ D₂ ys ws o' ho' hsw ⟨by have := hsw.len_eq; omega, by have := hsw.len_eq; omega⟩ hw hfr F' N'
end
end Mine
end

section
open PySem PySem.W PySem.Calls PyProof.Rows PySem.Spec
namespace Mine
set_option maxRecDepth 100000
set_option maxHeartbeats 0
local macro_rules | `(tactic| walk_at "mine stop") => `(tactic| first
  | (with_reducible show wpAny _ _ (call (Value.builtin "min") _) _ _ _)
  | (with_reducible show wpAny _ _ (call (Value.builtin "max") _) _ _ _)
  | (with_reducible show wpAny _ _ (assign (Expr.Tuple _ _ _) _ (Value.ref _)) _ _ _)
  | (with_reducible show wpAny _ _ (unpackItems (Value.ref _) _ _) _ _ _)
  | (with_reducible show wpAny _ _ (storeName _ (Str.ofString "shortest") _) _ _ _))
local macro_rules | `(tactic| walk_at "mine go") => `(tactic| repeat' ((fail_if_success (walk_at "mine stop")); (first | walk1 | (dsimp only; walk1))))
local macro_rules | `(tactic| k_mem) => `(tactic| first | ktr_member | exact List.mem_cons_self | (refine' List.mem_cons_of_mem _ ?_; k_mem))
local macro_rules | `(tactic| walk_at "eval Name") => `(tactic| ((with_reducible show wpAny _ _ (eval (Expr.Name _ _) (compEnvC _ _ _ _)) _ _ _); (first
  | (refine' cn_global ?k1 ?k2 ?k3 ?k4 ?_ ?k5 ?k6 ?k7 ?k8; (case k1 => k_asm); (case k2 => k_asm); (case k3 => k_asm); (case k4 => k_is); (case k5 => rfl); (case k6 => rfl); (case k7 => rfl); (case k8 => decide))
  | (refine' cn_built ?k1 ?k2 ?k3 ?k4 ?k9 ?k10 ?_ ?k5 ?k11 ?k6 ?k7 ?k8; (case k1 => k_asm); (case k2 => k_asm); (case k3 => k_asm); (case k4 => k_is); (case k9 => boot_by_name); (case k10 => decide); (case k5 => rfl); (case k11 => rfl); (case k6 => rfl); (case k7 => rfl); (case k8 => decide)))))
local macro_rules | `(tactic| walk_at "eval ListComp") => `(tactic| (k_dflt (refine LCg.ListComp_U (F₀ := by k_asm) (by with_unfolding_all rfl) (by decide) (by rfl) (by decide) (by rfl) ?_)))

section
variable {w : World} {A : Around} {mg mb : Str → Option Value} {p : Program} {loose : List Str} {g : Heap} {L : Addr} {m : Str → Option Value} {news : List (Addr × Obj)} {s : Shared} {E : Value → Shared → Prop}

abbrev cells4 (L : Addr) (o4 o3 o2 o1 : Obj) (news : List (Addr × Obj)) : List (Addr × Obj) := (L + 1 + 1 + 1 + 1, o4) :: (L + 1 + 1 + 1, o3) :: (L + 1 + 1, o2) :: (L + 1, o1) :: news

/-- lengths made so far -/
def Lens (base : List (Addr × Obj)) (ws : List Str) (i : Nat) (ys : List Value) (nn : List (Addr × Obj)) : Prop := (∀ p ∈ base, p ∈ nn) ∧ IntsAre ys ((ws.take i).map fun x => (x.length : Int))
theorem Lens.start {base : List (Addr × Obj)} {ws : List Str} : Lens base ws 0 [] base := ⟨fun _ h => h, .nil⟩
theorem Lens.step {base : List (Addr × Obj)} {ws : List Str} {i : Nat} {ys : List Value} {nn nn' : List (Addr × Obj)} {y : Str} {t : Tok} (h : Lens base ws i ys nn) (hy : ws[i]? = some y) (hs : ∀ p ∈ nn, p ∈ nn') : Lens base ws (i + 1) (ys ++ [.int y.length t]) nn' :=
  ⟨fun p hp => hs p (h.1 p hp), by rw [List.take_add_one, hy, List.map_append]; exact h.2.append (.cons _ _ .nil)⟩

/-- shortest and longest -/
theorem seg1 {lw : Addr} {vs : List Value} {ws : List Str} {o1' o2 o3 o4 : Obj} {Q : Flow → Shared → Prop} (hh : A.handled = none) (hroom : A.depth + 12 < recursionLimit)
    (F : Fr g L s.heap m) (X : Amb w mg mb p loose g) (N : News g L s.heap ((L + 1 + 1 + 1 + 1, o4) :: (L + 1 + 1 + 1, o3) :: (L + 1 + 1, o2) :: (L + 1, o1') :: (lw, LCg.lst vs) :: news))
    (hs2 : o2.data = .cell (some (.ref lw))) (hs3 : o3.data = .cell none) (hnc : ∀ p ∈ (lw, LCg.lst vs) :: news, Apart L p.1) (hv : StrsAre vs ws) (hsz : 2 ≤ vs.length ∧ vs.length ≤ 4) (hw : ∀ x ∈ ws, 0 < x.length ∧ x.length ≤ 7)
    (h : ∀ h' tk o3' (sh lo : Nat) t1 t2, o3'.data = .cell (some (.int sh t1)) → (∀ x ∈ ws, sh ≤ x.length) → (∃ x ∈ ws, x.length = sh) → (∀ x ∈ ws, x.length ≤ lo) → (∃ x ∈ ws, x.length = lo) →
      Fr g L h' (fun y => if y = Str.ofString "longest" then some (.int lo t2) else m y) →
      News g L h' ((L + 1 + 1 + 1 + 1, o4) :: (L + 1 + 1 + 1, o3') :: (L + 1 + 1, o2) :: (L + 1, o1') :: (lw, LCg.lst vs) :: news) → Q .next { s with heap := h', toks := tk }) :
    wpAny (model pg w) A (exec (lawS w 1) (lawEnv w L)) Q E s := by
  unfold lawEnv
  conv in lawS _ _ => whnf
  repeat (conv in lawFd _ => whnf)
  dsimp only
  obtain ⟨KX, TX⟩ := X
  walk_at "mine go"
  (with_reducible rename Fr _ _ _ _ => F₂)
  (with_reducible rename News _ _ _ _ => N₂)
  have hvl := hv.len_eq
  have hn : vs.toArray.size = ws.length := by rw [List.size_toArray]; exact hvl
  have htake : (ws.take vs.toArray.size).map (fun x => (x.length : Int)) = ws.map fun x => (x.length : Int) := by rw [hn, List.take_of_length_le (Nat.le_refl _)]
  refine LCg.CompSrc.ledger (k := vs.length) hh F₂ N₂ (by k_mem) (by rw [List.size_toArray, sizeLine_eq]; omega) fun h₁₂ => ?_
  refine comp_inv (n := vs.toArray.size) (Lens _ ws) ?turn ?fin _ 0 [] _ (Nat.zero_add _) Lens.start
  case turn =>
    intro i ys nn hi9 hI v I oI C oC D' m₂ h₁₃ tk₁₃ E' hPv hNs hm hF hN hoff hne3
    obtain ⟨y, ty, hy, rfl⟩ := strs_at hv i v (by rw [List.getElem?_toArray] at hPv; exact hPv)
    have hyl := (hw y (List.mem_of_getElem? hy)).2
    clear F₂ N₂
    walk_at "mine go"
    exact LCg.CompEnd.intro hF hN nn (fun p hp => hp) hoff (.inr ⟨_, hI.1 (lw, LCg.lst vs) (by k_mem), rfl, _, rfl⟩) (hI.step hy fun p hp => hp)
  case fin =>
    intro ys nn hI
    unfold LCg.FinE
    intro D₂ h₁₇ tk₁₇ F₁₇ N₁₇ o1
    clear F₂ N₂
    dsimp only
    walk_at "mine go"
    obtain ⟨hI1, hI2⟩ := hI
    rw [htake] at hI2
    refine min_list_N hh F₁₇ N₁₇ ⟨_, (N₁₇ (D₂, LCg.lst ys) List.mem_cons_self).1, rfl, _, rfl⟩ hI2 (by rw [List.length_map]; omega) fun h₁₈ M tM tk₁₈ F₁₈ N₁₈ hM1 hM2 => ?_
    obtain ⟨xM, hxM, rfl⟩ := List.mem_map.mp hM1
    have hM3 : ∀ x ∈ ws, xM.length ≤ x.length := fun x hx => by have := hM2 _ (List.mem_map_of_mem hx); omega
    have N₁₉ := news_sub N₁₈ fun p hp => List.mem_cons_of_mem _ (hI1 p hp)
    clear F₁₇ N₁₇ N₁₈ o1 hM1 hM2
    walk_at "mine go"
    refine LCg.CompSrc.ledger (k := vs.length) hh F₁₈ N₁₉ (by k_mem) (by rw [List.size_toArray, sizeLine_eq]; omega) fun h₁₂ => ?_
    refine comp_inv (n := vs.toArray.size) (Lens _ ws) ?turn ?fin _ 0 [] _ (Nat.zero_add _) Lens.start
    case turn =>
      intro i ys nn hi9 hI v I oI C oC D' m₂ h₁₃ tk₁₃ E' hPv hNs hm hF hN hoff hne3
      obtain ⟨y, ty, hy, rfl⟩ := strs_at hv i v (by rw [List.getElem?_toArray] at hPv; exact hPv)
      have hyl := (hw y (List.mem_of_getElem? hy)).2
      clear F₁₈ N₁₉
      walk_at "mine go"
      exact LCg.CompEnd.intro hF hN nn (fun p hp => hp) hoff (.inr ⟨_, hI.1 (lw, LCg.lst vs) (by k_mem), rfl, _, rfl⟩) (hI.step hy fun p hp => hp)
    case fin =>
      intro ys nn hI
      unfold LCg.FinE
      intro D₃ h₂₀ tk₂₀ F₂₀ N₂₀ o1
      clear F₁₈ N₁₉
      dsimp only
      walk_at "mine go"
      obtain ⟨hI1, hI2⟩ := hI
      rw [htake] at hI2
      refine max_list_N hh F₂₀ N₂₀ ⟨_, (N₂₀ (D₃, LCg.lst ys) List.mem_cons_self).1, rfl, _, rfl⟩ hI2 (by rw [List.length_map]; omega) fun h₂₁ M' tM' tk₂₁ F₂₁ N₂₁ hM1 hM2 => ?_
      obtain ⟨xM', hxM', rfl⟩ := List.mem_map.mp hM1
      have hM4 : ∀ x ∈ ws, x.length ≤ xM'.length := fun x hx => by have := hM2 _ (List.mem_map_of_mem hx); omega
      have N₂₂ := news_sub N₂₁ fun p hp => List.mem_cons_of_mem _ (hI1 p hp)
      clear F₂₀ N₂₀ N₂₁ o1 hM1 hM2
      walk_at "mine go"
      (with_reducible rename Fr _ _ _ _ => F₂₃)
      (with_reducible rename News _ _ _ _ => N₂₃)
      refine' unpackN_ F₂₃ N₂₃ ⟨_, (N₂₃ _ List.mem_cons_self).1, rfl, _, rfl⟩ hh ?u1 ?u2 ?_
      case u1 => rfl
      case u2 => rfl
      intro h₂₄ F₂₄ N₂₄
      replace N₂₄ := news_sub N₂₄ (sub_drop sub_refl)
      clear F₂₃ N₂₃
      walk_at "mine go"
      refine store_cell_N (pre := [(L + 1 + 1 + 1 + 1, o4)]) (post := (L + 1 + 1, o2) :: (L + 1, o1') :: (lw, LCg.lst vs) :: news) F₂₄ N₂₄ (fun p hp => ?_) hs3 rfl rfl rfl fun h₂₅ o3' ho3 F₂₅ N₂₅ => ?_
      · simp only [List.mem_append, List.mem_cons, List.not_mem_nil, or_false] at hp
        rcases hp with rfl | rfl | rfl | rfl | hp
        · exact Nat.ne_of_gt (by omega)
        · exact Nat.ne_of_lt (by omega)
        · exact Nat.ne_of_lt (by omega)
        · exact (hnc (lw, LCg.lst vs) List.mem_cons_self).2.2.1
        · exact (hnc p (List.mem_cons_of_mem _ hp)).2.2.1
      replace N₂₅ : News g L h₂₅ ((L + 1 + 1 + 1 + 1, o4) :: (L + 1 + 1 + 1, o3') :: (L + 1 + 1, o2) :: (L + 1, o1') :: (lw, LCg.lst vs) :: news) := N₂₅
      clear F₂₄ N₂₄
      walk_at "mine go"
      (with_reducible rename Fr _ _ _ _ => F₂₆)
      (with_reducible rename News _ _ _ _ => N₂₆)
      exact h _ _ o3' _ _ _ _ ho3 hM3 ⟨xM, hxM, rfl⟩ hM4 ⟨xM', hxM', rfl⟩ F₂₆ N₂₆
end
end Mine
end

section
open PySem PySem.W PySem.Calls PyProof.Rows PySem.Spec
namespace Mine
set_option maxRecDepth 100000
section
variable {prog : Program} {w : World} {A : Around} {E : Value → Shared → Prop} {s : Shared} {h₀ : Heap} {L : Addr} {m : Str → Option Value} {env : Env}

/-- a comprehension with a test, by an invariant -/
theorem comp_invT {ct elt : Expr} {x : Str} {scope : Scope} {cl : List (Str × Addr)} {S : List (Addr × Obj) → Prop} {P : Nat → Value → Prop} {Fin : List Value → List (Addr × Obj) → Prop} {n : Nat} (Inv : Nat → List Value → List (Addr × Obj) → Prop)
    (turn : ∀ i ys news, i < n → Inv i ys news → ∀ v I oI C oC D m₂ h tk (E' : Value → Shared → Prop), P i v → LCg.NsObj oC m₂ → m₂ x = some v → Fr h₀ L h m → News h₀ L h ((I, oI) :: (C, oC) :: (D, LCg.lst ys) :: news) → LCg.Off3 I C D news → ((@Ne Nat I C) ∧ (@Ne Nat I D) ∧ (@Ne Nat C D)) →
      wpAny (model prog w) A (isTrue ct (compEnvC scope cl C env) (eval ct (compEnvC scope cl C env))) (fun ok s' => if ok = true then
        wpAny (model prog w) A (eval elt (compEnvC scope cl C env)) (LCg.CompEnd h₀ L m { s with heap := h, toks := tk } I oI C oC D (LCg.lst ys) S (fun y news' => Inv (i + 1) (ys ++ [y]) news')) E' s'
        else LCg.CompEnd h₀ L m { s with heap := h, toks := tk } I oI C oC D (LCg.lst ys) S (fun _ news' => Inv (i + 1) ys news') Value.none s') E' { s with heap := h, toks := tk })
    (fin : ∀ ys news, Inv n ys news → Fin ys news) : ∀ k i ys news, i + k = n → Inv i ys news → LCt.CompRestT prog w A h₀ L m env ct elt x scope cl s S P Fin k i ys news
  | 0, i, ys, news, e, hI => by
    have : i = n := by omega
    subst this
    exact fin ys news hI
  | k + 1, i, ys, news, e, hI => fun v I oI C oC D m₂ h tk E' hv ho hm F N off ne =>
    wpAny_mono (turn i ys news (by omega) hI v I oI C oC D m₂ h tk E' hv ho hm F N off ne) (fun ok s' q => by
      cases ok with
      | true =>
        simp only [if_true] at q ⊢
        exact wpAny_mono q (fun y s₂ ⟨h', tk', news', e1, e2, e3, e4, e5, e6⟩ => ⟨h', tk', news', e1, e2, e3, e4, e5, comp_invT Inv turn fin k (i + 1) _ _ (by omega) e6⟩) fun _ _ q => q
      | false =>
        simp only [Bool.false_eq_true, if_false] at q ⊢
        obtain ⟨h', tk', news', e1, e2, e3, e4, e5, e6⟩ := q
        exact ⟨h', tk', news', e1, e2, e3, e4, e5, comp_invT Inv turn fin k (i + 1) _ _ (by omega) e6⟩) fun _ _ q => q
end
end Mine
end

section
open PySem PySem.W PySem.Calls PyProof.Rows PySem.Spec
namespace Mine
set_option maxRecDepth 100000
section
variable {prog : Program} {w : World} {A : Around} {E : Value → Shared → Prop} {s : Shared} {h₀ : Heap} {L : Addr} {m : Str → Option Value} {env : Env} {news : List (Addr × Obj)}

/-- what stands after a turn whose ledger is as before -/
def CEnd (h₀ : Heap) (L : Addr) (m : Str → Option Value) (s₁ : Shared) (led : List (Addr × Obj)) (rest : Value → Prop) (y : Value) (s₂ : Shared) : Prop :=
  ∃ h' tk, s₂ = { s₁ with heap := h', toks := tk } ∧ Fr h₀ L h' m ∧ News h₀ L h' led ∧ rest y

def CTurn (prog : Program) (w : World) (A : Around) (h₀ : Heap) (L : Addr) (m : Str → Option Value) (env : Env) (ct elt : Expr) (x : Str) (scope : Scope) (cl : List (Str × Addr)) (s : Shared) (news : List (Addr × Obj)) (Inv : Nat → List Value → Prop) (n : Nat) : Prop :=
  ∀ i ys I oI C oC c oc D t h tk (E' : Value → Shared → Prop), i < n → Inv i ys → oc.data = .cell (some (.int (i : Int) t)) → Fr h₀ L h m → News h₀ L h ((I, oI) :: (C, oC) :: (c, oc) :: (D, LCg.lst ys) :: news) →
    wpAny (model prog w) A (isTrue ct (compEnvC scope ((x, c) :: cl) C env) (eval ct (compEnvC scope ((x, c) :: cl) C env))) (fun ok s' => if ok = true then
      wpAny (model prog w) A (eval elt (compEnvC scope ((x, c) :: cl) C env)) (CEnd h₀ L m { s with heap := h, toks := tk } ((I, oI) :: (C, oC) :: (c, oc) :: (D, LCg.lst ys) :: news) (fun y => Inv (i + 1) (ys ++ [y]))) E' s'
      else CEnd h₀ L m { s with heap := h, toks := tk } ((I, oI) :: (C, oC) :: (c, oc) :: (D, LCg.lst ys) :: news) (fun _ => Inv (i + 1) ys) Value.none s') E' { s with heap := h, toks := tk }

theorem block_C {ct elt iter : Expr} {x : Str} {px : Pos} {scope : Scope} {cl : List (Str × Addr)} {pos : Pos} {s₂ : Shared} {I : Addr} {b : Int} {n : Nat} {Inv : Nat → List Value → Prop}
    {RR : Value → Addr → Result → Shared → Prop} (hh : A.handled = none) (hsz : n ≤ sizeLine) (hcf : ∀ k, cellsFrom k scope.names cl = (x, k) :: cl) (hpc : ∀ h, pushCells h scope.names = h.push { cls := .type "cell", data := .cell none })
    (hkind : scope.kind = .function) (hx : (relabel scope env).names.lookup x = some .cell) (hst : IsRangeIter s₂.heap I 0 n 1)
    (F : Fr h₀ L s₂.heap m) (N : News h₀ L s₂.heap news) (hIL : L ≠ I) (hI₀ : h₀.get? I = none) (off : ∀ p ∈ news, p.1 ≠ I)
    (h0 : Inv 0 []) (T : CTurn prog w A h₀ L m env ct elt x scope cl s₂ news Inv n)
    (hRR : ∀ D C h tk m' ys, Fr h₀ L h m → News h₀ L h ((D, LCg.lst ys) :: news) → h.Ns C m' → h₀.get? C = none → C ≠ L → C ≠ D → (∀ p ∈ news, p.1 ≠ C ∧ p.1 ≠ D) → Inv n ys → RR (.ref D) C (.ok .next) { s₂ with heap := h, toks := tk }) :
    wpAny (model prog w) A (newList []) (fun acc s₃ => wpAny (model prog w) A (newFunctionEnv scope env.globals cl [] env.qual none .none (some env)) (fun cenv s₄ =>
      codeAny (model prog w) A (.compStart (.ListComp elt [⟨.Name x px, iter, [ct], 0⟩] scope pos) 0 (.ref I) acc { cenv with scope := relabel scope env }) (RR acc cenv.locals) s₄) E s₃) E s₂ := by
  refine wpAny_newObj_type ?_
  simp only [newFunctionEnv, Option.isSome_some, if_true]
  refine wpAny_bind (wpAny_alloc ?_)
  refine wpAny_bind (wpAny_layCells _ (fun name kind cells => by cases hkc : kind == NameKind.cell <;> simp [hkc]) _ _ _ _ ?_)
  rw [hcf, hpc]
  simp only [List.forIn_nil]
  refine wpAny_bind (wpAny_pure (wpAny_pure ?_))
  generalize hH1 : s₂.heap.push { cls := .type "list", dict := none, data := .seq ([] : List Value).toArray } = H1
  generalize hH2 : H1.push { cls := .type "dict", data := .dict #[] } = H2
  have z1 : H1.objs.size = s₂.heap.objs.size + 1 := by rw [← hH1, Heap.size_push]
  have z2 : H2.objs.size = s₂.heap.objs.size + 2 := by rw [← hH2, Heap.size_push, z1]
  have old : ∀ b o, s₂.heap.get? b = some o → (H2.push { cls := .type "cell", data := .cell none }).get? b = some o := fun b o e => Heap.get?_push_of_some _ (hH2 ▸ Heap.get?_push_of_some _ (hH1 ▸ Heap.get?_push_of_some _ e))
  have gD : (H2.push { cls := .type "cell", data := .cell none }).get? s₂.heap.objs.size = some (LCg.lst []) := Heap.get?_push_of_some _ (hH2 ▸ Heap.get?_push_of_some _ (hH1 ▸ Heap.get?_push_size _ rfl))
  have gC : (H2.push { cls := .type "cell", data := .cell none }).Ns H1.objs.size (fun _ => none) := (hH2 ▸ Heap.Ns.new H1 (.type "dict")).keeps fun b o e => Heap.get?_push_of_some _ e
  have gc : (H2.push { cls := .type "cell", data := .cell none }).IsCell H2.objs.size none := ⟨_, Heap.get?_push_size _ rfl, rfl⟩
  generalize H2.push { cls := .type "cell", data := .cell none } = h₁ at old gD gC gc ⊢
  have fresh₀ : ∀ a, s₂.heap.objs.size ≤ a → h₀.get? a = none := fun a ha => by
    cases e : h₀.get? a with
    | none => rfl
    | some o' => exact absurd (Heap.lt_size (F.keep a o' e)) (Nat.not_lt.mpr ha)
  have hLlt : L < s₂.heap.objs.size := F.ns.lt
  have hIlt : I < s₂.heap.objs.size := Heap.lt_size hst
  have nlt : ∀ p ∈ news, p.1 < s₂.heap.objs.size := fun p hp => Heap.lt_size (N p hp).1
  generalize hDe : s₂.heap.objs.size = D at *
  generalize hCe : H1.objs.size = C at *
  generalize hce : H2.objs.size = c at *
  have hCD : C ≠ D := by rw [z1]; exact Nat.ne_of_gt (by omega)
  have hcD : c ≠ D := by rw [z2]; exact Nat.ne_of_gt (by omega)
  have hcC : c ≠ C := by rw [z1, z2]; exact Nat.ne_of_gt (by omega)
  have lift : ∀ {b : Nat}, b < D → b ≠ D ∧ b ≠ C ∧ b ≠ c := fun hb => ⟨Nat.ne_of_lt hb, by rw [z1]; exact Nat.ne_of_lt (by omega), by rw [z2]; exact Nat.ne_of_lt (by omega)⟩
  have hD₀ := fresh₀ D (Nat.le_refl _)
  have hC₀ := fresh₀ C (by rw [z1]; exact Nat.le_succ _)
  have hc₀ := fresh₀ c (by rw [z2]; exact Nat.le_add_right _ _)
  have W := LCg.range_walks (prog := prog) (w := w) (A := A) (I := I) hh 0 n
  have hl : Env.kindOf (compEnvC scope ((x, c) :: cl) C env) x = some .cell := hx
  have loop : ∀ s₃ : Shared, s₃ = { s₂ with heap := h₁ } →
      codeAny (model prog w) A (.compLoop (.ListComp elt [⟨.Name x px, iter, [ct], 0⟩] scope pos) 0 (.ref I) (.ref D) (compEnvC scope ((x, c) :: cl) C env))
        (RR (.ref D) C) s₃ := by
    rintro s₃ rfl
    refine codeAny_compLoop_tests
      (fun k s' => ∃ h' tk i ys m' v₀, s' = { s₂ with heap := h', toks := tk } ∧ i ≤ n ∧ k = n + 1 - i ∧ ys.length ≤ i ∧ IsRangeIter h' I (0 + (i : Nat) * 1) ((n : Int) - (i : Nat)) 1 ∧ Fr h₀ L h' m ∧ h'.Ns C m' ∧ h'.IsCell c v₀ ∧ News h₀ L h' ((D, LCg.lst ys) :: news) ∧ Inv i ys) ?_ (n + 1)
      ⟨h₁, _, 0, [], _, none, rfl, Nat.zero_le _, rfl, Nat.le_refl _, ?_, F.keeps old, gC, gc, fun p hp => ?_, h0⟩
    · rintro k s' ⟨h', tk, i, ys, m', v₀, rfl, hi, rfl, hyl, hst', F', hn', hc', N', hI⟩
      by_cases hlt : i < n
      · refine W.item i _ _ _ hlt hst' fun v h₂ tk₂ hPv hst₂ hk₂ => ?_
        obtain ⟨t, rfl⟩ := hPv
        have kI : ∀ b o, b ≠ I → h'.get? b = some o → h₂.get? b = some o := fun b o hb e => hk₂ b o (by simpa using hb) e
        have hcI : c ≠ I := fun e => (lift hIlt).2.2 e.symm
        have hCI : C ≠ I := fun e => (lift hIlt).2.1 e.symm
        have hDI : D ≠ I := fun e => (lift hIlt).1 e.symm
        have hc₂ : h₂.IsCell c v₀ := by obtain ⟨o, a, b⟩ := hc'; exact ⟨o, kI _ _ hcI a, b⟩
        have hn₂ : h₂.Ns C m' := hn'.at' fun o e => kI _ o hCI e
        have F₂ : Fr h₀ L h₂ m := LCg.fr_but F' hk₂ hIL hI₀
        refine wpAny_assign_Name (wpAny_storeName_cell hkind hl (by simp [compEnvC]) hc₂ fun h₃ hc₃ hs₃ => ?_)
        refine wpAny_tests_one ?_
        obtain ⟨oc, hoc, hocd⟩ := hc₃
        have hn₃ : h₃.Ns C m' := hn₂.sameBut hs₃ (Ne.symm hcC)
        obtain ⟨oC, heC, hoC⟩ := LCg.ns_obj hn₃
        have hI₃ : IsRangeIter h₃ I (0 + ((i + 1 : Nat) : Int) * 1) ((n : Int) - ((i + 1 : Nat) : Int)) 1 := hs₃.extBut _ _ (Ne.symm hcI) hst₂
        have F₃ : Fr h₀ L h₃ m := F₂.change hs₃ (Ne.symm (lift hLlt).2.2) hc₀
        have N₃ : News h₀ L h₃ ((I, _) :: (C, oC) :: (c, oc) :: (D, LCg.lst ys) :: news) := fun p hp => by
          rcases List.mem_cons.mp hp with rfl | hp
          · exact ⟨hI₃, Ne.symm hIL, hI₀⟩
          · rcases List.mem_cons.mp hp with rfl | hp
            · exact ⟨heC, Ne.symm (lift hLlt).2.1, hC₀⟩
            · rcases List.mem_cons.mp hp with rfl | hp
              · exact ⟨hoc, Ne.symm (lift hLlt).2.2, hc₀⟩
              · have z := N' p hp
                rcases List.mem_cons.mp hp with rfl | hp
                · exact ⟨hs₃.extBut _ _ (Ne.symm hcD) (kI _ _ hDI z.1), z.2⟩
                · exact ⟨hs₃.extBut _ _ (lift (nlt p hp)).2.2 (kI _ _ (off p hp) z.1), z.2⟩
        have hsome : oc.data = .cell (some (.int (i : Int) t)) := by rw [hocd]; simp
        refine wpAny_mono (T i ys I _ C oC c oc D t h₃ tk₂ _ hlt hI hsome F₃ N₃) (fun ok s₄ h₄ => ?_) fun _ _ e => e
        cases ok with
        | true =>
          simp only [if_true] at h₄ ⊢
          refine wpAny_mono h₄ (fun y s₅ h₅ => ?_) fun _ _ e => e
          obtain ⟨h₄, tk₄, rfl, F₄, N₄, hI₄⟩ := h₅
          have zI := (N₄ _ List.mem_cons_self).1
          have zC := (N₄ (C, oC) (List.mem_cons_of_mem _ List.mem_cons_self)).1
          have zc := (N₄ (c, oc) (List.mem_cons_of_mem _ (List.mem_cons_of_mem _ List.mem_cons_self))).1
          have zD := (N₄ (D, LCg.lst ys) (List.mem_cons_of_mem _ (List.mem_cons_of_mem _ (List.mem_cons_of_mem _ List.mem_cons_self)))).1
          refine append_at (hsz := by show ys.toArray.size ≤ sizeLine; rw [List.size_toArray]; exact Nat.le_trans (Nat.le_trans hyl hi) hsz) zD fun h₅ hs₅ hD₅ => ?_
          refine ⟨n + 1 - (i + 1), by omega, h₅, tk₄, i + 1, ys ++ [y], _, _, rfl, hlt, rfl, by rw [List.length_append, List.length_singleton]; exact Nat.succ_le_succ hyl, hs₅.extBut _ _ (Ne.symm hDI) zI, F₄.change hs₅ (Ne.symm (lift hLlt).1) hD₀,
            (hoC.ns zC).sameBut hs₅ hCD, ⟨oc, hs₅.extBut _ _ hcD zc, hsome⟩, fun p hp => ?_, hI₄⟩
          rcases List.mem_cons.mp hp with rfl | hp
          · exact ⟨hD₅.trans (congrArg some (LCg.lst_snoc ys y)), Ne.symm (lift hLlt).1, hD₀⟩
          · have z := N₄ p (List.mem_cons_of_mem _ (List.mem_cons_of_mem _ (List.mem_cons_of_mem _ (List.mem_cons_of_mem _ hp))))
            exact ⟨hs₅.extBut _ _ (lift (nlt p hp)).1 z.1, z.2⟩
        | false =>
          simp only [Bool.false_eq_true, if_false] at h₄ ⊢
          obtain ⟨h₄, tk₄, rfl, F₄, N₄, hI₄⟩ := h₄
          have zI := (N₄ _ List.mem_cons_self).1
          have zC := (N₄ (C, oC) (List.mem_cons_of_mem _ List.mem_cons_self)).1
          have zc := (N₄ (c, oc) (List.mem_cons_of_mem _ (List.mem_cons_of_mem _ List.mem_cons_self))).1
          exact ⟨n + 1 - (i + 1), by omega, h₄, tk₄, i + 1, ys, _, _, rfl, hlt, rfl, Nat.le_succ_of_le hyl, zI, F₄, hoC.ns zC, ⟨oc, zc, hsome⟩,
            fun p hp => N₄ p (List.mem_cons_of_mem _ (List.mem_cons_of_mem _ (List.mem_cons_of_mem _ hp))), hI₄⟩
      · obtain rfl : i = n := Nat.le_antisymm hi (Nat.not_lt.mp hlt)
        refine W.done _ _ _ hst' fun h₂ tk₂ hk₂ => ?_
        have hDI : D ≠ I := fun e => (lift hIlt).1 e.symm
        have hCI : C ≠ I := fun e => (lift hIlt).2.1 e.symm
        refine hRR _ _ h₂ tk₂ _ ys (LCg.fr_but F' hk₂ hIL hI₀) (LCg.news_but N' hk₂ fun p hp => ?_) (hn'.at' fun o e => hk₂ _ o (by simpa using hCI) e) hC₀ (Ne.symm (lift hLlt).2.1) hCD (fun p hp => ⟨(lift (nlt p hp)).2.1, (lift (nlt p hp)).1⟩) hI
        rcases List.mem_cons.mp hp with rfl | hp
        · exact hDI
        · exact off p hp
    · show h₁.get? I = some _
      have := old _ _ hst
      rw [this]; simp
    · rcases List.mem_cons.mp hp with rfl | hp
      · exact ⟨gD, Ne.symm (lift hLlt).1, hD₀⟩
      · exact ⟨old _ _ (N p hp).1, (N p hp).2⟩
  exact codeAny_compStart_list (loop _ rfl) (W.self 0 _ _ _ (by show h₁.get? I = some _; rw [old _ _ hst]; simp) (loop _ rfl))

def CSrc (prog : Program) (w : World) (A : Around) (h₀ : Heap) (L : Addr) (m : Str → Option Value) (env : Env) (ct elt : Expr) (x : Str) (scope : Scope) (cl : List (Str × Addr)) (Q : Value → Shared → Prop) (xv : Value) (s₁ : Shared) : Prop :=
  ∃ r b t u v n news, ∃ Inv : Nat → List Value → Prop, xv = .ref r ∧ A.handled = none ∧ Fr h₀ L s₁.heap m ∧ News h₀ L s₁.heap news ∧ IsRange s₁.heap r 0 b 1 t u v ∧ Builtin.Range.small 0 b 1 = true ∧ Builtin.Range.rangeSize 0 b 1 = ((n : Nat) : Int) ∧ n ≤ sizeLine ∧ Inv 0 [] ∧
    (∀ h, CTurn prog w A h₀ L m env ct elt x scope cl { s₁ with heap := h } news Inv n) ∧
    ∀ ys, Inv n ys → ∀ D h tk, Fr h₀ L h m → News h₀ L h ((D, LCg.lst ys) :: news) → (∀ p ∈ news, p.1 ≠ D) → Q (.ref D) { s₁ with heap := h, toks := tk }

theorem ListComp_C {ct elt iter : Expr} {x : Str} {px : Pos} {scope : Scope} {cl : List (Str × Addr)} {pos : Pos} {Q : Value → Shared → Prop} (_F : Fr h₀ L s.heap m)
    (hclos : closureFor scope env = pure cl) (hcf : ∀ k, cellsFrom k scope.names cl = (x, k) :: cl) (hpc : ∀ h, pushCells h scope.names = h.push { cls := .type "cell", data := .cell none })
    (hkind : scope.kind = .function) (hnames : ∀ y ∈ scope.names, y.2 = .local → scope.names.lookup y.1 = some .local) (hx : (relabel scope env).names.lookup x = some .cell)
    (h : wpAny (model prog w) A (eval iter env) (CSrc prog w A h₀ L m env ct elt x scope cl Q) E s)
    (hs : ∀ x, foldedSetIterable iter env x = pure x := by intro _; rfl) :
    wpAny (model prog w) A (eval (.ListComp elt [⟨.Name x px, iter, [ct], 0⟩] scope pos) env) Q E s := by
  rw [eval_ListComp]
  refine wpAny_comprehension_free (use := none) rfl hs hclos hkind hnames (wpAny_mono h (fun xv s₁ h₁ => ?_) fun _ _ e => e)
  obtain ⟨r, b, t, u, v, n, news, Inv, rfl, hh, F, N, hr, hsm, hn, hsz, h0, T, fin⟩ := h₁
  refine wpAny_pyIter_range hr hsm ?_
  have up : ∀ a o, s₁.heap.get? a = some o → (s₁.heap.push { cls := .type "range_iterator", data := .fields #[rawInt 0, rawInt (Builtin.Range.rangeSize 0 b 1), rawInt 1] }).get? a = some o := fun a o e => Heap.get?_push_of_some _ e
  refine block_C (Inv := Inv) (n := n) (b := b) hh hsz hcf hpc hkind hx (by rw [← hn]; exact Heap.get?_push_size _ rfl) (F.keeps up) (N.grown up) (Nat.ne_of_lt F.ns.lt) (next_is_new F) (fun p hp => Nat.ne_of_lt (Heap.lt_size (N p hp).1)) h0 (T _) ?_
  intro D C h tk m' ys F' N' hnC hC₀ hCL hCD off hI
  refine ⟨m', hnC, fun h'' hs'' => fin ys hI D h'' tk (F'.change hs'' hCL hC₀) (fun p hp => ?_) fun p hp => (off p hp).2⟩
  refine ⟨hs''.extBut _ _ ?_ (N' p hp).1, (N' p hp).2⟩
  rcases List.mem_cons.mp hp with rfl | hp
  · exact Ne.symm hCD
  · exact (off p hp).1
end
end Mine
end

section
set_option maxRecDepth 100000
open PySem PySem.W PySem.Calls PyProof.Rows PySem.Spec
namespace Mine
section
variable {prog : Program} {w : World} {A : Around} {E : Value → Shared → Prop} {s : Shared} {a b : Addr} {xs : List Value} {Q : Value → Shared → Prop}
/-- a list against the empty list -/
theorem eq_nil (ha : s.heap.IsList a xs.toArray) (hb : s.heap.IsList b #[]) (hu : A.units < cLine) (h : Q (.bool xs.isEmpty) s) : wpAny (model prog w) A (compareOp .Eq (.ref a) (.ref b)) Q E s := by
  cases xs with
  | nil => exact SeqAt.eq_listAt (e := fun _ => true) ha hb rfl hu (fun j h1 _ => absurd h1 (Nat.not_lt_zero _)) h
  | cons x r => exact SeqAt.eq_list_lengthsAt ha hb (by simp) hu h
theorem ne_nil (ha : s.heap.IsList a xs.toArray) (hb : s.heap.IsList b #[]) (hu : A.units < cLine) (h : Q (.bool (!xs.isEmpty)) s) : wpAny (model prog w) A (compareOp .NotEq (.ref a) (.ref b)) Q E s := by
  cases xs with
  | nil => exact SeqAt.RcNeAt.lists (e := fun _ => true) ha hb rfl hu (fun j h1 _ => absurd h1 (Nat.not_lt_zero _)) prog w E Q h
  | cons x r => exact SeqAt.RcNeAt.lists_lengths ha hb (by simp) hu prog w E Q h
end
end Mine
end

section
open PySem PySem.W PySem.Calls PyProof.Rows PySem.Spec
namespace Mine
set_option maxRecDepth 100000
set_option maxHeartbeats 0
local macro_rules | `(tactic| walk_at "mine stop") => `(tactic| first
  | (with_reducible show wpAny _ _ (compareOp _ (Value.ref _) (Value.ref _)) _ _ _)
  | (with_reducible show wpAny _ _ (call (Value.builtin "len") [Value.ref _]) _ _ _))
local macro_rules | `(tactic| walk_at "mine go") => `(tactic| repeat' ((fail_if_success (walk_at "mine stop")); (first | walk1 | (dsimp only; walk1))))
local macro_rules | `(tactic| k_mem) => `(tactic| first | ktr_member | exact List.mem_cons_self | (refine' List.mem_cons_of_mem _ ?_; k_mem))
local macro_rules | `(tactic| walk_at "eval Name") => `(tactic| ((with_reducible show wpAny _ _ (eval (Expr.Name _ _) (compEnvC _ _ _ _)) _ _ _); (first
  | (refine' cn_global ?k1 ?k2 ?k3 ?k4 ?_ ?k5 ?k6 ?k7 ?k8; (case k1 => k_asm); (case k2 => k_asm); (case k3 => k_asm); (case k4 => k_is); (case k5 => rfl); (case k6 => rfl); (case k7 => rfl); (case k8 => decide))
  | (refine' cn_built ?k1 ?k2 ?k3 ?k4 ?k9 ?k10 ?_ ?k5 ?k11 ?k6 ?k7 ?k8; (case k1 => k_asm); (case k2 => k_asm); (case k3 => k_asm); (case k4 => k_is); (case k9 => boot_by_name); (case k10 => decide); (case k5 => rfl); (case k11 => rfl); (case k6 => rfl); (case k7 => rfl); (case k8 => decide)))))

local macro_rules | `(tactic| walk_at "eval ListComp") => `(tactic| ((with_reducible show wpAny _ _ (eval (Expr.ListComp _ [Comprehension.mk _ _ [] 0] _ _) _) _ _ _); (k_dflt (refine LCg.ListComp_U (F₀ := by k_asm) (by with_unfolding_all rfl) (by decide) (by rfl) (by decide) (by rfl) ?_))))
local macro_rules | `(tactic| walk_at "eval ListComp") => `(tactic| ((with_reducible show wpAny _ _ (eval (Expr.ListComp _ [Comprehension.mk _ (Expr.Name _ _) [_] 0] _ _) _) _ _ _); (k_dflt (refine LCt.ListComp_T (F₀ := by k_asm) (by with_unfolding_all rfl) (by decide) (by rfl) (by decide) (by rfl) ?_))))
local macro_rules | `(tactic| walk_at "eval ListComp") => `(tactic| ((with_reducible show wpAny _ _ (eval (Expr.ListComp _ [Comprehension.mk _ (Expr.Call _ _ _ _) [_] 0] _ _) _) _ _ _); (k_dflt (refine ListComp_C (by k_asm) (by with_unfolding_all rfl) (fun _ => rfl) (fun _ => rfl) (by rfl) (by decide) (by rfl) ?_))))

section
variable {w : World} {A : Around} {mg mb : Str → Option Value} {p : Program} {loose : List Str} {g : Heap} {L : Addr} {m : Str → Option Value} {news : List (Addr × Obj)} {s : Shared} {E : Value → Shared → Prop}

/-- a place at which not all words have one letter -/
def bad (ws : List Str) (k : Nat) : Bool := ws.any fun x => Txt.item x (k : Int) != Txt.item (ws.getD (Int.toNat 0) Str.empty) (k : Int)
def bads (ws : List Str) (n : Nat) : Nat := ((List.range n).filter (bad ws)).length

/-- within -/
theorem seg2 {lw : Addr} {vs : List Value} {ws : List Str} {sh lo : Nat} {t1 t2 : Tok} {o1' o2 o3 o4 : Obj} {Q : Flow → Shared → Prop} (hh : A.handled = none) (hroom : A.depth + 12 < recursionLimit) (hun : A.units < cLine)
    (F : Fr g L s.heap (fun y => if y = Str.ofString "longest" then some (.int lo t2) else m y)) (X : Amb w mg mb p loose g) (N : News g L s.heap ((L + 1 + 1 + 1 + 1, o4) :: (L + 1 + 1 + 1, o3) :: (L + 1 + 1, o2) :: (L + 1, o1') :: (lw, LCg.lst vs) :: news))
    (hs2 : o2.data = .cell (some (.ref lw))) (hs3 : o3.data = .cell (some (.int sh t1))) (hnc : ∀ p ∈ (lw, LCg.lst vs) :: news, Apart L p.1) (hv : StrsAre vs ws) (hsz : 2 ≤ vs.length ∧ vs.length ≤ 4) (hw : ∀ x ∈ ws, 0 < x.length ∧ x.length ≤ 7)
    (hsh : ∀ x ∈ ws, sh ≤ x.length) (hsh7 : sh ≤ 7)
    (h : ∀ h' tk t3, Fr g L h' (fun y => if y = Str.ofString "within" then some (.int (bads ws sh) t3) else if y = Str.ofString "longest" then some (.int lo t2) else m y) →
      News g L h' ((L + 1 + 1 + 1 + 1, o4) :: (L + 1 + 1 + 1, o3) :: (L + 1 + 1, o2) :: (L + 1, o1') :: (lw, LCg.lst vs) :: news) → Q .next { s with heap := h', toks := tk }) :
    wpAny (model pg w) A (exec (lawS w 2) (lawEnv w L)) Q E s := by
  unfold lawEnv
  conv in lawS _ _ => whnf
  repeat (conv in lawFd _ => whnf)
  dsimp only
  obtain ⟨KX, TX⟩ := X
  walk_at "mine go"
  (with_reducible rename Fr _ _ _ _ => F₂)
  (with_reducible rename News _ _ _ _ => N₂)
  (with_reducible rename IsRange _ _ _ _ _ _ _ _ => hr)
  have hvl := hv.len_eq
  have hn : vs.toArray.size = ws.length := by rw [List.size_toArray]; exact hvl
  refine ⟨_, _, _, _, _, sh, _, fun i ys => ys.length = ((List.range i).filter (bad ws)).length, rfl, hh, F₂, N₂, hr, small_one (by omega) (by omega) (by omega) (by omega), (by rw [rangeSize_nat]; first | done | rfl), by rw [sizeLine_eq]; omega, rfl, fun h₃ => ?turn, fun ys hI D h₄ tk₄ F₄ N₄ off₄ => ?fin⟩
  case turn =>
    intro i ys I oI C oC c oc D t h₅ tk₅ E' hi hI hoc F₅ N₅
    clear F₂ N₂
    walk1
    walk1
    walk1
    refine LCt.CompSrcT.ledger (k := vs.length) hh (by with_reducible assumption) (by with_reducible assumption) (by k_mem) (by rw [List.size_toArray, sizeLine_eq]; omega) fun h₆ => ?_
    refine comp_invT (n := vs.toArray.size) (fun j zs nn => (∀ p ∈ (I, oI) :: (C, oC) :: (c, oc) :: (D, LCg.lst ys) :: (L + 1 + 1 + 1 + 1, o4) :: (L + 1 + 1 + 1, o3) :: (L + 1 + 1, o2) :: (L + 1, o1') :: (lw, LCg.lst vs) :: news, p ∈ nn) ∧
      zs.length = ((ws.take j).filter fun x => Txt.item x (i : Int) != Txt.item (ws.getD (Int.toNat 0) Str.empty) (i : Int)).length) ?turn2 ?fin2 _ 0 [] _ (Nat.zero_add _) ⟨fun p hp => hp, by simp⟩
    case turn2 =>
      intro j zs nn hj hJ v I2 oI2 C2 oC2 D2 m₂ h₇ tk₇ E2 hPv hNs hm hF hN hoff hne3
      obtain ⟨y, ty, hy, rfl⟩ := strs_at hv j v (by rw [List.getElem?_toArray] at hPv; exact hPv)
      have hyl := (hw y (List.mem_of_getElem? hy)).2
      have hyi : i < y.length := Nat.lt_of_lt_of_le hi (hsh y (List.mem_of_getElem? hy))
      obtain ⟨hJ1, hJ2⟩ := hJ
      simp only [List.forall_mem_cons] at hJ1
      obtain ⟨j1, j2, j3, j4, j5, j6, j7, j8, j9, j10⟩ := hJ1
      clear F₅ N₅
      have hd0m : ws.getD (Int.toNat 0) Str.empty ∈ ws := by
        have h0 : 0 < ws.length := by omega
        show ws.getD 0 Str.empty ∈ ws
        rw [List.getD_eq_getElem?_getD, List.getElem?_eq_getElem h0]; exact List.getElem_mem h0
      have hd0 : i < (ws.getD (Int.toNat 0) Str.empty).length := Nat.lt_of_lt_of_le hi (hsh _ hd0m)
      have hLs : h₇.IsList lw vs.toArray := ⟨_, (hN (lw, LCg.lst vs) (by k_mem)).1, rfl, _, rfl⟩
      walk_at "mine go"
      · (with_reducible rename (_ != _) = true => h9)
        refine LCg.CompEnd.intro hF hN nn (fun p hp => hp) hoff (.inr ⟨_, j9, rfl, _, rfl⟩) ⟨?_, ?_⟩
        · simp only [List.forall_mem_cons]; exact ⟨j1, j2, j3, j4, j5, j6, j7, j8, j9, j10⟩
        · have e9 : ([y] : List Str).filter (fun x => Txt.item x (i : Int) != Txt.item (ws.getD (Int.toNat 0) Str.empty) (i : Int)) = [y] := by simp only [List.filter_cons, h9, if_true, List.filter_nil]
          rw [List.take_add_one, hy]
          show _ = ((ws.take j ++ [y]).filter _).length
          rw [List.filter_append, e9, List.length_append, List.length_append, hJ2]; rfl
      · (with_reducible rename (_ != _) = false => h9)
        refine LCg.CompEnd.intro hF hN nn (fun p hp => hp) hoff (.inr ⟨_, j9, rfl, _, rfl⟩) ⟨?_, ?_⟩
        · simp only [List.forall_mem_cons]; exact ⟨j1, j2, j3, j4, j5, j6, j7, j8, j9, j10⟩
        · have e9 : ([y] : List Str).filter (fun x => Txt.item x (i : Int) != Txt.item (ws.getD (Int.toNat 0) Str.empty) (i : Int)) = [] := by simp only [List.filter_cons, h9, Bool.false_eq_true, if_false, List.filter_nil]
          rw [List.take_add_one, hy]
          show _ = ((ws.take j ++ [y]).filter _).length
          rw [List.filter_append, e9, List.append_nil, hJ2]
    case fin2 =>
      intro zs nn hJ
      obtain ⟨hJ1, hJ2⟩ := hJ
      unfold LCg.FinE
      intro D3 h₈ tk₈ F₈ N₈ o1
      dsimp only
      clear F₅ N₅
      walk_at "mine go"
      (with_reducible rename Fr _ _ _ _ => F₉)
      (with_reducible rename News _ _ _ _ => N₉)
      refine ne_nil (xs := zs) ⟨_, (N₉ (D3, LCg.lst zs) (by k_mem)).1, rfl, _, rfl⟩ ⟨_, (N₉ _ List.mem_cons_self).1, rfl, _, rfl⟩ hun ?_
      have N₁₀ : News g L _ ((I, oI) :: (C, oC) :: (c, oc) :: (D, LCg.lst ys) :: (L + 1 + 1 + 1 + 1, o4) :: (L + 1 + 1 + 1, o3) :: (L + 1 + 1, o2) :: (L + 1, o1') :: (lw, LCg.lst vs) :: news) :=
        news_sub N₉ fun p hp => List.mem_cons_of_mem _ (List.mem_cons_of_mem _ (hJ1 p hp))
      clear N₉
      (try clear F₈ N₈)
      have hbad : (!zs.isEmpty) = bad ws i := by
        rw [hn, List.take_of_length_le (Nat.le_refl _)] at hJ2
        unfold bad
        rw [Bool.eq_iff_iff, List.any_eq_true]
        constructor
        · intro h0
          have : 0 < (ws.filter fun x => Txt.item x (i : Int) != Txt.item (ws.getD (Int.toNat 0) Str.empty) (i : Int)).length := by
            rw [← hJ2]; cases zs with
            | nil => simp at h0
            | cons _ _ => simp
          obtain ⟨x, hx⟩ := List.exists_mem_of_length_pos this
          exact ⟨x, (List.mem_filter.mp hx).1, (List.mem_filter.mp hx).2⟩
        · rintro ⟨x, hx, hp⟩
          have : 0 < (ws.filter fun x => Txt.item x (i : Int) != Txt.item (ws.getD (Int.toNat 0) Str.empty) (i : Int)).length := List.length_pos_of_mem (List.mem_filter.mpr ⟨hx, hp⟩)
          rw [← hJ2] at this
          cases zs with
          | nil => simp at this
          | cons _ _ => rfl
      rw [hbad]
      walk_at "mine go"
      · (with_reducible rename bad ws i = true => hb9)
        exact ⟨_, _, rfl, F₉, N₁₀, by show (ys ++ [_]).length = _; rw [List.length_append, hI, List.range_succ, List.filter_append, List.length_append]; simp [hb9]⟩
      · (with_reducible rename bad ws i = false => hb9)
        exact ⟨_, _, rfl, F₉, N₁₀, by show ys.length = _; rw [hI, List.range_succ, List.filter_append, List.length_append]; simp [hb9]⟩
  case fin =>
    clear F₂ N₂
    dsimp only
    walk_at "mine go"
    have hyl : ys.length < 1000 := by rw [hI]; have := List.length_filter_le (bad ws) (List.range sh); rw [List.length_range] at this; omega
    refine call_len_list (items := ys.toArray) ⟨_, (N₄ (D, LCg.lst ys) List.mem_cons_self).1, rfl, _, rfl⟩ (by rw [List.size_toArray]; omega) ?_
    replace N₄ := news_sub N₄ (sub_drop sub_refl)
    rw [List.size_toArray, hI]
    walk_at "mine go"
    (with_reducible rename Fr _ _ _ _ => F₅)
    (with_reducible rename News _ _ _ _ => N₅)
    exact h _ _ _ F₅ N₅
end
end Mine
end

section
open PySem PySem.W PySem.Calls PyProof.Rows PySem.Spec
namespace Mine
set_option maxRecDepth 100000
set_option maxHeartbeats 0
local macro_rules | `(tactic| walk_at "mine stop") => `(tactic| first
  | (with_reducible show wpAny _ _ (getAttr _ (Str.ofString "_ident") _) _ _ _))
local macro_rules | `(tactic| walk_at "mine go") => `(tactic| repeat' ((fail_if_success (walk_at "mine stop")); (first | walk1 | (dsimp only; walk1))))
local macro_rules | `(tactic| k_mem) => `(tactic| first | ktr_member | exact List.mem_cons_self | (refine' List.mem_cons_of_mem _ ?_; k_mem))
local macro_rules | `(tactic| k_upd) => `(tactic| exact Upd.tail (Nat.ne_of_gt (by assumption)) (Upd.head (fun p hp => Nat.ne_of_lt ((by assumption : ∀ p ∈ _, p.1 < _) p hp))))
local macro_rules | `(tactic| walk_at "mine sm") => `(tactic| (refine' get_sm ?k1 ?k2 ?k4 ?k5 ?k6 ?k7 ?k9 ?k10 ?k11 ?k12 ?k13 ?k14 ?_; (case k1 => k_asm); (case k2 => k_asm); (case k4 => k_inst); (case k5 => k_is); (case k6 => k_is); (case k7 => k_is); (case k9 => k_is); (case k10 => k_is); (case k11 => decide +kernel); (case k12 => k_get); (case k13 => k_is); (case k14 => k_handed)))
section
variable {w : World} {A : Around} {mg mb : Str → Option Value} {p : Program} {loose : List Str} {h₀ : Heap} {L : Addr} {m : Str → Option Value} {news : List (Addr × Obj)} {s : Shared} {E : Value → Shared → Prop}

/-- Hamming(external=False) -/
theorem make1_ct {Q : Value → Shared → Prop} (hh : A.handled = none) (hroom : A.depth + 8 < recursionLimit)
    (F : Fr h₀ L s.heap m) (X : Amb w mg mb p loose h₀) (N : News h₀ L s.heap news)
    (h : ∀ h' tk x dx hs ts tq, Fr h₀ L h' m → News h₀ L h' ((x, instObj 173 dx) :: (dx, hamD hs ts tq false) :: news) → (∀ p ∈ news, p.1 < dx) → dx < x → Q (.ref x) { s with heap := h', toks := tk }) :
    wpAny (model pg w) A (call (.ref 173) [] [(Str.ofString "external", .bool false)]) Q E s := by
  refine' call_cls (K := hd.heap_39 w.params) (fI := 165) F X.k N ?a1 ?a2 ?a3 ?_
  case a1 => k_is
  case a2 => k_is
  case a3 => k_is
  intro x dx h₁ F₁ N₁ l1 l2
  have l3 : AllLt dx news := allLt_of l1
  refine' enter_plain (K := hd.heap_39 w.params) (binds := ?b) F₁ X.k N₁ X.t.nolimit ?k1 ?k2 ?k0 ?k3 ?k5 ?_ ?c1 ?c2 ?c3 ?c4
  case k1 => k_is
  case k2 => k_is
  case k0 => simp only [depth_under_make, depth_under_kw, depth_in1]; omega
  case k3 => exact binds_K (X.k.keeps F₁.keep) rfl (by k_is) rfl rfl (by with_unfolding_all rfl)
  case k5 => exact locs rfl
  case c1 => rfl
  case c2 => rfl
  case c3 => rfl
  case c4 => decide
  intro g L' h₂ tk₂ st F₂ N₂ bk
  obtain ⟨KX, TX⟩ := X.keeps st
  clear F X N F₁ N₁ st
  walk_at "mine go"
  walk_at "mine sm"
  walk_at "mine go"
  (with_reducible rename Fr _ _ _ _ => F₃)
  (with_reducible rename News _ _ _ _ => N₃)
  obtain ⟨Fb, Nb⟩ := bk _ _ _ _ F₃ N₃
  unfold InitBack
  dsimp only
  exact ⟨rfl, h _ _ x dx (_, _, _, _) (_, _, _, _) _ Fb Nb l1 l2⟩
/-- Hamming(truncate=True, external=False) -/
theorem make2_ct {Q : Value → Shared → Prop} (hh : A.handled = none) (hroom : A.depth + 8 < recursionLimit)
    (F : Fr h₀ L s.heap m) (X : Amb w mg mb p loose h₀) (N : News h₀ L s.heap news)
    (h : ∀ h' tk x dx hs ts tq, Fr h₀ L h' m → News h₀ L h' ((x, instObj 173 dx) :: (dx, hamD hs ts tq true) :: news) → (∀ p ∈ news, p.1 < dx) → dx < x → Q (.ref x) { s with heap := h', toks := tk }) :
    wpAny (model pg w) A (call (.ref 173) [] [(Str.ofString "truncate", .bool true), (Str.ofString "external", .bool false)]) Q E s := by
  refine' call_cls (K := hd.heap_39 w.params) (fI := 165) F X.k N ?a1 ?a2 ?a3 ?_
  case a1 => k_is
  case a2 => k_is
  case a3 => k_is
  intro x dx h₁ F₁ N₁ l1 l2
  have l3 : AllLt dx news := allLt_of l1
  refine' enter_plain (K := hd.heap_39 w.params) (binds := ?b) F₁ X.k N₁ X.t.nolimit ?k1 ?k2 ?k0 ?k3 ?k5 ?_ ?c1 ?c2 ?c3 ?c4
  case k1 => k_is
  case k2 => k_is
  case k0 => simp only [depth_under_make, depth_under_kw, depth_in1]; omega
  case k3 => exact binds_K (X.k.keeps F₁.keep) rfl (by k_is) rfl rfl (by with_unfolding_all rfl)
  case k5 => exact locs rfl
  case c1 => rfl
  case c2 => rfl
  case c3 => rfl
  case c4 => decide
  intro g L' h₂ tk₂ st F₂ N₂ bk
  obtain ⟨KX, TX⟩ := X.keeps st
  clear F X N F₁ N₁ st
  walk_at "mine go"
  walk_at "mine sm"
  walk_at "mine go"
  (with_reducible rename Fr _ _ _ _ => F₃)
  (with_reducible rename News _ _ _ _ => N₃)
  obtain ⟨Fb, Nb⟩ := bk _ _ _ _ F₃ N₃
  unfold InitBack
  dsimp only
  exact ⟨rfl, h _ _ x dx (_, _, _, _) (_, _, _, _) _ Fb Nb l1 l2⟩
end
end Mine
end

section
open PySem PySem.W PySem.Calls PyProof.Rows PySem.Spec
namespace Mine
set_option maxRecDepth 100000
set_option maxHeartbeats 0
local macro_rules | `(tactic| walk_at "mine stop") => `(tactic| first
  | (with_reducible show wpAny _ _ (unpackItems (Value.ref _) _ _) _ _ _)
  | (with_reducible show wpAny _ _ (call (Value.ref 173) _ _) _ _ _))
local macro_rules | `(tactic| walk_at "mine go") => `(tactic| repeat' ((fail_if_success (walk_at "mine stop")); (first | walk1 | (dsimp only; walk1))))
local macro_rules | `(tactic| k_mem) => `(tactic| first | ktr_member | exact List.mem_cons_self | (refine' List.mem_cons_of_mem _ ?_; k_mem))
local macro_rules | `(tactic| walk_at "eval Name") => `(tactic| ((with_reducible show wpAny _ _ (eval (Expr.Name _ _) (compEnvC _ _ _ _)) _ _ _); (first
  | (refine' cn_global ?k1 ?k2 ?k3 ?k4 ?_ ?k5 ?k6 ?k7 ?k8; (case k1 => k_asm); (case k2 => k_asm); (case k3 => k_asm); (case k4 => k_is); (case k5 => rfl); (case k6 => rfl); (case k7 => rfl); (case k8 => decide))
  | (refine' cn_built ?k1 ?k2 ?k3 ?k4 ?k9 ?k10 ?_ ?k5 ?k11 ?k6 ?k7 ?k8; (case k1 => k_asm); (case k2 => k_asm); (case k3 => k_asm); (case k4 => k_is); (case k9 => boot_by_name); (case k10 => decide); (case k5 => rfl); (case k11 => rfl); (case k6 => rfl); (case k7 => rfl); (case k8 => decide)))))

local macro_rules | `(tactic| walk_at "eval ListComp") => `(tactic| ((with_reducible show wpAny _ _ (eval (Expr.ListComp _ [Comprehension.mk _ _ [] 0] _ _) _) _ _ _); (k_dflt (refine LCg.ListComp_U (F₀ := by k_asm) (by with_unfolding_all rfl) (by decide) (by rfl) (by decide) (by rfl) ?_))))
local macro_rules | `(tactic| walk_at "eval ListComp") => `(tactic| ((with_reducible show wpAny _ _ (eval (Expr.ListComp _ [Comprehension.mk _ (Expr.Name _ _) [_] 0] _ _) _) _ _ _); (k_dflt (refine LCt.ListComp_T (F₀ := by k_asm) (by with_unfolding_all rfl) (by decide) (by rfl) (by decide) (by rfl) ?_))))
local macro_rules | `(tactic| walk_at "eval ListComp") => `(tactic| ((with_reducible show wpAny _ _ (eval (Expr.ListComp _ [Comprehension.mk _ (Expr.Call _ _ _ _) [_] 0] _ _) _) _ _ _); (k_dflt (refine ListComp_C (by k_asm) (by with_unfolding_all rfl) (fun _ => rfl) (fun _ => rfl) (by rfl) (by decide) (by rfl) ?_))))

section
variable {w : World} {A : Around} {mg mb : Str → Option Value} {p : Program} {loose : List Str} {g : Heap} {L : Addr} {m : Str → Option Value} {news : List (Addr × Obj)} {s : Shared} {E : Value → Shared → Prop}

/-- plain and cut -/
theorem seg3 {lw : Addr} {vs : List Value} {o1' o2 o3 o4 : Obj} {Q : Flow → Shared → Prop} (hh : A.handled = none) (hroom : A.depth + 12 < recursionLimit)
    (F : Fr g L s.heap m) (X : Amb w mg mb p loose g) (N : News g L s.heap ((L + 1 + 1 + 1 + 1, o4) :: (L + 1 + 1 + 1, o3) :: (L + 1 + 1, o2) :: (L + 1, o1') :: (lw, LCg.lst vs) :: news))
    (h : ∀ h' tk x dx hs ts tq x₂ dx₂ hs₂ ts₂ tq₂, (∀ p ∈ (L + 1 + 1 + 1 + 1, o4) :: (L + 1 + 1 + 1, o3) :: (L + 1 + 1, o2) :: (L + 1, o1') :: (lw, LCg.lst vs) :: news, p.1 < dx) → dx < x → x < dx₂ → dx₂ < x₂ →
      Fr g L h' (fun y => if y = Str.ofString "plain" then some (.ref x) else if y = Str.ofString "cut" then some (.ref x₂) else m y) →
      News g L h' ((x₂, instObj 173 dx₂) :: (dx₂, hamD hs₂ ts₂ tq₂ true) :: (x, instObj 173 dx) :: (dx, hamD hs ts tq false) :: (L + 1 + 1 + 1 + 1, o4) :: (L + 1 + 1 + 1, o3) :: (L + 1 + 1, o2) :: (L + 1, o1') :: (lw, LCg.lst vs) :: news) → Q .next { s with heap := h', toks := tk }) :
    wpAny (model pg w) A (exec (lawS w 3) (lawEnv w L)) Q E s := by
  unfold lawEnv
  conv in lawS _ _ => whnf
  repeat (conv in lawFd _ => whnf)
  dsimp only
  obtain ⟨KX, TX⟩ := X
  walk_at "mine go"
  refine make1_ct hh (by omega) (by with_reducible assumption) ⟨KX, TX⟩ (by with_reducible assumption) fun h₁ tk₁ x dx hs ts tq F₁ N₁ l1 l2 => ?_
  walk_at "mine go"
  refine make2_ct hh (by omega) (by with_reducible assumption) ⟨KX, TX⟩ (by with_reducible assumption) fun h₂ tk₂ x₂ dx₂ hs₂ ts₂ tq₂ F₂ N₂ l3 l4 => ?_
  clear F₁ N₁
  walk_at "mine go"
  (with_reducible rename Fr _ _ _ _ => F₃)
  (with_reducible rename News _ _ _ _ => N₃)
  refine' unpackItemsN_ F₃ N₃ ⟨_, (N₃ _ List.mem_cons_self).1, rfl, _, rfl⟩ hh ?u1 ?_
  case u1 => rfl
  intro h₄ F₄ N₄
  clear F₃ N₃
  replace N₄ := news_sub N₄ (sub_drop sub_refl)
  walk_at "mine go"
  (with_reducible rename Fr _ _ _ _ => F₅)
  (with_reducible rename News _ _ _ _ => N₅)
  exact h _ _ x dx hs ts tq x₂ dx₂ hs₂ ts₂ tq₂ l1 l2 (l3 (x, instObj 173 dx) List.mem_cons_self) l4 F₅ N₅
end
end Mine
end

section
open PySem PySem.W PySem.Calls PyProof PyProof.Rows PySem.Spec
namespace Mine
set_option maxRecDepth 100000

/-- the letter at a place, if any -/
def lt (x : Str) (i : Nat) : Key := (x.cps.toList[i]?).map fun c => ⟨#[c]⟩
theorem lett_get (x : Str) (i : Nat) : (lett x).getD i none = lt x i := by
  unfold lett lt
  rw [List.getD_eq_getElem?_getD, List.getElem?_map]
  cases x.cps.toList[i]? <;> rfl
theorem padL_get (n : Nat) (x : Str) (i : Nat) : (padL n x).getD i none = lt x i := by
  rw [← lett_get]
  unfold padL
  rw [List.getD_eq_getElem?_getD, List.getD_eq_getElem?_getD]
  by_cases h : i < (lett x).length
  · rw [List.getElem?_append_left h]
  · rw [List.getElem?_append_right (Nat.not_lt.mp h), List.getElem?_eq_none (Nat.not_lt.mp h), List.getElem?_replicate]
    split <;> rfl
theorem col_lett (ws : List Str) (i : Nat) : col (ws.map lett) i = ws.map (lt · i) := by
  unfold col; rw [List.map_map]; exact List.map_congr_left fun x _ => lett_get x i
theorem col_padL (n : Nat) (ws : List Str) (i : Nat) : col (ws.map (padL n)) i = ws.map (lt · i) := by
  unfold col; rw [List.map_map]; exact List.map_congr_left fun x _ => padL_get n x i

/-- the count over columns -/
def cc (ws : List Str) (n : Nat) : Nat := ((List.range n).filter fun i => !same (ws.map (lt · i))).length
theorem cnt_lett (ws : List Str) (n : Nat) : cnt (ws.map lett) n = cc ws n := by
  unfold cnt cc; simp only [col_lett]
theorem cnt_padL (ws : List Str) (n k : Nat) : cnt (ws.map (padL k)) n = cc ws n := by
  unfold cnt cc; simp only [col_padL]

theorem foldl_dd_le : ∀ (ks σ : List Key), σ.length ≤ (ks.foldl dd σ).length
  | [], _ => Nat.le_refl _
  | k :: ks, σ => Nat.le_trans (by rw [dd_length]; split <;> omega) (foldl_dd_le ks (dd σ k))
theorem foldl_dd_one (a : Key) : ∀ (ks : List Key), (ks.foldl dd [a]).length = 1 ↔ ∀ k ∈ ks, k = a
  | [] => by simp
  | k :: ks => by
    by_cases h : k = a
    · subst h
      have e : dd [k] k = [k] := by unfold dd; simp
      show ((ks.foldl dd (dd [k] k)).length = 1) ↔ _
      rw [e, foldl_dd_one k ks]; simp
    · have e : (dd [a] k).length = 2 := by
        rw [dd_length]
        have : ([a] : List Key).any (· == k) = false := by simp; exact fun h' => h h'.symm
        rw [this]; rfl
      have h2 : 2 ≤ (ks.foldl dd (dd [a] k)).length := by have := foldl_dd_le ks (dd [a] k); omega
      show ((ks.foldl dd (dd [a] k)).length = 1) ↔ _
      constructor
      · intro h'; omega
      · intro h'; exact absurd (h' k List.mem_cons_self) h
theorem same_iff (ks : List Key) : same ks = true ↔ ks ≠ [] ∧ ∀ a ∈ ks, ∀ b ∈ ks, a = b := by
  unfold same met
  rw [decide_eq_true_iff, List.take_of_length_le (Nat.le_refl _)]
  cases ks with
  | nil => simp
  | cons a r =>
    have e : dd [] a = [a] := rfl
    show ((r.foldl dd (dd [] a)).length = 1) ↔ _
    rw [e, foldl_dd_one a r]
    constructor
    · intro h
      refine ⟨by simp, fun x hx y hy => ?_⟩
      have g : ∀ z ∈ a :: r, z = a := fun z hz => by
        rcases List.mem_cons.mp hz with h' | h'
        · exact h'
        · exact h z h'
      rw [g x hx, g y hy]
    · rintro ⟨_, h⟩ k hk
      exact h k (List.mem_cons_of_mem _ hk) a List.mem_cons_self
theorem same_congr {a b : List Key} (h : ∀ k, k ∈ a ↔ k ∈ b) : same a = same b := by
  rw [Bool.eq_iff_iff, same_iff, same_iff]
  constructor
  · rintro ⟨h1, h2⟩
    refine ⟨?_, fun x hx y hy => h2 x ((h x).mpr hx) y ((h y).mpr hy)⟩
    rintro rfl
    cases a with
    | nil => exact h1 rfl
    | cons z r => exact absurd ((h z).mp List.mem_cons_self) (by simp)
  · rintro ⟨h1, h2⟩
    refine ⟨?_, fun x hx y hy => h2 x ((h x).mp hx) y ((h y).mp hy)⟩
    rintro rfl
    cases b with
    | nil => exact h1 rfl
    | cons z r => exact absurd ((h z).mpr List.mem_cons_self) (by simp)
theorem same_col (ws : List Str) (i : Nat) : same (ws.map (lt · i)) = true ↔ ws ≠ [] ∧ ∀ x ∈ ws, ∀ y ∈ ws, lt x i = lt y i := by
  rw [same_iff]
  constructor
  · rintro ⟨h1, h2⟩
    refine ⟨by rintro rfl; exact h1 rfl, fun x hx y hy => h2 _ (List.mem_map_of_mem hx) _ (List.mem_map_of_mem hy)⟩
  · rintro ⟨h1, h2⟩
    refine ⟨by simpa using h1, fun a ha b hb => ?_⟩
    obtain ⟨x, hx, rfl⟩ := List.mem_map.mp ha
    obtain ⟨y, hy, rfl⟩ := List.mem_map.mp hb
    exact h2 x hx y hy
theorem cc_same {ws : List Str} {n : Nat} (h : same (ws.map some) = true) : cc ws n = 0 := by
  obtain ⟨h1, h2⟩ := (same_iff _).mp h
  unfold cc
  rw [List.length_eq_zero_iff, List.filter_eq_nil_iff]
  intro i _
  have : same (ws.map (lt · i)) = true := (same_col ws i).mpr ⟨by simpa using h1, fun x hx y hy => by
    have := h2 (some x) (List.mem_map_of_mem hx) (some y) (List.mem_map_of_mem hy)
    rw [Option.some.inj this]⟩
  rw [this]; simp
theorem ham_true {ws : List Str} {n : Nat} (h1 : ∀ x ∈ ws, n ≤ x.length) (h2 : ∃ x ∈ ws, x.length = n) : HamN true ws (cc ws n) :=
  .inl ⟨rfl, n, h1, h2, by rw [cnt_lett]; split
                           · next h => exact cc_same h
                           · rfl⟩
theorem ham_false {ws : List Str} {n : Nat} (h1 : ∀ x ∈ ws, x.length ≤ n) (h2 : ∃ x ∈ ws, x.length = n) : HamN false ws (cc ws n) :=
  .inr ⟨rfl, n, h1, h2, by rw [cnt_padL]; split
                           · next h => exact cc_same h
                           · rfl⟩

theorem cc_congr {ws ws' : List Str} {n : Nat} (h : ∀ i < n, same (ws.map (lt · i)) = same (ws'.map (lt · i))) : cc ws n = cc ws' n := by
  unfold cc
  congr 1
  refine List.filter_congr fun i hi => ?_
  rw [h i (List.mem_range.mp hi)]
theorem cc_mem {ws ws' : List Str} (n : Nat) (h : ∀ x, x ∈ ws ↔ x ∈ ws') : cc ws n = cc ws' n :=
  cc_congr fun i _ => same_congr fun k => by
    simp only [List.mem_map]
    exact ⟨fun ⟨x, hx, e⟩ => ⟨x, (h x).mp hx, e⟩, fun ⟨x, hx, e⟩ => ⟨x, (h x).mpr hx, e⟩⟩
theorem cc_add (ws : List Str) (a b : Nat) : cc ws (a + b) = cc ws a + ((List.range b).filter fun i => !same (ws.map (lt · (a + i)))).length := by
  unfold cc
  rw [List.range_add, List.filter_append, List.length_append, List.filter_map, List.length_map]
  rfl
theorem lt_none {x : Str} {i : Nat} : lt x i = none ↔ x.length ≤ i := by
  unfold lt; rw [Option.map_eq_none_iff, List.getElem?_eq_none_iff, Array.length_toList]; rfl
theorem lt_some {x : Str} {i : Nat} (h : i < x.length) : lt x i = some ⟨#[x.cps.getD i 0]⟩ := by
  have h' : i < x.cps.size := h
  unfold lt
  have e : x.cps.toList[i]? = some (x.cps.getD i 0) := by
    rw [Array.getElem?_toList, Array.getElem?_eq_getElem h']; simp [Array.getD, h']
  rw [e]; rfl
/-- beyond the shortest every column is mixed -/
theorem cc_tail {ws : List Str} {sh lo : Nat} (h1 : ∃ x ∈ ws, x.length = sh) (h2 : ∃ x ∈ ws, x.length = lo) (hle : sh ≤ lo) : cc ws lo = cc ws sh + (lo - sh) := by
  have e : lo = sh + (lo - sh) := by omega
  rw [e, cc_add, ← e]
  congr 1
  have : (List.range (lo - sh)).filter (fun i => !same (ws.map (lt · (sh + i)))) = List.range (lo - sh) := by
    rw [List.filter_eq_self]
    intro i hi
    have hi := List.mem_range.mp hi
    rw [Bool.not_eq_true', ← Bool.not_eq_true, same_col]
    rintro ⟨_, h⟩
    obtain ⟨x, hx, ex⟩ := h1
    obtain ⟨y, hy, ey⟩ := h2
    have e1 : lt x (sh + i) = none := lt_none.mpr (by omega)
    have e2 := lt_some (x := y) (i := sh + i) (by omega)
    have := h x hx y hy
    rw [e1, e2] at this
    cases this
  rw [this, List.length_range]
theorem cc_zero {ws : List Str} {n : Nat} (hne : ws ≠ []) : cc ws n = 0 ↔ ∀ i < n, ∀ x ∈ ws, ∀ y ∈ ws, lt x i = lt y i := by
  unfold cc
  rw [List.length_eq_zero_iff, List.filter_eq_nil_iff]
  constructor
  · intro h i hi
    have := h i (List.mem_range.mpr hi)
    rw [Bool.not_eq_true', Bool.not_eq_false] at this
    exact ((same_col ws i).mp this).2
  · intro h i hi
    rw [Bool.not_eq_true', Bool.not_eq_false]
    exact (same_col ws i).mpr ⟨hne, h i (List.mem_range.mp hi)⟩
theorem str_ext {x y : Str} (h : x.cps.toList = y.cps.toList) : x = y := by
  cases x; cases y; simp only at h; congr 1; exact Array.ext' h
theorem lt_inj {x y : Str} {i : Nat} (h : lt x i = lt y i) : x.cps.toList[i]? = y.cps.toList[i]? := by
  unfold lt at h
  refine Option.map_injective (fun a b e => ?_) h
  simpa using e
theorem ham0_false {ws : List Str} {lo : Nat} (hne : ws ≠ []) (h1 : ∀ x ∈ ws, x.length ≤ lo) : cc ws lo = 0 ↔ ∀ x ∈ ws, ∀ y ∈ ws, x = y := by
  rw [cc_zero hne]
  constructor
  · intro h x hx y hy
    refine str_ext (List.ext_getElem? fun i => ?_)
    by_cases hi : i < lo
    · exact lt_inj (h i hi x hx y hy)
    · rw [List.getElem?_eq_none (by have := h1 x hx; show x.cps.toList.length ≤ i; rw [Array.length_toList]; have : x.length = x.cps.size := rfl; omega),
        List.getElem?_eq_none (by have := h1 y hy; show y.cps.toList.length ≤ i; rw [Array.length_toList]; have : y.length = y.cps.size := rfl; omega)]
  · intro h i _ x hx y hy
    rw [h x hx y hy]
theorem slice_to {x : Str} {n : Nat} (h : n ≤ x.length) : Txt.slice x none (some (n : Int)) = ⟨(x.cps.toList.take n).toArray⟩ := by
  have := eq_of_beq (slice_closes_toL (x := x) (j := (n : Int)) (by omega) (by omega))
  rw [this]
  simp
theorem ham0_true {ws : List Str} {sh : Nat} (hne : ws ≠ []) (h1 : ∀ x ∈ ws, sh ≤ x.length) : cc ws sh = 0 ↔ ∀ x ∈ ws, ∀ y ∈ ws, Txt.slice x none (some (sh : Int)) = Txt.slice y none (some (sh : Int)) := by
  rw [cc_zero hne]
  constructor
  · intro h x hx y hy
    rw [slice_to (h1 x hx), slice_to (h1 y hy)]
    congr 2
    refine List.ext_getElem? fun i => ?_
    rw [List.getElem?_take, List.getElem?_take]
    split
    · next hi => exact lt_inj (h i hi x hx y hy)
    · rfl
  · intro h i hi x hx y hy
    have e := h x hx y hy
    rw [slice_to (h1 x hx), slice_to (h1 y hy)] at e
    have e' : x.cps.toList.take sh = y.cps.toList.take sh := by simpa using e
    unfold lt
    have g := congrArg (fun l => l[i]?) e'
    simp only [List.getElem?_take, hi, if_true] at g
    rw [g]
theorem lt_app_left {f x : Str} {i : Nat} (h : i < f.length) : lt (f ++ x) i = lt f i := by
  have e : (f ++ x).cps.toList = f.cps.toList ++ x.cps.toList := by show (f.cps ++ x.cps).toList = _; simp
  unfold lt; rw [e, List.getElem?_append_left (by rw [Array.length_toList]; exact h)]
theorem lt_app_right {f x : Str} {i : Nat} : lt (f ++ x) (f.length + i) = lt x i := by
  have e : (f ++ x).cps.toList = f.cps.toList ++ x.cps.toList := by show (f.cps ++ x.cps).toList = _; simp
  unfold lt
  rw [e, List.getElem?_append_right (by rw [Array.length_toList]; exact Nat.le_add_right _ _)]
  congr 2
  rw [Array.length_toList]; show f.length + i - f.length = i; omega
theorem cc_prefix {ws : List Str} {f : Str} {n : Nat} (hne : ws ≠ []) : cc (ws.map (f ++ ·)) (f.length + n) = cc ws n := by
  rw [cc_add]
  have e : cc (ws.map (f ++ ·)) f.length = 0 := by
    rw [cc_zero (by simpa using hne)]
    intro i hi x hx y hy
    obtain ⟨a, _, rfl⟩ := List.mem_map.mp hx
    obtain ⟨b, _, rfl⟩ := List.mem_map.mp hy
    rw [lt_app_left hi, lt_app_left hi]
  rw [e, Nat.zero_add]
  unfold cc
  congr 2
  funext i
  congr 2
  rw [List.map_map]
  exact List.map_congr_left fun x _ => lt_app_right
/-- two words -/
def d2 (x y : Str) : Nat := cc [x, y] (max x.length y.length)
theorem ham_two (x y : Str) : HamN false [x, y] (d2 x y) :=
  ham_false (by intro z hz; simp only [List.mem_cons, List.not_mem_nil, or_false] at hz; rcases hz with rfl | rfl <;> omega)
    (by rcases Nat.le_total x.length y.length with h | h
        · exact ⟨y, by simp, by omega⟩
        · exact ⟨x, by simp, by omega⟩)
theorem same_two (x y : Str) (i : Nat) : same ([x, y].map (lt · i)) = decide (lt x i = lt y i) := by
  rw [Bool.eq_iff_iff, same_col, decide_eq_true_iff]
  constructor
  · rintro ⟨_, h⟩; exact h x (by simp) y (by simp)
  · intro h
    refine ⟨by simp, fun a ha b hb => ?_⟩
    simp only [List.mem_cons, List.not_mem_nil, or_false] at ha hb
    rcases ha with rfl | rfl <;> rcases hb with rfl | rfl <;> simp [h]
theorem d2_eq {x y : Str} {n : Nat} (h1 : x.length ≤ n) (h2 : y.length ≤ n) : d2 x y = ((List.range n).filter fun i => !decide (lt x i = lt y i)).length := by
  have e : n = max x.length y.length + (n - max x.length y.length) := by omega
  have g : cc [x, y] n = d2 x y := by
    rw [e, cc_add]
    unfold d2
    have : (List.range (n - max x.length y.length)).filter (fun i => !same ([x, y].map (lt · (max x.length y.length + i)))) = [] := by
      rw [List.filter_eq_nil_iff]
      intro i _
      rw [same_two, lt_none.mpr (by omega), lt_none.mpr (by omega)]
      simp
    rw [this]; rfl
  rw [← g]
  unfold cc
  congr 2
  funext i
  rw [same_two]
theorem filter_or {α : Type} (p q r : α → Bool) (h : ∀ a, p a = true → q a = true ∨ r a = true) : ∀ l : List α, (l.filter p).length ≤ (l.filter q).length + (l.filter r).length
  | [] => Nat.le_refl _
  | a :: l => by
    have ih := filter_or p q r h l
    simp only [List.filter_cons]
    cases hp : p a
    · cases hq : q a <;> cases hr : r a <;> simp <;> omega
    · rcases h a hp with hq | hr
      · rw [hq]; cases hr : r a <;> simp <;> omega
      · rw [hr]; cases hq : q a <;> simp <;> omega
theorem d2_tri (x y z : Str) : d2 x z ≤ d2 x y + d2 y z := by
  let n := x.length + y.length + z.length
  rw [d2_eq (x := x) (y := z) (n := n) (by omega) (by omega), d2_eq (x := x) (y := y) (n := n) (by omega) (by omega), d2_eq (x := y) (y := z) (n := n) (by omega) (by omega)]
  refine filter_or _ _ _ (fun i hi => ?_) _
  simp only [Bool.not_eq_true', decide_eq_false_iff_not] at hi ⊢
  by_cases h : lt x i = lt y i
  · exact .inr fun h' => hi (h.trans h')
  · exact .inl h
end Mine
end

section
open PySem PySem.W PySem.Calls PyProof.Rows PySem.Spec
namespace Mine
set_option maxRecDepth 100000
set_option maxHeartbeats 0
local macro_rules | `(tactic| walk_at "mine stop") => `(tactic| first
  | (with_reducible show wpAny _ _ (eval (Expr.Call (Expr.Attribute _ _ _) [Expr.Starred _ _] _ _) _) _ _ _)
  | (with_reducible show wpAny _ _ (callWith _ (Value.ref _) _ (backTo _ (starEach [Expr.Starred _ _] _)) _) _ _ _)
  | (with_reducible show StarOf _ _ _ _ _ _))
local macro_rules | `(tactic| walk_at "mine go") => `(tactic| repeat' ((fail_if_success (walk_at "mine stop")); (first | walk1 | (dsimp only; walk1))))
local macro_rules | `(tactic| k_mem) => `(tactic| first | ktr_member | exact List.mem_cons_self | (refine' List.mem_cons_of_mem _ ?_; k_mem))
local macro_rules | `(tactic| walk_at "eval Name") => `(tactic| ((with_reducible show wpAny _ _ (eval (Expr.Name _ _) (compEnvC _ _ _ _)) _ _ _); (first
  | (refine' cn_global ?k1 ?k2 ?k3 ?k4 ?_ ?k5 ?k6 ?k7 ?k8; (case k1 => k_asm); (case k2 => k_asm); (case k3 => k_asm); (case k4 => k_is); (case k5 => rfl); (case k6 => rfl); (case k7 => rfl); (case k8 => decide))
  | (refine' cn_built ?k1 ?k2 ?k3 ?k4 ?k9 ?k10 ?_ ?k5 ?k11 ?k6 ?k7 ?k8; (case k1 => k_asm); (case k2 => k_asm); (case k3 => k_asm); (case k4 => k_is); (case k9 => boot_by_name); (case k10 => decide); (case k5 => rfl); (case k11 => rfl); (case k6 => rfl); (case k7 => rfl); (case k8 => decide)))))

local macro_rules | `(tactic| walk_at "eval ListComp") => `(tactic| ((with_reducible show wpAny _ _ (eval (Expr.ListComp _ [Comprehension.mk _ _ [] 0] _ _) _) _ _ _); (k_dflt (refine LCg.ListComp_U (F₀ := by k_asm) (by with_unfolding_all rfl) (by decide) (by rfl) (by decide) (by rfl) ?_))))
local macro_rules | `(tactic| walk_at "eval ListComp") => `(tactic| ((with_reducible show wpAny _ _ (eval (Expr.ListComp _ [Comprehension.mk _ (Expr.Name _ _) [_] 0] _ _) _) _ _ _); (k_dflt (refine LCt.ListComp_T (F₀ := by k_asm) (by with_unfolding_all rfl) (by decide) (by rfl) (by decide) (by rfl) ?_))))
local macro_rules | `(tactic| walk_at "eval ListComp") => `(tactic| ((with_reducible show wpAny _ _ (eval (Expr.ListComp _ [Comprehension.mk _ (Expr.Call _ _ _ _) [_] 0] _ _) _) _ _ _); (k_dflt (refine ListComp_C (by k_asm) (by with_unfolding_all rfl) (fun _ => rfl) (fun _ => rfl) (by rfl) (by decide) (by rfl) ?_))))

section
variable {w : World} {A : Around} {mg mb : Str → Option Value} {p : Program} {loose : List Str} {g : Heap} {L : Addr} {m : Str → Option Value} {news : List (Addr × Obj)} {s : Shared} {E : Value → Shared → Prop}


abbrev lawM (x x₂ : Addr) (wi lo : Nat) (t2 t3 : Tok) (m : Str → Option Value) : Str → Option Value := fun y => if y = Str.ofString "plain" then some (.ref x) else if y = Str.ofString "cut" then some (.ref x₂) else if y = Str.ofString "within" then some (.int wi t3) else if y = Str.ofString "longest" then some (.int lo t2) else m y

/-- the first test -/
theorem seg4 {lw : Addr} {vs : List Value} {ws : List Str} {sh lo pl wi : Nat} {t1 t2 t3 : Tok} {o1' o2 o3 o4 : Obj} {x dx x₂ dx₂ bm : Addr} {ob : Obj} {hs ts tq hs₂ ts₂ tq₂} {ps : Array Value} {Q : Flow → Shared → Prop} (hh : A.handled = none) (hroom : A.depth + 30 < recursionLimit) (hun : A.units < cLine)
    (F : Fr g L s.heap (fun y => if y = Str.ofString "plain" then some (.ref x) else if y = Str.ofString "cut" then some (.ref x₂) else if y = Str.ofString "within" then some (.int wi t3) else if y = Str.ofString "longest" then some (.int lo t2) else m y)) (X : Amb w mg mb p loose g) (BM : BMod g mainGlobals mg bm ob)
    (N : News g L s.heap ((167, tabObj ps) :: (x₂, instObj 173 dx₂) :: (dx₂, hamD hs₂ ts₂ tq₂ true) :: (x, instObj 173 dx) :: (dx, hamD hs ts tq false) :: (L + 1 + 1 + 1 + 1, o4) :: (L + 1 + 1 + 1, o3) :: (L + 1 + 1, o2) :: (L + 1, o1') :: (lw, LCg.lst vs) :: news))
    (hne : ∀ p ∈ (x₂, instObj 173 dx₂) :: (dx₂, hamD hs₂ ts₂ tq₂ true) :: (x, instObj 173 dx) :: (dx, hamD hs ts tq false) :: (L + 1 + 1 + 1 + 1, o4) :: (L + 1 + 1 + 1, o3) :: (L + 1 + 1, o2) :: (L + 1, o1') :: (lw, LCg.lst vs) :: news, p.1 ≠ 167) (htr : TriplesOk ps.toList) (hG : AllBare s.gens)
    (hs2 : o2.data = .cell (some (.ref lw))) (hs3 : o3.data = .cell (some (.int sh t1))) (hv : StrsAre vs ws) (hsz : 2 ≤ vs.length ∧ vs.length ≤ 4) (hw : ∀ x ∈ ws, 0 < x.length ∧ x.length ≤ 7)
    (hsh7 : sh ≤ 7) (hlo7 : lo ≤ 7) (hpl : pl + sh = wi + lo) (hwi : wi ≤ sh) (hP : HamN false ws pl) (hC : HamN true ws wi)
    (h : ∀ s' ps', Fr g L s'.heap (fun y => if y = Str.ofString "plain" then some (.ref x) else if y = Str.ofString "cut" then some (.ref x₂) else if y = Str.ofString "within" then some (.int wi t3) else if y = Str.ofString "longest" then some (.int lo t2) else m y) →
      News g L s'.heap ((167, tabObj ps') :: (x₂, instObj 173 dx₂) :: (dx₂, hamD hs₂ ts₂ tq₂ true) :: (x, instObj 173 dx) :: (dx, hamD hs ts tq false) :: (L + 1 + 1 + 1 + 1, o4) :: (L + 1 + 1 + 1, o3) :: (L + 1 + 1, o2) :: (L + 1, o1') :: (lw, LCg.lst vs) :: news) →
      TriplesOk ps'.toList → s'.os = s.os → AllBare s'.gens → Q .next s') :
    wpAny (model pg w) A (exec (lawS w 4) (lawEnv w L)) Q E s := by
  unfold lawEnv
  conv in lawS _ _ => whnf
  repeat (conv in lawFd _ => whnf)
  dsimp only
  obtain ⟨KX, TX⟩ := X
  have hw' : ∀ x ∈ ws, 0 < x.length ∧ x.length < 1000 := fun x hx => ⟨(hw x hx).1, by have := (hw x hx).2; omega⟩
  walk_at "mine go"
  refine starMethod_ ?_
  walk_at "mine go"
  (with_reducible rename Fr _ _ _ _ => F₁)
  (with_reducible rename News _ _ _ _ => N₁)
  refine' starM (K := hd.heap_39 w.params) (f := 65) (self := .ref x) ?hf ?_
  case hf => k_is
  walk_at "mine go"
  refine star_lst_G (a := lw) (vs := vs) F₁ N₁ (by k_mem) (by rw [sizeLine_eq]; omega) fun h₂ F₂ N₂ => ⟨⟨(N₂ _ (by k_mem)).1, KX.keeps F₂.keep⟩, ?_⟩
  refine dist_ct (ps := ps) hh ?_ F₂ ⟨KX, TX⟩ BM (news_sub N₂ (sub_drop sub_refl)) hne htr hG (by k_mem) (by k_mem) hv hsz hw' hP fun s3 ps3 t3 F3 N3 ht3 hos3 hG3 => ?_
  · (try simp only [depth_deeper]); omega
  (try clear F₁ N₁); clear F₂ N₂
  walk_at "mine go"
  · exfalso; omega
  refine starMethod_ ?_
  walk_at "mine go"
  (with_reducible rename Fr _ _ _ _ => F₁)
  (with_reducible rename News _ _ _ _ => N₁)
  refine' starM (K := hd.heap_39 w.params) (f := 65) (self := .ref x₂) ?hf ?_
  case hf => k_is
  walk_at "mine go"
  refine star_lst_G (a := lw) (vs := vs) F₁ N₁ (by k_mem) (by rw [sizeLine_eq]; omega) fun h₂ F₂ N₂ => ⟨⟨(N₂ _ (by k_mem)).1, KX.keeps F₂.keep⟩, ?_⟩
  refine dist_ct (ps := ps3) hh ?_ F₂ ⟨KX, TX⟩ BM (news_sub N₂ (sub_drop sub_refl)) hne ht3 hG3 (by k_mem) (by k_mem) hv hsz hw' hC fun s4 ps4 t4 F4 N4 ht4 hos4 hG4 => ?_
  · (try simp only [depth_deeper]); omega
  (try clear F₁ N₁); clear F₂ N₂
  walk_at "mine go"
  · exfalso; omega
  exact h _ ps4 F4 N4 ht4 (hos4.trans hos3) hG4
end
end Mine
end

section
open PySem PySem.W PySem.Calls PyProof.Rows PySem.Spec
namespace Mine
set_option maxRecDepth 100000
set_option maxHeartbeats 0
local macro_rules | `(tactic| walk_at "mine stop") => `(tactic| first
  | (with_reducible show wpAny _ _ (eval (Expr.Call (Expr.Attribute _ _ _) [Expr.Starred _ _] _ _) _) _ _ _)
  | (with_reducible show wpAny _ _ (callWith _ (Value.ref _) _ (backTo _ (starEach [Expr.Starred _ _] _)) _) _ _ _)
  | (with_reducible show StarOf _ _ _ _ _ _))
local macro_rules | `(tactic| walk_at "mine go") => `(tactic| repeat' ((fail_if_success (walk_at "mine stop")); (first | walk1 | (dsimp only; walk1))))
local macro_rules | `(tactic| k_mem) => `(tactic| first | ktr_member | exact List.mem_cons_self | (refine' List.mem_cons_of_mem _ ?_; k_mem))
local macro_rules | `(tactic| walk_at "eval Name") => `(tactic| ((with_reducible show wpAny _ _ (eval (Expr.Name _ _) (compEnvC _ _ _ _)) _ _ _); (first
  | (refine' cn_global ?k1 ?k2 ?k3 ?k4 ?_ ?k5 ?k6 ?k7 ?k8; (case k1 => k_asm); (case k2 => k_asm); (case k3 => k_asm); (case k4 => k_is); (case k5 => rfl); (case k6 => rfl); (case k7 => rfl); (case k8 => decide))
  | (refine' cn_built ?k1 ?k2 ?k3 ?k4 ?k9 ?k10 ?_ ?k5 ?k11 ?k6 ?k7 ?k8; (case k1 => k_asm); (case k2 => k_asm); (case k3 => k_asm); (case k4 => k_is); (case k9 => boot_by_name); (case k10 => decide); (case k5 => rfl); (case k11 => rfl); (case k6 => rfl); (case k7 => rfl); (case k8 => decide)))))

local macro_rules | `(tactic| walk_at "eval ListComp") => `(tactic| ((with_reducible show wpAny _ _ (eval (Expr.ListComp _ [Comprehension.mk _ _ [] 0] _ _) _) _ _ _); (k_dflt (refine LCg.ListComp_U (F₀ := by k_asm) (by with_unfolding_all rfl) (by decide) (by rfl) (by decide) (by rfl) ?_))))
local macro_rules | `(tactic| walk_at "eval ListComp") => `(tactic| ((with_reducible show wpAny _ _ (eval (Expr.ListComp _ [Comprehension.mk _ (Expr.Name _ _) [_] 0] _ _) _) _ _ _); (k_dflt (refine LCt.ListComp_T (F₀ := by k_asm) (by with_unfolding_all rfl) (by decide) (by rfl) (by decide) (by rfl) ?_))))
local macro_rules | `(tactic| walk_at "eval ListComp") => `(tactic| ((with_reducible show wpAny _ _ (eval (Expr.ListComp _ [Comprehension.mk _ (Expr.Call _ _ _ _) [_] 0] _ _) _) _ _ _); (k_dflt (refine ListComp_C (by k_asm) (by with_unfolding_all rfl) (fun _ => rfl) (fun _ => rfl) (by rfl) (by decide) (by rfl) ?_))))

theorem strs_reverse {vs : List Value} {ws : List Str} (h : StrsAre vs ws) : StrsAre vs.reverse ws.reverse := by
  induction h with
  | nil => exact .nil
  | cons y t _ ih => rw [List.reverse_cons, List.reverse_cons]; exact strs_append ih (.cons y t .nil)
section
variable {w : World} {A : Around} {mg mb : Str → Option Value} {p : Program} {loose : List Str} {g : Heap} {L : Addr} {m : Str → Option Value} {news : List (Addr × Obj)} {s : Shared} {E : Value → Shared → Prop}



/-- the second test -/
theorem seg5 {lw : Addr} {vs : List Value} {ws : List Str} {sh lo pl wi : Nat} {t1 t2 t3 : Tok} {o1' o2 o3 o4 : Obj} {x dx x₂ dx₂ bm : Addr} {ob : Obj} {hs ts tq hs₂ ts₂ tq₂} {ps : Array Value} {Q : Flow → Shared → Prop}  (hh : A.handled = none) (hroom : A.depth + 30 < recursionLimit) (hun : A.units < cLine)
    (F : Fr g L s.heap (fun y => if y = Str.ofString "plain" then some (.ref x) else if y = Str.ofString "cut" then some (.ref x₂) else if y = Str.ofString "within" then some (.int wi t3) else if y = Str.ofString "longest" then some (.int lo t2) else m y)) (X : Amb w mg mb p loose g) (BM : BMod g mainGlobals mg bm ob)
    (N : News g L s.heap ((167, tabObj ps) :: (x₂, instObj 173 dx₂) :: (dx₂, hamD hs₂ ts₂ tq₂ true) :: (x, instObj 173 dx) :: (dx, hamD hs ts tq false) :: (L + 1 + 1 + 1 + 1, o4) :: (L + 1 + 1 + 1, o3) :: (L + 1 + 1, o2) :: (L + 1, o1') :: (lw, LCg.lst vs) :: news))
    (hne : ∀ p ∈ (x₂, instObj 173 dx₂) :: (dx₂, hamD hs₂ ts₂ tq₂ true) :: (x, instObj 173 dx) :: (dx, hamD hs ts tq false) :: (L + 1 + 1 + 1 + 1, o4) :: (L + 1 + 1 + 1, o3) :: (L + 1 + 1, o2) :: (L + 1, o1') :: (lw, LCg.lst vs) :: news, p.1 ≠ 167) (htr : TriplesOk ps.toList) (hG : AllBare s.gens)
    (hs2 : o2.data = .cell (some (.ref lw))) (hs3 : o3.data = .cell (some (.int sh t1))) (hv : StrsAre vs ws) (hsz : 2 ≤ vs.length ∧ vs.length ≤ 4) (hw : ∀ x ∈ ws, 0 < x.length ∧ x.length ≤ 7)
    (hlo7 : lo ≤ 7) (hP : HamN false ws pl) (hR : HamN false ws.reverse pl) (most : ∀ x ∈ ws, x.length ≤ lo) (hit : ∃ x ∈ ws, x.length = lo)
    (h : ∀ s' ps', Fr g L s'.heap (fun y => if y = Str.ofString "plain" then some (.ref x) else if y = Str.ofString "cut" then some (.ref x₂) else if y = Str.ofString "within" then some (.int wi t3) else if y = Str.ofString "longest" then some (.int lo t2) else m y) → News g L s'.heap ((167, tabObj ps') :: (x₂, instObj 173 dx₂) :: (dx₂, hamD hs₂ ts₂ tq₂ true) :: (x, instObj 173 dx) :: (dx, hamD hs ts tq false) :: (L + 1 + 1 + 1 + 1, o4) :: (L + 1 + 1 + 1, o3) :: (L + 1 + 1, o2) :: (L + 1, o1') :: (lw, LCg.lst vs) :: news) → TriplesOk ps'.toList → s'.os = s.os → AllBare s'.gens → Q .next s') :
    wpAny (model pg w) A (exec (lawS w 5) (lawEnv w L)) Q E s := by
  unfold lawEnv
  conv in lawS _ _ => whnf
  repeat (conv in lawFd _ => whnf)
  dsimp only
  obtain ⟨KX, TX⟩ := X
  have hw' : ∀ x ∈ ws, 0 < x.length ∧ x.length < 1000 := fun x hx => ⟨(hw x hx).1, by have := (hw x hx).2; omega⟩
  walk_at "mine go"
  refine starMethod_ ?_
  walk_at "mine go"
  (with_reducible rename Fr _ _ _ _ => F₁)
  (with_reducible rename News _ _ _ _ => N₁)
  refine' starM (K := hd.heap_39 w.params) (f := 65) (self := .ref x) ?hf ?_
  case hf => k_is
  walk_at "mine go"
  clear F₁ N₁
  (with_reducible rename Fr _ _ _ _ => F₂)
  (with_reducible rename News _ _ _ _ => N₂)
  dsimp only at F₂ N₂ ⊢
  rw [krv_pick] at N₂
  refine star_lst_G (vs := vs.reverse) (c := 0) F₂ N₂ List.mem_cons_self (by rw [sizeLine_eq, List.length_reverse]; omega) fun h₃ F₃ N₃ => ⟨⟨(N₃ _ (List.mem_cons_of_mem _ List.mem_cons_self)).1, KX.keeps F₃.keep⟩, ?_⟩
  refine dist_ct (ps := ps) hh ?_ F₃ ⟨KX, TX⟩ BM (news_sub N₃ (sub_drop (sub_drop sub_refl))) hne htr hG (by k_mem) (by k_mem) (strs_reverse hv) (by rw [List.length_reverse]; exact hsz) (fun x hx => hw' x (List.mem_reverse.mp hx)) hR fun s3 ps3 t3 F3 N3 ht3 hos3 hG3 => ?_
  · (try simp only [depth_deeper]); omega
  clear F₂ N₂ F₃ N₃
  walk_at "mine go"
  refine starMethod_ ?_
  walk_at "mine go"
  (with_reducible rename Fr _ _ _ _ => F₁)
  (with_reducible rename News _ _ _ _ => N₁)
  refine' starM (K := hd.heap_39 w.params) (f := 65) (self := .ref x) ?hf ?_
  case hf => k_is
  walk_at "mine go"
  refine star_lst_G (a := lw) (vs := vs) F₁ N₁ (by k_mem) (by rw [sizeLine_eq]; omega) fun h₂ F₂ N₂ => ⟨⟨(N₂ _ (by k_mem)).1, KX.keeps F₂.keep⟩, ?_⟩
  refine dist_ct (ps := ps3) hh ?_ F₂ ⟨KX, TX⟩ BM (news_sub N₂ (sub_drop sub_refl)) hne ht3 hG3 (by k_mem) (by k_mem) hv hsz hw' hP fun s4 ps4 t4 F4 N4 ht4 hos4 hG4 => ?_
  · (try simp only [depth_deeper]); omega
  (try clear F₁ N₁); clear F₂ N₂
  walk_at "mine go"
  · exfalso; omega
  walk_at "mine go"
  refine starMethod_ ?_
  walk_at "mine go"
  (with_reducible rename Fr _ _ _ _ => F₁)
  (with_reducible rename News _ _ _ _ => N₁)
  refine' starM (K := hd.heap_39 w.params) (f := 72) (self := .ref x) ?hf ?_
  case hf => k_is
  walk_at "mine go"
  refine star_lst_G (a := lw) (vs := vs) F₁ N₁ (by k_mem) (by rw [sizeLine_eq]; omega) fun h₂ F₂ N₂ => ⟨⟨(N₂ _ (by k_mem)).1, KX.keeps F₂.keep⟩, ?_⟩
  refine sim_ct (n := lo) (ps := ps4) hh ?_ F₂ ⟨KX, TX⟩ BM (news_sub N₂ (sub_drop sub_refl)) hne ht4 hG4 (by k_mem) (by k_mem) hv hsz hw' hP most hit fun s5 ps5 t5 F5 N5 ht5 hos5 hG5 => ?_
  · (try simp only [depth_deeper]); omega
  (try clear F₁ N₁); clear F₂ N₂
  walk_at "mine go"
  refine starMethod_ ?_
  walk_at "mine go"
  (with_reducible rename Fr _ _ _ _ => F₁)
  (with_reducible rename News _ _ _ _ => N₁)
  refine' starM (K := hd.heap_39 w.params) (f := 65) (self := .ref x) ?hf ?_
  case hf => k_is
  walk_at "mine go"
  refine star_lst_G (a := lw) (vs := vs) F₁ N₁ (by k_mem) (by rw [sizeLine_eq]; omega) fun h₂ F₂ N₂ => ⟨⟨(N₂ _ (by k_mem)).1, KX.keeps F₂.keep⟩, ?_⟩
  refine dist_ct (ps := ps5) hh ?_ F₂ ⟨KX, TX⟩ BM (news_sub N₂ (sub_drop sub_refl)) hne ht5 hG5 (by k_mem) (by k_mem) hv hsz hw' hP fun s6 ps6 t6 F6 N6 ht6 hos6 hG6 => ?_
  · (try simp only [depth_deeper]); omega
  (try clear F₁ N₁); clear F₂ N₂
  walk_at "mine go"
  · exfalso; omega
  exact h _ ps6 F6 N6 ht6 (hos6.trans (hos5.trans (hos4.trans hos3))) hG6

end
end Mine
end

section
open PySem PySem.W PySem.Calls PyProof.Rows PySem.Spec
namespace Mine
set_option maxRecDepth 100000
set_option maxHeartbeats 0
local macro_rules | `(tactic| walk_at "mine stop") => `(tactic| first
  | (with_reducible show wpAny _ _ (storeName _ (Str.ofString "first") _) _ _ _))
local macro_rules | `(tactic| walk_at "mine go") => `(tactic| repeat' ((fail_if_success (walk_at "mine stop")); (first | walk1 | (dsimp only; walk1))))
local macro_rules | `(tactic| k_mem) => `(tactic| first | ktr_member | exact List.mem_cons_self | (refine' List.mem_cons_of_mem _ ?_; k_mem))
local macro_rules | `(tactic| walk_at "eval Name") => `(tactic| ((with_reducible show wpAny _ _ (eval (Expr.Name _ _) (compEnvC _ _ _ _)) _ _ _); (first
  | (refine' cn_global ?k1 ?k2 ?k3 ?k4 ?_ ?k5 ?k6 ?k7 ?k8; (case k1 => k_asm); (case k2 => k_asm); (case k3 => k_asm); (case k4 => k_is); (case k5 => rfl); (case k6 => rfl); (case k7 => rfl); (case k8 => decide))
  | (refine' cn_built ?k1 ?k2 ?k3 ?k4 ?k9 ?k10 ?_ ?k5 ?k11 ?k6 ?k7 ?k8; (case k1 => k_asm); (case k2 => k_asm); (case k3 => k_asm); (case k4 => k_is); (case k9 => boot_by_name); (case k10 => decide); (case k5 => rfl); (case k11 => rfl); (case k6 => rfl); (case k7 => rfl); (case k8 => decide)))))

local macro_rules | `(tactic| walk_at "eval ListComp") => `(tactic| ((with_reducible show wpAny _ _ (eval (Expr.ListComp _ [Comprehension.mk _ _ [] 0] _ _) _) _ _ _); (k_dflt (refine LCg.ListComp_U (F₀ := by k_asm) (by with_unfolding_all rfl) (by decide) (by rfl) (by decide) (by rfl) ?_))))
local macro_rules | `(tactic| walk_at "eval ListComp") => `(tactic| ((with_reducible show wpAny _ _ (eval (Expr.ListComp _ [Comprehension.mk _ (Expr.Name _ _) [_] 0] _ _) _) _ _ _); (k_dflt (refine LCt.ListComp_T (F₀ := by k_asm) (by with_unfolding_all rfl) (by decide) (by rfl) (by decide) (by rfl) ?_))))
local macro_rules | `(tactic| walk_at "eval ListComp") => `(tactic| ((with_reducible show wpAny _ _ (eval (Expr.ListComp _ [Comprehension.mk _ (Expr.Call _ _ _ _) [_] 0] _ _) _) _ _ _); (k_dflt (refine ListComp_C (by k_asm) (by with_unfolding_all rfl) (fun _ => rfl) (fun _ => rfl) (by rfl) (by decide) (by rfl) ?_))))

section
variable {w : World} {A : Around} {mg mb : Str → Option Value} {p : Program} {loose : List Str} {g : Heap} {L : Addr} {m : Str → Option Value} {news : List (Addr × Obj)} {s : Shared} {E : Value → Shared → Prop}



/-- the prefix -/
theorem seg6 {lw : Addr} {vs : List Value} {ws : List Str} {sh lo pl wi : Nat} {t1 t2 t3 : Tok} {o1' o2 o3 o4 : Obj} {x dx x₂ dx₂ bm : Addr} {ob : Obj} {hs ts tq hs₂ ts₂ tq₂} {ps : Array Value} {Q : Flow → Shared → Prop}  (hh : A.handled = none) (hroom : A.depth + 30 < recursionLimit) (hun : A.units < cLine)
    (F : Fr g L s.heap (fun y => if y = Str.ofString "plain" then some (.ref x) else if y = Str.ofString "cut" then some (.ref x₂) else if y = Str.ofString "within" then some (.int wi t3) else if y = Str.ofString "longest" then some (.int lo t2) else m y)) (X : Amb w mg mb p loose g) (BM : BMod g mainGlobals mg bm ob)
    (N : News g L s.heap ((167, tabObj ps) :: (x₂, instObj 173 dx₂) :: (dx₂, hamD hs₂ ts₂ tq₂ true) :: (x, instObj 173 dx) :: (dx, hamD hs ts tq false) :: (L + 1 + 1 + 1 + 1, o4) :: (L + 1 + 1 + 1, o3) :: (L + 1 + 1, o2) :: (L + 1, o1') :: (lw, LCg.lst vs) :: news))
    (hne : ∀ p ∈ (x₂, instObj 173 dx₂) :: (dx₂, hamD hs₂ ts₂ tq₂ true) :: (x, instObj 173 dx) :: (dx, hamD hs ts tq false) :: (L + 1 + 1 + 1 + 1, o4) :: (L + 1 + 1 + 1, o3) :: (L + 1 + 1, o2) :: (L + 1, o1') :: (lw, LCg.lst vs) :: news, p.1 ≠ 167) (htr : TriplesOk ps.toList) (hG : AllBare s.gens)
    (hs2 : o2.data = .cell (some (.ref lw))) (hs3 : o3.data = .cell (some (.int sh t1))) (hv : StrsAre vs ws) (hsz : 2 ≤ vs.length ∧ vs.length ≤ 4) (hw : ∀ x ∈ ws, 0 < x.length ∧ x.length ≤ 7)
    (hs4 : o4.data = .cell none) (hnc : ∀ p ∈ (lw, LCg.lst vs) :: news, Apart L p.1) (hdx4 : L + 1 + 1 + 1 + 1 < dx ∧ dx < x ∧ x < dx₂ ∧ dx₂ < x₂)
    (h : ∀ h' tk (f : Str) tf o4', o4'.data = .cell (some (.str f tf)) → f.length ≤ 8 → Fr g L h' (fun y => if y = Str.ofString "plain" then some (.ref x) else if y = Str.ofString "cut" then some (.ref x₂) else if y = Str.ofString "within" then some (.int wi t3) else if y = Str.ofString "longest" then some (.int lo t2) else m y) → News g L h' ((167, tabObj ps) :: (x₂, instObj 173 dx₂) :: (dx₂, hamD hs₂ ts₂ tq₂ true) :: (x, instObj 173 dx) :: (dx, hamD hs ts tq false) :: (L + 1 + 1 + 1 + 1, o4') :: (L + 1 + 1 + 1, o3) :: (L + 1 + 1, o2) :: (L + 1, o1') :: (lw, LCg.lst vs) :: news) → Q .next { s with heap := h', toks := tk }) :
    wpAny (model pg w) A (exec (lawS w 6) (lawEnv w L)) Q E s := by
  unfold lawEnv
  conv in lawS _ _ => whnf
  repeat (conv in lawFd _ => whnf)
  dsimp only
  obtain ⟨KX, TX⟩ := X
  have hw' : ∀ x ∈ ws, 0 < x.length ∧ x.length < 1000 := fun x hx => ⟨(hw x hx).1, by have := (hw x hx).2; omega⟩
  have hLs : s.heap.IsList lw vs.toArray := ⟨_, (N (lw, LCg.lst vs) (by k_mem)).1, rfl, _, rfl⟩
  have hvl := hv.len_eq
  have hd1m : ws.getD (Int.toNat 1) Str.empty ∈ ws := by
    have h0 : 1 < ws.length := by omega
    show ws.getD 1 Str.empty ∈ ws
    rw [List.getD_eq_getElem?_getD, List.getElem?_eq_getElem h0]; exact List.getElem_mem h0
  have hd1 := (hw _ hd1m).2
  walk_at "mine go"
  (with_reducible rename Fr _ _ _ _ => F₁)
  (with_reducible rename News _ _ _ _ => N₁)
  have hf8 : (Txt.slice (ws.getD (Int.toNat 1) Str.empty) none (some 3) ++ Str.ofString "a").length ≤ 8 := by
    rw [Str.length_append]
    have h1 := Txt.slice_le (ws.getD (Int.toNat 1) Str.empty) none (some 3)
    have h2 : (Str.ofString "a").length = 1 := by decide
    omega
  refine store_cell_N (pre := [(167, tabObj ps), (x₂, instObj 173 dx₂), (dx₂, hamD hs₂ ts₂ tq₂ true), (x, instObj 173 dx), (dx, hamD hs ts tq false)]) (post := (L + 1 + 1 + 1, o3) :: (L + 1 + 1, o2) :: (L + 1, o1') :: (lw, LCg.lst vs) :: news) F₁ N₁ (fun p hp => ?_) hs4 rfl rfl rfl fun h₂ o4' ho4 F₂ N₂ => ?_
  · obtain ⟨d1, d2, d3, d4⟩ := hdx4
    simp only [List.mem_append, List.mem_cons, List.not_mem_nil, or_false] at hp
    rcases hp with (rfl | rfl | rfl | rfl | rfl) | rfl | rfl | rfl | rfl | hp
    · exact fun e => hne (L + 1 + 1 + 1 + 1, o4) (by k_mem) e.symm
    · exact Nat.ne_of_gt (Nat.lt_trans (Nat.lt_trans (Nat.lt_trans d1 d2) d3) d4)
    · exact Nat.ne_of_gt (Nat.lt_trans (Nat.lt_trans d1 d2) d3)
    · exact Nat.ne_of_gt (Nat.lt_trans d1 d2)
    · exact Nat.ne_of_gt d1
    · exact Nat.ne_of_lt (by omega)
    · exact Nat.ne_of_lt (by omega)
    · exact Nat.ne_of_lt (by omega)
    · exact (hnc (lw, LCg.lst vs) List.mem_cons_self).2.2.2
    · exact (hnc p (List.mem_cons_of_mem _ hp)).2.2.2
  exact h h₂ _ _ _ o4' ho4 hf8 F₂ N₂

end
end Mine
end

section
open PySem PySem.W PySem.Calls PyProof.Rows PySem.Spec
namespace Mine
set_option maxRecDepth 100000
set_option maxHeartbeats 0
local macro_rules | `(tactic| walk_at "mine stop") => `(tactic| first
  | (with_reducible show wpAny _ _ (eval (Expr.Call (Expr.Attribute _ _ _) [Expr.Starred _ _] _ _) _) _ _ _)
  | (with_reducible show wpAny _ _ (callWith _ (Value.ref _) _ (backTo _ (starEach [Expr.Starred _ _] _)) _) _ _ _)
  | (with_reducible show StarOf _ _ _ _ _ _))
local macro_rules | `(tactic| walk_at "mine go") => `(tactic| repeat' ((fail_if_success (walk_at "mine stop")); (first | walk1 | (dsimp only; walk1))))
local macro_rules | `(tactic| k_mem) => `(tactic| first | ktr_member | exact List.mem_cons_self | (refine' List.mem_cons_of_mem _ ?_; k_mem))
local macro_rules | `(tactic| walk_at "eval Name") => `(tactic| ((with_reducible show wpAny _ _ (eval (Expr.Name _ _) (compEnvC _ _ _ _)) _ _ _); (first
  | (refine' cn_global ?k1 ?k2 ?k3 ?k4 ?_ ?k5 ?k6 ?k7 ?k8; (case k1 => k_asm); (case k2 => k_asm); (case k3 => k_asm); (case k4 => k_is); (case k5 => rfl); (case k6 => rfl); (case k7 => rfl); (case k8 => decide))
  | (refine' cn_built ?k1 ?k2 ?k3 ?k4 ?k9 ?k10 ?_ ?k5 ?k11 ?k6 ?k7 ?k8; (case k1 => k_asm); (case k2 => k_asm); (case k3 => k_asm); (case k4 => k_is); (case k9 => boot_by_name); (case k10 => decide); (case k5 => rfl); (case k11 => rfl); (case k6 => rfl); (case k7 => rfl); (case k8 => decide)))))

local macro_rules | `(tactic| walk_at "eval ListComp") => `(tactic| ((with_reducible show wpAny _ _ (eval (Expr.ListComp _ [Comprehension.mk _ _ [] 0] _ _) _) _ _ _); (k_dflt (refine LCg.ListComp_U (F₀ := by k_asm) (by with_unfolding_all rfl) (by decide) (by rfl) (by decide) (by rfl) ?_))))
local macro_rules | `(tactic| walk_at "eval ListComp") => `(tactic| ((with_reducible show wpAny _ _ (eval (Expr.ListComp _ [Comprehension.mk _ (Expr.Name _ _) [_] 0] _ _) _) _ _ _); (k_dflt (refine LCt.ListComp_T (F₀ := by k_asm) (by with_unfolding_all rfl) (by decide) (by rfl) (by decide) (by rfl) ?_))))
local macro_rules | `(tactic| walk_at "eval ListComp") => `(tactic| ((with_reducible show wpAny _ _ (eval (Expr.ListComp _ [Comprehension.mk _ (Expr.Call _ _ _ _) [_] 0] _ _) _) _ _ _); (k_dflt (refine ListComp_C (by k_asm) (by with_unfolding_all rfl) (fun _ => rfl) (fun _ => rfl) (by rfl) (by decide) (by rfl) ?_))))

/-- prefixed words made so far -/
def Pres (base : List (Addr × Obj)) (ws : List Str) (f : Str) (i : Nat) (ys : List Value) (nn : List (Addr × Obj)) : Prop := (∀ p ∈ base, p ∈ nn) ∧ StrsAre ys ((ws.take i).map fun x => f ++ x)
theorem Pres.start {base : List (Addr × Obj)} {ws : List Str} {f : Str} : Pres base ws f 0 [] base := ⟨fun _ h => h, .nil⟩
theorem Pres.step {base : List (Addr × Obj)} {ws : List Str} {f : Str} {i : Nat} {ys : List Value} {nn nn' : List (Addr × Obj)} {y : Str} {t : Tok} (h : Pres base ws f i ys nn) (hy : ws[i]? = some y) (hs : ∀ p ∈ nn, p ∈ nn') : Pres base ws f (i + 1) (ys ++ [.str (f ++ y) t]) nn' :=
  ⟨fun p hp => hs p (h.1 p hp), by rw [List.take_add_one, hy, List.map_append]; exact strs_append h.2 (.cons _ _ .nil)⟩
section
variable {w : World} {A : Around} {mg mb : Str → Option Value} {p : Program} {loose : List Str} {g : Heap} {L : Addr} {m : Str → Option Value} {news : List (Addr × Obj)} {s : Shared} {E : Value → Shared → Prop}



/-- the third test -/
theorem seg7 {lw : Addr} {vs : List Value} {ws : List Str} {sh lo pl wi : Nat} {t1 t2 t3 : Tok} {o1' o2 o3 o4 : Obj} {x dx x₂ dx₂ bm : Addr} {ob : Obj} {hs ts tq hs₂ ts₂ tq₂} {ps : Array Value} {Q : Flow → Shared → Prop} {f : Str} {tf : Tok} (hh : A.handled = none) (hroom : A.depth + 30 < recursionLimit) (hun : A.units < cLine)
    (F : Fr g L s.heap (fun y => if y = Str.ofString "plain" then some (.ref x) else if y = Str.ofString "cut" then some (.ref x₂) else if y = Str.ofString "within" then some (.int wi t3) else if y = Str.ofString "longest" then some (.int lo t2) else m y)) (X : Amb w mg mb p loose g) (BM : BMod g mainGlobals mg bm ob)
    (N : News g L s.heap ((167, tabObj ps) :: (x₂, instObj 173 dx₂) :: (dx₂, hamD hs₂ ts₂ tq₂ true) :: (x, instObj 173 dx) :: (dx, hamD hs ts tq false) :: (L + 1 + 1 + 1 + 1, o4) :: (L + 1 + 1 + 1, o3) :: (L + 1 + 1, o2) :: (L + 1, o1') :: (lw, LCg.lst vs) :: news))
    (hne : ∀ p ∈ (x₂, instObj 173 dx₂) :: (dx₂, hamD hs₂ ts₂ tq₂ true) :: (x, instObj 173 dx) :: (dx, hamD hs ts tq false) :: (L + 1 + 1 + 1 + 1, o4) :: (L + 1 + 1 + 1, o3) :: (L + 1 + 1, o2) :: (L + 1, o1') :: (lw, LCg.lst vs) :: news, p.1 ≠ 167) (htr : TriplesOk ps.toList) (hG : AllBare s.gens)
    (hs2 : o2.data = .cell (some (.ref lw))) (hs3 : o3.data = .cell (some (.int sh t1))) (hv : StrsAre vs ws) (hsz : 2 ≤ vs.length ∧ vs.length ≤ 4) (hw : ∀ x ∈ ws, 0 < x.length ∧ x.length ≤ 7)
    (hs4 : o4.data = .cell (some (.str f tf))) (hf8 : f.length ≤ 8) (hP : HamN false ws pl) (hPf : HamN false (ws.map fun x => f ++ x) pl) (hCf : HamN true (ws.map fun x => f ++ x) wi)
    (h : ∀ s' ps', Fr g L s'.heap (fun y => if y = Str.ofString "plain" then some (.ref x) else if y = Str.ofString "cut" then some (.ref x₂) else if y = Str.ofString "within" then some (.int wi t3) else if y = Str.ofString "longest" then some (.int lo t2) else m y) → News g L s'.heap ((167, tabObj ps') :: (x₂, instObj 173 dx₂) :: (dx₂, hamD hs₂ ts₂ tq₂ true) :: (x, instObj 173 dx) :: (dx, hamD hs ts tq false) :: (L + 1 + 1 + 1 + 1, o4) :: (L + 1 + 1 + 1, o3) :: (L + 1 + 1, o2) :: (L + 1, o1') :: (lw, LCg.lst vs) :: news) → TriplesOk ps'.toList → s'.os = s.os → AllBare s'.gens → Q .next s') :
    wpAny (model pg w) A (exec (lawS w 7) (lawEnv w L)) Q E s := by
  unfold lawEnv
  conv in lawS _ _ => whnf
  repeat (conv in lawFd _ => whnf)
  dsimp only
  obtain ⟨KX, TX⟩ := X
  have hw' : ∀ x ∈ ws, 0 < x.length ∧ x.length < 1000 := fun x hx => ⟨(hw x hx).1, by have := (hw x hx).2; omega⟩
  have hn : vs.toArray.size = ws.length := by rw [List.size_toArray]; exact hv.len_eq
  have htake : (ws.take vs.toArray.size).map (fun x => f ++ x) = ws.map fun x => f ++ x := by rw [hn, List.take_of_length_le (Nat.le_refl _)]
  have hwf : ∀ z ∈ ws.map (fun x => f ++ x), 0 < z.length ∧ z.length < 1000 := fun z hz => by
    obtain ⟨y, hy, rfl⟩ := List.mem_map.mp hz
    have := hw y hy
    rw [Str.length_append]; omega
  walk_at "mine go"
  refine starMethod_ ?_
  walk_at "mine go"
  (with_reducible rename Fr _ _ _ _ => F₁)
  (with_reducible rename News _ _ _ _ => N₁)
  refine' starM (K := hd.heap_39 w.params) (f := 65) (self := .ref x) ?hf ?_
  case hf => k_is
  walk_at "mine go"
  refine LCg.CompSrc.ledger (k := vs.length) hh F₁ N₁ (by k_mem) (by rw [List.size_toArray, sizeLine_eq]; omega) fun h₁₂ => ?_
  refine comp_inv (n := vs.toArray.size) (Pres _ ws f) ?turn ?fin _ 0 [] _ (Nat.zero_add _) Pres.start
  case turn =>
    intro i ys nn hi9 hI v I oI C oC D' m₂ h₁₃ tk₁₃ E' hPv hNs hm hF hN hoff hne3
    obtain ⟨y, ty, hy, rfl⟩ := strs_at hv i v (by rw [List.getElem?_toArray] at hPv; exact hPv)
    have hyl := (hw y (List.mem_of_getElem? hy)).2
    have j4 := hI.1 (L + 1 + 1 + 1 + 1, o4) (by k_mem)
    clear F₁ N₁
    walk_at "mine go"
    exact LCg.CompEnd.intro hF hN nn (fun p hp => hp) hoff (.inr ⟨_, hI.1 (lw, LCg.lst vs) (by k_mem), rfl, _, rfl⟩) (hI.step hy fun p hp => hp)
  case fin =>
  intro ys nn hI
  unfold LCg.FinE
  intro D₂ h₁₇ tk₁₇ F₁₇ N₁₇ o1
  clear F₁ N₁
  dsimp only
  obtain ⟨hI1, hI2⟩ := hI
  rw [htake] at hI2
  have hyl : ys.length = vs.length := by rw [hI2.len_eq, List.length_map]; exact hv.len_eq.symm
  refine star_lst_G (a := D₂) (vs := ys) (c := ys.length) F₁₇ N₁₇ List.mem_cons_self (by rw [sizeLine_eq]; omega) fun h₂ F₂ N₂ => ⟨⟨(N₂ _ (List.mem_cons_of_mem _ (hI1 _ List.mem_cons_self))).1, KX.keeps F₂.keep⟩, ?_⟩
  refine dist_ct (ps := ps) hh ?_ F₂ ⟨KX, TX⟩ BM (news_sub N₂ fun p hp => List.mem_cons_of_mem _ (hI1 p (List.mem_cons_of_mem _ hp))) hne htr hG (by k_mem) (by k_mem) hI2 (by omega) hwf hPf fun s3 ps3 t3 F3 N3 ht3 hos3 hG3 => ?_
  · (try simp only [depth_deeper]); omega
  clear F₁₇ N₁₇ F₂ N₂ hI1 hI2 o1
  walk_at "mine go"
  refine starMethod_ ?_
  walk_at "mine go"
  (with_reducible rename Fr _ _ _ _ => F₁)
  (with_reducible rename News _ _ _ _ => N₁)
  refine' starM (K := hd.heap_39 w.params) (f := 65) (self := .ref x) ?hf ?_
  case hf => k_is
  walk_at "mine go"
  refine star_lst_G (a := lw) (vs := vs) F₁ N₁ (by k_mem) (by rw [sizeLine_eq]; omega) fun h₂ F₂ N₂ => ⟨⟨(N₂ _ (by k_mem)).1, KX.keeps F₂.keep⟩, ?_⟩
  refine dist_ct (ps := ps3) hh ?_ F₂ ⟨KX, TX⟩ BM (news_sub N₂ (sub_drop sub_refl)) hne ht3 hG3 (by k_mem) (by k_mem) hv hsz hw' hP fun s4 ps4 t4 F4 N4 ht4 hos4 hG4 => ?_
  · (try simp only [depth_deeper]); omega
  (try clear F₁ N₁); clear F₂ N₂
  walk_at "mine go"
  · exfalso; omega
  walk_at "mine go"
  refine starMethod_ ?_
  walk_at "mine go"
  (with_reducible rename Fr _ _ _ _ => F₁)
  (with_reducible rename News _ _ _ _ => N₁)
  refine' starM (K := hd.heap_39 w.params) (f := 65) (self := .ref x₂) ?hf ?_
  case hf => k_is
  walk_at "mine go"
  refine LCg.CompSrc.ledger (k := vs.length) hh F₁ N₁ (by k_mem) (by rw [List.size_toArray, sizeLine_eq]; omega) fun h₁₂ => ?_
  refine comp_inv (n := vs.toArray.size) (Pres _ ws f) ?turn ?fin _ 0 [] _ (Nat.zero_add _) Pres.start
  case turn =>
    intro i ys nn hi9 hI v I oI C oC D' m₂ h₁₃ tk₁₃ E' hPv hNs hm hF hN hoff hne3
    obtain ⟨y, ty, hy, rfl⟩ := strs_at hv i v (by rw [List.getElem?_toArray] at hPv; exact hPv)
    have hyl := (hw y (List.mem_of_getElem? hy)).2
    have j4 := hI.1 (L + 1 + 1 + 1 + 1, o4) (by k_mem)
    clear F₁ N₁
    walk_at "mine go"
    exact LCg.CompEnd.intro hF hN nn (fun p hp => hp) hoff (.inr ⟨_, hI.1 (lw, LCg.lst vs) (by k_mem), rfl, _, rfl⟩) (hI.step hy fun p hp => hp)
  case fin =>
  intro ys nn hI
  unfold LCg.FinE
  intro D₂ h₁₇ tk₁₇ F₁₇ N₁₇ o1
  clear F₁ N₁
  dsimp only
  obtain ⟨hI1, hI2⟩ := hI
  rw [htake] at hI2
  have hyl : ys.length = vs.length := by rw [hI2.len_eq, List.length_map]; exact hv.len_eq.symm
  refine star_lst_G (a := D₂) (vs := ys) (c := ys.length) F₁₇ N₁₇ List.mem_cons_self (by rw [sizeLine_eq]; omega) fun h₂ F₂ N₂ => ⟨⟨(N₂ _ (List.mem_cons_of_mem _ (hI1 _ List.mem_cons_self))).1, KX.keeps F₂.keep⟩, ?_⟩
  refine dist_ct (ps := ps4) hh ?_ F₂ ⟨KX, TX⟩ BM (news_sub N₂ fun p hp => List.mem_cons_of_mem _ (hI1 p (List.mem_cons_of_mem _ hp))) hne ht4 hG4 (by k_mem) (by k_mem) hI2 (by omega) hwf hCf fun s5 ps5 t5 F5 N5 ht5 hos5 hG5 => ?_
  · (try simp only [depth_deeper]); omega
  clear F₁₇ N₁₇ F₂ N₂ hI1 hI2 o1
  walk_at "mine go"
  · exfalso; omega
  exact h _ ps5 F5 N5 ht5 (hos5.trans (hos4.trans hos3)) hG5

end
end Mine
end

section
open PySem PySem.W PySem.Calls PyProof.Rows PySem.Spec
namespace Mine
set_option maxRecDepth 100000
set_option maxHeartbeats 0
local macro_rules | `(tactic| walk_at "mine stop") => `(tactic| first
  | (with_reducible show wpAny _ _ (eval (Expr.Call (Expr.Attribute _ _ _) [Expr.Starred _ _] _ _) _) _ _ _)
  | (with_reducible show wpAny _ _ (callWith _ (Value.ref _) _ (backTo _ (starEach [Expr.Starred _ _] _)) _) _ _ _)
  | (with_reducible show StarOf _ _ _ _ _ _)
  | (with_reducible show wpAny _ _ (compareOp _ (Value.ref _) (Value.ref _)) _ _ _))
local macro_rules | `(tactic| walk_at "mine go") => `(tactic| repeat' ((fail_if_success (walk_at "mine stop")); (first | walk1 | (dsimp only; walk1))))
local macro_rules | `(tactic| k_mem) => `(tactic| first | ktr_member | exact List.mem_cons_self | (refine' List.mem_cons_of_mem _ ?_; k_mem))
local macro_rules | `(tactic| walk_at "eval Name") => `(tactic| ((with_reducible show wpAny _ _ (eval (Expr.Name _ _) (compEnvC _ _ _ _)) _ _ _); (first
  | (refine' cn_global ?k1 ?k2 ?k3 ?k4 ?_ ?k5 ?k6 ?k7 ?k8; (case k1 => k_asm); (case k2 => k_asm); (case k3 => k_asm); (case k4 => k_is); (case k5 => rfl); (case k6 => rfl); (case k7 => rfl); (case k8 => decide))
  | (refine' cn_built ?k1 ?k2 ?k3 ?k4 ?k9 ?k10 ?_ ?k5 ?k11 ?k6 ?k7 ?k8; (case k1 => k_asm); (case k2 => k_asm); (case k3 => k_asm); (case k4 => k_is); (case k9 => boot_by_name); (case k10 => decide); (case k5 => rfl); (case k11 => rfl); (case k6 => rfl); (case k7 => rfl); (case k8 => decide)))))

local macro_rules | `(tactic| walk_at "eval ListComp") => `(tactic| ((with_reducible show wpAny _ _ (eval (Expr.ListComp _ [Comprehension.mk _ _ [] 0] _ _) _) _ _ _); (k_dflt (refine LCg.ListComp_U (F₀ := by k_asm) (by with_unfolding_all rfl) (by decide) (by rfl) (by decide) (by rfl) ?_))))
local macro_rules | `(tactic| walk_at "eval ListComp") => `(tactic| ((with_reducible show wpAny _ _ (eval (Expr.ListComp _ [Comprehension.mk _ (Expr.Name _ _) [_] 0] _ _) _) _ _ _); (k_dflt (refine LCt.ListComp_T (F₀ := by k_asm) (by with_unfolding_all rfl) (by decide) (by rfl) (by decide) (by rfl) ?_))))
local macro_rules | `(tactic| walk_at "eval ListComp") => `(tactic| ((with_reducible show wpAny _ _ (eval (Expr.ListComp _ [Comprehension.mk _ (Expr.Call _ _ _ _) [_] 0] _ _) _) _ _ _); (k_dflt (refine ListComp_C (by k_asm) (by with_unfolding_all rfl) (fun _ => rfl) (fun _ => rfl) (by rfl) (by decide) (by rfl) ?_))))

/-- words that pass, made so far -/
def Kept (base : List (Addr × Obj)) (ws : List Str) (q : Str → Bool) (j : Nat) (zs : List Value) (nn : List (Addr × Obj)) : Prop := (∀ p ∈ base, p ∈ nn) ∧ zs.length = ((ws.take j).filter q).length
theorem Kept.start {base : List (Addr × Obj)} {ws : List Str} {q : Str → Bool} : Kept base ws q 0 [] base := ⟨fun _ h => h, by simp⟩
theorem Kept.take {base : List (Addr × Obj)} {ws : List Str} {q : Str → Bool} {j : Nat} {zs : List Value} {nn : List (Addr × Obj)} {y : Str} {v : Value} (h : Kept base ws q j zs nn) (hy : ws[j]? = some y) (hq : q y = true) : Kept base ws q (j + 1) (zs ++ [v]) nn :=
  ⟨h.1, by rw [List.take_add_one, hy]; show _ = ((ws.take j ++ [y]).filter q).length; rw [List.filter_append, List.length_append, List.length_append, h.2]; simp [hq]⟩
theorem Kept.skip {base : List (Addr × Obj)} {ws : List Str} {q : Str → Bool} {j : Nat} {zs : List Value} {nn : List (Addr × Obj)} {y : Str} (h : Kept base ws q j zs nn) (hy : ws[j]? = some y) (hq : q y = false) : Kept base ws q (j + 1) zs nn :=
  ⟨h.1, by rw [List.take_add_one, hy]; show _ = ((ws.take j ++ [y]).filter q).length; rw [List.filter_append, List.length_append, h.2]; simp [hq]⟩
theorem Kept.empty {base : List (Addr × Obj)} {ws : List Str} {q : Str → Bool} {n : Nat} {zs : List Value} {nn : List (Addr × Obj)} {p : Prop} [Decidable p] (h : Kept base ws q n zs nn) (hn : n = ws.length) (hp : p ↔ ∀ x ∈ ws, q x = false) : zs.isEmpty = decide p := by
  have e := h.2
  rw [hn, List.take_of_length_le (Nat.le_refl _)] at e
  rw [Bool.eq_iff_iff, decide_eq_true_iff, hp, List.isEmpty_iff, ← List.length_eq_zero_iff, e, List.length_eq_zero_iff, List.filter_eq_nil_iff]
  simp
theorem cast0 (n : Nat) : (((n : Int) == 0) != decide (n = 0)) = false := by cases n <;> rfl
section
variable {w : World} {A : Around} {mg mb : Str → Option Value} {p : Program} {loose : List Str} {g : Heap} {L : Addr} {m : Str → Option Value} {news : List (Addr × Obj)} {s : Shared} {E : Value → Shared → Prop}



/-- the fourth test -/
theorem seg8 {lw : Addr} {vs : List Value} {ws : List Str} {sh lo pl wi : Nat} {t1 t2 t3 : Tok} {o1' o2 o3 o4 : Obj} {x dx x₂ dx₂ bm : Addr} {ob : Obj} {hs ts tq hs₂ ts₂ tq₂} {ps : Array Value} {Q : Flow → Shared → Prop}  (hh : A.handled = none) (hroom : A.depth + 30 < recursionLimit) (hun : A.units < cLine)
    (F : Fr g L s.heap (fun y => if y = Str.ofString "plain" then some (.ref x) else if y = Str.ofString "cut" then some (.ref x₂) else if y = Str.ofString "within" then some (.int wi t3) else if y = Str.ofString "longest" then some (.int lo t2) else m y)) (X : Amb w mg mb p loose g) (BM : BMod g mainGlobals mg bm ob)
    (N : News g L s.heap ((167, tabObj ps) :: (x₂, instObj 173 dx₂) :: (dx₂, hamD hs₂ ts₂ tq₂ true) :: (x, instObj 173 dx) :: (dx, hamD hs ts tq false) :: (L + 1 + 1 + 1 + 1, o4) :: (L + 1 + 1 + 1, o3) :: (L + 1 + 1, o2) :: (L + 1, o1') :: (lw, LCg.lst vs) :: news))
    (hne : ∀ p ∈ (x₂, instObj 173 dx₂) :: (dx₂, hamD hs₂ ts₂ tq₂ true) :: (x, instObj 173 dx) :: (dx, hamD hs ts tq false) :: (L + 1 + 1 + 1 + 1, o4) :: (L + 1 + 1 + 1, o3) :: (L + 1 + 1, o2) :: (L + 1, o1') :: (lw, LCg.lst vs) :: news, p.1 ≠ 167) (htr : TriplesOk ps.toList) (hG : AllBare s.gens)
    (hs2 : o2.data = .cell (some (.ref lw))) (hs3 : o3.data = .cell (some (.int sh t1))) (hv : StrsAre vs ws) (hsz : 2 ≤ vs.length ∧ vs.length ≤ 4) (hw : ∀ x ∈ ws, 0 < x.length ∧ x.length ≤ 7)
    (hsh7 : sh ≤ 7) (hP : HamN false ws pl) (hC : HamN true ws wi) (hp0 : pl = 0 ↔ ∀ x ∈ ws, (x != ws.getD (Int.toNat 0) Str.empty) = false) (hw0 : wi = 0 ↔ ∀ x ∈ ws, (Txt.slice x none (some (sh : Int)) != Txt.slice (ws.getD (Int.toNat 0) Str.empty) none (some (sh : Int))) = false)
    (h : ∀ s' ps', Fr g L s'.heap (fun y => if y = Str.ofString "plain" then some (.ref x) else if y = Str.ofString "cut" then some (.ref x₂) else if y = Str.ofString "within" then some (.int wi t3) else if y = Str.ofString "longest" then some (.int lo t2) else m y) → News g L s'.heap ((167, tabObj ps') :: (x₂, instObj 173 dx₂) :: (dx₂, hamD hs₂ ts₂ tq₂ true) :: (x, instObj 173 dx) :: (dx, hamD hs ts tq false) :: (L + 1 + 1 + 1 + 1, o4) :: (L + 1 + 1 + 1, o3) :: (L + 1 + 1, o2) :: (L + 1, o1') :: (lw, LCg.lst vs) :: news) → TriplesOk ps'.toList → s'.os = s.os → AllBare s'.gens → Q .next s') :
    wpAny (model pg w) A (exec (lawS w 8) (lawEnv w L)) Q E s := by
  unfold lawEnv
  conv in lawS _ _ => whnf
  repeat (conv in lawFd _ => whnf)
  dsimp only
  obtain ⟨KX, TX⟩ := X
  have hw' : ∀ x ∈ ws, 0 < x.length ∧ x.length < 1000 := fun x hx => ⟨(hw x hx).1, by have := (hw x hx).2; omega⟩
  have hn : vs.toArray.size = ws.length := by rw [List.size_toArray]; exact hv.len_eq
  have hvl := hv.len_eq
  have hd0m : ws.getD (Int.toNat 0) Str.empty ∈ ws := by
    have h0 : 0 < ws.length := by omega
    show ws.getD 0 Str.empty ∈ ws
    rw [List.getD_eq_getElem?_getD, List.getElem?_eq_getElem h0]; exact List.getElem_mem h0
  have hd0 := (hw _ hd0m).2
  walk_at "mine go"
  refine starMethod_ ?_
  walk_at "mine go"
  (with_reducible rename Fr _ _ _ _ => F₁)
  (with_reducible rename News _ _ _ _ => N₁)
  refine' starM (K := hd.heap_39 w.params) (f := 65) (self := .ref x) ?hf ?_
  case hf => k_is
  walk_at "mine go"
  refine star_lst_G (a := lw) (vs := vs) F₁ N₁ (by k_mem) (by rw [sizeLine_eq]; omega) fun h₂ F₂ N₂ => ⟨⟨(N₂ _ (by k_mem)).1, KX.keeps F₂.keep⟩, ?_⟩
  refine dist_ct (ps := ps) hh ?_ F₂ ⟨KX, TX⟩ BM (news_sub N₂ (sub_drop sub_refl)) hne htr hG (by k_mem) (by k_mem) hv hsz hw' hP fun s3 ps3 t3 F3 N3 ht3 hos3 hG3 => ?_
  · (try simp only [depth_deeper]); omega
  (try clear F₁ N₁); clear F₂ N₂
  walk_at "mine go"
  (with_reducible rename Fr _ _ _ _ => F₁)
  (with_reducible rename News _ _ _ _ => N₁)
  refine LCt.CompSrcT.ledger (k := vs.length) hh (by with_reducible assumption) (by with_reducible assumption) (by k_mem) (by rw [List.size_toArray, sizeLine_eq]; omega) fun h₆ => ?_
  refine comp_invT (n := vs.toArray.size) (Kept _ ws fun x => x != ws.getD (Int.toNat 0) Str.empty) ?turn ?fin _ 0 [] _ (Nat.zero_add _) Kept.start
  case turn =>
    intro j zs nn hj hJ v I2 oI2 C2 oC2 D2 m₂ h₇ tk₇ E2 hPv hNs hm hF hN hoff hne3
    obtain ⟨y, ty, hy, rfl⟩ := strs_at hv j v (by rw [List.getElem?_toArray] at hPv; exact hPv)
    have hyl := (hw y (List.mem_of_getElem? hy)).2
    have j2 := hJ.1 (L + 1 + 1, o2) (by k_mem)
    have j9 := hJ.1 (lw, LCg.lst vs) (by k_mem)
    clear F₁ N₁
    have hLs : h₇.IsList lw vs.toArray := ⟨_, (hN (lw, LCg.lst vs) (by k_mem)).1, rfl, _, rfl⟩
    walk_at "mine go"
    · (with_reducible rename (_ != _) = true => h9)
      exact LCg.CompEnd.intro hF hN nn (fun p hp => hp) hoff (.inr ⟨_, j9, rfl, _, rfl⟩) (hJ.take hy h9)
    · (with_reducible rename (_ != _) = false => h9)
      exact LCg.CompEnd.intro hF hN nn (fun p hp => hp) hoff (.inr ⟨_, j9, rfl, _, rfl⟩) (hJ.skip hy h9)
  case fin =>
  intro zs nn hJ
  unfold LCg.FinE
  intro D3 h₈ tk₈ F₈ N₈ o1
  dsimp only
  clear F₁ N₁
  have hJ1 := hJ.1
  walk_at "mine go"
  (with_reducible rename Fr _ _ _ _ => F₉)
  (with_reducible rename News _ _ _ _ => N₉)
  refine eq_nil (xs := zs) ⟨_, (N₉ (D3, LCg.lst zs) (by k_mem)).1, rfl, _, rfl⟩ ⟨_, (N₉ _ List.mem_cons_self).1, rfl, _, rfl⟩ hun ?_
  have N₁₀ := news_sub N₉ fun p hp => List.mem_cons_of_mem _ (List.mem_cons_of_mem _ (hJ1 p hp))
  clear N₉
  (try clear F₈ N₈)
  rw [hJ.empty hn hp0]
  clear hJ hJ1
  walk_at "mine go"
  · (with_reducible rename (_ != _) = true => h9)
    rw [cast0] at h9; cases h9
  walk_at "mine go"
  refine starMethod_ ?_
  walk_at "mine go"
  (with_reducible rename Fr _ _ _ _ => F₁)
  (with_reducible rename News _ _ _ _ => N₁)
  refine' starM (K := hd.heap_39 w.params) (f := 65) (self := .ref x₂) ?hf ?_
  case hf => k_is
  walk_at "mine go"
  refine star_lst_G (a := lw) (vs := vs) F₁ N₁ (by k_mem) (by rw [sizeLine_eq]; omega) fun h₂ F₂ N₂ => ⟨⟨(N₂ _ (by k_mem)).1, KX.keeps F₂.keep⟩, ?_⟩
  refine dist_ct (ps := ps3) hh ?_ F₂ ⟨KX, TX⟩ BM (news_sub N₂ (sub_drop sub_refl)) hne ht3 hG3 (by k_mem) (by k_mem) hv hsz hw' hC fun s4 ps4 t4 F4 N4 ht4 hos4 hG4 => ?_
  · (try simp only [depth_deeper]); omega
  (try clear F₁ N₁); clear F₂ N₂
  walk_at "mine go"
  (with_reducible rename Fr _ _ _ _ => F₁)
  (with_reducible rename News _ _ _ _ => N₁)
  refine LCt.CompSrcT.ledger (k := vs.length) hh (by with_reducible assumption) (by with_reducible assumption) (by k_mem) (by rw [List.size_toArray, sizeLine_eq]; omega) fun h₆ => ?_
  refine comp_invT (n := vs.toArray.size) (Kept _ ws fun x => Txt.slice x none (some (sh : Int)) != Txt.slice (ws.getD (Int.toNat 0) Str.empty) none (some (sh : Int))) ?turn2 ?fin2 _ 0 [] _ (Nat.zero_add _) Kept.start
  case turn2 =>
    intro j zs nn hj hJ v I2 oI2 C2 oC2 D2 m₂ h₇ tk₇ E2 hPv hNs hm hF hN hoff hne3
    obtain ⟨y, ty, hy, rfl⟩ := strs_at hv j v (by rw [List.getElem?_toArray] at hPv; exact hPv)
    have hyl := (hw y (List.mem_of_getElem? hy)).2
    have j2 := hJ.1 (L + 1 + 1, o2) (by k_mem)
    have j3 := hJ.1 (L + 1 + 1 + 1, o3) (by k_mem)
    have j9 := hJ.1 (lw, LCg.lst vs) (by k_mem)
    clear F₁ N₁
    have hLs : h₇.IsList lw vs.toArray := ⟨_, (hN (lw, LCg.lst vs) (by k_mem)).1, rfl, _, rfl⟩
    iterate 13 (first | walk1 | (dsimp only; walk1))
    (with_reducible rename Fr _ _ _ _ => F₃)
    (with_reducible rename News _ _ _ _ => N₃)
    clear hLs
    have hLs : Heap.IsList _ lw vs.toArray := ⟨_, (N₃ (lw, LCg.lst vs) (by k_mem)).1, rfl, _, rfl⟩
    walk_at "mine go"
    all_goals
      (with_reducible rename Fr _ _ _ _ => F₄)
      (with_reducible rename News _ _ _ _ => N₄)
    · (with_reducible rename (_ != _) = true => h9)
      exact LCg.CompEnd.intro F₄ N₄ nn (fun p hp => hp) hoff (.inr ⟨_, j9, rfl, _, rfl⟩) (hJ.take hy h9)
    · (with_reducible rename (_ != _) = false => h9)
      exact LCg.CompEnd.intro F₄ N₄ nn (fun p hp => hp) hoff (.inr ⟨_, j9, rfl, _, rfl⟩) (hJ.skip hy h9)
  case fin2 =>
  intro zs nn hJ
  unfold LCg.FinE
  intro D3 h₈ tk₈ F₈ N₈ o1
  dsimp only
  clear F₁ N₁
  have hJ1 := hJ.1
  walk_at "mine go"
  (with_reducible rename Fr _ _ _ _ => F₉)
  (with_reducible rename News _ _ _ _ => N₉)
  refine eq_nil (xs := zs) ⟨_, (N₉ (D3, LCg.lst zs) (by k_mem)).1, rfl, _, rfl⟩ ⟨_, (N₉ _ List.mem_cons_self).1, rfl, _, rfl⟩ hun ?_
  have N₁₀ := news_sub N₉ fun p hp => List.mem_cons_of_mem _ (List.mem_cons_of_mem _ (hJ1 p hp))
  clear N₉
  (try clear F₈ N₈)
  rw [hJ.empty hn hw0]
  clear hJ hJ1
  walk_at "mine go"
  · (with_reducible rename (_ != _) = true => h9)
    rw [cast0] at h9; cases h9
  (with_reducible rename Fr _ _ _ _ => F₉)
  exact h _ ps4 F₉ N₁₀ ht4 (hos4.trans hos3) hG4

end
end Mine
end

section
open PySem PySem.W PySem.Calls PyProof.Rows PySem.Spec
namespace Mine
set_option maxRecDepth 100000
set_option maxHeartbeats 0
local macro_rules | `(tactic| walk_at "mine stop") => `(tactic| first
  | (with_reducible show wpAny _ _ (subscriptTail _ _ (Value.ref _) (Value.int (-1) _)) _ _ _))
local macro_rules | `(tactic| walk_at "mine go") => `(tactic| repeat' ((fail_if_success (walk_at "mine stop")); (first | walk1 | (dsimp only; walk1))))
local macro_rules | `(tactic| k_mem) => `(tactic| first | ktr_member | exact List.mem_cons_self | (refine' List.mem_cons_of_mem _ ?_; k_mem))
local macro_rules | `(tactic| walk_at "eval Name") => `(tactic| ((with_reducible show wpAny _ _ (eval (Expr.Name _ _) (compEnvC _ _ _ _)) _ _ _); (first
  | (refine' cn_global ?k1 ?k2 ?k3 ?k4 ?_ ?k5 ?k6 ?k7 ?k8; (case k1 => k_asm); (case k2 => k_asm); (case k3 => k_asm); (case k4 => k_is); (case k5 => rfl); (case k6 => rfl); (case k7 => rfl); (case k8 => decide))
  | (refine' cn_built ?k1 ?k2 ?k3 ?k4 ?k9 ?k10 ?_ ?k5 ?k11 ?k6 ?k7 ?k8; (case k1 => k_asm); (case k2 => k_asm); (case k3 => k_asm); (case k4 => k_is); (case k9 => boot_by_name); (case k10 => decide); (case k5 => rfl); (case k11 => rfl); (case k6 => rfl); (case k7 => rfl); (case k8 => decide)))))

local macro_rules | `(tactic| walk_at "eval ListComp") => `(tactic| ((with_reducible show wpAny _ _ (eval (Expr.ListComp _ [Comprehension.mk _ _ [] 0] _ _) _) _ _ _); (k_dflt (refine LCg.ListComp_U (F₀ := by k_asm) (by with_unfolding_all rfl) (by decide) (by rfl) (by decide) (by rfl) ?_))))
local macro_rules | `(tactic| walk_at "eval ListComp") => `(tactic| ((with_reducible show wpAny _ _ (eval (Expr.ListComp _ [Comprehension.mk _ (Expr.Name _ _) [_] 0] _ _) _) _ _ _); (k_dflt (refine LCt.ListComp_T (F₀ := by k_asm) (by with_unfolding_all rfl) (by decide) (by rfl) (by decide) (by rfl) ?_))))
local macro_rules | `(tactic| walk_at "eval ListComp") => `(tactic| ((with_reducible show wpAny _ _ (eval (Expr.ListComp _ [Comprehension.mk _ (Expr.Call _ _ _ _) [_] 0] _ _) _) _ _ _); (k_dflt (refine ListComp_C (by k_asm) (by with_unfolding_all rfl) (fun _ => rfl) (fun _ => rfl) (by rfl) (by decide) (by rfl) ?_))))

section
variable {w : World} {A : Around} {mg mb : Str → Option Value} {p : Program} {loose : List Str} {g : Heap} {L : Addr} {m : Str → Option Value} {news : List (Addr × Obj)} {s : Shared} {E : Value → Shared → Prop}



/-- the third word -/
theorem seg9 {lw : Addr} {vs : List Value} {ws : List Str} {sh lo pl wi : Nat} {t1 t2 t3 : Tok} {o1' o2 o3 o4 : Obj} {x dx x₂ dx₂ bm : Addr} {ob : Obj} {hs ts tq hs₂ ts₂ tq₂} {ps : Array Value} {Q : Flow → Shared → Prop}  (hh : A.handled = none) (hroom : A.depth + 30 < recursionLimit) (hun : A.units < cLine)
    (F : Fr g L s.heap (fun y => if y = Str.ofString "plain" then some (.ref x) else if y = Str.ofString "cut" then some (.ref x₂) else if y = Str.ofString "within" then some (.int wi t3) else if y = Str.ofString "longest" then some (.int lo t2) else m y)) (X : Amb w mg mb p loose g) (BM : BMod g mainGlobals mg bm ob)
    (N : News g L s.heap ((167, tabObj ps) :: (x₂, instObj 173 dx₂) :: (dx₂, hamD hs₂ ts₂ tq₂ true) :: (x, instObj 173 dx) :: (dx, hamD hs ts tq false) :: (L + 1 + 1 + 1 + 1, o4) :: (L + 1 + 1 + 1, o3) :: (L + 1 + 1, o2) :: (L + 1, o1') :: (lw, LCg.lst vs) :: news))
    (hne : ∀ p ∈ (x₂, instObj 173 dx₂) :: (dx₂, hamD hs₂ ts₂ tq₂ true) :: (x, instObj 173 dx) :: (dx, hamD hs ts tq false) :: (L + 1 + 1 + 1 + 1, o4) :: (L + 1 + 1 + 1, o3) :: (L + 1 + 1, o2) :: (L + 1, o1') :: (lw, LCg.lst vs) :: news, p.1 ≠ 167) (htr : TriplesOk ps.toList) (hG : AllBare s.gens)
    (hs2 : o2.data = .cell (some (.ref lw))) (hs3 : o3.data = .cell (some (.int sh t1))) (hv : StrsAre vs ws) (hsz : 2 ≤ vs.length ∧ vs.length ≤ 4) (hw : ∀ x ∈ ws, 0 < x.length ∧ x.length ≤ 7)
    (hs4 : True)
    (h : ∀ h' tk (th : Str) tt, th.length ≤ 8 → 0 < th.length → Fr g L h' (fun y => if y = Str.ofString "third" then some (.str th tt) else if y = Str.ofString "plain" then some (.ref x) else if y = Str.ofString "cut" then some (.ref x₂) else if y = Str.ofString "within" then some (.int wi t3) else if y = Str.ofString "longest" then some (.int lo t2) else m y) → News g L h' ((167, tabObj ps) :: (x₂, instObj 173 dx₂) :: (dx₂, hamD hs₂ ts₂ tq₂ true) :: (x, instObj 173 dx) :: (dx, hamD hs ts tq false) :: (L + 1 + 1 + 1 + 1, o4) :: (L + 1 + 1 + 1, o3) :: (L + 1 + 1, o2) :: (L + 1, o1') :: (lw, LCg.lst vs) :: news) → Q .next { s with heap := h', toks := tk }) :
    wpAny (model pg w) A (exec (lawS w 9) (lawEnv w L)) Q E s := by
  unfold lawEnv
  conv in lawS _ _ => whnf
  repeat (conv in lawFd _ => whnf)
  dsimp only
  obtain ⟨KX, TX⟩ := X
  have hw' : ∀ x ∈ ws, 0 < x.length ∧ x.length < 1000 := fun x hx => ⟨(hw x hx).1, by have := (hw x hx).2; omega⟩
  have hLs : s.heap.IsList lw vs.toArray := ⟨_, (N (lw, LCg.lst vs) (by k_mem)).1, rfl, _, rfl⟩
  have hvl := hv.len_eq
  have hdlm : ws.getD (-1 + (ws.length : Int)).toNat Str.empty ∈ ws := by
    have h0 : (-1 + (ws.length : Int)).toNat < ws.length := by omega
    rw [List.getD_eq_getElem?_getD, List.getElem?_eq_getElem h0]; exact List.getElem_mem h0
  have hdl := (hw _ hdlm).2
  have hdl0 := (hw _ hdlm).1
  walk_at "mine go"
  refine item_strs_neg hLs hv (by decide) (by omega) (by decide) ?_
  intro t9
  walk_at "mine go"
  (with_reducible rename Fr _ _ _ _ => F₁)
  (with_reducible rename News _ _ _ _ => N₁)
  refine h _ _ _ _ ?_ ?_ F₁ N₁
  · rw [Str.length_append, show (Str.ofString "b").length = 1 by decide]; omega
  · rw [Str.length_append, show (Str.ofString "b").length = 1 by decide]; omega

end
end Mine
end

section
open PySem PySem.W PySem.Calls PyProof.Rows PySem.Spec
namespace Mine
set_option maxRecDepth 100000
set_option maxHeartbeats 0
local macro_rules | `(tactic| walk_at "mine stop") => `(tactic| first
  | (with_reducible show wpAny _ _ (call (Value.ref 65) _) _ _ _))
local macro_rules | `(tactic| walk_at "mine go") => `(tactic| repeat' ((fail_if_success (walk_at "mine stop")); (first | walk1 | (dsimp only; walk1))))
local macro_rules | `(tactic| k_mem) => `(tactic| first | ktr_member | exact List.mem_cons_self | (refine' List.mem_cons_of_mem _ ?_; k_mem))
local macro_rules | `(tactic| walk_at "eval Name") => `(tactic| ((with_reducible show wpAny _ _ (eval (Expr.Name _ _) (compEnvC _ _ _ _)) _ _ _); (first
  | (refine' cn_global ?k1 ?k2 ?k3 ?k4 ?_ ?k5 ?k6 ?k7 ?k8; (case k1 => k_asm); (case k2 => k_asm); (case k3 => k_asm); (case k4 => k_is); (case k5 => rfl); (case k6 => rfl); (case k7 => rfl); (case k8 => decide))
  | (refine' cn_built ?k1 ?k2 ?k3 ?k4 ?k9 ?k10 ?_ ?k5 ?k11 ?k6 ?k7 ?k8; (case k1 => k_asm); (case k2 => k_asm); (case k3 => k_asm); (case k4 => k_is); (case k9 => boot_by_name); (case k10 => decide); (case k5 => rfl); (case k11 => rfl); (case k6 => rfl); (case k7 => rfl); (case k8 => decide)))))

local macro_rules | `(tactic| walk_at "eval ListComp") => `(tactic| ((with_reducible show wpAny _ _ (eval (Expr.ListComp _ [Comprehension.mk _ _ [] 0] _ _) _) _ _ _); (k_dflt (refine LCg.ListComp_U (F₀ := by k_asm) (by with_unfolding_all rfl) (by decide) (by rfl) (by decide) (by rfl) ?_))))
local macro_rules | `(tactic| walk_at "eval ListComp") => `(tactic| ((with_reducible show wpAny _ _ (eval (Expr.ListComp _ [Comprehension.mk _ (Expr.Name _ _) [_] 0] _ _) _) _ _ _); (k_dflt (refine LCt.ListComp_T (F₀ := by k_asm) (by with_unfolding_all rfl) (by decide) (by rfl) (by decide) (by rfl) ?_))))
local macro_rules | `(tactic| walk_at "eval ListComp") => `(tactic| ((with_reducible show wpAny _ _ (eval (Expr.ListComp _ [Comprehension.mk _ (Expr.Call _ _ _ _) [_] 0] _ _) _) _ _ _); (k_dflt (refine ListComp_C (by k_asm) (by with_unfolding_all rfl) (fun _ => rfl) (fun _ => rfl) (by rfl) (by decide) (by rfl) ?_))))

section
variable {w : World} {A : Around} {mg mb : Str → Option Value} {p : Program} {loose : List Str} {g : Heap} {L : Addr} {m : Str → Option Value} {news : List (Addr × Obj)} {s : Shared} {E : Value → Shared → Prop}



/-- the end -/
theorem seg10 {lw : Addr} {vs : List Value} {ws : List Str} {sh lo pl wi : Nat} {t1 t2 t3 : Tok} {o1' o2 o3 o4 : Obj} {x dx x₂ dx₂ bm : Addr} {ob : Obj} {hs ts tq hs₂ ts₂ tq₂} {ps : Array Value} {Q : Flow → Shared → Prop} {th : Str} {tt : Tok} (hh : A.handled = none) (hroom : A.depth + 30 < recursionLimit) (hun : A.units < cLine)
    (F : Fr g L s.heap (fun y => if y = Str.ofString "third" then some (.str th tt) else if y = Str.ofString "plain" then some (.ref x) else if y = Str.ofString "cut" then some (.ref x₂) else if y = Str.ofString "within" then some (.int wi t3) else if y = Str.ofString "longest" then some (.int lo t2) else m y)) (X : Amb w mg mb p loose g) (BM : BMod g mainGlobals mg bm ob)
    (N : News g L s.heap ((167, tabObj ps) :: (x₂, instObj 173 dx₂) :: (dx₂, hamD hs₂ ts₂ tq₂ true) :: (x, instObj 173 dx) :: (dx, hamD hs ts tq false) :: (L + 1 + 1 + 1 + 1, o4) :: (L + 1 + 1 + 1, o3) :: (L + 1 + 1, o2) :: (L + 1, o1') :: (lw, LCg.lst vs) :: news))
    (hne : ∀ p ∈ (x₂, instObj 173 dx₂) :: (dx₂, hamD hs₂ ts₂ tq₂ true) :: (x, instObj 173 dx) :: (dx, hamD hs ts tq false) :: (L + 1 + 1 + 1 + 1, o4) :: (L + 1 + 1 + 1, o3) :: (L + 1 + 1, o2) :: (L + 1, o1') :: (lw, LCg.lst vs) :: news, p.1 ≠ 167) (htr : TriplesOk ps.toList) (hG : AllBare s.gens)
    (hs2 : o2.data = .cell (some (.ref lw))) (hs3 : o3.data = .cell (some (.int sh t1))) (hv : StrsAre vs ws) (hsz : 2 ≤ vs.length ∧ vs.length ≤ 4) (hw : ∀ x ∈ ws, 0 < x.length ∧ x.length ≤ 7)
    (hth : 0 < th.length ∧ th.length ≤ 8) {a b c : Nat} (ha : HamN false [ws.getD (Int.toNat 0) Str.empty, th] a) (hb : HamN false [ws.getD (Int.toNat 0) Str.empty, ws.getD (Int.toNat 1) Str.empty] b) (hc : HamN false [ws.getD (Int.toNat 1) Str.empty, th] c) (habc : a ≤ b + c)
    (h : ∀ s' ps', Fr g L s'.heap (fun y => if y = Str.ofString "third" then some (.str th tt) else if y = Str.ofString "plain" then some (.ref x) else if y = Str.ofString "cut" then some (.ref x₂) else if y = Str.ofString "within" then some (.int wi t3) else if y = Str.ofString "longest" then some (.int lo t2) else m y) → News g L s'.heap ((167, tabObj ps') :: (x₂, instObj 173 dx₂) :: (dx₂, hamD hs₂ ts₂ tq₂ true) :: (x, instObj 173 dx) :: (dx, hamD hs ts tq false) :: (L + 1 + 1 + 1 + 1, o4) :: (L + 1 + 1 + 1, o3) :: (L + 1 + 1, o2) :: (L + 1, o1') :: (lw, LCg.lst vs) :: news) → TriplesOk ps'.toList → s'.os = s.os → AllBare s'.gens → Q (.ret (.bool true)) s') :
    wpAny (model pg w) A (exec (lawS w 10) (lawEnv w L)) Q E s := by
  unfold lawEnv
  conv in lawS _ _ => whnf
  repeat (conv in lawFd _ => whnf)
  dsimp only
  obtain ⟨KX, TX⟩ := X
  have hw' : ∀ x ∈ ws, 0 < x.length ∧ x.length < 1000 := fun x hx => ⟨(hw x hx).1, by have := (hw x hx).2; omega⟩
  have hLs : s.heap.IsList lw vs.toArray := ⟨_, (N (lw, LCg.lst vs) (by k_mem)).1, rfl, _, rfl⟩
  have hvl := hv.len_eq
  have hd0m : ws.getD (Int.toNat 0) Str.empty ∈ ws := by
    have h0 : 0 < ws.length := by omega
    show ws.getD 0 Str.empty ∈ ws
    rw [List.getD_eq_getElem?_getD, List.getElem?_eq_getElem h0]; exact List.getElem_mem h0
  have hd1m : ws.getD (Int.toNat 1) Str.empty ∈ ws := by
    have h0 : 1 < ws.length := by omega
    show ws.getD 1 Str.empty ∈ ws
    rw [List.getD_eq_getElem?_getD, List.getElem?_eq_getElem h0]; exact List.getElem_mem h0
  have hd0 := hw _ hd0m
  have hd1 := hw _ hd1m
  walk_at "mine go"
  refine wpAny_call ?_
  refine dist_ct (ps := ps) (vs := [_, _]) (ws := [ws.getD (Int.toNat 0) Str.empty, th]) hh (by omega) F ⟨KX, TX⟩ BM N hne htr hG (by k_mem) (by k_mem) (.cons _ _ (.cons _ _ .nil)) (by simp) (by simp only [List.forall_mem_cons]; exact ⟨by omega, by omega, by simp⟩) ha fun s3 ps3 t3 F3 N3 ht3 hos3 hG3 => ?_
  clear F N hLs
  have hLs : Heap.IsList _ lw vs.toArray := ⟨_, (N3 (lw, LCg.lst vs) (by k_mem)).1, rfl, _, rfl⟩
  walk_at "mine go"
  refine wpAny_call ?_
  refine dist_ct (ps := ps3) (vs := [_, _]) (ws := [ws.getD (Int.toNat 0) Str.empty, ws.getD (Int.toNat 1) Str.empty]) hh (by omega) F3 ⟨KX, TX⟩ BM N3 hne ht3 hG3 (by k_mem) (by k_mem) (.cons _ _ (.cons _ _ .nil)) (by simp) (by simp only [List.forall_mem_cons]; exact ⟨by omega, by omega, by simp⟩) hb fun s4 ps4 t4 F4 N4 ht4 hos4 hG4 => ?_
  clear F3 N3 hLs
  have hLs : Heap.IsList _ lw vs.toArray := ⟨_, (N4 (lw, LCg.lst vs) (by k_mem)).1, rfl, _, rfl⟩
  walk_at "mine go"
  refine wpAny_call ?_
  refine dist_ct (ps := ps4) (vs := [_, _]) (ws := [ws.getD (Int.toNat 1) Str.empty, th]) hh (by omega) F4 ⟨KX, TX⟩ BM N4 hne ht4 hG4 (by k_mem) (by k_mem) (.cons _ _ (.cons _ _ .nil)) (by simp) (by simp only [List.forall_mem_cons]; exact ⟨by omega, by omega, by simp⟩) hc fun s5 ps5 t5 F5 N5 ht5 hos5 hG5 => ?_
  clear F4 N4 hLs
  walk_at "mine go"
  have e9 : decide ((a : Int) ≤ (b : Int) + (c : Int)) = true := decide_eq_true (by omega)
  rw [e9]
  exact h _ ps5 F5 N5 ht5 (hos5.trans (hos4.trans hos3)) hG5

end
end Mine
end

section
open PySem PySem.W PySem.Calls PyProof PyProof.Rows PySem.Spec
namespace Mine
set_option maxRecDepth 100000
theorem lt_item {x : Str} {i : Nat} (h : i < x.length) : lt x i = some (Txt.item x (i : Int)) := by
  rw [lt_some h, PySem.W.item_meets ⟨by omega, by omega⟩]; rfl
theorem getD0_mem {ws : List Str} (h : 0 < ws.length) : ws.getD (Int.toNat 0) Str.empty ∈ ws := by
  show ws.getD 0 Str.empty ∈ ws
  rw [List.getD_eq_getElem?_getD, List.getElem?_eq_getElem h]; exact List.getElem_mem h
theorem bads_cc {ws : List Str} {sh : Nat} (h0 : 0 < ws.length) (h : ∀ x ∈ ws, sh ≤ x.length) : bads ws sh = cc ws sh := by
  unfold bads cc
  congr 1
  refine List.filter_congr fun i hi => ?_
  have hi := List.mem_range.mp hi
  have hm := getD0_mem h0
  have hne : ws ≠ [] := by rintro rfl; exact Nat.lt_irrefl 0 h0
  rw [Bool.eq_iff_iff, Bool.not_eq_true', ← Bool.not_eq_true, same_col]
  unfold bad
  rw [List.any_eq_true]
  constructor
  · rintro ⟨x, hx, hp⟩ ⟨_, hall⟩
    have e := hall x hx _ hm
    rw [lt_item (Nat.lt_of_lt_of_le hi (h x hx)), lt_item (Nat.lt_of_lt_of_le hi (h _ hm))] at e
    exact (bne_iff_ne.mp hp) (Option.some.inj e)
  · intro hn
    have hall : ¬ ∀ x ∈ ws, Txt.item x (i : Int) = Txt.item (ws.getD (Int.toNat 0) Str.empty) (i : Int) := fun g => hn ⟨hne, fun x hx y hy => by
      rw [lt_item (Nat.lt_of_lt_of_le hi (h x hx)), lt_item (Nat.lt_of_lt_of_le hi (h y hy)), g x hx, g y hy]⟩
    apply Classical.byContradiction
    intro hno
    refine hall fun x hx => ?_
    apply Classical.byContradiction
    intro hx2
    exact hno ⟨x, hx, bne_iff_ne.mpr hx2⟩
theorem bads_le (ws : List Str) (n : Nat) : bads ws n ≤ n := by
  unfold bads
  have := List.length_filter_le (bad ws) (List.range n)
  rw [List.length_range] at this
  exact this

/-- what the law asks of its counts -/
structure Facts (ws : List Str) (sh lo pl wi : Nat) : Prop where
  sum : pl + sh = wi + lo
  le : wi ≤ sh
  p : HamN false ws pl
  c : HamN true ws wi
  r : HamN false ws.reverse pl
  pf : ∀ f : Str, HamN false (ws.map fun x => f ++ x) pl
  cf : ∀ f : Str, HamN true (ws.map fun x => f ++ x) wi
  p0 : pl = 0 ↔ ∀ x ∈ ws, (x != ws.getD (Int.toNat 0) Str.empty) = false
  c0 : wi = 0 ↔ ∀ x ∈ ws, (Txt.slice x none (some (sh : Int)) != Txt.slice (ws.getD (Int.toNat 0) Str.empty) none (some (sh : Int))) = false

theorem facts {ws : List Str} {sh lo : Nat} (h0 : 0 < ws.length) (h1 : ∀ x ∈ ws, sh ≤ x.length) (h2 : ∃ x ∈ ws, x.length = sh) (h3 : ∀ x ∈ ws, x.length ≤ lo) (h4 : ∃ x ∈ ws, x.length = lo) :
    Facts ws sh lo (bads ws sh + (lo - sh)) (bads ws sh) := by
  have hle : sh ≤ lo := by obtain ⟨x, hx, e⟩ := h2; have := h3 x hx; omega
  have hne : ws ≠ [] := by rintro rfl; exact Nat.lt_irrefl 0 h0
  have hm := getD0_mem h0
  have e1 : bads ws sh = cc ws sh := bads_cc h0 h1
  have e2 : bads ws sh + (lo - sh) = cc ws lo := by rw [e1, cc_tail h2 h4 hle]
  refine ⟨by omega, bads_le ws sh, ?_, ?_, ?_, fun f => ?_, fun f => ?_, ?_, ?_⟩
  · rw [e2]; exact ham_false h3 h4
  · rw [e1]; exact ham_true h1 h2
  · rw [e2, cc_mem (ws' := ws.reverse) lo fun x => List.mem_reverse.symm]
    exact ham_false (fun x hx => h3 x (List.mem_reverse.mp hx)) (let ⟨x, hx, e⟩ := h4; ⟨x, List.mem_reverse.mpr hx, e⟩)
  · rw [e2, ← cc_prefix (f := f) hne]
    refine ham_false (fun z hz => ?_) ?_
    · obtain ⟨x, hx, rfl⟩ := List.mem_map.mp hz
      have := h3 x hx
      rw [Str.length_append]; omega
    · obtain ⟨x, hx, e⟩ := h4
      exact ⟨f ++ x, List.mem_map_of_mem (f := fun x => f ++ x) hx, by rw [Str.length_append, e]⟩
  · rw [e1, ← cc_prefix (f := f) hne]
    refine ham_true (fun z hz => ?_) ?_
    · obtain ⟨x, hx, rfl⟩ := List.mem_map.mp hz
      have := h1 x hx
      rw [Str.length_append]; omega
    · obtain ⟨x, hx, e⟩ := h2
      exact ⟨f ++ x, List.mem_map_of_mem (f := fun x => f ++ x) hx, by rw [Str.length_append, e]⟩
  · rw [e2, ham0_false hne h3]
    constructor
    · intro h x hx
      rw [h x hx _ hm]; simp
    · intro h x hx y hy
      have a := h x hx
      have b := h y hy
      rw [bne_eq_false_iff_eq] at a b
      rw [a, b]
  · rw [e1, ham0_true hne h1]
    constructor
    · intro h x hx
      rw [h x hx _ hm]; simp
    · intro h x hx y hy
      have a := h x hx
      have b := h y hy
      rw [bne_eq_false_iff_eq] at a b
      rw [a, b]
end Mine
end

section
open PySem PySem.W PySem.Calls PyProof.Rows PySem.Spec
namespace Mine
set_option maxRecDepth 100000
set_option maxHeartbeats 0
theorem cells_four {cm : Str → Option Value} {n1 n2 n3 n4 : Str} {c1 c2 c3 c4 : Addr} {cells : List (Addr × Obj)} (x : CellsAre cm [(n1, c1), (n2, c2), (n3, c3), (n4, c4)] cells) :
    ∃ o1 o2 o3 o4, cells = [(c1, o1), (c2, o2), (c3, o3), (c4, o4)] ∧ o1.data = .cell (cm n1) ∧ o2.data = .cell (cm n2) ∧ o3.data = .cell (cm n3) ∧ o4.data = .cell (cm n4) := by
  cases x with
  | cons h1 x =>
    cases x with
    | cons h2 x =>
      obtain ⟨o3, o4, rfl, h3, h4⟩ := x.two
      exact ⟨_, _, o3, o4, rfl, h1, h2, h3, h4⟩
theorem law_ct {w : World} {mg mb : Str → Option Value} {p : Program} {loose : List Str} {mean : ExcName → Option Value} {s : Shared} {l : Addr} {vs : List Value} {ns : List Int} {R : Result → Shared → Prop}
    (KX : (hd.heap_39 w.params).In s.heap) (hT : TabsAt [(169, 167)] s.heap) (T : Top p loose mean mg mb s.heap) (hl : s.heap.IsList l vs.toArray) (hi : IntsAre vs ns) (hlen : ns.length ≤ 63) (hG : AllBare s.gens)
    (h : ∀ s' L m ps', Fr (ghostOf s.heap [(169, 167)]) L s'.heap m → News (ghostOf s.heap [(169, 167)]) L s'.heap [(167, tabObj ps')] → s'.os = s.os → AllBare s'.gens → R (.ok (.ret (.bool true))) s') :
    codeAny (model pg w) callerA (.call (.ref 192) ⟨[.ref l], []⟩) R s := by
  have hst : (ghostOf s.heap [(169, 167)]).StaysIn s.heap := fun b o e => of_hideAll _ e
  have X₀ := ghost_K hT KX (by kernel_rfl)
  have T₀ := ghost_top hT T
  have hl₀ := ghost_list hT hl
  obtain ⟨bm, ob, BM⟩ := bmod_of_top T₀
  have TR := topRead_of T₀
  have e167 : s.heap.get? 167 = some (tabObj #[]) := (hT (169, 167) List.mem_cons_self).2
  have N₀ : ∀ p ∈ [((167 : Addr), tabObj #[])], s.heap.get? p.1 = some p.2 ∧ (ghostOf s.heap [(169, 167)]).get? p.1 = none := fun p hp => by
    rw [List.mem_singleton.mp hp]
    exact ⟨e167, hideAll_none _ (by simp)⟩
  refine' enter_topC (K := hd.heap_39 w.params) (binds := ?b) hst (Nat.le_of_eq (hideAll_size _ _)) X₀ T₀.nolimit N₀ ?k1 ?k2 ?k0 ?k3 ?k5 ?k6 ?_ ?c1 ?c2 ?c3
  case k0 => decide
  case k1 => k_is
  case k2 => k_is
  case k3 => exact BindsTo.of_eq (by with_unfolding_all rfl)
  case k5 => exact kindsX rfl
  case k6 => decide +kernel
  case c1 => rfl
  case c2 => rfl
  case c3 => rfl
  intro L h₁ tk cells F N Y lt
  obtain ⟨o4, o3, o2, o1, rfl, hc4, hc3, hc2, hc1⟩ := cells_four Y
  have h167 : (167 : Nat) < L := lt (167, tabObj #[]) (List.mem_singleton.mpr rfl)
  replace hc4 : o4.data = .cell none := hc4
  replace hc3 : o3.data = .cell none := hc3
  replace hc2 : o2.data = .cell none := hc2
  replace hc1 : o1.data = .cell (some (.ref l)) := hc1
  replace N : News (ghostOf s.heap [(169, 167)]) L h₁ ((L + 1 + 1 + 1 + 1, o4) :: (L + 1 + 1 + 1, o3) :: (L + 1 + 1, o2) :: (L + 1, o1) :: [(167, tabObj #[])]) := N
  have X : Amb w mg mb _ _ _ := ⟨X₀, TR⟩
  clear Y lt N₀ hst T₀ KX hT T hl e167
  have hap : ∀ p ∈ [((167 : Addr), tabObj #[])], Apart L p.1 := fun p hp => by
    rw [List.mem_singleton.mp hp]
    exact ⟨Nat.ne_of_lt (by omega), Nat.ne_of_lt (by omega), Nat.ne_of_lt (by omega), Nat.ne_of_lt (by omega)⟩
  have hD : callerA.depth + 40 < recursionLimit := by decide
  have hroom : (callerA.deeper (lawEnv w L)).depth + 30 < recursionLimit := by simp only [depth_deeper]; omega
  have hh : (callerA.deeper (lawEnv w L)).handled = none := rfl
  have hun : (callerA.deeper (lawEnv w L)).units < cLine := by show (4 + 3 : Nat) < 9900; decide
  show wpAny (model pg w) (callerA.deeper (lawEnv w L)) (execs [lawS w 0, lawS w 1, lawS w 2, lawS w 3, lawS w 4, lawS w 5, lawS w 6, lawS w 7, lawS w 8, lawS w 9, lawS w 10] (lawEnv w L)) _ _ _
  generalize callerA.deeper (lawEnv w L) = A at hroom hun hh ⊢
  refine wpAny_execs_cons ?_
  refine seg0 hh (by omega) F X N hl₀ hi (by omega) hc1 hc2 hap fun h' tk lw ys ws o2' ho2 hsw hsz hw hfr F N => ?_
  show wpAny _ _ (execs _ _) _ _ _
  have hsw' := hsw.len_eq
  have n167 : (167 : Nat) ≠ lw := hfr (167, tabObj #[]) (by simp)
  have hap2 : ∀ p ∈ [(lw, LCg.lst ys), ((167 : Addr), tabObj #[])], Apart L p.1 := fun p hp => by
    rcases List.mem_cons.mp hp with rfl | hp
    · exact ⟨fun e => hfr (L + 1, o1) (by simp) e.symm, fun e => hfr (L + 1 + 1, o2) (by simp) e.symm, fun e => hfr (L + 1 + 1 + 1, o3) (by simp) e.symm, fun e => hfr (L + 1 + 1 + 1 + 1, o4) (by simp) e.symm⟩
    · exact hap p hp
  clear hc2
  refine wpAny_execs_cons ?_
  refine seg1 hh (by omega) F X N ho2 hc3 hap2 hsw hsz hw fun h' tk o3' sh lo t1 t2 ho3 hs1 hs2 hs3 hs4 F N => ?_
  show wpAny _ _ (execs _ _) _ _ _
  clear hc3
  have hsh7 : sh ≤ 7 := by obtain ⟨x, hx, e⟩ := hs2; have := (hw x hx).2; omega
  have hlo7 : lo ≤ 7 := by obtain ⟨x, hx, e⟩ := hs4; have := (hw x hx).2; omega
  refine wpAny_execs_cons ?_
  refine seg2 hh (by omega) hun F X N ho2 ho3 hap2 hsw hsz hw hs1 hsh7 fun h' tk t3 F N => ?_
  show wpAny _ _ (execs _ _) _ _ _
  refine wpAny_execs_cons ?_
  refine seg3 hh (by omega) F X N fun h' tk x dx hs ts tq x₂ dx₂ hs₂ ts₂ tq₂ l1 l2 l3 l4 F N => ?_
  show wpAny _ _ (execs _ _) _ _ _
  have fa := facts (ws := ws) (by omega) hs1 hs2 hs3 hs4
  have hwi : bads ws sh ≤ sh := fa.le
  generalize hpl : bads ws sh + (lo - sh) = pl at fa
  generalize bads ws sh = wi at F fa hwi hpl
  have d4 : L + 1 + 1 + 1 + 1 < dx := l1 (L + 1 + 1 + 1 + 1, o4) (by simp)
  replace N : News (ghostOf s.heap [(169, 167)]) L _ ((167, tabObj #[]) :: (x₂, instObj 173 dx₂) :: (dx₂, hamD hs₂ ts₂ tq₂ true) :: (x, instObj 173 dx) :: (dx, hamD hs ts tq false) :: (L + 1 + 1 + 1 + 1, o4) :: (L + 1 + 1 + 1, o3') :: (L + 1 + 1, o2') :: (L + 1, o1) :: (lw, LCg.lst ys) :: []) :=
    news_sub N fun p hp => by
      simp only [List.mem_cons, List.not_mem_nil, or_false] at hp ⊢
      rcases hp with h | h | h | h | h | h | h | h | h | h <;> simp [h]
  have hne : ∀ o4', ∀ p ∈ (x₂, instObj 173 dx₂) :: (dx₂, hamD hs₂ ts₂ tq₂ true) :: (x, instObj 173 dx) :: (dx, hamD hs ts tq false) :: (L + 1 + 1 + 1 + 1, o4') :: (L + 1 + 1 + 1, o3') :: (L + 1 + 1, o2') :: (L + 1, o1) :: (lw, LCg.lst ys) :: [], p.1 ≠ 167 := fun o4' p hp => by
    have e4 : (167 : Nat) < dx := Nat.lt_trans (Nat.lt_of_lt_of_le h167 (Nat.le_add_right L 4)) d4
    have e5 : (167 : Nat) < x := Nat.lt_trans e4 l2
    have e6 : (167 : Nat) < dx₂ := Nat.lt_trans e5 l3
    have e7 : (167 : Nat) < x₂ := Nat.lt_trans e6 l4
    simp only [List.mem_cons, List.not_mem_nil, or_false] at hp
    rcases hp with rfl | rfl | rfl | rfl | rfl | rfl | rfl | rfl | rfl
    · exact Nat.ne_of_gt e7
    · exact Nat.ne_of_gt e6
    · exact Nat.ne_of_gt e5
    · exact Nat.ne_of_gt e4
    · exact Nat.ne_of_gt (by omega)
    · exact Nat.ne_of_gt (by omega)
    · exact Nat.ne_of_gt (by omega)
    · exact Nat.ne_of_gt (by omega)
    · exact Ne.symm n167
  refine wpAny_execs_cons ?_
  refine seg4 hh hroom hun F X BM N (hne o4) trivial hG ho2 ho3 hsw hsz hw hsh7 hlo7 fa.sum hwi fa.p fa.c fun s4 ps4 F N ht4 hos4 hG4 => ?_
  show wpAny _ _ (execs _ _) _ _ _
  refine wpAny_execs_cons ?_
  refine seg5 hh hroom hun F X BM N (hne o4) ht4 hG4 ho2 ho3 hsw hsz hw hlo7 fa.p fa.r hs3 hs4 fun s5 ps5 F N ht5 hos5 hG5 => ?_
  show wpAny _ _ (execs _ _) _ _ _
  refine wpAny_execs_cons ?_
  refine seg6 (sh := sh) (pl := pl) hh hroom hun F X BM N (hne o4) ht5 hG5 ho2 ho3 hsw hsz hw hc4 (fun p hp => hap2 p (by simp only [List.mem_cons, List.not_mem_nil, or_false] at hp ⊢; exact .inl hp)) ⟨d4, l2, l3, l4⟩ fun h' tk f tf o4' ho4 hf8 F N => ?_
  show wpAny _ _ (execs _ _) _ _ _
  refine wpAny_execs_cons ?_
  refine seg7 (sh := sh) hh hroom hun F X BM N (hne o4') ht5 hG5 ho2 ho3 hsw hsz hw ho4 hf8 fa.p (fa.pf f) (fa.cf f) fun s7 ps7 F N ht7 hos7 hG7 => ?_
  show wpAny _ _ (execs _ _) _ _ _
  refine wpAny_execs_cons ?_
  refine seg8 hh hroom hun F X BM N (hne o4') ht7 hG7 ho2 ho3 hsw hsz hw hsh7 fa.p fa.c fa.p0 fa.c0 fun s8 ps8 F N ht8 hos8 hG8 => ?_
  show wpAny _ _ (execs _ _) _ _ _
  refine wpAny_execs_cons ?_
  refine seg9 (sh := sh) (pl := pl) hh hroom hun F X BM N (hne o4') ht8 hG8 ho2 ho3 hsw hsz hw trivial fun h' tk th tt hth8 hth0 F N => ?_
  show wpAny _ _ (execs _ _) _ _ _
  refine wpAny_execs_cons ?_
  refine seg10 (sh := sh) (pl := pl) hh hroom hun F X BM N (hne o4') ht8 hG8 ho2 ho3 hsw hsz hw ⟨hth0, hth8⟩ (ham_two _ _) (ham_two _ _) (ham_two _ _) (d2_tri _ _ _) fun s10 ps10 F N ht10 hos10 hG10 => ?_
  exact h s10 L _ ps10 F (news_sub N fun p hp => by rw [List.mem_singleton.mp hp]; exact List.mem_cons_self) (hos10.trans (hos8.trans (hos7.trans (hos5.trans hos4)))) hG10
end Mine
end

section
open PySem PySem.W PySem.Calls PyProof.Rows PySem.Spec
namespace Mine
theorem old_of {s₁ s' : Shared} {L : Addr} {m : Str → Option Value} {ps' : Array Value} (hT : TabsAt [(169, 167)] s₁.heap) (F : Fr (ghostOf s₁.heap [(169, 167)]) L s'.heap m) (N : News (ghostOf s₁.heap [(169, 167)]) L s'.heap [(167, tabObj ps')]) : OldK s₁.heap s'.heap := by
  have hq := hT (169, 167) List.mem_cons_self
  have h' := (N (167, tabObj ps') List.mem_cons_self).1
  refine ⟨fun b o e => ?_, fun b o e => ?_⟩
  · by_cases hb : b = 167
    · subst hb
      have e2 := hq.2
      rw [e] at e2
      obtain rfl := Option.some.inj e2
      exact .inr (.inl ⟨(hq.1.tab hq.2).isCodeTable, rfl, #[], ps', rfl, by rw [Array.empty_append]; exact h'⟩)
    · exact .inl (F.keep b o (ghost_ne e (by simpa using hb)))
  · by_cases hb : b = 167
    · subst hb; exact ⟨_, h'⟩
    · exact ⟨o, F.keep b o (ghost_ne e (by simpa using hb))⟩
end Mine
set_option maxRecDepth 100000 in
set_option maxHeartbeats 8000000 in
theorem PySem.Challenge.cw_br0029_01_holds : PySem.Challenge.rw_br0029_01.Holds := by
  w_on
  o_law
  o_head (kmHook Mine.hd.heap_39 [2, 3, 15, 17, 18, 20, 21, 22, 25, 26, 34, 35, 37, 38, 40, 41, 42, 44, 45, 47, 48, 49, 51, 52, 54, 55, 56, 57, 58, 59, 61, 62, 64, 65, 66, 68, 69, 71, 72, 73, 75, 76, 78, 79, 80, 82, 83, 85, 86, 87, 89, 90, 92, 93, 94, 96, 97, 99, 100, 101, 102, 103, 104, 107, 108, 109, 111, 112, 114, 115, 116, 118, 119, 121, 122, 123, 125, 126, 128, 129, 130, 132, 133, 135, 136, 137, 139, 140, 142, 143, 144, 145, 146, 147, 148, 151, 158, 159, 161, 162, 164, 165, 166, 169, 170, 171, 172, 173, 176, 178, 179, 181, 182, 183, 186, 187, 188, 191, 192] (fun _ => by kernel_rfl) [167])
  case hw => w_witness2
  k_fill
  intro w s₀ s₁ mg mb G Y fa o pm cd doc dV kV ho hd hcd hD hmg hg args vals as hpre hlay hrd hwl hlo
  have KX := km_in_of Y
  have hT8 := km_tabs_of Y
  have X := (Ground.X G).1
  have V := (Ground.X G).2
  refine Ground.open G ?_
  intro T B D TE TW
  wrow_args hpre hlay hrd hwl hlo
  all_goals (first | refine callC_kw (enter_call ?_) | refine enter_call ?_)
  have hT9 : TabsAt [(169, 167)] s₁.heap := fun q hq => by
    rw [List.mem_singleton.mp hq]
    exact ⟨codeHd_of_K (c := 169) (P := 167) KX (by kernel_rfl), hT8 167 (List.mem_singleton.mpr rfl)⟩
  have hfa : mg (Str.ofString "law") = some (.ref 192) := mg_of KX T.g (by k_is)
  have hfe : fa = 192 := by have q := hmg.symm.trans hfa; cases q; rfl
  subst hfe
  refine Mine.law_ct KX hT9 T (by assumption) (by assumption) (by omega) (.of_eq hg) fun s' L m ps' F N os gens => ?_
  refine ⟨.inl ⟨.bool true, _, _, rfl, raisesW_false (by wrow_none_raised), ReadsW.bool _, ?hp, fun _ => ⟨List.nodup_nil, fun a ha => nomatch ha⟩⟩, Mine.old_of hT9 F N, os, gens⟩
  wrow_post
end

