import PyProof.Rows.All
import Wide.All
import OpenK.AllK
import Wide.FinOn
import PySem.Challenge.RW_oy0078_01

set_option Elab.async false

section
open PySem PySem.W PyProof.Rows
set_option Elab.async false
set_option maxRecDepth 100000
set_option maxHeartbeats 8000000
namespace Mine
open_top hd for PySem.Challenge.rw_oy0078_01
theorem calm : True := by
  w_top off
  exact trivial
end Mine
end

section
open PySem PySem.W PyProof.Rows PySem.Spec PySem.Calls
set_option Elab.async false
set_option maxRecDepth 100000
set_option maxHeartbeats 8000000
namespace Mine

noncomputable abbrev PR : Program := PySem.Challenge.rw_oy0078_01.row.prog
noncomputable abbrev LS : List Str := looseW hd.view_39 [Str.ofString "_filemode_table"]

/-- an end that the walk leaves alone -/
def Stop (p : Prop) : Prop := p

/-- what a call finds: the caller's frame, the written part, the top -/
structure Rdy (w : World) (mean : ExcName → Option Value) (mg mb : Str → Option Value) (A : Around) (base : Heap) (env : Env) (outer : List Env) (h : Heap) : Prop where
  hand : A.handled = none
  fr : A.frames = some (env :: outer)
  below : Below A base (env :: outer) h
  k : (hd.heap_39 w.params).In h
  top : Top hd.view_39 LS mean mg mb h

/-- a call that keeps all that stood -/
def Ctr (w : World) (mean : ExcName → Option Value) (mg mb : Str → Option Value) (f : Addr) (vs : List Value) (k : Nat) (Pre : Heap → Prop) (Post : Heap → Value → Heap → Prop) : Prop :=
  ∀ (A : Around) (base : Heap) (env : Env) (outer : List Env) (s : Shared) (Q E : Value → Shared → Prop),
    Rdy w mean mg mb A base env outer s.heap → A.depth + k < recursionLimit → A.units + 8 * k < cLine → Pre s.heap →
    (∀ r h' tk', (∀ b o, s.heap.get? b = some o → h'.get? b = some o) → Post s.heap r h' → Q r { s with heap := h', toks := tk' }) →
    wpAny (model PR w) A (call (.ref f) vs) Q E s

section
variable {w : World} {A : Around} {s : Shared} {base : Heap} {K : Frag} {p : Program} {loose : List Str} {mean : ExcName → Option Value} {mg mb : Str → Option Value} {prog : Program}
theorem enterK {R : Result → Shared → Prop} {name qual : Str} {params : Arguments} {body : List Stmt} {scope : Scope} {dV kV doc pm cdv ct oc : Value} {an od : Option Addr} {osl : Array (Option Value)} {f : Addr} {args : Args} {binds : List (Str × Value)} {env : Env} {outer : List Env}
    (B : Below A base (env :: outer) s.heap) (X : K.In s.heap) (T : Top p loose mean mg mb s.heap)
    (ho : K.lookup f = some ⟨oc, od, .func (fnOf name qual params body scope dV kV doc pm an cdv ct), osl⟩) (hcd : codeIn K cdv qual = true) (hroom : A.depth < recursionLimit)
    (hbind : BindsTo s (fnOf name qual params body scope dV kV doc pm an cdv ct) args binds) (hloc : ∀ y ∈ binds, scope.names.lookup y.1 = some .local)
    (h : ∀ h₁, Fr s.heap s.heap.objs.size h₁ (fun y => binds.reverse.lookup y) → News s.heap s.heap.objs.size h₁ [] → Below A base (env :: outer) s.heap → K.In s.heap → Top p loose mean mg mb s.heap →
      wpAny (model prog w) (A.deeper (envOf qual scope s.heap.objs.size f cdv)) (execs body (envOf qual scope s.heap.objs.size f cdv))
        (fun fl s' => R (.ok (.ret (match fl with | .ret v => v | _ => .none))) s')
        (fun e s' => wpAny (model prog w) (A.deeper (envOf qual scope s.heap.objs.size f cdv)) (leaving (envOf qual scope s.heap.objs.size f cdv) e) (fun _ s'' => R (.error e) s'') (fun e' s'' => R (.error e') s'') s')
        { s with heap := h₁, toks := s.toks + binds.length })
    (hco : scope.isCoroutine = false) (hgen : scope.isGenerator = false) (hk : scope.kind = .function)
    (hcell : ∀ x ∈ scope.names, x.2 ≠ .cell) : codeAny (model prog w) A (.call (.ref f) args) R s := by
  refine codeAny_call_def (fd := fnOf name qual params body scope dV kV doc pm an cdv ct) (body := body) (binds := binds) hroom (X _ _ ho) rfl T.nolimit (codeRec_of X hcd) rfl hbind hcell hloc (fun h₁ hns hk₁ => ?_) hco hgen hk
  exact h h₁ ⟨hns, fun b o e => hk₁ b o e, Nat.le_refl _⟩ News.nil B X T
theorem enterN {R : Result → Shared → Prop} {name qual : Str} {params : Arguments} {body : List Stmt} {scope : Scope} {dV kV doc pm cdv ct oc : Value} {an od : Option Addr} {osl : Array (Option Value)} {f : Addr} {args : Args} {binds : List (Str × Value)} {env : Env} {outer : List Env}
    (B : Below A base (env :: outer) s.heap) (X : K.In s.heap) (T : Top p loose mean mg mb s.heap)
    (ho : K.lookup f = some ⟨oc, od, .func (fnOf name qual params body scope dV kV doc pm an cdv ct), osl⟩) (hcd : codeIn K cdv qual = true) (hroom : A.depth < recursionLimit)
    (hbind : BindsTo s (fnOf name qual params body scope dV kV doc pm an cdv ct) args binds) (hloc : ∀ y ∈ binds, scope.names.lookup y.1 = some .local)
    (h : ∀ h₁, Fr s.heap s.heap.objs.size h₁ (fun y => binds.reverse.lookup y) → News s.heap s.heap.objs.size h₁ [] →
      wpAny (model prog w) (A.deeper (envOf qual scope s.heap.objs.size f cdv)) (execs body (envOf qual scope s.heap.objs.size f cdv))
        (fun fl s' => R (.ok (.ret (match fl with | .ret v => v | _ => .none))) s') (fun _ _ => False)
        { s with heap := h₁, toks := s.toks + binds.length })
    (hco : scope.isCoroutine = false) (hgen : scope.isGenerator = false) (hk : scope.kind = .function)
    (hcell : ∀ x ∈ scope.names, x.2 ≠ .cell) : codeAny (model prog w) A (.call (.ref f) args) R s :=
  enterK B X T ho hcd hroom hbind hloc (fun h₁ F N _ _ _ => wpAny_mono (h h₁ F N) (fun _ _ x => x) (fun _ _ x => x.elim)) hco hgen hk hcell
end

/-- a contract taken inside a walked frame -/
theorem useC {w : World} {mean : ExcName → Option Value} {mg mb : Str → Option Value} {f : Addr} {vs : List Value} {k : Nat} {Pre : Heap → Prop} {Post : Heap → Value → Heap → Prop}
    (c : Ctr w mean mg mb f vs k Pre Post) {A : Around} {base h₀ : Heap} {env e' : Env} {outer : List Env} {L : Addr} {s : Shared} {m : Str → Option Value} {news : List (Addr × Obj)} {Q E : Value → Shared → Prop}
    (hh : A.handled = none) (B : Below A base (env :: outer) h₀) (X : (hd.heap_39 w.params).In h₀) (T : Top hd.view_39 LS mean mg mb h₀) (F : Fr h₀ L s.heap m) (N : News h₀ L s.heap news)
    (hfr : e'.frame = some L) (hk : e'.scope.kind = .function) (hd : A.depth + 1 + k < recursionLimit) (hu : A.units + 3 + 8 * k < cLine) (hp : Pre s.heap)
    (h : ∀ r h' tk', Fr h₀ L h' m → News h₀ L h' news → (∀ b o, s.heap.get? b = some o → h'.get? b = some o) → Post s.heap r h' → Q r { s with heap := h', toks := tk' }) :
    wpAny (model PR w) (A.deeper e') (call (.ref f) vs) Q E s :=
  c (A.deeper e') base e' (env :: outer) s Q E ⟨hh, Around.frames_deeper B.stack, pushX B F hfr hk, X.keeps F.keep, T.keeps F.keep⟩ hd hu hp fun r h' tk' hk' hp' =>
    h r h' tk' ⟨F.ns.keeps hk', fun b o e => hk' b o (F.keep b o e), F.above⟩ (fun p hp => ⟨hk' _ _ (N p hp).1, (N p hp).2⟩) hk' hp'
end Mine
end

section
open PySem PySem.W PyProof.Rows PySem.Spec PySem.Calls
set_option Elab.async false
set_option maxRecDepth 100000
set_option maxHeartbeats 2000000
namespace Mine
section
variable {prog : Program} {w : World} {A : Around} {E : Value → Shared → Prop} {s : Shared}

theorem nextOf_tuple_item {it t : Addr} {i : Nat} {items : Array Value} {x : Value} {Q : Value → Shared → Prop} (hit : s.heap.IsTupleIter it t i)
    (ht : s.heap.IsTuple t items) (hx : items[i]? = some x)
    (hQ : ∀ h', h'.IsTupleIter it t (i + 1) → Heap.SameBut it s.heap h' → Q x { s with heap := h' }) :
    wpAny (model prog w) A (Builtin.SmallTypes.nextOf (.ref it)) Q E s := by
  obtain ⟨o, ho, hc, hd⟩ := id hit
  obtain ⟨ol, hol, _, nl, hdl⟩ := ht
  unfold Builtin.SmallTypes.nextOf
  refine wpAny_bind (wpAny_callSpecial?_slot (name := Str.ofString "__next__") hit.typeIs F.slot_tuple_iterator_next
    (wpAny_call_entry F.slot_tuple_iterator_next hit.typeIs F.entry_tuple_iterator_next ?_ (F.args_tuple_iterator_next_1 _)))
  show wpAny _ _ (field (.ref it) 0 >>= _) _ _ s
  refine wpAny_bind (wpAny_field ho hd (x := .ref t) rfl ?_)
  show wpAny _ _ (if (Value.ref t == Value.none) = true then _ else _) _ _ s
  rw [if_neg (show ¬ ((Value.ref t == Value.none) = true) from Bool.false_ne_true)]
  show wpAny _ _ (field (.ref it) 1 >>= _) _ _ s
  refine wpAny_bind (wpAny_field ho hd (x := .int i 0) rfl ?_)
  show wpAny _ _ (seqItems? (.ref t) >>= _) _ _ s
  refine wpAny_bind (wpAny_seqItems hol hdl ?_)
  simp only [Int.toNat_natCast, hx]
  refine wpAny_bind (wpAny_setField ho hd (by simp) (wpAny_pure ⟨x, rfl, wpAny_pure (hQ _ ?_ (Heap.SameBut.update ..))⟩))
  exact ⟨_, Heap.get?_update_self _ ho (Obj.isFreed_of_fields (Obj.data_mapFields hd _)), (Obj.cls_mapFields ..).trans hc, by
    rw [Obj.data_mapFields hd]; simp [rawInt]⟩

theorem nextOf_tuple_end {it t : Addr} {i : Nat} {items : Array Value} {Q : Value → Shared → Prop} (hh : A.handled = none)
    (hit : s.heap.IsTupleIter it t i) (ht : s.heap.IsTuple t items) (hx : items[i]? = none)
    (hE : ∀ h' e, Heap.ExtBut it s.heap h' → (∃ o, h'.get? e = some o ∧ o.cls = .type "StopIteration") → E (.ref e) { s with heap := h' }) :
    wpAny (model prog w) A (Builtin.SmallTypes.nextOf (.ref it)) Q E s := by
  obtain ⟨o, ho, hc, hd⟩ := id hit
  obtain ⟨ol, hol, _, nl, hdl⟩ := ht
  unfold Builtin.SmallTypes.nextOf
  refine wpAny_bind (wpAny_callSpecial?_slot (name := Str.ofString "__next__") hit.typeIs F.slot_tuple_iterator_next
    (wpAny_call_entry F.slot_tuple_iterator_next hit.typeIs F.entry_tuple_iterator_next ?_ (F.args_tuple_iterator_next_1 _)))
  show wpAny _ _ (field (.ref it) 0 >>= _) _ _ s
  refine wpAny_bind (wpAny_field ho hd (x := .ref t) rfl ?_)
  show wpAny _ _ (if (Value.ref t == Value.none) = true then _ else _) _ _ s
  rw [if_neg (show ¬ ((Value.ref t == Value.none) = true) from Bool.false_ne_true)]
  show wpAny _ _ (field (.ref it) 1 >>= _) _ _ s
  refine wpAny_bind (wpAny_field ho hd (x := .int i 0) rfl ?_)
  show wpAny _ _ (seqItems? (.ref t) >>= _) _ _ s
  refine wpAny_bind (wpAny_seqItems hol hdl ?_)
  simp only [Int.toNat_natCast, hx]
  refine wpAny_bind (wpAny_rule (wpAny_bind (wpAny_setField ho hd (by simp) ?_)))
  show wpAny _ _ (newExc (.type "StopIteration") [] >>= _) _ _ _
  refine wpAny_bind ?_
  simp only [newExc, newTuple]
  refine wpAny_bind (wpAny_newObj_type ?_ (by size_fits))
  refine wpAny_bind (m := firstArgMember _ _) (wpAny_of_eq (a := Value.none) (by first | rfl | (simp only [firstArgMember]; rfl)) ?_)
  refine wpAny_newObj_type ?_ (by size_fits)
  simp only [raiseNew]
  refine wpAny_bind (wpAny_handled ?_)
  first | rw [show A.in1.handled = none from hh] | rw [hh]
  refine wpAny_bind (wpAny_pure (wpAny_throw ?_))
  exact hE _ _ (((Heap.SameBut.update ..).extBut.push _).push _) ⟨_, Heap.get?_push_size _ rfl, rfl⟩
end


theorem drawsTuple {prog : Program} {w : World} {A : Around} (hh : A.handled = none) (it l : Addr) (hne : l ≠ it) (items : Array Value) :
    Draws prog w A it [it, l] items.size (fun i v => items[i]? = some v) (fun i h => h.IsTupleIter it l i ∧ h.IsTuple l items) where
  live := fun _ _ st => let ⟨o, ho, _⟩ := st.1; ⟨o, ho⟩
  frame := fun _ _ _ st hk => ⟨st.1.at fun o e => hk it (by simp) o e, st.2.at fun o e => hk l (by simp) o e⟩
  item := fun i s Q E hi st hQ => by
    refine nextOf_tuple_item st.1 st.2 (x := items[i]) (by simp [hi]) fun h' hit' hs' => ?_
    exact hQ _ h' s.toks (by simp [hi]) ⟨hit', st.2.extBut hs'.extBut hne⟩ hs'
  done := fun s Q E st hE => nextOf_tuple_end hh st.1 st.2 (by simp) hE

theorem meets_enum_newT (l : Addr) (items : Array Value) (n : Nat) (dct : Option Addr) (sl : Array (Option Value)) :
    Meets (Builtin.«enumerate.__new__» ⟨[.type "enumerate", .ref l], []⟩) (fun _ R s => s.heap.get? l = some { cls := .type "tuple", dict := dct, data := .seq items n, slots := sl } ∧
      R (.ok (.ret (.ref (s.heap.push { cls := .type "tuple_iterator", data := .fields #[.ref l, .int 0 0] }).objs.size)))
        { s with heap := (s.heap.push { cls := .type "tuple_iterator", data := .fields #[.ref l, .int 0 0] }).push { cls := .type "enumerate", data := .fields #[.none, .bool false, .ref s.heap.objs.size, rawInt 0, .none, .none] } }) :=
  .of_wp fun prog w A R s h => by
    obtain ⟨hp, g, d, tk, os⟩ := s; obtain ⟨hl, h⟩ := h
    have hsub := sub_enumerate
    have hL : Heap.IsTuple (Shared.heap ⟨hp, g, d, tk, os⟩) l items := ⟨_, hl, rfl, n, rfl⟩
    wp_walk using AutoSeq1.wpAny_loadPart' hl
    refine wpAny_stack_any fun st => wpAny_pure ?_
    split
    · rename_i c _ _ _ _ _
      cases (c == Value.type "enumerate")
      · wp_walk using AutoSeq1.wpAny_loadPart' hl, wpAny_pyIter_tuple hL
        exact ⟨_, rfl, h⟩
      · wp_walk using AutoSeq1.wpAny_loadPart' hl, wpAny_pyIter_tuple hL
        exact ⟨_, rfl, h⟩
    · wp_walk using AutoSeq1.wpAny_loadPart' hl, wpAny_pyIter_tuple hL
      exact ⟨_, rfl, h⟩

section
variable {prog : Program} {w : World} {A : Around} {E : Value → Shared → Prop} {s : Shared}
theorem call_enum_tuple {l : Addr} {items : Array Value} {Q : Value → Shared → Prop} (hL : s.heap.IsTuple l items)
    (h : ∀ h', IsEnum h' (s.heap.objs.size + 1) s.heap.objs.size 0 .none → h'.IsTupleIter s.heap.objs.size l 0 → h'.objs.size = s.heap.objs.size + 2 →
      (∀ b o, s.heap.get? b = some o → h'.get? b = some o) → Q (.ref (s.heap.objs.size + 1)) { s with heap := h' }) :
    wpAny (model prog w) A (call (.type "enumerate") [.ref l]) Q E s := by
  obtain ⟨⟨c, dct, dt, sl⟩, hl, hc, n, hd⟩ := hL
  replace hc : c = .type "tuple" := hc
  replace hd : dt = .seq items n := hd
  subst hc hd
  refine callType_new F.called_enumerate (by decide) (F.typeCall_enumerate_1 _) (F.newCall_enumerate_1 _) (fun obj => F.args_object_init_2 obj _) F.entry_enumerate_new
    (meets_enum_newT l items n dct sl) ⟨hl, ?_⟩
  have hz : (s.heap.push { cls := .type "tuple_iterator", data := .fields #[.ref l, .int 0 0] }).objs.size = s.heap.objs.size + 1 := Heap.size_push ..
  show _ ∧ _
  rw [hz]
  have he : IsEnum ((s.heap.push { cls := .type "tuple_iterator", data := .fields #[.ref l, .int 0 0] }).push
      { cls := .type "enumerate", data := .fields #[.none, .bool false, .ref s.heap.objs.size, rawInt 0, .none, .none] }) (s.heap.objs.size + 1) s.heap.objs.size 0 .none := by
    have := Heap.get?_push_size (s.heap.push { cls := .type "tuple_iterator", data := .fields #[.ref l, .int 0 0] })
      (o := { cls := .type "enumerate", data := .fields #[.none, .bool false, .ref s.heap.objs.size, rawInt 0, .none, .none] }) rfl
    rw [hz] at this; exact this
  refine ⟨⟨_, he, rfl⟩, h _ he ⟨_, Heap.get?_push_of_some _ (Heap.get?_push_size _ rfl), rfl, rfl⟩ (by rw [Heap.size_push, hz]) fun b o x => Heap.get?_push_of_some _ (Heap.get?_push_of_some _ x)⟩

theorem letOwned_tupiter {elts : List Expr} {x1} {pos : Pos} {I l T : Addr} {i : Nat} {Q : Unit → Shared → Prop} (hit : s.heap.IsTupleIter I l i) (hQ : Q () s) :
    wpAny (model prog w) A (letOwnedTupleGo (.Tuple elts x1 pos) (.ref I) (.ref T)) Q E s := by
  obtain ⟨o, ho, hc, hd⟩ := hit
  unfold letOwnedTupleGo
  refine wpAny_bind (wpAny_load ho ?_)
  rw [hc, hd]
  show wpAny _ A (if (["enumerate", "zip", "dict_itemiterator", "dict_reverseitemiterator", "odict_iterator", "itertools.zip_longest", "itertools.pairwise"].contains "tuple_iterator" &&
      (#[.ref l, .int i 0] : Array Value)[0]? == some (rawInt T)) = true then _ else _) Q E s
  rw [if_neg (by
    intro h
    rw [show (["enumerate", "zip", "dict_itemiterator", "dict_reverseitemiterator", "odict_iterator", "itertools.zip_longest", "itertools.pairwise"].contains "tuple_iterator") = false from by decide, Bool.false_and] at h
    cases h)]
  exact wpAny_pure hQ
end
end Mine
end

section
open PySem PySem.W PyProof.Rows PySem.Spec PySem.Calls
set_option Elab.async false
set_option maxRecDepth 100000
set_option maxHeartbeats 2000000
namespace Mine
section
variable {prog : Program} {w : World} {A : Around} {s : Shared} {env : Env} {h₀ : Heap}

theorem forPairs {Q : Flow → Shared → Prop} {xi xc : Str} {pk pv pt pos : Pos} {x1 : Nat} {iter : Expr} {body orelse : List Stmt} {Ti : Addr} {items : Array Value} {m : Str → Option Value} {news : List (Addr × Obj)} {P2 : Nat → Value → Value → Prop}
    (hh : A.handled = none) (hxi : env.kindOf xi = some .local) (hxc : env.kindOf xc = some .local)
    (hp : (env.scope.kind == .class || (env.scope.kind == .module && env.locals != env.globals)) = false)
    (F : Fr h₀ env.locals s.heap m) (N : News h₀ env.locals s.heap news) (ht : h₀.IsTuple Ti items)
    (hpair : ∀ j v, items[j]? = some v → ∃ p v0 v1, v = .ref p ∧ h₀.IsTuple p #[v0, v1] ∧ P2 j v0 v1)
    (J : Nat → (Str → Option Value) → Prop) (h0 : J 0 m)
    (hiter : ∀ Q' : Value → Shared → Prop, Q' (.ref Ti) s → wpAny (model prog w) A (eval iter env) Q' (fun _ _ => False) s)
    (step : ∀ j v0 v1 m₁ I o h tk, j < items.size → P2 j v0 v1 → J j m₁ → (∀ p ∈ news, p.1 < I) → Fr h₀ env.locals h (fun y => if y = xc then some v1 else if y = xi then some v0 else m₁ y) →
      News h₀ env.locals h ((I, o) :: news) →
      wpAny (model prog w) A (execs body env) (fun f s₂ => Stop (match f with
        | .next | .cont => ∃ h' tk' m₂, s₂ = { s with heap := h', toks := tk' } ∧ Fr h₀ env.locals h' m₂ ∧ News h₀ env.locals h' ((I, o) :: news) ∧ J (j + 1) m₂
        | .brk => Q .next s₂
        | .ret v => Q (.ret v) s₂)) (fun _ _ => False) { s with heap := h, toks := tk })
    (done : ∀ m₁ h tk, J items.size m₁ → Fr h₀ env.locals h m₁ → News h₀ env.locals h news →
      wpAny (model prog w) A (execs orelse env) Q (fun _ _ => False) { s with heap := h, toks := tk })
    (hs : ∀ x, foldedSetIterable iter env x = pure x := by intro _; rfl) :
    wpAny (model prog w) A (exec (.For (.Tuple [.Name xi pk, .Name xc pv] x1 pt) iter body orelse pos) env) Q (fun _ _ => False) s := by
  refine wpAny_For (hiter _ ?_) hs
  have htT : h₀.IsTuple Ti items := ht
  obtain ⟨oT, hoT, _⟩ := id ht
  have hTlt : Ti < h₀.objs.size := Heap.lt_size hoT
  have hLlt : env.locals < s.heap.objs.size := F.ns.lt
  have hTI : Ti ≠ s.heap.objs.size := Nat.ne_of_lt (Nat.lt_trans (Nat.lt_of_lt_of_le hTlt F.above) hLlt)
  refine wpAny_pyIter_tuple (ht.at fun o e => F.keep _ o e) ?_
  generalize hI : s.heap.objs.size = I at *
  have hI0 : h₀.get? I = none := by
    cases q : h₀.get? I with
    | none => rfl
    | some o => have := Heap.lt_size (F.keep _ _ q); rw [hI] at this; exact absurd this (Nat.lt_irrefl _)
  have hLI : env.locals ≠ I := Nat.ne_of_lt hLlt
  have hnIl : ∀ p ∈ news, p.1 < I := fun p hp => by have := Heap.lt_size (N p hp).1; rw [hI] at this; exact this
  have hnI : ∀ p ∈ news, p.1 ≠ I := fun p hp => Nat.ne_of_lt (hnIl p hp)
  refine codeAny_forLoop_any
    (fun k s' => ∃ h' tk m' i, s' = { s with heap := h', toks := tk } ∧ h'.IsTupleIter I Ti i ∧ Fr h₀ env.locals h' m' ∧ News h₀ env.locals h' news ∧ J i m' ∧ i ≤ items.size ∧ k = items.size + 1 - i) ?_ (items.size + 1)
    ⟨_, s.toks, m, 0, rfl, ⟨_, hI ▸ Heap.get?_push_size _ rfl, rfl, rfl⟩, F.push _, fun p hp => ⟨Heap.get?_push_of_some _ (N p hp).1, (N p hp).2⟩, h0, Nat.zero_le _, rfl⟩
  rintro k s' ⟨H, tk, m', i, rfl, hit, F', N', hJ, hi, rfl⟩
  have htH : H.IsTuple Ti items := ht.at fun o e => F'.keep _ o e
  by_cases hlt : i < items.size
  · refine wpAny_pyNext_tuple_item hit htH (x := items[i]) (by simp [hlt]) fun h₁ hit₁ hs₁ => ?_
    obtain ⟨p, v0, v1, hv, hpt, hP2⟩ := hpair i items[i] (by simp [hlt])
    dsimp only
    rw [hv]
    have keep₁ : ∀ b o, b ≠ I → H.get? b = some o → h₁.get? b = some o := fun b o hb e => hs₁.extBut b o hb e
    have old : ∀ b o, h₀.get? b = some o → b ≠ I := fun b o e q => by rw [q, hI0] at e; cases e
    have F₁ : Fr h₀ env.locals h₁ m' := ⟨F'.ns.at' fun o e => keep₁ _ o hLI e, fun b o e => keep₁ b o (old b o e) (F'.keep b o e), F'.above⟩
    have N₁ : News h₀ env.locals h₁ news := fun q hq => ⟨keep₁ _ _ (hnI q hq) (N' q hq).1, (N' q hq).2⟩
    refine letOwned_tupiter hit₁ ?_
    refine wpAny_assign_Tuple hh (items := #[v0, v1]) (hpt.at fun o e => F₁.keep _ o e) rfl rfl fun h₃ hx₃ => ?_
    replace hx₃ : Heap.ExtBut h₁.objs.size h₁ h₃ := hx₃
    have up₃ : ∀ b o, h₁.get? b = some o → h₃.get? b = some o := fun b o x => hx₃ b o (Nat.ne_of_lt (Heap.lt_size x)) x
    have F₃ : Fr h₀ env.locals h₃ m' := ⟨F₁.ns.at' fun o e => up₃ _ o e, fun b o e => up₃ b o (F₁.keep b o e), F₁.above⟩
    have N₃ : News h₀ env.locals h₃ news := fun q hq => ⟨up₃ _ _ (N₁ q hq).1, (N₁ q hq).2⟩
    show wpAny _ A (do holding [v1] (assign (.Name xi pk) env v0); do holding [] (assign (.Name xc pv) env v1); pure ()) _ _ _
    refine wpAny_bind (wpAny_holding (wpAny_assign_Name (wpAny_storeName_local hxi F₃.ns (fun h₄ hn₄ hs₄ => ?_) hp)))
    replace hs₄ : Heap.SameBut env.locals h₃ h₄ := hs₄
    have F₄ := F₃.set hn₄ hs₄
    refine wpAny_bind (wpAny_holding (wpAny_assign_Name (wpAny_storeName_local hxc F₄.ns (fun h₅ hn₅ hs₅ => wpAny_pure ?_) hp)))
    replace hs₅ : Heap.SameBut env.locals h₄ h₅ := hs₅
    have F₅ := F₄.set hn₅ hs₅
    obtain ⟨oI, hoI, hcI, hdI⟩ := id hit₁
    have hI5 : h₅.get? I = some oI := (hs₅.2 I hLI.symm).trans ((hs₄.2 I hLI.symm).trans (up₃ I oI hoI))
    have N₅ : News h₀ env.locals h₅ ((I, oI) :: news) := fun q hq => by
      rcases List.mem_cons.mp hq with rfl | hq
      · exact ⟨hI5, hLI.symm, hI0⟩
      · exact ((N₃.set hs₄).set hs₅) q hq
    refine wpAny_mono (step i v0 v1 m' I oI _ _ hlt hP2 hJ hnIl F₅ N₅) (fun f s₃ h₆ => ?_) fun _ _ e => e.elim
    have cont : (∃ h' tk' m₂, s₃ = { s with heap := h', toks := tk' } ∧ Fr h₀ env.locals h' m₂ ∧ News h₀ env.locals h' ((I, oI) :: news) ∧ J (i + 1) m₂) →
        ∃ m, m < items.size + 1 - i ∧ ∃ h' tk m' i, s₃ = { s with heap := h', toks := tk } ∧ h'.IsTupleIter I Ti i ∧ Fr h₀ env.locals h' m' ∧ News h₀ env.locals h' news ∧ J i m' ∧ i ≤ items.size ∧ m = items.size + 1 - i := by
      rintro ⟨h', tk', m₂, e, F₆, N₆, hJ₆⟩
      exact ⟨items.size + 1 - (i + 1), by omega, h', tk', m₂, i + 1, e, ⟨oI, (N₆ _ (.head _)).1, hcI, hdI⟩, F₆, fun q hq => N₆ q (.tail _ hq), hJ₆, hlt, rfl⟩
    cases f with
    | ret v => exact h₆
    | brk => exact h₆
    | cont => exact cont h₆
    | next => exact cont h₆
  · have hin : i = items.size := by omega
    subst hin
    refine wpAny_pyNext_tuple_end hh hit htH (by simp) fun h₁ he₁ => ?_
    have old : ∀ b o, h₀.get? b = some o → b ≠ I := fun b o e q => by rw [q, hI0] at e; cases e
    have F₁ : Fr h₀ env.locals h₁ m' := ⟨F'.ns.at' fun o e => he₁ _ o hLI e, fun b o e => he₁ b o (old b o e) (F'.keep b o e), F'.above⟩
    have N₁ : News h₀ env.locals h₁ news := fun q hq => ⟨he₁ _ _ (hnI q hq) (N' q hq).1, (N' q hq).2⟩
    exact wpAny_mono (done m' h₁ tk hJ F₁ N₁) (fun _ _ x => x) fun _ _ x => x.elim
theorem forEnum {Q : Flow → Shared → Prop} {xi xc : Str} {pk pv pt pos : Pos} {x1 : Nat} {iter : Expr} {body orelse : List Stmt} {l : Addr} {items : Array Value} {m : Str → Option Value} {news : List (Addr × Obj)}
    (hh : A.handled = none) (hxi : env.kindOf xi = some .local) (hxc : env.kindOf xc = some .local)
    (hp : (env.scope.kind == .class || (env.scope.kind == .module && env.locals != env.globals)) = false)
    (F : Fr h₀ env.locals s.heap m) (N : News h₀ env.locals s.heap news) (ht : h₀.IsTuple l items)
    (J : Nat → (Str → Option Value) → List (Addr × Obj) → Prop) (h0 : J 0 m news)
    (hiter : ∀ Q' : Value → Shared → Prop, wpAny (model prog w) A (call (.type "enumerate") [.ref l]) Q' (fun _ _ => False) s → wpAny (model prog w) A (eval iter env) Q' (fun _ _ => False) s)
    (step : ∀ i t v1 m₁ news₁ e oe it oi h tk, items[i]? = some v1 → J i m₁ news₁ → news₁.map (·.1) = news.map (·.1) → (∀ p ∈ news, p.1 < it) → it < e →
      Fr h₀ env.locals h (fun y => if y = xc then some v1 else if y = xi then some (.int i t) else m₁ y) → News h₀ env.locals h ((e, oe) :: (it, oi) :: news₁) →
      wpAny (model prog w) A (execs body env) (fun f s₂ => Stop (match f with
        | .next | .cont => ∃ h' tk' m₂ news₂, s₂ = { s with heap := h', toks := tk' } ∧ Fr h₀ env.locals h' m₂ ∧ News h₀ env.locals h' ((e, oe) :: (it, oi) :: news₂) ∧ news₂.map (·.1) = news.map (·.1) ∧ J (i + 1) m₂ news₂
        | .brk => Q .next s₂
        | .ret v => Q (.ret v) s₂)) (fun _ _ => False) { s with heap := h, toks := tk })
    (done : ∀ m₁ news₁ h tk, J items.size m₁ news₁ → news₁.map (·.1) = news.map (·.1) → Fr h₀ env.locals h m₁ → News h₀ env.locals h news₁ →
      wpAny (model prog w) A (execs orelse env) Q (fun _ _ => False) { s with heap := h, toks := tk })
    (hs : ∀ x, foldedSetIterable iter env x = pure x := by intro _; rfl) :
    wpAny (model prog w) A (exec (.For (.Tuple [.Name xi pk, .Name xc pv] x1 pt) iter body orelse pos) env) Q (fun _ _ => False) s := by
  refine wpAny_For (hiter _ ?_) hs
  obtain ⟨oT, hoT, _⟩ := id ht
  have hTlt : l < h₀.objs.size := Heap.lt_size hoT
  have hLlt : env.locals < s.heap.objs.size := F.ns.lt
  have hTs : l < s.heap.objs.size := Nat.lt_trans (Nat.lt_of_lt_of_le hTlt F.above) hLlt
  refine call_enum_tuple (ht.at fun o e => F.keep _ o e) fun h₁ he hit hsz hk => ?_
  refine wpAny_pyIter_enum he ?_
  have hI0 : ∀ a, s.heap.objs.size ≤ a → h₀.get? a = none := fun a ha => by
    cases q : h₀.get? a with
    | none => rfl
    | some o => have := Heap.lt_size (F.keep _ _ q); exact absurd (Nat.lt_of_lt_of_le this ha) (Nat.lt_irrefl _)
  have hnl : ∀ p ∈ news, p.1 < s.heap.objs.size := fun p hp => Heap.lt_size (N p hp).1
  have F₁ : Fr h₀ env.locals h₁ m := ⟨F.ns.keeps hk, fun b o e => hk b o (F.keep b o e), F.above⟩
  have N₁ : News h₀ env.locals h₁ news := fun p hp => ⟨hk _ _ (N p hp).1, (N p hp).2⟩
  have W := WalksT.enumerateD (prog := prog) (w := w) (A := A) (drawsTuple (A := A.in1) hh s.heap.objs.size l (Nat.ne_of_lt hTs) items) (s.heap.objs.size + 1) (Nat.succ_ne_self _)
    (fun hm => by
      rcases List.mem_cons.mp hm with e | hm
      · exact Nat.succ_ne_self _ e
      · exact Nat.ne_of_gt (Nat.lt_succ_of_lt hTs) (List.mem_singleton.mp hm)) (by simp)
  generalize hit' : s.heap.objs.size = it at *
  have hLi : env.locals ≠ it := Nat.ne_of_lt hLlt
  have hLe : env.locals ≠ it + 1 := Nat.ne_of_lt (Nat.lt_succ_of_lt hLlt)
  have hli : l ≠ it := Nat.ne_of_lt hTs
  have hle : l ≠ it + 1 := Nat.ne_of_lt (Nat.lt_succ_of_lt hTs)
  have old : ∀ b o, h₀.get? b = some o → b ∉ [it + 1, it] := fun b o e hb => by
    rcases List.mem_cons.mp hb with q | hb
    · rw [q, hI0 _ (Nat.le_succ _)] at e; cases e
    · rw [List.mem_singleton.mp hb, hI0 _ (Nat.le_refl _)] at e; cases e
  have hLw : env.locals ∉ [it + 1, it] := fun hb => by
    rcases List.mem_cons.mp hb with q | hb
    · exact hLe q
    · exact hLi (List.mem_singleton.mp hb)
  have offw : ∀ news' : List (Addr × Obj), news'.map (·.1) = news.map (·.1) → ∀ p ∈ news', p.1 ∉ [it + 1, it] := fun news' ha p hp hb => by
    have : p.1 ∈ news.map (·.1) := ha ▸ List.mem_map.mpr ⟨p, hp, rfl⟩
    obtain ⟨q, hq, e⟩ := List.mem_map.mp this
    have hlt := hnl q hq
    rw [e] at hlt
    rcases List.mem_cons.mp hb with q | hb
    · rw [q] at hlt; exact absurd hlt (Nat.not_lt.mpr (Nat.le_succ _))
    · rw [List.mem_singleton.mp hb] at hlt; exact absurd hlt (Nat.lt_irrefl _)
  refine codeAny_forLoop_any
    (fun k s' => ∃ h' tk m' news' i, s' = { s with heap := h', toks := tk } ∧ ((∃ old, IsEnum h' (it + 1) it ((i : Nat) : Int) old) ∧ h'.IsTupleIter it l i ∧ h'.IsTuple l items) ∧ Fr h₀ env.locals h' m' ∧ News h₀ env.locals h' news' ∧ news'.map (·.1) = news.map (·.1) ∧ J i m' news' ∧ i ≤ items.size ∧ k = items.size + 1 - i) ?_ (items.size + 1)
    ⟨h₁, s.toks, m, news, 0, rfl, ⟨⟨_, he⟩, hit, ht.at fun o e => F₁.keep _ o e⟩, F₁, N₁, rfl, h0, Nat.zero_le _, rfl⟩
  rintro k s' ⟨H, tk, m', news', i, rfl, hst, F', N', ha', hJ, hi, rfl⟩
  have next : ∀ h₁ : Heap, (∀ b o, b ∉ [it + 1, it] → H.get? b = some o → h₁.get? b = some o) → Fr h₀ env.locals h₁ m' ∧ News h₀ env.locals h₁ news' := fun h₁ hk₁ =>
    ⟨⟨F'.ns.at' fun o e => hk₁ _ o hLw e, fun b o e => hk₁ b o (old b o e) (F'.keep b o e), F'.above⟩, fun p hp => ⟨hk₁ _ _ (offw news' ha' p hp) (N' p hp).1, (N' p hp).2⟩⟩
  by_cases hlt : i < items.size
  · refine W.item i _ _ _ hlt hst fun T vals h₂ tk₂ hPt _ hT hMid hk₂ => ?_
    obtain ⟨t, v1, hv1, rfl⟩ := hPt
    refine W.go _ x1 pt i T _ _ _ hMid fun h₃ hst₃ hk₃ => ?_
    have ht₃ : h₃.IsTuple T #[.int i t, v1] := hT.at fun o e => hk₃ T o (W.apart i T h₂ hMid) e
    refine wpAny_assign_Tuple hh ht₃ rfl rfl fun h₄ hx₄ => ?_
    replace hx₄ : Heap.ExtBut h₃.objs.size h₃ h₄ := hx₄
    have up₄ : ∀ b o, h₃.get? b = some o → h₄.get? b = some o := fun b o x => hx₄ b o (Nat.ne_of_lt (Heap.lt_size x)) x
    obtain ⟨F₄, N₄⟩ := next h₄ fun b o hb x => up₄ b o (hk₃ b o hb (hk₂ b o hb x))
    show wpAny _ A (do holding [v1] (assign (.Name xi pk) env (.int i t)); do holding [] (assign (.Name xc pv) env v1); pure ()) _ _ _
    refine wpAny_bind (wpAny_holding (wpAny_assign_Name (wpAny_storeName_local hxi F₄.ns (fun h₅ hn₅ hs₅ => ?_) hp)))
    replace hs₅ : Heap.SameBut env.locals h₄ h₅ := hs₅
    have F₅ := F₄.set hn₅ hs₅
    refine wpAny_bind (wpAny_holding (wpAny_assign_Name (wpAny_storeName_local hxc F₅.ns (fun h₆ hn₆ hs₆ => wpAny_pure ?_) hp)))
    replace hs₆ : Heap.SameBut env.locals h₅ h₆ := hs₆
    have F₆ := F₅.set hn₆ hs₆
    have N₆ : News h₀ env.locals h₆ news' := (N₄.set hs₅).set hs₆
    obtain ⟨⟨old₃, he₃⟩, hi₃, hl₃⟩ := id hst₃
    obtain ⟨oe, hoe, hoe'⟩ : ∃ oe, h₃.get? (it + 1) = some oe ∧ ∀ h', h'.get? (it + 1) = some oe → IsEnum h' (it + 1) it (((i + 1 : Nat)) : Int) old₃ := ⟨_, he₃, fun h' e => e⟩
    obtain ⟨oi, hoi, hci, hdi⟩ := id hi₃
    have up₆ : ∀ b o, b ≠ env.locals → h₃.get? b = some o → h₆.get? b = some o := fun b o hb x => (hs₆.2 b hb).trans ((hs₅.2 b hb).trans (up₄ b o x))
    have N₇ : News h₀ env.locals h₆ ((it + 1, oe) :: (it, oi) :: news') := fun q hq => by
      rcases List.mem_cons.mp hq with rfl | hq
      · exact ⟨up₆ _ _ hLe.symm hoe, hLe.symm, hI0 _ (Nat.le_succ _)⟩
      · rcases List.mem_cons.mp hq with rfl | hq
        · exact ⟨up₆ _ _ hLi.symm hoi, hLi.symm, hI0 _ (Nat.le_refl _)⟩
        · exact N₆ q hq
    refine wpAny_mono (step i t v1 m' news' (it + 1) oe it oi _ _ hv1 hJ ha' hnl (Nat.lt_succ_self _) F₆ N₇) (fun f s₃ h₆ => ?_) fun _ _ e => e.elim
    have cont : (∃ h' tk' m₂ news₂, s₃ = { s with heap := h', toks := tk' } ∧ Fr h₀ env.locals h' m₂ ∧ News h₀ env.locals h' ((it + 1, oe) :: (it, oi) :: news₂) ∧ news₂.map (·.1) = news.map (·.1) ∧ J (i + 1) m₂ news₂) →
        ∃ m, m < items.size + 1 - i ∧ ∃ h' tk m' news' i, s₃ = { s with heap := h', toks := tk } ∧ ((∃ old, IsEnum h' (it + 1) it ((i : Nat) : Int) old) ∧ h'.IsTupleIter it l i ∧ h'.IsTuple l items) ∧ Fr h₀ env.locals h' m' ∧ News h₀ env.locals h' news' ∧ news'.map (·.1) = news.map (·.1) ∧ J i m' news' ∧ i ≤ items.size ∧ m = items.size + 1 - i := by
      rintro ⟨h', tk', m₂, news₂, e, F₈, N₈, ha₈, hJ₈⟩
      exact ⟨items.size + 1 - (i + 1), by omega, h', tk', m₂, news₂, i + 1, e, ⟨⟨old₃, hoe' _ (N₈ _ (.head _)).1⟩, ⟨oi, (N₈ _ (.tail _ (.head _))).1, hci, hdi⟩, ht.at fun o e => F₈.keep _ o e⟩, F₈, fun q hq => N₈ q (.tail _ (.tail _ hq)), ha₈, hJ₈, hlt, rfl⟩
    cases f with
    | ret v => exact h₆
    | brk => exact h₆
    | cont => exact cont h₆
    | next => exact cont h₆
  · have hin : i = items.size := by omega
    subst hin
    refine W.done _ _ _ hst fun h₂ tk₂ hk₂ => ?_
    obtain ⟨F₂, N₂⟩ := next h₂ hk₂
    exact wpAny_mono (done m' news' h₂ tk₂ hJ ha' F₂ N₂) (fun _ _ x => x) fun _ _ x => x.elim
end
end Mine
end

section
open PySem PySem.W PyProof.Rows PySem.Spec PySem.Calls
set_option Elab.async false
set_option maxRecDepth 100000
set_option maxHeartbeats 2000000
namespace Mine

/-- an iterator at I: n items, S its object, D what it reads, P its items -/
structure It (prog : Program) (w : World) (A : Around) (I : Addr) (n : Nat) (S : Nat → Obj → Prop) (D : Heap → Prop) (P : Nat → Value → Prop) : Prop where
  item : ∀ (i : Nat) (o : Obj) (s : Shared) (Q : Option Value → Shared → Prop) (E : Value → Shared → Prop), i < n → s.heap.get? I = some o → S i o → D s.heap →
    (∀ v o' h' tk, P i v → h'.get? I = some o' → S (i + 1) o' → Heap.SameBut I s.heap h' → Q (some v) { s with heap := h', toks := tk }) → wpAny (model prog w) A (pyNext (.ref I)) Q E s
  done : ∀ (o : Obj) (s : Shared) (Q : Option Value → Shared → Prop) (E : Value → Shared → Prop), s.heap.get? I = some o → S n o → D s.heap →
    (∀ h', Heap.ExtBut I s.heap h' → Q none { s with heap := h' }) → wpAny (model prog w) A (pyNext (.ref I)) Q E s

theorem It.tuple {prog : Program} {w : World} {A : Around} (hh : A.handled = none) (I t : Addr) (items : Array Value) :
    It prog w A I items.size (fun i o => o.cls = .type "tuple_iterator" ∧ o.data = .fields #[.ref t, .int i 0]) (fun h => h.IsTuple t items) (fun i v => items[i]? = some v) where
  item := fun i o s Q E hi ho hS hD hQ => by
    refine wpAny_pyNext_tuple_item ⟨o, ho, hS⟩ hD (x := items[i]) (by simp [hi]) fun h' hit hs => ?_
    obtain ⟨o', ho', hS'⟩ := hit
    exact hQ _ o' h' s.toks (by simp [hi]) ho' hS' hs
  done := fun o s Q E ho hS hD hQ => wpAny_pyNext_tuple_end hh ⟨o, ho, hS⟩ hD (by simp) hQ
theorem It.list {prog : Program} {w : World} {A : Around} (hh : A.handled = none) (I t : Addr) (items : Array Value) :
    It prog w A I items.size (fun i o => o.cls = .type "list_iterator" ∧ o.data = .fields #[.ref t, .int i 0]) (fun h => h.IsList t items) (fun i v => items[i]? = some v) where
  item := fun i o s Q E hi ho hS hD hQ => by
    refine wpAny_pyNext_list_item ⟨o, ho, hS⟩ hD (x := items[i]) (by simp [hi]) fun h' hit hs => ?_
    obtain ⟨o', ho', hS'⟩ := hit
    exact hQ _ o' h' s.toks (by simp [hi]) ho' hS' hs
  done := fun o s Q E ho hS hD hQ => wpAny_pyNext_list_end hh ⟨o, ho, hS⟩ hD (by simp) hQ
theorem It.range {prog : Program} {w : World} {A : Around} (hh : A.handled = none) (I : Addr) (n : Nat) :
    It prog w A I n (fun i o => ∀ h : Heap, h.get? I = some o → IsRangeIter h I (i : Int) ((n : Int) - (i : Int)) 1) (fun _ => True) (fun i v => ∃ t, v = .int (i : Int) t) where
  item := fun i o s Q E hi ho hS _ hQ => by
    refine wpAny_pyNext_range_item (hS _ ho) (by omega) fun h' hit hs => ?_
    obtain ⟨o', ho', hS'⟩ : ∃ o', h'.get? I = some o' ∧ ∀ h : Heap, h.get? I = some o' → IsRangeIter h I ((i : Int) + 1) ((n : Int) - (i : Int) - 1) 1 := ⟨_, hit, fun h e => e⟩
    refine hQ _ o' h' _ ⟨_, rfl⟩ ho' (fun h e => ?_) hs
    have := hS' h e
    rw [show (((i + 1 : Nat)) : Int) = (i : Int) + 1 from by push_cast; rfl, show (n : Int) - ((i : Int) + 1) = (n : Int) - (i : Int) - 1 from by omega]
    exact this
  done := fun o s Q E ho hS _ hQ => wpAny_pyNext_range_end hh (hS _ ho) (by omega) hQ

section
variable {prog : Program} {w : World} {A : Around} {s : Shared} {env : Env} {h₀ : Heap}

theorem loopIt {Q : Flow → Shared → Prop} {x : Str} {px : Pos} {body orelse : List Stmt} {I : Addr} {n : Nat} {S : Nat → Obj → Prop} {D : Heap → Prop} {P : Nat → Value → Prop} {m : Str → Option Value} {news : List (Addr × Obj)} {oI : Obj}
    (T : It prog w A I n S D P) (hx : env.kindOf x = some .local)
    (hp : (env.scope.kind == .class || (env.scope.kind == .module && env.locals != env.globals)) = false)
    (F : Fr h₀ env.locals s.heap m) (N : News h₀ env.locals s.heap news) (hI : s.heap.get? I = some oI) (hS : S 0 oI) (hI0 : h₀.get? I = none) (hLI : env.locals ≠ I) (hnI : ∀ p ∈ news, p.1 < I)
    (J : Nat → (Str → Option Value) → List (Addr × Obj) → Prop) (h0 : J 0 m news)
    (hD : ∀ i m₁ news₁ h, J i m₁ news₁ → Fr h₀ env.locals h m₁ → News h₀ env.locals h news₁ → D h)
    (step : ∀ i v m₁ news₁ oI h tk, i < n → P i v → J i m₁ news₁ → news₁.map (·.1) = news.map (·.1) → (∀ p ∈ news, p.1 < I) → Fr h₀ env.locals h (fun y => if y = x then some v else m₁ y) →
      News h₀ env.locals h ((I, oI) :: news₁) →
      wpAny (model prog w) A (execs body env) (fun f s₂ => Stop (match f with
        | .next | .cont => ∃ h' tk' m₂ news₂, s₂ = { s with heap := h', toks := tk' } ∧ Fr h₀ env.locals h' m₂ ∧ News h₀ env.locals h' ((I, oI) :: news₂) ∧ news₂.map (·.1) = news.map (·.1) ∧ J (i + 1) m₂ news₂
        | .brk => Q .next s₂
        | .ret v => Q (.ret v) s₂)) (fun _ _ => False) { s with heap := h, toks := tk })
    (done : ∀ m₁ news₁ h tk, J n m₁ news₁ → news₁.map (·.1) = news.map (·.1) → Fr h₀ env.locals h m₁ → News h₀ env.locals h news₁ →
      wpAny (model prog w) A (execs orelse env) Q (fun _ _ => False) { s with heap := h, toks := tk }) :
    codeAny (model prog w) A (.forLoop (.Name x px) (.ref I) body orelse env) (fun r s' => match r with | .ok f => Q f s' | .error e => cameBackBy (model prog w) A env (fun _ _ => False) e s') s := by
  have old : ∀ b o, h₀.get? b = some o → b ≠ I := fun b o e q => by rw [q, hI0] at e; cases e
  have off : ∀ news' : List (Addr × Obj), news'.map (·.1) = news.map (·.1) → ∀ p ∈ news', p.1 ≠ I := fun news' ha p hp e => by
    have : p.1 ∈ news.map (·.1) := ha ▸ List.mem_map.mpr ⟨p, hp, rfl⟩
    obtain ⟨q, hq, e'⟩ := List.mem_map.mp this
    have hlt := hnI q hq
    rw [e', e] at hlt
    exact Nat.lt_irrefl _ hlt
  refine codeAny_forLoop_any
    (fun k s' => ∃ h' tk m' news' o i, s' = { s with heap := h', toks := tk } ∧ h'.get? I = some o ∧ S i o ∧ Fr h₀ env.locals h' m' ∧ News h₀ env.locals h' news' ∧ news'.map (·.1) = news.map (·.1) ∧ J i m' news' ∧ i ≤ n ∧ k = n + 1 - i) ?_ (n + 1)
    ⟨s.heap, s.toks, m, news, oI, 0, rfl, hI, hS, F, N, rfl, h0, Nat.zero_le _, rfl⟩
  rintro k s' ⟨H, tk, m', news', o, i, rfl, ho, hSi, F', N', ha', hJ, hi, rfl⟩
  have hDH := hD i m' news' H hJ F' N'
  by_cases hlt : i < n
  · refine T.item i o _ _ _ hlt ho hSi hDH fun v o' h₁ tk₁ hP ho' hS' hs₁ => ?_
    dsimp only
    have keep₁ : ∀ b o, b ≠ I → H.get? b = some o → h₁.get? b = some o := fun b o hb e => hs₁.extBut b o hb e
    have F₁ : Fr h₀ env.locals h₁ m' := ⟨F'.ns.at' fun o e => keep₁ _ o hLI e, fun b o e => keep₁ b o (old b o e) (F'.keep b o e), F'.above⟩
    have N₁ : News h₀ env.locals h₁ news' := fun q hq => ⟨keep₁ _ _ (off news' ha' q hq) (N' q hq).1, (N' q hq).2⟩
    refine wpAny_of_eq (rfl : letOwnedTupleGo (.Name x px) (.ref I) v = pure ()) ?_
    refine wpAny_assign_Name (wpAny_storeName_local hx F₁.ns (fun h₂ hn₂ hs₂ => ?_) hp)
    replace hs₂ : Heap.SameBut env.locals h₁ h₂ := hs₂
    have F₂ := F₁.set hn₂ hs₂
    have hI2 : h₂.get? I = some o' := (hs₂.2 I hLI.symm).trans ho'
    have N₂ : News h₀ env.locals h₂ ((I, o') :: news') := fun q hq => by
      rcases List.mem_cons.mp hq with rfl | hq
      · exact ⟨hI2, hLI.symm, hI0⟩
      · exact (N₁.set hs₂) q hq
    refine wpAny_mono (step i v m' news' o' _ _ hlt hP hJ ha' hnI F₂ N₂) (fun f s₃ h₆ => ?_) fun _ _ e => e.elim
    have cont : (∃ h' tk' m₂ news₂, s₃ = { s with heap := h', toks := tk' } ∧ Fr h₀ env.locals h' m₂ ∧ News h₀ env.locals h' ((I, o') :: news₂) ∧ news₂.map (·.1) = news.map (·.1) ∧ J (i + 1) m₂ news₂) →
        ∃ k, k < n + 1 - i ∧ ∃ h' tk m' news' o i, s₃ = { s with heap := h', toks := tk } ∧ h'.get? I = some o ∧ S i o ∧ Fr h₀ env.locals h' m' ∧ News h₀ env.locals h' news' ∧ news'.map (·.1) = news.map (·.1) ∧ J i m' news' ∧ i ≤ n ∧ k = n + 1 - i := by
      rintro ⟨h', tk', m₂, news₂, e, F₆, N₆, ha₆, hJ₆⟩
      exact ⟨n + 1 - (i + 1), by omega, h', tk', m₂, news₂, o', i + 1, e, (N₆ _ (.head _)).1, hS', F₆, fun q hq => N₆ q (.tail _ hq), ha₆, hJ₆, hlt, rfl⟩
    cases f with
    | ret v => exact h₆
    | brk => exact h₆
    | cont => exact cont h₆
    | next => exact cont h₆
  · have hin : i = n := by omega
    subst hin
    refine T.done o _ _ _ ho hSi hDH fun h₁ he₁ => ?_
    have F₁ : Fr h₀ env.locals h₁ m' := ⟨F'.ns.at' fun o e => he₁ _ o hLI e, fun b o e => he₁ b o (old b o e) (F'.keep b o e), F'.above⟩
    have N₁ : News h₀ env.locals h₁ news' := fun q hq => ⟨he₁ _ _ (off news' ha' q hq) (N' q hq).1, (N' q hq).2⟩
    exact wpAny_mono (done m' news' h₁ tk hJ ha' F₁ N₁) (fun _ _ x => x) fun _ _ x => x.elim

variable {Q : Flow → Shared → Prop} {x : Str} {px : Pos} {body orelse : List Stmt} {m : Str → Option Value} {news : List (Addr × Obj)}
theorem iterTup {T : Addr} {items : Array Value} (hh : A.handled = none) (hx : env.kindOf x = some .local)
    (hp : (env.scope.kind == .class || (env.scope.kind == .module && env.locals != env.globals)) = false)
    (F : Fr h₀ env.locals s.heap m) (N : News h₀ env.locals s.heap news)
    (J : Nat → (Str → Option Value) → List (Addr × Obj) → Prop) (h0 : J 0 m news)
    (hD : ∀ i m₁ news₁ h, J i m₁ news₁ → Fr h₀ env.locals h m₁ → News h₀ env.locals h news₁ → h.IsTuple T items)
    (step : ∀ I i v m₁ news₁ oI h tk, items[i]? = some v → J i m₁ news₁ → news₁.map (·.1) = news.map (·.1) → (∀ p ∈ news, p.1 < I) → Fr h₀ env.locals h (fun y => if y = x then some v else m₁ y) →
      News h₀ env.locals h ((I, oI) :: news₁) →
      wpAny (model prog w) A (execs body env) (fun f s₂ => Stop (match f with
        | .next | .cont => ∃ h' tk' m₂ news₂, s₂ = { s with heap := h', toks := tk' } ∧ Fr h₀ env.locals h' m₂ ∧ News h₀ env.locals h' ((I, oI) :: news₂) ∧ news₂.map (·.1) = news.map (·.1) ∧ J (i + 1) m₂ news₂
        | .brk => Q .next s₂
        | .ret v => Q (.ret v) s₂)) (fun _ _ => False) { s with heap := h, toks := tk })
    (done : ∀ m₁ news₁ h tk, J items.size m₁ news₁ → news₁.map (·.1) = news.map (·.1) → Fr h₀ env.locals h m₁ → News h₀ env.locals h news₁ →
      wpAny (model prog w) A (execs orelse env) Q (fun _ _ => False) { s with heap := h, toks := tk }) :
    wpAny (model prog w) A (pyIter (.ref T)) (fun it s₂ => codeAny (model prog w) A (.forLoop (.Name x px) it body orelse env) (fun r s' => match r with | .ok f => Q f s' | .error e => cameBackBy (model prog w) A env (fun _ _ => False) e s') s₂) (fun _ _ => False) s := by
  refine wpAny_pyIter_tuple (hD 0 m news s.heap h0 F N) ?_
  refine loopIt (s := { s with heap := s.heap.push _ }) (It.tuple hh s.heap.objs.size T items) hx hp (F.push _) (fun p hp => ⟨Heap.get?_push_of_some _ (N p hp).1, (N p hp).2⟩) (Heap.get?_push_size _ rfl) ⟨rfl, rfl⟩ ?_ ?_ ?_ J h0 hD ?_ done
  · cases q : h₀.get? s.heap.objs.size with
    | none => rfl
    | some o => exact absurd (Heap.lt_size (F.keep _ _ q)) (Nat.lt_irrefl _)
  · exact Nat.ne_of_lt F.ns.lt
  · exact fun p hp => Heap.lt_size (N p hp).1
  · intro i v m₁ news₁ oI h tk _ hv hJ ha hl F₁ N₁
    exact step _ i v m₁ news₁ oI h tk hv hJ ha hl F₁ N₁
theorem iterList {T : Addr} {items : Array Value} (hh : A.handled = none) (hx : env.kindOf x = some .local)
    (hp : (env.scope.kind == .class || (env.scope.kind == .module && env.locals != env.globals)) = false)
    (F : Fr h₀ env.locals s.heap m) (N : News h₀ env.locals s.heap news)
    (J : Nat → (Str → Option Value) → List (Addr × Obj) → Prop) (h0 : J 0 m news)
    (hD : ∀ i m₁ news₁ h, J i m₁ news₁ → Fr h₀ env.locals h m₁ → News h₀ env.locals h news₁ → h.IsList T items)
    (step : ∀ I i v m₁ news₁ oI h tk, items[i]? = some v → J i m₁ news₁ → news₁.map (·.1) = news.map (·.1) → (∀ p ∈ news, p.1 < I) → Fr h₀ env.locals h (fun y => if y = x then some v else m₁ y) →
      News h₀ env.locals h ((I, oI) :: news₁) →
      wpAny (model prog w) A (execs body env) (fun f s₂ => Stop (match f with
        | .next | .cont => ∃ h' tk' m₂ news₂, s₂ = { s with heap := h', toks := tk' } ∧ Fr h₀ env.locals h' m₂ ∧ News h₀ env.locals h' ((I, oI) :: news₂) ∧ news₂.map (·.1) = news.map (·.1) ∧ J (i + 1) m₂ news₂
        | .brk => Q .next s₂
        | .ret v => Q (.ret v) s₂)) (fun _ _ => False) { s with heap := h, toks := tk })
    (done : ∀ m₁ news₁ h tk, J items.size m₁ news₁ → news₁.map (·.1) = news.map (·.1) → Fr h₀ env.locals h m₁ → News h₀ env.locals h news₁ →
      wpAny (model prog w) A (execs orelse env) Q (fun _ _ => False) { s with heap := h, toks := tk }) :
    wpAny (model prog w) A (pyIter (.ref T)) (fun it s₂ => codeAny (model prog w) A (.forLoop (.Name x px) it body orelse env) (fun r s' => match r with | .ok f => Q f s' | .error e => cameBackBy (model prog w) A env (fun _ _ => False) e s') s₂) (fun _ _ => False) s := by
  refine wpAny_pyIter_list (hD 0 m news s.heap h0 F N) ?_
  refine loopIt (s := { s with heap := s.heap.push _ }) (It.list hh s.heap.objs.size T items) hx hp (F.push _) (fun p hp => ⟨Heap.get?_push_of_some _ (N p hp).1, (N p hp).2⟩) (Heap.get?_push_size _ rfl) ⟨rfl, rfl⟩ ?_ ?_ ?_ J h0 hD ?_ done
  · cases q : h₀.get? s.heap.objs.size with
    | none => rfl
    | some o => exact absurd (Heap.lt_size (F.keep _ _ q)) (Nat.lt_irrefl _)
  · exact Nat.ne_of_lt F.ns.lt
  · exact fun p hp => Heap.lt_size (N p hp).1
  · intro i v m₁ news₁ oI h tk _ hv hJ ha hl F₁ N₁
    exact step _ i v m₁ news₁ oI h tk hv hJ ha hl F₁ N₁
theorem iterRange {r : Addr} {n : Nat} {t u v : Tok} (hh : A.handled = none) (hx : env.kindOf x = some .local)
    (hp : (env.scope.kind == .class || (env.scope.kind == .module && env.locals != env.globals)) = false)
    (F : Fr h₀ env.locals s.heap m) (N : News h₀ env.locals s.heap news) (hr : IsRange s.heap r 0 (n : Int) 1 t u v) (hn : n < 2 ^ 30)
    (J : Nat → (Str → Option Value) → List (Addr × Obj) → Prop) (h0 : J 0 m news)
    (step : ∀ I i t m₁ news₁ oI h tk, i < n → J i m₁ news₁ → news₁.map (·.1) = news.map (·.1) → (∀ p ∈ news, p.1 < I) → Fr h₀ env.locals h (fun y => if y = x then some (.int (i : Int) t) else m₁ y) →
      News h₀ env.locals h ((I, oI) :: news₁) →
      wpAny (model prog w) A (execs body env) (fun f s₂ => Stop (match f with
        | .next | .cont => ∃ h' tk' m₂ news₂, s₂ = { s with heap := h', toks := tk' } ∧ Fr h₀ env.locals h' m₂ ∧ News h₀ env.locals h' ((I, oI) :: news₂) ∧ news₂.map (·.1) = news.map (·.1) ∧ J (i + 1) m₂ news₂
        | .brk => Q .next s₂
        | .ret v => Q (.ret v) s₂)) (fun _ _ => False) { s with heap := h, toks := tk })
    (done : ∀ m₁ news₁ h tk, J n m₁ news₁ → news₁.map (·.1) = news.map (·.1) → Fr h₀ env.locals h m₁ → News h₀ env.locals h news₁ →
      wpAny (model prog w) A (execs orelse env) Q (fun _ _ => False) { s with heap := h, toks := tk }) :
    wpAny (model prog w) A (pyIter (.ref r)) (fun it s₂ => codeAny (model prog w) A (.forLoop (.Name x px) it body orelse env) (fun r s' => match r with | .ok f => Q f s' | .error e => cameBackBy (model prog w) A env (fun _ _ => False) e s') s₂) (fun _ _ => False) s := by
  have hsz : Builtin.Range.rangeSize 0 (n : Int) 1 = (n : Int) := by
    unfold Builtin.Range.rangeSize
    rw [if_pos (by decide)]
    split
    · rw [Int.ediv_one]; omega
    · omega
  refine wpAny_pyIter_range hr ?_ ?_
  · unfold Builtin.Range.small
    rw [hsz]
    have fl : ∀ i : Int, 0 ≤ i → i < 2 ^ 31 → Builtin.Range.rangeFitsLong i = true := fun i h1 h2 => by
      unfold Builtin.Range.rangeFitsLong
      rw [Bool.and_eq_true]
      exact ⟨decide_eq_true (by omega), decide_eq_true (by omega)⟩
    rw [fl 0 (by omega) (by omega), fl n (by omega) (by omega), fl 1 (by omega) (by omega), if_pos (by decide), fl (n + (1 - 1)) (by omega) (by omega)]
    simp
  rw [hsz]
  refine loopIt (s := { s with heap := s.heap.push _ }) (It.range hh s.heap.objs.size n) hx hp (F.push _) (fun p hp => ⟨Heap.get?_push_of_some _ (N p hp).1, (N p hp).2⟩) (Heap.get?_push_size _ rfl) ?_ ?_ ?_ ?_ J h0 (fun _ _ _ _ _ _ _ => trivial) ?_ done
  · intro h e
    have : IsRangeIter h s.heap.objs.size 0 (n : Int) 1 := e
    simpa using this
  · cases q : h₀.get? s.heap.objs.size with
    | none => rfl
    | some o => exact absurd (Heap.lt_size (F.keep _ _ q)) (Nat.lt_irrefl _)
  · exact Nat.ne_of_lt F.ns.lt
  · exact fun p hp => Heap.lt_size (N p hp).1
  · rintro i v m₁ news₁ oI h tk hi ⟨t, rfl⟩ hJ ha hl F₁ N₁
    exact step _ i t m₁ news₁ oI h tk hi hJ ha hl F₁ N₁
end
end Mine
end

section
open PySem PySem.W PyProof.Rows PySem.Spec PySem.Calls
set_option Elab.async false
set_option maxRecDepth 100000
set_option maxHeartbeats 2000000
namespace Mine

/-- the signs that a listing may show, place by place: bits and sign -/
def tabI : List (List (Nat × Nat)) := [[(40960, 108), (49152, 115), (32768, 45), (24576, 98), (16384, 100), (8192, 99), (4096, 112)], [(256, 114)], [(128, 119)], [(2112, 115), (2048, 83), (64, 120)],
  [(32, 114)], [(16, 119)], [(1032, 115), (1024, 83), (8, 120)], [(4, 114)], [(2, 119)], [(513, 116), (512, 84), (1, 120)]]
def hits (m i b : Nat) : Bool := if i = 0 then m &&& 61440 == b else m &&& b == b
def sgnOf (m i : Nat) (row : List (Nat × Nat)) : Nat := match row.find? (fun p => hits m i p.1) with
  | some p => p.2
  | none => if i = 0 then 63 else 45
def sgn (m i : Nat) : Nat := sgnOf m i (tabI.getD i [])
def sgs (m k : Nat) : List Str := (List.range k).map fun i => ⟨#[sgn m i]⟩
/-- the listing of a mode -/
def fm (m : Nat) : Str := ⟨((List.range 10).map (sgn m)).toArray⟩

def tupItems (K : Frag) (a : Addr) : Option (Array Value) := match K.lookup a with
  | some ⟨.type "tuple", _, .seq items _, _⟩ => some items
  | _ => none
theorem tupItems_is {K : Frag} {h : Heap} {a : Addr} {items : Array Value} (X : K.In h) (e : tupItems K a = some items) : h.IsTuple a items := by
  unfold tupItems at e
  split at e
  · rename_i h1
    cases e
    exact ⟨_, X _ _ h1, rfl, _, rfl⟩
  · cases e

def pairOK (K : Frag) (u : Value) (r : Nat × Nat) : Bool := match u with
  | .ref p => match tupItems K p with
    | some its => match its.toList with
      | [.int x _, .str y _] => x == (r.1 : Int) && y.cps.toList == [r.2]
      | _ => false
    | none => false
  | _ => false
def rowOK (K : Frag) (u : Value) (row : List (Nat × Nat)) : Bool := match u with
  | .ref p => match tupItems K p with
    | some its => its.toList.length == row.length && (its.toList.zip row).all fun q => pairOK K q.1 q.2
    | none => false
  | _ => false
def tabOK (K : Frag) (a : Addr) : Bool := match tupItems K a with
  | some its => its.toList.length == tabI.length && (its.toList.zip tabI).all fun q => rowOK K q.1 q.2
  | none => false

theorem zip_all {α β : Type} {f : α × β → Bool} : ∀ {l : List α} {r : List β}, (l.zip r).all f = true → ∀ (i : Nat) (a : α) (b : β), l[i]? = some a → r[i]? = some b → f (a, b) = true
  | [], _, _, i, a, b, h, _ => by simp at h
  | _ :: _, [], _, i, a, b, _, h => by simp at h
  | x :: l, y :: r, h, 0, a, b, h1, h2 => by
    simp only [List.zip_cons_cons, List.all_cons, Bool.and_eq_true] at h
    simp at h1 h2; subst h1 h2; exact h.1
  | x :: l, y :: r, h, i + 1, a, b, h1, h2 => by
    simp only [List.zip_cons_cons, List.all_cons, Bool.and_eq_true] at h
    exact zip_all h.2 i a b (by simpa using h1) (by simpa using h2)

theorem get_of_len {α β : Type} {l : List α} {r : List β} (h : l.length = r.length) {i : Nat} {a : α} (ha : l[i]? = some a) : ∃ b, r[i]? = some b := by
  have hi : i < l.length := by
    cases Nat.lt_or_ge i l.length with
    | inl h => exact h
    | inr h => rw [List.getElem?_eq_none h] at ha; cases ha
  exact ⟨r[i]'(h ▸ hi), by simp⟩

theorem pair_of {K : Frag} {h : Heap} (X : K.In h) {u : Value} {r : Nat × Nat} (e : pairOK K u r = true) : ∃ p tb tc, u = .ref p ∧ h.IsTuple p #[.int (r.1 : Int) tb, .str ⟨#[r.2]⟩ tc] := by
  unfold pairOK at e
  split at e
  · rename_i p
    split at e
    · rename_i its hit
      split at e
      · rename_i x tb y tc hl
        simp only [Bool.and_eq_true, beq_iff_eq] at e
        obtain ⟨e1, e2⟩ := e
        refine ⟨p, tb, tc, rfl, ?_⟩
        have := tupItems_is X hit
        obtain ⟨⟨ys⟩⟩ := y
        simp only at e2
        subst e1 e2
        have h2 : its = #[.int (r.1 : Int) tb, .str ⟨⟨[r.2]⟩⟩ tc] := by
          obtain ⟨its⟩ := its
          simp only at hl
          subst hl; rfl
        rw [h2] at this
        exact this
      · cases e
    · cases e
  · cases e

theorem row_of {K : Frag} {h : Heap} (X : K.In h) {u : Value} {row : List (Nat × Nat)} (e : rowOK K u row = true) : ∃ (T : Addr) (its : Array Value), u = .ref T ∧ h.IsTuple T its ∧ its.size = row.length ∧
    ∀ (j : Nat) (v : Value), its[j]? = some v → ∃ (p : Addr) (v0 v1 : Value), v = .ref p ∧ h.IsTuple p #[v0, v1] ∧ ∃ (q : Nat × Nat) (tb tc : Tok), row[j]? = some q ∧ v0 = .int (q.1 : Int) tb ∧ v1 = .str ⟨#[q.2]⟩ tc := by
  unfold rowOK at e
  split at e
  · rename_i p
    split at e
    · rename_i its hit
      simp only [Bool.and_eq_true, beq_iff_eq] at e
      refine ⟨p, its, rfl, tupItems_is X hit, by simpa using e.1, fun j v hv => ?_⟩
      have hv' : its.toList[j]? = some v := by simpa using hv
      obtain ⟨q, hq⟩ := get_of_len e.1 hv'
      obtain ⟨p', tb, tc, h1, h2⟩ := pair_of X (zip_all e.2 j v q hv' hq)
      exact ⟨p', _, _, h1, h2, q, tb, tc, hq, rfl, rfl⟩
    · cases e
  · cases e

theorem tab_of {K : Frag} {h : Heap} (X : K.In h) {a : Addr} (e : tabOK K a = true) : ∃ its : Array Value, h.IsTuple a its ∧ its.size = 10 ∧ ∀ (i : Nat) (v : Value), its[i]? = some v → i < 10 ∧ rowOK K v (tabI.getD i []) = true := by
  unfold tabOK at e
  split at e
  · rename_i its hit
    simp only [Bool.and_eq_true, beq_iff_eq] at e
    have hsz : its.size = 10 := by have := e.1; simpa [tabI] using this
    refine ⟨its, tupItems_is X hit, hsz, fun i v hv => ?_⟩
    have hv' : its.toList[i]? = some v := by simpa using hv
    obtain ⟨q, hq⟩ := get_of_len e.1 hv'
    have hi : i < its.toList.length := by
      cases Nat.lt_or_ge i its.toList.length with
      | inl h => exact h
      | inr h => rw [List.getElem?_eq_none h] at hv'; cases hv'
    refine ⟨by simpa [hsz] using hi, ?_⟩
    rw [List.getD_eq_getElem?_getD, hq]
    exact zip_all e.2 i v q hv' hq
  · cases e

theorem tabK (P : Params) : tabOK (hd.heap_39 P) 82 = true := by kernel_rfl
end Mine
end

section
open PySem PySem.W PyProof.Rows PySem.Spec PySem.Calls
set_option Elab.async false
set_option maxRecDepth 100000
set_option maxHeartbeats 2000000
namespace Mine
theorem fill (w : World) (h : Heap) : PySem.Challenge.rw_oy0078_01.Holds → (hd.heap_39 w.params).In h → True := by
  k_fill
  exact fun _ _ => trivial
section
variable (w : World) (mean : ExcName → Option Value) (mg mb : Str → Option Value)
theorem ifmt_ctr (a : Int) (ta : Tok) : Ctr w mean mg mb 49 [.int a ta] 1 (fun _ => True) (fun _ r _ => ∃ t, r = .int (Builtin.bitAnd a 61440) t) := by
  unfold Ctr
  intro A base env outer s Q E ⟨hh, hf, B, X, T⟩ hdp hu _ hQ
  refine wpAny_call ?_
  refine enterN (binds := [(Str.ofString "mode", .int a ta)]) B X T (by k_is) (by k_is) (by omega) (BindsTo.of_eq rfl) (locs rfl) ?_ rfl rfl rfl (by decide)
  intro h₁ F N
  k_fold
  k_steps
  exact hQ _ _ _ (Fr.keep (by assumption)) ⟨_, rfl⟩
theorem xor_ctr (a b : Int) (ta tb : Tok) : Ctr w mean mg mb 42 [.int a ta, .int b tb] 1 (fun _ => True) (fun _ r _ => ∃ t, r = .int (Builtin.bitXor a b) t) := by
  unfold Ctr
  intro A base env outer s Q E ⟨hh, hf, B, X, T⟩ hdp hu _ hQ
  refine wpAny_call ?_
  refine enterN (binds := [(Str.ofString "a", .int a ta), (Str.ofString "b", .int b tb)]) B X T (by k_is) (by k_is) (by omega) (BindsTo.of_eq rfl) (locs rfl) ?_ rfl rfl rfl (by decide)
  intro h₁ F N
  k_fold
  k_steps
  exact hQ _ _ _ (Fr.keep (by assumption)) ⟨_, rfl⟩
theorem rshift_ctr (a : Int) (ta tb : Tok) (h0 : 0 ≤ a) (h1 : a < 65536) : Ctr w mean mg mb 35 [.int a ta, .int 12 tb] 1 (fun _ => True) (fun _ r _ => ∃ t, r = .int (a / 4096) t) := by
  unfold Ctr
  intro A base env outer s Q E ⟨hh, hf, B, X, T⟩ hdp hu _ hQ
  refine wpAny_call ?_
  refine enterN (binds := [(Str.ofString "a", .int a ta), (Str.ofString "b", .int 12 tb)]) B X T (by k_is) (by k_is) (by omega) (BindsTo.of_eq rfl) (locs rfl) ?_ rfl rfl rfl (by decide)
  intro h₁ F N
  k_fold
  k_steps
  refine hQ _ _ _ (Fr.keep (by assumption)) ⟨_, congrArg (fun z => Value.int z _) (show a.fdiv (2 ^ Int.toNat 12) = a / 4096 from ?_)⟩
  rw [show (2 : Int) ^ Int.toNat 12 = 4096 from rfl, Int.fdiv_eq_ediv_of_nonneg _ (by omega)]
theorem lshift_ctr (a b : Int) (ta tb : Tok) (h0 : 0 ≤ a) (h1 : a < 16) (hb : 0 ≤ b) (hb1 : b < 16) : Ctr w mean mg mb 28 [.int a ta, .int b tb] 1 (fun _ => True) (fun _ r _ => ∃ t, r = .int (a * 2 ^ b.toNat) t) := by
  unfold Ctr
  intro A base env outer s Q E ⟨hh, hf, B, X, T⟩ hdp hu _ hQ
  refine wpAny_call ?_
  refine enterN (binds := [(Str.ofString "a", .int a ta), (Str.ofString "b", .int b tb)]) B X T (by k_is) (by k_is) (by omega) (BindsTo.of_eq rfl) (locs rfl) ?_ rfl rfl rfl (by decide)
  intro h₁ F N
  k_fold
  k_steps
  exact hQ _ _ _ (Fr.keep (by assumption)) ⟨_, rfl⟩
end
end Mine
end

section
open PySem PySem.W PyProof.Rows PySem.Spec PySem.Calls
set_option Elab.async false
set_option maxRecDepth 100000
set_option maxHeartbeats 2000000
namespace Mine
theorem fr_eq {h₀ h : Heap} {L : Addr} {m m' : Str → Option Value} (F : Fr h₀ L h m) (e : ∀ y, m' y = m y) : Fr h₀ L h m' := by
  have : m' = m := funext e
  rw [this]; exact F
theorem News.get' {h₀ h : Heap} {L : Addr} {news : List (Addr × Obj)} {p : Addr × Obj} (N : News h₀ L h news) (hm : p ∈ news) : h.get? p.1 = some p.2 ∧ p.1 ≠ L ∧ h₀.get? p.1 = none := N p hm
theorem put2 {m : Str → Option Value} {x y : Str} {u v : Value} (hx : m x = some u) (hy : m y = some v) : ∀ z, (fun z => if z = x then some u else if z = y then some v else m z) z = m z := by
  intro z
  dsimp only
  split
  · rename_i e; rw [e, hx]
  · split
    · rename_i e; rw [e, hy]
    · rfl
theorem put3 {m : Str → Option Value} {x y w : Str} {u v k : Value} (hx : m x = some u) (hy : m y = some v) (hw : m w = some k) : ∀ z, (fun z => if z = x then some u else if z = y then some v else if z = w then some k else m z) z = m z := by
  intro z
  dsimp only
  split
  · rename_i e; rw [e, hx]
  · split
    · rename_i e; rw [e, hy]
    · split
      · rename_i e; rw [e, hw]
      · rfl
theorem bitAnd_nat (a b : Nat) : Builtin.bitAnd (a : Int) (b : Int) = ((a &&& b : Nat) : Int) := by
  unfold Builtin.bitAnd
  rw [show decide (0 ≤ (a : Int)) = true from decide_eq_true (Int.natCast_nonneg a), show decide (0 ≤ (b : Int)) = true from decide_eq_true (Int.natCast_nonneg b)]
  simp
theorem hits_zero {a i b : Nat} (h : (i : Int) = 0) (h2 : Builtin.bitAnd (a : Int) 61440 = (b : Int)) : hits a i b = true := by
  have hi : i = 0 := by omega
  rw [show (61440 : Int) = ((61440 : Nat) : Int) from rfl, bitAnd_nat] at h2
  unfold hits
  rw [if_pos hi, beq_iff_eq]
  omega
theorem miss_zero {a i b : Nat} (h : (i : Int) = 0) (h2 : ¬ Builtin.bitAnd (a : Int) 61440 = (b : Int)) : hits a i b = false := by
  have hi : i = 0 := by omega
  rw [show (61440 : Int) = ((61440 : Nat) : Int) from rfl, bitAnd_nat] at h2
  unfold hits
  rw [if_pos hi, beq_eq_false_iff_ne]
  omega
theorem hits_pos {a i b : Nat} (h : ¬ (i : Int) = 0) (h2 : Builtin.bitAnd (a : Int) (b : Int) = (b : Int)) : hits a i b = true := by
  have hi : ¬ i = 0 := by omega
  rw [bitAnd_nat] at h2
  unfold hits
  rw [if_neg hi, beq_iff_eq]
  omega
theorem miss_pos {a i b : Nat} (h : ¬ (i : Int) = 0) (h2 : ¬ Builtin.bitAnd (a : Int) (b : Int) = (b : Int)) : hits a i b = false := by
  have hi : ¬ i = 0 := by omega
  rw [bitAnd_nat] at h2
  unfold hits
  rw [if_neg hi, beq_eq_false_iff_ne]
  omega
theorem sgs_succ (a i : Nat) : sgs a (i + 1) = sgs a i ++ [⟨#[sgn a i]⟩] := by
  unfold sgs
  rw [List.range_succ, List.map_append]; rfl
theorem take_no {row : List (Nat × Nat)} {j : Nat} {q : Nat × Nat} {f : Nat × Nat → Bool} (hno : ∀ q ∈ row.take j, f q = false) (hq : row[j]? = some q) (hf : f q = false) : ∀ q ∈ row.take (j + 1), f q = false := by
  intro p hp
  rw [List.take_add_one, hq] at hp
  simp at hp
  rcases hp with hp | hp
  · exact hno p hp
  · rw [hp]; exact hf
theorem find_hit {row : List (Nat × Nat)} {j : Nat} {q : Nat × Nat} {f : Nat × Nat → Bool} (hno : ∀ q ∈ row.take j, f q = false) (hq : row[j]? = some q) (hf : f q = true) : row.find? f = some q := by
  have h1 : row = row.take j ++ row.drop j := (List.take_append_drop j row).symm
  have hj : j < row.length := by
    cases Nat.lt_or_ge j row.length with
    | inl h => exact h
    | inr h => rw [List.getElem?_eq_none h] at hq; cases hq
  have h2 : row.drop j = q :: row.drop (j + 1) := by
    rw [List.drop_eq_getElem_cons hj]
    rw [List.getElem?_eq_getElem hj] at hq
    cases hq; rfl
  rw [h1, List.find?_append, h2]
  have : (row.take j).find? f = none := List.find?_eq_none.mpr fun x hx => by rw [hno x hx]; exact Bool.false_ne_true
  rw [this]
  simp [hf]
theorem sgn_hit {a i j : Nat} {q : Nat × Nat} (hno : ∀ q ∈ (tabI.getD i []).take j, hits a i q.1 = false) (hq : (tabI.getD i [])[j]? = some q) (hf : hits a i q.1 = true) : sgn a i = q.2 := by
  unfold sgn sgnOf
  rw [find_hit (f := fun p => hits a i p.1) hno hq hf]
theorem sgn_miss {a i n : Nat} (hn : n = (tabI.getD i []).length) (hno : ∀ q ∈ (tabI.getD i []).take n, hits a i q.1 = false) : sgn a i = if i = 0 then 63 else 45 := by
  unfold sgn sgnOf
  rw [hn, List.take_length] at hno
  rw [List.find?_eq_none.mpr fun x hx => by rw [hno x hx]; exact Bool.false_ne_true]
theorem strs_push {vs : Array Value} {a i c : Nat} {t : Tok} (h : StrsAre vs.toList (sgs a i)) (e : sgn a i = c) : StrsAre (vs.push (.str ⟨#[c]⟩ t)).toList (sgs a (i + 1)) := by
  rw [sgs_succ, Array.toList_push, e]
  exact StrsAre.append' h (StrsAre.cons _ _ StrsAre.nil)
theorem strs_push' {vs : Array Value} {a i : Nat} {y : Str} {t : Tok} (h : StrsAre vs.toList (sgs a i)) (e : (⟨#[sgn a i]⟩ : Str) = y) : StrsAre (vs.push (.str y t)).toList (sgs a (i + 1)) := by
  rw [sgs_succ, Array.toList_push, e]
  exact StrsAre.append' h (StrsAre.cons _ _ StrsAre.nil)
theorem join_chars (cs : List Nat) : ∀ (acc : Array Nat), (cs.map fun c => (⟨#[c]⟩ : Str)).foldl (fun acc p => acc ++ (Str.ofString "").cps ++ p.cps) acc = acc ++ cs.toArray := by
  induction cs with
  | nil => intro acc; simp
  | cons c r ih =>
    intro acc
    rw [List.map_cons, List.foldl_cons, ih]
    have : (Str.ofString "").cps = #[] := by decide +kernel
    rw [this]
    apply Array.toList_inj.mp
    simp
theorem join_sgs (a : Nat) : Txt.join (Str.ofString "") (sgs a 10) = fm a := by
  unfold Txt.join Builtin.Str.glued
  show (⟨(List.drop 1 (sgs a 10)).foldl _ ((sgs a 10).headD Str.empty).cps⟩ : Str) = _
  have e1 : sgs a 10 = ((List.range 10).map (sgn a)).map fun c => (⟨#[c]⟩ : Str) := by
    unfold sgs; rw [List.map_map]; rfl
  have e2 : (List.range 10).map (sgn a) = sgn a 0 :: (List.range' 1 9).map (sgn a) := rfl
  rw [e1, e2, List.map_cons, List.drop_one, List.tail_cons, join_chars]
  unfold fm
  rw [e2]
  apply congrArg Str.mk
  apply Array.toList_inj.mp
  simp
theorem sgs_len (a : Nat) : ((sgs a 10).map (·.length)).sum + (sgs a 10).length ≤ 1048576 := by
  have : ∀ k, ((sgs a k).map (·.length)).sum = k := by
    intro k
    induction k with
    | zero => rfl
    | succ k ih => rw [sgs_succ, List.map_append, List.sum_append, ih]; rfl
  rw [this]
  simp [sgs]
local macro_rules | `(tactic| walk_at "call ref") => `(tactic| ((with_reducible show wpAny _ _ (PySem.call (Value.ref 49) _) _ _ _); (refine useC (ifmt_ctr _ _ _ _ _ _) (by assumption) (by k_asm) (by k_asm) (by k_asm) (by k_asm) (by k_asm) rfl rfl (by omega) (by omega) trivial ?_); intro r' h' tk' F' N' k' p'; obtain ⟨t', e'⟩ := p'; subst e'; (try dsimp only)))
local macro_rules | `(tactic| walk_at "call builtin:list.append") => `(tactic| ((refine append_K (by k_asm) (by k_asm) (by k_upd) ?_ (by rw [sizeLine_eq]; omega)); intro h' F' N'; (try k_sweep)))
theorem fm_ctr (w : World) (mean : ExcName → Option Value) (mg mb : Str → Option Value) (a : Nat) (ta : Tok) :
   Ctr w mean mg mb 89 [.int (a : Int) ta] 2 (fun _ => True) (fun _ r _ => ∃ t, r = .str (fm a) t) := by
  unfold Ctr
  intro A base env outer s Q E ⟨hh, hf, B, X, T⟩ hdp hu _ hQ
  refine wpAny_call ?_
  refine enterN (binds := [(Str.ofString "mode", .int (a : Int) ta)]) B X T (by k_is) (by k_is) (by omega) (BindsTo.of_eq rfl) (locs rfl) ?_ rfl rfl rfl (by decide)
  intro h₁ F N
  obtain ⟨its, hT82, hsz, hrows⟩ := tab_of X (tabK w.params)
  k_fold
  k_steps
  rename_i _ P _ _ h3 F3 N3
  refine forEnum (h₀ := s.heap) (l := 82) (items := its) hh rfl rfl rfl F3 N3 hT82
    (fun i m news => ∃ vs n, news = [(P, W.listOf vs n)] ∧ StrsAre vs.toList (sgs a i) ∧ m (Str.ofString "mode") = some (.int (a : Int) ta) ∧ m (Str.ofString "perm") = some (.ref P)) ?_ ?_ ?_ ?_
  · exact ⟨_, _, rfl, StrsAre.nil, rfl, rfl⟩
  · intro Q' hq
    repeat (first | exact hq | walk1)
  · rintro i t v1 m₁ news₁ e oe it oi h tk hv1 ⟨vs, n, rfl, hvs, hmm, hmp⟩ _ hPit hite F4 N4
    obtain ⟨hi10, hrow⟩ := hrows i v1 hv1
    obtain ⟨Ti, its', rfl, hTi, hsz', hprs⟩ := row_of X hrow
    have hvz : vs.size ≤ 10 := by
      have := hvs.length
      simp [sgs] at this
      omega
    have hite' := ltN hite
    have hPi := allLt_of hPit
    simp only [AllLt, and_true] at hPi
    clear F3 N3 hv1 hPit hrow
    refine wpAny_execs_cons ?_
    refine forPairs (h₀ := s.heap) (Ti := Ti) (items := its') hh rfl rfl rfl F4 N4 hTi hprs
      (fun j m => (∀ q ∈ (tabI.getD i []).take j, hits a i q.1 = false) ∧ m (Str.ofString "index") = some (.int (i : Int) t) ∧ m (Str.ofString "mode") = some (.int (a : Int) ta) ∧ m (Str.ofString "perm") = some (.ref P)) ?_ ?_ ?_ ?_
    · refine ⟨by simp, rfl, hmm, hmp⟩
    · intro Q' hq
      repeat (first | exact hq | walk1)
    · rintro j v0 v1 m₂ I oI h5 tk5 hj ⟨q, tb, tc, hq, rfl, rfl⟩ ⟨hno, hmi, hmm2, hmp2⟩ hI F5 N5
      have hIl := allLt_of hI
      simp only [AllLt, and_true] at hIl
      have F6 := fr_eq F5 (m' := fun y => if y = Str.ofString "char" then some (Value.str ⟨#[q.2]⟩ tc) else if y = Str.ofString "bit" then some (Value.int (q.1 : Int) tb) else if y = Str.ofString "index" then some (.int (i : Int) t) else if y = Str.ofString "mode" then some (.int (a : Int) ta) else if y = Str.ofString "perm" then some (.ref P) else m₂ y) (by
        intro y
        have := put3 hmi hmm2 hmp2 y
        dsimp only at this ⊢
        rw [this])
      clear F5 F4 N4
      (try k_unmd); (try k_fold)
      k_steps
      · refine wpAny_execs_nil ?_
        exact ⟨_, _, _, [(P, W.listOf (vs.push (.str ⟨#[q.2]⟩ tc)) (n + 1))], rfl, by assumption, fun p hp => News.get' (by assumption) (.tail _ hp), rfl, _, _, rfl, strs_push hvs (sgn_hit hno hq (hits_zero (by assumption) (by assumption))), rfl, rfl⟩
      · exact ⟨_, _, _, rfl, by assumption, by assumption, take_no (f := fun p => hits a i p.1) hno hq (miss_zero (by assumption) (by assumption)), rfl, rfl, rfl⟩
      · refine wpAny_execs_nil ?_
        exact ⟨_, _, _, [(P, W.listOf (vs.push (.str ⟨#[q.2]⟩ tc)) (n + 1))], rfl, by assumption, fun p hp => News.get' (by assumption) (.tail _ hp), rfl, _, _, rfl, strs_push hvs (sgn_hit hno hq (hits_pos (by assumption) (by assumption))), rfl, rfl⟩
      · exact ⟨_, _, _, rfl, by assumption, by assumption, take_no (f := fun p => hits a i p.1) hno hq (miss_pos (by assumption) (by assumption)), rfl, rfl, rfl⟩
    · rintro m₂ h5 tk5 ⟨hno, hmi, hmm2, hmp2⟩ F5 N5
      have F6 := fr_eq F5 (m' := fun y => if y = Str.ofString "index" then some (.int (i : Int) t) else if y = Str.ofString "mode" then some (.int (a : Int) ta) else if y = Str.ofString "perm" then some (.ref P) else m₂ y) (put3 hmi hmm2 hmp2)
      clear F5 F4 N4
      (try k_unmd); (try k_fold)
      k_steps
      · exact ⟨_, _, _, [(P, W.listOf (vs.push (.str (Str.ofString "?") _)) (n + 1))], rfl, by assumption, by assumption, rfl, _, _, rfl, strs_push' hvs (by rw [sgn_miss hsz' hno, if_pos (by omega)]; decide +kernel), rfl, rfl⟩
      · exact ⟨_, _, _, [(P, W.listOf (vs.push (.str (Str.ofString "-") _)) (n + 1))], rfl, by assumption, by assumption, rfl, _, _, rfl, strs_push' hvs (by rw [sgn_miss hsz' hno, if_neg (by omega)]; decide +kernel), rfl, rfl⟩
  · rintro m₁ news₁ h tk ⟨vs, n, rfl, hvs, hmm, hmp⟩ _ F4 N4
    have F6 := fr_eq F4 (m' := fun y => if y = Str.ofString "mode" then some (.int (a : Int) ta) else if y = Str.ofString "perm" then some (.ref P) else m₁ y) (put2 hmm hmp)
    rw [hsz] at hvs
    clear F3 N3 F4
    refine wpAny_execs_nil ?_
    (try dsimp only)
    (try k_unmd); (try k_fold)
    k_steps
    refine join_listW (ys := sgs a 10) (News.isList N4 (.head _)) hvs (by decide +kernel) (sgs_len a) ?_
    intro t' k
    rw [join_sgs]
    exact hQ _ _ _ F6.keep ⟨_, rfl⟩
end Mine
end

section
open PySem PySem.W PyProof.Rows PySem.Spec PySem.Calls
set_option Elab.async false
set_option maxRecDepth 100000
set_option maxHeartbeats 2000000
namespace Mine
section
variable {prog : Program} {w : World} {A : Around} {E : Value → Shared → Prop} {s : Shared} {value slice : Expr}
theorem item_txt {x : Str} {t u : Tok} {k : Int} {c : Nat} {Q : Value → Shared → Prop} (h0 : 0 ≤ k) (hk : k < 2 ^ 62) (hc : x.cps[k.toNat]? = some c) (h : ∀ t', Q (.str ⟨#[c]⟩ t') { s with toks := s.toks + 1 })
    (hs : subscripted slice false (.str x t) (.int k u) = operate [.str x t, .int k u] (getItem (.str x t) (.int k u)) := by with_unfolding_all rfl)
    (ht : ∀ r, letTemporaryGo value (.str x t) r = pure () := by intro _; with_unfolding_all rfl) :
    wpAny (model prog w) A (subscriptTail value slice (.str x t) (.int k u)) Q E s := by
  have hlt : k.toNat < x.cps.size := by
    cases Nat.lt_or_ge k.toNat x.cps.size with
    | inl h => exact h
    | inr h => rw [Array.getElem?_eq_none h] at hc; cases hc
  have hl : k < (x.length : Int) := by show k < (x.cps.size : Int); omega
  refine item_str (x := x) (by unfold fitsSsize; simp; omega) (by omega) hl (fun _ => ?_) hs ht
  rw [PyProof.Rows.item_meets h0 hc]
  exact h _
theorem item_lst {l : Addr} {items : Array Value} {k : Int} {u : Tok} {v : Value} {Q : Value → Shared → Prop} (hl : s.heap.IsList l items) (h0 : 0 ≤ k) (hk : k < 2 ^ 62) (hx : items[k.toNat]? = some v) (h : Q v s)
    (hs : subscripted slice false (.ref l) (.int k u) = operate [.ref l, .int k u] (getItem (.ref l) (.int k u)) := by with_unfolding_all rfl) :
    wpAny (model prog w) A (subscriptTail value slice (.ref l) (.int k u)) Q E s :=
  tail_any hl.typeIs slot_list_getitem.lookup (wpAny_getItem_list hl h0 (by omega) hx h) hs
theorem in_txt {x : Str} {c : Nat} {t u : Tok} {Q : Value → Shared → Prop} (h : Q (.bool (decide (c ∈ x.cps.toList))) s) : wpAny (model prog w) A (compareOp .In (.str ⟨#[c]⟩ u) (.str x t)) Q E s := by
  refine PyProof.Rows.in_str ?_
  rw [StrLaws.found_one]
  exact h
end
theorem execs_cut {M : Model} {A : Around} {st : Stmt} {rest : List Stmt} {env : Env} {Q : Flow → Shared → Prop} {s : Shared} (Mid : Shared → Prop)
    (h1 : wpAny M A (exec st env) (fun f s' => Stop (f = .next ∧ Mid s')) (fun _ _ => False) s) (h2 : ∀ s', Mid s' → wpAny M A (execs rest env) Q (fun _ _ => False) s') :
    wpAny M A (execs (st :: rest) env) Q (fun _ _ => False) s := by
  refine wpAny_execs_cons (wpAny_mono h1 (fun f s' h => ?_) fun _ _ e => e)
  obtain ⟨rfl, h⟩ := h
  exact h2 s' h
theorem xor_and (a b : Nat) : (a ^^^ b) + 2 * (a &&& b) = a + b := by
  induction a using Nat.strongRecOn generalizing b with
  | _ a ih =>
    by_cases ha : a = 0
    · subst ha; simp
    · have h := ih (a / 2) (Nat.div_lt_self (by omega) (by decide)) (b / 2)
      have h1 : (a ^^^ b) / 2 = a / 2 ^^^ b / 2 := Nat.xor_div_two
      have h2 : (a &&& b) / 2 = a / 2 &&& b / 2 := Nat.and_div_two
      have h3 : (a ^^^ b) % 2 = (a % 2) ^^^ (b % 2) := by simpa using Nat.xor_mod_two_pow (n := 1) (a := a) (b := b)
      have h4 : (a &&& b) % 2 = (a % 2) &&& (b % 2) := by simpa using Nat.and_mod_two_pow (n := 1) (a := a) (b := b)
      rw [← h1, ← h2] at h
      have h5 : (a ^^^ b) % 2 + 2 * ((a &&& b) % 2) = a % 2 + b % 2 := by
        rw [h3, h4]
        rcases Nat.mod_two_eq_zero_or_one a with e | e <;> rcases Nat.mod_two_eq_zero_or_one b with e' | e' <;> rw [e, e'] <;> decide
      omega
theorem bitXor_nat (a b : Nat) : Builtin.bitXor (a : Int) (b : Int) = ((a ^^^ b : Nat) : Int) := by
  rw [bitXor_and, bitAnd_nat]
  have := xor_and a b
  omega
end Mine
end

section
open PySem PySem.W PyProof.Rows PySem.Spec PySem.Calls
set_option Elab.async false
set_option maxRecDepth 100000
set_option maxHeartbeats 2000000
namespace Mine

/-- row by column in Conway's field, 1 to 3 by 1 to 4 -/
def pr (y j : Nat) : Nat := (([[0, 0, 0, 0, 0], [0, 1, 2, 3, 4], [0, 2, 3, 1, 8], [0, 3, 1, 2, 12]] : List (List Nat)).getD y []).getD j 0
def Prods (h : Heap) (P : Addr) : Prop := ∃ ra : Nat → Addr, h.IsList P #[.ref (ra 0), .ref (ra 1), .ref (ra 2), .ref (ra 3)] ∧ ∀ y, y < 4 → ∃ vs : Array Value, h.IsList (ra y) vs ∧ ∀ j, j < 5 → ∃ t, vs[j]? = some (.int (pr y j : Int) t)
theorem Prods.keep {h h' : Heap} {P : Addr} (x : Prods h P) (k : ∀ b o, h.get? b = some o → h'.get? b = some o) : Prods h' P := by
  obtain ⟨ra, h1, h2⟩ := x
  refine ⟨ra, h1.at fun o e => k _ o e, fun y hy => ?_⟩
  obtain ⟨vs, h3, h4⟩ := h2 y hy
  exact ⟨vs, h3.at fun o e => k _ o e, h4⟩
def ch (x : Str) (k : Nat) : Nat := x.cps.getD k 0
def w1 (x : Str) (y w : Nat) : Nat := if ch x (12 - 3 * y) ∈ [120, 115, 116] then w ^^^ pr y 1 else w
def w2 (x : Str) (y w : Nat) : Nat := if ch x (11 - 3 * y) = 119 then w ^^^ pr y 2 else w
def w3 (x : Str) (y w : Nat) : Nat := if ch x (10 - 3 * y) = 114 then w ^^^ pr y 3 else w
def w4 (x : Str) (y w : Nat) : Nat := if ch x (12 - 3 * y) ∈ [83, 115, 84, 116] then w ^^^ pr y 4 else w
def cellW (x : Str) (y w : Nat) : Nat := w4 x y (w3 x y (w2 x y (w1 x y w)))
def worthK (x : Str) : Nat → Nat
  | 0 => 0
  | k + 1 => cellW x (k + 1) (worthK x k)
/-- the worth of a listing -/
def worthN (x : Str) : Nat := worthK x 3

theorem ch_get {x : Str} (hx : x.cps.size = 10) {k : Int} (h1 : k < 10) (h0 : 0 ≤ k) : x.cps[k.toNat]? = some (ch x k.toNat) := by
  unfold ch
  rw [Array.getD_eq_getD_getElem?]
  have : k.toNat < x.cps.size := by omega
  simp [this]

section
variable {prog : Program} {w : World} {A : Around} {E : Value → Shared → Prop} {s : Shared} {value slice : Expr}
theorem item_ch {x : Str} (hx : x.cps.size = 10) {t u : Tok} {k : Int} {Q : Value → Shared → Prop} (h0 : 0 ≤ k) (h1 : k < 10) (h : ∀ t', Q (.str ⟨#[ch x k.toNat]⟩ t') { s with toks := s.toks + 1 })
    (hs : subscripted slice false (.str x t) (.int k u) = operate [.str x t, .int k u] (getItem (.str x t) (.int k u)) := by with_unfolding_all rfl)
    (ht : ∀ r, letTemporaryGo value (.str x t) r = pure () := by intro _; with_unfolding_all rfl) :
    wpAny (model prog w) A (subscriptTail value slice (.str x t) (.int k u)) Q E s := item_txt h0 (by omega) (ch_get hx h1 h0) h hs ht
end

section
variable {prog : Program} {w : World} {A : Around} {E : Value → Shared → Prop} {s : Shared} {value slice : Expr} {h₀ : Heap} {L : Addr} {m : Str → Option Value}
theorem prod_row {P : Addr} {ra : Nat → Addr} {i : Nat} {u : Tok} {Q : Value → Shared → Prop} (F : Fr h₀ L s.heap m) (hP : h₀.IsList P #[.ref (ra 0), .ref (ra 1), .ref (ra 2), .ref (ra 3)]) (hi : i < 3) (h : Q (.ref (ra (i + 1))) s)
    (hs : subscripted slice false (.ref P) (.int ((i + 1 : Nat) : Int) u) = operate [.ref P, .int ((i + 1 : Nat) : Int) u] (getItem (.ref P) (.int ((i + 1 : Nat) : Int) u)) := by with_unfolding_all rfl) :
    wpAny (model prog w) A (subscriptTail value slice (.ref P) (.int ((i + 1 : Nat) : Int) u)) Q E s := by
  refine item_lst (hP.at fun o e => F.keep _ o e) (by omega) (by omega) ?_ h hs
  rw [Int.toNat_natCast]
  rcases i with _ | _ | _ | i
  · rfl
  · rfl
  · rfl
  · omega
theorem prod_cell {ra : Nat → Addr} {y : Nat} {c : Int} {u : Tok} {Q : Value → Shared → Prop} (F : Fr h₀ L s.heap m) (hy : y < 4) (h0 : 0 ≤ c) (hj : c < 5) (hrw : ∀ y, y < 4 → ∃ vs : Array Value, h₀.IsList (ra y) vs ∧ ∀ j, j < 5 → ∃ t, vs[j]? = some (.int (pr y j : Int) t)) (h : ∀ t, Q (.int (pr y c.toNat : Int) t) s)
    (hs : subscripted slice false (.ref (ra y)) (.int c u) = operate [.ref (ra y), .int c u] (getItem (.ref (ra y)) (.int c u)) := by with_unfolding_all rfl) :
    wpAny (model prog w) A (subscriptTail value slice (.ref (ra y)) (.int c u)) Q E s := by
  obtain ⟨vs, h1, h2⟩ := hrw y hy
  obtain ⟨t, h3⟩ := h2 c.toNat (by omega)
  exact item_lst (h1.at fun o e => F.keep _ o e) h0 (by omega) h3 (h t) hs
end
abbrev wm (x : Str) (tx : Tok) (P : Addr) (i : Nat) (ty tl tw : Tok) (wv : Nat) (m₁ : Str → Option Value) : Str → Option Value := fun y => if y = Str.ofString "worth" then some (.int (wv : Int) tw) else if y = Str.ofString "last" then some (.str ⟨#[ch x (12 - 3 * (i + 1))]⟩ tl) else if y = Str.ofString "y" then some (.int ((i + 1 : Nat) : Int) ty) else
  if y = Str.ofString "row" then some (.str x tx) else if y = Str.ofString "products" then some (.ref P) else m₁ y
theorem wm_put {x : Str} {tx : Tok} {P : Addr} {i : Nat} {ty tl tw t : Tok} {wv wv' : Nat} {v : Int} {m₁ : Str → Option Value} (e : v = (wv' : Int)) : ∀ y, wm x tx P i ty tl t wv' m₁ y = (fun y => if y = Str.ofString "worth" then some (.int v t) else wm x tx P i ty tl tw wv m₁ y) y := by
  intro y
  subst e
  dsimp only [wm]
  split <;> rfl
theorem occ_yes {x : Str} {c : Nat} (h : (Builtin.Str.occurrences x ⟨#[c]⟩ 0 x.length 1).isEmpty = false) : c ∈ x.cps.toList := by
  have := StrLaws.found_one x c
  rw [h] at this
  exact of_decide_eq_true this.symm
theorem occ_no {x : Str} {c : Nat} (h : (Builtin.Str.occurrences x ⟨#[c]⟩ 0 x.length 1).isEmpty = true) : ¬ c ∈ x.cps.toList := by
  have := StrLaws.found_one x c
  rw [h] at this
  exact of_decide_eq_false this.symm
theorem w1_yes {x : Str} {i wv : Nat} (h : ch x (12 - 3 * (i + 1)) ∈ (Str.ofString "xst").cps.toList) : Builtin.bitXor (wv : Int) (pr (i + 1) (Int.toNat 1) : Int) = (w1 x (i + 1) wv : Int) := by
  rw [show (Str.ofString "xst").cps.toList = [120, 115, 116] from by decide +kernel] at h
  rw [bitXor_nat, w1, if_pos h]; rfl
theorem w1_no {x : Str} {i wv : Nat} (h : ¬ ch x (12 - 3 * (i + 1)) ∈ (Str.ofString "xst").cps.toList) : w1 x (i + 1) wv = wv := by
  rw [show (Str.ofString "xst").cps.toList = [120, 115, 116] from by decide +kernel] at h
  rw [w1, if_neg h]
theorem w4_yes {x : Str} {i wv : Nat} (h : ch x (12 - 3 * (i + 1)) ∈ (Str.ofString "SsTt").cps.toList) : Builtin.bitXor (wv : Int) (pr (i + 1) (Int.toNat 4) : Int) = (w4 x (i + 1) wv : Int) := by
  rw [show (Str.ofString "SsTt").cps.toList = [83, 115, 84, 116] from by decide +kernel] at h
  rw [bitXor_nat, w4, if_pos h]; rfl
theorem w4_no {x : Str} {i wv : Nat} (h : ¬ ch x (12 - 3 * (i + 1)) ∈ (Str.ofString "SsTt").cps.toList) : w4 x (i + 1) wv = wv := by
  rw [show (Str.ofString "SsTt").cps.toList = [83, 115, 84, 116] from by decide +kernel] at h
  rw [w4, if_neg h]
theorem one_eq {c d : Nat} {y : Str} (hy : y = ⟨#[d]⟩) : ((⟨#[c]⟩ : Str) == y) = decide (c = d) := by
  subst hy
  rw [Bool.eq_iff_iff, beq_iff_eq, decide_eq_true_eq]
  constructor
  · intro h
    have := congrArg (fun z : Str => z.cps[0]?) h
    simpa using this
  · intro h; rw [h]
theorem w2_yes {x : Str} {i wv : Nat} (h : ((⟨#[ch x (11 - 3 * ((i + 1 : Nat) : Int)).toNat]⟩ : Str) == Str.ofString "w") = true) : Builtin.bitXor (wv : Int) (pr (i + 1) (Int.toNat 2) : Int) = (w2 x (i + 1) wv : Int) := by
  rw [one_eq (d := 119) (by decide +kernel), decide_eq_true_eq, show (11 - 3 * ((i + 1 : Nat) : Int)).toNat = 11 - 3 * (i + 1) from by omega] at h
  rw [bitXor_nat, w2, if_pos h]; rfl
theorem w2_no {x : Str} {i wv : Nat} (h : ((⟨#[ch x (11 - 3 * ((i + 1 : Nat) : Int)).toNat]⟩ : Str) == Str.ofString "w") = false) : w2 x (i + 1) wv = wv := by
  rw [one_eq (d := 119) (by decide +kernel), decide_eq_false_iff_not, show (11 - 3 * ((i + 1 : Nat) : Int)).toNat = 11 - 3 * (i + 1) from by omega] at h
  rw [w2, if_neg h]
theorem w3_yes {x : Str} {i wv : Nat} (h : ((⟨#[ch x (10 - 3 * ((i + 1 : Nat) : Int)).toNat]⟩ : Str) == Str.ofString "r") = true) : Builtin.bitXor (wv : Int) (pr (i + 1) (Int.toNat 3) : Int) = (w3 x (i + 1) wv : Int) := by
  rw [one_eq (d := 114) (by decide +kernel), decide_eq_true_eq, show (10 - 3 * ((i + 1 : Nat) : Int)).toNat = 10 - 3 * (i + 1) from by omega] at h
  rw [bitXor_nat, w3, if_pos h]; rfl
theorem w3_no {x : Str} {i wv : Nat} (h : ((⟨#[ch x (10 - 3 * ((i + 1 : Nat) : Int)).toNat]⟩ : Str) == Str.ofString "r") = false) : w3 x (i + 1) wv = wv := by
  rw [one_eq (d := 114) (by decide +kernel), decide_eq_false_iff_not, show (10 - 3 * ((i + 1 : Nat) : Int)).toNat = 10 - 3 * (i + 1) from by omega] at h
  rw [w3, if_neg h]
local macro_rules | `(tactic| walk_at "exec For Name Tuple cons nil") => `(tactic| (k_dflt (refine wpAny_For ?_ (fun _ => rfl))))
local macro_rules | `(tactic| walk_at "subscriptTail") => `(tactic| ((with_reducible show wpAny _ _ (subscriptTail _ _ (Value.str _ _) (Value.int _ _)) _ _ _); k_dflt (refine' item_ch (by assumption) (by omega) (by omega) ?_); intro t'))
local macro_rules | `(tactic| walk_at "subscriptTail") => `(tactic| ((with_reducible show wpAny _ _ (subscriptTail _ _ (Value.ref _) (Value.int (Nat.cast _) _)) _ _ _); k_dflt (refine prod_row (by k_asm) (by assumption) (by assumption) ?_)))
local macro_rules | `(tactic| walk_at "subscriptTail") => `(tactic| ((with_reducible show wpAny _ _ (subscriptTail _ _ (Value.ref _) (Value.int (OfNat.ofNat _) _)) _ _ _); k_dflt (refine prod_cell (by k_asm) (by omega) (by decide) (by decide) (by assumption) ?_); intro t'))
local macro_rules | `(tactic| walk_at "compareOp In str") => `(tactic| (k_dflt (refine in_txt ?_)))
local macro_rules | `(tactic| walk_at "call ref") => `(tactic| ((with_reducible show wpAny _ _ (PySem.call (Value.ref 42) _) _ _ _); (refine useC (xor_ctr _ _ _ _ _ _ _ _) (by assumption) (by k_asm) (by k_asm) (by k_asm) (by k_asm) (by k_asm) rfl rfl (by omega) (by omega) trivial ?_); intro r' h' tk' F' N' k' p'; obtain ⟨t', e'⟩ := p'; subst e'; (try dsimp only)))
theorem worth_ctr (w : World) (mean : ExcName → Option Value) (mg mb : Str → Option Value) (x : Str) (hx : x.cps.size = 10) (tx : Tok) (P : Addr) :
   Ctr w mean mg mb 115 [.str x tx, .ref P] 2 (fun h => Prods h P) (fun _ r _ => ∃ t, r = .int (worthN x : Int) t) := by
  unfold Ctr
  intro A base env outer s Q E ⟨hh, hf, B, X, T⟩ hdp hu ⟨ra, hP, hrw⟩ hQ
  refine wpAny_call ?_
  refine enterN (binds := [(Str.ofString "row", .str x tx), (Str.ofString "products", .ref P)]) B X T (by k_is) (by k_is) (by omega) (BindsTo.of_eq rfl) (locs rfl) ?_ rfl rfl rfl (by decide)
  intro h₁ F N
  k_fold
  k_steps
  rename_i _ D h2 F2 N2 _
  obtain ⟨oD, t1, t2, t3, hoD, N2⟩ : ∃ oD t1 t2 t3, (∀ h : Heap, h.get? D = some oD → h.IsTuple D #[.int 1 t1, .int 2 t2, .int 3 t3]) ∧ News s.heap s.heap.objs.size h2 [(D, oD)] := ⟨_, _, _, _, fun h e => ⟨_, e, rfl, _, rfl⟩, N2⟩
  refine iterTup (h₀ := s.heap) (items := #[.int 1 t1, .int 2 t2, .int 3 t3]) hh rfl rfl F2 N2
    (fun i m news => news = [(D, oD)] ∧ m (Str.ofString "row") = some (.str x tx) ∧ m (Str.ofString "products") = some (.ref P) ∧ ∃ t, m (Str.ofString "worth") = some (.int (worthK x i : Int) t)) ?_ ?_ ?_ ?_
  · exact ⟨rfl, rfl, rfl, _, rfl⟩
  · rintro i m₁ news₁ h ⟨rfl, _⟩ F3 N3
    exact hoD _ (News.get N3 (.head _))
  · rintro I i v m₁ news₁ oI h tk hv ⟨rfl, hmr, hmp, tw, hmw⟩ _ hI F3 N3
    obtain ⟨ty, rfl, hi⟩ : ∃ t, v = .int ((i + 1 : Nat) : Int) t ∧ i < 3 := by
      rcases i with _ | _ | _ | i
      · cases hv; exact ⟨_, rfl, by decide⟩
      · cases hv; exact ⟨_, rfl, by decide⟩
      · cases hv; exact ⟨_, rfl, by decide⟩
      · cases hv
    have F4 := fr_eq F3 (m' := fun y => if y = Str.ofString "y" then some (.int ((i + 1 : Nat) : Int) ty) else if y = Str.ofString "row" then some (.str x tx) else if y = Str.ofString "products" then some (.ref P) else if y = Str.ofString "worth" then some (.int (worthK x i : Int) tw) else m₁ y) (by
      intro y
      have := put3 hmr hmp hmw y
      dsimp only at this ⊢
      rw [this])
    clear F3 F2 N2
    refine execs_cut (fun s' => ∃ h' tk' tl, s' = { s with heap := h', toks := tk' } ∧ Fr s.heap s.heap.objs.size h' (wm x tx P i ty tl tw (worthK x i) m₁) ∧ News s.heap s.heap.objs.size h' [(I, oI), (D, oD)]) ?_ ?_
    · (try k_unmd); (try k_fold)
      k_steps
      rename_i tl h5 F5 N5
      refine ⟨rfl, _, _, tl, rfl, fr_eq F5 ?_, N5⟩
      intro y
      rw [show (12 - 3 * ((i + 1 : Nat) : Int)).toNat = 12 - 3 * (i + 1) from by omega]
      dsimp only [wm]
      split
      · rename_i e; subst e; rfl
      · rfl
    rintro _ ⟨h5, tk5, tl, rfl, F5, N5⟩
    clear F4 N3
    refine execs_cut (fun s' => ∃ h' tk' tw, s' = { s with heap := h', toks := tk' } ∧ Fr s.heap s.heap.objs.size h' (wm x tx P i ty tl tw (w1 x (i + 1) (worthK x i)) m₁) ∧ News s.heap s.heap.objs.size h' [(I, oI), (D, oD)]) ?_ ?_
    · (try k_unmd); (try k_fold)
      k_steps
      · exact ⟨rfl, _, _, _, rfl, by rw [w1_no (occ_no (by assumption))]; assumption, by assumption⟩
      · exact ⟨rfl, _, _, _, rfl, fr_eq (by assumption) (wm_put (w1_yes (occ_yes (by assumption)))), by assumption⟩
    rintro _ ⟨h6, tk6, tw6, rfl, F6, N6⟩
    clear F5 N5
    generalize hv1 : w1 x (i + 1) (worthK x i) = v1 at F6
    refine execs_cut (fun s' => ∃ h' tk' tw, s' = { s with heap := h', toks := tk' } ∧ Fr s.heap s.heap.objs.size h' (wm x tx P i ty tl tw (w2 x (i + 1) v1) m₁) ∧ News s.heap s.heap.objs.size h' [(I, oI), (D, oD)]) ?_ ?_
    · (try k_unmd); (try k_fold)
      k_steps
      · exact ⟨rfl, _, _, _, rfl, fr_eq (by assumption) (wm_put (w2_yes (by assumption))), by assumption⟩
      · exact ⟨rfl, _, _, _, rfl, by rw [w2_no (by assumption)]; assumption, by assumption⟩
    rintro _ ⟨h7, tk7, tw7, rfl, F7, N7⟩
    clear F6 N6
    generalize hv2 : w2 x (i + 1) v1 = v2 at F7
    refine execs_cut (fun s' => ∃ h' tk' tw, s' = { s with heap := h', toks := tk' } ∧ Fr s.heap s.heap.objs.size h' (wm x tx P i ty tl tw (w3 x (i + 1) v2) m₁) ∧ News s.heap s.heap.objs.size h' [(I, oI), (D, oD)]) ?_ ?_
    · (try k_unmd); (try k_fold)
      k_steps
      · exact ⟨rfl, _, _, _, rfl, fr_eq (by assumption) (wm_put (w3_yes (by assumption))), by assumption⟩
      · exact ⟨rfl, _, _, _, rfl, by rw [w3_no (by assumption)]; assumption, by assumption⟩
    rintro _ ⟨h8, tk8, tw8, rfl, F8, N8⟩
    clear F7 N7
    generalize hv3 : w3 x (i + 1) v2 = v3 at F8
    (try k_unmd); (try k_fold)
    k_steps
    · refine ⟨_, _, _, [(D, oD)], rfl, by assumption, by assumption, rfl, rfl, rfl, rfl, tw8, ?_⟩
      show some (Value.int (v3 : Int) tw8) = some (Value.int ((worthK x (i + 1) : Nat) : Int) tw8)
      rw [worthK, cellW, hv1, hv2, hv3, w4_no (occ_no (by assumption))]
    · refine ⟨_, _, _, [(D, oD)], rfl, by assumption, by assumption, rfl, rfl, rfl, rfl, _, congrArg (fun z : Int => some (Value.int z _)) (show Builtin.bitXor (v3 : Int) (pr (i + 1) (Int.toNat 4) : Int) = ((worthK x (i + 1) : Nat) : Int) from ?_)⟩
      rw [w4_yes (x := x) (occ_yes (by assumption)), worthK, cellW, hv1, hv2, hv3]
  · rintro m₁ news₁ h tk ⟨rfl, hmr, hmp, tw, hmw⟩ _ F3 N3
    have F4 := fr_eq F3 (m' := fun y => if y = Str.ofString "row" then some (.str x tx) else if y = Str.ofString "products" then some (.ref P) else if y = Str.ofString "worth" then some (.int (worthK x 3 : Int) tw) else m₁ y) (put3 hmr hmp hmw)
    clear F3 F2
    refine wpAny_execs_nil ?_
    (try dsimp only)
    (try k_unmd); (try k_fold)
    k_steps
    exact hQ _ _ _ F4.keep ⟨_, rfl⟩
end Mine
end

section
open PySem PySem.W PyProof.Rows PySem.Spec PySem.Calls
set_option Elab.async false
set_option maxRecDepth 100000
set_option maxHeartbeats 2000000
namespace Mine
local macro_rules | `(tactic| walk_at "exec For Name Subscript cons nil") => `(tactic| (k_dflt (refine wpAny_For ?_ (fun _ => rfl))))
local macro_rules | `(tactic| walk_at "call ref") => `(tactic| ((with_reducible show wpAny _ _ (PySem.call (Value.ref 42) _) _ _ _); (refine useC (xor_ctr _ _ _ _ _ _ _ _) (by assumption) (by k_asm) (by k_asm) (by k_asm) (by k_asm) (by k_asm) rfl rfl (by omega) (by omega) trivial ?_); intro r' h' tk' F' N' k' p'; obtain ⟨t', e'⟩ := p'; subst e'; (try dsimp only)))
theorem mode_ctr (w : World) (mean : ExcName → Option Value) (mg mb : Str → Option Value) (l : Addr) (vs : List Value) (ns : List Int) (hi : IntsAre vs ns) (hn : ns.length ≤ 63) :
   Ctr w mean mg mb 96 [.ref l] 2 (fun h => h.IsList l vs.toArray) (fun _ r _ => ∃ (m : Nat) (t : Tok), m < 65536 ∧ r = .int (m : Int) t) := by
  unfold Ctr
  intro A base env outer s Q E ⟨hh, hf, B, X, T⟩ hdp hu hl hQ
  refine wpAny_call ?_
  refine enterN (binds := [(Str.ofString "script", .ref l)]) B X T (by k_is) (by k_is) (by omega) (BindsTo.of_eq rfl) (locs rfl) ?_ rfl rfl rfl (by decide)
  intro h₁ F N
  k_fold
  k_steps
  rename_i _ D ws h2 F2 N2 hI2 _ _ _
  refine iterList (h₀ := s.heap) (items := ws.toArray) hh rfl rfl F2 N2
    (fun i m news => news = [(D, W.listOf ws.toArray 0)] ∧ ∃ (n : Nat) (t : Tok), n < 65536 ∧ m (Str.ofString "total") = some (.int (n : Int) t)) ?_ ?_ ?_ ?_
  · exact ⟨rfl, 0, _, by decide, rfl⟩
  · rintro i m₁ news₁ h ⟨rfl, _⟩ F3 N3
    exact News.isList N3 (.head _)
  · rintro I i v m₁ news₁ oI h tk hv ⟨rfl, n, tn, hn65, hmt⟩ _ hI F3 N3
    obtain ⟨z, tz, rfl⟩ : ∃ z t, v = Value.int z t := hI2.all _ (List.mem_of_getElem? (by simpa using hv))
    have F4 := fr_eq F3 (m' := fun y => if y = Str.ofString "x" then some (.int z tz) else if y = Str.ofString "total" then some (.int (n : Int) tn) else m₁ y) (by
      intro y
      split
      · rfl
      · split
        · rename_i e; rw [e, hmt]
        · rfl)
    clear F3 F2 N2
    (try k_unmd); (try k_fold)
    k_steps
    have hb : 0 ≤ ((n : Int) * 5 + z).fmod 65536 ∧ ((n : Int) * 5 + z).fmod 65536 < 65536 := ⟨Int.fmod_nonneg_of_pos _ (by decide), Int.fmod_lt_of_pos _ (by decide)⟩
    refine ⟨_, _, _, [(D, W.listOf ws.toArray 0)], rfl, by assumption, by assumption, rfl, rfl, (((n : Int) * 5 + z).fmod 65536).toNat, _, by omega, congrArg (fun q : Int => some (Value.int q _)) (show ((n : Int) * 5 + z).fmod 65536 = (((((n : Int) * 5 + z).fmod 65536).toNat : Nat) : Int) from by omega)⟩
  · rintro m₁ news₁ h tk ⟨rfl, n, tn, hn65, hmt⟩ _ F3 N3
    have F4 := fr_eq F3 (m' := fun y => if y = Str.ofString "total" then some (.int (n : Int) tn) else m₁ y) (by
      intro y
      split
      · rename_i e; rw [e, hmt]
      · rfl)
    clear F3 F2
    refine wpAny_execs_nil ?_
    (try dsimp only)
    (try k_unmd); (try k_fold)
    k_steps
    refine hQ _ _ _ (Fr.keep (by assumption)) ⟨n ^^^ 281, _, Nat.xor_lt_two_pow (n := 16) hn65 (by decide), congrArg (fun q : Int => Value.int q _) (bitXor_nat n 281)⟩
end Mine
end

section
open PySem PySem.W PyProof.Rows PySem.Spec PySem.Calls
set_option Elab.async false
set_option maxRecDepth 100000
set_option maxHeartbeats 2000000
namespace Mine
section
variable {M : Model} {A : Around} {E : Value → Shared → Prop} {s : Shared} {env : Env} {x : Str} {pos : Pos} {v : Value} {Q : Value → Shared → Prop} {w : World} {mean : ExcName → Option Value} {mg mb : Str → Option Value} {p : Program} {loose : List Str} {K : Frag}
theorem nmG (X : K.In s.heap) (T : Top p loose mean mg mb s.heap) (e : nsIn K mainGlobals x = some (some v)) (h : Q v s) (hk : env.scope.kind = .function := by rfl) (hx : env.kindOf x = some .globalImplicit := by rfl) (hg : env.globals = mainGlobals := by rfl)
    (hd : (x == ("__debug__" : Str)) = false := by decide) : wpAny M A (eval (.Name x pos) env) Q E s :=
  Name_function_global hk hx (loadGlobal_global (env := env) (by rw [hg]; exact T.g) (mg_of X T.g e) h) hd
theorem nmB (X : K.In s.heap) (T : Top p loose mean mg mb s.heap) (e : nsIn K mainGlobals x = some none) (hv : bootBuiltins x = some v) (h : Q v s) (hn : x ≠ "__name__" := by decide) (hk : env.scope.kind = .function := by rfl) (hx : env.kindOf x = some .globalImplicit := by rfl) (hg : env.globals = mainGlobals := by rfl) (hb : env.builtins = builtinsNs := by rfl)
    (hd : (x == ("__debug__" : Str)) = false := by decide) : wpAny M A (eval (.Name x pos) env) Q E s :=
  Name_function_global hk hx (loadGlobal_builtin (env := env) (by rw [hg]; exact T.g) (mg_none_of X T.g e) (by rw [hb]; exact T.b) ((T.builtins x hn).trans hv) h) hd
theorem nmL {m : Str → Option Value} (hn : s.heap.Ns env.locals m) (hv : m x = some v) (h : Q v s) (hk : env.scope.kind = .function := by rfl) (hx : env.kindOf x = some .local := by rfl)
    (hd : (x == ("__debug__" : Str)) = false := by decide) : wpAny M A (eval (.Name x pos) env) Q E s := wpAny_Name (wpAny_loadName_local hk hx hn hv h) hd
theorem nmC {c : Addr} (hc : env.cells.lookup x = some c) (hv : s.heap.IsCell c (some v)) (h : Q v s) (hk : env.scope.kind = .function := by rfl) (hx : env.kindOf x = some .cell := by rfl)
    (hd : (x == ("__debug__" : Str)) = false := by decide) : wpAny M A (eval (.Name x pos) env) Q E s := wpAny_Name (wpAny_loadName_cell hk hx hc hv h) hd
end
theorem Rdy.keep {w : World} {mean : ExcName → Option Value} {mg mb : Str → Option Value} {A : Around} {base : Heap} {env : Env} {outer : List Env} {h h' : Heap} (r : Rdy w mean mg mb A base env outer h)
    (k : ∀ b o, h.get? b = some o → h'.get? b = some o) : Rdy w mean mg mb A base env outer h' :=
  ⟨r.hand, r.fr, ⟨r.below.stack, fun b o e => k b o (r.below.stays b o e), r.below.frames.of_keeps fun b o e _ => ⟨o, k b o e, rfl⟩⟩, r.k.keeps k, r.top.keeps k⟩
/-- the frame at hand as the next call finds it -/
theorem Rdy.mk' {w : World} {mean : ExcName → Option Value} {mg mb : Str → Option Value} {A : Around} {base h₀ h : Heap} {env e' : Env} {outer : List Env} {L : Addr} {m : Str → Option Value}
    (hh : A.handled = none) (B : Below A base (env :: outer) h₀) (X : (hd.heap_39 w.params).In h₀) (T : Top hd.view_39 LS mean mg mb h₀) (F : Fr h₀ L h m) (hfr : e'.frame = some L) (hk : e'.scope.kind = .function) :
    Rdy w mean mg mb (A.deeper e') base e' (env :: outer) h := ⟨hh, Around.frames_deeper B.stack, pushX B F hfr hk, X.keeps F.keep, T.keeps F.keep⟩
end Mine
end

section
open PySem PySem.W PyProof.Rows PySem.Spec PySem.Calls
set_option Elab.async false
set_option maxRecDepth 100000
set_option maxHeartbeats 4000000
namespace Mine
/-- the bit of a coin -/
def coin (y x : Nat) : Nat := if y = 0 ∨ x = 0 then 0 else 2 ^ (if x = 4 then 8 + y else 3 * y + x - 4)
section
local macro_rules | `(tactic| walk_at "call ref") => `(tactic| ((with_reducible show wpAny _ _ (PySem.call (Value.ref 28) _) _ _ _); (refine useC (lshift_ctr _ _ _ _ _ _ _ _ (by decide) (by decide) (by omega) (by omega)) (by assumption) (by k_asm) (by k_asm) (by k_asm) (by k_asm) (by k_asm) rfl rfl (by omega) (by omega) trivial ?_); intro r' h' tk' F' N' k' p'; obtain ⟨t', e'⟩ := p'; subst e'; (try dsimp only)))
theorem coin_ctr (w : World) (mean : ExcName → Option Value) (mg mb : Str → Option Value) (y x : Nat) (hy : y < 4) (hx : x < 5) (ty tx : Tok) :
   Ctr w mean mg mb 103 [.int (y : Int) ty, .int (x : Int) tx] 2 (fun _ => True) (fun _ r _ => ∃ t, r = .int (coin y x : Int) t) := by
  unfold Ctr
  intro A base env outer s Q E ⟨hh, hf, B, X, T⟩ hdp hu _ hQ
  refine wpAny_call ?_
  refine enterN (binds := [(Str.ofString "y", .int (y : Int) ty), (Str.ofString "x", .int (x : Int) tx)]) B X T (by k_is) (by k_is) (by omega) (BindsTo.of_eq rfl) (locs rfl) ?_ rfl rfl rfl (by decide)
  intro h₁ F N
  k_fold
  k_steps
  · refine hQ _ _ _ (Fr.keep (by assumption)) ⟨_, congrArg (fun z : Int => Value.int z _) (show (0 : Int) = (coin y x : Int) from ?_)⟩
    rw [coin, if_pos (Or.inl (by omega))]; rfl
  · refine hQ _ _ _ (Fr.keep (by assumption)) ⟨_, congrArg (fun z : Int => Value.int z _) (show (0 : Int) = (coin y x : Int) from ?_)⟩
    rw [coin, if_pos (Or.inr (by omega))]; rfl
  · refine hQ _ _ _ (Fr.keep (by assumption)) ⟨_, congrArg (fun z : Int => Value.int z _) (show (1 : Int) * 2 ^ (8 + (y : Int)).toNat = (coin y x : Int) from ?_)⟩
    rw [coin, if_neg (by omega), if_pos (by omega), Int.one_mul, show (8 + (y : Int)).toNat = 8 + y from by omega]
    push_cast; rfl
  · refine hQ _ _ _ (Fr.keep (by assumption)) ⟨_, congrArg (fun z : Int => Value.int z _) (show (1 : Int) * 2 ^ (3 * (y : Int) + (x : Int) - 4).toNat = (coin y x : Int) from ?_)⟩
    rw [coin, if_neg (by omega), if_neg (by omega), Int.one_mul, show (3 * (y : Int) + (x : Int) - 4).toNat = 3 * y + x - 4 from by omega]
    push_cast; rfl
end
end Mine
end

section
open PySem PySem.W PyProof.Rows PySem.Spec PySem.Calls
set_option Elab.async false
set_option maxRecDepth 100000
set_option maxHeartbeats 2000000
namespace Mine
abbrev inScope : Scope := { kind := .function, names := [(Str.ofString ".0", .local), (Str.ofString "x", .local), (Str.ofString "_law_coin", .globalImplicit), (Str.ofString "y", .free)], isGenerator := false, isCoroutine := false, more := [] }
abbrev outScope : Scope := { kind := .function, names := [(Str.ofString ".0", .local), (Str.ofString "y", .cell), (Str.ofString "range", .globalImplicit)], isGenerator := false, isCoroutine := false, more := [] }
abbrev outEnv (env : Env) (C c : Addr) : Env := { scope := outScope, locals := C, globals := env.globals, cells := [(Str.ofString "y", c)], qual := env.qual, func := none, code := env.code, frame := env.frame, builtins := env.builtins }

theorem paired_all {F : Value → Value → Prop} : ∀ {vs ys : List Value}, Paired F vs ys → ∀ (j : Nat) (v : Value), vs[j]? = some v → ∃ y, ys[j]? = some y ∧ F v y
  | _, _, .nil, j, v, h => by simp at h
  | _, _, .cons h t, 0, v, hv => by simp at hv; subst hv; exact ⟨_, rfl, h⟩
  | _, _, .cons h t, j + 1, v, hv => by simp at hv; simpa using paired_all t j v hv
theorem Keeps.refl' (s : Shared) : Keeps s s := ⟨s.heap, s.toks, rfl, fun _ _ e => e⟩
theorem isSmall (n : Nat) (hn : n < 2 ^ 30) : Builtin.Range.rangeSize 0 (n : Int) 1 = (n : Int) ∧ Builtin.Range.small 0 (n : Int) 1 = true := by
  have hsz : Builtin.Range.rangeSize 0 (n : Int) 1 = (n : Int) := by
    unfold Builtin.Range.rangeSize
    rw [if_pos (by decide)]
    split
    · rw [Int.ediv_one]; omega
    · omega
  refine ⟨hsz, ?_⟩
  unfold Builtin.Range.small
  rw [hsz]
  have fl : ∀ i : Int, 0 ≤ i → i < 2 ^ 31 → Builtin.Range.rangeFitsLong i = true := fun i h1 h2 => by
    unfold Builtin.Range.rangeFitsLong
    rw [Bool.and_eq_true]
    exact ⟨decide_eq_true (by omega), decide_eq_true (by omega)⟩
  rw [fl 0 (by omega) (by omega), fl n (by omega) (by omega), fl 1 (by omega) (by omega), if_pos (by decide), fl (n + (1 - 1)) (by omega) (by omega)]
  simp

section
variable {w : World} {mean : ExcName → Option Value} {mg mb : Str → Option Value} {A : Around} {base : Heap} {env0 : Env} {outer : List Env} {env : Env} {s : Shared}
/-- range(n), n written, where the name is seen -/
theorem eval_range {n : Int} {p1 p2 p3 : Pos} {Q E : Value → Shared → Prop} (R : Rdy w mean mg mb A base env0 outer s.heap)
    (hk : env.scope.kind = .function) (hx : env.kindOf (Str.ofString "range") = some .globalImplicit) (hg : env.globals = mainGlobals) (hb : env.builtins = builtinsNs)
    (h : ∀ r h' tk t u v, IsRange h' r 0 n 1 t u v → (∀ b o, s.heap.get? b = some o → h'.get? b = some o) → s.heap.objs.size ≤ r → Q (.ref r) { s with heap := h', toks := tk }) :
    wpAny (model PR w) A (eval (.Call (.Name (Str.ofString "range") p1) [.Constant (.int n) 0 p2] [] p3) env) Q E s := by
  refine Call_ (nmB R.k R.top (by k_is) PyProof.Rows.boot_range ?_ (by decide) hk hx hg hb)
  refine PyProof.Rows.callWith_type1 ?_
  refine args_cons ?_
  refine wpAny_Constant_int ?_
  refine args_nil ?_
  refine call_range_1 ?_
  exact h _ _ _ _ _ _ (Heap.get?_push_size _ rfl) (fun b o e => Heap.get?_push_of_some _ e) (Nat.le_refl _)

theorem inner_comp {C c : Addr} {y : Nat} {ty : Tok} {p1 p2 p3 p4 p5 p6 p7 p8 p9 : Pos} {E : Value → Shared → Prop} (R : Rdy w mean mg mb A base env0 outer s.heap) (hdp : A.depth + 2 < recursionLimit) (hu : A.units + 16 < cLine)
    (hg : env.globals = mainGlobals) (hb : env.builtins = builtinsNs) (hy : y < 4) (hc : s.heap.IsCell c (some (.int (y : Int) ty))) :
    wpAny (model PR w) A (eval (.ListComp (.Call (.Name (Str.ofString "_law_coin") p1) [.Name (Str.ofString "y") p2, .Name (Str.ofString "x") p3] [] p4) [⟨.Name (Str.ofString "x") p5, .Call (.Name (Str.ofString "range") p6) [.Constant (.int 5) 0 p7] [] p8, [], 0⟩] inScope p9) (outEnv env C c))
      (fun v s' => ∃ D ys, v = .ref D ∧ s.heap.get? D = none ∧ s'.heap.IsList D ys ∧ (∀ j, j < 5 → ∃ t, ys[j]? = some (.int (coin y j : Int) t)) ∧ Keeps s s') E s := by
  have hclos : closureFor inScope (outEnv env C c) = pure [(Str.ofString "y", c)] := by rfl
  refine wpAny_ListComp_free (env := outEnv env C c) (cl := [(Str.ofString "y", c)]) (fun _ => true) (fun v u => ∃ (j : Nat) (t t' : Tok), v = .int (j : Int) t ∧ u = .int (coin y j : Int) t') hclos (by decide) rfl (by decide) rfl ?_ (fun _ => rfl)
  refine eval_range R rfl rfl hg hb fun r h₁ tk₁ t u v hr hk₁ hsz₁ => ?_
  obtain ⟨hs1, hs2⟩ := isSmall 5 (by decide)
  refine wpAny_pyIter_range hr hs2 ?_
  have hI : ∀ b o, s.heap.get? b = some o → b ≠ h₁.objs.size := fun b o e q => by
    have := Heap.lt_size (hk₁ b o e)
    rw [q] at this
    exact absurd this (Nat.lt_irrefl _)
  refine ⟨h₁.objs.size, [h₁.objs.size], [h₁.objs.size], 5, _, _, rfl, (Walks.range R.hand h₁.objs.size 0 1 5).bound, by rw [sizeLine_eq]; decide, ?_, ?_, ⟨?_, ?_⟩, ?_⟩
  · have e5 : Builtin.Range.rangeSize 0 5 1 = 5 := hs1
    show IsRangeIter (h₁.push { cls := .type "range_iterator", data := .fields #[rawInt 0, rawInt (Builtin.Range.rangeSize 0 5 1), rawInt 1] }) h₁.objs.size (0 + ((0 : Nat) : Int) * 1) (((5 : Nat) : Int) - ((0 : Nat) : Int)) 1
    rw [e5]
    exact Heap.get?_push_size _ rfl
  · intro b hb
    rw [List.mem_singleton.mp hb]
    show h₁.objs.size < (h₁.push _).objs.size
    rw [Heap.size_push]; exact Nat.lt_succ_self _
  · intro C' i v s₃ m₃ E' _ _ _ _ _ _
    exact wpAny_tests_nil ⟨rfl, Keeps.refl' _⟩
  · rintro C' i v s₃ m₃ E' hC' ⟨hi5, tv, rfl⟩ _ hn hm hk₃ _
    have hkk : ∀ b o, s.heap.get? b = some o → s₃.heap.get? b = some o := fun b o e => hk₃ b o (fun hb => hI b o e (List.mem_singleton.mp hb)) (Heap.get?_push_of_some _ (hk₁ b o e))
    have R₃ := R.keep hkk
    refine Call_ (nmG R₃.k R₃.top (by k_is) ?_ rfl rfl hg)
    refine callWith_K R₃.k (by k_is) ?_
    refine args_cons (nmC (c := c) rfl (hc.keeps hkk) ?_)
    refine args_cons (nmL hn hm ?_)
    refine args_nil ⟨R₃.k, ?_⟩
    have e0 : (0 : Int) + (i : Int) * 1 = (i : Int) := by omega
    rw [e0]
    refine coin_ctr w mean mg mb y i hy hi5 ty tv A base env0 outer s₃ _ _ R₃ (by omega) (by omega) trivial fun r' h' tk' hk' hp' => ?_
    obtain ⟨t', rfl⟩ := hp'
    exact ⟨⟨i, tv, t', rfl, rfl⟩, h', tk', rfl, hk'⟩
  · intro D h' tk ys vs hD hl _ hlen hP hF hk
    refine ⟨D, ys, rfl, ?_, hl, ?_, ?_⟩
    · cases q : s.heap.get? D with
      | none => rfl
      | some o => have := Heap.get?_push_of_some { cls := .type "range_iterator", data := .fields #[rawInt 0, rawInt (Builtin.Range.rangeSize 0 5 1), rawInt 1] } (hk₁ D o q); rw [this] at hD; cases hD
    · intro j hj
      have hfil : vs.filter (fun _ => true) = vs := by simp
      rw [hfil] at hF
      have hjv : vs[j]? = some (vs[j]'(by omega)) := by simp
      obtain ⟨_, t, ht⟩ := hP j _ hjv
      obtain ⟨u, hu, j', t1, t2, e1, e2⟩ := paired_all hF j _ hjv
      rw [ht] at e1
      have : j' = j := by
        have := e1
        simp at this
        omega
      subst this
      exact ⟨t2, by rw [← e2]; simpa using hu⟩
    · exact ⟨h', tk, rfl, fun b o e => hk b o (fun hb => hI b o e (List.mem_singleton.mp hb)) (Heap.get?_push_of_some _ (hk₁ b o e))⟩
end
end Mine
end

section
open PySem PySem.W PyProof.Rows PySem.Spec PySem.Calls
set_option Elab.async false
set_option maxRecDepth 100000
set_option maxHeartbeats 2000000
namespace Mine
def Coins (h : Heap) (D : Addr) : Prop := ∃ ra : Nat → Addr, h.IsList D #[.ref (ra 0), .ref (ra 1), .ref (ra 2), .ref (ra 3)] ∧ ∀ y, y < 4 → ∃ vs : Array Value, h.IsList (ra y) vs ∧ ∀ j, j < 5 → ∃ t, vs[j]? = some (.int (coin y j : Int) t)

section
variable {M : Model} {A : Around} {E : Value → Shared → Prop} {s : Shared}
theorem newEnvCell {globals : Addr} {qual : Str} {env : Env} {Q : Env → Shared → Prop}
    (h : ∀ h', h'.Ns s.heap.objs.size (fun _ => none) → h'.IsCell (s.heap.objs.size + 1) none → (∀ b o, s.heap.get? b = some o → h'.get? b = some o) →
      Q { scope := outScope, locals := s.heap.objs.size, globals := globals, cells := [(Str.ofString "y", s.heap.objs.size + 1)], qual := qual, func := none, code := env.code, frame := env.frame, builtins := env.builtins } { s with heap := h' }) :
    wpAny M A (newFunctionEnv outScope globals [] [] qual none .none (some env)) Q E s := by
  simp only [newFunctionEnv, Option.isSome_some, if_true]
  refine wpAny_bind (wpAny_alloc ?_)
  refine wpAny_bind (wpAny_layCells _ (fun name kind cells => by cases hkc : kind == NameKind.cell <;> simp [hkc]) _ _ _ _ ?_)
  refine wpAny_bind (wpAny_pure ?_)
  refine wpAny_pure ?_
  have hz : (s.heap.push { cls := .type "dict", data := .dict #[] }).objs.size = s.heap.objs.size + 1 := Heap.size_push ..
  have hc : cellsFrom (s.heap.push { cls := .type "dict", data := .dict #[] }).objs.size outScope.names [] = [(Str.ofString "y", s.heap.objs.size + 1)] := by
    rw [hz]; rfl
  have hp : pushCells (s.heap.push { cls := .type "dict", data := .dict #[] }) outScope.names = (s.heap.push { cls := .type "dict", data := .dict #[] }).push { cls := .type "cell", data := .cell none } := rfl
  have := h ((s.heap.push { cls := .type "dict", data := .dict #[] }).push { cls := .type "cell", data := .cell none }) ((Heap.Ns.new s.heap (.type "dict")).keeps fun b o e => Heap.get?_push_of_some _ e)
    ⟨_, hz ▸ Heap.get?_push_size _ rfl, rfl⟩ (fun b o e => Heap.get?_push_of_some _ (Heap.get?_push_of_some _ e))
  rw [← hc, ← hp] at this
  exact this
end

section
variable {w : World} {mean : ExcName → Option Value} {mg mb : Str → Option Value} {A : Around} {base h₀ : Heap} {env0 : Env} {outer : List Env} {env : Env} {s : Shared} {m : Str → Option Value}
theorem coins_stmt {p1 p2 p3 p4 p5 p6 p7 p8 p9 q1 q2 q3 q4 q5 q6 q7 : Pos} {Q : Flow → Shared → Prop} {E : Value → Shared → Prop} (R : Rdy w mean mg mb A base env0 outer s.heap) (hdp : A.depth + 2 < recursionLimit) (hu : A.units + 16 < cLine)
    (hkk : env.scope.kind = .function) (hxr : env.kindOf (Str.ofString "range") = some .globalImplicit) (hxc : env.kindOf (Str.ofString "coins") = some .local) (hg : env.globals = mainGlobals) (hb : env.builtins = builtinsNs)
    (F : Fr h₀ env.locals s.heap m)
    (hsw : swapsWith (.ListComp (.ListComp (.Call (.Name (Str.ofString "_law_coin") p1) [.Name (Str.ofString "y") p2, .Name (Str.ofString "x") p3] [] p4) [⟨.Name (Str.ofString "x") p5, .Call (.Name (Str.ofString "range") p6) [.Constant (.int 5) 0 p7] [] p8, [], 0⟩] inScope p9)
      [⟨.Name (Str.ofString "y") q2, .Call (.Name (Str.ofString "range") q3) [.Constant (.int 4) 0 q4] [] q5, [], 0⟩] outScope q6) (some (.Name (Str.ofString "coins") q1)) q7.line env = pure true)
    (h : ∀ D NC h' tk, Fr h₀ env.locals h' (fun z => if z = Str.ofString "coins" then some (.ref D) else m z) → News h₀ env.locals h' NC → (∀ h₁ L₁ h₂, News h₁ L₁ h₂ NC → Coins h₂ D) → Q .next { s with heap := h', toks := tk }) :
    wpAny (model PR w) A (exec (.Assign [.Name (Str.ofString "coins") q1] (.ListComp (.ListComp (.Call (.Name (Str.ofString "_law_coin") p1) [.Name (Str.ofString "y") p2, .Name (Str.ofString "x") p3] [] p4) [⟨.Name (Str.ofString "x") p5, .Call (.Name (Str.ofString "range") p6) [.Constant (.int 5) 0 p7] [] p8, [], 0⟩] inScope p9)
      [⟨.Name (Str.ofString "y") q2, .Call (.Name (Str.ofString "range") q3) [.Constant (.int 4) 0 q4] [] q5, [], 0⟩] outScope q6) q7) env) Q E s := by
  rw [exec_Assign_Name_used _ _ _ _ hsw]
  refine wpAny_bind (wpAny_standAt (wpAny_bind ?_))
  have hclos : closureFor outScope env = pure [] := rfl
  show wpAny _ A (do let _ ← comprehension _ outScope env _ (newList []) false (eval (.Call (.Name (Str.ofString "range") q3) [.Constant (.int 4) 0 q4] [] q5) env) (some (assign (.Name (Str.ofString "coins") q1) env))) _ _ s
  refine wpAny_bind (wpAny_mono (wpAny_comprehension_free (use := some (assign (.Name (Str.ofString "coins") q1) env)) (Q := fun _ s' => Q .next s') rfl (fun _ => rfl) hclos rfl (by decide) ?_) (fun _ s' hq => wpAny_pure (wpAny_pure hq)) fun _ _ e => e)
  refine eval_range R hkk hxr hg hb fun r h₁ tk₁ t u v hr hk₁ hsz₁ => ?_
  obtain ⟨hs1, hs2⟩ := isSmall 4 (by decide)
  refine wpAny_pyIter_range hr hs2 ?_
  rw [show Builtin.Range.rangeSize 0 4 1 = 4 from hs1]
  generalize hIdef : h₁.objs.size = I
  generalize hh2 : h₁.push { cls := .type "range_iterator", data := .fields #[rawInt 0, rawInt 4, rawInt 1] } = h₂
  have hI2 : IsRangeIter h₂ I 0 4 1 := by rw [← hh2, ← hIdef]; exact Heap.get?_push_size _ rfl
  have hk₂ : ∀ b o, s.heap.get? b = some o → h₂.get? b = some o := fun b o e => by rw [← hh2]; exact Heap.get?_push_of_some _ (hk₁ b o e)
  have hsI : ∀ b o, s.heap.get? b = some o → b ≠ I := fun b o e q => by
    have := Heap.lt_size (hk₁ b o e)
    rw [q, hIdef] at this
    exact absurd this (Nat.lt_irrefl _)
  refine wpAny_newObj_type ?_ (by size_fits)
  dsimp only
  generalize hDdef : h₂.objs.size = D
  have hID : I < D := by
    have := Heap.lt_size hI2
    rw [hDdef] at this; exact this
  generalize hh3 : h₂.push { cls := .type "list", dict := none, data := .seq ([] : List Value).toArray } = h₃
  have hD3 : h₃.PlainList D #[] := ⟨_, by rw [← hh3, ← hDdef]; exact Heap.get?_push_size _ rfl⟩
  have hk₃ : ∀ b o, h₂.get? b = some o → h₃.get? b = some o := fun b o e => by rw [← hh3]; exact Heap.get?_push_of_some _ e
  have hsD : ∀ b o, s.heap.get? b = some o → b ≠ D := fun b o e q => by
    have := Heap.lt_size (hk₂ b o e)
    rw [q, hDdef] at this
    exact absurd this (Nat.lt_irrefl _)
  refine newEnvCell fun h₄ hC4 hc4 hk₄ => ?_
  generalize hCdef : h₃.objs.size = C at hC4 hc4
  have hDC : D < C := by
    obtain ⟨_, q⟩ := hD3
    have := Heap.lt_size q
    rw [hCdef] at this; exact this
  have hsC : ∀ b o, s.heap.get? b = some o → b < C := fun b o e => by
    have := Heap.lt_size (hk₃ b o (hk₂ b o e))
    rw [hCdef] at this; exact this
  have hr0 : relabel outScope env = outScope := rfl
  rw [hr0]
  show codeAny _ _ (.compStart _ 0 (.ref I) (.ref D) (outEnv env C (C + 1))) _ _
  have hI4 : IsRangeIter h₄ I 0 4 1 := hk₄ _ _ (hk₃ _ _ hI2)
  have hD4 : h₄.PlainList D #[] := hD3.at fun o e => hk₄ _ o e
  have hks : ∀ b o, s.heap.get? b = some o → h₄.get? b = some o := fun b o e => hk₄ b o (hk₃ b o (hk₂ b o e))
  have loop : ∀ s₃ : Shared, (∃ tk, s₃ = { s with heap := h₄, toks := tk }) → codeAny (model PR w) A (.compLoop (.ListComp (.ListComp (.Call (.Name (Str.ofString "_law_coin") p1) [.Name (Str.ofString "y") p2, .Name (Str.ofString "x") p3] [] p4) [⟨.Name (Str.ofString "x") p5, .Call (.Name (Str.ofString "range") p6) [.Constant (.int 5) 0 p7] [] p8, [], 0⟩] inScope p9)
      [⟨.Name (Str.ofString "y") q2, .Call (.Name (Str.ofString "range") q3) [.Constant (.int 4) 0 q4] [] q5, [], 0⟩] outScope q6) 0 (.ref I) (.ref D) (outEnv env C (C + 1)))
      (compPost (model PR w) A E (some (assign (.Name (Str.ofString "coins") q1) env)) (fun _ s' => Q .next s') (.ref D) C) s₃ := by
    rintro s₃ ⟨tk₃, rfl⟩
    refine codeAny_compLoop_tests
      (fun k s' => ∃ h' tk ys i v₀, s' = { s with heap := h', toks := tk } ∧ IsRangeIter h' I (i : Nat) ((4 : Int) - (i : Nat)) 1 ∧ h'.PlainList D ys ∧ h'.IsCell (C + 1) v₀ ∧ h'.Ns C (fun _ => none) ∧ (∀ b o, s.heap.get? b = some o → h'.get? b = some o) ∧ ys.size = i ∧
        (∀ y, y < i → ∃ (T : Addr) (vs : Array Value), ys[y]? = some (.ref T) ∧ s.heap.get? T = none ∧ T ≠ I ∧ T ≠ D ∧ T ≠ C ∧ T ≠ C + 1 ∧ h'.IsList T vs ∧ ∀ j, j < 5 → ∃ t, vs[j]? = some (.int (coin y j : Int) t)) ∧ i ≤ 4 ∧ k = 5 - i) ?_ 5
      ⟨h₄, tk₃, #[], 0, none, rfl, by simpa using hI4, hD4, hc4, hC4, hks, rfl, fun y hy => absurd hy (Nat.not_lt_zero _), by decide, rfl⟩
    rintro k s' ⟨h', tk, ys, i, v₀, rfl, hI', hD', hc', hC', hk', hsz, hall, hi4, rfl⟩
    by_cases hlt : i < 4
    · refine wpAny_pyNext_range_item hI' (by omega) fun h₅ hI₅ hs₅ => ?_
      dsimp only
      have hCI : C ≠ I := Nat.ne_of_gt (Nat.lt_trans hID hDC)
      have hcI : C + 1 ≠ I := Nat.ne_of_gt (Nat.lt_succ_of_lt (Nat.lt_trans hID hDC))
      refine wpAny_assign_Name (wpAny_storeName_cell (c := C + 1) rfl rfl rfl (hc'.sameBut hs₅ hcI) fun h₆ hc₆ hs₆ => ?_)
      replace hs₆ : Heap.SameBut (C + 1) h₅ h₆ := hs₆
      have up : ∀ b o, b ≠ I → b ≠ C + 1 → h'.get? b = some o → h₆.get? b = some o := fun b o h1 h2 e => hs₆.extBut b o h2 (hs₅.extBut b o h1 e)
      have ups : ∀ b o, s.heap.get? b = some o → h₆.get? b = some o := fun b o e => up b o (hsI b o e) (Nat.ne_of_lt (Nat.lt_succ_of_lt (hsC b o e))) (hk' b o e)
      refine wpAny_tests_nil ?_
      simp only [if_true]
      have R₆ : Rdy w mean mg mb A base env0 outer h₆ := R.keep ups
      refine wpAny_mono (inner_comp (env := env) (C := C) (c := C + 1) (y := i) (s := { s with heap := h₆, toks := _ }) R₆ hdp hu hg hb hlt hc₆) (fun vv s₇ h₇ => ?_) fun _ _ e => e
      obtain ⟨T, vs, rfl, hTn, hTl, hvs, h₈, tk₈, rfl, hk₈⟩ := h₇
      have hDI : D ≠ I := Nat.ne_of_gt hID
      have hDc : D ≠ C + 1 := Nat.ne_of_lt (Nat.lt_succ_of_lt hDC)
      have hD₈ : h₈.PlainList D ys := hD'.at fun o e => hk₈ _ o (up _ o hDI hDc e)
      refine wpAny_list_append_plain (hsz := by rw [sizeLine_eq]; omega) hD₈ fun h₉ hD₉ hs₉ => ?_
      replace hs₉ : Heap.SameBut D h₈ h₉ := hs₉
      have hn6 : ∀ b o, h₆.get? b = some o → T ≠ b := fun b o e q => by rw [q] at hTn; exact absurd (hTn.symm.trans e) (by simp)
      have hTI : T ≠ I := hn6 I _ ((hs₆.2 I hcI.symm).trans hI₅)
      have hTD : T ≠ D := by obtain ⟨_, q⟩ := hD'; exact hn6 D _ (up _ _ hDI hDc q)
      have hTC : T ≠ C := by obtain ⟨_, _, _, q, _⟩ := hC'; exact hn6 C _ (up _ _ hCI (Nat.ne_of_lt (Nat.lt_succ_self _)) q)
      have hTc : T ≠ C + 1 := by obtain ⟨_, q, _⟩ := hc₆; exact hn6 _ _ q
      have hTs : s.heap.get? T = none := by
        cases q : s.heap.get? T with
        | none => rfl
        | some o => exact absurd rfl (hn6 T o (ups T o q))
      refine ⟨5 - (i + 1), by omega, h₉, tk₈, ys.push (.ref T), i + 1, _, rfl, ?_, hD₉, (hc₆.keeps hk₈).sameBut hs₉ hDc.symm, ?_, ?_, by simp [hsz], ?_, hlt, rfl⟩
      · have : h₉.get? I = _ := (hs₉.2 I hDI.symm).trans (hk₈ I _ ((hs₆.2 I hcI.symm).trans hI₅))
        rw [show (((i + 1 : Nat)) : Int) = (i : Int) + 1 from by push_cast; rfl, show (4 : Int) - ((i : Int) + 1) = (4 : Int) - (i : Int) - 1 from by omega]
        exact this
      · exact ((((hC'.sameBut hs₅ hCI).sameBut hs₆ (Nat.ne_of_lt (Nat.lt_succ_self _))).keeps hk₈).sameBut hs₉ (Nat.ne_of_gt hDC))
      · exact fun b o e => hs₉.extBut b o (hsD b o e) (hk₈ b o (ups b o e))
      · intro y hy
        rcases Nat.lt_succ_iff_lt_or_eq.mp hy with hy | rfl
        · obtain ⟨T', vs', e1, e2, e3, e4, e5, e6, e7, e8⟩ := hall y hy
          refine ⟨T', vs', ?_, e2, e3, e4, e5, e6, e7.at fun o e => hs₉.extBut _ o e4 (hk₈ _ o (up _ o e3 e6 e)), e8⟩
          rw [Array.getElem?_push_lt (by omega)]
          rw [Array.getElem?_eq_getElem (by omega)] at e1
          exact e1
        · refine ⟨T, vs, ?_, hTs, hTI, hTD, hTC, hTc, hTl.at fun o e => hs₉.extBut _ o hTD e, hvs⟩
          rw [← hsz]; simp
    · have hi : i = 4 := by omega
      subst hi
      refine wpAny_pyNext_range_end R.hand hI' (by omega) fun h₅ he₅ => ?_
      dsimp only
      show wpAny _ A (assign (.Name (Str.ofString "coins") q1) env (.ref D)) _ _ _
      have hDI : D ≠ I := Nat.ne_of_gt hID
      have hCI : C ≠ I := Nat.ne_of_gt (Nat.lt_trans hID hDC)
      have hk₅ : ∀ b o, s.heap.get? b = some o → h₅.get? b = some o := fun b o e => he₅ b o (hsI b o e) (hk' b o e)
      have hLlt : env.locals < s.heap.objs.size := F.ns.lt
      obtain ⟨oL, _, _, hoL, _⟩ := id F.ns
      have hLC : env.locals ≠ C := Nat.ne_of_lt (hsC _ _ hoL)
      have hLD : env.locals ≠ D := hsD _ _ hoL
      have F₅ : Fr h₀ env.locals h₅ m := ⟨F.ns.keeps hk₅, fun b o e => hk₅ b o (F.keep b o e), F.above⟩
      refine wpAny_assign_Name (wpAny_storeName_local hxc F₅.ns (fun h₆ hn₆ hs₆ => ?_) (by rw [hkk]; rfl))
      replace hs₆ : Heap.SameBut env.locals h₅ h₆ := hs₆
      have F₆ := F₅.set hn₆ hs₆
      refine ⟨fun _ => none, (hC'.at' fun o e => he₅ _ o hCI e).sameBut hs₆ hLC.symm, fun h₇ hs₇ => ?_⟩
      replace hs₇ : Heap.SameBut C h₆ h₇ := hs₇
      obtain ⟨T0, v0, a0, b0, c0, d0, e0, f0, g0, j0⟩ := hall 0 (by decide)
      obtain ⟨T1, v1, a1, b1, c1, d1, e1, f1, g1, j1⟩ := hall 1 (by decide)
      obtain ⟨T2, v2, a2, b2, c2, d2, e2, f2, g2, j2⟩ := hall 2 (by decide)
      obtain ⟨T3, v3, a3, b3, c3, d3, e3, f3, g3, j3⟩ := hall 3 (by decide)
      have hys : ys = #[.ref T0, .ref T1, .ref T2, .ref T3] := by
        apply Array.ext
        · simpa using hsz
        · intro k hk1 hk2
          have hk4 : k < 4 := by omega
          rcases k with _ | _ | _ | _ | k
          · rw [Array.getElem?_eq_getElem hk1] at a0; simpa using a0
          · rw [Array.getElem?_eq_getElem hk1] at a1; simpa using a1
          · rw [Array.getElem?_eq_getElem hk1] at a2; simpa using a2
          · rw [Array.getElem?_eq_getElem hk1] at a3; simpa using a3
          · omega
      have old : ∀ b o, h₀.get? b = some o → b ≠ C := fun b o e => Nat.ne_of_lt (hsC b o (F.keep b o e))
      have up : ∀ b o, b ≠ I → b ≠ env.locals → b ≠ C → h'.get? b = some o → h₇.get? b = some o := fun b o h1 h2 h3 e => (hs₇.2 b h3).trans ((hs₆.2 b h2).trans (he₅ b o h1 e))
      have hTL : ∀ T, s.heap.get? T = none → T ≠ env.locals := fun T e q => by rw [q, hoL] at e; cases e
      have hT0 : ∀ T, s.heap.get? T = none → h₀.get? T = none := fun T e => by
        cases q : h₀.get? T with
        | none => rfl
        | some o => rw [F.keep T o q] at e; cases e
      have hDs : s.heap.get? D = none := by
        cases q : s.heap.get? D with
        | none => rfl
        | some o => exact absurd rfl (hsD D o q)
      obtain ⟨nD, hD'⟩ := hD'
      obtain ⟨o0, g0, k0⟩ := g0
      obtain ⟨o1, g1, k1⟩ := g1
      obtain ⟨o2, g2, k2⟩ := g2
      obtain ⟨o3, g3, k3⟩ := g3
      refine h D [(D, W.listOf ys nD), (T0, o0), (T1, o1), (T2, o2), (T3, o3)] h₇ _ ⟨F₆.ns.sameBut hs₇ hLC, fun b o e => (hs₇.2 b (old b o e)).trans (F₆.keep b o e), F₆.above⟩ ?_ ?_
      · intro p hp
        simp only [List.mem_cons, List.not_mem_nil, or_false] at hp
        rcases hp with rfl | rfl | rfl | rfl | rfl
        · exact ⟨up _ _ hDI hLD.symm (Nat.ne_of_lt hDC) hD', hLD.symm, hT0 _ hDs⟩
        · exact ⟨up _ _ c0 (hTL _ b0) e0 g0, hTL _ b0, hT0 _ b0⟩
        · exact ⟨up _ _ c1 (hTL _ b1) e1 g1, hTL _ b1, hT0 _ b1⟩
        · exact ⟨up _ _ c2 (hTL _ b2) e2 g2, hTL _ b2, hT0 _ b2⟩
        · exact ⟨up _ _ c3 (hTL _ b3) e3 g3, hTL _ b3, hT0 _ b3⟩
      · intro hh₁ L₁ hh₂ N
        refine ⟨fun y => match y with | 0 => T0 | 1 => T1 | 2 => T2 | _ => T3, ?_, ?_⟩
        · exact hys ▸ ⟨_, (N (D, W.listOf ys nD) (by simp)).1, rfl, _, rfl⟩
        · intro y hy
          rcases y with _ | _ | _ | _ | y
          · exact ⟨v0, ⟨o0, (N (T0, o0) (by simp)).1, k0⟩, j0⟩
          · exact ⟨v1, ⟨o1, (N (T1, o1) (by simp)).1, k1⟩, j1⟩
          · exact ⟨v2, ⟨o2, (N (T2, o2) (by simp)).1, k2⟩, j2⟩
          · exact ⟨v3, ⟨o3, (N (T3, o3) (by simp)).1, k3⟩, j3⟩
          · omega
  exact codeAny_compStart_list (loop _ ⟨_, rfl⟩) (wpAny_pyIter_rangeiter hI4 (loop _ ⟨_, rfl⟩))
end
end Mine
end

section
open PySem PySem.W PyProof.Rows PySem.Spec PySem.Calls
set_option Elab.async false
set_option maxRecDepth 100000
set_option maxHeartbeats 2000000
namespace Mine
/-- a turn: the four corners -/
def turnV (a y x low left : Nat) : Nat := a ^^^ (coin y x + coin low x + coin y left + coin low left)
def t4 (a y x low k : Nat) : List Nat := (List.range k).map (turnV a y x low)
def t3 (a y x k : Nat) : List Nat := (List.range k).flatMap fun low => t4 a y x low x
def t2 (a y k : Nat) : List Nat := (List.range k).flatMap fun x => if a &&& coin y (x + 1) ≠ 0 then t3 a y (x + 1) y else []
def t1 (a k : Nat) : List Nat := (List.range k).flatMap fun y => t2 a (y + 1) 4
/-- the modes behind each turn -/
def turnedN (a : Nat) : List Nat := t1 a 3
theorem t4_succ (a y x low k : Nat) : t4 a y x low (k + 1) = t4 a y x low k ++ [turnV a y x low k] := by simp [t4, List.range_succ]
theorem t3_succ (a y x k : Nat) : t3 a y x (k + 1) = t3 a y x k ++ t4 a y x k x := by simp [t3, List.range_succ]
theorem t2_succ (a y k : Nat) : t2 a y (k + 1) = t2 a y k ++ (if a &&& coin y (k + 1) ≠ 0 then t3 a y (k + 1) y else []) := by simp [t2, List.range_succ]
theorem t1_succ (a k : Nat) : t1 a (k + 1) = t1 a k ++ t2 a (k + 1) 4 := by simp [t1, List.range_succ]
theorem t4_len (a y x low k : Nat) : (t4 a y x low k).length = k := by simp [t4]
theorem t3_len (a y x k : Nat) : (t3 a y x k).length = k * x := by
  induction k with
  | zero => simp [t3]
  | succ k ih => rw [t3_succ, List.length_append, ih, t4_len, Nat.succ_mul]
theorem t2_len (a y k : Nat) (hy : y ≤ 3) (hk : k ≤ 4) : (t2 a y k).length ≤ k * 12 := by
  induction k with
  | zero => simp [t2]
  | succ k ih =>
    have := ih (by omega)
    rw [t2_succ, List.length_append]
    split
    · rw [t3_len]
      have : y * (k + 1) ≤ 3 * 4 := Nat.mul_le_mul hy hk
      omega
    · simp; omega
theorem t1_len (a k : Nat) (hk : k ≤ 3) : (t1 a k).length ≤ k * 48 := by
  induction k with
  | zero => simp [t1]
  | succ k ih =>
    have := ih (by omega)
    have h2 := t2_len a (k + 1) 4 hk (by omega)
    rw [t1_succ, List.length_append]
    omega
abbrev zs (l : List Nat) : List Int := l.map Int.ofNat
theorem ints_push {vs : Array Value} {l : List Nat} {n : Nat} {v : Int} {t : Tok} (h : IntsAre vs.toList (zs l)) (e : v = (n : Int)) : IntsAre (vs.push (.int v t)).toList (zs (l ++ [n])) := by
  rw [Array.toList_push, zs, List.map_append, e]
  exact IntsAre.append h (IntsAre.cons _ _ IntsAre.nil)
theorem ints_size {vs : Array Value} {l : List Nat} (h : IntsAre vs.toList (zs l)) : vs.size = l.length := by
  have := h.length
  simpa using this

abbrev lk (l : List (Str × Value)) (m : Str → Option Value) : Str → Option Value := fun z => (l.lookup z).or (m z)
theorem fr_lk {h₀ h : Heap} {L : Addr} {m : Str → Option Value} (l : List (Str × Value)) (F : Fr h₀ L h m) (hl : ∀ p ∈ l, m p.1 = some p.2) : Fr h₀ L h (lk l m) := by
  refine fr_eq F fun z => ?_
  dsimp only [lk]
  cases q : l.lookup z with
  | none => rfl
  | some v =>
    have := hl (z, v) (PySem.mem_of_lookup q)
    exact this.symm
theorem upd_mid {P : Addr} {o o' : Obj} {post : List (Addr × Obj)} (hpost : ∀ p ∈ post, p.1 ≠ P) : ∀ {pre : List (Addr × Obj)}, (∀ p ∈ pre, p.1 ≠ P) → Upd P o o' (pre ++ (P, o) :: post) (pre ++ (P, o') :: post)
  | [], _ => .head hpost
  | _ :: _, h => .tail (h _ (.head _)) (upd_mid hpost fun p hp => h p (.tail _ hp))
section
variable {prog : Program} {w : World} {A : Around} {E : Value → Shared → Prop} {s : Shared} {value slice : Expr} {h₀ : Heap} {L : Addr} {m : Str → Option Value} {news : List (Addr × Obj)}
theorem range_new {n : Int} {tn : Tok} {Q : Value → Shared → Prop} (F : Fr h₀ L s.heap m) (N : News h₀ L s.heap news)
    (h : ∀ r h' tk t u v, Fr h₀ L h' m → News h₀ L h' news → IsRange h' r 0 n 1 t u v → Q (.ref r) { s with heap := h', toks := tk }) : wpAny (model prog w) A (call (.type "range") [.int n tn]) Q E s :=
  call_range_1 (h _ _ _ _ _ _ (F.push _) (fun p hp => ⟨Heap.get?_push_of_some _ (N p hp).1, (N p hp).2⟩) (Heap.get?_push_size _ rfl))
theorem coin_row {D : Addr} {ra : Nat → Addr} {y : Nat} {u : Tok} {Q : Value → Shared → Prop} (hP : s.heap.IsList D #[.ref (ra 0), .ref (ra 1), .ref (ra 2), .ref (ra 3)]) (hy : y < 4) (h : Q (.ref (ra y)) s)
    (hs : subscripted slice false (.ref D) (.int (y : Int) u) = operate [.ref D, .int (y : Int) u] (getItem (.ref D) (.int (y : Int) u)) := by with_unfolding_all rfl) :
    wpAny (model prog w) A (subscriptTail value slice (.ref D) (.int (y : Int) u)) Q E s := by
  refine item_lst hP (by omega) (by omega) ?_ h hs
  rw [Int.toNat_natCast]
  rcases y with _ | _ | _ | _ | y
  · rfl
  · rfl
  · rfl
  · rfl
  · omega
theorem coin_cell {ra : Nat → Addr} {y x : Nat} {u : Tok} {Q : Value → Shared → Prop} (hy : y < 4) (hx : x < 5) (hrw : ∀ y, y < 4 → ∃ vs : Array Value, s.heap.IsList (ra y) vs ∧ ∀ j, j < 5 → ∃ t, vs[j]? = some (.int (coin y j : Int) t)) (h : ∀ t, Q (.int (coin y x : Int) t) s)
    (hs : subscripted slice false (.ref (ra y)) (.int (x : Int) u) = operate [.ref (ra y), .int (x : Int) u] (getItem (.ref (ra y)) (.int (x : Int) u)) := by with_unfolding_all rfl) :
    wpAny (model prog w) A (subscriptTail value slice (.ref (ra y)) (.int (x : Int) u)) Q E s := by
  obtain ⟨vs, h1, h2⟩ := hrw y hy
  obtain ⟨t, h3⟩ := h2 x hx
  exact item_lst h1 (by omega) (by omega) (by rw [Int.toNat_natCast]; exact h3) (h t) hs
end
end Mine
end

section
open PySem PySem.W PyProof.Rows PySem.Spec PySem.Calls
set_option Elab.async false
set_option maxRecDepth 100000
set_option maxHeartbeats 8000000
namespace Mine
local macro_rules | `(tactic| walk_at "exec For Name Tuple cons nil") => `(tactic| (k_dflt (refine wpAny_For ?_ (fun _ => rfl))))
local macro_rules | `(tactic| walk_at "exec For Name Call cons nil") => `(tactic| (k_dflt (refine wpAny_For ?_ (fun _ => rfl))))
local macro_rules | `(tactic| walk_at "call type:range") => `(tactic| (k_dflt (refine range_new (by k_asm) (by k_asm) ?_); intro r' h' tk' t' u' v' F' N' R'))
local macro_rules | `(tactic| walk_at "subscriptTail") => `(tactic| ((with_reducible show wpAny _ _ (subscriptTail _ _ (Value.ref _) (Value.int (Nat.cast _) _)) _ _ _); k_dflt (first | refine coin_row (by assumption) (by omega) ?_ | (refine coin_cell (by omega) (by omega) (by assumption) ?_; intro t'))))
local macro_rules | `(tactic| walk_at "call ref") => `(tactic| ((with_reducible show wpAny _ _ (PySem.call (Value.ref 42) _) _ _ _); (refine useC (xor_ctr _ _ _ _ _ _ _ _) (by assumption) (by k_asm) (by k_asm) (by k_asm) (by k_asm) (by k_asm) rfl rfl (by omega) (by omega) trivial ?_); intro r' h' tk' F' N' k' p'; obtain ⟨t', e'⟩ := p'; subst e'; (try dsimp only)))
theorem turned_ctr (w : World) (mean : ExcName → Option Value) (mg mb : Str → Option Value) (a : Nat) (ta : Tok) :
   Ctr w mean mg mb 108 [.int (a : Int) ta] 3 (fun _ => True) (fun h r h' => ∃ P vs, r = .ref P ∧ h.get? P = none ∧ h'.IsList P vs ∧ IntsAre vs.toList (zs (turnedN a))) := by
  unfold Ctr
  intro A base env outer s Q E ⟨hh, hf, B, X, T⟩ hdp hu _ hQ
  refine wpAny_call ?_
  refine enterN (binds := [(Str.ofString "mode", .int (a : Int) ta)]) B X T (by k_is) (by k_is) (by omega) (BindsTo.of_eq rfl) (locs rfl) ?_ rfl rfl rfl (by decide)
  intro h₁ F N
  refine wpAny_execs_cons ?_
  refine coins_stmt (h₀ := s.heap) (Rdy.mk' hh B X T F rfl rfl) (by show A.depth + 1 + 2 < _; omega) (by show A.units + 3 + 16 < _; omega) rfl rfl rfl rfl rfl F rfl ?_
  intro D NC h2 tk2 F2 N2 hNC
  dsimp only
  k_fold
  k_steps
  rename_i P hA FA NA lA hB T1 h3 F3 N3 l3
  have hPNC : ∀ p ∈ NC, p.1 ≠ P := fun p hp => Nat.ne_of_lt (lA p hp)
  obtain ⟨hPT1, l3⟩ := l3
  obtain ⟨oT1, u1, u2, u3, hoT1, N3⟩ : ∃ oD t1 t2 t3, (∀ h : Heap, h.get? T1 = some oD → h.IsTuple T1 #[.int 1 t1, .int 2 t2, .int 3 t3]) ∧ News s.heap s.heap.objs.size h3 ((T1, oD) :: (P, W.listOf #[] 0) :: NC) := ⟨_, _, _, _, fun h e => ⟨_, e, rfl, _, rfl⟩, N3⟩
  clear NA lA
  refine iterTup (h₀ := s.heap) (items := #[.int 1 u1, .int 2 u2, .int 3 u3]) hh rfl rfl F3 N3
    (fun i m news => ∃ vs n, news = (T1, oT1) :: (P, W.listOf vs n) :: NC ∧ IntsAre vs.toList (zs (t1 a i)) ∧ m (Str.ofString "mode") = some (.int (a : Int) ta) ∧ m (Str.ofString "coins") = some (.ref D) ∧ m (Str.ofString "turned") = some (.ref P)) ?_ ?_ ?_ ?_
  · exact ⟨#[], 0, rfl, IntsAre.nil, rfl, rfl, rfl⟩
  · rintro i m₁ news₁ h ⟨vs, n, rfl, _⟩ F4 N4
    exact hoT1 _ (News.get N4 (.head _))
  · rintro I1 i v m₁ news₁ oI1 h tk hv ⟨vs, n, rfl, hvs, hm1, hm2, hm3⟩ _ hI1 F4 N4
    obtain ⟨ty, rfl, hi⟩ : ∃ t, v = .int ((i + 1 : Nat) : Int) t ∧ i < 3 := by
      rcases i with _ | _ | _ | i
      · cases hv; exact ⟨_, rfl, by decide⟩
      · cases hv; exact ⟨_, rfl, by decide⟩
      · cases hv; exact ⟨_, rfl, by decide⟩
      · cases hv
    have hPI1 : P < I1 := hI1 _ (.tail _ (.head _))
    clear hI1
    have F5 := fr_lk [(Str.ofString "y", .int ((i + 1 : Nat) : Int) ty), (Str.ofString "mode", .int (a : Int) ta), (Str.ofString "coins", .ref D), (Str.ofString "turned", .ref P)] F4
      (List.forall_mem_cons.mpr ⟨rfl, List.forall_mem_cons.mpr ⟨hm1, List.forall_mem_cons.mpr ⟨hm2, List.forall_mem_cons.mpr ⟨hm3, List.forall_mem_nil _⟩⟩⟩⟩)
    clear F4 F3 N3
    (try k_unmd); (try k_fold)
    k_steps
    rename_i T2 h6 F6 N6 l6
    obtain ⟨l61, l62, hPT2, l63⟩ := l6
    obtain ⟨oT2, u1, u2, u3, u4, hoT2, N6⟩ : ∃ oD t1 t2 t3 t4, (∀ h : Heap, h.get? T2 = some oD → h.IsTuple T2 #[.int 1 t1, .int 2 t2, .int 3 t3, .int 4 t4]) ∧ News s.heap s.heap.objs.size h6 ((T2, oD) :: (I1, oI1) :: (T1, oT1) :: (P, W.listOf vs n) :: NC) := ⟨_, _, _, _, _, fun h e => ⟨_, e, rfl, _, rfl⟩, N6⟩
    refine iterTup (h₀ := s.heap) (items := #[.int 1 u1, .int 2 u2, .int 3 u3, .int 4 u4]) hh rfl rfl F6 N6
      (fun j m news => ∃ vs n, news = (T2, oT2) :: (I1, oI1) :: (T1, oT1) :: (P, W.listOf vs n) :: NC ∧ IntsAre vs.toList (zs (t1 a i ++ t2 a (i + 1) j)) ∧ m (Str.ofString "mode") = some (.int (a : Int) ta) ∧ m (Str.ofString "coins") = some (.ref D) ∧ m (Str.ofString "turned") = some (.ref P) ∧ m (Str.ofString "y") = some (.int ((i + 1 : Nat) : Int) ty)) ?_ ?_ ?_ ?_
    · exact ⟨vs, n, rfl, by simpa [t2] using hvs, rfl, rfl, rfl, rfl⟩
    · rintro j m₁ news₁ h ⟨vs, n, rfl, _⟩ F4 N4
      exact hoT2 _ (News.get N4 (.head _))
    · rintro I2 j v m₂ news₂ oI2 h7 tk7 hv ⟨vs2, n2, rfl, hvs2, hm1, hm2, hm3, hm4⟩ _ hI2 F7 N7
      obtain ⟨tx, rfl, hj⟩ : ∃ t, v = .int ((j + 1 : Nat) : Int) t ∧ j < 4 := by
        rcases j with _ | _ | _ | _ | j
        · cases hv; exact ⟨_, rfl, by decide⟩
        · cases hv; exact ⟨_, rfl, by decide⟩
        · cases hv; exact ⟨_, rfl, by decide⟩
        · cases hv; exact ⟨_, rfl, by decide⟩
        · cases hv
      have hPI2 : P < I2 := hI2 _ (.tail _ (.tail _ (.tail _ (.head _))))
      clear hI2
      have F8 := fr_lk [(Str.ofString "x", .int ((j + 1 : Nat) : Int) tx), (Str.ofString "y", .int ((i + 1 : Nat) : Int) ty), (Str.ofString "mode", .int (a : Int) ta), (Str.ofString "coins", .ref D), (Str.ofString "turned", .ref P)] F7
        (List.forall_mem_cons.mpr ⟨rfl, List.forall_mem_cons.mpr ⟨hm4, List.forall_mem_cons.mpr ⟨hm1, List.forall_mem_cons.mpr ⟨hm2, List.forall_mem_cons.mpr ⟨hm3, List.forall_mem_nil _⟩⟩⟩⟩⟩)
      obtain ⟨ra, hD, hrw⟩ := hNC _ _ _ (fun p hp => N7 p (.tail _ (.tail _ (.tail _ (.tail _ (.tail _ hp))))))
      clear F7 F6 N6
      (try k_unmd); (try k_fold)
      k_steps
      · rename_i _ tq hne r h8 tk8 tr ur vr F9 N9 R9
        refine iterRange (h₀ := s.heap) (n := i + 1) hh rfl rfl F9 N9 R9 (by omega)
          (fun k m news => ∃ vs n, news = (I2, oI2) :: (T2, oT2) :: (I1, oI1) :: (T1, oT1) :: (P, W.listOf vs n) :: NC ∧ IntsAre vs.toList (zs (t1 a i ++ t2 a (i + 1) j ++ t3 a (i + 1) (j + 1) k)) ∧ m (Str.ofString "mode") = some (.int (a : Int) ta) ∧ m (Str.ofString "coins") = some (.ref D) ∧ m (Str.ofString "turned") = some (.ref P) ∧ m (Str.ofString "y") = some (.int ((i + 1 : Nat) : Int) ty) ∧ m (Str.ofString "x") = some (.int ((j + 1 : Nat) : Int) tx)) ?_ ?_ ?_
        · exact ⟨vs2, n2, rfl, by simpa [t3] using hvs2, rfl, rfl, rfl, rfl, rfl⟩
        · rintro I3 k tl m₃ news₃ oI3 h10 tk10 hk ⟨vs3, n3, rfl, hvs3, hm1, hm2, hm3, hm4, hm5⟩ _ hI3 F10 N10
          have hPI3 : P < I3 := hI3 _ (.tail _ (.tail _ (.tail _ (.tail _ (.head _)))))
          clear hI3
          have F11 := fr_lk [(Str.ofString "low", .int (k : Int) tl), (Str.ofString "x", .int ((j + 1 : Nat) : Int) tx), (Str.ofString "y", .int ((i + 1 : Nat) : Int) ty), (Str.ofString "mode", .int (a : Int) ta), (Str.ofString "coins", .ref D), (Str.ofString "turned", .ref P)] F10
            (List.forall_mem_cons.mpr ⟨rfl, List.forall_mem_cons.mpr ⟨hm5, List.forall_mem_cons.mpr ⟨hm4, List.forall_mem_cons.mpr ⟨hm1, List.forall_mem_cons.mpr ⟨hm2, List.forall_mem_cons.mpr ⟨hm3, List.forall_mem_nil _⟩⟩⟩⟩⟩⟩)
          clear F10 F9 N9 F8 N7 hD hrw
          (try k_unmd); (try k_fold)
          k_steps
          rename_i r4 h12 tk12 tr4 ur4 vr4 F12 N12 R12
          refine iterRange (h₀ := s.heap) (n := j + 1) hh rfl rfl F12 N12 R12 (by omega)
            (fun l m news => ∃ vs n, news = (I3, oI3) :: (I2, oI2) :: (T2, oT2) :: (I1, oI1) :: (T1, oT1) :: (P, W.listOf vs n) :: NC ∧ IntsAre vs.toList (zs (t1 a i ++ t2 a (i + 1) j ++ t3 a (i + 1) (j + 1) k ++ t4 a (i + 1) (j + 1) k l)) ∧ m (Str.ofString "mode") = some (.int (a : Int) ta) ∧ m (Str.ofString "coins") = some (.ref D) ∧ m (Str.ofString "turned") = some (.ref P) ∧ m (Str.ofString "y") = some (.int ((i + 1 : Nat) : Int) ty) ∧ m (Str.ofString "x") = some (.int ((j + 1 : Nat) : Int) tx) ∧ m (Str.ofString "low") = some (.int (k : Int) tl)) ?_ ?_ ?_
          · exact ⟨vs3, n3, rfl, by simpa [t4] using hvs3, rfl, rfl, rfl, rfl, rfl, rfl⟩
          · rintro I4 l tf m₄ news₄ oI4 h13 tk13 hl ⟨vs4, n4, rfl, hvs4, hm1, hm2, hm3, hm4, hm5, hm6⟩ _ hI4 F13 N13
            have hPI4 : P < I4 := hI4 _ (.tail _ (.tail _ (.tail _ (.tail _ (.tail _ (.head _))))))
            clear hI4
            have F14 := fr_lk [(Str.ofString "left", .int (l : Int) tf), (Str.ofString "low", .int (k : Int) tl), (Str.ofString "x", .int ((j + 1 : Nat) : Int) tx), (Str.ofString "y", .int ((i + 1 : Nat) : Int) ty), (Str.ofString "mode", .int (a : Int) ta), (Str.ofString "coins", .ref D), (Str.ofString "turned", .ref P)] F13
              (List.forall_mem_cons.mpr ⟨rfl, List.forall_mem_cons.mpr ⟨hm6, List.forall_mem_cons.mpr ⟨hm5, List.forall_mem_cons.mpr ⟨hm4, List.forall_mem_cons.mpr ⟨hm1, List.forall_mem_cons.mpr ⟨hm2, List.forall_mem_cons.mpr ⟨hm3, List.forall_mem_nil _⟩⟩⟩⟩⟩⟩⟩)
            obtain ⟨ra, hD, hrw⟩ := hNC _ _ _ (fun p hp => N13 p (.tail _ (.tail _ (.tail _ (.tail _ (.tail _ (.tail _ (.tail _ hp))))))))
            clear F13 F12 N12 F11 N10
            (try k_unmd); (try k_fold)
            k_steps
            rename_i F15 N15 _ _
            have hsz4 := ints_size hvs4
            have hl1 := t1_len a i (by omega)
            have hl2 := t2_len a (i + 1) j (by omega) (by omega)
            have hl3 := t3_len a (i + 1) (j + 1) k
            have hl4 := t4_len a (i + 1) (j + 1) k l
            have hkj : k * (j + 1) ≤ 3 * 4 := Nat.mul_le_mul (by omega) (by omega)
            simp only [List.length_append] at hsz4
            refine append_K F15 N15 (upd_mid (pre := [(I4, oI4), (I3, oI3), (I2, oI2), (T2, oT2), (I1, oI1), (T1, oT1)]) hPNC ?_) ?_ (by rw [sizeLine_eq]; omega)
            · intro p hp
              simp only [List.mem_cons, List.not_mem_nil, or_false] at hp
              rcases hp with rfl | rfl | rfl | rfl | rfl | rfl
              · exact Nat.ne_of_gt hPI4
              · exact Nat.ne_of_gt hPI3
              · exact Nat.ne_of_gt hPI2
              · exact Nat.ne_of_gt hPT2
              · exact Nat.ne_of_gt hPI1
              · exact Nat.ne_of_gt hPT1
            intro h16 F16 N16
            dsimp only
            k_steps
            refine ⟨_, _, _, (I3, oI3) :: (I2, oI2) :: (T2, oT2) :: (I1, oI1) :: (T1, oT1) :: (P, W.listOf (vs4.push _) (n4 + 1)) :: NC, rfl, F16, N16, rfl, _, _, rfl, ?_, rfl, rfl, rfl, rfl, rfl, rfl⟩
            rw [t4_succ, ← List.append_assoc]
            refine ints_push hvs4 ?_
            rw [turnV, ← bitXor_nat]
            push_cast
            rfl
          · rintro m₄ news₄ h13 tk13 ⟨vs4, n4, rfl, hvs4, hm1, hm2, hm3, hm4, hm5, hm6⟩ _ F13 N13
            refine wpAny_execs_nil ?_
            (try dsimp only)
            k_steps
            refine ⟨_, _, _, (I2, oI2) :: (T2, oT2) :: (I1, oI1) :: (T1, oT1) :: (P, W.listOf vs4 n4) :: NC, rfl, F13, N13, rfl, _, _, rfl, ?_, hm1, hm2, hm3, hm4, hm5⟩
            rw [t3_succ, ← List.append_assoc]
            exact hvs4
        · rintro m₄ news₄ h13 tk13 ⟨vs4, n4, rfl, hvs4, hm1, hm2, hm3, hm4, hm5⟩ _ F13 N13
          refine wpAny_execs_nil ?_
          (try dsimp only)
          k_steps
          refine ⟨_, _, _, (T2, oT2) :: (I1, oI1) :: (T1, oT1) :: (P, W.listOf vs4 n4) :: NC, rfl, F13, N13, rfl, _, _, rfl, ?_, hm1, hm2, hm3, hm4⟩
          rw [t2_succ, if_pos, ← List.append_assoc]
          · exact hvs4
          · intro hz
            rw [bitAnd_nat, hz] at hne
            exact hne rfl
      · refine ⟨_, _, _, (T2, oT2) :: (I1, oI1) :: (T1, oT1) :: (P, W.listOf vs2 n2) :: NC, rfl, by assumption, by assumption, rfl, vs2, n2, rfl, ?_, rfl, rfl, rfl, rfl⟩
        rw [t2_succ, if_neg]
        · simpa using hvs2
        · rename_i hz
          rw [bitAnd_nat] at hz
          omega
    · rintro m₄ news₄ h13 tk13 ⟨vs4, n4, rfl, hvs4, hm1, hm2, hm3, hm4⟩ _ F13 N13
      refine wpAny_execs_nil ?_
      (try dsimp only)
      k_steps
      refine ⟨_, _, _, (T1, oT1) :: (P, W.listOf vs4 n4) :: NC, rfl, F13, fun p hp => ?_, rfl, _, _, rfl, ?_, hm1, hm2, hm3⟩
      · exact N13 p (.tail _ hp)
      rw [t1_succ]
      exact hvs4
  · rintro m₄ news₄ h13 tk13 ⟨vs4, n4, rfl, hvs4, hm1, hm2, hm3⟩ _ F13 N13
    have F14 := fr_lk [(Str.ofString "turned", .ref P)] F13 (List.forall_mem_cons.mpr ⟨hm3, List.forall_mem_nil _⟩)
    clear F13 F3 N3
    refine wpAny_execs_nil ?_
    (try dsimp only)
    (try k_unmd); (try k_fold)
    k_steps
    refine hQ _ _ _ F14.keep ⟨P, vs4, rfl, ?_, News.isList N13 (.tail _ (.head _)), hvs4⟩
    exact News.fresh N13 (.tail _ (.head _))
end Mine
end

section
open PySem PySem.W PyProof.Rows PySem.Spec PySem.Calls
set_option Elab.async false
set_option maxRecDepth 100000
set_option maxHeartbeats 2000000
namespace Mine
/-- what sorted_list_difference tells of two lists (n: at least their lengths) -/
def sld : Nat → List Int → List Int → List Int × List Int
  | n + 1, e :: xs, a :: ys =>
    if e < a then (e :: (sld n (xs.dropWhile (· == e)) (a :: ys)).1, (sld n (xs.dropWhile (· == e)) (a :: ys)).2)
    else if a < e then ((sld n (e :: xs) (ys.dropWhile (· == a))).1, a :: (sld n (e :: xs) (ys.dropWhile (· == a))).2)
    else sld n (xs.dropWhile (· == e)) (ys.dropWhile (· == a))
  | _, xs, ys => (xs, ys)

theorem item_out {prog : Program} {w : World} {A : Around} {E : Value → Shared → Prop} {s : Shared} {value slice : Expr} {l : Addr} {items : Array Value} {k : Int} {u : Tok} {Q : Value → Shared → Prop} (hA : A.handled = none) (hl : s.heap.IsList l items) (h0 : (items.size : Int) ≤ k) (hk : k < 2 ^ 62)
    (hE : ∀ h' tk e, Heap.NewExc s.heap h' e "IndexError" → E (.ref e) { s with heap := h', toks := tk })
    (hs : subscripted slice false (.ref l) (.int k u) = operate [.ref l, .int k u] (getItem (.ref l) (.int k u)) := by with_unfolding_all rfl) :
    wpAny (model prog w) A (subscriptTail value slice (.ref l) (.int k u)) Q E s :=
  tail_any hl.typeIs slot_list_getitem.lookup (wpAny_getItem_list_out hA hl (.inr h0) (by omega) (by omega) hE) hs

theorem drop_cons {α : Type} {l : List α} {i : Nat} (hi : i < l.length) : l.drop i = l[i] :: l.drop (i + 1) := List.drop_eq_getElem_cons hi

section
variable {prog : Program} {w : World} {A : Around} {s : Shared} {hb : Heap} {L : Addr} {m : Str → Option Value} {news : List (Addr × Obj)} {name : Str} {scope : Scope} {fa : Addr} {cd : Value}
/-- while l[ix] == v: ix += 1 -/
theorem whileSkip {l ix v : Str} {p1 p2 p3 p4 p5 p6 p7 p8 p9 : Pos} {X : Addr} {xs : Array Value} {es : List Int} {i : Nat} {val : Int} {ti tv : Tok} {Q : Flow → Shared → Prop} {E : Value → Shared → Prop}
    (F : Fr hb L s.heap m) (N : News hb L s.heap news) (hl : m l = some (.ref X)) (hix : m ix = some (.int (i : Int) ti)) (hv : m v = some (.int val tv)) (h1 : l ≠ ix) (h2 : v ≠ ix)
    (hX : hb.IsList X xs) (hes : IntsAre xs.toList es) (hlen : es.length < 2 ^ 30) (hile : i ≤ es.length)
    (hk : scope.kind = .function) (k1 : (envOf name scope L fa cd).kindOf l = some .local) (k2 : (envOf name scope L fa cd).kindOf ix = some .local) (k3 : (envOf name scope L fa cd).kindOf v = some .local)
    (d1 : (l == ("__debug__" : Str)) = false) (d2 : (ix == ("__debug__" : Str)) = false) (d3 : (v == ("__debug__" : Str)) = false)
    (hdone : ∀ i' t h' tk, i ≤ i' → i' ≤ es.length → (es.drop i).dropWhile (· == val) = es.drop i' → es.drop i' ≠ [] → Fr hb L h' (fun z => if z = ix then some (.int (i' : Int) t) else m z) → News hb L h' news → Q .next { s with heap := h', toks := tk })
    (hraise : (es.drop i).dropWhile (· == val) = [] → A.handled = none ∧ ∀ t h' h'' tk e, Fr hb L h' (fun z => if z = ix then some (.int (es.length : Int) t) else m z) → News hb L h' news → Heap.NewExc h' h'' e "IndexError" → E (.ref e) { s with heap := h'', toks := tk })
    (hE : PassesOwn (model prog w) A (envOf name scope L fa cd) E) :
    wpAny (model prog w) A (exec (.While (.Compare (.Subscript (.Name l p1) (.Name ix p2) p3) [.Eq] [.Name v p4] p5) [.AugAssign (.Name ix p6) .Add (.Constant (.int 1) 0 p7) p8] [] p9) (envOf name scope L fa cd)) Q E s := by
  refine wpAny_While ?_
  refine codeAny_whileLoop (fun n s' => ∃ (i' : Nat) (t : Tok) (h' : Heap) (tk : Nat), s' = { s with heap := h', toks := tk } ∧ i ≤ i' ∧ i' ≤ es.length ∧ (es.drop i).dropWhile (· == val) = (es.drop i').dropWhile (· == val) ∧ Fr hb L h' (fun z => if z = ix then some (.int (i' : Int) t) else m z) ∧ News hb L h' news ∧ n = es.length - i') ?_ (es.length - i)
    ⟨i, ti, s.heap, s.toks, rfl, Nat.le_refl _, hile, rfl, fr_eq F (fun z => by
      by_cases e : z = ix
      · rw [if_pos e, e, hix]
      · rw [if_neg e]), N, rfl⟩
  rintro n s' ⟨i', t, h', tk, rfl, hii, hi', hdw, F', N', rfl⟩
  have hsz : xs.size = es.length := by have := hes.length; simpa using this
  refine wpAny_passesOwn hE ?_
  refine wpAny_isTrue_Compare1 ?_ 
  refine Subscript_ ?_
  refine ld (s := { s with heap := h', toks := tk }) F' ((if_neg h1).trans hl) ?_ hk k1 d1
  refine ld (s := { s with heap := h', toks := tk }) F' (if_pos rfl) ?_ hk k2 d2
  have hXh : h'.IsList X xs := hX.at fun o e => F'.keep _ o e
  by_cases hlt : i' < es.length
  · obtain ⟨tx, hx⟩ := hes.get i' es[i'] (by simp [hlt])
    refine item_lst (s := { s with heap := h', toks := tk }) hXh (by omega) (by omega) (by rw [Int.toNat_natCast]; simpa using hx) ?_
    refine ld (s := { s with heap := h', toks := tk }) F' ((if_neg h2).trans hv) ?_ hk k3 d3
    refine PyProof.Rows.eq_int ?_
    refine wpAny_truthy_bool ?_
    have hdc : es.drop i' = es[i'] :: es.drop (i' + 1) := drop_cons hlt
    by_cases heq : es[i'] = val
    · rw [show (es[i'] == val) = true from by simp [heq]]
      simp only [if_true]
      refine wpAny_passesOwn hE ?_
      refine wpAny_execs_cons ?_
      refine wpAny_AugAssign_Name ?_
      refine ldn (s := { s with heap := h', toks := tk }) F' (if_pos rfl) ?_ hk k2
      refine wpAny_Constant_int ?_
      refine PyProof.Rows.iadd_int ?_
      refine stN (s := { s with heap := h', toks := _ }) F' N' (fun h₂ F₂ N₂ => ?_) hk k2
      refine wpAny_execs_nil ?_
      refine ⟨es.length - (i' + 1), by omega, i' + 1, tk + 1, h₂, _, rfl, by omega, by omega, ?_, fr_eq F₂ ?_, N₂, rfl⟩
      · rw [hdw, hdc, List.dropWhile_cons_of_pos (by simp [heq])]
      · intro z
        by_cases e : z = ix
        · rw [if_pos e]; exact (if_pos e).symm
        · rw [if_neg e, if_neg e, if_neg e]
    · rw [show (es[i'] == val) = false from by simp [heq]]
      simp only [Bool.false_eq_true, if_false]
      refine wpAny_execs_nil ?_
      refine hdone i' t h' tk hii hi' ?_ (by rw [hdc]; exact List.cons_ne_nil _ _) F' N'
      rw [hdw, hdc, List.dropWhile_cons_of_neg (by simp [heq])]
  · have hie : i' = es.length := by omega
    subst hie
    have hnil : (es.drop i).dropWhile (· == val) = [] := by rw [hdw]; simp
    obtain ⟨hA, hr⟩ := hraise hnil
    refine item_out (s := { s with heap := h', toks := tk }) hA hXh (by rw [hsz]; omega) (by omega) ?_
    intro h'' tk' e hne
    exact hr t h' h'' tk' e F' N' hne
end
end Mine
end

section
open PySem PySem.W PyProof.Rows PySem.Spec PySem.Calls
set_option Elab.async false
set_option maxRecDepth 100000
set_option maxHeartbeats 4000000
namespace Mine
section
variable {w : World} {A : Around} {s : Shared} {h₀ : Heap} {K : Frag} {p : Program} {loose : List Str} {mean : ExcName → Option Value} {mg mb : Str → Option Value} {prog : Program} {L : Addr} {m : Str → Option Value}
/-- a call that may touch its caller's frame (its slots) -/
theorem enterT {R : Result → Shared → Prop} {name qual : Str} {params : Arguments} {body : List Stmt} {scope : Scope} {dV kV doc pm cdv ct oc : Value} {an od : Option Addr} {osl : Array (Option Value)} {f : Addr} {args : Args} {binds : List (Str × Value)} {lenv : Env}
    (F : Fr h₀ L s.heap m) (X : K.In h₀) (T : Top p loose mean mg mb h₀) (hlf : lenv.frame = some L) (hlk : lenv.scope.kind = .function)
    (ho : K.lookup f = some ⟨oc, od, .func (fnOf name qual params body scope dV kV doc pm an cdv ct), osl⟩) (hcd : codeIn K cdv qual = true) (hroom : A.depth < recursionLimit)
    (hbind : BindsTo s (fnOf name qual params body scope dV kV doc pm an cdv ct) args binds) (hloc : ∀ y ∈ binds, scope.names.lookup y.1 = some .local)
    (h : ∀ oL h₁, Fr (hideAll s.heap [L]) s.heap.objs.size h₁ (fun y => binds.reverse.lookup y) → News (hideAll s.heap [L]) s.heap.objs.size h₁ [(L, oL)] → TI.Frs [lenv] [(L, oL)] → (∀ (h' : Heap) sl, h'.get? L = some { oL with slots := sl } → h'.Ns L m) →
      K.In (hideAll s.heap [L]) → Top p loose mean mg mb (hideAll s.heap [L]) →
      wpAny (model prog w) (A.deeper (envOf qual scope s.heap.objs.size f cdv)) (execs body (envOf qual scope s.heap.objs.size f cdv))
        (fun fl s' => R (.ok (.ret (match fl with | .ret v => v | _ => .none))) s') (fun _ _ => False)
        { s with heap := h₁, toks := s.toks + binds.length })
    (hco : scope.isCoroutine = false) (hgen : scope.isGenerator = false) (hk : scope.kind = .function)
    (hcell : ∀ x ∈ scope.names, x.2 ≠ .cell) : codeAny (model prog w) A (.call (.ref f) args) R s := by
  have X' := X.keeps F.keep
  refine codeAny_call_def (fd := fnOf name qual params body scope dV kV doc pm an cdv ct) (body := body) (binds := binds) hroom (X' _ _ ho) rfl (T.nolimit.keeps F.keep) (codeRec_of X' hcd) rfl hbind hcell hloc (fun h₁ hns hk₁ => ?_) hco hgen hk
  obtain ⟨oL, es, ep, hL, hLd, hLk, hLf⟩ := F.ns
  have hLt := Heap.lt_size hL
  have up : ∀ b o, h₀.get? b = some o → (hideAll s.heap [L]).get? b = some o := fun b o e => hideAll_get _ (F.keep b o e) (fun hm => by
    rw [List.mem_singleton.mp hm] at e
    exact absurd (Nat.lt_of_lt_of_le (Heap.lt_size e) F.above) (Nat.lt_irrefl _))
  refine wpAny_mono (h oL h₁ ⟨hns, fun b o e => hk₁ b o (of_hideAll _ e), Nat.le_of_eq (hideAll_size _ _)⟩ ?_ ⟨by rw [hlk]; decide, hlf, ⟨es, ep, hLd⟩, trivial⟩ (fun h' sl e => ⟨_, es, ep, e, hLd, hLk, hLf⟩) (X.keeps up) (T.keeps up)) (fun _ _ x => x) (fun _ _ x => x.elim)
  intro q hq
  rw [List.mem_singleton.mp hq]
  exact ⟨hk₁ _ _ hL, Nat.ne_of_lt hLt, hideAll_none _ (by simp)⟩
end
abbrev sScope : Scope := { kind := .function, names := [(Str.ofString "expected", .local), (Str.ofString "actual", .local), (Str.ofString "i", .local), (Str.ofString "j", .local), (Str.ofString "missing", .local), (Str.ofString "unexpected", .local), (Str.ofString "e", .local), (Str.ofString "a", .local), (Str.ofString "IndexError", .globalImplicit)], isGenerator := false, isCoroutine := false, more := [] }
section
variable {w : World} {A₀ : Around} {hb : Heap} {mean : ExcName → Option Value} {mg mb : Str → Option Value} {L : Addr} {m : Str → Option Value} {frs : List (Addr × Obj)} {Mi Un X Y : Addr} {MV UV : Array Value} {nM nU : Nat} {vx vy : List Value} {es as ms us : List Int} {i j : Nat} {ti tj : Tok} {e : Addr} {s' : Shared} {fl : Value} {cd : Value}
local macro_rules | `(tactic| walk_at "call builtin:list.extend") => `(tactic| (change Stop _))
local macro_rules | `(tactic| walk_at "subscriptTail Name Slice ref ref") => `(tactic| (k_dflt (refine' kmk_slice_ints ?F ?N ?l ?p ?q ?i ?m ?c ?_ ?s ?t ?z; (case F => k_asm); (case N => k_asm); (case l => kmk_list); (case p => exact .int _ _); (case q => exact .none); (case i => assumption); (case m => exact slice_ints_from (by assumption) (by omega) (by omega)); (case c => exact rfl); (case s => with_unfolding_all rfl); (case t => kmk_pure); (case z => assumption)); intro D' ws' h' F' N' l1 hI' hC' hL'))
theorem handle {Q : Flow → Shared → Prop}
    (H : TT.HeldNA hb L s'.heap m e "IndexError" ((Mi, W.listOf MV nM) :: (Un, W.listOf UV nU) :: frs) fl) (KX : (hd.heap_39 w.params).In hb) (T : Top hd.view_39 LS mean mg mb hb)
    (m1 : m (Str.ofString "expected") = some (.ref X)) (m2 : m (Str.ofString "actual") = some (.ref Y)) (m3 : m (Str.ofString "i") = some (.int (i : Int) ti)) (m4 : m (Str.ofString "j") = some (.int (j : Int) tj)) (m5 : m (Str.ofString "missing") = some (.ref Mi)) (m6 : m (Str.ofString "unexpected") = some (.ref Un))
    (hX : hb.IsList X vx.toArray) (hxi : IntsAre vx es) (hY : hb.IsList Y vy.toArray) (hyi : IntsAre vy as) (hM : IntsAre MV.toList ms) (hU : IntsAre UV.toList us)
    (hMU : Mi ≠ Un) (hMf : ∀ q ∈ frs, q.1 ≠ Mi) (hUf : ∀ q ∈ frs, q.1 ≠ Un) (hsz : ms.length + us.length + es.length + as.length < 2 ^ 20) (hi : i ≤ es.length) (hj : j ≤ as.length)
    (hQ : ∀ h' tk MV' nM' UV' nU', Fr hb L h' m → News hb L h' ((Mi, W.listOf MV' nM') :: (Un, W.listOf UV' nU') :: frs) → IntsAre MV'.toList (ms ++ es.drop i) → IntsAre UV'.toList (us ++ as.drop j) → Q .brk { s' with heap := h', toks := tk }) :
    wpAny (model PR w) (A₀.deeper (envOf (Str.ofString "sorted_list_difference") sScope L 21 cd)) (handleBy (.ref e) (envOf (Str.ofString "sorted_list_difference") sScope L 21 cd)
      [.ExceptHandler (some (.Name (Str.ofString "IndexError") ⟨29, 15, 29, 25⟩)) none [
        .Expr (.Call (.Attribute (.Name (Str.ofString "missing") ⟨30, 12, 30, 19⟩) (Str.ofString "extend") ⟨30, 12, 30, 26⟩) [.Subscript (.Name (Str.ofString "expected") ⟨30, 27, 30, 35⟩) (.Slice (some (.Name (Str.ofString "i") ⟨30, 36, 30, 37⟩)) none none ⟨30, 36, 30, 38⟩) ⟨30, 27, 30, 39⟩] [] ⟨30, 12, 30, 40⟩) ⟨30, 12, 30, 40⟩,
        .Expr (.Call (.Attribute (.Name (Str.ofString "unexpected") ⟨31, 12, 31, 22⟩) (Str.ofString "extend") ⟨31, 12, 31, 29⟩) [.Subscript (.Name (Str.ofString "actual") ⟨31, 30, 31, 36⟩) (.Slice (some (.Name (Str.ofString "j") ⟨31, 37, 31, 38⟩)) none none ⟨31, 37, 31, 39⟩) ⟨31, 30, 31, 40⟩] [] ⟨31, 12, 31, 41⟩) ⟨31, 12, 31, 41⟩,
        .Break ⟨32, 12, 32, 17⟩] ⟨29, 8, 32, 17⟩]) Q (fun _ _ => False) s' := by
  refine TT.clause_hitTN H T (by decide +kernel) (by decide +kernel) (by decide +kernel) (by decide +kernel) (by decide +kernel) ?_ (hE := fun _ _ h => h.elim)
  intro h1 F1 N1
  have F2 := fr_eq F1 (m' := fun z => if z = Str.ofString "expected" then some (.ref X) else if z = Str.ofString "actual" then some (.ref Y) else if z = Str.ofString "i" then some (.int (i : Int) ti) else if z = Str.ofString "j" then some (.int (j : Int) tj) else if z = Str.ofString "missing" then some (.ref Mi) else if z = Str.ofString "unexpected" then some (.ref Un) else m z) (by
    intro z
    by_cases e1 : z = Str.ofString "expected"
    · rw [if_pos e1, e1, m1]
    by_cases e2 : z = Str.ofString "actual"
    · rw [if_neg e1, if_pos e2, e2, m2]
    by_cases e3 : z = Str.ofString "i"
    · rw [if_neg e1, if_neg e2, if_pos e3, e3, m3]
    by_cases e4 : z = Str.ofString "j"
    · rw [if_neg e1, if_neg e2, if_neg e3, if_pos e4, e4, m4]
    by_cases e5 : z = Str.ofString "missing"
    · rw [if_neg e1, if_neg e2, if_neg e3, if_neg e4, if_pos e5, e5, m5]
    by_cases e6 : z = Str.ofString "unexpected"
    · rw [if_neg e1, if_neg e2, if_neg e3, if_neg e4, if_neg e5, if_pos e6, e6, m6]
    rw [if_neg e1, if_neg e2, if_neg e3, if_neg e4, if_neg e5, if_neg e6])
  clear H F1
  have hz1 : vx.toArray.size ≤ sizeLine := by rw [sizeLine_eq]; have := hxi.length; simp only [List.size_toArray]; omega
  have hz2 : vy.toArray.size ≤ sizeLine := by rw [sizeLine_eq]; have := hyi.length; simp only [List.size_toArray]; omega
  (try k_unmd); (try k_fold)
  k_steps
  rename_i D1 w1 g1 G1 K1 l1 I1 _ _
  unfold Stop
  have NA : News hb L g1 ([(D1, W.listOf w1.toArray 0)] ++ (Mi, W.listOf MV.toList.toArray nM) :: (Un, W.listOf UV nU) :: frs) := K1
  have hl1 := hM.length
  have hl2 := I1.length
  have hl3 := hU.length
  simp only [List.length_drop, Int.toNat_natCast] at hl2
  refine extend_in_ints (s := { s' with heap := g1, toks := _ }) (own := [(D1, W.listOf w1.toArray 0)]) G1 NA (fun q hq => by rw [List.mem_singleton.mp hq]; exact Nat.ne_of_gt (l1 _ (.head _))) (fun q hq => by
    rcases List.mem_cons.mp hq with hq | hq
    · rw [hq]; exact hMU.symm
    · exact hMf q hq) (NA _ (.head _)).1 hM I1 ?_ (by rw [sizeLine_eq]; simp only [List.size_toArray]; omega)
  intro g2 nM2 G2 K2 I2
  have K3 : News hb L g2 ((Mi, W.listOf (MV.toList ++ w1.toArray.toList).toArray nM2) :: (Un, W.listOf UV nU) :: frs) := fun q hq => K2 q (List.mem_append_right _ hq)
  generalize hMV : (MV.toList ++ w1.toArray.toList).toArray = MV2 at K3
  have I2' : IntsAre MV2.toList (ms ++ es.drop i) := by rw [← hMV]; simpa using I2
  clear K2 NA K1 G1 I1 I2 hMV l1
  show wpAny _ _ _ _ _ _
  dsimp only
  k_steps
  rename_i D1 w1 g1 G1 K1 l1 I1 _ _
  unfold Stop
  have NA : News hb L g1 ([(D1, W.listOf w1.toArray 0), (Mi, W.listOf MV2 nM2)] ++ (Un, W.listOf UV.toList.toArray nU) :: frs) := K1
  have hl2 := I1.length
  simp only [List.length_drop, Int.toNat_natCast] at hl2
  refine extend_in_ints (s := { s' with heap := g1, toks := _ }) (own := [(D1, W.listOf w1.toArray 0), (Mi, W.listOf MV2 nM2)]) G1 NA (fun q hq => by
    rcases List.mem_cons.mp hq with hq | hq
    · rw [hq]; exact Nat.ne_of_gt (l1 _ (.tail _ (.head _)))
    · rw [List.mem_singleton.mp hq]; exact hMU) hUf (NA _ (.head _)).1 hU I1 ?_ (by rw [sizeLine_eq]; simp only [List.size_toArray]; omega)
  intro g3 nU2 G3 K4 I3
  have K5 : News hb L g3 ((Mi, W.listOf MV2 nM2) :: (Un, W.listOf (UV.toList ++ w1.toArray.toList).toArray nU2) :: frs) := fun q hq => K4 q (List.mem_cons_of_mem _ hq)
  clear K4 NA K1 G1
  dsimp only
  k_steps
  refine hQ _ _ _ _ _ _ (fr_eq G3 ?_) K5 I2' (by simpa using I3)
  intro z
  by_cases e1 : z = Str.ofString "expected"
  · rw [if_pos e1, e1, m1]
  by_cases e2 : z = Str.ofString "actual"
  · rw [if_neg e1, if_pos e2, e2, m2]
  by_cases e3 : z = Str.ofString "i"
  · rw [if_neg e1, if_neg e2, if_pos e3, e3, m3]
  by_cases e4 : z = Str.ofString "j"
  · rw [if_neg e1, if_neg e2, if_neg e3, if_pos e4, e4, m4]
  by_cases e5 : z = Str.ofString "missing"
  · rw [if_neg e1, if_neg e2, if_neg e3, if_neg e4, if_pos e5, e5, m5]
  by_cases e6 : z = Str.ofString "unexpected"
  · rw [if_neg e1, if_neg e2, if_neg e3, if_neg e4, if_neg e5, if_pos e6, e6, m6]
  rw [if_neg e1, if_neg e2, if_neg e3, if_neg e4, if_neg e5, if_neg e6]
end
end Mine
end

section
open PySem PySem.W PyProof.Rows PySem.Spec PySem.Calls
set_option Elab.async false
set_option maxRecDepth 100000
set_option maxHeartbeats 400000
namespace Mine
/-- the handler that `handle` walks -/
abbrev hndE : List ExceptHandler := [.ExceptHandler (some (.Name (Str.ofString "IndexError") ⟨29, 15, 29, 25⟩)) none [
        .Expr (.Call (.Attribute (.Name (Str.ofString "missing") ⟨30, 12, 30, 19⟩) (Str.ofString "extend") ⟨30, 12, 30, 26⟩) [.Subscript (.Name (Str.ofString "expected") ⟨30, 27, 30, 35⟩) (.Slice (some (.Name (Str.ofString "i") ⟨30, 36, 30, 37⟩)) none none ⟨30, 36, 30, 38⟩) ⟨30, 27, 30, 39⟩] [] ⟨30, 12, 30, 40⟩) ⟨30, 12, 30, 40⟩,
        .Expr (.Call (.Attribute (.Name (Str.ofString "unexpected") ⟨31, 12, 31, 22⟩) (Str.ofString "extend") ⟨31, 12, 31, 29⟩) [.Subscript (.Name (Str.ofString "actual") ⟨31, 30, 31, 36⟩) (.Slice (some (.Name (Str.ofString "j") ⟨31, 37, 31, 38⟩)) none none ⟨31, 37, 31, 39⟩) ⟨31, 30, 31, 40⟩] [] ⟨31, 12, 31, 41⟩) ⟨31, 12, 31, 41⟩,
        .Break ⟨32, 12, 32, 17⟩] ⟨29, 8, 32, 17⟩]
abbrev sEnv (L : Addr) (cd : Value) : Env := envOf (Str.ofString "sorted_list_difference") sScope L 21 cd
/-- where a raise in the try's body goes -/
abbrev EX (w : World) (A₀ : Around) (L : Addr) (cd : Value) (Q : Flow → Shared → Prop) (E : Value → Shared → Prop) : Value → Shared → Prop := fun e s₁ =>
  wpAny (model PR w) (A₀.deeper (sEnv L cd)) (noteFrame e (sEnv L cd)) (fun _ s₂ => wpAny (model PR w) (A₀.deeper (sEnv L cd)) (setFlight e none) (fun _ s₃ => wpAny (model PR w) (A₀.deeper (sEnv L cd)) (handleBy e (sEnv L cd) hndE) Q E s₃) E s₂) E s₁
/-- the names of the frame -/
structure SM (m : Str → Option Value) (X Y Mi Un : Addr) (i j : Nat) : Prop where
  ex : m (Str.ofString "expected") = some (.ref X)
  ac : m (Str.ofString "actual") = some (.ref Y)
  i : ∃ t, m (Str.ofString "i") = some (.int (i : Int) t)
  j : ∃ t, m (Str.ofString "j") = some (.int (j : Int) t)
  mi : m (Str.ofString "missing") = some (.ref Mi)
  un : m (Str.ofString "unexpected") = some (.ref Un)
/-- what stays: the two lists, the two made lists, the frames above -/
structure SC (w : World) (mean : ExcName → Option Value) (mg mb : Str → Option Value) (hb : Heap) (X Y Mi Un : Addr) (es as : List Int) (frs : List (Addr × Obj)) : Prop where
  k : (hd.heap_39 w.params).In hb
  top : Top hd.view_39 LS mean mg mb hb
  x : ∃ vs : List Value, hb.IsList X vs.toArray ∧ IntsAre vs es
  y : ∃ vs : List Value, hb.IsList Y vs.toArray ∧ IntsAre vs as
  ne : Mi ≠ Un
  mf : ∀ q ∈ frs, q.1 ≠ Mi
  uf : ∀ q ∈ frs, q.1 ≠ Un
  sz : es.length + as.length < 2 ^ 16
theorem SC.up {w mean mg mb hb X Y Mi Un es as frs frs'} (C : SC w mean mg mb hb X Y Mi Un es as frs) (U : TI.SameUp frs frs') : SC w mean mg mb hb X Y Mi Un es as frs' :=
  ⟨C.k, C.top, C.x, C.y, C.ne, fun q hq => by obtain ⟨p, hp, e⟩ := U.fwd q hq; rw [e]; exact C.mf p hp, fun q hq => by obtain ⟨p, hp, e⟩ := U.fwd q hq; rw [e]; exact C.uf p hp, C.sz⟩
section
variable {w : World} {A₀ : Around} {hb : Heap} {mean : ExcName → Option Value} {mg mb : Str → Option Value} {L : Addr} {m : Str → Option Value} {frs : List (Addr × Obj)} {Mi Un X Y : Addr} {MV UV : Array Value} {nM nU : Nat} {es as ms us : List Int} {i j : Nat} {e : Addr} {s' : Shared} {fl : Value} {cd : Value} {Q : Flow → Shared → Prop} {E : Value → Shared → Prop}
theorem landed (H : TT.HeldNA hb L s'.heap m e "IndexError" ((Mi, W.listOf MV nM) :: (Un, W.listOf UV nU) :: frs) fl) (C : SC w mean mg mb hb X Y Mi Un es as frs) (S : SM m X Y Mi Un i j)
    (hM : IntsAre MV.toList ms) (hU : IntsAre UV.toList us) (hmi : ms.length ≤ i) (huj : us.length ≤ j) (hi : i ≤ es.length) (hj : j ≤ as.length)
    (hQ : ∀ h' tk MV' nM' UV' nU', Fr hb L h' m → News hb L h' ((Mi, W.listOf MV' nM') :: (Un, W.listOf UV' nU') :: frs) → IntsAre MV'.toList (ms ++ es.drop i) → IntsAre UV'.toList (us ++ as.drop j) → Q .brk { s' with heap := h', toks := tk }) :
    wpAny (model PR w) (A₀.deeper (sEnv L cd)) (setFlight (.ref e) none) (fun _ s₃ => wpAny (model PR w) (A₀.deeper (sEnv L cd)) (handleBy (.ref e) (sEnv L cd) hndE) Q E s₃) E s' := by
  obtain ⟨vx, hX, hxi⟩ := C.x
  obtain ⟨vy, hY, hyi⟩ := C.y
  obtain ⟨ti, m3⟩ := S.i
  obtain ⟨tj, m4⟩ := S.j
  have := C.sz
  refine H.land fun h' H' => wpAny_mono (handle (s' := { s' with heap := h' }) H' C.k C.top S.ex S.ac m3 m4 S.mi S.un hX hxi hY hyi hM hU C.ne C.mf C.uf (by omega) hi hj ?_) (fun _ _ x => x) (fun _ _ x => x.elim)
  intro h'' tk MV' nM' UV' nU' F N a b
  exact hQ h'' tk MV' nM' UV' nU' F N a b
theorem caught {h : Heap} {l : List Env} (hfr : A₀.frames = some l) (Fs : TI.Frs l frs) (hx : Heap.NewExc h s'.heap e "IndexError") (F : Fr hb L h m) (N : News hb L h ((Mi, W.listOf MV nM) :: (Un, W.listOf UV nU) :: frs)) (C : SC w mean mg mb hb X Y Mi Un es as frs) (S : SM m X Y Mi Un i j)
    (hM : IntsAre MV.toList ms) (hU : IntsAre UV.toList us) (hmi : ms.length ≤ i) (huj : us.length ≤ j) (hi : i ≤ es.length) (hj : j ≤ as.length)
    (hQ : ∀ h' tk MV' nM' UV' nU' frs', TI.SameUp frs frs' → Fr hb L h' m → News hb L h' ((Mi, W.listOf MV' nM') :: (Un, W.listOf UV' nU') :: frs') → IntsAre MV'.toList (ms ++ es.drop i) → IntsAre UV'.toList (us ++ as.drop j) → Q .brk { s' with heap := h', toks := tk }) :
    EX w A₀ L cd Q E (.ref e) s' := by
  refine TI.noted_newT (new := [(Mi, W.listOf MV nM), (Un, W.listOf UV nU)]) hfr Fs hx F N rfl ?_
  intro h' frs' U Fs' H
  refine landed (s' := { s' with heap := h' }) (frs := frs') H (C.up U) S hM hU hmi huj hi hj ?_
  intro h'' tk MV' nM' UV' nU' F' N' a b
  exact hQ h'' tk MV' nM' UV' nU' frs' U F' N' a b
theorem again (H : TT.HeldN hb L s'.heap m e "IndexError" ((Mi, W.listOf MV nM) :: (Un, W.listOf UV nU) :: frs)) (C : SC w mean mg mb hb X Y Mi Un es as frs) (S : SM m X Y Mi Un i j)
    (hM : IntsAre MV.toList ms) (hU : IntsAre UV.toList us) (hmi : ms.length ≤ i) (huj : us.length ≤ j) (hi : i ≤ es.length) (hj : j ≤ as.length)
    (hQ : ∀ h' tk MV' nM' UV' nU', Fr hb L h' m → News hb L h' ((Mi, W.listOf MV' nM') :: (Un, W.listOf UV' nU') :: frs) → IntsAre MV'.toList (ms ++ es.drop i) → IntsAre UV'.toList (us ++ as.drop j) → Q .brk { s' with heap := h', toks := tk }) :
    EX w A₀ L cd Q E (.ref e) s' := by
  have H' := H
  obtain ⟨⟨F, ⟨ob, vs, tb, otb, tvs, he, hcls, hd, h1, htb, htd, h3, htbL, htbe, htb0⟩, hf⟩, N, hap⟩ := H
  exact wpAny_noteFrame_inFlight (L := L) rfl he hd h1 htb htd h3 (landed H' C S hM hU hmi huj hi hj hQ)
/-- the exception of a finally's try, while the finally's suite is under way: it and its traceback stand in the ledger -/
theorem heldOut {news : List (Addr × Obj)} (H : TT.HeldNA hb L s'.heap m e "IndexError" news fl) : ∃ ob vs tb otb tvs, ob.cls = .type "IndexError" ∧ ob.data = .fields vs ∧ vs[1]? = some (.ref tb) ∧ otb.data = .fields tvs ∧ tvs[3]? = some fl ∧ tb ≠ e ∧ (∀ p ∈ news, p.1 ≠ tb) ∧
    Fr hb L s'.heap m ∧ News hb L s'.heap ((e, ob) :: (tb, otb) :: news) := by
  obtain ⟨⟨F, ⟨ob, vs, tb, otb, tvs, he, hcls, hd, h1, htb, htd, h3, htbL, htbe, htb0⟩, hf⟩, N, hap⟩ := H
  refine ⟨ob, vs, tb, otb, tvs, hcls, hd, h1, htd, h3, htbe, hap ob vs tb he hd h1, F, fun p hp => ?_⟩
  rcases List.mem_cons.mp hp with q | hp
  · rw [q]
    refine ⟨he, fun q' => ?_, hf⟩
    obtain ⟨oL, esL, epL, hL, hLd, _⟩ := F.ns
    have q2 : e = L := q'
    rw [q2, hL] at he
    obtain rfl := Option.some.inj he
    rw [hLd] at hd
    cases hd
  rcases List.mem_cons.mp hp with q | hp
  · rw [q]; exact ⟨htb, htbL, htb0⟩
  · exact N p hp
theorem passOnHeld {news : List (Addr × Obj)} {what : String} {ob otb : Obj} {vs tvs : Array Value} {tb : Addr} {E : Value → Shared → Prop} (h1 : ob.cls = .type "IndexError") (h2 : ob.data = .fields vs) (h3 : vs[1]? = some (.ref tb)) (h4 : otb.data = .fields tvs) (h5 : tvs[3]? = some fl) (h6 : tb ≠ e) (h7 : ∀ p ∈ news, p.1 ≠ tb)
    (F : Fr hb L s'.heap m) (N : News hb L s'.heap ((e, ob) :: (tb, otb) :: news))
    (k : ∀ h', TT.HeldN hb L h' m e "IndexError" news → E (.ref e) { s' with heap := h' }) :
    wpAny (model PR w) (A₀.deeper (sEnv L cd)) (PySem.passOn what (.ref e) (sEnv L cd)) Q E s' := by
  obtain ⟨he, heL, he0⟩ := N _ (.head _)
  obtain ⟨htb, htbL, htb0⟩ := N _ (.tail _ (.head _))
  dsimp only at he heL he0 htb htbL htb0
  have hsz : 3 < tvs.size := (Array.getElem?_eq_some_iff.mp h5).1
  unfold PySem.passOn
  refine wpAny_bind (wpAny_field he h2 h3 ?_)
  rw [if_neg (by simp)]
  refine wpAny_bind ?_
  show wpAny _ _ (setFlight (.ref e) (some L)) _ _ _
  unfold setFlight
  refine wpAny_bind (wpAny_field he h2 h3 ?_)
  rw [if_pos (show (Value.ref tb != Value.none) = true from by simp)]
  refine wpAny_setField htb h4 hsz (wpAny_throw (k _ ?_))
  obtain ⟨oL, esL, epL, hL, hLd, hLk, hLf⟩ := F.ns
  have he' := (Heap.get?_update_ne s'.heap _ _ (Obj.mapFields (·.setIfInBounds 3 (rawInt L))) h6.symm).trans he
  refine ⟨⟨⟨⟨oL, esL, epL, (Heap.get?_update_ne _ _ _ _ htbL.symm).trans hL, hLd, hLk, hLf⟩,
     fun b o hb' => (Heap.get?_update_ne _ _ _ _ (fun q => by rw [q, htb0] at hb'; cases hb')).trans (F.keep b o hb'), F.above⟩, ⟨ob, vs, tb, _, _, he', h1, h2, h3,
    Heap.get?_update_self _ htb (Obj.isFreed_of_fields (Obj.data_mapFields h4 _)), Obj.data_mapFields h4 _, by simp [Array.getElem?_setIfInBounds, hsz], htbL, h6, htb0⟩, he0⟩, fun p hp => ?_, ?_⟩
  · obtain ⟨a, b, c⟩ := N p (.tail _ (.tail _ hp))
    exact ⟨(Heap.get?_update_ne _ _ _ _ (h7 p hp)).trans a, b, c⟩
  · intro ob' vs' tb' e1 e2 e3 p hp
    have e1' := he'.symm.trans e1
    obtain rfl := Option.some.inj e1'
    rw [h2] at e2
    injection e2 with e2
    subst e2
    rw [h3] at e3
    injection e3 with e3
    injection e3 with e3
    subst e3
    exact h7 p hp
end
end Mine
end

section
open PySem PySem.W PyProof.Rows PySem.Spec PySem.Calls
set_option Elab.async false
set_option maxRecDepth 100000
set_option maxHeartbeats 1000000
namespace Mine
theorem mem_dw {z v : Int} (hz : z ≠ v) : ∀ {l : List Int}, z ∈ l → z ∈ l.dropWhile (· == v)
  | x :: l, h => by
    by_cases e : x = v
    · rw [List.dropWhile_cons_of_pos (by simp [e])]
      rcases List.mem_cons.mp h with q | h
      · exact absurd (q.trans e) hz
      · exact mem_dw hz h
    · rw [List.dropWhile_cons_of_neg (by simp [e])]
      exact h
/-- one of the two ends with a number above all of the other -/
def PP (es as xs ys : List Int) : Prop := (∃ z ∈ xs, ∀ y ∈ as, y < z) ∨ (∃ z ∈ ys, ∀ x ∈ es, x < z)
theorem PP.left {es as xs ys : List Int} {e a : Int} (h : PP es as (e :: xs) ys) (ha : a ∈ as) (hea : e ≤ a) : PP es as (xs.dropWhile (· == e)) ys := by
  rcases h with ⟨z, hz, hy⟩ | h
  · refine Or.inl ⟨z, ?_, hy⟩
    have := hy a ha
    rcases List.mem_cons.mp hz with q | hz
    · omega
    · exact mem_dw (by omega) hz
  · exact Or.inr h
theorem PP.right {es as xs ys : List Int} {e a : Int} (h : PP es as xs (a :: ys)) (he : e ∈ es) (hea : a ≤ e) : PP es as xs (ys.dropWhile (· == a)) := by
  rcases h with h | ⟨z, hz, hy⟩
  · exact Or.inl h
  · refine Or.inr ⟨z, ?_, hy⟩
    have := hy e he
    rcases List.mem_cons.mp hz with q | hz
    · omega
    · exact mem_dw (by omega) hz
theorem PP.ne {es as ys : List Int} (h : PP es as [] ys) : ys ≠ [] := by
  rcases h with ⟨z, hz, _⟩ | ⟨z, hz, _⟩
  · cases hz
  · intro q; rw [q] at hz; cases hz
theorem sld_nil_left (n : Nat) (ys : List Int) : sld n [] ys = ([], ys) := by cases n <;> rfl
theorem sld_nil_right (n : Nat) (xs : List Int) : sld n xs [] = (xs, []) := by cases n <;> cases xs <;> rfl
theorem sld_lt {n : Nat} {e a : Int} {xs ys : List Int} (h : e < a) : sld (n + 1) (e :: xs) (a :: ys) = (e :: (sld n (xs.dropWhile (· == e)) (a :: ys)).1, (sld n (xs.dropWhile (· == e)) (a :: ys)).2) := by rw [sld, if_pos h]
theorem sld_gt {n : Nat} {e a : Int} {xs ys : List Int} (h : a < e) : sld (n + 1) (e :: xs) (a :: ys) = ((sld n (e :: xs) (ys.dropWhile (· == a))).1, a :: (sld n (e :: xs) (ys.dropWhile (· == a))).2) := by rw [sld, if_neg (by omega), if_pos h]
theorem sld_eq {n : Nat} {e a : Int} {xs ys : List Int} (h : e = a) : sld (n + 1) (e :: xs) (a :: ys) = sld n (xs.dropWhile (· == e)) (ys.dropWhile (· == a)) := by rw [sld, if_neg (by omega), if_neg (by omega)]
/-- the frame's names, laid out -/
abbrev chainS (X Y Mi Un : Addr) (i j : Nat) (ti tj : Tok) (m : Str → Option Value) : Str → Option Value := fun z => if z = Str.ofString "expected" then some (.ref X) else if z = Str.ofString "actual" then some (.ref Y) else if z = Str.ofString "i" then some (.int (i : Int) ti) else if z = Str.ofString "j" then some (.int (j : Int) tj) else if z = Str.ofString "missing" then some (.ref Mi) else if z = Str.ofString "unexpected" then some (.ref Un) else m z
theorem SM.chain {m : Str → Option Value} {X Y Mi Un : Addr} {i j : Nat} (S : SM m X Y Mi Un i j) : ∃ ti tj, ∀ z, m z = chainS X Y Mi Un i j ti tj m z := by
  obtain ⟨ti, m3⟩ := S.i
  obtain ⟨tj, m4⟩ := S.j
  refine ⟨ti, tj, fun z => ?_⟩
  show _ = if _ then _ else _
  by_cases e1 : z = Str.ofString "expected"
  · rw [if_pos e1, e1, S.ex]
  by_cases e2 : z = Str.ofString "actual"
  · rw [if_neg e1, if_pos e2, e2, S.ac]
  by_cases e3 : z = Str.ofString "i"
  · rw [if_neg e1, if_neg e2, if_pos e3, e3, m3]
  by_cases e4 : z = Str.ofString "j"
  · rw [if_neg e1, if_neg e2, if_neg e3, if_pos e4, e4, m4]
  by_cases e5 : z = Str.ofString "missing"
  · rw [if_neg e1, if_neg e2, if_neg e3, if_neg e4, if_pos e5, e5, S.mi]
  by_cases e6 : z = Str.ofString "unexpected"
  · rw [if_neg e1, if_neg e2, if_neg e3, if_neg e4, if_neg e5, if_pos e6, e6, S.un]
  rw [if_neg e1, if_neg e2, if_neg e3, if_neg e4, if_neg e5, if_neg e6]
/-- what holds ahead of each turn -/
def SI (hb : Heap) (Lc : Addr) (X Y Mi Un : Addr) (es as RM RU : List Int) (frs : List (Addr × Obj)) (s : Shared) (n : Nat) (s' : Shared) : Prop :=
  ∃ (i j : Nat) (m : Str → Option Value) (MV UV : Array Value) (nM nU : Nat) (ms us : List Int) (h' : Heap) (tk : Nat), s' = { s with heap := h', toks := tk } ∧ i ≤ es.length ∧ j ≤ as.length ∧ ms.length ≤ i ∧ us.length ≤ j ∧ SM m X Y Mi Un i j ∧ Fr hb Lc h' m ∧ News hb Lc h' ((Mi, W.listOf MV nM) :: (Un, W.listOf UV nU) :: frs) ∧ IntsAre MV.toList ms ∧ IntsAre UV.toList us ∧
    (es.length - i) + (as.length - j) ≤ n ∧ ms ++ (sld n (es.drop i) (as.drop j)).1 = RM ∧ us ++ (sld n (es.drop i) (as.drop j)).2 = RU ∧ PP es as (es.drop i) (as.drop j)
theorem SM.put {m : Str → Option Value} {X Y Mi Un : Addr} {i j : Nat} {x : Str} {v : Option Value} (S : SM m X Y Mi Un i j) (h1 : Str.ofString "expected" ≠ x) (h2 : Str.ofString "actual" ≠ x) (h3 : Str.ofString "i" ≠ x) (h4 : Str.ofString "j" ≠ x) (h5 : Str.ofString "missing" ≠ x) (h6 : Str.ofString "unexpected" ≠ x) : SM (fun z => if z = x then v else m z) X Y Mi Un i j :=
  ⟨(if_neg h1).trans S.ex, (if_neg h2).trans S.ac, by obtain ⟨t, q⟩ := S.i; exact ⟨t, (if_neg h3).trans q⟩, by obtain ⟨t, q⟩ := S.j; exact ⟨t, (if_neg h4).trans q⟩, (if_neg h5).trans S.mi, (if_neg h6).trans S.un⟩
theorem SM.putI {m : Str → Option Value} {X Y Mi Un : Addr} {i j i' : Nat} {v : Value} (S : SM m X Y Mi Un i j) (hv : ∃ t, v = .int (i' : Int) t) : SM (fun z => if z = Str.ofString "i" then some v else m z) X Y Mi Un i' j :=
  ⟨(if_neg (by decide)).trans S.ex, (if_neg (by decide)).trans S.ac, by obtain ⟨t, q⟩ := hv; exact ⟨t, (if_pos rfl).trans (by rw [q])⟩, by obtain ⟨t, q⟩ := S.j; exact ⟨t, (if_neg (by decide)).trans q⟩, (if_neg (by decide)).trans S.mi, (if_neg (by decide)).trans S.un⟩
theorem SM.putJ {m : Str → Option Value} {X Y Mi Un : Addr} {i j j' : Nat} {v : Value} (S : SM m X Y Mi Un i j) (hv : ∃ t, v = .int (j' : Int) t) : SM (fun z => if z = Str.ofString "j" then some v else m z) X Y Mi Un i j' :=
  ⟨(if_neg (by decide)).trans S.ex, (if_neg (by decide)).trans S.ac, by obtain ⟨t, q⟩ := S.i; exact ⟨t, (if_neg (by decide)).trans q⟩, by obtain ⟨t, q⟩ := hv; exact ⟨t, (if_pos rfl).trans (by rw [q])⟩, (if_neg (by decide)).trans S.mi, (if_neg (by decide)).trans S.un⟩
theorem SM.chained {m : Str → Option Value} {X Y Mi Un : Addr} {i j : Nat} {ti tj : Tok} : SM (chainS X Y Mi Un i j ti tj m) X Y Mi Un i j :=
  ⟨if_pos rfl, (if_neg (by decide)).trans (if_pos rfl), ⟨ti, (if_neg (by decide)).trans ((if_neg (by decide)).trans (if_pos rfl))⟩, ⟨tj, (if_neg (by decide)).trans ((if_neg (by decide)).trans ((if_neg (by decide)).trans (if_pos rfl)))⟩,
    (if_neg (by decide)).trans ((if_neg (by decide)).trans ((if_neg (by decide)).trans ((if_neg (by decide)).trans (if_pos rfl)))), (if_neg (by decide)).trans ((if_neg (by decide)).trans ((if_neg (by decide)).trans ((if_neg (by decide)).trans ((if_neg (by decide)).trans (if_pos rfl)))))⟩
theorem SM.frI {hb h : Heap} {Lc : Addr} {m : Str → Option Value} {X Y Mi Un : Addr} {i j i' : Nat} {v : Value} (S : SM m X Y Mi Un i j) (F : Fr hb Lc h (fun z => if z = Str.ofString "i" then some v else m z)) (hv : ∃ t, v = .int (i' : Int) t) : ∃ m', Fr hb Lc h m' ∧ SM m' X Y Mi Un i' j ∧ ∀ z, z ≠ Str.ofString "i" → m' z = m z := ⟨_, F, S.putI hv, fun z hz => if_neg hz⟩
theorem SM.frJ {hb h : Heap} {Lc : Addr} {m : Str → Option Value} {X Y Mi Un : Addr} {i j j' : Nat} {v : Value} (S : SM m X Y Mi Un i j) (F : Fr hb Lc h (fun z => if z = Str.ofString "j" then some v else m z)) (hv : ∃ t, v = .int (j' : Int) t) : ∃ m', Fr hb Lc h m' ∧ SM m' X Y Mi Un i j' ∧ ∀ z, z ≠ Str.ofString "j" → m' z = m z := ⟨_, F, S.putJ hv, fun z hz => if_neg hz⟩
/-- what the loop's end asks -/
def FIN (hb : Heap) (Lc : Addr) (X Y Mi Un : Addr) (RM RU : List Int) (frs : List (Addr × Obj)) (s : Shared) (R : Result → Shared → Prop) : Prop :=
  ∀ (i j : Nat) (m : Str → Option Value) (MV UV : Array Value) (nM nU : Nat) (frs' : List (Addr × Obj)) (h' : Heap) (tk : Nat), TI.SameUp frs frs' → SM m X Y Mi Un i j → Fr hb Lc h' m → News hb Lc h' ((Mi, W.listOf MV nM) :: (Un, W.listOf UV nU) :: frs') → IntsAre MV.toList RM → IntsAre UV.toList RU → R (.ok .next) { s with heap := h', toks := tk }
theorem FIN.use {M : Model} {A : Around} {c : Code} {hb : Heap} {Lc X Y Mi Un : Addr} {RM RU : List Int} {frs : List (Addr × Obj)} {s s' : Shared} {R : Result → Shared → Prop} (f : FIN hb Lc X Y Mi Un RM RU frs s R) (h : FIN hb Lc X Y Mi Un RM RU frs s R → codeAny M A c R s') : codeAny M A c R s' := h f
section
variable {prog : Program} {w : World} {A : Around} {s : Shared} {hb : Heap} {L : Addr} {m : Str → Option Value} {news : List (Addr × Obj)} {name : Str} {scope : Scope} {fa : Addr} {cd : Value}
theorem bump {x : Str} {p6 p7 p8 : Pos} {rest : List Stmt} {i : Nat} {ti : Tok} {Q : Flow → Shared → Prop} {E : Value → Shared → Prop} (F : Fr hb L s.heap m) (N : News hb L s.heap news) (hx : m x = some (.int (i : Int) ti))
    (hk : scope.kind = .function) (k2 : (envOf name scope L fa cd).kindOf x = some .local)
    (h : ∀ t h' tk, Fr hb L h' (fun z => if z = x then some (.int ((i + 1 : Nat) : Int) t) else m z) → News hb L h' news → wpAny (model prog w) A (execs rest (envOf name scope L fa cd)) Q E { s with heap := h', toks := tk }) :
    wpAny (model prog w) A (execs (.AugAssign (.Name x p6) .Add (.Constant (.int 1) 0 p7) p8 :: rest) (envOf name scope L fa cd)) Q E s := by
  refine wpAny_execs_cons ?_
  refine wpAny_AugAssign_Name ?_
  refine ldn F hx ?_ hk k2
  refine wpAny_Constant_int ?_
  refine PyProof.Rows.iadd_int ?_
  refine stN (s := { s with toks := _ }) F N (fun h₂ F₂ N₂ => ?_) hk k2
  exact h _ _ _ F₂ N₂
end
section
variable {w : World} {A : Around} {s : Shared} {h₀ : Heap} {mean : ExcName → Option Value} {mg mb : Str → Option Value} {L : Addr} {m : Str → Option Value} {lenv : Env} {X Y : Addr} {vx vy : List Value} {es as : List Int}
local macro_rules | `(tactic| walk_at "exec While") => `(tactic| (change Stop _))
local macro_rules | `(tactic| walk_at "exec While Constant") => `(tactic| (change Stop _))
local macro_rules | `(tactic| walk_at "exec While Constant cons nil") => `(tactic| (change Stop _))
local macro_rules | `(tactic| walk_at "exec While Compare cons nil") => `(tactic| (change Stop _))
local macro_rules | `(tactic| walk_at "call builtin:list.append") => `(tactic| (change Stop _))
local macro_rules | `(tactic| walk_at "subscriptTail") => `(tactic| (change Stop _))
theorem sld_call {Q E : Value → Shared → Prop} (hh : A.handled = none) (hfr : A.frames = some [lenv]) (hlf : lenv.frame = some L) (hlk : lenv.scope.kind = .function) (F0 : Fr h₀ L s.heap m) (KX : (hd.heap_39 w.params).In h₀) (T : Top hd.view_39 LS mean mg mb h₀)
    (hX : s.heap.IsList X vx.toArray) (hxi : IntsAre vx es) (hY : s.heap.IsList Y vy.toArray) (hyi : IntsAre vy as) (hXL : X ≠ L) (hYL : Y ≠ L) (hsz : es.length + as.length < 2 ^ 16) (hP : PP es as es as) (hdp : A.depth + 4 < recursionLimit) (hu : A.units + 100 < cLine)
    (hQ : ∀ R Mi Un mv uv nM nU h' tk, Fr h₀ L h' m → (∀ news, News h₀ L s.heap news → News h₀ L h' ((R, { cls := .type "tuple", data := .seq #[.ref Mi, .ref Un] }) :: (Mi, W.listOf (List.toArray mv) nM) :: (Un, W.listOf (List.toArray uv) nU) :: news)) → (Mi < R ∧ Un < R) → Mi < Un →
      IntsAre mv (sld (es.length + as.length) es as).1 → IntsAre uv (sld (es.length + as.length) es as).2 → Q (.ref R) { s with heap := h', toks := tk }) :
    wpAny (model PR w) A (call (.ref 21) [.ref X, .ref Y]) Q E s := by
  refine wpAny_call ?_
  refine enterT (binds := [(Str.ofString "expected", .ref X), (Str.ofString "actual", .ref Y)]) F0 KX T hlf hlk (by k_is) (by k_is) (by omega) (BindsTo.of_eq rfl) (locs rfl) ?_ rfl rfl rfl (by decide)
  intro oL h₁ F N Fs hL KX' T'
  have hX' : (hideAll s.heap [L]).IsList X vx.toArray := hX.at fun o e => hideAll_get _ e (by simp [hXL])
  have hY' : (hideAll s.heap [L]).IsList Y vy.toArray := hY.at fun o e => hideAll_get _ e (by simp [hYL])
  have hkp : ∀ b o, b ≠ L → s.heap.get? b = some o → (hideAll s.heap [L]).get? b = some o := fun b o hb e => hideAll_get _ e (by simp [hb])
  have hab := F0.above
  have hk0 := F0.keep
  generalize hideAll s.heap [L] = hb at *
  (try k_fold)
  k_steps
  rename_i Mi _ lM _ _ Un _ lU h2 F2 N2
  unfold Stop
  show wpAny _ _ _ _ _ _
  refine wpAny_While ?_
  generalize hLc : s.heap.objs.size = Lc at *
  have C : SC w mean mg mb hb X Y Mi Un es as [(L, oL)] := ⟨KX', T', ⟨vx, hX', hxi⟩, ⟨vy, hY', hyi⟩, Nat.ne_of_lt lU.1, fun q hq => by rw [List.mem_singleton.mp hq]; exact Nat.ne_of_lt lM, fun q hq => by rw [List.mem_singleton.mp hq]; exact Nat.ne_of_lt lU.2, hsz⟩
  generalize hRM : (sld (es.length + as.length) es as).1 = RM
  generalize hRU : (sld (es.length + as.length) es as).2 = RU
  refine FIN.use (hb := hb) (Lc := Lc) (X := X) (Y := Y) (Mi := Mi) (Un := Un) (RM := RM) (RU := RU) (frs := [(L, oL)]) (s := s) ?_ (fun hFin => ?_)
  case refine_1 =>
    intro i j m' MV UV nM nU frs' h' tk U S F' N' hM hU
    obtain ⟨q, hq⟩ : ∃ q, frs' = [q] := by
      cases frs' with
      | nil => exact U.elim
      | cons q qs =>
        cases qs with
        | nil => exact ⟨q, rfl⟩
        | cons _ _ => exact U.2.2.elim
    subst hq
    obtain ⟨qa, qo⟩ := q
    obtain ⟨u1, ⟨sl, u2⟩, _⟩ := U
    dsimp only at u1 u2
    subst u1
    obtain ⟨ti, tj, hch⟩ := S.chain
    have F3 := fr_eq F' (m' := chainS X Y Mi Un i j ti tj m') (fun z => (hch z).symm)
    clear F' hch F2 N2 F0
    dsimp only
    k_steps
    rename_i D h4 F4 N4 l1
    have g : ∀ b o, b ≠ qa → s.heap.get? b = some o → h4.get? b = some o := fun b o hb e => F4.keep b o (hkp b o hb e)
    have gn : ∀ b, b ≠ qa → hb.get? b = none → s.heap.get? b = none := by
      intro b h1 h2
      cases h : s.heap.get? b with
      | none => rfl
      | some o => rw [hkp b o h1 h] at h2; cases h2
    have d1 : D ≠ qa := Nat.ne_of_gt l1.2.2
    have d2 : Mi ≠ qa := Nat.ne_of_gt lM
    have d3 : Un ≠ qa := Nat.ne_of_gt lU.2
    have gz : ∀ b, b ≠ qa → hb.get? b = none → h₀.get? b = none := by
      intro b h1 h2
      cases h : h₀.get? b with
      | none => rfl
      | some o => rw [hkp b o h1 (hk0 b o h)] at h2; cases h2
    refine hQ D Mi Un MV.toList UV.toList nM nU h4 _ ⟨hL h4 sl (by rw [(N4 (qa, qo) (.tail _ (.tail _ (.tail _ (.head _))))).1, u2]), fun b o e => g b o (fun q => ?_) (hk0 b o e), hab⟩ ?_ ⟨l1.1, l1.2.1⟩ lU.1 (by rw [hRM]; exact hM) (by rw [hRU]; exact hU)
    case refine_2 =>
      intro news Nn p hp
      rcases List.mem_cons.mp hp with e | hp
      · rw [e]; exact ⟨(N4 _ (.head _)).1, d1, gz _ d1 (N4 _ (.head _)).2.2⟩
      rcases List.mem_cons.mp hp with e | hp
      · rw [e]; exact ⟨(N4 _ (.tail _ (.head _))).1, d2, gz _ d2 (N4 _ (.tail _ (.head _))).2.2⟩
      rcases List.mem_cons.mp hp with e | hp
      · rw [e]; exact ⟨(N4 _ (.tail _ (.tail _ (.head _)))).1, d3, gz _ d3 (N4 _ (.tail _ (.tail _ (.head _)))).2.2⟩
      · obtain ⟨n1, n2, n3⟩ := Nn p hp
        exact ⟨g _ _ n2 n1, n2, n3⟩
    rw [q] at e
    exact absurd (Nat.lt_of_lt_of_le (Heap.lt_size e) hab) (Nat.lt_irrefl _)
  refine codeAny_whileLoop (SI hb Lc X Y Mi Un es as RM RU [(L, oL)] s) ?_ (es.length + as.length) ?_
  case refine_2 =>
    refine ⟨0, 0, _, #[], #[], 0, 0, [], [], h2, _, rfl, Nat.zero_le _, Nat.zero_le _, Nat.le_refl _, Nat.le_refl _, ⟨by simp (config := { decide := true }) [List.lookup, show (Str.ofString "expected" == Str.ofString "actual") = false from rfl], by simp (config := { decide := true }) [List.lookup], ⟨_, by simp (config := { decide := true }) ; rfl⟩, ⟨_, by simp (config := { decide := true }); rfl⟩, by simp (config := { decide := true }), by simp (config := { decide := true })⟩, F2, ?_, .nil, .nil, by omega, by simpa using hRM, by simpa using hRU, by simpa using hP⟩
    intro q hq
    refine N2 q ?_
    simp only [List.mem_cons, List.mem_singleton] at hq ⊢
    rcases hq with h | h | h | h
    · exact .inr (.inl h)
    · exact .inl h
    · exact .inr (.inr (.inl h))
    · exact .inr (.inr (.inr h))
  clear F2 N2 lM lU hRM hRU hP h2
  rintro n s' ⟨i, j, m1, MV, UV, nM, nU, ms, us, h2, tk, hs', hi, hj, hmi, huj, S, F1, N1, hM, hU, hn, hRM, hRU, P⟩
  subst hs'
  obtain ⟨ti, tj, hch⟩ := S.chain
  have F2 := fr_eq F1 (m' := chainS X Y Mi Un i j ti tj m1) (fun z => (hch z).symm)
  try dsimp only [chainS] at F2
  clear F1 hch S
  k_steps
  unfold Stop
  show wpAny _ _ (subscriptTail _ _ _ _) _ _ _
  have S2 : SM (chainS X Y Mi Un i j ti tj m1) X Y Mi Un i j := SM.chained
  have hXh : h2.IsList X vx.toArray := hX'.at fun o e => F2.keep _ o e
  have hlx := hxi.length
  have hly := hyi.length
  by_cases hie : i < es.length
  case neg =>
    have : i = es.length := by omega
    refine item_out (s := { s with heap := h2, toks := _ }) hh hXh (by simp only [List.size_toArray]; omega) (by omega) ?_
    intro h' tk' e hne
    refine caught (s' := { s with heap := h', toks := _ }) hfr Fs hne F2 N1 C S2 hM hU hmi huj hi hj ?_
    intro h'' tk'' MV' nM' UV' nU' frs' U F' N' a b
    refine hFin i j _ MV' UV' nM' nU' frs' h'' tk'' U S2 F' N' ?_ ?_
    · rw [← hRM, show es.drop i = [] from by rw [this]; simp, sld_nil_left]; simpa [this] using a
    · rw [← hRU, show es.drop i = [] from by rw [this]; simp, sld_nil_left]; exact b
  obtain ⟨tx, hx⟩ := hxi.get i es[i] (by simp [hie])
  refine item_lst (s := { s with heap := h2, toks := _ }) hXh (by omega) (by omega) (by rw [Int.toNat_natCast]; simpa using hx) ?_
  have hdx : es.drop i = es[i] :: es.drop (i + 1) := drop_cons hie
  have hmx : es[i] ∈ es := List.getElem_mem hie
  generalize es[i] = ev at *
  k_steps
  unfold Stop
  rename_i h3 F3 N3
  show wpAny _ _ (subscriptTail _ _ _ _) _ _ _
  have hYh : h3.IsList Y vy.toArray := hY'.at fun o e => F3.keep _ o e
  have S3 := S2.put (x := Str.ofString "e") (v := some (.int ev tx)) (by decide) (by decide) (by decide) (by decide) (by decide) (by decide)
  by_cases hje : j < as.length
  case neg =>
    have : j = as.length := by omega
    refine item_out (s := { s with heap := h3, toks := _ }) hh hYh (by simp only [List.size_toArray]; omega) (by omega) ?_
    intro h' tk' e hne
    refine caught (s' := { s with heap := h', toks := _ }) hfr Fs hne F3 N3 C S3 hM hU hmi huj hi hj ?_
    intro h'' tk'' MV' nM' UV' nU' frs' U F' N' a b
    refine hFin i j _ MV' UV' nM' nU' frs' h'' tk'' U S3 F' N' ?_ ?_
    · rw [← hRM, show as.drop j = [] from by rw [this]; simp, sld_nil_right]; exact a
    · rw [← hRU, show as.drop j = [] from by rw [this]; simp, sld_nil_right]; simpa [this] using b
  obtain ⟨ty, hy⟩ := hyi.get j as[j] (by simp [hje])
  refine item_lst (s := { s with heap := h3, toks := _ }) hYh (by omega) (by omega) (by rw [Int.toNat_natCast]; simpa using hy) ?_
  have hdy : as.drop j = as[j] :: as.drop (j + 1) := drop_cons hje
  have hmy : as[j] ∈ as := List.getElem_mem hje
  generalize as[j] = av at *
  obtain ⟨n', hn'⟩ : ∃ n', n = n' + 1 := ⟨n - 1, by omega⟩
  subst hn'
  have hMl : MV.size = ms.length := by simpa using hM.length
  have hUl : UV.size = us.length := by simpa using hU.length
  have S4 := S3.put (x := Str.ofString "a") (v := some (.int av ty)) (by decide) (by decide) (by decide) (by decide) (by decide) (by decide)
  clear hXh hYh hx hy S2 S3
  k_steps
  · unfold Stop
    rename_i h4 F4 N4 hlt
    show wpAny _ _ (call _ _) _ _ _
    have NA : News hb Lc h4 ([] ++ (Mi, W.listOf MV.toList.toArray nM) :: [(Un, W.listOf UV nU), (L, oL)]) := N4
    refine append_in (s := { s with heap := h4, toks := _ }) (own := []) F4 NA (fun _ hq => nomatch hq) (fun q hq => by
      rcases List.mem_cons.mp hq with hq | hq
      · rw [hq]; exact C.ne.symm
      · exact C.mf q hq) ?_ (by rw [sizeLine_eq]; simp only [Array.length_toList]; omega)
    intro h5 F5 N5
    have N6 : News hb Lc h5 ((Mi, W.listOf (MV.toList ++ [Value.int ev tx]).toArray (nM + 1)) :: [(Un, W.listOf UV nU), (L, oL)]) := N5
    have hM' : IntsAre (MV.toList ++ [Value.int ev tx]).toArray.toList (ms ++ [ev]) := hM.append (.cons _ _ .nil)
    generalize (MV.toList ++ [Value.int ev tx]).toArray = MV' at N6 hM'
    clear F4 N4 N5 NA
    dsimp only
    k_steps
    unfold Stop
    rename_i h6 F6 N7
    show wpAny _ _ (exec _ _) _ _ _
    obtain ⟨m6, F8, S5, hm6⟩ := S4.frI (i' := i + 1) F6 ⟨_, rfl⟩
    obtain ⟨ti5, hi5⟩ := S5.i
    refine whileSkip (s := { s with heap := h6, toks := _ }) (i := i + 1) F8 N7 S5.ex hi5 ((hm6 _ (by decide)).trans ((if_neg (by decide)).trans (if_pos rfl))) (by decide) (by decide) hX' hxi (by omega) (by omega) rfl rfl rfl rfl (by decide) (by decide) (by decide) ?_ ?_ (by passes_own)
    · intro i' t' h' tk' q1 q2 q3 q4 F' N'
      dsimp only
      repeat refine wpAny_execs_nil ?_
      refine ⟨n', Nat.lt_succ_self _, i', j, _, MV', UV, nM + 1, nU, ms ++ [ev], us, h', tk', rfl, q2, hj, by simp only [List.length_append, List.length_singleton]; omega, huj, S5.putI ⟨t', rfl⟩, F', N', hM', hU, by omega, ?_, ?_, ?_⟩
      · rw [← hRM, hdx, hdy, sld_lt hlt, q3]; simp
      · rw [← hRU, hdx, hdy, sld_lt hlt, q3]
      · rw [← q3]; rw [hdx] at P; exact P.left hmy (by omega)
    · intro hnil
      refine ⟨hh, ?_⟩
      intro t h' h'' tk'' e F' N' hx
      have S6 := S5.putI (i' := es.length) ⟨t, rfl⟩
      refine caught (s' := { s with heap := h'', toks := _ }) hfr Fs hx F' N' C S6 hM' hU (by simp only [List.length_append, List.length_singleton]; omega) huj (Nat.le_refl _) hj ?_
      intro g' tk3 MV2 nM2 UV2 nU2 frs' U F2 N2 a b
      refine hFin _ _ _ MV2 UV2 nM2 nU2 frs' g' tk3 U S6 F2 N2 ?_ ?_
      · rw [← hRM, hdx, hdy, sld_lt hlt, hnil, sld_nil_left]; simpa using a
      · rw [← hRU, hdx, hdy, sld_lt hlt, hnil, sld_nil_left, ← hdy]; exact b
  · unfold Stop
    rename Fr hb Lc _ _ => F4
    rename News hb Lc _ _ => N4
    have hlt : av < ev := by omega
    show wpAny _ _ (call _ _) _ _ _
    have NA : News hb Lc _ ([(Mi, W.listOf MV nM)] ++ (Un, W.listOf UV.toList.toArray nU) :: [(L, oL)]) := N4
    refine append_in (s := { s with heap := _, toks := _ }) (own := [(Mi, W.listOf MV nM)]) F4 NA (fun q hq => by rw [List.mem_singleton.mp hq]; exact C.ne) C.uf ?_ (by rw [sizeLine_eq]; simp only [Array.length_toList]; omega)
    intro h5 F5 N5
    have N6 : News hb Lc h5 ((Mi, W.listOf MV nM) :: (Un, W.listOf (UV.toList ++ [Value.int av ty]).toArray (nU + 1)) :: [(L, oL)]) := N5
    have hU' : IntsAre (UV.toList ++ [Value.int av ty]).toArray.toList (us ++ [av]) := hU.append (.cons _ _ .nil)
    generalize (UV.toList ++ [Value.int av ty]).toArray = UV' at N6 hU'
    clear F4 N4 N5 NA
    dsimp only
    k_steps
    unfold Stop
    rename_i h6 F6 N7
    show wpAny _ _ (exec _ _) _ _ _
    obtain ⟨m6, F8, S5, hm6⟩ := S4.frJ (j' := j + 1) F6 ⟨_, rfl⟩
    obtain ⟨ti5, hi5⟩ := S5.j
    refine whileSkip (s := { s with heap := h6, toks := _ }) (i := j + 1) F8 N7 S5.ac hi5 ((hm6 _ (by decide)).trans (if_pos rfl)) (by decide) (by decide) hY' hyi (by omega) (by omega) rfl rfl rfl rfl (by decide) (by decide) (by decide) ?_ ?_ (by passes_own)
    · intro j' t' h' tk' q1 q2 q3 q4 F' N'
      dsimp only
      repeat refine wpAny_execs_nil ?_
      refine ⟨n', Nat.lt_succ_self _, i, j', _, MV, UV', nM, nU + 1, ms, us ++ [av], h', tk', rfl, hi, q2, hmi, by simp only [List.length_append, List.length_singleton]; omega, S5.putJ ⟨t', rfl⟩, F', N', hM, hU', by omega, ?_, ?_, ?_⟩
      · rw [← hRM, hdx, hdy, sld_gt hlt, q3]
      · rw [← hRU, hdx, hdy, sld_gt hlt, q3]; simp
      · rw [← q3]; rw [hdy] at P; exact P.right hmx (by omega)
    · intro hnil
      refine ⟨hh, ?_⟩
      intro t h' h'' tk'' e F' N' hx
      have S6 := S5.putJ (j' := as.length) ⟨t, rfl⟩
      refine caught (s' := { s with heap := h'', toks := _ }) hfr Fs hx F' N' C S6 hM hU' hmi (by simp only [List.length_append, List.length_singleton]; omega) hi (Nat.le_refl _) ?_
      intro g' tk3 MV2 nM2 UV2 nU2 frs' U F2 N2 a b
      refine hFin _ _ _ MV2 UV2 nM2 nU2 frs' g' tk3 U S6 F2 N2 ?_ ?_
      · rw [← hRM, hdx, hdy, sld_gt hlt, hnil, sld_nil_right, ← hdx]; exact a
      · rw [← hRU, hdx, hdy, sld_gt hlt, hnil, sld_nil_right]; simpa using b
  · unfold Stop
    rename_i h4 hn1 _ hn2 h6 F6 N7
    show wpAny _ _ (exec _ _) _ _ _
    have heq : ev = av := by omega
    subst heq
    obtain ⟨m6, F8, S5, hm6⟩ := S4.frI (i' := i + 1) F6 ⟨_, rfl⟩
    obtain ⟨ti5, hi5⟩ := S5.i
    refine whileSkip (s := { s with heap := h6, toks := _ }) (i := i + 1) F8 N7 S5.ex hi5 ((hm6 _ (by decide)).trans ((if_neg (by decide)).trans (if_pos rfl))) (by decide) (by decide) hX' hxi (by omega) (by omega) rfl rfl rfl rfl (by decide) (by decide) (by decide) ?_ ?_ (by passes_own)
    · intro i' t' h' tk' q1 q2 q3 q4 F' N'
      dsimp only
      repeat refine wpAny_execs_nil ?_
      have S6 := S5.putI (i' := i') ⟨t', rfl⟩
      obtain ⟨tj6, hj6⟩ := S6.j
      refine wpAny_passesOwn (by passes_own) ?_
      refine bump (s := { s with heap := h', toks := _ }) F' N' hj6 rfl rfl ?_
      intro t7 h7 tk7 F7 N8
      have S7 := S6.putJ (j' := j + 1) ⟨t7, rfl⟩
      obtain ⟨tj7, hj7⟩ := S7.j
      refine wpAny_execs_cons ?_
      refine whileSkip (s := { s with heap := h7, toks := _ }) (i := j + 1) F7 N8 S7.ac hj7 ((if_neg (by decide)).trans ((if_neg (by decide)).trans ((hm6 _ (by decide)).trans (if_pos rfl)))) (by decide) (by decide) hY' hyi (by omega) (by omega) rfl rfl rfl rfl (by decide) (by decide) (by decide) ?_ ?_ (by passes_own)
      · intro j' t' h' tk' r1 r2 r3 r4 F' N'
        dsimp only
        repeat refine wpAny_execs_nil ?_
        refine ⟨n', Nat.lt_succ_self _, i', j', _, MV, UV, nM, nU, ms, us, h', tk', rfl, q2, r2, by omega, by omega, S7.putJ ⟨t', rfl⟩, F', N', hM, hU, by omega, ?_, ?_, ?_⟩
        · rw [← hRM, hdx, hdy, sld_eq rfl, q3, r3]
        · rw [← hRU, hdx, hdy, sld_eq rfl, q3, r3]
        · rw [← q3, ← r3]; rw [hdx, hdy] at P; exact (P.left hmy (Int.le_refl _)).right hmx (Int.le_refl _)
      · intro hnil
        refine ⟨hh, ?_⟩
        intro t h' h'' tk'' e F' N' hx
        have S8 := S7.putJ (j' := as.length) ⟨t, rfl⟩
        refine caught (s' := { s with heap := h'', toks := _ }) hfr Fs hx F' N' C S8 hM hU (by omega) (by omega) q2 (Nat.le_refl _) ?_
        intro g' tk3 MV2 nM2 UV2 nU2 frs' U F2 N2 a b
        refine hFin _ _ _ MV2 UV2 nM2 nU2 frs' g' tk3 U S8 F2 N2 ?_ ?_
        · rw [← hRM, hdx, hdy, sld_eq rfl, hnil, sld_nil_right, q3]; exact a
        · rw [← hRU, hdx, hdy, sld_eq rfl, hnil, sld_nil_right]; simpa using b
    · intro hnil
      refine ⟨hh, ?_⟩
      intro t h' h'' tk'' e F' N' hx
      have S6 := S5.putI (i' := es.length) ⟨t, rfl⟩
      refine TI.noted_newT (s' := { s with heap := h'', toks := _ }) (new := [(Mi, W.listOf MV nM), (Un, W.listOf UV nU)]) hfr Fs hx F' N' rfl ?_
      intro h8 frs' U Fs' H
      refine ⟨ref_ne_byPass _, ?_⟩
      have H2 := H
      obtain ⟨⟨_, ⟨ob, vs, tb, otb, tvs, he, hcls, hd, h1, htb, htd, h3, htbL, htbe, htb0⟩, hf⟩, _, hap⟩ := H2
      refine wpAny_noteFrame_inFlight (s := { s with heap := h8, toks := _ }) (L := Lc) rfl he hd h1 htb htd h3 ?_
      refine TT.HeldNA.land (s' := { s with heap := h8, toks := _ }) H fun h9 H9 => ?_
      clear he hcls hd h1 htb htd h3 htbL htbe htb0 hf hap
      obtain ⟨ob, vs, tb, otb, tvs, c1, c2, c3, c4, c5, c6, c7, F9, N9⟩ := heldOut (s' := { s with heap := h9, toks := tk'' }) H9
      refine wpAny_mono (E := fun _ _ => False) ?_ (fun _ _ x => x) (fun _ _ x => x.elim)
      obtain ⟨tj6, hj6⟩ := S6.j
      refine bump (s := { s with heap := h9, toks := _ }) F9 N9 hj6 rfl rfl ?_
      intro t7 h7 tk7 F7 N8
      have S7 := S6.putJ (j' := j + 1) ⟨t7, rfl⟩
      obtain ⟨tj7, hj7⟩ := S7.j
      refine wpAny_execs_cons ?_
      refine whileSkip (s := { s with heap := h7, toks := _ }) (i := j + 1) F7 N8 S7.ac hj7 ((if_neg (by decide)).trans ((if_neg (by decide)).trans ((hm6 _ (by decide)).trans (if_pos rfl)))) (by decide) (by decide) hY' hyi (by omega) (by omega) rfl rfl rfl rfl (by decide) (by decide) (by decide) ?_ ?_ PassesOwn.never
      · intro j' t' g' tk' r1 r2 r3 r4 F' N'
        dsimp only
        repeat refine wpAny_execs_nil ?_
        dsimp only
        have S8 := S7.putJ (j' := j') ⟨t', rfl⟩
        refine passOnHeld (s' := { s with heap := g', toks := _ }) c1 c2 c3 c4 c5 c6 c7 F' N' ?_
        intro g2 H3
        refine again (s' := { s with heap := g2, toks := _ }) H3 (C.up U) S8 hM hU (by omega) (by omega) (Nat.le_refl _) r2 ?_
        intro g3 tk3 MV2 nM2 UV2 nU2 F2 N2 a b
        refine hFin _ _ _ MV2 UV2 nM2 nU2 frs' g3 tk3 U S8 F2 N2 ?_ ?_
        · rw [← hRM, hdx, hdy, sld_eq rfl, hnil, sld_nil_left]; simpa using a
        · rw [← hRU, hdx, hdy, sld_eq rfl, hnil, sld_nil_left, r3]; exact b
      · intro hnil2
        rw [hdx, hdy] at P
        have := (P.left hmy (Int.le_refl _)).right hmx (Int.le_refl _)
        rw [hnil] at this
        exact absurd hnil2 this.ne
end
end Mine
end

section
open PySem PySem.W PyProof.Rows PySem.Spec PySem.Calls
set_option Elab.async false
set_option maxRecDepth 100000
set_option maxHeartbeats 4000000
namespace Mine
/-- a contract taken in law's own frame -/
theorem useC0 {w : World} {mean : ExcName → Option Value} {mg mb : Str → Option Value} {f : Addr} {vs : List Value} {k : Nat} {Pre : Heap → Prop} {Post : Heap → Value → Heap → Prop}
    (c : Ctr w mean mg mb f vs k Pre Post) {A : Around} {base h₀ : Heap} {e' : Env} {L : Addr} {s : Shared} {m : Str → Option Value} {news : List (Addr × Obj)} {Q E : Value → Shared → Prop}
    (hh : A.handled = none) (B : Below A base [] h₀) (X : (hd.heap_39 w.params).In h₀) (T : Top hd.view_39 LS mean mg mb h₀) (F : Fr h₀ L s.heap m) (N : News h₀ L s.heap news)
    (hfr : e'.frame = some L) (hk : e'.scope.kind = .function) (hd : A.depth + 1 + k < recursionLimit) (hu : A.units + 3 + 8 * k < cLine) (hp : Pre s.heap)
    (h : ∀ r h' tk', Fr h₀ L h' m → News h₀ L h' news → (∀ b o, s.heap.get? b = some o → h'.get? b = some o) → Post s.heap r h' → Q r { s with heap := h', toks := tk' }) :
    wpAny (model PR w) (A.deeper e') (call (.ref f) vs) Q E s :=
  c (A.deeper e') base e' [] s Q E ⟨hh, Around.frames_deeper B.stack, pushX B F hfr hk, X.keeps F.keep, T.keeps F.keep⟩ hd hu hp fun r h' tk' hk' hp' =>
    h r h' tk' ⟨F.ns.keeps hk', fun b o e => hk' b o (F.keep b o e), F.above⟩ (fun p hp => ⟨hk' _ _ (N p hp).1, (N p hp).2⟩) hk' hp'
end Mine
end

section
open PySem PySem.W PyProof.Rows PySem.Spec PySem.Calls
set_option Elab.async false
set_option maxRecDepth 100000
set_option maxHeartbeats 1000000
namespace Mine
/-- bits and worths of the twelve rights -/
def KP : List (Nat × Nat) := [(0, 1), (1, 2), (2, 3), (9, 4), (3, 2), (4, 3), (5, 1), (10, 8), (6, 3), (7, 1), (8, 2), (11, 12)]
def gx (a : Nat) : List (Nat × Nat) → Nat
  | [] => 0
  | (k, p) :: l => (bif a.testBit k then p else 0) ^^^ gx a l
def G (a : Nat) : Nat := gx a KP
theorem gx_xor (a b : Nat) : ∀ l, gx (a ^^^ b) l = gx a l ^^^ gx b l
  | [] => by simp [gx]
  | (k, p) :: l => by
    rw [gx, gx, gx, gx_xor a b l, Nat.testBit_xor]
    have : (bif (a.testBit k ^^ b.testBit k) then p else 0) = (bif a.testBit k then p else 0) ^^^ (bif b.testBit k then p else 0) := by
      cases a.testBit k <;> cases b.testBit k <;> simp
    rw [this]
    ac_rfl
theorem gx_bit (a i : Nat) : ∀ l, (gx a l).testBit i = true → ∃ q ∈ l, a.testBit q.1 = true ∧ q.2.testBit i = true
  | [], h => by simp [gx] at h
  | (k, p) :: l, h => by
    rw [gx, Nat.testBit_xor] at h
    cases h1 : (gx a l).testBit i with
    | true =>
      obtain ⟨q, hq, x⟩ := gx_bit a i l h1
      exact ⟨q, .tail _ hq, x⟩
    | false =>
      rw [h1] at h
      refine ⟨(k, p), .head _, ?_⟩
      cases hk : a.testBit k with
      | true => rw [hk] at h; exact ⟨rfl, by simpa using h⟩
      | false => rw [hk] at h; simp at h
theorem and_pow (a k : Nat) : (a &&& 2 ^ k == 2 ^ k) = a.testBit k := by
  cases h : a.testBit k with
  | true =>
    rw [beq_iff_eq]
    apply Nat.eq_of_testBit_eq
    intro i
    rw [Nat.testBit_and, Nat.testBit_two_pow]
    by_cases e : k = i
    · rw [← e, h]; simp
    · simp [e]
  | false =>
    rw [beq_eq_false_iff_ne]
    intro q
    have := congrArg (fun z => z.testBit k) q
    simp [h, Nat.testBit_two_pow] at this
theorem and_pow2 (a j k : Nat) : (a &&& (2 ^ j ||| 2 ^ k) == (2 ^ j ||| 2 ^ k)) = (a.testBit j && a.testBit k) := by
  rw [← and_pow a j, ← and_pow a k, Bool.eq_iff_iff]
  simp only [beq_iff_eq, Bool.and_eq_true]
  constructor
  · intro h
    constructor
    · have := congrArg (· &&& 2 ^ j) h
      simp only [Nat.and_assoc] at this
      rw [Nat.and_comm (2 ^ j ||| 2 ^ k) (2 ^ j)] at this
      have e : 2 ^ j &&& (2 ^ j ||| 2 ^ k) = 2 ^ j := by
        apply Nat.eq_of_testBit_eq; intro i; simp only [Nat.testBit_and, Nat.testBit_or]; cases (2 ^ j).testBit i <;> simp
      rw [e] at this; exact this
    · have := congrArg (· &&& 2 ^ k) h
      simp only [Nat.and_assoc] at this
      rw [Nat.and_comm (2 ^ j ||| 2 ^ k) (2 ^ k)] at this
      have e : 2 ^ k &&& (2 ^ j ||| 2 ^ k) = 2 ^ k := by
        apply Nat.eq_of_testBit_eq; intro i; simp only [Nat.testBit_and, Nat.testBit_or]; cases (2 ^ k).testBit i <;> simp
      rw [e] at this; exact this
  · rintro ⟨h1, h2⟩
    rw [Nat.and_or_distrib_left, h1, h2]
theorem fm_size (a : Nat) : (fm a).cps.size = 10 := by simp [fm]
theorem ch_fm (a k : Nat) (h : k < 10) : ch (fm a) k = sgn a k := by
  simp [ch, fm, h]
theorem sgn3 (a i j k : Nat) (hi : i ≠ 0) (c1 c2 c3 : Nat) (hrow : tabI.getD i [] = [(2 ^ j ||| 2 ^ k, c1), (2 ^ j, c2), (2 ^ k, c3)]) :
    sgn a i = if a.testBit j && a.testBit k then c1 else if a.testBit j then c2 else if a.testBit k then c3 else 45 := by
  unfold sgn sgnOf
  rw [hrow]
  simp only [List.find?, hits, if_neg hi, and_pow, and_pow2]
  cases a.testBit j <;> cases a.testBit k <;> simp
theorem sgn1 (a i k : Nat) (hi : i ≠ 0) (c : Nat) (hrow : tabI.getD i [] = [(2 ^ k, c)]) : sgn a i = if a.testBit k then c else 45 := by
  unfold sgn sgnOf
  rw [hrow]
  simp only [List.find?, hits, if_neg hi, and_pow]
  cases a.testBit k <;> simp
theorem row_worth (a y : Nat) (k1 k2 k3 k4 p1 p2 p3 p4 : Nat) (c1 c2 : Nat) (wv : Nat) (hy : 1 ≤ y) (hy3 : y ≤ 3)
    (r1 : tabI.getD (12 - 3 * y) [] = [(2 ^ k4 ||| 2 ^ k1, c1), (2 ^ k4, c2), (2 ^ k1, 120)]) (r2 : tabI.getD (11 - 3 * y) [] = [(2 ^ k2, 119)]) (r3 : tabI.getD (10 - 3 * y) [] = [(2 ^ k3, 114)])
    (hc1 : c1 = 115 ∨ c1 = 116) (hc2 : c2 = 83 ∨ c2 = 84) (q1 : pr y 1 = p1) (q2 : pr y 2 = p2) (q3 : pr y 3 = p3) (q4 : pr y 4 = p4) :
    cellW (fm a) y wv = wv ^^^ gx a [(k1, p1), (k2, p2), (k3, p3), (k4, p4)] := by
  unfold cellW w1 w2 w3 w4
  rw [ch_fm a _ (by omega), ch_fm a _ (by omega), ch_fm a _ (by omega), sgn3 a _ k4 k1 (by omega) c1 c2 120 r1, sgn1 a _ k2 (by omega) _ r2, sgn1 a _ k3 (by omega) _ r3, q1, q2, q3, q4]
  simp only [gx]
  rcases hc1 with rfl | rfl <;> rcases hc2 with rfl | rfl <;> cases a.testBit k1 <;> cases a.testBit k2 <;> cases a.testBit k3 <;> cases a.testBit k4 <;> simp [Nat.xor_assoc]
theorem worth_G (a : Nat) : worthN (fm a) = G a := by
  unfold worthN worthK worthK worthK worthK
  rw [row_worth a 3 6 7 8 11 3 1 2 12 115 83 _ (by omega) (by omega) rfl rfl rfl (by simp) (by simp) rfl rfl rfl rfl,
    row_worth a 2 3 4 5 10 2 3 1 8 115 83 _ (by omega) (by omega) rfl rfl rfl (by simp) (by simp) rfl rfl rfl rfl,
    row_worth a 1 0 1 2 9 1 2 3 4 116 84 _ (by omega) (by omega) rfl rfl rfl (by simp) (by simp) rfl rfl rfl rfl]
  simp only [G, KP, gx, Nat.xor_assoc, Nat.zero_xor, Nat.xor_zero]
end Mine
end

section
open PySem PySem.W PyProof.Rows PySem.Spec PySem.Calls
set_option Elab.async false
set_option maxRecDepth 100000
set_option maxHeartbeats 1000000
namespace Mine
def mm (y x low left : Nat) : Nat := coin y x + coin low x + coin y left + coin low left
def bp (y x : Nat) : Nat := if x = 4 then 8 + y else 3 * y + x - 4
theorem and_ne (a k : Nat) : a &&& 2 ^ k ≠ 0 ↔ a.testBit k = true := by
  have h := and_pow a k
  cases hk : a.testBit k with
  | true =>
    rw [hk, beq_iff_eq] at h
    rw [h]
    simp [Nat.ne_of_gt (Nat.two_pow_pos k)]
  | false =>
    simp only [Bool.false_eq_true, iff_false, Decidable.not_not]
    apply Nat.eq_of_testBit_eq
    intro i
    rw [Nat.testBit_and, Nat.testBit_two_pow]
    by_cases e : k = i
    · rw [← e, hk]; simp
    · simp [e]
theorem mem_turned {a b : Nat} : b ∈ turnedN a ↔ ∃ y, y < 3 ∧ ∃ x, x < 4 ∧ a.testBit (bp (y + 1) (x + 1)) = true ∧ ∃ low, low < y + 1 ∧ ∃ left, left < x + 1 ∧ b = a ^^^ mm (y + 1) (x + 1) low left := by
  have hc : ∀ y x, coin (y + 1) (x + 1) = 2 ^ bp (y + 1) (x + 1) := fun y x => by simp [coin, bp]
  simp only [turnedN, t1, t2, t3, t4, List.mem_flatMap, List.mem_range]
  constructor
  · rintro ⟨y, hy, x, hx, h⟩
    split at h
    · rename_i hb
      rw [hc, and_ne] at hb
      simp only [List.mem_flatMap, List.mem_range, List.mem_map] at h
      obtain ⟨low, hl, left, hf, e⟩ := h
      exact ⟨y, hy, x, hx, hb, low, hl, left, hf, e.symm⟩
    · cases h
  · rintro ⟨y, hy, x, hx, hb, low, hl, left, hf, e⟩
    refine ⟨y, hy, x, hx, ?_⟩
    rw [if_pos (by rw [hc, and_ne]; exact hb)]
    simp only [List.mem_flatMap, List.mem_range, List.mem_map]
    exact ⟨low, hl, left, hf, e.symm⟩
theorem gx_lt (a : Nat) : ∀ l, (∀ q ∈ l, q.2 < 16) → gx a l < 16
  | [], _ => by simp [gx]
  | (k, p) :: l, h => by
    rw [gx]
    have h1 := gx_lt a l fun q hq => h q (.tail _ hq)
    have h2 : p < 16 := h (k, p) (.head _)
    exact Nat.xor_lt_two_pow (n := 4) (by cases a.testBit k <;> simp <;> omega) h1
theorem G_lt (a : Nat) : G a < 16 := gx_lt a KP (by decide)
theorem fin1 : ∀ y, y < 3 → ∀ x, x < 4 → ∀ low, low < y + 1 → ∀ left, left < x + 1 → G (mm (y + 1) (x + 1) low left) ≠ 0 ∧ mm (y + 1) (x + 1) low left < 4096 := by decide +kernel
theorem fin2 : ∀ q ∈ KP, ∃ y, y < 3 ∧ ∃ x, x < 4 ∧ q = (bp (y + 1) (x + 1), pr (y + 1) (x + 1)) := by decide +kernel
theorem fin3 : ∀ y, y < 3 → ∀ x, x < 4 → ∀ u, u < pr (y + 1) (x + 1) → ∃ low, low < y + 1 ∧ ∃ left, left < x + 1 ∧ G (mm (y + 1) (x + 1) low left) = pr (y + 1) (x + 1) ^^^ u := by decide +kernel
theorem fin4 : ∀ g, g < 16 → ∀ v, v < g → ∃ k, k < 4 ∧ g.testBit k = true ∧ ∀ p, p < 16 → p.testBit k = true → p ^^^ (g ^^^ v) < p := by decide +kernel
theorem KP_lt : ∀ q ∈ KP, q.2 < 16 := by decide
theorem G_xor (a b : Nat) : G (a ^^^ b) = G a ^^^ G b := gx_xor a b KP
theorem turned_ne {a b : Nat} (h : b ∈ turnedN a) : worthN (fm b) ≠ worthN (fm a) := by
  obtain ⟨y, hy, x, hx, _, low, hl, left, hf, e⟩ := mem_turned.mp h
  rw [worth_G, worth_G, e, G_xor]
  intro q
  have := congrArg (G a ^^^ ·) q
  simp only [← Nat.xor_assoc, Nat.xor_self, Nat.zero_xor] at this
  exact (fin1 y hy x hx low hl left hf).1 this
theorem mex_in {a v : Nat} (h : v < worthN (fm a)) : ∃ b ∈ turnedN a, worthN (fm b) = v := by
  rw [worth_G] at h
  obtain ⟨k, _, hk, hp⟩ := fin4 (G a) (G_lt a) v h
  obtain ⟨q, hq, hb, hqk⟩ := gx_bit a k KP hk
  obtain ⟨y, hy, x, hx, e⟩ := fin2 q hq
  have hlt := hp q.2 (KP_lt q hq) hqk
  rw [e] at hb hlt
  obtain ⟨low, hl, left, hf, e2⟩ := fin3 y hy x hx _ hlt
  refine ⟨a ^^^ mm (y + 1) (x + 1) low left, mem_turned.mpr ⟨y, hy, x, hx, hb, low, hl, left, hf, rfl⟩, ?_⟩
  rw [worth_G, G_xor, e2]
  simp only [← Nat.xor_assoc, Nat.xor_self, Nat.zero_xor]
theorem worth_lt (a : Nat) : worthN (fm a) < 16 := by rw [worth_G]; exact G_lt a
theorem turned_kind {a b : Nat} (h : b ∈ turnedN a) : b / 4096 = a / 4096 := by
  obtain ⟨y, hy, x, hx, _, low, hl, left, hf, e⟩ := mem_turned.mp h
  have h2 := (fin1 y hy x hx low hl left hf).2
  rw [e, show (4096 : Nat) = 2 ^ 12 from rfl, ← Nat.shiftRight_eq_div_pow, ← Nat.shiftRight_eq_div_pow, Nat.shiftRight_xor_distrib]
  rw [Nat.shiftRight_eq_div_pow (mm _ _ _ _), Nat.div_eq_of_lt h2, Nat.xor_zero]
theorem and_kind {a : Nat} (h : a < 65536) : a &&& 61440 = a / 4096 * 4096 := by
  apply Nat.eq_of_testBit_eq
  intro i
  rw [Nat.testBit_and, show (61440 : Nat) = (2 ^ 4 - 1) * 2 ^ 12 from rfl, show (4096 : Nat) = 2 ^ 12 from rfl, Nat.testBit_mul_two_pow, Nat.testBit_mul_two_pow, Nat.testBit_two_pow_sub_one, Nat.testBit_div_two_pow]
  by_cases h1 : 12 ≤ i
  · simp only [h1, decide_true, Bool.true_and]
    rw [show i - 12 + 12 = i from by omega]
    by_cases h2 : i - 12 < 4
    · simp [h2]
    · have : a.testBit i = false := Nat.testBit_lt_two_pow (Nat.lt_of_lt_of_le h (by rw [show (65536 : Nat) = 2 ^ 16 from rfl]; exact Nat.pow_le_pow_right (by decide) (by omega)))
      simp [this]
  · simp [h1]
theorem kind_fin : ∀ h, h < 16 → (match ([(40960, 108), (49152, 115), (32768, 45), (24576, 98), (16384, 100), (8192, 99), (4096, 112)] : List (Nat × Nat)).find? (fun p => h * 4096 == p.1) with | some p => p.2 | none => 63) = (Str.ofString "?pc?d?b?-?l?s???").cps.getD h 0 := by decide +kernel
theorem fm_kind {a kc : Nat} (h : a < 65536) (hk : (Str.ofString "?pc?d?b?-?l?s???").cps[a / 4096]? = some kc) : (fm a).cps[0]? = some kc := by
  have h16 : a / 4096 < 16 := by omega
  have e : (fm a).cps[0]? = some (sgn a 0) := by simp [fm]
  rw [e]
  have := kind_fin _ h16
  rw [Array.getD_eq_getD_getElem?, hk, Option.getD_some] at this
  rw [← this]
  unfold sgn sgnOf
  simp only [hits, if_true, and_kind h]
  rfl
end Mine
end

section
open PySem PySem.W PyProof.Rows PySem.Spec PySem.Calls
set_option Elab.async false
set_option maxRecDepth 100000
set_option maxHeartbeats 1000000
namespace Mine
theorem sld_swap : ∀ (n : Nat) (xs ys : List Int), sld n ys xs = ((sld n xs ys).2, (sld n xs ys).1)
  | 0, xs, ys => by cases xs <;> cases ys <;> rfl
  | n + 1, [], ys => by cases ys <;> rfl
  | n + 1, e :: xs, [] => rfl
  | n + 1, e :: xs, a :: ys => by
    rcases Int.lt_trichotomy e a with h | h | h
    · rw [sld_lt h, sld_gt h, sld_swap n]
    · rw [sld_eq h, sld_eq h.symm, sld_swap n]
    · rw [sld_gt h, sld_lt h, sld_swap n]
theorem dw_id {e : Int} : ∀ {xs : List Int}, (∀ x ∈ xs, e < x) → xs.dropWhile (· == e) = xs
  | [], _ => rfl
  | x :: xs, h => by
    rw [List.dropWhile_cons_of_neg]
    have := h x (.head _)
    simp; omega
theorem dw_sub {v : Int} : ∀ {l : List Int} {z : Int}, z ∈ l.dropWhile (· == v) → z ∈ l
  | x :: l, z, h => by
    by_cases e : x = v
    · rw [List.dropWhile_cons_of_pos (by simp [e])] at h
      exact .tail _ (dw_sub h)
    · rw [List.dropWhile_cons_of_neg (by simp [e])] at h
      exact h
theorem dw_sorted {v : Int} : ∀ {l : List Int}, l.Pairwise (· ≤ ·) → (l.dropWhile (· == v)).Pairwise (· ≤ ·)
  | [], h => h
  | x :: l, h => by
    by_cases e : x = v
    · rw [List.dropWhile_cons_of_pos (by simp [e])]
      exact dw_sorted (List.pairwise_cons.mp h).2
    · rw [List.dropWhile_cons_of_neg (by simp [e])]
      exact h
theorem dw_gt {v : Int} : ∀ {l : List Int}, l.Pairwise (· ≤ ·) → (∀ z ∈ l, v ≤ z) → ∀ z ∈ l.dropWhile (· == v), v < z
  | [], _, _, z, h => nomatch h
  | x :: l, hp, hv, z, h => by
    by_cases e : x = v
    · rw [List.dropWhile_cons_of_pos (by simp [e])] at h
      exact dw_gt (List.pairwise_cons.mp hp).2 (fun z hz => hv z (.tail _ hz)) z h
    · rw [List.dropWhile_cons_of_neg (by simp [e])] at h
      have h1 := hv x (.head _)
      rcases List.mem_cons.mp h with q | h
      · omega
      · have := (List.pairwise_cons.mp hp).1 z h; omega
theorem dw_len {v : Int} : ∀ (l : List Int), (l.dropWhile (· == v)).length ≤ l.length
  | [] => Nat.le_refl _
  | x :: l => by
    by_cases e : x = v
    · rw [List.dropWhile_cons_of_pos (by simp [e])]
      exact Nat.le_succ_of_le (dw_len l)
    · rw [List.dropWhile_cons_of_neg (by simp [e])]; exact Nat.le_refl _
/-- the numbers of the first that the second does not have -/
theorem sld_sub : ∀ (n : Nat) (xs ys : List Int), xs.Pairwise (· < ·) → ys.Pairwise (· ≤ ·) → (∀ y ∈ ys, y ∈ xs) → xs.length + ys.length ≤ n → sld n xs ys = (xs.filter (fun z => !(ys.any (· == z))), [])
  | n, [], ys, _, _, h, _ => by
    have : ys = [] := by
      cases ys with
      | nil => rfl
      | cons y ys => exact absurd (h y (.head _)) (by simp)
    rw [this, sld_nil_left]; rfl
  | n, e :: xs, [], _, _, _, _ => by rw [sld_nil_right, List.filter_eq_self.mpr (fun z _ => by rfl)]
  | 0, e :: xs, a :: ys, _, _, _, hn => by simp at hn
  | n + 1, e :: xs, a :: ys, hx, hy, h, hn => by
    obtain ⟨hx1, hx2⟩ := List.pairwise_cons.mp hx
    obtain ⟨hy1, hy2⟩ := List.pairwise_cons.mp hy
    simp only [List.length_cons] at hn
    rcases Int.lt_trichotomy e a with hea | hea | hea
    · rw [sld_lt hea, dw_id hx1]
      have hsub : ∀ y ∈ a :: ys, y ∈ xs := fun y hy' => by
        rcases List.mem_cons.mp (h y hy') with q | q
        · rcases List.mem_cons.mp hy' with r | r
          · omega
          · have := hy1 y r; omega
        · exact q
      rw [sld_sub n xs (a :: ys) hx2 hy hsub (by simp only [List.length_cons]; omega)]
      have hne : (!((a :: ys).any (· == e))) = true := by
        rw [Bool.not_eq_true', List.any_eq_false]
        intro y hy'
        rcases List.mem_cons.mp hy' with r | r
        · simp; omega
        · have := hy1 y r; simp; omega
      rw [List.filter_cons_of_pos (p := fun z => !((a :: ys).any (· == z))) hne]
    · subst hea
      rw [sld_eq rfl, dw_id hx1]
      have hgt := dw_gt (v := e) hy2 hy1
      have hsub : ∀ y ∈ ys.dropWhile (· == e), y ∈ xs := fun y hy' => by
        rcases List.mem_cons.mp (h y (.tail _ (dw_sub hy'))) with q | q
        · have := hgt y hy'; omega
        · exact q
      have hl := dw_len (v := e) ys
      rw [sld_sub n xs _ hx2 (dw_sorted hy2) hsub (by omega), List.filter_cons_of_neg (by simp)]
      congr 1
      apply List.filter_congr
      intro z hz
      have hez := hx1 z hz
      congr 1
      rw [Bool.eq_iff_iff, List.any_eq_true, List.any_eq_true]
      constructor
      · rintro ⟨q, hq, hqz⟩
        exact ⟨q, .tail _ (dw_sub hq), hqz⟩
      · rintro ⟨q, hq, hqz⟩
        have hqz' : q = z := by simpa using hqz
        rcases List.mem_cons.mp hq with r | r
        · omega
        · exact ⟨q, mem_dw (by omega) r, hqz⟩
    · exfalso
      rcases List.mem_cons.mp (h a (.head _)) with q | q
      · omega
      · have := hx1 a q; omega
def r17 : List Int := (List.range 17).map Int.ofNat
theorem r17_up : r17.Pairwise (· < ·) := by decide
theorem mem_r17 {y : Int} (h0 : 0 ≤ y) (h1 : y < 17) : y ∈ r17 := List.mem_map.mpr ⟨y.toNat, List.mem_range.mpr (by omega), by show (y.toNat : Int) = y; omega⟩
/-- the numbers 0 to 16 that are not among ws -/
def dueN (ws : List Int) : List Int := r17.filter (fun z => !(ws.any (· == z)))
theorem sld_due1 {ws : List Int} (hs : ws.Pairwise (· ≤ ·)) (hb : ∀ y ∈ ws, 0 ≤ y ∧ y < 17) : sld (r17.length + ws.length) r17 ws = (dueN ws, []) :=
  sld_sub _ _ _ r17_up hs (fun y hy => mem_r17 (hb y hy).1 (hb y hy).2) (Nat.le_refl _)
theorem sld_due2 {ws : List Int} (hs : ws.Pairwise (· ≤ ·)) (hb : ∀ y ∈ ws, 0 ≤ y ∧ y < 17) : sld (ws.length + r17.length) ws r17 = ([], dueN ws) := by
  rw [sld_swap, sld_sub _ _ _ r17_up hs (fun y hy => mem_r17 (hb y hy).1 (hb y hy).2) (by omega)]; rfl
theorem filter_head {p : Nat → Bool} : ∀ (g n : Nat), (∀ v < g, p v = false) → p g = true → g < n → ∃ rest, (List.range n).filter p = g :: rest
  | g, n, h1, h2, h3 => by
    obtain ⟨k, rfl⟩ : ∃ k, n = g + (k + 1) := ⟨n - g - 1, by omega⟩
    rw [List.range_add, List.filter_append, List.filter_eq_nil_iff.mpr (fun v hv => by simp [h1 v (List.mem_range.mp hv)]), List.nil_append, List.range_succ_eq_map, List.map_cons, List.filter_cons_of_pos (by simpa using h2)]
    exact ⟨_, rfl⟩
theorem due_head {ws : List Int} {g : Nat} (h1 : ∀ v, v < g → (v : Int) ∈ ws) (h2 : (g : Int) ∉ ws) (hg : g < 17) : ∃ rest, dueN ws = (g : Int) :: rest := by
  obtain ⟨rest, hr⟩ := filter_head (p := fun v => !(ws.any (· == (v : Int)))) g 17 (fun v hv => by
    rw [Bool.not_eq_false', List.any_eq_true]
    exact ⟨v, h1 v hv, by simp⟩) (by
    rw [Bool.not_eq_true', List.any_eq_false]
    intro y hy q
    exact h2 (by rw [← (beq_iff_eq.mp q)]; exact hy)) hg
  refine ⟨rest.map Int.ofNat, ?_⟩
  unfold dueN r17
  rw [List.filter_map]
  show ((List.range 17).filter fun v : Nat => !(ws.any (· == (v : Int)))).map Int.ofNat = _
  rw [hr]; rfl
end Mine
end

section
open PySem PySem.W PyProof.Rows PySem.Spec PySem.Calls
set_option Elab.async false
set_option maxRecDepth 100000
set_option maxHeartbeats 1000000
namespace Mine
theorem stop_of {p : Prop} (h : Stop p) : p := h
section
variable {prog : Program} {w : World} {A : Around} {E : Value → Shared → Prop} {s : Shared} {env : Env} {scope : Scope} {cl : List (Str × Addr)} {x : Str} {ifs : List Expr} {elt : Expr} {p : Value → Bool} {F : Value → Value → Prop} {l : Addr} {items : Array Value}
/-- what a comprehension's leaves ask, over the items of a list -/
structure Leaf (prog : Program) (w : World) (A : Around) (env : Env) (scope : Scope) (cl : List (Str × Addr)) (x : Str) (ifs : List Expr) (elt : Expr) (p : Value → Bool) (F : Value → Value → Prop) (ok : Value → Prop) (h₁ : Heap) : Prop where
  tests : ∀ C v s₃ m₃ E', ok v → s₃.heap.Ns C m₃ → m₃ x = some v → (∀ b o, h₁.get? b = some o → s₃.heap.get? b = some o) →
    wpAny (model prog w) A (forIn ifs true fun c r => if r = true then do let ok ← isTrue c (compEnvC scope cl C env) (eval c (compEnvC scope cl C env)); pure (ForInStep.yield ok) else pure (ForInStep.yield r)) (fun ok s₄ => ok = p v ∧ Keeps s₃ s₄) E' s₃
  elt : ∀ C v s₃ m₃ E', ok v → p v = true → s₃.heap.Ns C m₃ → m₃ x = some v → (∀ b o, h₁.get? b = some o → s₃.heap.get? b = some o) →
    wpAny (model prog w) A (eval elt (compEnvC scope cl C env)) (fun y s₄ => F v y ∧ Keeps s₃ s₄) E' s₃
theorem overList {Q : Value → Shared → Prop} (hh : A.handled = none) (hl : s.heap.IsList l items) (hsz : items.size ≤ sizeLine) (lf : Leaf prog w A env scope cl x ifs elt p F (· ∈ items) s.heap)
    (hQ : ∀ D h' tk ys, s.heap.get? D = none → h'.PlainList D ys → Paired F (items.toList.filter p) ys.toList → (∀ b o, s.heap.get? b = some o → h'.get? b = some o) → Q (.ref D) { s with heap := h', toks := tk }) :
    wpAny (model prog w) A (pyIter (.ref l)) (fun it s₂ => ∃ I fp wr n P St, it = .ref I ∧ Walks prog w A I fp wr n P St ∧ n ≤ sizeLine ∧ St 0 s₂.heap ∧ (∀ b ∈ fp, b < s₂.heap.objs.size) ∧
      QuietOnC prog w A env scope cl x ifs elt wr P p F s₂ ∧
      (∀ D h' tk ys (vs : List Value), s₂.heap.get? D = none → h'.IsList D ys → h'.PlainList D ys → vs.length = n → (∀ j v, vs[j]? = some v → P j v) → Paired F (vs.filter p) ys.toList →
        (∀ b o, b ∉ wr → s₂.heap.get? b = some o → h'.get? b = some o) → Q (.ref D) { s₂ with heap := h', toks := tk })) E s := by
  have hax : l < s.heap.objs.size := by obtain ⟨_, e, _⟩ := hl; exact Heap.lt_size e
  have notI : ∀ b, b < s.heap.objs.size → b ∉ [s.heap.objs.size] := fun b hb hm => by
    rw [List.mem_singleton.mp hm] at hb; exact absurd hb (Nat.lt_irrefl _)
  have up : ∀ (h₃ : Heap), (∀ b o, b ∉ [s.heap.objs.size] → (s.heap.push { cls := .type "list_iterator", data := .fields #[.ref l, .int 0 0] }).get? b = some o → h₃.get? b = some o) → ∀ b o, s.heap.get? b = some o → h₃.get? b = some o :=
    fun h₃ hold b o e => hold b o (notI b (Heap.lt_size e)) (Heap.get?_push_of_some _ e)
  refine wpAny_pyIter_list hl ?_
  refine ⟨s.heap.objs.size, [s.heap.objs.size, l], [s.heap.objs.size], items.size, (fun i v => items[i]? = some v), _, rfl, Walks.list hh s.heap.objs.size l (Nat.ne_of_lt hax) items, hsz,
    ⟨⟨_, Heap.get?_push_size _ rfl, rfl, rfl⟩, hl.push _⟩, ?_, ⟨?_, ?_⟩, ?_⟩
  · intro b hb
    show b < (s.heap.push _).objs.size
    rw [Heap.size_push]
    rcases List.mem_cons.mp hb with e | hb
    · rw [e]; exact Nat.lt_succ_self _
    · rw [List.mem_singleton.mp hb]; exact Nat.lt_succ_of_lt hax
  · intro C i v s₃ m₃ E' _ hP hn hm hold _
    exact lf.tests C v s₃ m₃ E' (Array.mem_of_getElem? hP) hn hm (up _ hold)
  · intro C i v s₃ m₃ E' _ hP hp hn hm hold _
    exact lf.elt C v s₃ m₃ E' (Array.mem_of_getElem? hP) hp hn hm (up _ hold)
  · intro D h' tk ys vs hnew _ hlD hlen hP hF hk
    rw [list_of_places hlen hP] at hF
    refine hQ D h' tk ys ?_ hlD hF (up _ hk)
    cases e : s.heap.get? D with
    | none => rfl
    | some o' => have := Heap.get?_push_of_some { cls := .type "list_iterator", data := .fields #[.ref l, .int 0 0] } e; rw [this] at hnew; cases hnew
theorem overListA {Q : Flow → Shared → Prop} {y : Str} {m : Str → Option Value} (hh : A.handled = none) (hl : s.heap.IsList l items) (hn : s.heap.Ns env.locals m) (hsz : items.size ≤ sizeLine) (lf : Leaf prog w A env scope cl x ifs elt p F (· ∈ items) s.heap)
    (hQ : ∀ D h' tk ys, s.heap.get? D = none → h'.PlainList D ys → Paired F (items.toList.filter p) ys.toList → h'.Ns env.locals (fun z => if z = y then some (.ref D) else m z) → (∀ b o, b ≠ env.locals → s.heap.get? b = some o → h'.get? b = some o) → Q .next { s with heap := h', toks := tk }) :
    wpAny (model prog w) A (pyIter (.ref l)) (fun it s₂ => ∃ I fp wr n P St m, it = .ref I ∧ Walks prog w A I fp wr n P St ∧ n ≤ sizeLine ∧ St 0 s₂.heap ∧ (∀ b ∈ fp, b < s₂.heap.objs.size) ∧
      env.locals ∉ wr ∧ s₂.heap.Ns env.locals m ∧ QuietOnC prog w A env scope cl x ifs elt wr P p F s₂ ∧
      (∀ D h' tk ys (vs : List Value), s₂.heap.get? D = none → h'.IsList D ys → h'.PlainList D ys → vs.length = n → (∀ j v, vs[j]? = some v → P j v) → Paired F (vs.filter p) ys.toList →
        h'.Ns env.locals (fun z => if z = y then some (.ref D) else m z) → (∀ b o, b ≠ env.locals → b ∉ wr → s₂.heap.get? b = some o → h'.get? b = some o) → Q .next { s₂ with heap := h', toks := tk })) E s := by
  have hax : l < s.heap.objs.size := by obtain ⟨_, e, _⟩ := hl; exact Heap.lt_size e
  have notI : ∀ b, b < s.heap.objs.size → b ∉ [s.heap.objs.size] := fun b hb hm => by
    rw [List.mem_singleton.mp hm] at hb; exact absurd hb (Nat.lt_irrefl _)
  have up : ∀ (h₃ : Heap), (∀ b o, b ∉ [s.heap.objs.size] → (s.heap.push { cls := .type "list_iterator", data := .fields #[.ref l, .int 0 0] }).get? b = some o → h₃.get? b = some o) → ∀ b o, s.heap.get? b = some o → h₃.get? b = some o :=
    fun h₃ hold b o e => hold b o (notI b (Heap.lt_size e)) (Heap.get?_push_of_some _ e)
  refine wpAny_pyIter_list hl ?_
  refine ⟨s.heap.objs.size, [s.heap.objs.size, l], [s.heap.objs.size], items.size, (fun i v => items[i]? = some v), _, m, rfl, Walks.list hh s.heap.objs.size l (Nat.ne_of_lt hax) items, hsz,
    ⟨⟨_, Heap.get?_push_size _ rfl, rfl, rfl⟩, hl.push _⟩, ?_, ?_, hn.keeps fun b o e => Heap.get?_push_of_some _ e, ⟨?_, ?_⟩, ?_⟩
  · intro b hb
    show b < (s.heap.push _).objs.size
    rw [Heap.size_push]
    rcases List.mem_cons.mp hb with e | hb
    · rw [e]; exact Nat.lt_succ_self _
    · rw [List.mem_singleton.mp hb]; exact Nat.lt_succ_of_lt hax
  · exact notI _ hn.lt
  · intro C i v s₃ m₃ E' _ hP hn hm hold _
    exact lf.tests C v s₃ m₃ E' (Array.mem_of_getElem? hP) hn hm (up _ hold)
  · intro C i v s₃ m₃ E' _ hP hp hn hm hold _
    exact lf.elt C v s₃ m₃ E' (Array.mem_of_getElem? hP) hp hn hm (up _ hold)
  · intro D h' tk ys vs hnew _ hlD hlen hP hF hns hk
    rw [list_of_places hlen hP] at hF
    refine hQ D h' tk ys ?_ hlD hF hns (fun b o hb e => hk b o hb (notI b (Heap.lt_size e)) (Heap.get?_push_of_some _ e))
    cases e : s.heap.get? D with
    | none => rfl
    | some o' => have := Heap.get?_push_of_some { cls := .type "list_iterator", data := .fields #[.ref l, .int 0 0] } e; rw [this] at hnew; cases hnew
/-- the numbers 0 to N-1, with what tokens they have -/
theorem overRangeA {Q : Flow → Shared → Prop} {y : Str} {m : Str → Option Value} {N : Nat} {t u v : Tok} (hh : A.handled = none) (hr : IsRange s.heap l 0 (N : Int) 1 t u v) (hN : N < 2 ^ 16) (hn : s.heap.Ns env.locals m)
    (lf : Leaf prog w A env scope cl x ifs elt p F (fun v => ∃ (i : Nat) (t : Tok), i < N ∧ v = .int (i : Int) t) s.heap)
    (hQ : ∀ D h' tk ys (vs : List Value), s.heap.get? D = none → h'.PlainList D ys → IntsAre vs ((List.range N).map Int.ofNat) → Paired F (vs.filter p) ys.toList → h'.Ns env.locals (fun z => if z = y then some (.ref D) else m z) → (∀ b o, b ≠ env.locals → s.heap.get? b = some o → h'.get? b = some o) → Q .next { s with heap := h', toks := tk }) :
    wpAny (model prog w) A (pyIter (.ref l)) (fun it s₂ => ∃ I fp wr n P St m, it = .ref I ∧ Walks prog w A I fp wr n P St ∧ n ≤ sizeLine ∧ St 0 s₂.heap ∧ (∀ b ∈ fp, b < s₂.heap.objs.size) ∧
      env.locals ∉ wr ∧ s₂.heap.Ns env.locals m ∧ QuietOnC prog w A env scope cl x ifs elt wr P p F s₂ ∧
      (∀ D h' tk ys (vs : List Value), s₂.heap.get? D = none → h'.IsList D ys → h'.PlainList D ys → vs.length = n → (∀ j v, vs[j]? = some v → P j v) → Paired F (vs.filter p) ys.toList →
        h'.Ns env.locals (fun z => if z = y then some (.ref D) else m z) → (∀ b o, b ≠ env.locals → b ∉ wr → s₂.heap.get? b = some o → h'.get? b = some o) → Q .next { s₂ with heap := h', toks := tk })) E s := by
  obtain ⟨hs1, hs2⟩ := isSmall N (by omega)
  have notI : ∀ b, b < s.heap.objs.size → b ∉ [s.heap.objs.size] := fun b hb hm => by
    rw [List.mem_singleton.mp hm] at hb; exact absurd hb (Nat.lt_irrefl _)
  refine wpAny_pyIter_range hr hs2 ?_
  rw [hs1]
  have up : ∀ (h₃ : Heap), (∀ b o, b ∉ [s.heap.objs.size] → (s.heap.push { cls := .type "range_iterator", data := .fields #[rawInt 0, rawInt (N : Int), rawInt 1] }).get? b = some o → h₃.get? b = some o) → ∀ b o, s.heap.get? b = some o → h₃.get? b = some o :=
    fun h₃ hold b o e => hold b o (notI b (Heap.lt_size e)) (Heap.get?_push_of_some _ e)
  refine ⟨s.heap.objs.size, [s.heap.objs.size], [s.heap.objs.size], N, _, _, m, rfl, (Walks.range hh s.heap.objs.size 0 1 N).bound, by rw [sizeLine_eq]; omega, ?_, ?_, notI _ hn.lt, hn.keeps fun b o e => Heap.get?_push_of_some _ e, ⟨?_, ?_⟩, ?_⟩
  · show IsRangeIter (s.heap.push { cls := .type "range_iterator", data := .fields #[rawInt 0, rawInt (N : Int), rawInt 1] }) s.heap.objs.size (0 + ((0 : Nat) : Int) * 1) (((N : Nat) : Int) - ((0 : Nat) : Int)) 1
    rw [show (N : Int) - ((0 : Nat) : Int) = (N : Int) from by omega]
    exact Heap.get?_push_size _ rfl
  · intro b hb
    rw [List.mem_singleton.mp hb]
    show s.heap.objs.size < (s.heap.push _).objs.size
    rw [Heap.size_push]; exact Nat.lt_succ_self _
  · rintro C i v s₃ m₃ E' _ ⟨hi, tv, hv⟩ hn hm hold _
    exact lf.tests C v s₃ m₃ E' ⟨i, tv, hi, by rw [hv]; simp⟩ hn hm (up _ hold)
  · rintro C i v s₃ m₃ E' _ ⟨hi, tv, hv⟩ hp hn hm hold _
    exact lf.elt C v s₃ m₃ E' ⟨i, tv, hi, by rw [hv]; simp⟩ hp hn hm (up _ hold)
  · intro D h' tk ys vs hnew _ hlD hlen hP hF hns hk
    refine hQ D h' tk ys vs ?_ hlD ?_ hF hns (fun b o hb e => hk b o hb (notI b (Heap.lt_size e)) (Heap.get?_push_of_some _ e))
    · cases e : s.heap.get? D with
      | none => rfl
      | some o' => have := Heap.get?_push_of_some { cls := .type "range_iterator", data := .fields #[rawInt 0, rawInt (N : Int), rawInt 1] } e; rw [this] at hnew; cases hnew
    · clear hF hQ lf
      have key : ∀ (n : Nat) (vs : List Value), vs.length = n → (∀ (j : Nat) v, vs[j]? = some v → ∃ t : Tok, v = Value.int (j : Int) t) → IntsAre vs ((List.range n).map Int.ofNat) := by
        intro n
        induction n with
        | zero => intro vs h _; rw [List.length_eq_zero_iff.mp h]; exact .nil
        | succ n ih =>
          intro vs h hj
          have hne : vs ≠ [] := by intro q; rw [q] at h; cases h
          rw [← List.dropLast_concat_getLast hne, List.range_succ, List.map_append]
          refine IntsAre.append (ih _ (by simp [h]) fun j v e => ?_) ?_
          · rw [List.getElem?_dropLast] at e
            split at e
            · exact hj j v e
            · cases e
          · obtain ⟨t, e⟩ := hj n (vs.getLast hne) (by rw [List.getLast_eq_getElem, List.getElem?_eq_getElem (by omega)]; simp [h])
            rw [e]
            exact .cons _ _ .nil
      refine key N vs hlen fun j v e => ?_
      obtain ⟨_, tv, hv⟩ := hP j v e
      exact ⟨tv, by rw [hv]; simp⟩
end
end Mine
end

section
open PySem PySem.W PyProof.Rows PySem.Spec PySem.Calls
set_option Elab.async false
set_option maxRecDepth 100000
set_option maxHeartbeats 1000000
namespace Mine
section
variable {w : World} {mean : ExcName → Option Value} {mg mb : Str → Option Value} {A : Around} {base : Heap} {env0 : Env} {outer : List Env} {env : Env} {h : Heap} {scope : Scope} {cl : List (Str × Addr)} {items : Array Value} {ok : Value → Prop}
theorem leaf_fm {p1 p2 p3 : Pos} (R : Rdy w mean mg mb A base env0 outer h) (hdp : A.depth + 2 < recursionLimit) (hu : A.units + 16 < cLine) (hg : env.globals = mainGlobals) (hk : scope.kind = .function)
    (k1 : ∀ C, (compEnvC scope cl C env).kindOf (Str.ofString "one") = some .local) (k2 : ∀ C, (compEnvC scope cl C env).kindOf (Str.ofString "filemode") = some .globalImplicit)
    (hi : ∀ v, ok v → ∃ (n : Nat) (t : Tok), v = .int (n : Int) t) :
    Leaf PR w A env scope cl (Str.ofString "one") [] (.Call (.Name (Str.ofString "filemode") p1) [.Name (Str.ofString "one") p2] [] p3) (fun _ => true) (fun v y => ∃ (n : Nat) (t t' : Tok), v = .int (n : Int) t ∧ y = .str (fm n) t') ok h where
  tests := fun C v s₃ m₃ E' _ _ _ _ => wpAny_tests_nil ⟨rfl, Keeps.refl' _⟩
  elt := by
    intro C v s₃ m₃ E' hv _ hn hm hkk
    obtain ⟨n, t, rfl⟩ := hi v hv
    have R₃ := R.keep hkk
    refine Call_ (nmG R₃.k R₃.top (by k_is) ?_ hk (k2 C) hg)
    refine callWith_K R₃.k (by k_is) ?_
    refine args_cons (nmL hn hm ?_ hk (k1 C))
    refine args_nil ⟨R₃.k, ?_⟩
    refine fm_ctr w mean mg mb n t A base env0 outer s₃ _ _ R₃ (by omega) (by omega) trivial fun r' h' tk' hk' hp' => ?_
    obtain ⟨t', rfl⟩ := hp'
    exact ⟨⟨n, t, t', rfl, rfl⟩, h', tk', rfl, hk'⟩
theorem leaf_worth {p1 p2 p3 p4 : Pos} {c P : Addr} (R : Rdy w mean mg mb A base env0 outer h) (hdp : A.depth + 2 < recursionLimit) (hu : A.units + 16 < cLine) (hg : env.globals = mainGlobals) (hk : scope.kind = .function)
    (k1 : ∀ C, (compEnvC scope cl C env).kindOf (Str.ofString "row") = some .local) (k2 : ∀ C, (compEnvC scope cl C env).kindOf (Str.ofString "_law_worth") = some .globalImplicit) (k3 : ∀ C, (compEnvC scope cl C env).kindOf (Str.ofString "products") = some .cell)
    (hc : cl.lookup (Str.ofString "products") = some c) (hcv : h.IsCell c (some (.ref P))) (hP : Prods h P)
    (hi : ∀ v, ok v → ∃ (x : Str) (t : Tok), v = .str x t ∧ x.cps.size = 10) :
    Leaf PR w A env scope cl (Str.ofString "row") [] (.Call (.Name (Str.ofString "_law_worth") p1) [.Name (Str.ofString "row") p2, .Name (Str.ofString "products") p3] [] p4) (fun _ => true) (fun v y => ∃ (x : Str) (t t' : Tok), v = .str x t ∧ y = .int (worthN x : Int) t') ok h where
  tests := fun C v s₃ m₃ E' _ _ _ _ => wpAny_tests_nil ⟨rfl, Keeps.refl' _⟩
  elt := by
    intro C v s₃ m₃ E' hv _ hn hm hkk
    obtain ⟨x, t, rfl, hx⟩ := hi v hv
    have R₃ := R.keep hkk
    refine Call_ (nmG R₃.k R₃.top (by k_is) ?_ hk (k2 C) hg)
    refine callWith_K R₃.k (by k_is) ?_
    refine args_cons (nmL hn hm ?_ hk (k1 C))
    refine args_cons (nmC hc (hcv.keeps hkk) ?_ hk (k3 C))
    refine args_nil ⟨R₃.k, ?_⟩
    refine worth_ctr w mean mg mb x hx t P A base env0 outer s₃ _ _ R₃ (by omega) (by omega) (hP.keep hkk) fun r' h' tk' hk' hp' => ?_
    obtain ⟨t', rfl⟩ := hp'
    exact ⟨⟨x, t, t', rfl, rfl⟩, h', tk', rfl, hk'⟩
theorem leaf_due {p1 p2 p3 p4 : Pos} {c W : Addr} {vs : List Value} {ws : List Int} (R : Rdy w mean mg mb A base env0 outer h) (hk : scope.kind = .function)
    (k1 : ∀ C, (compEnvC scope cl C env).kindOf (Str.ofString "n") = some .local) (k3 : ∀ C, (compEnvC scope cl C env).kindOf (Str.ofString "worths") = some .cell)
    (hc : cl.lookup (Str.ofString "worths") = some c) (hcv : h.IsCell c (some (.ref W))) (hW : h.IsList W vs.toArray) (hws : IntsAre vs ws)
    (hi : ∀ v, ok v → ∃ (n : Nat) (t : Tok), v = .int (n : Int) t) :
    Leaf PR w A env scope cl (Str.ofString "n") [.Compare (.Name (Str.ofString "n") p1) [.NotIn] [.Name (Str.ofString "worths") p2] p3] (.Name (Str.ofString "n") p4) (fun v => match v with | .int n _ => !(ws.any (· == n)) | _ => false) (fun v y => y = v) ok h where
  tests := by
    intro C v s₃ m₃ E' hv hn hm hkk
    obtain ⟨n, t, rfl⟩ := hi v hv
    refine wpAny_tests_one ?_
    refine wpAny_isTrue_Compare1 ?_
    refine nmL hn hm ?_ hk (k1 C)
    refine nmC hc (hcv.keeps hkk) ?_ hk (k3 C)
    refine notin_list_ints (hW.at fun o e => hkk _ o e) hws ?_
    exact wpAny_truthy_bool ⟨rfl, Keeps.refl' _⟩
  elt := by
    intro C v s₃ m₃ E' hv _ hn hm hkk
    exact nmL hn hm ⟨rfl, Keeps.refl' _⟩ hk (k1 C)
theorem leaf_bad {p1 p2 p3 p4 p5 p6 p7 p8 p9 q1 q2 q3 q4 : Pos} {c : Addr} {kc : Nat} {tk : Tok} (R : Rdy w mean mg mb A base env0 outer h) (hk : scope.kind = .function) (hg : env.globals = mainGlobals) (hb : env.builtins = builtinsNs)
    (k1 : ∀ C, (compEnvC scope cl C env).kindOf (Str.ofString "row") = some .local) (k2 : ∀ C, (compEnvC scope cl C env).kindOf (Str.ofString "kind") = some .cell) (k3 : ∀ C, (compEnvC scope cl C env).kindOf (Str.ofString "len") = some .globalImplicit)
    (hc : cl.lookup (Str.ofString "kind") = some c) (hcv : h.IsCell c (some (.str ⟨#[kc]⟩ tk)))
    (hi : ∀ v, ok v → ∃ (x : Str) (t : Tok), v = .str x t ∧ x.cps.size = 10 ∧ x.cps[0]? = some kc) :
    Leaf PR w A env scope cl (Str.ofString "row") [.BoolOp .Or [.Compare (.Subscript (.Name (Str.ofString "row") p1) (.Slice none (some (.Constant (.int 1) 0 p2)) none p3) p4) [.NotEq] [.Name (Str.ofString "kind") p5] p6,
        .Compare (.Call (.Name (Str.ofString "len") p7) [.Name (Str.ofString "row") p8] [] p9) [.NotEq] [.Constant (.int 10) 0 q1] q2] q3] (.Name (Str.ofString "row") q4) (fun _ => false) (fun _ _ => True) ok h where
  tests := by
    intro C v s₃ m₃ E' hv hn hm hkk
    obtain ⟨x, t, rfl, hx, h0⟩ := hi v hv
    have R₃ := R.keep hkk
    refine wpAny_tests_one ?_
    refine isTrue_or ?_
    refine wpAny_isTrue_Compare1 ?_
    refine Subscript_ ?_
    refine nmL hn hm ?_ hk (k1 C)
    refine wpAny_Slice ?_
    refine evalPart_none_step ?_
    refine evalPart_some_step ?_
    refine wpAny_Constant_int ?_
    refine evalPart_none_step ?_
    have hsl : (Txt.slice x none (some 1)).cps.toList = [kc] := by
      have := eq_of_beq (slice_closes_to (x := x) (j := 1) ⟨by decide, by simp [hx]⟩)
      rw [this]
      have h1 : x.cps.toList[0]? = some kc := by simpa using h0
      cases hq : x.cps.toList with
      | nil => rw [hq] at h1; cases h1
      | cons y ys => rw [hq] at h1; simp at h1; simp [h1]
    refine tail_of_ItemOn (ops := [.ref s₃.heap.objs.size, .str x t]) (SBH.sliceItem_ns (s := { s₃ with toks := _ }) (P := fun h' => ∀ b o, s₃.heap.get? b = some o → h'.get? b = some o) (fun h' ob k b o e => Heap.get?_push_of_some _ (k b o e)) (fun _ _ e => e) ?_ (by rw [sizeLine_eq]; show x.cps.size ≤ _; omega)) (by with_unfolding_all rfl) (by intro _; with_unfolding_all rfl)
    intro h₄ t₄ k₄ hk₄
    refine nmC (s := { s₃ with heap := h₄, toks := _ }) hc (hcv.keeps fun b o e => hk₄ b o (hkk b o e)) ?_ hk (k2 C)
    refine PySem.P.ne_str ?_
    rw [hsl]
    refine wpAny_truthy_bool ?_
    rw [show (([kc] : List Nat) != (⟨#[kc]⟩ : Str).cps.toList) = false from by simp]
    rw [if_neg (by decide)]
    refine isTrue_or ?_
    refine wpAny_isTrue_Compare1 ?_
    have R₄ := R₃.keep hk₄
    refine Call_ (nmB (s := { s₃ with heap := h₄, toks := _ }) R₄.k R₄.top (by k_is) PySem.boot_len ?_ (by decide) hk (k3 C) hg hb)
    refine PyProof.Rows.callWith_builtin1 ?_
    refine args_cons (nmL (s := { s₃ with heap := h₄, toks := _ }) (hn.keeps hk₄) hm ?_ hk (k1 C))
    refine args_nil ?_
    refine PySem.P.len_str (by show ¬ ((x.cps.size : Nat) : Int) ≥ 2 ^ 63; omega) ?_
    refine wpAny_Constant_int ?_
    refine PyProof.Rows.ne_int ?_
    refine wpAny_truthy_bool ?_
    rw [show (((x.length : Nat) : Int) != 10) = false from by show (((x.cps.size : Nat) : Int) != 10) = false; rw [hx]; rfl]
    rw [if_neg (by decide)]
    exact isTrue_or_nil ⟨rfl, h₄, _, rfl, hk₄⟩
  elt := by
    intro C v s₃ m₃ E' hv hp
    cases hp
end
end Mine
end

section
open PySem PySem.W PyProof.Rows PySem.Spec PySem.Calls
set_option Elab.async false
set_option maxRecDepth 100000
set_option maxHeartbeats 1000000
namespace Mine
theorem Rdy.mk0 {w : World} {mean : ExcName → Option Value} {mg mb : Str → Option Value} {A : Around} {base h₀ h : Heap} {e' : Env} {L : Addr} {m : Str → Option Value}
    (hh : A.handled = none) (B : Below A base [] h₀) (X : (hd.heap_39 w.params).In h₀) (T : Top hd.view_39 LS mean mg mb h₀) (F : Fr h₀ L h m) (hfr : e'.frame = some L) (hk : e'.scope.kind = .function) :
    Rdy w mean mg mb (A.deeper e') base e' [] h := ⟨hh, Around.frames_deeper B.stack, pushX B F hfr hk, X.keeps F.keep, T.keeps F.keep⟩
theorem ints_mem : ∀ {vs : List Value} {ns : List Nat}, IntsAre vs (zs ns) → ∀ v ∈ vs, ∃ n ∈ ns, ∃ t : Tok, v = .int (n : Int) t
  | [], _, _, v, h => nomatch h
  | u :: vs, [], hi, v, h => nomatch hi
  | u :: vs, n :: ns, hi, v, h => by
    cases hi with
    | cons _ t hi' =>
      rcases List.mem_cons.mp h with q | h
      · exact ⟨n, .head _, t, q⟩
      · obtain ⟨k, hk, e⟩ := ints_mem hi' v h
        exact ⟨k, .tail _ hk, e⟩
theorem ints_num : ∀ {vs : List Value} {ns : List Int}, IntsAre vs ns → ∀ v ∈ vs, ∃ n ∈ ns, ∃ t : Tok, v = .int n t
  | [], _, _, v, h => nomatch h
  | u :: vs, [], hi, v, h => nomatch hi
  | u :: vs, n :: ns, hi, v, h => by
    cases hi with
    | cons _ t hi' =>
      rcases List.mem_cons.mp h with q | h
      · exact ⟨n, .head _, t, q⟩
      · obtain ⟨k, hk, e⟩ := ints_num hi' v h
        exact ⟨k, .tail _ hk, e⟩
theorem strs_mem : ∀ {vs : List Value} {ns : List Str}, StrsAre vs ns → ∀ v ∈ vs, ∃ n ∈ ns, ∃ t : Tok, v = .str n t
  | [], _, _, v, h => nomatch h
  | u :: vs, [], hi, v, h => nomatch hi
  | u :: vs, n :: ns, hi, v, h => by
    cases hi with
    | cons _ t hi' =>
      rcases List.mem_cons.mp h with q | h
      · exact ⟨n, .head _, t, q⟩
      · obtain ⟨k, hk, e⟩ := strs_mem hi' v h
        exact ⟨k, .tail _ hk, e⟩
theorem paired_fm : ∀ {vs ys : List Value} {ns : List Nat}, IntsAre vs (zs ns) → Paired (fun v y => ∃ (n : Nat) (t t' : Tok), v = .int (n : Int) t ∧ y = .str (fm n) t') vs ys → StrsAre ys (ns.map fm)
  | [], _, [], _, .nil => .nil
  | u :: vs, _, [], hi, _ => nomatch hi
  | [], _, n :: ns, hi, _ => nomatch hi
  | u :: vs, y :: ys, n :: ns, hi, .cons h hp => by
    cases hi with
    | cons _ t hi' =>
      obtain ⟨k, t1, t2, e1, e2⟩ := h
      have : k = n := by
        have := e1
        simp at this
        omega
      subst this
      rw [e2]
      exact .cons _ _ (paired_fm hi' hp)
theorem paired_worth : ∀ {vs ys : List Value} {ns : List Str}, StrsAre vs ns → Paired (fun v y => ∃ (x : Str) (t t' : Tok), v = .str x t ∧ y = .int (worthN x : Int) t') vs ys → IntsAre ys (ns.map fun x => (worthN x : Int))
  | [], _, [], _, .nil => .nil
  | u :: vs, _, [], hi, _ => nomatch hi
  | [], _, n :: ns, hi, _ => nomatch hi
  | u :: vs, y :: ys, n :: ns, hi, .cons h hp => by
    cases hi with
    | cons _ t hi' =>
      obtain ⟨k, t1, t2, e1, e2⟩ := h
      have : k = n := by
        injection e1 with e1 _
        exact e1.symm
      subst this
      rw [e2]
      exact .cons _ _ (paired_worth hi' hp)
theorem paired_self {ws : List Int} : ∀ {vs ys : List Value} {ns : List Int}, IntsAre vs ns → Paired (fun v y => y = v) (vs.filter (fun v => match v with | .int n _ => !(ws.any (· == n)) | _ => false)) ys → IntsAre ys (ns.filter (fun z => !(ws.any (· == z))))
  | [], _, [], _, .nil => .nil
  | u :: vs, _, [], hi, _ => nomatch hi
  | [], _, n :: ns, hi, _ => nomatch hi
  | u :: vs, ys, n :: ns, hi, hp => by
    cases hi with
    | cons _ t hi' =>
      by_cases q : (!(ws.any (· == n))) = true
      · rw [List.filter_cons_of_pos (p := fun z => !(ws.any (· == z))) q]
        rw [List.filter_cons_of_pos (by exact q)] at hp
        cases hp with
        | cons h hp' => rw [h]; exact .cons _ _ (paired_self hi' hp')
      · rw [List.filter_cons_of_neg (p := fun z => !(ws.any (· == z))) q]
        rw [List.filter_cons_of_neg (by exact q)] at hp
        exact paired_self hi' hp
theorem filter_none {α : Type} (l : List α) : l.filter (fun _ => false) = [] := by simp
/-- the frame and the ledger behind `y = [...]` -/
theorem afterA {h₀ h h' : Heap} {L D : Addr} {m m' : Str → Option Value} {news : List (Addr × Obj)} {ys : Array Value} (F : Fr h₀ L h m) (N : News h₀ L h news) (hD : h.get? D = none) (hl : h'.PlainList D ys) (hn : h'.Ns L m') (hk : ∀ b o, b ≠ L → h.get? b = some o → h'.get? b = some o) :
    ∃ n, Fr h₀ L h' m' ∧ News h₀ L h' ((D, W.listOf ys n) :: news) := by
  obtain ⟨n, hg⟩ := hl
  refine ⟨n, ⟨hn, fun b o e => hk b o (Nat.ne_of_lt (Nat.lt_of_lt_of_le (Heap.lt_size e) F.above)) (F.keep b o e), F.above⟩, fun p hp => ?_⟩
  rcases List.mem_cons.mp hp with q | hp
  · rw [q]
    refine ⟨hg, fun q => ?_, ?_⟩
    · have q' : D = L := q
      obtain ⟨o, _, _, e, _⟩ := F.ns
      rw [q', e] at hD; cases hD
    · cases e : h₀.get? D with
      | none => rfl
      | some o => rw [F.keep D o e] at hD; cases hD
  · obtain ⟨h1, h2, h3⟩ := N p hp
    exact ⟨hk _ _ h2 h1, h2, h3⟩
/-- the same behind an expression -/
theorem afterE {h₀ h h' : Heap} {L D : Addr} {m : Str → Option Value} {news : List (Addr × Obj)} {ys : Array Value} (F : Fr h₀ L h m) (N : News h₀ L h news) (hD : h.get? D = none) (hl : h'.PlainList D ys) (hk : ∀ b o, h.get? b = some o → h'.get? b = some o) :
    ∃ n, Fr h₀ L h' m ∧ News h₀ L h' ((D, W.listOf ys n) :: news) := afterA F N hD hl (F.ns.keeps hk) fun b o _ e => hk b o e
end Mine
end

section
open PySem PySem.W PyProof.Rows PySem.Spec PySem.Calls
set_option Elab.async false
set_option maxRecDepth 100000
set_option maxHeartbeats 1000000
namespace Mine
section
variable {prog : Program} {w : World} {A : Around} {E : Value → Shared → Prop} {s : Shared} {env : Env} {scope : Scope} {cl : List (Str × Addr)} {x y : Str} {ifs : List Expr} {elt iter : Expr} {px py pos spos : Pos}
theorem assignList {Q : Flow → Shared → Prop} (p : Value → Bool) (F : Value → Value → Prop)
    (hsw : swapsWith (.ListComp elt [⟨.Name x px, iter, ifs, 0⟩] scope pos) (some (.Name y py)) spos.line env = pure true)
    (hclos : closureFor scope env = pure cl) (hcell : ∀ z ∈ scope.names, z.2 ≠ .cell) (hkind : scope.kind = .function)
    (hnames : ∀ z ∈ scope.names, z.2 = .local → scope.names.lookup z.1 = some .local) (hx : scope.names.lookup x = some .local)
    (hy : env.kindOf y = some .local) (hp : (env.scope.kind == .class || (env.scope.kind == .module && env.locals != env.globals)) = false) (hh : A.handled = none)
    (h : wpAny (model prog w) A (eval iter env) (fun xv s₁ => Stop (∃ l items m, xv = .ref l ∧ s₁.heap.IsList l items ∧ s₁.heap.Ns env.locals m ∧ items.size ≤ sizeLine ∧ Leaf prog w A env scope cl x ifs elt p F (· ∈ items) s₁.heap ∧
      (∀ D h' tk ys, s₁.heap.get? D = none → h'.PlainList D ys → Paired F (items.toList.filter p) ys.toList → h'.Ns env.locals (fun z => if z = y then some (.ref D) else m z) → (∀ b o, b ≠ env.locals → s₁.heap.get? b = some o → h'.get? b = some o) → Q .next { s₁ with heap := h', toks := tk }))) E s)
    (hs : ∀ x, foldedSetIterable iter env x = pure x := by intro _; rfl) :
    wpAny (model prog w) A (exec (.Assign [.Name y py] (.ListComp elt [⟨.Name x px, iter, ifs, 0⟩] scope pos) spos) env) Q E s :=
  wpAny_Assign_ListComp_free p F hsw hclos hcell hkind hnames hx hy hp (wpAny_mono h (fun xv s₁ h₁ => by
    obtain ⟨l, items, m, rfl, hl, hn, hsz, lf, hQ⟩ := h₁
    exact overListA hh hl hn hsz lf hQ) fun _ _ e => e) hs
theorem assignRange {Q : Flow → Shared → Prop} (p : Value → Bool) (F : Value → Value → Prop)
    (hsw : swapsWith (.ListComp elt [⟨.Name x px, iter, ifs, 0⟩] scope pos) (some (.Name y py)) spos.line env = pure true)
    (hclos : closureFor scope env = pure cl) (hcell : ∀ z ∈ scope.names, z.2 ≠ .cell) (hkind : scope.kind = .function)
    (hnames : ∀ z ∈ scope.names, z.2 = .local → scope.names.lookup z.1 = some .local) (hx : scope.names.lookup x = some .local)
    (hy : env.kindOf y = some .local) (hp : (env.scope.kind == .class || (env.scope.kind == .module && env.locals != env.globals)) = false) (hh : A.handled = none)
    (h : wpAny (model prog w) A (eval iter env) (fun xv s₁ => Stop (∃ (l : Addr) (N : Nat) (t u v : Tok) (m : Str → Option Value), xv = .ref l ∧ IsRange s₁.heap l 0 (N : Int) 1 t u v ∧ N < 2 ^ 16 ∧ s₁.heap.Ns env.locals m ∧ Leaf prog w A env scope cl x ifs elt p F (fun v => ∃ (i : Nat) (t : Tok), i < N ∧ v = .int (i : Int) t) s₁.heap ∧
      (∀ D h' tk ys (vs : List Value), s₁.heap.get? D = none → h'.PlainList D ys → IntsAre vs ((List.range N).map Int.ofNat) → Paired F (vs.filter p) ys.toList → h'.Ns env.locals (fun z => if z = y then some (.ref D) else m z) → (∀ b o, b ≠ env.locals → s₁.heap.get? b = some o → h'.get? b = some o) → Q .next { s₁ with heap := h', toks := tk }))) E s)
    (hs : ∀ x, foldedSetIterable iter env x = pure x := by intro _; rfl) :
    wpAny (model prog w) A (exec (.Assign [.Name y py] (.ListComp elt [⟨.Name x px, iter, ifs, 0⟩] scope pos) spos) env) Q E s :=
  wpAny_Assign_ListComp_free p F hsw hclos hcell hkind hnames hx hy hp (wpAny_mono h (fun xv s₁ h₁ => by
    obtain ⟨l, N, t, u, v, m, rfl, hr, hN, hn, lf, hQ⟩ := h₁
    exact overRangeA hh hr hN hn lf hQ) fun _ _ e => e) hs
theorem evalList {Q : Value → Shared → Prop} (p : Value → Bool) (F : Value → Value → Prop)
    (hclos : closureFor scope env = pure cl) (hcell : ∀ z ∈ scope.names, z.2 ≠ .cell) (hkind : scope.kind = .function)
    (hnames : ∀ z ∈ scope.names, z.2 = .local → scope.names.lookup z.1 = some .local) (hx : scope.names.lookup x = some .local) (hh : A.handled = none)
    (h : wpAny (model prog w) A (eval iter env) (fun xv s₁ => Stop (∃ l items, xv = .ref l ∧ s₁.heap.IsList l items ∧ items.size ≤ sizeLine ∧ Leaf prog w A env scope cl x ifs elt p F (· ∈ items) s₁.heap ∧
      (∀ D h' tk ys, s₁.heap.get? D = none → h'.PlainList D ys → Paired F (items.toList.filter p) ys.toList → (∀ b o, s₁.heap.get? b = some o → h'.get? b = some o) → Q (.ref D) { s₁ with heap := h', toks := tk }))) E s)
    (hs : ∀ x, foldedSetIterable iter env x = pure x := by intro _; rfl) :
    wpAny (model prog w) A (eval (.ListComp elt [⟨.Name x px, iter, ifs, 0⟩] scope pos) env) Q E s :=
  wpAny_ListComp_free p F hclos hcell hkind hnames hx (wpAny_mono h (fun xv s₁ h₁ => by
    obtain ⟨l, items, rfl, hl, hsz, lf, hQ⟩ := h₁
    exact overList hh hl hsz lf hQ) fun _ _ e => e) hs
end
end Mine
end

section
open PySem PySem.W PyProof.Rows PySem.Spec PySem.Calls
open PySem.SeqAt
set_option Elab.async false
set_option maxRecDepth 100000
set_option maxHeartbeats 1000000
namespace Mine
section
variable {A : Around} {s : Shared}
theorem eqAt_lists {a b : Addr} {vs ws : List Value} {ns : List Int} (ha : s.heap.IsList a vs.toArray) (hb : s.heap.IsList b ws.toArray) (hi : IntsAre vs ns) (hj : IntsAre ws ns) (hu : A.units < cLine) : EqAt A s (.ref a) (.ref b) true := by
  by_cases hne : a = b
  · subst hne; exact EqAt.same _
  · refine EqAt.of_refs hne ?_
    have e1 := hi.length
    have e2 := hj.length
    have h := RcAt.lists (A := A) (e := fun _ => true) ha hb (by simp; omega) hu (fun j h1 h2 => by
      have h1' : j < vs.length := by simpa using h1
      have h2' : j < ws.length := by simpa using h2
      have hn : j < ns.length := by omega
      obtain ⟨t, ht⟩ := hi.get j ns[j] (by simp [hn])
      obtain ⟨u, hu'⟩ := hj.get j ns[j] (by simp [hn])
      have q1 : vs.toArray[j] = .int ns[j] t := by
        rw [List.getElem?_eq_getElem h1'] at ht; simpa using ht
      have q2 : ws.toArray[j] = .int ns[j] u := by
        rw [List.getElem?_eq_getElem h2'] at hu'; simpa using hu'
      rw [q1, q2]
      have := EqAt.int_int (A := A.in1) (s := s) ns[j] t ns[j] u
      rw [beq_self_eq_true] at this
      exact this)
    rw [show (List.range vs.toArray.size).all (fun _ => true) = true from by simp] at h
    exact h
theorem ne_pair {prog : Program} {w : World} {E Q : Value → Shared → Prop} {R R2 a1 a2 b1 b2 : Addr} (h1 : s.heap.IsTuple R #[.ref a1, .ref a2]) (h2 : s.heap.IsTuple R2 #[.ref b1, .ref b2])
    (e1 : EqAt A.in1 s (.ref a1) (.ref b1) true) (e2 : EqAt A.in1 s (.ref a2) (.ref b2) true) (hu : A.units < cLine) (h : Q (.bool false) s) : wpAny (model prog w) A (compareOp .NotEq (.ref R) (.ref R2)) Q E s := by
  have := RcNeAt.tuples (A := A) (e := fun _ => true) h1 h2 hu (fun j q1 q2 => by
    have q1' : j < 2 := q1
    rcases j with _ | _ | j
    · exact e1
    · exact e2
    · omega)
  exact this prog w E Q h
end
end Mine
end

section
open PySem PySem.W PyProof.Rows PySem.Spec PySem.Calls
set_option Elab.async false
set_option maxRecDepth 100000
set_option maxHeartbeats 4000000
namespace Mine
theorem unstop {p : Prop} (h : p) : Stop p := h
theorem cd2 (e : Env) : (callerA.deeper e).depth + 2 < recursionLimit := by show callerA.depth + 1 + 2 < _; decide
theorem cu2 (e : Env) : (callerA.deeper e).units + 16 < cLine := by show callerA.units + 3 + 16 < _; decide
theorem ifmt_eq {a : Nat} (h : a < 65536) : Builtin.bitAnd (a : Int) 61440 = (a : Int) / 4096 * 2 ^ (12 : Int).toNat := by
  rw [show (61440 : Int) = ((61440 : Nat) : Int) from rfl, bitAnd_nat, and_kind h]
  push_cast
  rfl
theorem all_good {a kc : Nat} {ys : Array Value} {t : Tok} (ha : a < 65536) (hkc : (Str.ofString "?pc?d?b?-?l?s???").cps[((a : Int) / 4096).toNat]? = some kc) (hrows : StrsAre ys.toList ((turnedN a).map fm)) :
    ∀ v ∈ (ys.toList ++ [Value.str (fm a) t]).toArray, ∃ (x : Str) (t : Tok), v = .str x t ∧ x.cps.size = 10 ∧ x.cps[0]? = some kc := by
  intro v hv
  rw [show ((a : Int) / 4096).toNat = a / 4096 from by omega] at hkc
  have hv' : v ∈ ys.toList ++ [Value.str (fm a) t] := by simpa using hv
  rcases List.mem_append.mp hv' with h | h
  · obtain ⟨x, hx, t, e⟩ := strs_mem hrows v h
    obtain ⟨b, hb, e2⟩ := List.mem_map.mp hx
    have hk := turned_kind hb
    exact ⟨x, t, e, by rw [← e2]; exact fm_size b, by rw [← e2]; exact fm_kind (by omega) (by rw [hk]; exact hkc)⟩
  · exact ⟨_, _, List.mem_singleton.mp h, fm_size a, fm_kind ha hkc⟩
theorem t2_len' (a y : Nat) : (t2 a y 4).length ≤ 10 * y := by
  have h : ∀ k, (if a &&& coin y (k + 1) ≠ 0 then t3 a y (k + 1) y else []).length ≤ y * (k + 1) := fun k => by
    split
    · rw [t3_len]; exact Nat.le_refl _
    · exact Nat.zero_le _
  have h0 := h 0
  have h1 := h 1
  have h2 := h 2
  have h3 := h 3
  rw [t2_succ, t2_succ, t2_succ, t2_succ, show t2 a y 0 = [] from rfl]
  simp only [List.length_append, List.length_nil]
  omega
theorem turned_len (a : Nat) : (turnedN a).length ≤ 60 := by
  have h1 := t2_len' a 1
  have h2 := t2_len' a 2
  have h3 := t2_len' a 3
  have e : turnedN a = t2 a 1 4 ++ (t2 a 2 4 ++ t2 a 3 4) := by simp [turnedN, t1, List.range_succ]
  rw [e]
  simp only [List.length_append]
  omega
theorem cutN {h₀ h : Heap} {L : Addr} {x y : Addr × Obj} {l : List (Addr × Obj)} (N : News h₀ L h (x :: y :: l)) : News h₀ L h (x :: l) := fun q hq => N q (by
  rcases List.mem_cons.mp hq with e | hq
  · rw [e]; exact .head _
  · exact .tail _ (.tail _ hq))
theorem cutL {W : Addr} {y : Addr × Obj} {l : List (Addr × Obj)} (h : ∀ q ∈ y :: l, q.1 < W) : ∀ q ∈ l, q.1 < W := fun q hq => h q (.tail _ hq)
theorem worths_facts {a : Nat} {ws ws0 : List Int} (hws0 : ws0 = ((turnedN a).map fm).map fun x => (worthN x : Int)) (hperm : ws.Perm ws0) :
    (∀ y ∈ ws, 0 ≤ y ∧ y < 16) ∧ ∃ rest, dueN ws = (worthN (fm a) : Int) :: rest := by
  have hm : ∀ y, y ∈ ws ↔ ∃ b ∈ turnedN a, (worthN (fm b) : Int) = y := by
    intro y
    rw [hperm.mem_iff, hws0]
    simp only [List.mem_map, List.map_map, Function.comp]
  refine ⟨fun y hy => ?_, due_head (fun v hv => ?_) (fun h => ?_) (Nat.lt_trans (worth_lt a) (by decide))⟩
  · obtain ⟨b, _, e⟩ := (hm y).mp hy
    have := worth_lt b
    omega
  · obtain ⟨b, hb, e⟩ := mex_in hv
    exact (hm _).mpr ⟨b, hb, by rw [e]⟩
  · obtain ⟨b, hb, e⟩ := (hm _).mp h
    exact turned_ne hb (by omega)
theorem list_ne {h : Heap} {l L : Addr} {ys : Array Value} {m : Str → Option Value} (hl : h.IsList l ys) (hn : h.Ns L m) : l ≠ L := by
  intro q
  obtain ⟨o, h1, h2, n, h3⟩ := hl
  obtain ⟨o', es, ep, h4, h5, _⟩ := hn
  rw [q, h4] at h1
  obtain rfl := Option.some.inj h1
  rw [h5] at h3
  cases h3
theorem cd4 (e : Env) : (callerA.deeper e).depth + 4 < recursionLimit := by show callerA.depth + 1 + 4 < _; decide
theorem cu100 (e : Env) : (callerA.deeper e).units + 100 < cLine := by show callerA.units + 3 + 100 < _; decide
theorem cu0 (e : Env) : (callerA.deeper e).units < cLine := Nat.lt_of_le_of_lt (Nat.le_add_right _ 100) (cu100 e)
theorem cuin (e : Env) : (callerA.deeper e).in1.units < cLine := by
  have := cu100 e
  show _ + _ < _
  omega
theorem tupN {h₀ h : Heap} {L R : Addr} {its : Array Value} {news : List (Addr × Obj)} (N : News h₀ L h news) (hm : (R, { cls := .type "tuple", data := .seq its }) ∈ news) : h.IsTuple R its := ⟨_, (N _ hm).1, rfl, _, rfl⟩
theorem prods_of {h : Heap} {P r0 r1 r2 r3 : Addr} {a0 a1 a2 a3 a4 b0 b1 b2 b3 b4 c0 c1 c2 c3 c4 d0 d1 d2 d3 d4 : Tok} (hP : h.IsList P #[.ref r0, .ref r1, .ref r2, .ref r3]) (h0 : h.IsList r0 #[.int 0 a0, .int 0 a1, .int 0 a2, .int 0 a3, .int 0 a4])
    (h1 : h.IsList r1 #[.int 0 b0, .int 1 b1, .int 2 b2, .int 3 b3, .int 4 b4]) (h2 : h.IsList r2 #[.int 0 c0, .int 2 c1, .int 3 c2, .int 1 c3, .int 8 c4]) (h3 : h.IsList r3 #[.int 0 d0, .int 3 d1, .int 1 d2, .int 2 d3, .int 12 d4]) : Prods h P := by
  refine ⟨fun n => match n with | 0 => r0 | 1 => r1 | 2 => r2 | _ => r3, hP, ?_⟩
  intro y hy
  rcases y with _ | _ | _ | _ | y
  · refine ⟨_, h0, fun j hj => ?_⟩
    rcases j with _ | _ | _ | _ | _ | j
    all_goals first | exact ⟨_, rfl⟩ | omega
  · refine ⟨_, h1, fun j hj => ?_⟩
    rcases j with _ | _ | _ | _ | _ | j
    all_goals first | exact ⟨_, rfl⟩ | omega
  · refine ⟨_, h2, fun j hj => ?_⟩
    rcases j with _ | _ | _ | _ | _ | j
    all_goals first | exact ⟨_, rfl⟩ | omega
  · refine ⟨_, h3, fun j hj => ?_⟩
    rcases j with _ | _ | _ | _ | _ | j
    all_goals first | exact ⟨_, rfl⟩ | omega
  · omega
theorem rows_good {a : Nat} {ys : Array Value} (hrows : StrsAre ys.toList ((turnedN a).map fm)) : ∀ v ∈ ys, ∃ (x : Str) (t : Tok), v = .str x t ∧ x.cps.size = 10 := by
  intro v hv
  obtain ⟨x, hx, t, e⟩ := strs_mem hrows v (by simpa using hv)
  obtain ⟨b, hb, e2⟩ := List.mem_map.mp hx
  exact ⟨x, t, e, by rw [← e2]; exact fm_size b⟩
theorem nil_of {F : Value → Value → Prop} {ys : Array Value} (h : Paired F [] ys.toList) : ys = #[] := by
  cases hq : ys.toList with
  | nil => exact Array.toList_eq_nil_iff.mp hq
  | cons y l => rw [hq] at h; cases h
local macro_rules | `(tactic| walk_at "call ref") => `(tactic| (refine stop_of ?_))
local macro_rules | `(tactic| walk_at "subscriptTail") => `(tactic| (refine stop_of ?_))
local macro_rules | `(tactic| walk_at "exec Assign cons ListComp") => `(tactic| (refine stop_of ?_))
local macro_rules | `(tactic| walk_at "call builtin:sorted") => `(tactic| (refine stop_of ?_))
local macro_rules | `(tactic| walk_at "call type:range") => `(tactic| (k_dflt (refine range_new (by k_asm) (by k_asm) ?_); intro r' h' tk' t' u' v' F' N' R'))
local macro_rules | `(tactic| walk_at "compareOp NotEq ref ref") => `(tactic| ((have hx' := (by assumption : sld _ _ _ = (dueN _, []))); clear hx'; (refine stop_of ?_)))
local macro_rules | `(tactic| walk_at "eval ListComp") => `(tactic| (refine stop_of ?_))
theorem lawtry : PySem.Challenge.rw_oy0078_01.Holds := hd (by
  k_go0
  all_goals try k_fold
  dsimp only
  k_steps
  refine unstop ?_
  rename Below callerA _ _ _ => B
  rename (hd.heap_39 _).In _ => KX
  rename Top _ _ _ _ _ _ => T
  rename IntsAre _ _ => hI
  rename Heap.IsList _ _ _ => hL
  rename Fr _ _ _ _ => F
  rename News _ _ _ _ => N
  refine useC0 (mode_ctr _ _ _ _ _ _ _ hI (by omega)) rfl B KX T F N rfl rfl (by decide) (by decide) (hL.at fun o e => F.keep _ o e) ?_
  intro r h2 tk2 F2 N2 kp hp
  obtain ⟨a, ta, ha, hr⟩ := hp
  subst hr
  clear kp N F
  k_steps
  refine unstop ?_
  rename Fr _ _ _ _ => F
  rename News _ _ _ _ => N
  refine useC0 (rshift_ctr _ _ _ _ _ _ _ (by omega) (by omega)) rfl B KX T F N rfl rfl (by decide) (by decide) trivial ?_
  intro r h3 tk3 F3 N3 kp hp
  obtain ⟨t3, hr⟩ := hp
  subst hr
  clear kp N F
  k_steps
  refine unstop ?_
  obtain ⟨kc, hkc⟩ : ∃ c, (Str.ofString "?pc?d?b?-?l?s???").cps[((a : Int) / 4096).toNat]? = some c := by
    have : ((a : Int) / 4096).toNat < (Str.ofString "?pc?d?b?-?l?s???").cps.size := by
      have : (Str.ofString "?pc?d?b?-?l?s???").cps.size = 16 := by decide
      omega
    exact ⟨_, Array.getElem?_eq_getElem this⟩
  refine item_txt (by omega) (by omega) hkc ?_
  intro t4
  k_steps
  refine unstop ?_
  rename Fr _ _ _ _ => F
  rename News _ _ _ _ => N
  refine useC0 (fm_ctr _ _ _ _ _ _) rfl B KX T F N rfl rfl (by decide) (by decide) trivial ?_
  intro r h5 tk5 F5 N5 kp hp
  obtain ⟨t5, hr⟩ := hp
  subst hr
  clear kp N F
  k_steps
  refine unstop ?_
  rename Fr _ _ _ _ => F
  rename News _ _ _ _ => N
  refine assignList (fun _ => true) (fun v y => ∃ (n : Nat) (t t' : Tok), v = .int (n : Int) t ∧ y = .str (fm n) t') rfl rfl (by decide) rfl (by decide) rfl rfl rfl rfl ?_
  k_steps
  refine unstop ?_
  refine useC0 (turned_ctr _ _ _ _ _ _) rfl B KX T F N rfl rfl (by decide) (by decide) trivial ?_
  intro r h6 tk6 F6 N6 kp hp
  obtain ⟨P, vs, hr, _, hPl, hPi⟩ := hp
  subst hr
  clear kp N F
  have hvs : vs.size ≤ sizeLine := by
    have h1 : vs.size = (turnedN a).length := ints_size hPi
    have h2 := t1_len a 3 (by decide)
    rw [sizeLine_eq, h1]; unfold turnedN; omega
  refine unstop ?_
  refine ⟨P, vs, _, rfl, hPl, F6.ns, hvs, leaf_fm (Rdy.mk0 rfl B KX T F6 rfl rfl) (cd2 _) (cu2 _) rfl rfl (fun _ => rfl) (fun _ => rfl) (fun v hv => by obtain ⟨n, _, t, e⟩ := ints_mem hPi v (by simpa using hv); exact ⟨n, t, e⟩), ?_⟩
  intro D h7 tk7 ys hDn hDl hpair hNs hk7
  obtain ⟨nD, F7, N7⟩ := afterA F6 N6 hDn hDl hNs hk7
  rw [PySem.W.filter_all] at hpair
  have hrows := paired_fm hPi hpair
  clear hpair hNs hk7 hDl hDn F6 N6 hPl hvs
  k_steps
  refine unstop ?_
  refine useC0 (ifmt_ctr _ _ _ _ _ _) rfl B KX T F7 N7 rfl rfl (by decide) (by decide) trivial ?_
  intro r h8 tk8 F8 N8 kp hp
  obtain ⟨t8, hr⟩ := hp
  subst hr
  clear kp F7 N7
  rw [ifmt_eq ha]
  k_steps
  refine unstop ?_
  refine useC0 (rshift_ctr _ _ _ _ _ _ _ (by omega) (by omega)) rfl B KX T F8 N8 rfl rfl (by decide) (by decide) trivial ?_
  intro r h9 tk9 F9 N9 kp hp
  obtain ⟨t9, hr⟩ := hp
  subst hr
  clear kp F8 N8
  k_steps
  refine unstop ?_
  refine useC0 (lshift_ctr _ _ _ _ _ _ _ _ (by omega) (by omega) (by decide) (by decide)) rfl B KX T F9 N9 rfl rfl (by decide) (by decide) trivial ?_
  intro r h10 tk10 F10 N10 kp hp
  obtain ⟨t10, hr⟩ := hp
  subst hr
  clear kp F9 N9
  k_steps
  refine unstop ?_
  refine evalList (fun _ => false) (fun _ _ => True) rfl (by decide) rfl (by decide) rfl rfl ?_
  k_steps
  rename Fr _ _ _ _ => F
  rename News _ _ _ _ => N
  have hlen := t1_len a 3 (by decide)
  have hyl : ys.toList.length = (turnedN a).length := by have := hrows.length; simpa using this
  unfold turnedN at hyl
  rename (Obj.data _ = Data.cell (some (Value.str _ t4))) => dk
  refine kmk_add_lit F N (N.isList (.tail _ (.head _))) (N.isList (.head _)) rfl ?_ ?_
  case refine_2 => rw [sizeLine_eq]; simp only [List.length_cons, List.length_nil]; omega
  intro S h11 F11 N11 lS
  refine unstop ?_
  refine ⟨S, _, rfl, N11.isList (.head _), ?_, leaf_bad (Rdy.mk0 rfl B KX T F11 rfl rfl) rfl rfl rfl (fun _ => rfl) (fun _ => rfl) (fun _ => rfl) rfl ⟨_, News.get N11 (by k_mem), dk⟩ ?_, ?_⟩
  · rw [sizeLine_eq]; simp only [List.size_toArray, List.length_append, List.length_cons, List.length_nil]; omega
  · exact all_good ha hkc hrows
  intro D2 h12 tk12 ys2 hDn hDl hpair hk12
  obtain ⟨n2, F12, N12⟩ := afterE F11 N11 hDn hDl hk12
  rw [filter_none] at hpair
  have hy2 := nil_of hpair
  subst hy2
  clear hpair hk12 hDl hDn F11 N11 F N
  k_steps
  refine unstop ?_
  refine evalList (fun _ => true) (fun v y => ∃ (x : Str) (t t' : Tok), v = .str x t ∧ y = .int (worthN x : Int) t') rfl (by decide) rfl (by decide) rfl rfl ?_
  k_steps
  rename Fr _ _ _ _ => F
  rename News _ _ _ _ => N
  rename (Obj.data _ = Data.cell (some (Value.ref _))) => dp
  have hPr := prods_of (N.isList (by repeat (first | exact List.Mem.head _ | refine List.Mem.tail _ ?_))) (N.isList (by repeat (first | exact List.Mem.head _ | refine List.Mem.tail _ ?_))) (N.isList (by repeat (first | exact List.Mem.head _ | refine List.Mem.tail _ ?_))) (N.isList (by repeat (first | exact List.Mem.head _ | refine List.Mem.tail _ ?_))) (N.isList (by repeat (first | exact List.Mem.head _ | refine List.Mem.tail _ ?_)))
  refine unstop ?_
  refine ⟨D, ys, rfl, N.isList (by repeat (first | exact List.Mem.head _ | refine List.Mem.tail _ ?_)), ?_, leaf_worth (Rdy.mk0 rfl B KX T F rfl rfl) (cd2 _) (cu2 _) rfl rfl (fun _ => rfl) (fun _ => rfl) (fun _ => rfl) rfl ⟨_, News.get N (by k_mem), dp⟩ hPr (rows_good hrows), ?_⟩
  · rw [sizeLine_eq]; rw [Array.length_toList] at hyl; omega
  intro D3 h13 tk13 wy hDn hDl hpair hk13
  rw [PySem.W.filter_all] at hpair
  have hw := paired_worth hrows hpair
  rw [show wy = wy.toList.toArray from by simp] at hDl
  generalize wy.toList = wl at hDl hw
  obtain ⟨n3, F13, N13⟩ := afterE F N hDn hDl hk13
  obtain ⟨ws0, hws0⟩ : ∃ ws, ws = ((turnedN a).map fm).map fun x => (worthN x : Int) := ⟨_, rfl⟩
  rw [← hws0] at hw
  have hwlen : ws0.length ≤ 60 := by rw [hws0, List.length_map, List.length_map]; exact turned_len a
  clear hpair hk13 hDl hDn F N hPr
  k_steps
  refine unstop ?_
  refine kso_sorted F13 N13 (N13.isList (.head _)) hw (by omega) ?_
  intro W wv ws cW h14 F14 N14 lW hwi _ hperm hsrt _
  clear F13 N13
  have N15 := cutN (cutN (cutN (cutN (cutN (cutN N14)))))
  have l15 := cutL (cutL (cutL (cutL (cutL (cutL lW)))))
  clear N14 lW
  k_lt l15
  k_steps
  refine unstop ?_
  rename (Obj.data _ = Data.cell (some (Value.ref W))) => dw
  refine assignRange (fun v => match v with | .int n _ => !(ws.any (· == n)) | _ => false) (fun v y => y = v) rfl rfl (by decide) rfl (by decide) rfl rfl rfl rfl ?_
  k_steps
  refine unstop ?_
  rename Fr _ _ _ _ => F
  rename News _ _ _ _ => N
  rename IsRange _ _ _ _ _ _ _ _ => R
  refine ⟨_, 17, _, _, _, _, rfl, R, by decide, F.ns, leaf_due (Rdy.mk0 rfl B KX T F rfl rfl) rfl (fun _ => rfl) (fun _ => rfl) rfl ⟨_, News.get N (by k_mem), dw⟩ (N.isList (.head _)) hwi (fun v hv => by obtain ⟨i, t, _, e⟩ := hv; exact ⟨i, t, e⟩), ?_⟩
  intro Du h16 tk16 dy vs17 hDn hDl hv17 hpair hNs hk16
  have hdi := paired_self hv17 hpair
  rw [show dy = dy.toList.toArray from by simp] at hDl
  generalize dy.toList = dl at hDl hdi
  obtain ⟨n16, F16, N16⟩ := afterA F N hDn hDl hNs hk16
  replace hdi : IntsAre dl (dueN ws) := hdi
  obtain ⟨hwb, rest, hdue⟩ := worths_facts hws0 hperm
  have hsl1 := sld_due1 hsrt (fun y hy => ⟨(hwb y hy).1, Int.lt_trans (hwb y hy).2 (by decide)⟩)
  have hsl2 := sld_due2 hsrt (fun y hy => ⟨(hwb y hy).1, Int.lt_trans (hwb y hy).2 (by decide)⟩)
  clear hpair hNs hk16 hDl hDn hv17 F N R
  k_steps
  refine unstop ?_
  rename Fr _ _ _ _ => F
  rename News _ _ _ _ => N
  rename Heap.IsList _ _ _ => hX
  rename CarriedAll _ _ => hcX
  have hXi : IntsAre _ r17 := CarriedAll.intsOf hcX
  have hYl := N.isList (.tail _ (.head _))
  refine sld_call rfl (Around.frames_deeper B.stack) rfl rfl F KX T hX hXi hYl hwi (list_ne hX F.ns) (list_ne hYl F.ns) ?_ (.inl ⟨16, by decide, fun y hy => (hwb y hy).2⟩) (cd4 _) (cu100 _) ?_
  · have : r17.length = 17 := rfl
    have := hperm.length_eq
    omega
  intro R Mi Un mv uv nM nU h17 tk17 F17 N17 lR lMU hmv huv
  rw [hsl1] at hmv huv
  obtain rfl : uv = [] := by cases huv; rfl
  replace N17 := N17 _ N
  clear huv hX hcX hYl F N hXi
  k_steps
  refine unstop ?_
  rename Fr _ _ _ _ => F
  rename News _ _ _ _ => N
  refine ne_pair (tupN N (by repeat (first | exact List.Mem.head _ | refine List.Mem.tail _ ?_))) (tupN N (by repeat (first | exact List.Mem.head _ | refine List.Mem.tail _ ?_))) (eqAt_lists (vs := mv) (ws := dl) (N.isList (by repeat (first | exact List.Mem.head _ | refine List.Mem.tail _ ?_))) (N.isList (by repeat (first | exact List.Mem.head _ | refine List.Mem.tail _ ?_))) hmv hdi (cuin _)) (eqAt_lists (vs := []) (ws := []) (N.isList (by repeat (first | exact List.Mem.head _ | refine List.Mem.tail _ ?_))) (N.isList (by repeat (first | exact List.Mem.head _ | refine List.Mem.tail _ ?_))) .nil .nil (cuin _)) (cu0 _) ?_
  k_steps
  refine unstop ?_
  rename Fr _ _ _ _ => F
  rename News _ _ _ _ => N
  rename Heap.IsList _ _ _ => hX
  rename CarriedAll _ _ => hcX
  have hXi : IntsAre _ r17 := CarriedAll.intsOf hcX
  have hYl : Heap.IsList _ W wv.toArray := N.isList (by repeat (first | exact List.Mem.head _ | refine List.Mem.tail _ ?_))
  refine sld_call rfl (Around.frames_deeper B.stack) rfl rfl F KX T hYl hwi hX hXi (list_ne hYl F.ns) (list_ne hX F.ns) ?_ (.inr ⟨16, by decide, fun y hy => (hwb y hy).2⟩) (cd4 _) (cu100 _) ?_
  · have : r17.length = 17 := rfl
    have := hperm.length_eq
    omega
  intro R2 Mi2 Un2 mv2 uv2 nM2 nU2 h18 tk18 F18 N18 lR2 lMU2 hmv2 huv2
  rw [hsl2] at hmv2 huv2
  obtain rfl : mv2 = [] := by cases hmv2; rfl
  replace N18 := N18 _ N
  clear hmv2 hX hcX hYl F N hXi
  k_steps
  refine unstop ?_
  rename Fr _ _ _ _ => F
  rename News _ _ _ _ => N
  refine ne_pair (tupN N (by repeat (first | exact List.Mem.head _ | refine List.Mem.tail _ ?_))) (tupN N (by repeat (first | exact List.Mem.head _ | refine List.Mem.tail _ ?_))) (eqAt_lists (vs := []) (ws := []) (N.isList (by repeat (first | exact List.Mem.head _ | refine List.Mem.tail _ ?_))) (N.isList (by repeat (first | exact List.Mem.head _ | refine List.Mem.tail _ ?_))) .nil .nil (cuin _)) (eqAt_lists (vs := uv2) (ws := dl) (N.isList (by repeat (first | exact List.Mem.head _ | refine List.Mem.tail _ ?_))) (N.isList (by repeat (first | exact List.Mem.head _ | refine List.Mem.tail _ ?_))) huv2 hdi (cuin _)) (cu0 _) ?_
  k_steps
  refine unstop ?_
  rename Fr _ _ _ _ => F
  rename News _ _ _ _ => N
  obtain ⟨t0, ht0⟩ := hdi.get 0 _ (by rw [hdue]; rfl)
  have hDl : Heap.IsList _ Du dl.toArray := N.isList (by repeat (first | exact List.Mem.head _ | refine List.Mem.tail _ ?_))
  refine item_lst (v := .int (worthN (fm a) : Int) t0) hDl (by decide) (by decide) (by simpa using ht0) ?_
  k_steps
  refine unstop ?_
  refine useC0 (worth_ctr _ _ _ _ _ (fm_size a) _ _) rfl B KX T F N rfl rfl (by decide) (by decide) (prods_of (N.isList (by repeat (first | exact List.Mem.head _ | refine List.Mem.tail _ ?_))) (N.isList (by repeat (first | exact List.Mem.head _ | refine List.Mem.tail _ ?_))) (N.isList (by repeat (first | exact List.Mem.head _ | refine List.Mem.tail _ ?_))) (N.isList (by repeat (first | exact List.Mem.head _ | refine List.Mem.tail _ ?_))) (N.isList (by repeat (first | exact List.Mem.head _ | refine List.Mem.tail _ ?_)))) ?_
  intro r h19 tk19 F19 N19 kp hp
  obtain ⟨t19, hr⟩ := hp
  subst hr
  clear kp N F hDl
  k_steps)
end Mine
end

theorem PySem.Challenge.cw_oy0078_01_holds : PySem.Challenge.rw_oy0078_01.Holds :=
  Mine.lawtry
