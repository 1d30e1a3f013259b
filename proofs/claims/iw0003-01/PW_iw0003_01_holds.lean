import PyProof.Rows.All
import Wide.All
import OpenK.AllK
import Open.Tops
import Wide.FinOn
import Lean
import PySem.Challenge.RW_iw0003_01
set_option Elab.async false
namespace Mine
section
open PySem PySem.W PyProof.Rows

/-- what may stand as the exception at hand: none, or an object whose context is none -/
noncomputable def HdOk (hd : Option Value) (h : Heap) : Prop := ∀ v, hd = some v → ∃ e ob vs, v = .ref e ∧ h.get? e = some ob ∧ ob.data = .fields vs ∧ vs[2]? = some .none
theorem HdOk.none {h : Heap} : HdOk none h := fun _ e => by cases e
theorem HdOk.keeps {hd : Option Value} {h h' : Heap} (x : HdOk hd h) (k : ∀ b o, h.get? b = some o → h'.get? b = some o) : HdOk hd h' := fun v e =>
  let ⟨a, ob, vs, e1, e2, r⟩ := x v e
  ⟨a, ob, vs, e1, k _ _ e2, r⟩

theorem entry_unchain : entryFor table "proto.unchain" = some Builtin.«proto.unchain» := entryFor_of_tree (by kernel_rfl)

section
variable {prog : Program} {w : World} {A : Around} {E : Value → Shared → Prop} {s : Shared}

theorem unchain_none {v : Value} {e : Addr} {ob : Obj} {vs : Array Value} {Q : Value → Shared → Prop} (he : s.heap.get? e = some ob) (hd : ob.data = .fields vs) (h2 : vs[2]? = some .none) (h : Q .none s) :
    wpAny (model prog w) A (runValue (.builtin "proto.unchain" ⟨[v, .ref e, .ref e, .bool false], []⟩)) Q E s := by
  refine wpAny_runValue (codeAny_builtin entry_unchain ?_)
  unfold Builtin.«proto.unchain»
  show wpAny _ _ (field (.ref e) 2 >>= _) _ _ s
  refine wpAny_bind (wpAny_field he hd h2 ?_)
  show wpAny _ _ (ret .none >>= fun r => pure r) _ _ s
  exact wpAny_bind (wpAny_pure (wpAny_pure h))

/-- the end of an iteration: StopIteration is raised and caught -/
theorem raise_stop {a : Addr} {o : Obj} {vs : Array Value} {α : Type} (hok : HdOk A.handled s.heap)
    (ha : s.heap.get? a = some o) (hc : o.cls = .type "StopIteration") (hd : o.data = .fields vs) (hsz : 2 < vs.size) (hn : ∀ e, A.handled = some (.ref e) → e ≠ a)
    (hQ : ∀ h' o', (∀ b, b ≠ a → h'.get? b = s.heap.get? b) → h'.get? a = some o' → o'.cls = .type "StopIteration" → E (.ref a) { s with heap := h' }) :
    wpAny (model prog w) A (raiseNew (α := α) (.ref a)) (fun _ _ => False) E s := by
  simp only [raiseNew]
  refine wpAny_bind (wpAny_handled ?_)
  cases hh : A.handled with
  | none =>
    refine wpAny_bind (wpAny_pure (wpAny_throw ?_))
    exact hQ s.heap o (fun _ _ => rfl) ha hc
  | some v =>
    obtain ⟨e, ob, ws, rfl, he, hed, h2⟩ := hok v hh
    have hne : ((Value.ref e) != (Value.ref a)) = true := by
      have h1 := hn e hh
      rw [bne_iff_ne]
      intro q
      cases q
      exact h1 rfl
    dsimp only
    rw [if_pos hne]
    refine wpAny_bind (wpAny_holding (unchain_none he hed h2 ?_))
    refine wpAny_bind (show wpAny _ _ (setField (.ref a) 2 (.ref e)) _ _ s from wpAny_setField ha hd hsz ?_)
    refine wpAny_throw (hQ _ _ (fun b hb => Heap.get?_update_ne _ _ _ _ hb) (Heap.get?_update_self _ ha ?_) ?_)
    · exact Obj.isFreed_of_fields (Obj.data_mapFields hd _)
    · exact (Obj.cls_mapFields ..).trans hc

theorem stop_caught {α : Type} {Q' : α → Shared → Prop} {t ex : Obj} {H : Heap} {vs : Array Value} {Q : Option Value → Shared → Prop} (hok : HdOk A.handled H) (hex : ex.cls = .type "StopIteration") (hd : ex.data = .fields vs) (hsz : 2 < vs.size)
    (hQ : ∀ h', (∀ b o, H.get? b = some o → h'.get? b = some o) → Q none { s with heap := h' }) :
    wpAny (model prog w) A.in1 (raiseNew (α := α) (.ref (H.push t).objs.size)) Q'
      (fun e s' => wpAny (model prog w) A (do
          let d ← isInstance e (.type "StopIteration")
          if d = true then pure none else throw e) Q E s') { s with heap := (H.push t).push ex } := by
  have up : ∀ b o, H.get? b = some o → ((H.push t).push ex).get? b = some o := fun b o e => Heap.get?_push_of_some _ (Heap.get?_push_of_some _ e)
  have hf : ex.isFreed = false := Obj.isFreed_of_fields hd
  have hat : ((H.push t).push ex).get? (H.push t).objs.size = some ex := Heap.get?_push_size _ hf
  refine wpAny_mono (raise_stop (s := { s with heap := (H.push t).push ex }) (E := fun e s' => wpAny (model prog w) A (do
          let d ← isInstance e (.type "StopIteration")
          if d = true then pure none else throw e) Q E s') (hok.keeps up) hat hex hd hsz (fun e he q => ?_) fun h' o' hk ho' hc' => ?_) (fun _ _ x => x.elim) fun _ _ x => x
  · obtain ⟨e', ob, ws, e1, e2, _⟩ := hok _ he
    cases e1
    have := Heap.lt_size e2
    rw [q, Heap.size_push] at this
    exact absurd (Nat.lt_succ_self _) (Nat.not_lt.mpr (Nat.le_of_lt this))
  · refine wpAny_bind (wpAny_isInstance (T := "StopIteration") (b := true) ⟨_, ho', hc'⟩ isSubtype_stop ?_)
    refine wpAny_pure (hQ _ fun b o e => (hk b fun q => ?_).trans (up b o e))
    have := Heap.lt_size e
    rw [q, Heap.size_push] at this
    exact absurd (Nat.lt_succ_self _) (Nat.not_lt.mpr (Nat.le_of_lt this))

theorem HdOk.update {hd : Option Value} {h : Heap} {a : Addr} {f : Obj → Obj} (x : HdOk hd h) (hne : ∀ e, hd = some (.ref e) → e ≠ a) : HdOk hd (h.update a f) := fun v e => by
  obtain ⟨b, ob, vs, rfl, e2, r⟩ := x v e
  exact ⟨b, ob, vs, rfl, (Heap.get?_update_ne _ _ _ _ (hne b e)).trans e2, r⟩

theorem list_end {it l : Addr} {i : Nat} {items} {Q : Option Value → Shared → Prop} (hh : HdOk A.handled s.heap) (hne : ∀ e, A.handled = some (.ref e) → e ≠ it)
    (hit : s.heap.IsListIter it l i) (hl : s.heap.IsList l items) (hx : items[i]? = none)
    (hQ : ∀ h', Heap.ExtBut it s.heap h' → Q none { s with heap := h' }) : wpAny (model prog w) A (pyNext (.ref it)) Q E s := by
  obtain ⟨o, ho, hc, hd⟩ := id hit
  obtain ⟨ol, hol, _, nl, hdl⟩ := hl
  unfold pyNext
  refine wpAny_bind (wpAny_attempt (wpAny_callSpecial?_slot (name := Str.ofString "__next__") hit.typeIs slot_listiter_next
    (wpAny_call_entry slot_listiter_next hit.typeIs entry_listiter_next ?_ (args_listiter_next _))))
  show wpAny _ _ (field (.ref it) 0 >>= _) _ _ s
  refine wpAny_bind (wpAny_field ho hd (x := .ref l) rfl ?_)
  show wpAny _ _ (if (Value.ref l == Value.none) = true then _ else _) _ _ s
  rw [if_neg (show ¬ ((Value.ref l == Value.none) = true) from Bool.false_ne_true)]
  show wpAny _ _ (field (.ref it) 1 >>= _) _ _ s
  refine wpAny_bind (wpAny_field ho hd (x := .int i 0) rfl ?_)
  show wpAny _ _ (seqItems? (.ref l) >>= _) _ _ s
  refine wpAny_bind (wpAny_seqItems hol hdl ?_)
  simp only [Int.toNat_natCast, hx]
  refine wpAny_bind (wpAny_rule (wpAny_bind (wpAny_setField ho hd (by simp) ?_)))
  show wpAny _ _ (newExc (.type "StopIteration") [] >>= _) _ _ _
  refine wpAny_bind ?_
  simp only [newExc, newTuple]
  refine wpAny_bind (wpAny_newObj_type ?_ (by size_fits))
  refine wpAny_bind (m := firstArgMember _ _) (wpAny_of_eq (a := Value.none) (by first | rfl | (simp only [firstArgMember]; rfl)) ?_)
  refine wpAny_newObj_type ?_ (by size_fits)
  refine stop_caught (H := s.heap.update it (Obj.mapFields fun x => x.setIfInBounds 0 Value.none)) (hh.update hne) rfl rfl (by simp only [Array.size_append]; exact Nat.lt_of_lt_of_le (by decide : 2 < 6) (Nat.le_add_right _ _)) fun h' hk => ?_
  exact hQ h' fun b o hb e => hk b o ((Heap.SameBut.update s.heap it (Obj.mapFields fun x => x.setIfInBounds 0 Value.none)).extBut b o hb e)

theorem range_end {it : Addr} {x left step : Int} {Q : Option Value → Shared → Prop} (hh : HdOk A.handled s.heap) (hit : IsRangeIter s.heap it x left step) (hleft : left ≤ 0)
    (hQ : ∀ h', Heap.ExtBut it s.heap h' → Q none { s with heap := h' }) : wpAny (model prog w) A (pyNext (.ref it)) Q E s := by
  have hT : s.TypeIs (.ref it) "range_iterator" := ⟨_, hit, rfl⟩
  unfold pyNext
  refine wpAny_bind (wpAny_attempt (wpAny_callSpecial?_slot (name := Str.ofString "__next__") hT F.slot_range_iterator_next
    (wpAny_call_entry F.slot_range_iterator_next hT F.entry_range_iterator_next ?_ (F.args_range_iterator_next_1 _))))
  show wpAny _ _ (field (.ref it) 0 >>= _) _ _ s
  refine wpAny_bind (wpAny_field hit rfl (x := rawInt x) rfl ?_)
  show wpAny _ _ (field (.ref it) 1 >>= _) _ _ s
  refine wpAny_bind (wpAny_field hit rfl (x := rawInt left) rfl ?_)
  show wpAny _ _ (field (.ref it) 2 >>= _) _ _ s
  refine wpAny_bind (wpAny_field hit rfl (x := rawInt step) rfl ?_)
  show wpAny _ _ (if left ≤ 0 then _ else _) _ _ s
  rw [if_pos hleft]
  refine wpAny_bind (wpAny_rule ?_)
  refine wpAny_bind ?_
  show wpAny _ _ (newExc (.type "StopIteration") [] >>= _) _ _ _
  refine wpAny_bind ?_
  simp only [newExc, newTuple]
  refine wpAny_bind (wpAny_newObj_type ?_ (by size_fits))
  refine wpAny_bind (m := firstArgMember _ _) (wpAny_of_eq (a := Value.none) (by first | rfl | (simp only [firstArgMember]; rfl)) ?_)
  refine wpAny_newObj_type ?_ (by size_fits)
  refine stop_caught (H := s.heap) (ex := { cls := .type "StopIteration", data := .fields (#[.ref s.heap.objs.size, .none, .none, .none, .bool false, .none] ++ ownMembersOf (.type "StopIteration") []) }) hh rfl rfl (by simp only [Array.size_append]; exact Nat.lt_of_lt_of_le (by decide : 2 < 6) (Nat.le_add_right _ _)) fun h' hk => ?_
  exact hQ h' fun b o _ e => hk b o e

/-- the exception's address -/
noncomputable def hdA : Option Value → List Addr
  | some (.ref e) => [e]
  | _ => []
theorem hdA_mem {hd : Option Value} {e : Addr} : e ∈ hdA hd ↔ hd = some (.ref e) := by
  cases hd with
  | none => simp [hdA]
  | some v => cases v <;> simp [hdA, eq_comm]
theorem HdOk.frame {hd : Option Value} {h h' : Heap} (x : HdOk hd h) (k : ∀ b ∈ hdA hd, ∀ o, h.get? b = some o → h'.get? b = some o) : HdOk hd h' := fun v e => by
  obtain ⟨a, ob, vs, rfl, e2, r⟩ := x v e
  exact ⟨a, ob, vs, rfl, k a (hdA_mem.mpr e) _ e2, r⟩

theorem walks_list (I ax : Addr) (hne : ax ≠ I) (hI : I ∉ hdA A.handled) (items : Array Value) :
    Walks prog w A I ([I, ax] ++ hdA A.handled) [I] items.size (fun i v => items[i]? = some v) (fun i h => h.IsListIter I ax i ∧ h.IsList ax items ∧ HdOk A.handled h) where
  sub := fun b hb => by simp at hb; simp [hb]
  frame := fun _ _ _ st hk => ⟨st.1.at fun o e => hk I (by simp) o e, st.2.1.at fun o e => hk ax (by simp) o e, st.2.2.frame fun b hb o e => hk b (by simp [hb]) o e⟩
  item := fun i s Q E hi st hQ => by
    refine wpAny_pyNext_list_item st.1 st.2.1 (x := items[i]) (by simp [hi]) fun h' hit' hs' => ?_
    exact hQ _ h' s.toks (by simp [hi]) ⟨hit', st.2.1.extBut hs'.extBut hne, st.2.2.frame fun b hb o e => hs'.extBut b o (fun q => hI (q ▸ hb)) e⟩ fun b o hb e => hs'.extBut b o (fun h => hb (by simp [h])) e
  done := fun s Q E st hQ => list_end st.2.2 (fun e he q => hI (q ▸ hdA_mem.mpr he)) st.1 st.2.1 (by simp) fun h' he' => hQ h' s.toks fun b o hb e => he' b o (fun h => hb (by simp [h])) e
  self := fun _ _ _ _ st hQ => wpAny_pyIter_listiter st.1 hQ

theorem walks_range (I : Addr) (hI : I ∉ hdA A.handled) (a c : Int) (n : Nat) :
    Walks prog w A I ([I] ++ hdA A.handled) [I] n (fun i v => ∃ t, v = .int (a + i * c) t) (fun i h => IsRangeIter h I (a + (i : Nat) * c) ((n : Int) - (i : Nat)) c ∧ HdOk A.handled h) where
  sub := fun b hb => by simp at hb; simp [hb]
  frame := fun _ _ _ st hk => ⟨hk I (by simp) _ st.1, st.2.frame fun b hb o e => hk b (by simp [hb]) o e⟩
  item := fun i s Q E hi st hQ => by
    refine wpAny_pyNext_range_item st.1 (by omega) fun h' hit' hs' => ?_
    refine hQ _ h' _ ⟨_, rfl⟩ ⟨?_, st.2.frame fun b hb o e => hs'.extBut b o (fun q => hI (q ▸ hb)) e⟩ fun b o hb e => hs'.extBut b o (fun h => hb (by simp [h])) e
    have e1 : a + ((i + 1 : Nat) : Int) * c = a + (i : Int) * c + c := by push_cast; rw [Int.add_mul, Int.one_mul, Int.add_assoc]
    have e2 : (n : Int) - ((i + 1 : Nat) : Int) = (n : Int) - (i : Int) - 1 := by push_cast; omega
    rw [e1, e2]; exact hit'
  done := fun s Q E st hQ => range_end st.2 st.1 (by omega) fun h' he' => hQ h' s.toks fun b o hb e => he' b o (fun h => hb (by simp [h])) e
  self := fun _ _ _ _ st hQ => wpAny_pyIter_rangeiter st.1 hQ
end
end

section
open PySem PySem.W PySem.Calls PySem.Spec PyProof.Rows

section
variable {prog : Program} {w : World} {A : Around} {s : Shared} {env : Env} {h₀ : Heap}

/-- the end of a loop's turn -/
noncomputable def MdTurnEnd {σ : Type} (h₀ : Heap) (L I : Addr) (oI : Obj) (Led : σ → List (Addr × Obj)) (ps : σ → List (Str × Value)) (Inv : σ → Prop) (s₁ s₂ : Shared) : Prop :=
  ∃ h' tk m' c, s₂ = { s₁ with heap := h', toks := tk } ∧ Fr h₀ L h' m' ∧ (∀ p ∈ ps c, m' p.1 = some p.2) ∧ News h₀ L h' ((I, oI) :: Led c) ∧ (∀ p ∈ Led c, p.1 ≠ I) ∧ Inv c
theorem MdTurnEnd.intro {σ : Type} {L I : Addr} {oI : Obj} {Led : σ → List (Addr × Obj)} {ps : σ → List (Str × Value)} {Inv : σ → Prop} {s₁ : Shared} {h' : Heap} {tk : Nat} {m' : Str → Option Value} {news' : List (Addr × Obj)} (c : σ)
    (F : Fr h₀ L h' m') (N : News h₀ L h' news') (hs : ∀ p ∈ (I, oI) :: Led c, p ∈ news') (hps : ∀ p ∈ ps c, m' p.1 = some p.2) (off : ∀ p ∈ Led c, p.1 ≠ I) (hi : Inv c) :
    MdTurnEnd h₀ L I oI Led ps Inv s₁ { s₁ with heap := h', toks := tk } := ⟨h', tk, m', c, rfl, F, hps, fun p hp => N p (hs p hp), off, hi⟩

theorem off_same {l l' : List (Addr × Obj)} {I : Addr} (h : ∀ p ∈ l, p.1 ≠ I) (e : l'.map (·.1) = l.map (·.1)) : ∀ p ∈ l', p.1 ≠ I := fun p hp => by
  have h1 : p.1 ∈ l'.map (·.1) := List.mem_map_of_mem hp
  rw [e] at h1
  obtain ⟨q, hq, e2⟩ := List.mem_map.mp h1
  exact e2 ▸ h q hq
theorem kstB_same {m : Str → Option Value} {ps : List (Str × Value)} (h : ∀ p ∈ ps, m p.1 = some p.2) : kstB m ps = m := by
  funext z
  exact kstB_eq h fun _ => rfl
theorem fr_tracked {L : Addr} {h : Heap} {m : Str → Option Value} {ps : List (Str × Value)} (F : Fr h₀ L h m) (hp : ∀ p ∈ ps, m p.1 = some p.2) : Fr h₀ L h (kstB m ps) := by
  rw [kstB_same hp]; exact F

noncomputable def MdTurn {σ : Type} (h₀ : Heap) (L I : Addr) (oI : Obj) (Led : σ → List (Addr × Obj)) (ps : σ → List (Str × Value)) (Inv : σ → Prop) (s₁ : Shared) (f : Flow) (s₂ : Shared) : Prop :=
  match f with
  | .next => MdTurnEnd h₀ L I oI Led ps Inv s₁ s₂
  | _ => False

theorem forLoop_go {R : Result → Shared → Prop} {target : Expr} {it : Value} {body : List Stmt} (I : Nat → Shared → Prop)
    (turn : ∀ n s, I n s → wpAny (model prog w) A (pyNext it) (fun r s₁ => match r with
      | none => wpAny (model prog w) A (execs [] env) (fun f s₃ => R (.ok f) s₃) (notedBy (model prog w) A env fun e s' => R (.error e) s') s₁
      | some v => wpAny (model prog w) A (letOwnedTupleGo target it v) (fun _ s₁' => wpAny (model prog w) A (assign target env v) (fun _ s₂ => wpAny (model prog w) A (execs body env) (fun f s₃ => match f with
          | .next | .cont => ∃ m, m < n ∧ I m s₃
          | .brk => R (.ok .next) s₃
          | .ret v => R (.ok (.ret v)) s₃) (notedBy (model prog w) A env fun e s' => R (.error e) s') s₂) (notedBy (model prog w) A env fun e s' => R (.error e) s') s₁') (notedBy (model prog w) A env fun e s' => R (.error e) s') s₁) (notedBy (model prog w) A env fun e s' => R (.error e) s') s)
    (n : Nat) (h : I n s) : codeAny (model prog w) A (.forLoop target it body [] env) R s := by
  refine codeAny_loop' rfl I (fun n s hI => ?_) n h
  show wpAny _ _ ((forTurn target it body [] env).onRaise (fun x => do noteFrame x env; theTreesLotGoes x)) _ _ s
  refine wpAny_noted ?_
  simp only [forTurn]
  refine wpAny_bind (wpAny_standAt (wpAny_bind (wpAny_onRaise (wpAny_mono (turn n s hI) (fun r s₁ h₁ => ?_) fun _ _ h' => wpAny_standAt h'))))
  cases r with
  | none => exact wpAny_pure (.inr ⟨rfl, codeAny_block h₁⟩)
  | some v =>
    refine wpAny_bind (wpAny_mono h₁ (fun _ s₁' h₁' => wpAny_bind (wpAny_mono h₁' (fun _ s₂ h₂ => wpAny_bind (wpAny_mono h₂ (fun f s₃ h₃ => ?_) fun _ _ h' => h')) fun _ _ h' => h')) fun _ _ h' => h')
    cases f with
    | next => exact wpAny_pure (.inl ⟨rfl, h₃⟩)
    | cont => exact wpAny_pure (.inl ⟨rfl, h₃⟩)
    | brk => exact wpAny_pure h₃
    | ret v => exact wpAny_pure h₃

theorem for_st {σ : Type} {R : Result → Shared → Prop} {target : Expr} {body : List Stmt} {I : Addr} {fp : List Addr} {n : Nat} {P : Nat → Value → Prop} {St : Nat → Heap → Prop} {m : Str → Option Value}
    (W : Walks prog w A I fp [I] n P St) (hIo : ∀ i h, St i h → ∃ o, h.get? I = some o) (hfp : ∀ b ∈ fp, b = I ∨ ∃ o, h₀.get? b = some o) (hIL : I ≠ env.locals) (hI₀ : h₀.get? I = none)
    (Led : Nat → σ → List (Addr × Obj)) (ps : Nat → σ → List (Str × Value)) (Inv : Nat → σ → Prop) (c₀ : σ)
    (hst : St 0 s.heap) (F : Fr h₀ env.locals s.heap m) (N : News h₀ env.locals s.heap (Led 0 c₀)) (hoff : ∀ p ∈ Led 0 c₀, p.1 ≠ I) (hps : ∀ p ∈ ps 0 c₀, m p.1 = some p.2) (h0 : Inv 0 c₀)
    (turn : ∀ i v c u h tk oI, i < n → P i v → Inv i c → (∀ p ∈ Led i c, p.1 ≠ I) → Fr h₀ env.locals h (kstB u (ps i c)) → News h₀ env.locals h ((I, oI) :: Led i c) →
      wpAny (model prog w) A (assign target env v) (fun _ s' => wpAny (model prog w) A (execs body env) (MdTurn h₀ env.locals I oI (Led (i + 1)) (ps (i + 1)) (Inv (i + 1)) { s with heap := h, toks := tk }) (fun _ _ => False) s') (fun _ _ => False) { s with heap := h, toks := tk })
    (done : ∀ c u h tk, Inv n c → Fr h₀ env.locals h (kstB u (ps n c)) → News h₀ env.locals h (Led n c) → R (.ok .next) { s with heap := h, toks := tk })
    (go : ∀ i v (s' : Shared) (Q : Unit → Shared → Prop) (E' : Value → Shared → Prop), i < n → P i v → St (i + 1) s'.heap → Q () s' → wpAny (model prog w) A (letOwnedTupleGo target (.ref I) v) Q E' s') : codeAny (model prog w) A (.forLoop target (.ref I) body [] env) R s := by
  have hLf : env.locals ∉ fp := fun hm => by
    rcases hfp _ hm with q | ⟨o, q⟩
    · exact hIL q.symm
    · rw [Heap.get?_none_of_le F.above] at q; cases q
  refine forLoop_go
    (fun k s' => ∃ i h' tk m' c, s' = { s with heap := h', toks := tk } ∧ St i h' ∧ Fr h₀ env.locals h' m' ∧ News h₀ env.locals h' (Led i c) ∧ (∀ p ∈ Led i c, p.1 ≠ I) ∧ (∀ p ∈ ps i c, m' p.1 = some p.2) ∧ Inv i c ∧ i ≤ n ∧ k = n + 1 - i) ?_ (n + 1)
    ⟨0, s.heap, s.toks, m, c₀, rfl, hst, F, N, hoff, hps, h0, Nat.zero_le _, rfl⟩
  rintro k s' ⟨i, h', tk, m', c, rfl, hst', F', N', off', hps', hJ, hi, rfl⟩
  have next : ∀ h₁ : Heap, (∀ b o, b ∉ [I] → h'.get? b = some o → h₁.get? b = some o) → Fr h₀ env.locals h₁ m' ∧ News h₀ env.locals h₁ (Led i c) := fun h₁ hk₁ =>
    ⟨LCg.fr_but F' hk₁ (Ne.symm hIL) hI₀, LCg.news_but N' hk₁ off'⟩
  by_cases hlt : i < n
  · refine W.item i _ _ _ hlt hst' fun v h₁ tk₁ hP hst₁ hk₁ => ?_
    obtain ⟨F₁, N₁⟩ := next h₁ hk₁
    obtain ⟨oI, hoI⟩ := hIo _ _ hst₁
    have N₂ : News h₀ env.locals h₁ ((I, oI) :: Led i c) := fun p hp => by
      rcases List.mem_cons.mp hp with rfl | hp
      · exact ⟨hoI, hIL, hI₀⟩
      · exact N₁ p hp
    refine go i v _ _ _ hlt hP hst₁ ?_
    refine wpAny_mono (turn i v c m' h₁ tk₁ oI hlt hP hJ off' (fr_tracked F₁ hps') N₂) (fun _ s₂ h₂ => wpAny_mono h₂ (fun f s₃ h₃ => ?_) fun _ _ x => x.elim) fun _ _ x => x.elim
    cases f with
    | next =>
      obtain ⟨h₃, tk₃, m₃, c₃, rfl, F₃, hps₃, N₃, off₃, hJ₃⟩ := h₃
      refine ⟨n + 1 - (i + 1), by omega, i + 1, h₃, tk₃, m₃, c₃, rfl, ?_, F₃, fun p hp => N₃ p (List.mem_cons_of_mem _ hp), off₃, hps₃, hJ₃, hlt, rfl⟩
      refine W.frame _ _ _ hst₁ fun b hb o e => ?_
      rcases hfp b hb with rfl | ⟨o', q⟩
      · have z := (N₃ _ List.mem_cons_self).1
        rw [hoI] at e
        cases e
        exact z
      · have z := F₁.keep b o' q
        rw [z] at e
        cases e
        exact F₃.keep b _ q
    | cont => exact h₃.elim
    | brk => exact h₃.elim
    | ret v => exact h₃.elim
  · have hin : i = n := by omega
    subst hin
    refine W.done _ _ _ hst' fun h₁ tk₁ hk₁ => wpAny_execs_nil ?_
    obtain ⟨F₁, N₁⟩ := next h₁ hk₁
    exact done c m' h₁ tk₁ hJ (fr_tracked F₁ hps') N₁

/-- a for statement at its source -/
noncomputable def ForAt (prog : Program) (w : World) (A : Around) (env : Env) (target : Expr) (body : List Stmt) (Q : Flow → Shared → Prop) (E : Value → Shared → Prop) (xv : Value) (s₁ : Shared) : Prop :=
  wpAny (model prog w) A (pyIter xv) (fun it s₂ => codeAny (model prog w) A (.forLoop target it body [] env) (fun r s' => match r with | .ok f => Q f s' | .error e => cameBackBy (model prog w) A env E e s') s₂) E s₁
variable {E : Value → Shared → Prop}
theorem For_at {target iter : Expr} {body : List Stmt} {pos : Pos} {Q : Flow → Shared → Prop} (h : wpAny (model prog w) A (eval iter env) (ForAt prog w A env target body Q E) E s)
    (hs : ∀ x, foldedSetIterable iter env x = pure x) : wpAny (model prog w) A (exec (.For target iter body [] pos) env) Q E s := wpAny_For h hs

theorem hdA_in {h : Heap} (x : HdOk A.handled h) : ∀ b ∈ hdA A.handled, ∃ o, h.get? b = some o := fun b hb => by
  obtain ⟨e, ob, vs, q, e2, _⟩ := x _ (hdA_mem.mp hb)
  cases q
  exact ⟨ob, e2⟩

theorem ForAt.list {σ : Type} {Q : Flow → Shared → Prop} {target : Expr} {body : List Stmt} {l : Addr} {items : Array Value} {m : Str → Option Value} (hok : HdOk A.handled h₀) (hl : h₀.IsList l items)
    (Led : Nat → σ → List (Addr × Obj)) (ps : Nat → σ → List (Str × Value)) (Inv : Nat → σ → Prop) (c₀ : σ)
    (F : Fr h₀ env.locals s.heap m) (N : News h₀ env.locals s.heap (Led 0 c₀)) (hps : ∀ p ∈ ps 0 c₀, m p.1 = some p.2) (h0 : Inv 0 c₀)
    (turn : ∀ i v c u I h tk oI, items[i]? = some v → Inv i c → (∀ p ∈ Led i c, p.1 ≠ I) → Fr h₀ env.locals h (kstB u (ps i c)) → News h₀ env.locals h ((I, oI) :: Led i c) →
      wpAny (model prog w) A (assign target env v) (fun _ s' => wpAny (model prog w) A (execs body env) (MdTurn h₀ env.locals I oI (Led (i + 1)) (ps (i + 1)) (Inv (i + 1)) { s with heap := h, toks := tk }) (fun _ _ => False) s') (fun _ _ => False) { s with heap := h, toks := tk })
    (done : ∀ c u h tk, Inv items.size c → Fr h₀ env.locals h (kstB u (ps items.size c)) → News h₀ env.locals h (Led items.size c) → Q .next { s with heap := h, toks := tk })
    (go : ∀ I i v (s' : Shared) (Q : Unit → Shared → Prop) (E' : Value → Shared → Prop), items[i]? = some v → s'.heap.IsListIter I l (i + 1) → Q () s' → wpAny (model prog w) A (letOwnedTupleGo target (.ref I) v) Q E' s') : ForAt prog w A env target body Q E (.ref l) s := by
  have hls : s.heap.IsList l items := hl.at fun o e => F.keep l o e
  obtain ⟨ol, hol, _⟩ := id hl
  have hne : l ≠ s.heap.objs.size := Nat.ne_of_lt (Heap.lt_size (F.keep _ _ hol))
  have hI : s.heap.objs.size ∉ hdA A.handled := fun hm => by
    obtain ⟨o, e⟩ := hdA_in hok _ hm
    exact absurd (Heap.lt_size (F.keep _ _ e)) (Nat.lt_irrefl _)
  unfold ForAt
  refine wpAny_pyIter_list hls ?_
  refine for_st (h₀ := h₀) (walks_list s.heap.objs.size l hne hI items) (fun i h st => by obtain ⟨o, e, _⟩ := st.1; exact ⟨o, e⟩) (fun b hb => ?_) (Ne.symm (Nat.ne_of_lt F.ns.lt)) (next_is_new F) Led ps Inv c₀
    ⟨⟨_, Heap.get?_push_size _ rfl, rfl, rfl⟩, hls.push _, (hok.keeps F.keep).keeps fun b o e => Heap.get?_push_of_some _ e⟩ (F.push _) (fun p hp => ⟨Heap.get?_push_of_some _ (N p hp).1, (N p hp).2⟩) (fun p hp => Nat.ne_of_lt (Heap.lt_size (N p hp).1)) hps h0
    (fun i v c u h tk oI _ hP hJ off F' N' => turn i v c u _ h tk oI hP hJ off F' N') (fun c u h tk hJ F' N' => done c u h tk hJ F' N') (fun i v s' Q E' _ hP st hQ => go _ i v s' Q E' hP st.1 hQ)
  rcases List.mem_append.mp hb with hb | hb
  · rcases List.mem_cons.mp hb with rfl | hb
    · exact .inl rfl
    · rw [List.mem_singleton.mp hb]; exact .inr ⟨_, hol⟩
  · exact .inr (hdA_in hok _ hb)

theorem ForAt.range {σ : Type} {Q : Flow → Shared → Prop} {target : Expr} {body : List Stmt} {r : Addr} {a b k : Int} {t u v : Tok} {n : Nat} {m : Str → Option Value} (hok : HdOk A.handled h₀) (hr : IsRange s.heap r a b k t u v)
    (hsm : Builtin.Range.small a b k = true) (hn : Builtin.Range.rangeSize a b k = (n : Int))
    (Led : Nat → σ → List (Addr × Obj)) (ps : Nat → σ → List (Str × Value)) (Inv : Nat → σ → Prop) (c₀ : σ)
    (F : Fr h₀ env.locals s.heap m) (N : News h₀ env.locals s.heap (Led 0 c₀)) (hps : ∀ p ∈ ps 0 c₀, m p.1 = some p.2) (h0 : Inv 0 c₀)
    (turn : ∀ i t c u I h tk oI, i < n → Inv i c → (∀ p ∈ Led i c, p.1 ≠ I) → Fr h₀ env.locals h (kstB u (ps i c)) → News h₀ env.locals h ((I, oI) :: Led i c) →
      wpAny (model prog w) A (assign target env (.int (a + (i : Int) * k) t)) (fun _ s' => wpAny (model prog w) A (execs body env) (MdTurn h₀ env.locals I oI (Led (i + 1)) (ps (i + 1)) (Inv (i + 1)) { s with heap := h, toks := tk }) (fun _ _ => False) s') (fun _ _ => False) { s with heap := h, toks := tk })
    (done : ∀ c u h tk, Inv n c → Fr h₀ env.locals h (kstB u (ps n c)) → News h₀ env.locals h (Led n c) → Q .next { s with heap := h, toks := tk })
    (ht : ∀ I v, letOwnedTupleGo target (.ref I) v = pure ()) : ForAt prog w A env target body Q E (.ref r) s := by
  have hI : s.heap.objs.size ∉ hdA A.handled := fun hm => by
    obtain ⟨o, e⟩ := hdA_in hok _ hm
    exact absurd (Heap.lt_size (F.keep _ _ e)) (Nat.lt_irrefl _)
  unfold ForAt
  refine wpAny_pyIter_range hr hsm ?_
  refine for_st (h₀ := h₀) (walks_range s.heap.objs.size hI a k n) (fun i h st => ⟨_, st.1⟩) (fun b hb => ?_) (Ne.symm (Nat.ne_of_lt F.ns.lt)) (next_is_new F) Led ps Inv c₀
    ⟨by show IsRangeIter _ _ _ _ _; rw [hn]; simpa using Heap.get?_push_size _ rfl, (hok.keeps F.keep).keeps fun b o e => Heap.get?_push_of_some _ e⟩ (F.push _) (fun p hp => ⟨Heap.get?_push_of_some _ (N p hp).1, (N p hp).2⟩) (fun p hp => Nat.ne_of_lt (Heap.lt_size (N p hp).1)) hps h0
    (fun i v c u h tk oI hi hP hJ off F' N' => by obtain ⟨t, rfl⟩ := hP; exact turn i t c u _ h tk oI hi hJ off F' N') (fun c u h tk hJ F' N' => done c u h tk hJ F' N') (fun i v s' Q E' _ _ _ hQ => wpAny_of_eq (ht _ v) hQ)
  rcases List.mem_append.mp hb with hb | hb
  · exact .inl (List.mem_singleton.mp hb)
  · exact .inr (hdA_in hok _ hb)
end
end

section
open PySem PySem.W PySem.Calls PySem.Spec PyProof.Rows

section
variable {prog : Program} {w : World} {A : Around} {E : Value → Shared → Prop} {s : Shared} {h₀ : Heap} {L : Addr} {m : Str → Option Value} {env : Env}

/-- the walk's state beside what it looks at in the base -/
noncomputable def StB (h₀ : Heap) (I : Addr) (fp : List Addr) (St : Nat → Heap → Prop) (i : Nat) (h : Heap) : Prop := St i h ∧ ∀ b ∈ fp, b ≠ I → ∀ o, h₀.get? b = some o → h.get? b = some o
theorem walks_base {I : Addr} {fp : List Addr} {n : Nat} {P : Nat → Value → Prop} {St : Nat → Heap → Prop} (W : Walks prog w A I fp [I] n P St) : Walks prog w A I fp [I] n P (StB h₀ I fp St) where
  sub := W.sub
  frame := fun i h h' st k => ⟨W.frame i h h' st.1 k, fun b hb hne o e => k b hb o (st.2 b hb hne o e)⟩
  item := fun i s Q E hi st hQ => W.item i s Q E hi st.1 fun v h' tk hP hst hk => hQ v h' tk hP ⟨hst, fun b hb hne o e => hk b o (by simpa using hne) (st.2 b hb hne o e)⟩ hk
  done := fun s Q E st hQ => W.done s Q E st.1 hQ
  self := fun i s Q E st hQ => W.self i s Q E st.1 hQ
theorem stB_st {I : Addr} {fp : List Addr} {n : Nat} {P : Nat → Value → Prop} {St : Nat → Heap → Prop} (W : Walks prog w A I fp [I] n P St) (hfp : ∀ b ∈ fp, b = I ∨ ∃ o, h₀.get? b = some o) :
    ∀ i h h' o nw, StB h₀ I fp St i h → h.get? I = some o → h'.get? I = some o → (∀ b o, h₀.get? b = some o → h'.get? b = some o) → News h₀ L h' nw → True → StB h₀ I fp St i h' :=
  fun i h h' o nw st e e' k _ _ => ⟨W.frame _ _ _ st.1 fun b hb ob eb => by
    by_cases q : b = I
    · subst q; rw [e] at eb; cases eb; exact e'
    · rcases hfp b hb with q' | ⟨o', q'⟩
      · exact absurd q' q
      · rw [st.2 b hb q _ q'] at eb; cases eb; exact k _ _ q', fun b _ _ o e => k b o e⟩

/-- a comprehension at its source, whatever walks there -/
noncomputable def CSrc (prog : Program) (w : World) (A : Around) (h₀ : Heap) (L : Addr) (m : Str → Option Value) (env : Env) (elt : Expr) (x : Str) (scope : Scope) (cl : List (Str × Addr)) (Fin : Shared → List Value → List (Addr × Obj) → Prop) (E : Value → Shared → Prop) (xv : Value) (s₁ : Shared) : Prop :=
  wpAny (model prog w) A (pyIter xv) (fun it s₂ => ∃ I fp n P St news, it = .ref I ∧ Walks prog w A I fp [I] n P St ∧ n ≤ sizeLine ∧ (∀ i h, St i h → ∃ o, h.get? I = some o) ∧ (∀ b ∈ fp, b = I ∨ ∃ o, h₀.get? b = some o) ∧ St 0 s₂.heap ∧
    Fr h₀ L s₂.heap m ∧ News h₀ L s₂.heap news ∧ L ≠ I ∧ h₀.get? I = none ∧ (∀ p ∈ news, p.1 ≠ I) ∧ I < s₂.heap.objs.size ∧ LCg.CompRest prog w A h₀ L m env elt x scope cl s₂ (fun _ => True) P (Fin s₂) n 0 [] news) E s₁

theorem comp_run {elt iter : Expr} {x : Str} {px : Pos} {scope : Scope} {cl : List (Str × Addr)} {pos : Pos} {Q : Value → Shared → Prop} {xv : Value} {use : Option (Value → Sem Unit)} {Fin : Shared → List Value → List (Addr × Obj) → Prop}
    (hcell : ∀ y ∈ scope.names, y.2 ≠ .cell) (hkind : scope.kind = .function) (hx : scope.names.lookup x = some .local)
    (fin : ∀ s₂ D C h tk m' ys news', Fr h₀ L h m → News h₀ L h ((D, LCg.lst ys) :: news') → LCg.Off1 D news' → h.Ns C m' → h₀.get? C = none → h₀.get? D = none → C ≠ L → D ≠ L → C ≠ D → (∀ p ∈ news', p.1 ≠ C) → Fin s₂ ys news' →
      compPost (model prog w) A E use Q (.ref D) C (.ok .next) { s₂ with heap := h, toks := tk })
    (h : CSrc prog w A h₀ L m env elt x scope cl Fin E xv s) :
    wpAny (model prog w) A (pyIter xv) (fun it s₂ => wpAny (model prog w) A (newList []) (fun acc s₃ =>
      wpAny (model prog w) A (newFunctionEnv scope env.globals cl [] env.qual none .none (some env)) (fun cenv s₄ =>
        codeAny (model prog w) A (.compStart (.ListComp elt [⟨.Name x px, iter, [], 0⟩] scope pos) 0 it acc { cenv with scope := relabel scope env }) (compPost (model prog w) A E use Q acc cenv.locals) s₄) E s₃) E s₂) E s := by
  refine wpAny_mono h (fun it s₂ h₂ => ?_) fun _ _ x => x
  obtain ⟨I, fp, n, P, St, news, rfl, W, hsz, hIo, hfp, hst, F, N, hLI, hI₀, off, hlt, R⟩ := h₂
  refine LCg.block_U (walks_base (h₀ := h₀) W) hsz (fun i h st => hIo i h st.1) (stB_st W hfp) hcell hkind hx ⟨hst, fun b _ _ o e => F.keep b o e⟩ (fun b hb => ?_) F N hLI hI₀ off trivial R fun D C h tk m' ys news' F' N' o1 hn hC₀ hD₀ hCL hDL hCD offC f => fin s₂ D C h tk m' ys news' F' N' o1 hn hC₀ hD₀ hCL hDL hCD offC f
  rcases hfp b hb with rfl | ⟨o, e⟩
  · exact hlt
  · exact Heap.lt_size (F.keep _ _ e)

theorem ListComp_W {elt iter : Expr} {x : Str} {px : Pos} {scope : Scope} {cl : List (Str × Addr)} {pos : Pos} {Q : Value → Shared → Prop} (_F₀ : Fr h₀ L s.heap m)
    (hclos : closureFor scope env = pure cl) (hcell : ∀ y ∈ scope.names, y.2 ≠ .cell) (hkind : scope.kind = .function)
    (hnames : ∀ y ∈ scope.names, y.2 = .local → scope.names.lookup y.1 = some .local) (hx : scope.names.lookup x = some .local)
    (h : wpAny (model prog w) A (eval iter env) (CSrc prog w A h₀ L m env elt x scope cl (fun s₂ => LCg.FinE h₀ L m s₂ Q) E) E s)
    (hs : ∀ x, foldedSetIterable iter env x = pure x) :
    wpAny (model prog w) A (eval (.ListComp elt [⟨.Name x px, iter, [], 0⟩] scope pos) env) Q E s := by
  rw [eval_ListComp]
  refine wpAny_comprehension_free (use := none) rfl hs hclos hkind hnames (wpAny_mono h (fun xv s₁ h₁ => comp_run hcell hkind hx (fun s₂ D C h tk m' ys news' F' N' o1 hn hC₀ hD₀ hCL hDL hCD offC fin => ?_) h₁) fun _ _ e => e)
  refine ⟨m', hn, fun h'' hs'' => fin D h'' tk (F'.change hs'' hCL hC₀) (fun p hp => ?_) o1⟩
  refine ⟨hs''.extBut _ _ ?_ (N' p hp).1, (N' p hp).2⟩
  rcases List.mem_cons.mp hp with rfl | hp
  · exact Ne.symm hCD
  · exact offC p hp

theorem Assign_ListComp_W {elt iter : Expr} {x y : Str} {px py : Pos} {scope : Scope} {cl : List (Str × Addr)} {pos spos : Pos} {Q : Flow → Shared → Prop} (F₀ : Fr h₀ L s.heap m) (hLe : env.locals = L)
    (hsw : swapsWith (.ListComp elt [⟨.Name x px, iter, [], 0⟩] scope pos) (some (.Name y py)) spos.line env = pure true)
    (hclos : closureFor scope env = pure cl) (hcell : ∀ z ∈ scope.names, z.2 ≠ .cell) (hkind : scope.kind = .function)
    (hnames : ∀ z ∈ scope.names, z.2 = .local → scope.names.lookup z.1 = some .local) (hx : scope.names.lookup x = some .local)
    (hy : env.kindOf y = some .local) (hp : (env.scope.kind == .class || (env.scope.kind == .module && env.locals != env.globals)) = false)
    (h : wpAny (model prog w) A (eval iter env) (CSrc prog w A h₀ L m env elt x scope cl (fun s₂ => LCg.FinA h₀ L m s₂ y Q) E) E s)
    (hs : ∀ x, foldedSetIterable iter env x = pure x) :
    wpAny (model prog w) A (exec (.Assign [.Name y py] (.ListComp elt [⟨.Name x px, iter, [], 0⟩] scope pos) spos) env) Q E s := by
  subst hLe
  rw [exec_Assign_Name_used _ _ _ _ hsw]
  refine wpAny_bind (wpAny_standAt (wpAny_bind ?_))
  show wpAny _ A (do let _ ← comprehension (.ListComp elt [⟨.Name x px, iter, [], 0⟩] scope pos) scope env _ (newList []) false (eval iter env) (some (assign (.Name y py) env))) _ _ s
  refine wpAny_bind (wpAny_mono (wpAny_comprehension_free (use := some (assign (.Name y py) env)) (Q := fun _ s' => Q .next s') rfl hs hclos hkind hnames
    (wpAny_mono h (fun xv s₁ h₁ => comp_run hcell hkind hx (fun s₂ D C h tk m' ys news' F' N' o1 hn hC₀ hD₀ hCL hDL hCD offC fin => ?_) h₁) fun _ _ e => e)) (fun _ s' hq => wpAny_pure (wpAny_pure hq)) fun _ _ e => e)
  show wpAny _ A (assign (.Name y py) env (.ref D)) _ _ _
  refine wpAny_assign_Name (wpAny_storeName_local hy F'.ns (fun h₂ hn₂ hs₂ => ?_) hp)
  have hL₀ : h₀.get? env.locals = none := Heap.get?_none_of_le F'.above
  have F₂ : Fr h₀ env.locals h₂ (fun z => if z = y then some (.ref D) else m z) := ⟨hn₂, fun b o e => hs₂.extBut b o (fun q => by rw [q, hL₀] at e; cases e) (F'.keep b o e), F'.above⟩
  refine ⟨m', hn.sameBut hs₂ hCL, fun h'' hs'' => fin D h'' _ (F₂.change hs'' hCL hC₀) (fun p hp => ?_) o1⟩
  have z : h₂.get? p.1 = some p.2 := hs₂.extBut _ _ (N' p hp).2.1 (N' p hp).1
  refine ⟨hs''.extBut _ _ ?_ z, (N' p hp).2⟩
  rcases List.mem_cons.mp hp with rfl | hp
  · exact Ne.symm hCD
  · exact offC p hp

/-- an element that makes nothing that it keeps -/
noncomputable def EltEnd (h₀ : Heap) (L : Addr) (m : Str → Option Value) (s₁ : Shared) (led : List (Addr × Obj)) (R : Value → Prop) (y : Value) (s₂ : Shared) : Prop :=
  ∃ h' tk, s₂ = { s₁ with heap := h', toks := tk } ∧ Fr h₀ L h' m ∧ News h₀ L h' led ∧ R y
theorem comp_restS {S : List (Addr × Obj) → Prop} {elt : Expr} {x : Str} {scope : Scope} {cl : List (Str × Addr)} {P : Nat → Value → Prop} {Fin : List Value → List (Addr × Obj) → Prop} {n : Nat} {news : List (Addr × Obj)} (R : Nat → Value → Prop) (hS : S news)
    (turn : ∀ i v I oI C oC D m₂ ys h tk, i < n → P i v → LCg.NsObj oC m₂ → m₂ x = some v → Fr h₀ L h m → News h₀ L h ((I, oI) :: (C, oC) :: (D, LCg.lst ys) :: news) → LCg.Off3 I C D news → ((@Ne Nat I C) ∧ (@Ne Nat I D) ∧ (@Ne Nat C D)) →
      wpAny (model prog w) A (eval elt (compEnvC scope cl C env)) (EltEnd h₀ L m { s with heap := h, toks := tk } ((I, oI) :: (C, oC) :: (D, LCg.lst ys) :: news) (R i)) (fun _ _ => False) { s with heap := h, toks := tk })
    (fin : ∀ ys, ys.length = n → (∀ (i : Nat) y, ys[i]? = some y → R i y) → Fin ys news) : LCg.CompRest prog w A h₀ L m env elt x scope cl s S P Fin n 0 [] news := by
  have key : ∀ (j i : Nat) (ys : List Value), i + j = n → ys.length = i → (∀ (k : Nat) y, ys[k]? = some y → R k y) → LCg.CompRest prog w A h₀ L m env elt x scope cl s S P Fin j i ys news := by
    intro j
    induction j with
    | zero =>
      intro i ys hi hl hR
      exact LCg.CompRest.zero (fin ys (by omega) hR)
    | succ j ih =>
      intro i ys hi hl hR
      refine LCg.CompRest.succ fun v I oI C oC D m₂ h tk E' hv hC hx F N off ne => ?_
      refine wpAny_mono (turn i v I oI C oC D m₂ ys h tk (by omega) hv hC hx F N off ne) (fun y s₂ hq => ?_) fun _ _ x => x.elim
      obtain ⟨h', tk', rfl, F', N', hy⟩ := hq
      refine ⟨h', tk', news, rfl, F', N', off, hS, ih (i + 1) _ (by omega) (by simp [hl]) fun k y' hk => ?_⟩
      rcases Nat.lt_trichotomy k ys.length with q | q | q
      · rw [List.getElem?_append_left q] at hk
        exact hR k y' hk
      · subst q
        simp at hk
        subst hk
        exact hl ▸ hy
      · rw [List.getElem?_eq_none (by simp; omega)] at hk
        cases hk
  exact key n 0 [] (by omega) rfl (fun k y e => by simp at e)
theorem comp_rest {elt : Expr} {x : Str} {scope : Scope} {cl : List (Str × Addr)} {P : Nat → Value → Prop} {Fin : List Value → List (Addr × Obj) → Prop} {n : Nat} {news : List (Addr × Obj)} (R : Nat → Value → Prop)
    (turn : ∀ i v I oI C oC D m₂ ys h tk, i < n → P i v → LCg.NsObj oC m₂ → m₂ x = some v → Fr h₀ L h m → News h₀ L h ((I, oI) :: (C, oC) :: (D, LCg.lst ys) :: news) → LCg.Off3 I C D news → ((@Ne Nat I C) ∧ (@Ne Nat I D) ∧ (@Ne Nat C D)) →
      wpAny (model prog w) A (eval elt (compEnvC scope cl C env)) (EltEnd h₀ L m { s with heap := h, toks := tk } ((I, oI) :: (C, oC) :: (D, LCg.lst ys) :: news) (R i)) (fun _ _ => False) { s with heap := h, toks := tk })
    (fin : ∀ ys, ys.length = n → (∀ (i : Nat) y, ys[i]? = some y → R i y) → Fin ys news) : LCg.CompRest prog w A h₀ L m env elt x scope cl s (fun _ => True) P Fin n 0 [] news := comp_restS R trivial turn fin

theorem CSrc.range {elt : Expr} {x : Str} {scope : Scope} {cl : List (Str × Addr)} {Fin : Shared → List Value → List (Addr × Obj) → Prop} {r : Addr} {a b k : Int} {t u v : Tok} {n : Nat} {news : List (Addr × Obj)}
    (hok : HdOk A.handled h₀) (hr : IsRange s.heap r a b k t u v) (hsm : Builtin.Range.small a b k = true) (hn : Builtin.Range.rangeSize a b k = (n : Int)) (hsz : n ≤ sizeLine) (F : Fr h₀ L s.heap m) (N : News h₀ L s.heap news)
    (h : ∀ s₂ : Shared, (∃ g, s₂ = { s with heap := g }) → LCg.CompRest prog w A h₀ L m env elt x scope cl s₂ (fun _ => True) (fun i v => ∃ t, v = .int (a + (i : Int) * k) t) (Fin s₂) n 0 [] news) :
    CSrc prog w A h₀ L m env elt x scope cl Fin E (.ref r) s := by
  have hI : s.heap.objs.size ∉ hdA A.handled := fun hm => by
    obtain ⟨o, e⟩ := hdA_in hok _ hm
    exact absurd (Heap.lt_size (F.keep _ _ e)) (Nat.lt_irrefl _)
  unfold CSrc
  refine wpAny_pyIter_range hr hsm ⟨s.heap.objs.size, _, n, _, _, news, rfl, walks_range s.heap.objs.size hI a k n, hsz, fun i h st => ⟨_, st.1⟩, fun b hb => ?_, ⟨by show IsRangeIter _ _ _ _ _; rw [hn]; simpa using Heap.get?_push_size _ rfl, (hok.keeps F.keep).keeps fun b o e => Heap.get?_push_of_some _ e⟩,
    F.push _, fun p hp => ⟨Heap.get?_push_of_some _ (N p hp).1, (N p hp).2⟩, Nat.ne_of_lt F.ns.lt, next_is_new F, fun p hp => Nat.ne_of_lt (Heap.lt_size (N p hp).1), ?_, h _ ⟨_, rfl⟩⟩
  · rcases List.mem_append.mp hb with hb | hb
    · exact .inl (List.mem_singleton.mp hb)
    · exact .inr (hdA_in hok _ hb)
  · show s.heap.objs.size < (s.heap.push _).objs.size
    rw [Heap.size_push]; exact Nat.lt_succ_self _

theorem CSrc.bytes {elt : Expr} {x : Str} {scope : Scope} {cl : List (Str × Addr)} {Fin : Shared → List Value → List (Addr × Obj) → Prop} {b : Array UInt8} {t : Tok} {news : List (Addr × Obj)}
    (hh : A.handled = none) (hsz : b.size ≤ sizeLine) (F : Fr h₀ L s.heap m) (N : News h₀ L s.heap news)
    (h : ∀ s₂ : Shared, (∃ g, s₂ = { s with heap := g }) → LCg.CompRest prog w A h₀ L m env elt x scope cl s₂ (fun _ => True) (fun i v => ∃ c u, b[i]? = some c ∧ v = .int (c.toNat : Int) u) (Fin s₂) b.size 0 [] news) :
    CSrc prog w A h₀ L m env elt x scope cl Fin E (.bytes b t) s := by
  unfold CSrc
  refine KBw.pyIter_bytes ⟨s.heap.objs.size, _, b.size, _, _, news, rfl, KBw.walks hh s.heap.objs.size b t, hsz, fun i h st => ?_, fun c hc => .inl (List.mem_singleton.mp hc), ?_,
    F.push _, fun p hp => ⟨Heap.get?_push_of_some _ (N p hp).1, (N p hp).2⟩, Nat.ne_of_lt F.ns.lt, next_is_new F, fun p hp => Nat.ne_of_lt (Heap.lt_size (N p hp).1), ?_, h _ ⟨_, rfl⟩⟩
  · obtain ⟨o, e, _⟩ := st
    exact ⟨o, e⟩
  · exact ⟨_, Heap.get?_push_size _ rfl, rfl, rfl⟩
  · show s.heap.objs.size < (s.heap.push _).objs.size
    rw [Heap.size_push]; exact Nat.lt_succ_self _
end
end

section
open PySem PySem.W PySem.Calls PySem.Spec PyProof.Rows

noncomputable abbrev cTop (hd : Option Value) (dp un : Nat) (gd : Option (List Code)) (cn : Str) (cs : Scope) (L a : Addr) (ccd : Value) (cl : List (Str × Addr)) (outer : List Env) : Around := { handled := hd, depth := dp, frames := some (envX cn cs L a ccd cl :: outer), guards := gd, units := un }

/-- what a call of a def does: led is all that it may change; Ret tells what comes back and what led has become -/
noncomputable def Does (prog : Program) (w : World) (K : Frag) (hd : Option Value) (f : Addr) (vs : List Value) (d u : Nat) (led : List (Addr × Obj)) (Ret : Nat → Value → List (Addr × Obj) → Prop) : Prop :=
  ∀ (p : Program) (loose : List Str) (mean : ExcName → Option Value) (mg mb : Str → Option Value) (dp un : Nat) (gd : Option (List Code)) (cn : Str) (cs : Scope) (a : Addr) (ccd : Value) (cl : List (Str × Addr)) (outer : List Env) (A₀ : Around) (base h₀ : Heap) (L : Addr) (m : Str → Option Value) (s : Shared) (Q E : Value → Shared → Prop),
    Below A₀ base outer h₀ → Fr h₀ L s.heap m → K.In h₀ → News h₀ L s.heap led → Top p loose mean mg mb h₀ → cs.kind = .function → HdOk hd s.heap → (∀ p ∈ led, hd ≠ some (.ref p.1)) → dp + d < recursionLimit → un + u < cLine →
    (∀ v led' h' tk', Ret s.heap.objs.size v led' → (∀ b o, b ∉ led.map (·.1) → s.heap.get? b = some o → h'.get? b = some o) → Fr h₀ L h' m → News h₀ L h' led' → Q v { s with heap := h', toks := tk' }) →
    wpAny (model prog w) (cTop hd dp un gd cn cs L a ccd cl outer) (call (.ref f) vs) Q E s

/-- the end of a def's body -/
noncomputable def RetAt (g : Heap) (s : Shared) (Ret : Value → List (Addr × Obj) → Prop) (v : Value) (s' : Shared) : Prop :=
  ∃ h' tk' L' m' news', s' = { s with heap := h', toks := tk' } ∧ Fr g L' h' m' ∧ News g L' h' news' ∧ Ret v news'
noncomputable def RetPost (g : Heap) (s : Shared) (Ret : Value → List (Addr × Obj) → Prop) (f : Flow) (s' : Shared) : Prop := RetAt g s Ret (match f with | .ret v => v | _ => .none) s'

section
variable {prog : Program} {w : World} {K : Frag} {hd : Option Value} {f : Addr} {vs : List Value} {d u : Nat} {led : List (Addr × Obj)} {Ret : Nat → Value → List (Addr × Obj) → Prop}
  {name qual : Str} {params : Arguments} {body : List Stmt} {scope : Scope} {dV kV doc pm cdv ct oc : Value} {an od : Option Addr} {osl : Array (Option Value)} {binds : List (Str × Value)}

theorem ground_off {A₀ A : Around} {base h₀ : Heap} {outer : List Env} {L : Addr} {m : Str → Option Value} {s : Shared} {env : Env} (B : Below A₀ base outer h₀) (F : Fr h₀ L s.heap m) (N : News h₀ L s.heap led) (hA : A.frames = some (env :: outer)) (hf : env.frame = some L) (hke : env.scope.kind = .function) :
    Fr h₀ L (hideAll s.heap (led.map (·.1))) m ∧ Below A base (env :: outer) (hideAll s.heap (led.map (·.1))) ∧ h₀.StaysIn (hideAll s.heap (led.map (·.1))) :=
  let ⟨a, b, c, _⟩ := groundX (R := fun _ _ => True) B F N hA hf hke
  ⟨a, b, c⟩

theorem ret_back {A : Around} {E : Value → Shared → Prop} {h₀ h' : Heap} {L L' : Addr} {m m' : Str → Option Value} {s : Shared} {news' : List (Addr × Obj)} (F : Fr h₀ L s.heap m) (N : News h₀ L s.heap led)
    (F' : Fr (hideAll s.heap (led.map (·.1))) L' h' m') (N' : News (hideAll s.heap (led.map (·.1))) L' h' news') :
    (∀ b o, b ∉ led.map (·.1) → s.heap.get? b = some o → h'.get? b = some o) ∧ Fr h₀ L h' m ∧ News h₀ L h' news' := by
  have hL : L ∉ led.map (·.1) := fun q => by
    obtain ⟨p, hp, e⟩ := List.mem_map.mp q
    exact (N p hp).2.1 e
  have h0 : ∀ b o, h₀.get? b = some o → b ∉ led.map (·.1) := fun b o e q => by
    obtain ⟨p, hp, rfl⟩ := List.mem_map.mp q
    rw [(N p hp).2.2] at e; cases e
  have k : ∀ b o, b ∉ led.map (·.1) → s.heap.get? b = some o → h'.get? b = some o := fun b o hb e => F'.keep b o (hideAll_get _ e hb)
  obtain ⟨oL, es, ep, hLo, r⟩ := F.ns
  refine ⟨k, ⟨⟨oL, es, ep, k _ _ hL hLo, r⟩, fun b o e => k b o (h0 b o e) (F.keep b o e), F.above⟩, fun p hp => ⟨(N' p hp).1, fun q => ?_, ?_⟩⟩
  · have := (N' p hp).2.2
    rw [q, hideAll_get _ hLo hL] at this
    cases this
  · cases q : h₀.get? p.1 with
    | none => rfl
    | some o =>
      have := (N' p hp).2.2
      rw [hideAll_get _ (F.keep _ _ q) (h0 _ _ q)] at this
      cases this

theorem hd_hide {h : Heap} (x : HdOk hd h) (hn : ∀ p ∈ led, hd ≠ some (.ref p.1)) : HdOk hd (hideAll h (led.map (·.1))) := fun v e => by
  obtain ⟨a, ob, vs, rfl, e2, r⟩ := x v e
  refine ⟨a, ob, vs, rfl, hideAll_get _ e2 fun q => ?_, r⟩
  obtain ⟨p, hp, q⟩ := List.mem_map.mp q
  exact hn p hp (by rw [e, ← q])

theorem does_plain (ho : K.lookup f = some ⟨oc, od, .func (fnOf name qual params body scope dV kV doc pm an cdv ct), osl⟩) (hcd : codeIn K cdv qual = true) (hd1 : 1 ≤ d)
    (hbind : ∀ s, BindsTo s (fnOf name qual params body scope dV kV doc pm an cdv ct) ⟨vs, []⟩ binds) (hloc : ∀ y ∈ binds, scope.names.lookup y.1 = some .local) (hcell : ∀ x ∈ scope.names, x.2 ≠ .cell)
    (h : ∀ (p : Program) (loose : List Str) (mean : ExcName → Option Value) (mg mb : Str → Option Value) (dp un : Nat) (gd : Option (List Code)) (cn : Str) (cs : Scope) (a : Addr) (ccd : Value) (cl : List (Str × Addr)) (outer : List Env) (A₀ : Around) (base g : Heap) (L L' : Addr) (h₁ : Heap) (s : Shared) (tk : Nat),
      Below A₀ base (envX cn cs L a ccd cl :: outer) g → Fr g L' h₁ (fun y => binds.reverse.lookup y) → K.In g → News g L' h₁ led → Top p loose mean mg mb g → cs.kind = .function → HdOk hd g → dp + d < recursionLimit → un + u < cLine → s.heap.objs.size ≤ L' →
      wpAny (model prog w) ((cTop hd dp un gd cn cs L a ccd cl outer).deeper (envOf qual scope L' f cdv)) (execs body (envOf qual scope L' f cdv)) (RetPost g s (Ret s.heap.objs.size)) (fun _ _ => False) { s with heap := h₁, toks := tk })
    (hco : scope.isCoroutine = false) (hgen : scope.isGenerator = false) (hk : scope.kind = .function) : Does prog w K hd f vs d u led Ret := by
  intro p loose mean mg mb dp un gd cn cs a ccd cl outer A₀ base h₀ L m s Q E B F X N T hcs hok hne hdp hun ret
  obtain ⟨FG, BG, st⟩ := ground_off (A := cTop hd dp un gd cn cs L a ccd cl outer) (env := envX cn cs L a ccd cl) B F N rfl rfl hcs
  refine wpAny_call (codeAny_call_def (fd := fnOf name qual params body scope dV kV doc pm an cdv ct) (body := body) (binds := binds) (by show dp < recursionLimit; omega) ((X.keeps F.keep) _ _ ho) rfl (T.nolimit.keeps F.keep) (codeRec_of (X.keeps F.keep) hcd) rfl (hbind s) hcell hloc (fun h₁ hns hk₁ => ?_) hco hgen hk)
  refine wpAny_mono (h p loose mean mg mb dp un gd cn cs a ccd cl outer _ base _ L s.heap.objs.size h₁ s _ BG ⟨hns, fun b o e => hk₁ b o (of_hideAll _ e), Nat.le_of_eq (hideAll_size _ _)⟩ (X.keeps st)
    (fun p hp => ⟨hk₁ _ _ (N p hp).1, Nat.ne_of_lt (Heap.lt_size (N p hp).1), hideAll_none _ (List.mem_map_of_mem hp)⟩) (T.keeps st) hcs (hd_hide hok hne) hdp hun (Nat.le_refl _)) (fun fl s' hl => ?_) fun _ _ x => x.elim
  obtain ⟨h', tk', L', m', news', rfl, F', N', hr⟩ := hl
  obtain ⟨k, F2, N2⟩ := ret_back (A := cTop hd dp un gd cn cs L a ccd cl outer) (E := E) F N F' N'
  exact ret _ _ _ _ hr k F2 N2

theorem does_cells (ho : K.lookup f = some ⟨oc, od, .func (fnOf name qual params body scope dV kV doc pm an cdv ct), osl⟩) (hcd : codeIn K cdv qual = true) (hd1 : 1 ≤ d)
    (hbind : ∀ s, BindsTo s (fnOf name qual params body scope dV kV doc pm an cdv ct) ⟨vs, []⟩ binds) (hkind : (binds.all fun y => scope.names.lookup y.1 == some .local || scope.names.lookup y.1 == some .cell) = true)
    (hnd : ((cellsFrom 0 scope.names []).map (·.1)).Nodup)
    (h : ∀ (p : Program) (loose : List Str) (mean : ExcName → Option Value) (mg mb : Str → Option Value) (dp un : Nat) (gd : Option (List Code)) (cn : Str) (cs : Scope) (a : Addr) (ccd : Value) (cl : List (Str × Addr)) (outer : List Env) (A₀ : Around) (base g : Heap) (L L' : Addr) (h₁ : Heap) (s : Shared) (tk : Nat) (cells : List (Addr × Obj)),
      Below A₀ base (envX cn cs L a ccd cl :: outer) g → Fr g L' h₁ (bindL (envOfC qual scope L' f cdv).kindOf binds fun _ => none) → K.In g → News g L' h₁ (cells ++ led) → CellsAre (bindC (envOfC qual scope L' f cdv).kindOf binds fun _ => none) (cellsFrom (L' + 1) scope.names []) cells → Top p loose mean mg mb g → cs.kind = .function → HdOk hd g → dp + d < recursionLimit → un + u < cLine → s.heap.objs.size ≤ L' → (∀ p ∈ led, p.1 < L') →
      wpAny (model prog w) ((cTop hd dp un gd cn cs L a ccd cl outer).deeper (envOfC qual scope L' f cdv)) (execs body (envOfC qual scope L' f cdv)) (RetPost g s (Ret s.heap.objs.size)) (fun _ _ => False) { s with heap := h₁, toks := tk })
    (hco : scope.isCoroutine = false) (hgen : scope.isGenerator = false) (hk : scope.kind = .function) : Does prog w K hd f vs d u led Ret := by
  intro p loose mean mg mb dp un gd cn cs a ccd cl outer A₀ base h₀ L m s Q E B F X N T hcs hok hne hdp hun ret
  obtain ⟨FG, BG, st⟩ := ground_off (A := cTop hd dp un gd cn cs L a ccd cl outer) (env := envX cn cs L a ccd cl) B F N rfl rfl hcs
  refine wpAny_call (codeAny_call_function (fd := fnOf name qual params body scope dV kV doc pm an cdv ct) (body := body) (by show dp < recursionLimit; omega) ((X.keeps F.keep) _ _ ho) rfl hco hgen rfl (codeRec_of (X.keeps F.keep) hcd) (hbind s _ _ _ _ ?_))
  refine wpAny_newFunctionEnv_cells hk (kindsX hkind _) fun env' he s' x => ?_
  subst he
  refine ⟨(T.nolimit.keeps F.keep).keeps x.toInCall.keep, codeAny_func ?_⟩
  obtain ⟨h₁, tk, rfl, _⟩ := x.done
  have hk₁ := x.toInCall.keep
  obtain ⟨cells, NC, Y⟩ := Cl.news (h₀ := s.heap) (Nat.le_refl _) fun n c hm => ⟨x.cell n c (lookup_of_mem_nodup (cellsFrom_names scope.names 0 (s.heap.objs.size + 1) [] [] rfl ▸ hnd) hm), x.above n c hm⟩
  refine wpAny_mono (h p loose mean mg mb dp un gd cn cs a ccd cl outer _ base _ L s.heap.objs.size h₁ s tk cells BG ⟨x.toInCall.ns, fun b o e => hk₁ b o (of_hideAll _ e), Nat.le_of_eq (hideAll_size _ _)⟩ (X.keeps st)
    (fun p hp => ?_) Y (T.keeps st) hcs (hd_hide hok hne) hdp hun (Nat.le_refl _) fun p hp => Heap.lt_size (N p hp).1) (fun fl s' hl => ?_) fun _ _ x => x.elim
  · rcases List.mem_append.mp hp with hp | hp
    · refine ⟨(NC p hp).1, (NC p hp).2.1, ?_⟩
      cases q : (hideAll s.heap (led.map (·.1))).get? p.1 with
      | none => rfl
      | some o => have := of_hideAll _ q; rw [(NC p hp).2.2] at this; cases this
    · exact ⟨hk₁ _ _ (N p hp).1, Nat.ne_of_lt (Heap.lt_size (N p hp).1), hideAll_none _ (List.mem_map_of_mem hp)⟩
  · obtain ⟨h', tk', L', m', news', rfl, F', N', hr⟩ := hl
    obtain ⟨k, F2, N2⟩ := ret_back (A := cTop hd dp un gd cn cs L a ccd cl outer) (E := E) F N F' N'
    exact ret _ _ _ _ hr k F2 N2

/-- a call by its contract, the rest of the ledger standing as it stands -/
theorem call_by {p : Program} {loose : List Str} {mean : ExcName → Option Value} {mg mb : Str → Option Value} {dp un : Nat} {gd : Option (List Code)} {cn : Str} {cs : Scope} {a : Addr} {ccd : Value} {cl : List (Str × Addr)} {outer : List Env} {A₀ : Around} {base h₀ : Heap} {L : Addr} {m : Str → Option Value} {s : Shared} {Q E : Value → Shared → Prop} {news : List (Addr × Obj)}
    (C : Does prog w K hd f vs d u led Ret) (rest : List (Addr × Obj)) (B : Below A₀ base outer h₀) (F : Fr h₀ L s.heap m) (X : K.In h₀) (N : News h₀ L s.heap news) (T : Top p loose mean mg mb h₀) (hk : cs.kind = .function) (hok : HdOk hd s.heap) (hne : ∀ p ∈ led, hd ≠ some (.ref p.1))
    (hdp : dp + d < recursionLimit) (hun : un + u < cLine) (hsub : ∀ p ∈ led ++ rest, p ∈ news) (hoff : ∀ p ∈ rest, ∀ q ∈ led, p.1 ≠ q.1)
    (ret : ∀ v led' h' tk', Ret s.heap.objs.size v led' → (∀ p ∈ news, p.1 < s.heap.objs.size) → Fr h₀ L h' m → News h₀ L h' (led' ++ rest) → HdOk hd h' → Q v { s with heap := h', toks := tk' }) :
    wpAny (model prog w) (cTop hd dp un gd cn cs L a ccd cl outer) (call (.ref f) vs) Q E s := by
  refine C p loose mean mg mb dp un gd cn cs a ccd cl outer A₀ base h₀ L m s Q E B F X (fun p hp => N p (hsub p (List.mem_append_left _ hp))) T hk hok hne hdp hun fun v led' h' tk' hr k F' N' => ?_
  refine ret v led' h' tk' hr (fun p hp => Heap.lt_size (N p hp).1) F' (fun p hp => ?_) fun v' e => ?_
  · rcases List.mem_append.mp hp with hp | hp
    · exact N' p hp
    · have z := N p (hsub p (List.mem_append_right _ hp))
      refine ⟨k _ _ (fun q => ?_) z.1, z.2⟩
      obtain ⟨q', hq', e⟩ := List.mem_map.mp q
      exact hoff p hp q' hq' e.symm
  · obtain ⟨b, ob, ws, rfl, e2, r⟩ := hok v' e
    refine ⟨b, ob, ws, rfl, k _ _ (fun q => ?_) e2, r⟩
    obtain ⟨q', hq', e'⟩ := List.mem_map.mp q
    exact hne q' hq' (by rw [e, ← e'])
end
end

section
open PySem PySem.W PySem.Calls PySem.Spec PyProof.Rows

section
variable {prog : Program} {w : World} {A : Around} {E : Value → Shared → Prop} {s : Shared} {env : Env} {h₀ : Heap} {L : Addr} {m : Str → Option Value} {news : List (Addr × Obj)}

theorem unpack_items {l : Addr} {items : Array Value} {Q : List Value → Shared → Prop} (hok : HdOk A.handled s.heap) (hl : s.heap.IsList l items)
    (hQ : ∀ h', Heap.ExtBut s.heap.objs.size s.heap h' → Q items.toList { s with heap := h' }) : wpAny (model prog w) A (unpackItems (.ref l) items.size none) Q E s := by
  have hlt : l ≠ s.heap.objs.size := by obtain ⟨o, ho, _⟩ := hl; exact Nat.ne_of_lt (Heap.lt_size ho)
  have hne : ∀ e, A.handled = some (.ref e) → e ≠ s.heap.objs.size := fun e he q => by
    obtain ⟨e', ob, vs, q1, q2, _⟩ := hok _ he
    cases q1
    exact Nat.ne_of_lt (Heap.lt_size q2) q
  unfold unpackItems
  refine wpAny_bind ?_
  unfold notIterableAtAll
  refine wpAny_bind (wpAny_specialOf hl.typeIs slot_list_iter.lookup ?_)
  refine wpAny_pure ?_
  simp only [Bool.false_eq_true, if_false]
  refine wpAny_bind (wpAny_holding (wpAny_pyIter_list hl ?_))
  refine wpAny_bind (wpAny_holding (kun_draw hlt items.size 0 _ _ ⟨_, Heap.get?_push_size _ rfl, rfl, rfl⟩ (hl.push _) (by omega) fun h₁ hit₁ hs₁ => ?_))
  have hall : List.take items.size (List.drop 0 items.toList) = items.toList := by
    rw [List.drop_zero]; exact List.take_of_length_le (by simp)
  rw [hall]
  rw [if_neg (by simp)]
  have hl₁ : h₁.IsList l items := (hl.push _).extBut hs₁.extBut hlt
  have hok₁ : HdOk A.handled h₁ := fun v e => by
    obtain ⟨a, ob, vs, q1, q2, r⟩ := hok v e
    subst q1
    exact ⟨a, ob, vs, rfl, hs₁.extBut _ _ (hne a e) (Heap.get?_push_of_some _ q2), r⟩
  refine wpAny_bind (wpAny_holding (list_end hok₁ hne hit₁ hl₁ (by simp) fun h₂ he₂ => ?_))
  simp only [Option.isSome_none, Bool.false_eq_true, if_false]
  exact wpAny_pure (hQ h₂ fun b o hb e => he₂ b o hb (hs₁.extBut b o hb (Heap.get?_push_of_some _ e)))

theorem unpack_list {l : Addr} {items : Array Value} {elts : List Expr} {k : Nat} {pos : Pos} {Q : Unit → Shared → Prop} (hok : HdOk A.handled h₀) (F : Fr h₀ L s.heap m) (N : News h₀ L s.heap news) (hl : s.heap.IsList l items) (hn : (assignEach elts env).length = items.size)
    (hstar : (assignEach elts env).findIdx? (·.1) = none) (h : ∀ h', Fr h₀ L h' m → News h₀ L h' news → wpAny (model prog w) A (assignInOrder ((assignEach elts env).map (·.2)) items.toList) Q E { s with heap := h' }) :
    wpAny (model prog w) A (assign (.Tuple elts k pos) env (.ref l)) Q E s := by
  rw [assign_Tuple]
  refine wpAny_bind (wpAny_standAt ?_)
  unfold unpack
  rw [hn, hstar]
  exact wpAny_bind (wpAny_holding (unpack_items (hok.keeps F.keep) hl fun h' he => h h' (F.extBut he (Nat.le_refl _)) (N.extBut he (Nat.le_refl _))))
end

theorem ret_intro {g : Heap} {s : Shared} {Ret : Value → List (Addr × Obj) → Prop} {v : Value} {h' : Heap} {tk' : Nat} {L' : Addr} {m' : Str → Option Value} {news'' : List (Addr × Obj)} (F : Fr g L' h' m') (N : News g L' h' news'') (led' : List (Addr × Obj)) (sub : ∀ p ∈ led', p ∈ news'') (hr : Ret v led') :
    RetPost g s Ret (.ret v) { s with heap := h', toks := tk' } := ⟨h', tk', L', m', led', rfl, F, fun p hp => N p (sub p hp), hr⟩

/-- a def that makes nothing that stays and changes nothing -/
theorem call_pure {K : Frag} {f : Addr} {vs : List Value} {d u : Nat} {R : Value → Prop} {p : Program} {loose : List Str} {mean : ExcName → Option Value} {mg mb : Str → Option Value} {hd : Option Value} {dp un : Nat} {gd : Option (List Code)} {cn : Str} {cs : Scope} {a : Addr} {ccd : Value} {cl : List (Str × Addr)} {outer : List Env} {A₀ : Around} {base h₀ : Heap} {L : Addr} {m : Str → Option Value} {s : Shared} {Q E : Value → Shared → Prop} {news : List (Addr × Obj)}
    {prog : Program} {w : World} (C : Does prog w K hd f vs d u [] (fun _ v led' => R v ∧ led' = [])) (B : Below A₀ base outer h₀) (F : Fr h₀ L s.heap m) (X : K.In h₀) (N : News h₀ L s.heap news) (T : Top p loose mean mg mb h₀) (hk : cs.kind = .function) (hok : HdOk hd s.heap)
    (hdp : dp + d < recursionLimit) (hun : un + u < cLine) (ret : ∀ v h' tk', R v → Fr h₀ L h' m → News h₀ L h' news → Q v { s with heap := h', toks := tk' }) :
    wpAny (model prog w) (cTop hd dp un gd cn cs L a ccd cl outer) (call (.ref f) vs) Q E s :=
  call_by C news B F X N T hk hok (fun _ h => nomatch h) hdp hun (fun _ h => h) (fun _ _ _ h => nomatch h) fun v led' h' tk' hr _ F' N' _ => by
    obtain ⟨hr, rfl⟩ := hr
    exact ret v h' tk' hr F' N'
noncomputable def StopAt (p : Prop) : Prop := p
theorem stop_at {p : Prop} (h : StopAt p) : p := h
noncomputable def Joined (P : Shared → Prop) (f : Flow) (s' : Shared) : Prop := f = .next ∧ P s'
end

section
open PySem PySem.W PySem.Calls PySem.Spec PyProof.Rows
theorem int_no_bytes : typeLookup (.type "int") "__bytes__" = pure none := by rw [typeLookup_type, builtinLookup_eq_fast]; kernel_rfl
section
variable {prog : Program} {w : World} {A : Around} {E : Value → Shared → Prop} {s : Shared}

/-- bytes(n): n noughts -/
theorem new_count {n : Int} {t : Tok} {Q : Value → Shared → Prop} (h0 : 0 ≤ n) (h1 : n ≤ 1000) (hQ : ∀ t k, Q (.bytes (Array.replicate n.toNat 0) t) { s with toks := k }) :
    codeAny (model prog w) A (.call (.builtin "bytes.__new__") ⟨[.type "bytes", .int n t], []⟩) (wants Q E) s := by
  refine codeAny_of_tree ?_
  show wpAny _ A.in1 (do checkBuiltinCall "bytes.__new__" ⟨[.type "bytes", .int n t], []⟩; again (.builtin "bytes.__new__" ⟨[.type "bytes", .int n t], []⟩)) _ _ s
  refine wpAny_bind (wpAny_of_eq (F.bm_newCall _) (wpAny_pure ⟨plainId_quiet F.bm_plain _, codeAny_builtin F.bm_entry ?_⟩))
  rw [Around.under_plainId F.bm_plain _]
  unfold Builtin.«bytes.__new__»
  refine wpAny_bind (wpAny_of_eq (a := true) rfl ?_)
  refine bm_if_false rfl ?_
  refine wpAny_bind (wpAny_of_eq F.bm_sub ?_)
  refine bm_if_false rfl ?_
  refine wpAny_bind (wpAny_of_eq (F.bm_bind _) ?_)
  refine wpAny_bind (wpAny_of_eq (a := ()) rfl ?_)
  refine wpAny_bind (wpAny_of_eq (a := ()) rfl ?_)
  refine bm_if_false rfl ?_
  refine wpAny_bind (wpAny_specialOf (typeIs_int s n t) int_no_bytes ?_)
  refine wpAny_bind (wpAny_of_eq (a := false) rfl ?_)
  refine bm_if_false rfl ?_
  refine wpAny_bind (wpAny_specialOf (typeIs_int s n t) F.slot_int_index.lookup ?_)
  refine bm_if_false rfl ?_
  refine wpAny_bind (wpAny_attempt (wpAny_of_eq (rfl : asIndex (.int n t) = pure n) ?_))
  have hf : Builtin.Bytes.fitsIndex n = true := by
    simp only [Builtin.Bytes.fitsIndex, Bool.and_eq_true, decide_eq_true_eq]
    omega
  dsimp only
  refine bm_if_false (by rw [hf]; rfl) ?_
  refine wpAny_ite ?_
  rw [if_neg (by omega)]
  refine wpAny_ite ?_
  rw [if_neg (by omega)]
  refine bm_if_false (KBy.tooLong_not (by omega)) ?_
  refine wpAny_bind (wpAny_rule ?_)
  refine wpAny_bind (wpAny_mkBytes ?_ (by rw [Array.size_replicate, sizeLine_eq]; omega))
  show wpAny _ _ (if (Value.type "bytes" == Value.type "bytes") = true then _ else _) _ _ _
  refine bm_if_true (by decide) ?_
  first
    | exact wpAny_pure (hQ _ _)
    | exact wpAny_bind (wpAny_pure (wpAny_pure (hQ _ _)))

theorem call_count {n : Int} {t : Tok} {Q : Value → Shared → Prop} (h0 : 0 ≤ n) (h1 : n ≤ 1000) (hQ : ∀ b t k zs, KBw.bInts b = zs → zs = List.replicate n.toNat 0 → zs.length = n.toNat → zs.length ≤ 1000 → Q (.bytes b t) { s with toks := k }) : wpAny (model prog w) A (call (.type "bytes") [.int n t]) Q E s := by
  refine callType_codes (Q₁ := fun obj s₁ => s₁.TypeIs obj "bytes" ∧ Q obj s₁) F.bm_called (F.bm_typeCall _) F.entry_object_init
    (new_count h0 h1 fun t k => ⟨PySem.W.typeIs_bytes _ _ _, hQ _ t k _ (by unfold KBw.bInts; simp) rfl (by simp) (by simp; omega)⟩) fun obj s₁ h₁ => ?_
  exact ⟨h₁.1, F.args_object_init_2 obj _, object_init_meets F.bm_called.init.lookup F.bm_called.made (by decide) prog w A.in1 _ s₁ ⟨h₁.1, rfl, h₁.2⟩⟩
end
end

section
open PySem PySem.W PySem.Calls PySem.Spec PyProof.Rows
open Builtin
set_option maxRecDepth 100000
section
variable {M : Model} {A : Around} {E : Value → Shared → Prop} {s : Shared} {b : Array UInt8} {t : Tok}
theorem take_at {id : String} {Q : Option (Array UInt8 × Option Value) → Shared → Prop} (h : Q (some (b, none)) s) : wpAny M A (Bytes.takeBufferQuiet? id (.bytes b t) 0) Q E s := by
  unfold Bytes.takeBufferQuiet?
  refine wpAny_bind (wpAny_attempt ?_)
  unfold Bytes.takeBuffer?
  refine wpAny_bind (wpAny_of_eq (KBy.special_eq KBy.look_buffer) ?_)
  dsimp only
  refine wpAny_bind (wpAny_of_eq KBy.own_buffer ?_)
  refine bm_if_false rfl ?_
  refine wpAny_bind (wpAny_of_eq (KBy.special_eq KBy.look_buffer) ?_)
  show wpAny _ _ (Bytes.buffer? id (.bytes b t) (0 == Bytes.fullReadOnly) >>= fun r => pure (r.map (·, none))) _ _ _
  have e : (0 == Bytes.fullReadOnly) = false := by decide
  rw [e]
  refine wpAny_bind (wpAny_of_eq KBy.buffer_eq ?_)
  exact wpAny_pure (wpAny_pure h)
end
section
variable {prog : Program} {w : World} {A : Around} {E : Value → Shared → Prop} {s : Shared}
theorem letgo_none {keep : List Value} {Q : Unit → Shared → Prop} : ∀ {taken : List (Value × Option Value)}, (∀ p ∈ taken, p.2 = none) → Q () s → wpAny (model prog w) A (Bytes.joinLetGo taken keep) Q E s
  | [], _, h => wpAny_pure h
  | (x, v) :: r, hn, h => by
    have e : v = none := hn (x, v) (.head _)
    subst e
    unfold Bytes.joinLetGo
    dsimp only
    exact wpAny_bind (wpAny_letGo (letgo_none (fun p hp => hn p (.tail _ hp)) h))
theorem joined4 (b0 b1 b2 b3 : Array UInt8) : Bytes.joined #[] [b0, b1, b2, b3] = b0 ++ b1 ++ b2 ++ b3 := by
  simp [Bytes.joined, List.zipIdx]
theorem join_tree {l : Addr} {sep b0 b1 b2 b3 : Array UInt8} {ts t0 t1 t2 t3 : Tok} {P : Fin → Shared → Prop} (hl : s.heap.IsList l #[.bytes b0 t0, .bytes b1 t1, .bytes b2 t2, .bytes b3 t3])
    (hsep : sep = #[]) (hsz : b0.size + b1.size + b2.size + b3.size ≤ 16777216) (h : ∀ t k, P (.done (.ret (.bytes (b0 ++ b1 ++ b2 ++ b3) t))) { s with toks := k }) :
    wpAny (model prog w) A (Builtin.«bytes.join» ⟨[.bytes sep ts, .ref l], []⟩) P E s := by
  obtain ⟨ol, hol, hoc, nl, hod⟩ := id hl
  unfold Builtin.«bytes.join» Bytes.joinM
  refine wpAny_bind (wpAny_of_eq (a := (.bytes sep ts, .ref l)) rfl ?_)
  dsimp only
  refine bm_if_true (by rfl) ?_
  refine wpAny_bind ?_
  unfold Bytes.joinItems
  refine wpAny_bind (wpAny_typeOf hl.typeIs ?_)
  refine bm_if_true (by decide) ?_
  refine wpAny_pure ?_
  refine wpAny_bind (wpAny_seqItems hol hod ?_)
  dsimp only
  refine bm_if_true (by rfl) ?_
  show wpAny _ _ (forIn [0:4] (#[], []) _ >>= _) _ _ _
  rw [Std.Legacy.Range.forIn_eq_forIn_range']
  refine wpAny_bind ?_
  show wpAny _ _ (forIn [0, 1, 2, 3] (#[], []) _) _ _ _
  iterate 4
    rw [List.forIn_cons]
    refine wpAny_bind ?_
    refine wpAny_bind (wpAny_seqItems hol hod ?_)
    dsimp only
    refine bm_if_false (by rfl) ?_
    refine wpAny_bind (wpAny_holding (take_at ?_))
    dsimp only
    refine wpAny_bind (wpAny_seqItems hol hod ?_)
    dsimp only
    refine bm_if_false (by rfl) ?_
    refine wpAny_pure ?_
    dsimp only
  rw [List.forIn_nil]
  refine wpAny_pure ?_
  dsimp only
  subst hsep
  refine wpAny_bind (wpAny_of_eq (a := #[]) rfl ?_)
  refine bm_if_false (KBy.tooLong_not (by simp; omega)) ?_
  have ej : Bytes.joined #[] ((((#[].push b0).push b1).push b2).push b3).toList = b0 ++ b1 ++ b2 ++ b3 := by
    rw [← joined4]; simp
  rw [ej]
  refine wpAny_bind (wpAny_mkBytes ?_ (by simp only [Array.size_append, sizeLine_eq]; exact hsz))
  refine wpAny_bind (wpAny_holding (wpAny_point ?_))
  refine wpAny_bind (letgo_none (by simp) ?_)
  exact wpAny_pure (h _ _)

theorem slot_join : Slot "bytes" "join" "bytes.join" :=
  .of (owner := "bytes") (n := "join") (by rw [typeLookup_type, builtinLookup_eq_fast]; kernel_rfl) (by decide +kernel) (by decide +kernel) (by decide +kernel)
    (by first | exact .inl (by decide +kernel) | exact .inr (by decide +kernel)) (by rw [isSubtype_type]; kernel_rfl)
theorem type_join : typeOf (.builtin "bytes.join") = pure (.type "method_descriptor") := by show builtinType _ = _; rw [builtinType_eq_fast]; kernel_rfl
theorem entry_join : entryFor table "bytes.join" = some Builtin.«bytes.join» := entryFor_of_tree (by kernel_rfl)
theorem args_join (a b : Value) : argsOk "bytes.join" ⟨[a, b], []⟩ := by unfold argsOk; kernel_rfl
theorem method_join {M : Model} {b : Array UInt8} {t : Tok} {pl : Sem Bool} {Q : Value × List Value → Shared → Prop} (h : Q (.builtin "bytes.join", [.bytes b t]) s) : wpAny M A (getMethod (.bytes b t) "join" pl) Q E s := by
  with_reducible exact KBd.method_of (.bytes b t) (typeIs_bytes _ _ _) slot_join type_join KBd.noRef h
theorem call_join {l : Addr} {sep b0 b1 b2 b3 : Array UInt8} {ts t0 t1 t2 t3 : Tok} {k0 k1 k2 k3 : List Int} {Q : Value → Shared → Prop} (hl : s.heap.IsList l #[.bytes b0 t0, .bytes b1 t1, .bytes b2 t2, .bytes b3 t3])
    (hsep : sep = #[]) (h0 : KBw.bInts b0 = k0) (h1 : KBw.bInts b1 = k1) (h2 : KBw.bInts b2 = k2) (h3 : KBw.bInts b3 = k3) (hsz : k0.length + k1.length + k2.length + k3.length ≤ 16777216)
    (h : ∀ b t k, KBw.bInts b = k0 ++ k1 ++ k2 ++ k3 → Q (.bytes b t) { s with toks := k }) :
    wpAny (model prog w) A (call (.builtin "bytes.join") [.bytes sep ts, .ref l]) Q E s := by
  refine wpAny_call_entry slot_join (typeIs_bytes _ _ _) entry_join ?_ (args_join _ _)
  refine join_tree hl hsep ?_ fun t k => ⟨_, rfl, h _ t k (KBw.ints_app (KBw.ints_app (KBw.ints_app h0 h1) h2) h3)⟩
  rw [← KBw.ints_length b0, ← KBw.ints_length b1, ← KBw.ints_length b2, ← KBw.ints_length b3, h0, h1, h2, h3]
  exact hsz
end
end

local macro_rules | `(tactic| walk_at $s:str) => `(tactic| k_extra $s)
local macro_rules | `(tactic| ksa_idx) => `(tactic| k_extra "ksa_idx")

section
open PySem PySem.W PySem.Calls PyProof.Rows
set_option maxRecDepth 100000 in
set_option maxHeartbeats 8000000 in
open_shared tops for PySem.Challenge.rw_iw0003_01.row.prog leaving 0
set_option maxRecDepth 100000 in
theorem top_body : behindTheImports PySem.Challenge.rw_iw0003_01.row.prog = tops.sts_4 ++ (tops.sts_22 ++ (tops.sts_174 ++ [])) := by kernel_rfl
set_option maxRecDepth 100000 in
theorem top_pre (w : World) (os : OsState) : topGo treeTable PySem.Challenge.rw_iw0003_01.row.prog w 11 (some (.ref 6)) 12 ⟨boot_heap w.params, Array.mk [], boot_drawn, boot_toks, os⟩ (topStub PySem.Challenge.rw_iw0003_01.row.prog) =
    some (SharedT.abs ⟨tops.tree_4 w.params, 15, {}, Array.mk [], {}, 187, os⟩, ⟨denote treeTable (.body (behindTheImports PySem.Challenge.rw_iw0003_01.row.prog) tops.env_1), .body (behindTheImports PySem.Challenge.rw_iw0003_01.row.prog) tops.env_1, ⟨0, 0, 0, 0⟩, [topFrame ⟨0, 0, 0, 0⟩]⟩) := by kernel_rfl
set_option maxRecDepth 100000 in
theorem top_block (w : World) (os : OsState) : segRun treeTable PySem.Challenge.rw_iw0003_01.row.prog w 11 (some (.ref 6)) 1 1 (SharedT.abs ⟨tops.tree_4 w.params, 15, {}, Array.mk [], {}, 187, os⟩)
      (blockOf (behindTheImports PySem.Challenge.rw_iw0003_01.row.prog) tops.env_1 (.body (behindTheImports PySem.Challenge.rw_iw0003_01.row.prog) tops.env_1) ⟨0, 0, 0, 0⟩ [topFrame ⟨0, 0, 0, 0⟩]) =
    some (.next, SharedT.abs ⟨tops.tree_4 w.params, 15, {}, Array.mk [], {}, 187, os⟩, .body (behindTheImports PySem.Challenge.rw_iw0003_01.row.prog) tops.env_1, ⟨0, 0, 0, 0⟩) := by kernel_rfl
set_option maxRecDepth 100000 in
theorem top_fin (w : World) (os : OsState) : topRun treeTable PySem.Challenge.rw_iw0003_01.row.prog w 11 (some (.ref 6)) 2 (SharedT.abs ⟨tops.tree_207 w.params, 163, {}, Array.mk [], {}, 649, os⟩)
      ⟨doneF .next, .body (behindTheImports PySem.Challenge.rw_iw0003_01.row.prog) tops.env_1, ⟨111, 0, 147, 34⟩, [topFrame ⟨0, 0, 0, 0⟩]⟩ = some ⟨absHeap (tops.tree_207 w.params) 163 {}, Array.mk [], {}, 649, os⟩ := by kernel_rfl
set_option maxRecDepth 100000 in
theorem top_run (w : World) (os : OsState) : topRun treeTable PySem.Challenge.rw_iw0003_01.row.prog w 11 (some (.ref 6)) (12 + (1 + (93 + (868 + (199 + 2))))) ⟨boot_heap w.params, Array.mk [], boot_drawn, boot_toks, os⟩ (topStub PySem.Challenge.rw_iw0003_01.row.prog) =
    some ⟨absHeap (tops.tree_207 w.params) 163 {}, Array.mk [], {}, 649, os⟩ := by
  have k := tops.chain PySem.Challenge.rw_iw0003_01.row.prog (behindTheImports PySem.Challenge.rw_iw0003_01.row.prog) w os [] 2 _ (piece_nil (top_fin w os))
  rw [← top_body] at k
  exact go_top (top_pre w os) (piece_block (top_block w os) k)
set_option maxRecDepth 100000 in
theorem top_size (w : World) : ((boot_heap w.params).isNs mainGlobals && (Array.mk [] : Array GenState).size == 0, (boot_heap w.params).objs.size, (boot_heap w.params).nsMap mainGlobals "__annotations__") = (true, 11, some (.ref 6)) := by kernel_rfl
/-- the law's own def alone -/
noncomputable def seenPart : Program := view PySem.Challenge.rw_iw0003_01.row.toRowW.1 [12]
noncomputable def looseNames : List Str := [Str.ofString "F", Str.ofString "G", Str.ofString "MASK_32", Str.ofString "md4", Str.ofString "_law_third", Str.ofString "_law_by", Str.ofString "_law_turned", Str.ofString "_law_block", Str.ofString "_law_digest", Str.ofString "_law_hex"]
set_option hygiene false in
local macro_rules | `(tactic| o_head $H) => `(tactic| (
  refine holds_open (q := seenPart) (loose := looseNames) (Xt := fun s => xlAt seenPart [] s && recOk (RowW.records PySem.Challenge.rw_iw0003_01.row.toRowW) s) (XP := XL seenPart []) (Yf := Hook.obs $H) (Ya := Hook.val $H) (YP := Hook.says $H) (N := 2440) ?hl (Hook.of $H) (Hook.keeps $H) (fun s e => xl_of s (Bool.and_eq_true_iff.mp e).1) XL.keeps (by rfl) (by rfl) (by rfl) (fun s e => recFacts_of (Bool.and_eq_true_iff.mp e).2) (by rfl) (by first | assumption | decide +kernel) (by decide +kernel) ⟨rfl, rfl, rfl, rfl, rfl, by decide +kernel⟩ ?hw ?hc
  case hl => (
    refine LeftO.of_pieces (H₁ := fun P => absHeap (tops.tree_207 P) 163 {}) (m₀ := 11) (ann := some (.ref 6)) (M := 12 + (1 + (93 + (868 + (199 + 2))))) (boot_open (by kernel_rfl) rfl (fun s => rfl)) top_size top_run rfl ?_
    intro w
    kernel_rfl)
  all_goals (repeat (rename _ => zz; clear zz))))
set_option maxRecDepth 100000 in
set_option maxHeartbeats 8000000 in
open_top hd for PySem.Challenge.rw_iw0003_01
end

section
open PySem PySem.W PySem.Calls PySem.Spec PyProof.Rows

noncomputable def turned (n b : Int) : Int := (n.fmod 4294967296 * 2 ^ b.toNat).fmod 4294967296 + (n.fmod 4294967296).fdiv (2 ^ (32 - b).toNat)

set_option maxRecDepth 100000 in
set_option maxHeartbeats 8000000 in
theorem turned_does {w : World} {e : Option Value} {n b : Int} {t u : Tok} (h0 : 0 ≤ b) (h32 : b ≤ 32) : Does PySem.Challenge.rw_iw0003_01.row.prog w (hd.heap_39 w.params) e 142 [.int n t, .int b u] 1 20 [] (fun _ v led' => (∃ t, v = .int (turned n b) t) ∧ led' = []) := by
  w_top off
  k_with_none
  k_fill
  refine' does_plain (binds := [(Str.ofString "number", .int n t), (Str.ofString "by", .int b u)]) ?ho ?hcd ?hd1 ?hbind ?hloc ?hcell ?h ?c2 ?c3 ?c4
  case ho => k_dflt k_is
  case hcd => k_dflt k_is
  case hd1 => omega
  case hbind => intro _; exact BindsTo.of_eq rfl
  case hloc => exact locs rfl
  case hcell => decide
  case c2 => exact rfl
  case c3 => exact rfl
  case c4 => exact rfl
  intro p loose mean mg mb dp un gd cn cs a ccd cl outer A₀ base g L L' h₁ s tk B F X N T hk hok hdp hun hs
  (try dsimp only)
  k_fold
  k_steps
  all_goals exact ⟨_, _, _, _, _, rfl, by assumption, by assumption, ⟨_, rfl⟩, rfl⟩
end

section
open PySem PySem.W PySem.Calls PySem.Spec PyProof.Rows
theorem getD_in {ns : List Int} {B : Int} (h : ∀ n ∈ ns, 0 ≤ n ∧ n ≤ B) (hB : 0 ≤ B) (j : Nat) : 0 ≤ ns.getD j 0 ∧ ns.getD j 0 ≤ B := by
  rw [List.getD_eq_getElem?_getD]
  cases e : ns[j]? with
  | none => exact ⟨Int.le_refl 0, hB⟩
  | some x => exact h _ (List.mem_of_getElem? e)
theorem fmod4 (i : Nat) : Int.fmod (i : Int) 4 = ((i % 4 : Nat) : Int) := by
  rw [Int.fmod_eq_emod_of_nonneg _ (by decide)]; rfl
theorem fdiv4 (i : Nat) : Int.fdiv (i : Int) 4 = ((i / 4 : Nat) : Int) := by
  rw [Int.fdiv_eq_ediv_of_nonneg _ (by decide)]; rfl
theorem idx2 (i : Nat) : (((i % 4 : Nat) : Int) * 4 + ((i / 4 : Nat) : Int)).toNat = i % 4 * 4 + i / 4 := by omega
theorem idx2_lt {i : Nat} (hi : i < 16) : i % 4 * 4 + i / 4 < 16 := by omega
noncomputable abbrev Q4 := Int × Int × Int × Int
noncomputable def iterQ (f : Nat → Q4 → Q4) : Nat → Q4 → Q4
  | 0, q => q
  | n + 1, q => f n (iterQ f n q)
noncomputable def by1 (i : Nat) : Int := [3, 7, 11, 19].getD (i % 4) 0
noncomputable def by2 (i : Nat) : Int := [3, 5, 9, 13].getD (i % 4) 0
noncomputable def by3 (i : Nat) : Int := [3, 9, 11, 15].getD (i % 4) 0
noncomputable def third (i : Nat) : Int := [0, 8, 4, 12, 2, 10, 6, 14, 1, 9, 5, 13, 3, 11, 7, 15].getD i 0
theorem third_in (j : Nat) : 0 ≤ ([0, 8, 4, 12, 2, 10, 6, 14, 1, 9, 5, 13, 3, 11, 7, 15] : List Int).getD j 0 ∧ ([0, 8, 4, 12, 2, 10, 6, 14, 1, 9, 5, 13, 3, 11, 7, 15] : List Int).getD j 0 ≤ 15 := getD_in (by decide) (by decide) j
theorem third_lt (j : Nat) : (([0, 8, 4, 12, 2, 10, 6, 14, 1, 9, 5, 13, 3, 11, 7, 15] : List Int).getD j 0).toNat < 16 := by have := third_in j; omega
noncomputable def lstep1 (W : Nat → Int) (i : Nat) (q : Q4) : Q4 := (q.2.2.2, turned (q.1 + Builtin.bitXor q.2.2.2 (Builtin.bitAnd q.2.1 (Builtin.bitXor q.2.2.1 q.2.2.2)) + W i) (by1 i), q.2.1, q.2.2.1)
noncomputable def lstep2 (W : Nat → Int) (i : Nat) (q : Q4) : Q4 := (q.2.2.2, turned (q.1 + Builtin.bitOr (Builtin.bitAnd q.2.1 q.2.2.1) (Builtin.bitAnd q.2.2.2 (Builtin.bitOr q.2.1 q.2.2.1)) + W (i % 4 * 4 + i / 4) + 1518500249) (by2 i), q.2.1, q.2.2.1)
noncomputable def lstep3 (W : Nat → Int) (i : Nat) (q : Q4) : Q4 := (q.2.2.2, turned (q.1 + Builtin.bitXor (Builtin.bitXor q.2.1 q.2.2.1) q.2.2.2 + W (third i).toNat + 1859775393) (by3 i), q.2.1, q.2.2.1)
noncomputable def wordAt (ks : List Int) (i : Nat) : Int := KFB.value ((ks.drop (4 * i)).take 4).reverse
noncomputable def ladd (q r : Q4) : Q4 := ((q.1 + r.1).fmod 4294967296, (q.2.1 + r.2.1).fmod 4294967296, (q.2.2.1 + r.2.2.1).fmod 4294967296, (q.2.2.2 + r.2.2.2).fmod 4294967296)
@[irreducible] noncomputable def lblock (ks : List Int) (q : Q4) : Q4 := ladd q (iterQ (lstep3 (wordAt ks)) 16 (iterQ (lstep2 (wordAt ks)) 16 (iterQ (lstep1 (wordAt ks)) 16 q)))
noncomputable abbrev frameQ (q : Q4) (tt : Tok × Tok × Tok × Tok) (D sl : Addr) : List (Str × Value) := [(Str.ofString "a", .int q.1 tt.1), (Str.ofString "b", .int q.2.1 tt.2.1), (Str.ofString "c", .int q.2.2.1 tt.2.2.1), (Str.ofString "d", .int q.2.2.2 tt.2.2.2), (Str.ofString "words", .ref D), (Str.ofString "state", .ref sl)]
noncomputable abbrev quad (a b c d : Int) (ta tb tc td : Tok) : List Value := [.int a ta, .int b tb, .int c tc, .int d td]
noncomputable abbrev quadQ (q : Q4) (tt : Tok × Tok × Tok × Tok) : List Value := quad q.1 q.2.1 q.2.2.1 q.2.2.2 tt.1 tt.2.1 tt.2.2.1 tt.2.2.2

theorem word_bytes {ks : List Int} (hlen : ks.length = 64) {i : Nat} (hi : i < 16) : List.take (clipAt ks.length (((4 * i : Nat) : Int) + 4) - min (4 * i) ks.length) (List.drop (min (4 * i) ks.length) ks) = (ks.drop (4 * i)).take 4 := by
  have e : ((4 * i : Nat) : Int) + 4 = ((4 * i + 4 : Nat) : Int) := by omega
  rw [e, clipAt_nat, hlen]
  rw [show min (4 * i + 4) 64 - min (4 * i) 64 = 4 by omega, show min (4 * i) 64 = 4 * i by omega]
theorem ints_of {n : Nat} {f : Nat → Int} : ∀ {ys : List Value}, ys.length = n → (∀ (i : Nat) y, ys[i]? = some y → ∃ t, y = .int (f i) t) → IntsAre ys ((List.range n).map f) := by
  induction n generalizing f with
  | zero =>
    intro ys h _
    rw [List.length_eq_zero_iff.mp h]
    exact IntsAre.nil
  | succ n ih =>
    intro ys h hR
    cases ys with
    | nil => simp at h
    | cons y r =>
      obtain ⟨t, rfl⟩ := hR 0 y rfl
      rw [List.range_succ_eq_map, List.map_cons, List.map_map]
      exact IntsAre.cons _ _ (ih (f := f ∘ Nat.succ) (by simpa using h) fun i y e => hR (i + 1) y (by simpa using e))


set_option maxRecDepth 100000 in
set_option maxHeartbeats 8000000 in
theorem block_does {w : World} {sl : Addr} {a0 b0 c0 d0 : Int} {ta tb tc td : Tok} {n0 : Nat} {blk : Array UInt8} {u : Tok} {ks : List Int} (hks : KBw.bInts blk = ks) (hlen : ks.length = 64) :
    Does PySem.Challenge.rw_iw0003_01.row.prog w (hd.heap_39 w.params) none 147 [.ref sl, .bytes blk u] 2 40 [(sl, listOf (quad a0 b0 c0 d0 ta tb tc td).toArray n0)]
      (fun n v led' => ∃ r tt n', v = .ref r ∧ n ≤ r ∧ led' = [(r, listOf (quadQ (lblock ks (a0, b0, c0, d0)) tt).toArray n'), (sl, listOf (quad a0 b0 c0 d0 ta tb tc td).toArray n0)]) := by
  w_top off
  k_with_none
  k_with "eval BinOp" => (k_here; k_fold; refine wpAny_BinOp ?_)
  k_with "eval Subscript" => (k_here; k_fold; walk1)
  k_with "eval Call" => (k_here; k_fold; walk1)
  k_with "eval Call Attribute" => (k_here; k_fold; walk1)
  k_with "exec For Name Call cons nil" => (k_here; k_dflt (refine For_at ?_ ?htₓ; (case htₓ => intro _; rfl)))
  k_with "ksa_idx" => first | omega | (simp only [List.length_cons, List.length_nil]; omega) | (simp only [fmod4, fdiv4]; omega) | with_reducible exact (third_in _).1 | with_reducible exact Int.lt_of_le_of_lt (third_in _).2 (by first | decide | omega)
  k_with "subscriptTail" => (k_here; (with_reducible show wpAny _ _ (subscriptTail _ _ (Value.ref _) (Value.int _ _)) _ _ _); k_dflt (refine' item_anyK (kun_topL ?Fₓ ?Xₓ ?lₓ) ?k3ₓ ?k4ₓ ?k5ₓ ?k6ₓ ?_ ?k7ₓ; (case Fₓ => k_asm); (case Xₓ => k_asm); (case lₓ => k_is); (case k3ₓ => l_intsW); (case k4ₓ => ksa_idx); (case k5ₓ => ksa_idx); (case k6ₓ => ksa_idx); (case k7ₓ => with_unfolding_all rfl); k_whole); intro _)
  k_with "subscriptTail Name Name ref int" => (k_here; (with_reducible show wpAny _ _ (subscriptTail _ _ (Value.ref _) (Value.int _ _)) _ _ _); k_dflt (refine' item_anyK (kun_topL ?Fₓ ?Xₓ ?lₓ) ?k3ₓ ?k4ₓ ?k5ₓ ?k6ₓ ?_ ?k7ₓ; (case Fₓ => k_asm); (case Xₓ => k_asm); (case lₓ => k_is); (case k3ₓ => l_intsW); (case k4ₓ => ksa_idx); (case k5ₓ => ksa_idx); (case k6ₓ => ksa_idx); (case k7ₓ => with_unfolding_all rfl); k_whole); intro _)
  k_with "subscriptTail" => (k_here; (with_reducible show wpAny _ _ (subscriptTail _ (Expr.Constant _ _ _) (Value.ref _) (Value.int _ _)) _ _ _); k_dflt (refine' topList_K ?Fₓ ?Xₓ ?lₓ ?aₓ ?bₓ ?dₓ ?_; (case Fₓ => k_asm); (case Xₓ => k_asm); (case lₓ => k_is); (case aₓ => decide); (case bₓ => decide); (case dₓ => rfl); k_whole))
  k_with "call ref" => (k_here; k_dflt (refine' call_pure (turned_does ?q1ₓ ?q2ₓ) ?Bₓ ?Fₓ ?Xₓ ?Nₓ ?Tₓ ?hkₓ ?hokₓ ?hdpₓ ?hunₓ ?_; (case Bₓ => k_asm); (case Fₓ => k_asm); (case Xₓ => k_asm); (case Nₓ => k_asm); (case Tₓ => k_asm); (case hkₓ => first | exact rfl | assumption); (case hokₓ => exact HdOk.keeps (by assumption) (Fr.keep (by assumption))); (case hdpₓ => (try dsimp only); omega); (case hunₓ => (try dsimp only); omega); (case q1ₓ => first | omega | exact (getD_in (B := 32) (by decide) (by decide) _).1); (case q2ₓ => first | omega | exact (getD_in (B := 32) (by decide) (by decide) _).2)); intro vₓ hₓ tkₓ hrₓ Fₓ Nₓ; (obtain ⟨t9ₓ, e9ₓ⟩ := hrₓ); subst e9ₓ; (try k_sweep))
  k_fill
  refine' does_cells (binds := [(Str.ofString "state", .ref sl), (Str.ofString "block", .bytes blk u)]) ?ho ?hcd ?hd1 ?hbind ?hkind ?hnd ?h ?c2 ?c3 ?c4
  case ho => k_dflt k_is
  case hcd => k_dflt k_is
  case hd1 => omega
  case hbind => intro _; exact BindsTo.of_eq rfl
  case hkind => exact rfl
  case hnd => decide +kernel
  case c2 => exact rfl
  case c3 => exact rfl
  case c4 => exact rfl
  intro p loose mean mg mb dp un gd cn cs a ccd cl outer A₀ base g L L' h₁ s tk cells B F X N Y T hk hok hdp hun hs l1
  k_lt l1
  k_cells Y
  (try simp only [List.cons_append, List.nil_append] at N)
  (try dsimp only)
  show wpAny _ _ _ _ _ _
  k_fold
  refine wpAny_execs_cons ?_
  k_dflt (refine Assign_ListComp_W (by k_asm) (by rfl) (by with_unfolding_all rfl) (by rfl) (by decide) (by rfl) (by decide) (by rfl) (by rfl) (by rfl) ?_ (by intro _; rfl))
  k_steps
  refine CSrc.range (n := 16) hok (by assumption) (by decide) (by rfl) (by rw [sizeLine_eq]; omega) (by assumption) (by assumption) ?_
  rintro s₂ ⟨g', rfl⟩
  refine comp_rest (fun i v => ∃ t, v = .int (wordAt ks i) t) ?_ ?_
  · rintro i v I oI C oC D m₂ ys h tk hi ⟨t, rfl⟩ hC hx F' N' off ne
    simp only [LCg.Off3, and_true] at off
    rw [show (0 : Int) + (i : Int) * 4 = ((4 * i : Nat) : Int) by omega] at hx
    k_steps
    rename KBw.bInts (KBy.picked _ _ _) = _ => hp
    refine KFB.call_little (by k_asm) (by k_mem) (hp.trans (word_bytes hlen hi)) (by rw [List.length_take]; omega) ?_
    intro t' k'
    k_steps
    exact ⟨_, _, rfl, by assumption, cb_drop (by assumption) (by kcj_all), ⟨_, rfl⟩⟩
  · intro ys hyl hyR
    unfold LCg.FinA
    intro D h tk F' N' o1
    have hW := ints_of hyl hyR
    simp only [LCg.Off1, and_true] at o1
    dsimp only
    k_steps
    have hWl : ((List.range 16).map (wordAt ks)).length = 16 := by simp
    have hWd : ∀ i : Nat, i < 16 → ((List.range 16).map (wordAt ks)).getD i 0 = wordAt ks i := fun i hi => by simp [List.getD_eq_getElem?_getD, hi]
    revert hW hWl hWd
    generalize (List.range 16).map (wordAt ks) = W
    intro hW hWl hWd
    refine' ForAt.range (n := 16) (σ := Q4 × (Tok × Tok × Tok × Tok)) hok ?hr ?hsm ?hn (fun _ _ => ?Led) (fun i c => frameQ c.1 c.2 D sl) (fun i c => c.1 = iterQ (lstep1 (wordAt ks)) i (a0, b0, c0, d0)) ((a0, b0, c0, d0), (_, _, _, _)) ?F ?N ?hps ?h0 ?turn ?done ?ht
    case hr => assumption
    case hsm => decide
    case hn => rfl
    case F => assumption
    case N => assumption
    case hps => kst_all
    case h0 => rfl
    case ht => intro _ _; rfl
    case turn =>
      rintro i t ⟨⟨v1, v2, v3, v4⟩, ⟨t1, t2, t3, t4⟩⟩ u' I h tk oI hi hc off F' N'
      dsimp only at hc F' N'
      rw [show (0 : Int) + (i : Int) * 1 = ((i : Nat) : Int) by omega]
      k_fold
      k_steps
      refine MdTurnEnd.intro ((_, _, _, _), (_, _, _, _)) (by assumption) (by assumption) (by kcj_all) (by kst_all) (by assumption) ?_
      show _ = lstep1 (wordAt ks) i (iterQ (lstep1 (wordAt ks)) i (a0, b0, c0, d0))
      rw [← hc]
      simp only [lstep1, by1, turned, Int.toNat_natCast, hWd i hi, fmod4]
    case done =>
      rintro ⟨⟨x1, x2, x3, x4⟩, ⟨t1, t2, t3, t4⟩⟩ u' h tk hc1 F' N'
      dsimp only at hc1 F' N'
      k_steps
      refine' ForAt.range (n := 16) (σ := Q4 × (Tok × Tok × Tok × Tok)) hok ?hr ?hsm ?hn (fun _ _ => ?Led) (fun i c => frameQ c.1 c.2 D sl) (fun i c => c.1 = iterQ (lstep2 (wordAt ks)) i (x1, x2, x3, x4)) ((x1, x2, x3, x4), (_, _, _, _)) ?F ?N ?hps ?h0 ?turn ?done ?ht
      case hr => assumption
      case hsm => decide
      case hn => rfl
      case F => assumption
      case N => assumption
      case hps => kst_all
      case h0 => rfl
      case ht => intro _ _; rfl
      case turn =>
        rintro i t ⟨⟨v1, v2, v3, v4⟩, ⟨t1, t2, t3, t4⟩⟩ u' I h tk oI hi hc off F' N'
        dsimp only at hc F' N'
        rw [show (0 : Int) + (i : Int) * 1 = ((i : Nat) : Int) by omega]
        k_fold
        k_steps
        refine MdTurnEnd.intro ((_, _, _, _), (_, _, _, _)) (by assumption) (by assumption) (by kcj_all) (by kst_all) (by assumption) ?_
        show _ = lstep2 (wordAt ks) i (iterQ (lstep2 (wordAt ks)) i (x1, x2, x3, x4))
        rw [← hc]
        simp only [lstep2, by2, turned, fmod4, fdiv4, idx2, hWd _ (idx2_lt hi), Int.toNat_natCast]
      case done =>
        rintro ⟨⟨y1, y2, y3, y4⟩, ⟨t1, t2, t3, t4⟩⟩ u' h tk hc2 F' N'
        dsimp only at hc2 F' N'
        k_steps
        refine' ForAt.range (n := 16) (σ := Q4 × (Tok × Tok × Tok × Tok)) hok ?hr ?hsm ?hn (fun _ _ => ?Led) (fun i c => frameQ c.1 c.2 D sl) (fun i c => c.1 = iterQ (lstep3 (wordAt ks)) i (y1, y2, y3, y4)) ((y1, y2, y3, y4), (_, _, _, _)) ?F ?N ?hps ?h0 ?turn ?done ?ht
        case hr => assumption
        case hsm => decide
        case hn => rfl
        case F => assumption
        case N => assumption
        case hps => kst_all
        case h0 => rfl
        case ht => intro _ _; rfl
        case turn =>
          rintro i t ⟨⟨v1, v2, v3, v4⟩, ⟨t1, t2, t3, t4⟩⟩ u' I h tk oI hi hc off F' N'
          dsimp only at hc F' N'
          rw [show (0 : Int) + (i : Int) * 1 = ((i : Nat) : Int) by omega]
          k_fold
          k_steps
          refine MdTurnEnd.intro ((_, _, _, _), (_, _, _, _)) (by assumption) (by assumption) (by kcj_all) (by kst_all) (by assumption) ?_
          show _ = lstep3 (wordAt ks) i (iterQ (lstep3 (wordAt ks)) i (y1, y2, y3, y4))
          rw [← hc]
          simp only [lstep3, by3, turned, fmod4, third, Int.toNat_natCast, hWd _ (third_lt i)]
        case done =>
          rintro ⟨⟨z1, z2, z3, z4⟩, ⟨t1, t2, t3, t4⟩⟩ u' h tk hc3 F' N'
          dsimp only at hc3 F' N'
          k_steps
          have hL : lblock ks (a0, b0, c0, d0) = ladd (a0, b0, c0, d0) (z1, z2, z3, z4) := by
            unfold lblock
            rw [← hc1, ← hc2, ← hc3]
          show RetPost _ _ _ _ _
          rw [hL]
          refine ret_intro (by assumption) (by assumption) [(_, listOf (quadQ (ladd (a0, b0, c0, d0) (z1, z2, z3, z4)) (_, _, _, _)).toArray _), (sl, listOf (quad a0 b0 c0 d0 ta tb tc td).toArray n0)] (by kcj_all) ⟨_, _, _, rfl, by omega, rfl⟩
end

section
open PySem PySem.W PySem.Calls PySem.Spec PyProof.Rows
noncomputable def lfill (ks : List Int) : List Int := ks ++ [128] ++ List.replicate ((55 - (ks.length : Int)).fmod 64).toNat 0 ++ KTBy.little 8 (8 * (ks.length : Int))
noncomputable def chunk (fs : List Int) (i : Nat) : List Int := (fs.drop (64 * i)).take 64
noncomputable def q0 : Q4 := (1732584193, 4023233417, 2562383102, 271733878)
noncomputable def lrun (fs : List Int) (n : Nat) (q : Q4) : Q4 := iterQ (fun i q => lblock (chunk fs i) q) n q
noncomputable def out4 (q : Q4) : List Int := KTBy.little 4 q.1 ++ KTBy.little 4 q.2.1 ++ KTBy.little 4 q.2.2.1 ++ KTBy.little 4 q.2.2.2
noncomputable def ldigest (ks : List Int) : List Int := out4 (lrun (lfill ks) ((lfill ks).length / 64) q0)
noncomputable def okQ (q : Q4) : Prop := (0 ≤ q.1 ∧ q.1 < 4294967296) ∧ (0 ≤ q.2.1 ∧ q.2.1 < 4294967296) ∧ (0 ≤ q.2.2.1 ∧ q.2.2.1 < 4294967296) ∧ (0 ≤ q.2.2.2 ∧ q.2.2.2 < 4294967296)
theorem ok_fmod (x : Int) : 0 ≤ x.fmod 4294967296 ∧ x.fmod 4294967296 < 4294967296 := ⟨fmod_lo _ (by decide), fmod_hi _ (by decide)⟩
theorem ok_block (ks : List Int) (q : Q4) : okQ (lblock ks q) := by
  unfold lblock
  exact ⟨ok_fmod _, ok_fmod _, ok_fmod _, ok_fmod _⟩
theorem ok_q0 : okQ q0 := by refine ⟨⟨?_, ?_⟩, ⟨?_, ?_⟩, ⟨?_, ?_⟩, ?_, ?_⟩ <;> decide
theorem ok_run {q : Q4} (h : okQ q) (fs : List Int) : ∀ n, okQ (lrun fs n q)
  | 0 => h
  | _ + 1 => ok_block _ _
theorem lfill_len (ks : List Int) : (lfill ks).length = ks.length + 9 + ((55 - (ks.length : Int)).fmod 64).toNat := by
  simp only [lfill, List.length_append, List.length_replicate, KTBy.little_length, List.length_cons, List.length_nil]
  omega
theorem lfill_mod (ks : List Int) : (lfill ks).length = 64 * ((lfill ks).length / 64) := by
  rw [lfill_len, Int.fmod_eq_emod_of_nonneg _ (by decide)]
  omega
theorem range64 {n : Nat} {N : Int} (h : N = ((64 * n : Nat) : Int)) : Builtin.Range.rangeSize 0 N 64 = (n : Int) := by
  subst h
  unfold Builtin.Range.rangeSize
  rw [if_pos (by decide)]
  split <;> omega
theorem small64 {N : Int} (h0 : 0 ≤ N) (h1 : N ≤ 100000) : Builtin.Range.small 0 N 64 = true := by
  have hs : 0 ≤ Builtin.Range.rangeSize 0 N 64 ∧ Builtin.Range.rangeSize 0 N 64 ≤ 100000 := by
    unfold Builtin.Range.rangeSize
    rw [if_pos (by decide)]
    split <;> omega
  unfold Builtin.Range.small Builtin.Range.rangeFitsLong
  simp only [Bool.and_eq_true, Bool.or_eq_true, decide_eq_true_eq]
  refine ⟨⟨⟨⟨by omega, by omega⟩, by omega⟩, by omega⟩, .inr ?_⟩
  rw [if_pos (by decide)]
  simp only [Bool.and_eq_true, decide_eq_true_eq]
  omega

theorem four {ys : List Value} {R : Nat → Value → Prop} (hl : ys.length = 4) (h : ∀ (i : Nat) z, ys[i]? = some z → R i z) : ∃ a b c d, ys = [a, b, c, d] ∧ R 0 a ∧ R 1 b ∧ R 2 c ∧ R 3 d := by
  cases ys with
  | nil => cases hl
  | cons a ys => cases ys with
    | nil => cases hl
    | cons b ys => cases ys with
      | nil => cases hl
      | cons c ys => cases ys with
        | nil => cases hl
        | cons d ys => cases ys with
          | nil => exact ⟨a, b, c, d, rfl, h 0 a rfl, h 1 b rfl, h 2 c rfl, h 3 d rfl⟩
          | cons e ys => cases hl
theorem quad_get {x1 x2 x3 x4 : Int} {ta tb tc td : Tok} {i : Nat} {v : Value} (a1 : 0 ≤ x1) (b1 : x1 < 4294967296) (a2 : 0 ≤ x2) (b2 : x2 < 4294967296) (a3 : 0 ≤ x3) (b3 : x3 < 4294967296) (a4 : 0 ≤ x4) (b4 : x4 < 4294967296)
    (h : (quad x1 x2 x3 x4 ta tb tc td).toArray[i]? = some v) : ∃ k t, v = .int k t ∧ 0 ≤ k ∧ k < 4294967296 ∧ [x1, x2, x3, x4][i]? = some k := by
  match i, h with
  | 0, h => exact ⟨x1, ta, (Option.some.inj h).symm, a1, b1, rfl⟩
  | 1, h => exact ⟨x2, tb, (Option.some.inj h).symm, a2, b2, rfl⟩
  | 2, h => exact ⟨x3, tc, (Option.some.inj h).symm, a3, b3, rfl⟩
  | 3, h => exact ⟨x4, td, (Option.some.inj h).symm, a4, b4, rfl⟩
  | i + 4, h => simp at h
theorem chunk_bytes {fs : List Int} {i : Nat} (hi : 64 * i + 64 ≤ fs.length) : List.take (clipAt fs.length (((64 * i : Nat) : Int) + 64) - min (64 * i) fs.length) (List.drop (min (64 * i) fs.length) fs) = chunk fs i := by
  have e : ((64 * i : Nat) : Int) + 64 = ((64 * i + 64 : Nat) : Int) := by omega
  rw [e, clipAt_nat]
  rw [show min (64 * i + 64) fs.length - min (64 * i) fs.length = 64 by omega, show min (64 * i) fs.length = 64 * i by omega]
  rfl
theorem chunk_len {fs : List Int} {i : Nat} (hi : 64 * i + 64 ≤ fs.length) : (chunk fs i).length = 64 := by
  unfold chunk
  rw [List.length_take, List.length_drop]
  omega


set_option maxRecDepth 100000 in
set_option maxHeartbeats 8000000 in
theorem ldigest_does {w : World} {b : Array UInt8} {t : Tok} {ks : List Int} (hks : KBw.bInts b = ks) (hlen : ks.length ≤ 1000) :
    Does PySem.Challenge.rw_iw0003_01.row.prog w (hd.heap_39 w.params) none 152 [.bytes b t] 3 80 []
      (fun _ v led' => (∃ b' t', v = .bytes b' t' ∧ KBw.bInts b' = ldigest ks) ∧ led' = []) := by
  w_top off
  k_with_none
  k_with "eval BinOp" => (k_here; k_fold; refine wpAny_BinOp ?_)
  k_with "eval Subscript" => (k_here; k_fold; walk1)
  k_with "eval Call" => (k_here; k_fold; walk1)
  k_with "eval Call Attribute" => (k_here; k_fold; walk1)
  k_with "exec For Name Call cons nil" => (k_here; k_dflt (refine For_at ?_ ?htₓ; (case htₓ => intro _; rfl)))
  k_with "call type:bytes" => (k_here; (with_reducible show wpAny _ _ (call (Value.type _) [Value.int _ _]) _ _ _); k_dflt (refine' call_count ?k0ₓ ?k1ₓ ?_; (case k0ₓ => exact fmod_lo _ (by decide)); (case k1ₓ => exact Int.le_trans (Int.le_of_lt (fmod_hi _ (by decide))) (by decide)); k_whole); intro bₓ tₓ kₓ zsₓ hbₓ hz1ₓ hz2ₓ hz3ₓ)
  k_with "getMethod bytes" => (k_here; (with_reducible refine method_join ?_))
  k_with "call builtin:bytes.join" => (k_here; k_dflt (refine' call_join ?lₓ ?eₓ ?h0ₓ ?h1ₓ ?h2ₓ ?h3ₓ ?zₓ ?_; (case lₓ => exact News.isList (by k_asm) (by k_mem)); (case eₓ => rfl); (case h0ₓ => assumption); (case h1ₓ => assumption); (case h2ₓ => assumption); (case h3ₓ => assumption); (case zₓ => (simp only [List.length_cons, List.length_nil]; omega)); k_whole); intro bₓ tₓ kₓ hbₓ)
  k_with "CompRest" => (k_here; refine stop_at ?_)
  k_fill
  refine' does_plain (binds := [(Str.ofString "octets", .bytes b t)]) ?ho ?hcd ?hd1 ?hbind ?hloc ?hcell ?h ?c2 ?c3 ?c4
  case ho => k_dflt k_is
  case hcd => k_dflt k_is
  case hd1 => omega
  case hbind => intro _; exact BindsTo.of_eq rfl
  case hloc => exact locs rfl
  case hcell => decide
  case c2 => exact rfl
  case c3 => exact rfl
  case c4 => exact rfl
  intro p loose mean mg mb dp un gd cn cs a ccd cl outer A₀ base g L L' h₁ s tk B F X N T hk hok hdp hun hs
  (try dsimp only)
  k_fold
  k_steps
  rename KBw.bInts (_ ++ _ ++ _ ++ _) = _ => hfs
  rename _ = List.replicate _ _ => hzs
  rename IsRange _ _ _ _ _ _ _ _ => hrg
  subst hzs
  have hfs' : KBw.bInts _ = lfill ks := hfs
  have hm := lfill_mod ks
  have hl := lfill_len ks
  have hb := fmod_hi (55 - (ks.length : Int)) (n := 64) (by decide)
  revert hfs'
  generalize hfe : lfill ks = fs at *
  intro hfs'
  refine' ForAt.range (n := fs.length / 64) (σ := Q4 × (Tok × Tok × Tok × Tok) × Addr × Nat) hok ?hr ?hsm ?hn (fun _ c => [(c.2.2.1, listOf (quadQ c.1 c.2.1).toArray c.2.2.2)]) (fun i c => [(Str.ofString "state", .ref c.2.2.1), (Str.ofString "filled", .bytes _ _)]) (fun i c => c.1 = lrun fs i q0) (q0, (_, _, _, _), _, _) ?F ?N ?hps ?h0 ?turn ?done ?ht
  case hr => exact hrg
  case F => assumption
  case N => assumption
  case hps => kst_all
  case h0 => rfl
  case ht => intro _ _; rfl
  case hsm => refine small64 ?_ ?_ <;> (simp only [List.length_replicate, List.length_cons, List.length_nil]; omega)
  case hn => refine range64 ?_; simp only [List.length_replicate, List.length_cons, List.length_nil]; omega
  case turn =>
    rintro i t ⟨⟨x1, x2, x3, x4⟩, ⟨t1, t2, t3, t4⟩, sl, n0⟩ u' I h tk oI hi hc off F' N'
    dsimp only at hc F' N' off
    have hoff : sl ≠ I := off _ (.head _)
    rw [show (0 : Int) + (i : Int) * 64 = ((64 * i : Nat) : Int) by omega]
    show wpAny _ _ _ _ _ _
    k_fold
    k_steps
    have hle : 64 * i + 64 ≤ fs.length := by omega
    rename KBw.bInts (KBy.picked _ _ _) = _ => hp
    refine call_by (block_does (hp.trans (chunk_bytes hle)) (chunk_len hle)) [(I, oI)] (by k_asm) (by k_asm) (by k_asm) (by k_asm) (by k_asm) (by first | exact rfl | assumption) HdOk.none (fun _ _ h => nomatch h) (by (try dsimp only); omega) (by (try dsimp only); omega) (by kcj_all) (by simp [hoff, Ne.symm hoff]) ?_
    rintro v led' h' tk' ⟨r, tt, n', rfl, hr1, rfl⟩ hlt F' N' hok'
    have hrI : r ≠ I := fun q => absurd (hlt _ (List.Mem.head _)) (by subst q; exact Nat.not_lt.mpr hr1)
    simp only [List.cons_append, List.nil_append] at N'
    k_steps
    refine MdTurnEnd.intro (lblock (chunk fs i) (x1, x2, x3, x4), tt, r, n') (by assumption) (by assumption) (by kcj_all) (by kst_all) (by simp [hrI]) ?_
    rw [hc]
    rfl
  case done =>
    rintro ⟨⟨x1, x2, x3, x4⟩, ⟨t1, t2, t3, t4⟩, sl, n0⟩ u' h tk hc F' N'
    dsimp only at hc F' N'
    have hq : okQ (x1, x2, x3, x4) := by rw [hc]; exact ok_run ok_q0 fs _
    obtain ⟨⟨a1, b1⟩, ⟨a2, b2⟩, ⟨a3, b3⟩, a4, b4⟩ := hq
    dsimp only at a1 b1 a2 b2 a3 b3 a4 b4
    k_steps
    unfold StopAt
    refine comp_restS (fun i v => ∃ k, [x1, x2, x3, x4][i]? = some k ∧ ∃ b u, v = .bytes b u ∧ KBw.bInts b = KTBy.little 4 k) (.inr ⟨_, by k_mem, rfl, _, rfl⟩) ?turn2 ?fin2
    case turn2 =>
      rintro i v I oI C oC D m₂ ys h tk hi hv hC hx F' N' off ne
      obtain ⟨k, t, rfl, hk0, hk1, hik⟩ := quad_get a1 b1 a2 b2 a3 b3 a4 b4 hv
      simp only [LCg.Off3, and_true] at off
      k_steps
      exact ⟨_, _, rfl, by assumption, cb_drop (by assumption) (by kcj_all), k, hik, _, _, rfl, by assumption⟩
    intro ys hyl hyR
    unfold LCg.FinE
    intro D h tk F' N' o1
    obtain ⟨_, _, _, _, rfl, ⟨_, e1, _, _, rfl, hb1⟩, ⟨_, e2, _, _, rfl, hb2⟩, ⟨_, e3, _, _, rfl, hb3⟩, _, e4, _, _, rfl, hb4⟩ := four hyl hyR
    cases e1
    cases e2
    cases e3
    cases e4
    dsimp only
    k_steps
    refine call_join (News.isList (by k_asm) (by k_mem)) rfl hb1 hb2 hb3 hb4 (by simp only [KTBy.little_length]; omega) ?_
    intro bb tb kb hbb
    k_steps
    have hD : ldigest ks = out4 (x1, x2, x3, x4) := by
      unfold ldigest
      rw [hfe, hc]
    refine ret_intro (by assumption) (by assumption) [] (fun _ h => nomatch h) ⟨⟨_, _, rfl, ?_⟩, rfl⟩
    rw [hD]
    assumption
end

section
open PySem PySem.W PySem.Calls PySem.Spec PyProof.Rows

noncomputable def hex2 (o : Int) : Str := Txt.item (Str.ofString "0123456789abcdef") (o.fdiv 16) ++ Txt.item (Str.ofString "0123456789abcdef") (o.fmod 16)
noncomputable def hexS (ks : List Int) : Str := Txt.join (Str.ofString "") (ks.map hex2)
theorem hex2_len : ∀ n : Nat, n < 256 → (hex2 (n : Int)).length = 2 := by decide +kernel
theorem hex2_lens : ∀ {ks : List Int}, (∀ k ∈ ks, 0 ≤ k ∧ k < 256) → ((ks.map hex2).map (·.length)).sum = 2 * ks.length
  | [], _ => rfl
  | k :: r, h => by
    have h1 := h k (.head _)
    have e : (hex2 k).length = 2 := by
      have := hex2_len k.toNat (by omega)
      rwa [show ((k.toNat : Nat) : Int) = k by omega] at this
    rw [List.map_cons, List.map_cons, List.sum_cons, hex2_lens fun x hx => h x (.tail _ hx), e, List.length_cons]
    omega
theorem strs_of {f : Int → Str} : ∀ {ks : List Int} {ys : List Value}, ys.length = ks.length → (∀ (i : Nat) y, ys[i]? = some y → ∃ k t, ks[i]? = some k ∧ y = .str (f k) t) → StrsAre ys (ks.map f)
  | [], ys, h, _ => by
    rw [List.length_eq_zero_iff.mp h]
    exact StrsAre.nil
  | k :: r, [], h, _ => by simp at h
  | k :: r, y :: ys, h, hR => by
    obtain ⟨k', t, hk, rfl⟩ := hR 0 y rfl
    have e : k = k' := by simpa using hk
    subst e
    exact StrsAre.cons _ _ (strs_of (by simpa using h) fun i y e => hR (i + 1) y (by simpa using e))


set_option maxRecDepth 100000 in
set_option maxHeartbeats 8000000 in
theorem lhex_does {w : World} {b : Array UInt8} {t : Tok} {ks : List Int} (hks : KBw.bInts b = ks) (hlen : ks.length ≤ 1000) :
    Does PySem.Challenge.rw_iw0003_01.row.prog w (hd.heap_39 w.params) none 157 [.bytes b t] 3 80 []
      (fun _ v led' => (∃ t', v = .str (hexS ks) t') ∧ led' = []) := by
  w_top off
  k_with_none
  k_with "eval BinOp" => (k_here; k_fold; refine wpAny_BinOp ?_)
  k_with "eval Subscript" => (k_here; k_fold; walk1)
  k_with "eval Call" => (k_here; k_fold; walk1)
  k_with "eval Call Attribute" => (k_here; k_fold; walk1)
  k_with "eval ListComp" => (k_here; k_dflt (refine ListComp_W (by k_asm) (by rfl) (by decide) (by rfl) (by decide) (by rfl) ?_ (by intro _; rfl)))
  k_fill
  refine' does_cells (binds := [(Str.ofString "octets", .bytes b t)]) ?ho ?hcd ?hd1 ?hbind ?hkind ?hnd ?h ?c2 ?c3 ?c4
  case ho => k_dflt k_is
  case hcd => k_dflt k_is
  case hd1 => omega
  case hbind => intro _; exact BindsTo.of_eq rfl
  case hkind => exact rfl
  case hnd => decide +kernel
  case c2 => exact rfl
  case c3 => exact rfl
  case c4 => exact rfl
  intro p loose mean mg mb dp un gd cn cs a ccd cl outer A₀ base g L L' h₁ s tk cells B F X N Y T hk hok hdp hun hs l1
  k_cells Y
  (try simp only [List.cons_append, List.nil_append] at N)
  (try dsimp only)
  show wpAny _ _ _ _ _ _
  k_fold
  k_steps
  refine CSrc.bytes rfl (by rw [← KBw.ints_length b, hks, sizeLine_eq]; omega) (by assumption) (by assumption) ?_
  rintro s₂ ⟨g', rfl⟩
  refine comp_rest (fun i v => ∃ k t, ks[i]? = some k ∧ v = .str (hex2 k) t) ?_ ?_
  · rintro i v I oI C oC D m₂ ys h tk hi ⟨c, t, hc, rfl⟩ hC hx F' N' off ne
    simp only [LCg.Off3, and_true] at off
    have hc0 : (0 : Int) ≤ (c.toNat : Int) := by omega
    have hc1 : (c.toNat : Int) < 256 := by have := c.toNat_lt; omega
    k_steps
    exact ⟨_, _, rfl, by assumption, cb_drop (by assumption) (by kcj_all), _, _, hks ▸ KBw.ints_get hc, rfl⟩
  · intro ys hyl hyR
    unfold LCg.FinE
    intro D h tk F' N' o1
    have hys : StrsAre ys (ks.map hex2) := strs_of (by rw [hyl, ← KBw.ints_length b, hks]) hyR
    have hr : ∀ k ∈ ks, 0 ≤ k ∧ k < 256 := fun k hk => KBw.ints_in (hks ▸ hk)
    dsimp only
    k_steps
    refine join_list (News.isList (by k_asm) (by k_mem)) hys (by rw [hex2_lens hr, List.length_map]; show 2 * ks.length + ks.length * 0 ≤ _; omega) ?_
    intro t' k'
    k_steps
    refine ret_intro (by assumption) (by assumption) [] (fun _ h => nomatch h) ⟨⟨_, rfl⟩, rfl⟩
end

section
open PySem PySem.W PySem.Calls PySem.Spec PyProof.Rows
noncomputable def mF (x y z : Int) : Int := Builtin.bitOr (Builtin.bitAnd x y) (Builtin.bitAnd (Builtin.bitNot x) z)
noncomputable def mG (x y z : Int) : Int := Builtin.bitOr (Builtin.bitOr (Builtin.bitAnd x y) (Builtin.bitAnd x z)) (Builtin.bitAnd y z)

set_option maxRecDepth 100000 in
set_option maxHeartbeats 8000000 in
theorem F_does {w : World} {e : Option Value} {x y z : Int} {t u v : Tok} : Does PySem.Challenge.rw_iw0003_01.row.prog w (hd.heap_39 w.params) e 21 [.int x t, .int y u, .int z v] 1 20 [] (fun _ r led' => (∃ t, r = .int (mF x y z) t) ∧ led' = []) := by
  w_top off
  k_with_none
  k_fill
  refine' does_plain (binds := [(Str.ofString "x", .int x t), (Str.ofString "y", .int y u), (Str.ofString "z", .int z v)]) ?ho ?hcd ?hd1 ?hbind ?hloc ?hcell ?h ?c2 ?c3 ?c4
  case ho => k_dflt k_is
  case hcd => k_dflt k_is
  case hd1 => omega
  case hbind => intro _; exact BindsTo.of_eq rfl
  case hloc => exact locs rfl
  case hcell => decide
  case c2 => exact rfl
  case c3 => exact rfl
  case c4 => exact rfl
  intro p loose mean mg mb dp un gd cn cs a ccd cl outer A₀ base g L L' h₁ s tk B F X N T hk hok hdp hun hs
  (try dsimp only)
  k_fold
  k_steps
  all_goals exact ⟨_, _, _, _, _, rfl, by assumption, by assumption, ⟨_, rfl⟩, rfl⟩

set_option maxRecDepth 100000 in
set_option maxHeartbeats 8000000 in
theorem G_does {w : World} {e : Option Value} {x y z : Int} {t u v : Tok} : Does PySem.Challenge.rw_iw0003_01.row.prog w (hd.heap_39 w.params) e 28 [.int x t, .int y u, .int z v] 1 20 [] (fun _ r led' => (∃ t, r = .int (mG x y z) t) ∧ led' = []) := by
  w_top off
  k_with_none
  k_fill
  refine' does_plain (binds := [(Str.ofString "x", .int x t), (Str.ofString "y", .int y u), (Str.ofString "z", .int z v)]) ?ho ?hcd ?hd1 ?hbind ?hloc ?hcell ?h ?c2 ?c3 ?c4
  case ho => k_dflt k_is
  case hcd => k_dflt k_is
  case hd1 => omega
  case hbind => intro _; exact BindsTo.of_eq rfl
  case hloc => exact locs rfl
  case hcell => decide
  case c2 => exact rfl
  case c3 => exact rfl
  case c4 => exact rfl
  intro p loose mean mg mb dp un gd cn cs a ccd cl outer A₀ base g L L' h₁ s tk B F X N T hk hok hdp hun hs
  (try dsimp only)
  k_fold
  k_steps
  all_goals exact ⟨_, _, _, _, _, rfl, by assumption, by assumption, ⟨_, rfl⟩, rfl⟩
end

section
open PySem PySem.W PySem.Calls PySem.Spec PyProof.Rows
theorem nat_xor (a : Nat) : ∀ b : Nat, (a ^^^ b) + (a &&& b) = a ||| b := by
  induction a using Nat.div2Induction with
  | ind a ih =>
    intro b
    by_cases h : a = 0
    · subst h
      rw [Nat.zero_xor, Nat.zero_and, Nat.zero_or, Nat.add_zero]
    · have i := ih (Nat.pos_of_ne_zero h) (b / 2)
      rw [← Nat.xor_div_two, ← Nat.and_div_two, ← Nat.or_div_two] at i
      rw [← Nat.div_add_mod (a ^^^ b) 2, ← Nat.div_add_mod (a &&& b) 2, ← Nat.div_add_mod (a ||| b) 2, ← i, Nat.xor_mod_two_pow (n := 1), Nat.and_mod_two_pow (n := 1), Nat.or_mod_two_pow (n := 1)]
      have key : ∀ p < 2, ∀ q < 2, (p ^^^ q) + (p &&& q) = p ||| q := by decide
      have k := key (a % 2) (Nat.mod_lt _ (by decide)) (b % 2) (Nat.mod_lt _ (by decide))
      show 2 * _ + ((a % 2) ^^^ (b % 2)) + (2 * _ + ((a % 2) &&& (b % 2))) = 2 * _ + ((a % 2) ||| (b % 2))
      omega
theorem and_nat (a b : Nat) : Builtin.bitAnd (a : Int) b = ((a &&& b : Nat) : Int) := by
  rw [bitAnd_pp (Int.natCast_nonneg _) (Int.natCast_nonneg _), Int.toNat_natCast, Int.toNat_natCast]
theorem or_nat (a b : Nat) : Builtin.bitOr (a : Int) b = ((a ||| b : Nat) : Int) := by
  have h1 : ¬ (0 ≤ Builtin.bitNot (a : Int)) := by unfold Builtin.bitNot; omega
  have h2 : ¬ (0 ≤ Builtin.bitNot (b : Int)) := by unfold Builtin.bitNot; omega
  have e : ∀ n : Nat, Builtin.bitNot (Builtin.bitNot (n : Int)) = n := fun n => by unfold Builtin.bitNot; omega
  unfold Builtin.bitOr Builtin.bitAnd
  rw [decide_eq_false h1, decide_eq_false h2]
  simp only [e, Int.toNat_natCast]
theorem xor_nat (a b : Nat) : Builtin.bitXor (a : Int) b = ((a ^^^ b : Nat) : Int) := by
  unfold Builtin.bitXor
  rw [or_nat, and_nat, ← nat_xor a b]
  omega
theorem mF_nat (a b c : Nat) : ((a &&& b) ||| (c ^^^ (a &&& c))) = c ^^^ (a &&& (b ^^^ c)) := by
  apply Nat.eq_of_testBit_eq
  intro i
  rw [Nat.testBit_or, Nat.testBit_xor, Nat.testBit_xor, Nat.testBit_and, Nat.testBit_and, Nat.testBit_and, Nat.testBit_xor]
  cases a.testBit i <;> cases b.testBit i <;> cases c.testBit i <;> rfl
theorem mG_nat (a b c : Nat) : (((a &&& b) ||| (a &&& c)) ||| (b &&& c)) = ((a &&& b) ||| (c &&& (a ||| b))) := by
  apply Nat.eq_of_testBit_eq
  intro i
  rw [Nat.testBit_or, Nat.testBit_or, Nat.testBit_or, Nat.testBit_and, Nat.testBit_and, Nat.testBit_and, Nat.testBit_and, Nat.testBit_or]
  cases a.testBit i <;> cases b.testBit i <;> cases c.testBit i <;> rfl
theorem sub_nat (a c : Nat) : (c : Int) - ((c &&& a : Nat) : Int) = ((c ^^^ (a &&& c) : Nat) : Int) := by
  have h := nat_xor c (a &&& c)
  have e1 : c &&& (a &&& c) = a &&& c := by rw [Nat.and_comm a c, ← Nat.and_assoc, Nat.and_self]
  have e2 : c ||| (a &&& c) = c := by
    apply Nat.eq_of_testBit_eq
    intro i
    rw [Nat.testBit_or, Nat.testBit_and]
    cases a.testBit i <;> cases c.testBit i <;> rfl
  rw [e1, e2] at h
  rw [Nat.and_comm c a]
  omega
theorem mF_eq {x y z : Int} (hx : 0 ≤ x) (hy : 0 ≤ y) (hz : 0 ≤ z) : mF x y z = Builtin.bitXor z (Builtin.bitAnd x (Builtin.bitXor y z)) := by
  obtain ⟨a, rfl⟩ := Int.eq_ofNat_of_zero_le hx
  obtain ⟨b, rfl⟩ := Int.eq_ofNat_of_zero_le hy
  obtain ⟨c, rfl⟩ := Int.eq_ofNat_of_zero_le hz
  unfold mF
  rw [bitAnd_comm (Builtin.bitNot _) _, bitAnd_not, and_nat, and_nat, sub_nat, or_nat, xor_nat, and_nat, xor_nat, mF_nat]
theorem mG_eq {x y z : Int} (hx : 0 ≤ x) (hy : 0 ≤ y) (hz : 0 ≤ z) : mG x y z = Builtin.bitOr (Builtin.bitAnd x y) (Builtin.bitAnd z (Builtin.bitOr x y)) := by
  obtain ⟨a, rfl⟩ := Int.eq_ofNat_of_zero_le hx
  obtain ⟨b, rfl⟩ := Int.eq_ofNat_of_zero_le hy
  obtain ⟨c, rfl⟩ := Int.eq_ofNat_of_zero_le hz
  unfold mG
  rw [and_nat, and_nat, and_nat, or_nat, or_nat, or_nat, and_nat, or_nat, mG_nat]
end

section
open PySem PySem.W PySem.Calls PySem.Spec PyProof.Rows
noncomputable abbrev ql (q : Q4) : List Int := [q.1, q.2.1, q.2.2.1, q.2.2.2]
noncomputable abbrev mdict (w : World) (cnt : Int) (ct : Tok) (sl : Addr) (buf : Array UInt8) (bt k1 k2 k3 : Tok) : Obj :=
  dictOf [⟨PyData.keyHash w.params (Str.ofString "_count"), .str (Str.ofString "_count") k1, .int cnt ct⟩, ⟨PyData.keyHash w.params (Str.ofString "_state"), .str (Str.ofString "_state") k2, .ref sl⟩,
    ⟨PyData.keyHash w.params (Str.ofString "_buf"), .str (Str.ofString "_buf") k3, .bytes buf bt⟩] 3
noncomputable def ra (i : Nat) : Int := [0, 3, 2, 1].getD (i % 4) 0
noncomputable def rb (i : Nat) : Int := [1, 0, 3, 2].getD (i % 4) 0
noncomputable def rc (i : Nat) : Int := [2, 1, 0, 3].getD (i % 4) 0
noncomputable def rd (i : Nat) : Int := [3, 2, 1, 0].getD (i % 4) 0
noncomputable def kk1 (i : Nat) : Int := (i : Int)
noncomputable def kk2 (i : Nat) : Int := ((i % 4 * 4 + i / 4 : Nat) : Int)
noncomputable def kk3 (i : Nat) : Int := third i
theorem ra_in (i : Nat) : 0 ≤ ra i ∧ ra i ≤ 3 := getD_in (by decide) (by decide) _
theorem rb_in (i : Nat) : 0 ≤ rb i ∧ rb i ≤ 3 := getD_in (by decide) (by decide) _
theorem rc_in (i : Nat) : 0 ≤ rc i ∧ rc i ≤ 3 := getD_in (by decide) (by decide) _
theorem rd_in (i : Nat) : 0 ≤ rd i ∧ rd i ≤ 3 := getD_in (by decide) (by decide) _
theorem kk1_in {i : Nat} (h : i < 16) : 0 ≤ kk1 i ∧ kk1 i ≤ 15 := by unfold kk1; omega
theorem kk2_in {i : Nat} (h : i < 16) : 0 ≤ kk2 i ∧ kk2 i ≤ 15 := by unfold kk2; omega
theorem kk3_in {i : Nat} (_h : i < 16) : 0 ≤ kk3 i ∧ kk3 i ≤ 15 := third_in i
theorem by1_in (i : Nat) : 0 ≤ by1 i ∧ by1 i ≤ 31 := getD_in (by decide) (by decide) _
theorem by2_in (i : Nat) : 0 ≤ by2 i ∧ by2 i ≤ 31 := getD_in (by decide) (by decide) _
theorem by3_in (i : Nat) : 0 ≤ by3 i ∧ by3 i ≤ 31 := getD_in (by decide) (by decide) _

set_option maxRecDepth 100000 in
set_option maxHeartbeats 8000000 in
theorem rows1 : ∀ {w : World} {g : Heap} (_X : (hd.heap_39 w.params).In g) (_p : PySem.Challenge.rw_iw0003_01.name = PySem.Challenge.rw_iw0003_01.name), g.IsList 60 #[.ref 44, .ref 45, .ref 46, .ref 47, .ref 48, .ref 49, .ref 50, .ref 51, .ref 52, .ref 53, .ref 54, .ref 55, .ref 56, .ref 57, .ref 58, .ref 59] ∧
    ∀ (i : Nat) v, (#[.ref 44, .ref 45, .ref 46, .ref 47, .ref 48, .ref 49, .ref 50, .ref 51, .ref 52, .ref 53, .ref 54, .ref 55, .ref 56, .ref 57, .ref 58, .ref 59] : Array Value)[i]? = some v → i < 16 ∧ ∃ a t1 t2 t3 t4 t5 t6, v = .ref a ∧ g.IsList a #[.int (ra i) t1, .int (rb i) t2, .int (rc i) t3, .int (rd i) t4, .int (kk1 i) t5, .int (by1 i) t6] := by
  w_top off
  k_with_none
  k_fill
  intro w g X _
  refine ⟨⟨_, X _ _ (by k_dflt k_is), rfl, _, rfl⟩, fun i v hv => ?_⟩
  have hi : i < 16 := by
    by_cases h : i < 16
    · exact h
    · rw [Array.getElem?_eq_none (by simp; omega)] at hv; cases hv
  refine ⟨hi, ?_⟩
  match i, hi with
  | 0, _ =>
    obtain rfl := Option.some.inj hv
    exact ⟨44, _, _, _, _, _, _, rfl, ⟨_, X _ _ (by k_dflt k_is), rfl, _, rfl⟩⟩
  | 1, _ =>
    obtain rfl := Option.some.inj hv
    exact ⟨45, _, _, _, _, _, _, rfl, ⟨_, X _ _ (by k_dflt k_is), rfl, _, rfl⟩⟩
  | 2, _ =>
    obtain rfl := Option.some.inj hv
    exact ⟨46, _, _, _, _, _, _, rfl, ⟨_, X _ _ (by k_dflt k_is), rfl, _, rfl⟩⟩
  | 3, _ =>
    obtain rfl := Option.some.inj hv
    exact ⟨47, _, _, _, _, _, _, rfl, ⟨_, X _ _ (by k_dflt k_is), rfl, _, rfl⟩⟩
  | 4, _ =>
    obtain rfl := Option.some.inj hv
    exact ⟨48, _, _, _, _, _, _, rfl, ⟨_, X _ _ (by k_dflt k_is), rfl, _, rfl⟩⟩
  | 5, _ =>
    obtain rfl := Option.some.inj hv
    exact ⟨49, _, _, _, _, _, _, rfl, ⟨_, X _ _ (by k_dflt k_is), rfl, _, rfl⟩⟩
  | 6, _ =>
    obtain rfl := Option.some.inj hv
    exact ⟨50, _, _, _, _, _, _, rfl, ⟨_, X _ _ (by k_dflt k_is), rfl, _, rfl⟩⟩
  | 7, _ =>
    obtain rfl := Option.some.inj hv
    exact ⟨51, _, _, _, _, _, _, rfl, ⟨_, X _ _ (by k_dflt k_is), rfl, _, rfl⟩⟩
  | 8, _ =>
    obtain rfl := Option.some.inj hv
    exact ⟨52, _, _, _, _, _, _, rfl, ⟨_, X _ _ (by k_dflt k_is), rfl, _, rfl⟩⟩
  | 9, _ =>
    obtain rfl := Option.some.inj hv
    exact ⟨53, _, _, _, _, _, _, rfl, ⟨_, X _ _ (by k_dflt k_is), rfl, _, rfl⟩⟩
  | 10, _ =>
    obtain rfl := Option.some.inj hv
    exact ⟨54, _, _, _, _, _, _, rfl, ⟨_, X _ _ (by k_dflt k_is), rfl, _, rfl⟩⟩
  | 11, _ =>
    obtain rfl := Option.some.inj hv
    exact ⟨55, _, _, _, _, _, _, rfl, ⟨_, X _ _ (by k_dflt k_is), rfl, _, rfl⟩⟩
  | 12, _ =>
    obtain rfl := Option.some.inj hv
    exact ⟨56, _, _, _, _, _, _, rfl, ⟨_, X _ _ (by k_dflt k_is), rfl, _, rfl⟩⟩
  | 13, _ =>
    obtain rfl := Option.some.inj hv
    exact ⟨57, _, _, _, _, _, _, rfl, ⟨_, X _ _ (by k_dflt k_is), rfl, _, rfl⟩⟩
  | 14, _ =>
    obtain rfl := Option.some.inj hv
    exact ⟨58, _, _, _, _, _, _, rfl, ⟨_, X _ _ (by k_dflt k_is), rfl, _, rfl⟩⟩
  | 15, _ =>
    obtain rfl := Option.some.inj hv
    exact ⟨59, _, _, _, _, _, _, rfl, ⟨_, X _ _ (by k_dflt k_is), rfl, _, rfl⟩⟩

set_option maxRecDepth 100000 in
set_option maxHeartbeats 8000000 in
theorem rows2 : ∀ {w : World} {g : Heap} (_X : (hd.heap_39 w.params).In g) (_p : PySem.Challenge.rw_iw0003_01.name = PySem.Challenge.rw_iw0003_01.name), g.IsList 77 #[.ref 61, .ref 62, .ref 63, .ref 64, .ref 65, .ref 66, .ref 67, .ref 68, .ref 69, .ref 70, .ref 71, .ref 72, .ref 73, .ref 74, .ref 75, .ref 76] ∧
    ∀ (i : Nat) v, (#[.ref 61, .ref 62, .ref 63, .ref 64, .ref 65, .ref 66, .ref 67, .ref 68, .ref 69, .ref 70, .ref 71, .ref 72, .ref 73, .ref 74, .ref 75, .ref 76] : Array Value)[i]? = some v → i < 16 ∧ ∃ a t1 t2 t3 t4 t5 t6, v = .ref a ∧ g.IsList a #[.int (ra i) t1, .int (rb i) t2, .int (rc i) t3, .int (rd i) t4, .int (kk2 i) t5, .int (by2 i) t6] := by
  w_top off
  k_with_none
  k_fill
  intro w g X _
  refine ⟨⟨_, X _ _ (by k_dflt k_is), rfl, _, rfl⟩, fun i v hv => ?_⟩
  have hi : i < 16 := by
    by_cases h : i < 16
    · exact h
    · rw [Array.getElem?_eq_none (by simp; omega)] at hv; cases hv
  refine ⟨hi, ?_⟩
  match i, hi with
  | 0, _ =>
    obtain rfl := Option.some.inj hv
    exact ⟨61, _, _, _, _, _, _, rfl, ⟨_, X _ _ (by k_dflt k_is), rfl, _, rfl⟩⟩
  | 1, _ =>
    obtain rfl := Option.some.inj hv
    exact ⟨62, _, _, _, _, _, _, rfl, ⟨_, X _ _ (by k_dflt k_is), rfl, _, rfl⟩⟩
  | 2, _ =>
    obtain rfl := Option.some.inj hv
    exact ⟨63, _, _, _, _, _, _, rfl, ⟨_, X _ _ (by k_dflt k_is), rfl, _, rfl⟩⟩
  | 3, _ =>
    obtain rfl := Option.some.inj hv
    exact ⟨64, _, _, _, _, _, _, rfl, ⟨_, X _ _ (by k_dflt k_is), rfl, _, rfl⟩⟩
  | 4, _ =>
    obtain rfl := Option.some.inj hv
    exact ⟨65, _, _, _, _, _, _, rfl, ⟨_, X _ _ (by k_dflt k_is), rfl, _, rfl⟩⟩
  | 5, _ =>
    obtain rfl := Option.some.inj hv
    exact ⟨66, _, _, _, _, _, _, rfl, ⟨_, X _ _ (by k_dflt k_is), rfl, _, rfl⟩⟩
  | 6, _ =>
    obtain rfl := Option.some.inj hv
    exact ⟨67, _, _, _, _, _, _, rfl, ⟨_, X _ _ (by k_dflt k_is), rfl, _, rfl⟩⟩
  | 7, _ =>
    obtain rfl := Option.some.inj hv
    exact ⟨68, _, _, _, _, _, _, rfl, ⟨_, X _ _ (by k_dflt k_is), rfl, _, rfl⟩⟩
  | 8, _ =>
    obtain rfl := Option.some.inj hv
    exact ⟨69, _, _, _, _, _, _, rfl, ⟨_, X _ _ (by k_dflt k_is), rfl, _, rfl⟩⟩
  | 9, _ =>
    obtain rfl := Option.some.inj hv
    exact ⟨70, _, _, _, _, _, _, rfl, ⟨_, X _ _ (by k_dflt k_is), rfl, _, rfl⟩⟩
  | 10, _ =>
    obtain rfl := Option.some.inj hv
    exact ⟨71, _, _, _, _, _, _, rfl, ⟨_, X _ _ (by k_dflt k_is), rfl, _, rfl⟩⟩
  | 11, _ =>
    obtain rfl := Option.some.inj hv
    exact ⟨72, _, _, _, _, _, _, rfl, ⟨_, X _ _ (by k_dflt k_is), rfl, _, rfl⟩⟩
  | 12, _ =>
    obtain rfl := Option.some.inj hv
    exact ⟨73, _, _, _, _, _, _, rfl, ⟨_, X _ _ (by k_dflt k_is), rfl, _, rfl⟩⟩
  | 13, _ =>
    obtain rfl := Option.some.inj hv
    exact ⟨74, _, _, _, _, _, _, rfl, ⟨_, X _ _ (by k_dflt k_is), rfl, _, rfl⟩⟩
  | 14, _ =>
    obtain rfl := Option.some.inj hv
    exact ⟨75, _, _, _, _, _, _, rfl, ⟨_, X _ _ (by k_dflt k_is), rfl, _, rfl⟩⟩
  | 15, _ =>
    obtain rfl := Option.some.inj hv
    exact ⟨76, _, _, _, _, _, _, rfl, ⟨_, X _ _ (by k_dflt k_is), rfl, _, rfl⟩⟩

set_option maxRecDepth 100000 in
set_option maxHeartbeats 8000000 in
theorem rows3 : ∀ {w : World} {g : Heap} (_X : (hd.heap_39 w.params).In g) (_p : PySem.Challenge.rw_iw0003_01.name = PySem.Challenge.rw_iw0003_01.name), g.IsList 94 #[.ref 78, .ref 79, .ref 80, .ref 81, .ref 82, .ref 83, .ref 84, .ref 85, .ref 86, .ref 87, .ref 88, .ref 89, .ref 90, .ref 91, .ref 92, .ref 93] ∧
    ∀ (i : Nat) v, (#[.ref 78, .ref 79, .ref 80, .ref 81, .ref 82, .ref 83, .ref 84, .ref 85, .ref 86, .ref 87, .ref 88, .ref 89, .ref 90, .ref 91, .ref 92, .ref 93] : Array Value)[i]? = some v → i < 16 ∧ ∃ a t1 t2 t3 t4 t5 t6, v = .ref a ∧ g.IsList a #[.int (ra i) t1, .int (rb i) t2, .int (rc i) t3, .int (rd i) t4, .int (kk3 i) t5, .int (by3 i) t6] := by
  w_top off
  k_with_none
  k_fill
  intro w g X _
  refine ⟨⟨_, X _ _ (by k_dflt k_is), rfl, _, rfl⟩, fun i v hv => ?_⟩
  have hi : i < 16 := by
    by_cases h : i < 16
    · exact h
    · rw [Array.getElem?_eq_none (by simp; omega)] at hv; cases hv
  refine ⟨hi, ?_⟩
  match i, hi with
  | 0, _ =>
    obtain rfl := Option.some.inj hv
    exact ⟨78, _, _, _, _, _, _, rfl, ⟨_, X _ _ (by k_dflt k_is), rfl, _, rfl⟩⟩
  | 1, _ =>
    obtain rfl := Option.some.inj hv
    exact ⟨79, _, _, _, _, _, _, rfl, ⟨_, X _ _ (by k_dflt k_is), rfl, _, rfl⟩⟩
  | 2, _ =>
    obtain rfl := Option.some.inj hv
    exact ⟨80, _, _, _, _, _, _, rfl, ⟨_, X _ _ (by k_dflt k_is), rfl, _, rfl⟩⟩
  | 3, _ =>
    obtain rfl := Option.some.inj hv
    exact ⟨81, _, _, _, _, _, _, rfl, ⟨_, X _ _ (by k_dflt k_is), rfl, _, rfl⟩⟩
  | 4, _ =>
    obtain rfl := Option.some.inj hv
    exact ⟨82, _, _, _, _, _, _, rfl, ⟨_, X _ _ (by k_dflt k_is), rfl, _, rfl⟩⟩
  | 5, _ =>
    obtain rfl := Option.some.inj hv
    exact ⟨83, _, _, _, _, _, _, rfl, ⟨_, X _ _ (by k_dflt k_is), rfl, _, rfl⟩⟩
  | 6, _ =>
    obtain rfl := Option.some.inj hv
    exact ⟨84, _, _, _, _, _, _, rfl, ⟨_, X _ _ (by k_dflt k_is), rfl, _, rfl⟩⟩
  | 7, _ =>
    obtain rfl := Option.some.inj hv
    exact ⟨85, _, _, _, _, _, _, rfl, ⟨_, X _ _ (by k_dflt k_is), rfl, _, rfl⟩⟩
  | 8, _ =>
    obtain rfl := Option.some.inj hv
    exact ⟨86, _, _, _, _, _, _, rfl, ⟨_, X _ _ (by k_dflt k_is), rfl, _, rfl⟩⟩
  | 9, _ =>
    obtain rfl := Option.some.inj hv
    exact ⟨87, _, _, _, _, _, _, rfl, ⟨_, X _ _ (by k_dflt k_is), rfl, _, rfl⟩⟩
  | 10, _ =>
    obtain rfl := Option.some.inj hv
    exact ⟨88, _, _, _, _, _, _, rfl, ⟨_, X _ _ (by k_dflt k_is), rfl, _, rfl⟩⟩
  | 11, _ =>
    obtain rfl := Option.some.inj hv
    exact ⟨89, _, _, _, _, _, _, rfl, ⟨_, X _ _ (by k_dflt k_is), rfl, _, rfl⟩⟩
  | 12, _ =>
    obtain rfl := Option.some.inj hv
    exact ⟨90, _, _, _, _, _, _, rfl, ⟨_, X _ _ (by k_dflt k_is), rfl, _, rfl⟩⟩
  | 13, _ =>
    obtain rfl := Option.some.inj hv
    exact ⟨91, _, _, _, _, _, _, rfl, ⟨_, X _ _ (by k_dflt k_is), rfl, _, rfl⟩⟩
  | 14, _ =>
    obtain rfl := Option.some.inj hv
    exact ⟨92, _, _, _, _, _, _, rfl, ⟨_, X _ _ (by k_dflt k_is), rfl, _, rfl⟩⟩
  | 15, _ =>
    obtain rfl := Option.some.inj hv
    exact ⟨93, _, _, _, _, _, _, rfl, ⟨_, X _ _ (by k_dflt k_is), rfl, _, rfl⟩⟩
end

section
open PySem PySem.W PySem.Calls PySem.Spec PyProof.Rows
noncomputable def rotq (i : Nat) (q : Q4) : List Int := match i % 4 with
  | 0 => [q.1, q.2.1, q.2.2.1, q.2.2.2]
  | 1 => [q.2.1, q.2.2.1, q.2.2.2, q.1]
  | 2 => [q.2.2.1, q.2.2.2, q.1, q.2.1]
  | _ => [q.2.2.2, q.1, q.2.1, q.2.2.1]
theorem rotq_len (i : Nat) (q : Q4) : (rotq i q).length = 4 := by unfold rotq; split <;> rfl
theorem rot_step (i : Nat) (q : Q4) (f : Int → Int → Int → Int → Int) :
    (rotq i q).set (ra i).toNat (f ((rotq i q).getD (ra i).toNat 0) ((rotq i q).getD (rb i).toNat 0) ((rotq i q).getD (rc i).toNat 0) ((rotq i q).getD (rd i).toNat 0)) =
      rotq (i + 1) (q.2.2.2, f q.1 q.2.1 q.2.2.1 q.2.2.2, q.2.1, q.2.2.1) := by
  have h : i % 4 = 0 ∨ i % 4 = 1 ∨ i % 4 = 2 ∨ i % 4 = 3 := by omega
  rcases h with h | h | h | h
  · have h' : (i + 1) % 4 = 1 := by omega
    simp [rotq, ra, rb, rc, rd, h, h']
  · have h' : (i + 1) % 4 = 2 := by omega
    simp [rotq, ra, rb, rc, rd, h, h']
  · have h' : (i + 1) % 4 = 3 := by omega
    simp [rotq, ra, rb, rc, rd, h, h']
  · have h' : (i + 1) % 4 = 0 := by omega
    simp [rotq, ra, rb, rc, rd, h, h']
noncomputable def NN (q : Q4) : Prop := 0 ≤ q.1 ∧ 0 ≤ q.2.1 ∧ 0 ≤ q.2.2.1 ∧ 0 ≤ q.2.2.2
theorem turned_nn (n b : Int) : 0 ≤ turned n b := by
  unfold turned
  have h1 := fmod_lo (n.fmod 4294967296 * 2 ^ b.toNat) (n := 4294967296) (by decide)
  have h2 := fmod_lo n (n := 4294967296) (by decide)
  have h3 : 0 ≤ (n.fmod 4294967296).fdiv (2 ^ (32 - b).toNat) := Int.fdiv_nonneg h2 (Int.le_of_lt (kbt_pos _))
  omega
theorem nn_iter1 {W : Nat → Int} {q : Q4} (h : NN q) : ∀ i, NN (iterQ (lstep1 W) i q)
  | 0 => h
  | i + 1 => ⟨(nn_iter1 h i).2.2.2, turned_nn _ _, (nn_iter1 h i).2.1, (nn_iter1 h i).2.2.1⟩
theorem nn_iter2 {W : Nat → Int} {q : Q4} (h : NN q) : ∀ i, NN (iterQ (lstep2 W) i q)
  | 0 => h
  | i + 1 => ⟨(nn_iter2 h i).2.2.2, turned_nn _ _, (nn_iter2 h i).2.1, (nn_iter2 h i).2.2.1⟩
theorem rstep1 {W : Nat → Int} {q : Q4} (h : NN q) (i : Nat) :
    (rotq i (iterQ (lstep1 W) i q)).set (ra i).toNat (turned ((rotq i (iterQ (lstep1 W) i q)).getD (ra i).toNat 0 + mF ((rotq i (iterQ (lstep1 W) i q)).getD (rb i).toNat 0) ((rotq i (iterQ (lstep1 W) i q)).getD (rc i).toNat 0) ((rotq i (iterQ (lstep1 W) i q)).getD (rd i).toNat 0) + W (kk1 i).toNat) (by1 i)) =
      rotq (i + 1) (iterQ (lstep1 W) (i + 1) q) := by
  obtain ⟨h1, h2, h3, h4⟩ := nn_iter1 (W := W) h i
  rw [rot_step i (iterQ (lstep1 W) i q) fun a b c d => turned (a + mF b c d + W (kk1 i).toNat) (by1 i)]
  rw [mF_eq h2 h3 h4]
  rfl
theorem rstep2 {W : Nat → Int} {q : Q4} (h : NN q) (i : Nat) :
    (rotq i (iterQ (lstep2 W) i q)).set (ra i).toNat (turned ((rotq i (iterQ (lstep2 W) i q)).getD (ra i).toNat 0 + mG ((rotq i (iterQ (lstep2 W) i q)).getD (rb i).toNat 0) ((rotq i (iterQ (lstep2 W) i q)).getD (rc i).toNat 0) ((rotq i (iterQ (lstep2 W) i q)).getD (rd i).toNat 0) + W (kk2 i).toNat + 1518500249) (by2 i)) =
      rotq (i + 1) (iterQ (lstep2 W) (i + 1) q) := by
  obtain ⟨h1, h2, h3, h4⟩ := nn_iter2 (W := W) h i
  rw [rot_step i (iterQ (lstep2 W) i q) fun a b c d => turned (a + mG b c d + W (kk2 i).toNat + 1518500249) (by2 i)]
  rw [mG_eq h2 h3 h4]
  rfl
theorem rstep3 {W : Nat → Int} {q : Q4} (_h : NN q) (i : Nat) :
    (rotq i (iterQ (lstep3 W) i q)).set (ra i).toNat (turned ((rotq i (iterQ (lstep3 W) i q)).getD (ra i).toNat 0 + Builtin.bitXor (Builtin.bitXor ((rotq i (iterQ (lstep3 W) i q)).getD (rb i).toNat 0) ((rotq i (iterQ (lstep3 W) i q)).getD (rc i).toNat 0)) ((rotq i (iterQ (lstep3 W) i q)).getD (rd i).toNat 0) + W (kk3 i).toNat + 1859775393) (by3 i)) =
      rotq (i + 1) (iterQ (lstep3 W) (i + 1) q) := by
  rw [rot_step i (iterQ (lstep3 W) i q) fun a b c d => turned (a + Builtin.bitXor (Builtin.bitXor b c) d + W (kk3 i).toNat + 1859775393) (by3 i)]
  rfl
noncomputable def addL (i : Nat) (q r : Q4) : List Int := [if 0 < i then (q.1 + r.1).fmod 4294967296 else q.1, if 1 < i then (q.2.1 + r.2.1).fmod 4294967296 else q.2.1, if 2 < i then (q.2.2.1 + r.2.2.1).fmod 4294967296 else q.2.2.1, if 3 < i then (q.2.2.2 + r.2.2.2).fmod 4294967296 else q.2.2.2]
theorem addL_step {i : Nat} (hi : i < 4) (q r : Q4) : (addL i q r).set i (((addL i q r).getD i 0 + (rotq 0 r).getD i 0).fmod 4294967296) = addL (i + 1) q r := by
  match i, hi with
  | 0, _ => simp [addL, rotq]
  | 1, _ => simp [addL, rotq]
  | 2, _ => simp [addL, rotq]
  | 3, _ => simp [addL, rotq]
theorem addL_end (q r : Q4) : addL 4 q r = ql (ladd q r) := by simp [addL, ql, ladd]

section
variable {prog : Program} {w : World} {A : Around} {E : Value → Shared → Prop} {s : Shared}
theorem and_mask {a : Int} {t u : Tok} {Q : Value → Shared → Prop} (h : ∀ t' k, 0 ≤ a.fmod 4294967296 → a.fmod 4294967296 < 4294967296 → Q (.int (a.fmod 4294967296) t') { s with toks := k }) :
    wpAny (model prog w) A (binaryOp .BitAnd (.int a t) (.int 4294967295 u)) Q E s := by
  refine and_int ?_
  have e : Builtin.bitAnd a 4294967295 = a.fmod 4294967296 := kbt_maskF a 32
  rw [e]
  exact h _ _ (fmod_lo _ (by decide)) (fmod_hi _ (by decide))
end

theorem ret_next {g : Heap} {s : Shared} {Ret : Value → List (Addr × Obj) → Prop} {h' : Heap} {tk' : Nat} {L' : Addr} {m' : Str → Option Value} {news'' : List (Addr × Obj)} (F : Fr g L' h' m') (N : News g L' h' news'') (led' : List (Addr × Obj)) (sub : ∀ p ∈ led', p ∈ news'') (hr : Ret .none led') :
    RetPost g s Ret .next { s with heap := h', toks := tk' } := ⟨h', tk', L', m', led', rfl, F, fun p hp => N p (sub p hp), hr⟩
theorem addL_len (i : Nat) (q r : Q4) : (addL i q r).length = 4 := rfl

theorem idx_in {a b : Int} {n : Nat} (h : 0 ≤ a ∧ a ≤ b) (hb : b < (n : Int)) (hn : (n : Int) < 2 ^ 63) : 0 ≤ a ∧ a < (n : Int) ∧ a < 2 ^ 63 :=
  ⟨h.1, Int.lt_of_le_of_lt h.2 hb, Int.lt_trans (Int.lt_of_le_of_lt h.2 hb) hn⟩


set_option maxRecDepth 100000 in
set_option maxHeartbeats 8000000 in
theorem process_does {w : World} {e : Option Value} {x dx sl : Addr} {cnt : Int} {ct bt k1 k2 k3 : Tok} {buf : Array UInt8} {vs : List Value} {q : Q4} {n0 : Nat} {blk : Array UInt8} {u : Tok} {ks : List Int}
    (hks : KBw.bInts blk = ks) (hlen : ks.length = 64) (hvs : IntsAre vs (ql q)) (hq : NN q) (hxs : (@Ne Nat x sl)) (hds : (@Ne Nat dx sl)) :
    Does PySem.Challenge.rw_iw0003_01.row.prog w (hd.heap_39 w.params) e 99 [.ref x, .bytes blk u] 3 80 [(x, instObj 126 dx), (dx, mdict w cnt ct sl buf bt k1 k2 k3), (sl, listOf vs.toArray n0)]
      (fun n v led' => ∃ vs', v = .none ∧ IntsAre vs' (ql (lblock ks q)) ∧ led' = [(x, instObj 126 dx), (dx, mdict w cnt ct sl buf bt k1 k2 k3), (sl, listOf vs'.toArray n0)]) := by
  w_top off
  k_with_none
  k_with "eval BinOp" => (k_here; k_fold; refine wpAny_BinOp ?_)
  k_with "eval Subscript" => (k_here; k_fold; walk1)
  k_with "eval Call" => (k_here; k_fold; walk1)
  k_with "eval Call Attribute" => (k_here; k_fold; walk1)
  k_with "exec For Name Call cons nil" => (k_here; k_dflt (refine For_at ?_ ?htₓ; (case htₓ => intro _; rfl)))
  k_with "exec For Tuple Attribute cons nil" => (k_here; k_dflt (refine For_at ?_ ?htₓ; (case htₓ => intro _; rfl)))
  k_with "assign Tuple" => (k_here; (with_reducible show wpAny _ _ (assign (Expr.Tuple _ _ _) _ (Value.ref _)) _ _ _); k_dflt (refine' unpack_list ?k0ₓ ?k1ₓ ?k2ₓ ?k3ₓ ?k5ₓ ?k6ₓ ?_; (case k0ₓ => k_asm); (case k1ₓ => k_asm); (case k2ₓ => k_asm); (case k3ₓ => kun_lst); (case k5ₓ => exact rfl); (case k6ₓ => exact rfl); k_whole); intro hₓ Fₓ Nₓ; (try k_sweep))
  k_with "ksa_idx" => first | with_reducible assumption | omega | (simp only [List.length_cons, List.length_nil]; omega)
  k_with "binaryOp BitAnd int int" => (k_here; k_dflt (refine and_mask ?_); intro tₓ kₓ hm1ₓ hm2ₓ)
  k_with "binaryOp LShift int int" => (k_here; k_dflt (refine' lshift_int_small ?q0ₓ ?q1ₓ ?q2ₓ ?_; (case q0ₓ => omega); (case q1ₓ => omega); (case q2ₓ => omega); k_whole))
  k_with "binaryOp RShift int int" => (k_here; k_dflt (refine' rshift_int ?q0ₓ ?_; (case q0ₓ => omega); k_whole))
  k_with "call ref" => (k_here; k_dflt (first
      | (refine' call_pure F_does ?Bₓ ?Fₓ ?Xₓ ?Nₓ ?Tₓ ?hkₓ ?hokₓ ?hdpₓ ?hunₓ ?_; (case Bₓ => k_asm); (case Fₓ => k_asm); (case Xₓ => k_asm); (case Nₓ => k_asm); (case Tₓ => k_asm); (case hkₓ => first | exact rfl | assumption); (case hokₓ => exact HdOk.keeps (by assumption) (Fr.keep (by assumption))); (case hdpₓ => (try dsimp only); omega); (case hunₓ => (try dsimp only); omega))
      | (refine' call_pure G_does ?Bₓ ?Fₓ ?Xₓ ?Nₓ ?Tₓ ?hkₓ ?hokₓ ?hdpₓ ?hunₓ ?_; (case Bₓ => k_asm); (case Fₓ => k_asm); (case Xₓ => k_asm); (case Nₓ => k_asm); (case Tₓ => k_asm); (case hkₓ => first | exact rfl | assumption); (case hokₓ => exact HdOk.keeps (by assumption) (Fr.keep (by assumption))); (case hdpₓ => (try dsimp only); omega); (case hunₓ => (try dsimp only); omega))); intro vₓ hₓ tkₓ hrₓ Fₓ Nₓ; (obtain ⟨t9ₓ, e9ₓ⟩ := hrₓ); subst e9ₓ; (try k_sweep))
  k_fill
  refine' does_cells (binds := [(Str.ofString "self", .ref x), (Str.ofString "block", .bytes blk u)]) ?ho ?hcd ?hd1 ?hbind ?hkind ?hnd ?h ?c2 ?c3 ?c4
  case ho => k_dflt k_is
  case hcd => k_dflt k_is
  case hd1 => omega
  case hbind => intro _; exact BindsTo.of_eq rfl
  case hkind => exact rfl
  case hnd => decide +kernel
  case c2 => exact rfl
  case c3 => exact rfl
  case c4 => exact rfl
  intro p loose mean mg mb dp un gd cn cs a ccd cl outer A₀ base g L L' h₁ s tk cells B F X N Y T hk hok hdp hun hs l1
  k_lt l1
  k_cells Y
  rename_i oc hoc
  (try simp only [List.cons_append, List.nil_append] at N)
  (try dsimp only)
  show wpAny _ _ _ _ _ _
  k_fold
  refine wpAny_execs_cons ?_
  k_dflt (refine Assign_ListComp_W (by k_asm) (by rfl) (by with_unfolding_all rfl) (by rfl) (by decide) (by rfl) (by decide) (by rfl) (by rfl) (by rfl) ?_ (by intro _; rfl))
  k_steps
  refine CSrc.range (n := 16) hok (by assumption) (by decide) (by rfl) (by rw [sizeLine_eq]; omega) (by assumption) (by assumption) ?_
  rintro s₂ ⟨g', rfl⟩
  refine comp_rest (fun i v => ∃ t, v = .int (wordAt ks i) t) ?_ ?_
  · rintro i v I oI C oC D m₂ ys h tk hi ⟨t, rfl⟩ hC hx F' N' off ne
    simp only [LCg.Off3, and_true] at off
    rw [show (0 : Int) + (i : Int) * 4 = ((4 * i : Nat) : Int) by omega] at hx
    k_steps
    rename KBw.bInts (KBy.picked _ _ _) = _ => hp
    refine KFB.call_little (by k_asm) (by k_mem) (hp.trans (word_bytes hlen hi)) (by rw [List.length_take]; omega) ?_
    intro t' k'
    k_steps
    exact ⟨_, _, rfl, by assumption, cb_drop (by assumption) (by kcj_all), ⟨_, rfl⟩⟩
  · intro ys hyl hyR
    unfold LCg.FinA
    intro D h tk F' N' o1
    have hW := ints_of hyl hyR
    simp only [LCg.Off1, and_true] at o1
    dsimp only
    have hWl : ((List.range 16).map (wordAt ks)).length = 16 := by simp
    have hWd : ∀ i : Nat, i < 16 → ((List.range 16).map (wordAt ks)).getD i 0 = wordAt ks i := fun i hi => by simp [List.getD_eq_getElem?_getD, hi]
    revert hW hWl hWd
    generalize (List.range 16).map (wordAt ks) = W
    intro hW hWl hWd
    show wpAny _ _ _ _ _ _
    k_steps
    rename_i st cn' hh1 l1' hh2 FF NN'
    obtain ⟨hl1, hrow1⟩ := rows1 X rfl
    refine' ForAt.list (σ := List Value × List Int) hok hl1 (fun _ c => [(st, listOf c.1.toArray cn'), (D, LCg.lst ys), (L' + 1, oc), (x, instObj 126 dx), (dx, mdict w cnt ct sl buf bt k1 k2 k3), (sl, listOf vs.toArray n0)]) (fun i c => [(Str.ofString "self", .ref x), (Str.ofString "X", .ref D), (Str.ofString "state", .ref st), (Str.ofString "orig", .ref sl)]) (fun i c => IntsAre c.1 c.2 ∧ c.2 = rotq i (iterQ (lstep1 (wordAt ks)) i q)) (vs, ql q) ?F ?N ?hps ?h0 ?turn ?done ?go
    case F => assumption
    case N => assumption
    case hps => kst_all
    case h0 => exact ⟨hvs, rfl⟩
    case go =>
      rintro I i v s' Q' E' hv hit hQ
      obtain ⟨_, ad, _, _, _, _, _, _, rfl, _⟩ := hrow1 i v hv
      exact wpAny_letOwnedTupleGo_listiter hit hQ
    case turn =>
      rintro i v ⟨us, ns⟩ u' I h tk oI hv ⟨hi1, hi2⟩ off F' N'
      obtain ⟨hi, ad, p1, p2, p3, p4, p5, p6, rfl, hr⟩ := hrow1 i v hv
      dsimp only at hi1 hi2 F' N'
      have hr' : Heap.IsList h ad _ := hr.at fun o e => F'.keep _ _ e
      have hnl : ns.length = 4 := by rw [hi2]; exact rotq_len _ _
      obtain ⟨g1a, g1b, g1c⟩ := idx_in (ra_in i) (show (_ : Int) < (ns.length : Int) by rw [hnl]; decide) (by rw [hnl]; decide)
      obtain ⟨g2a, g2b, g2c⟩ := idx_in (rb_in i) (show (_ : Int) < (ns.length : Int) by rw [hnl]; decide) (by rw [hnl]; decide)
      obtain ⟨g3a, g3b, g3c⟩ := idx_in (rc_in i) (show (_ : Int) < (ns.length : Int) by rw [hnl]; decide) (by rw [hnl]; decide)
      obtain ⟨g4a, g4b, g4c⟩ := idx_in (rd_in i) (show (_ : Int) < (ns.length : Int) by rw [hnl]; decide) (by rw [hnl]; decide)
      obtain ⟨g5a, g5b, g5c⟩ := idx_in (kk1_in hi) (show (_ : Int) < (W.length : Int) by rw [hWl]; decide) (by rw [hWl]; decide)
      have g6 := by1_in i
      have hI : I ≠ st := fun q => off _ (.head _) q.symm
      clear hr hrow1
      show wpAny _ _ _ _ _ _
      k_fold
      k_steps
      refine MdTurnEnd.intro (_, _) (by assumption) (by assumption) (by kcj_all) (by kst_all) (by exact off_same off rfl) ⟨by assumption, ?_⟩
      have key := rstep1 (W := wordAt ks) hq i
      rw [← hi2, ← hWd _ (show (kk1 i).toNat < 16 by omega)] at key
      exact key
    case done =>
      rintro ⟨us1, ns1⟩ u' h tk ⟨hu1, hn1⟩ F' N'
      dsimp only at hu1 hn1 F' N'
      have hq2 : NN (iterQ (lstep1 (wordAt ks)) 16 q) := nn_iter1 hq _
      k_steps
      obtain ⟨hl2, hrow2⟩ := rows2 X rfl
      refine' ForAt.list (σ := List Value × List Int) hok hl2 (fun _ c => [(st, listOf c.1.toArray cn'), (D, LCg.lst ys), (L' + 1, oc), (x, instObj 126 dx), (dx, mdict w cnt ct sl buf bt k1 k2 k3), (sl, listOf vs.toArray n0)]) (fun i c => [(Str.ofString "self", .ref x), (Str.ofString "X", .ref D), (Str.ofString "state", .ref st), (Str.ofString "orig", .ref sl)]) (fun i c => IntsAre c.1 c.2 ∧ c.2 = rotq i (iterQ (lstep2 (wordAt ks)) i (iterQ (lstep1 (wordAt ks)) 16 q))) (us1, ns1) ?F ?N ?hps ?h0 ?turn ?done ?go
      case F => assumption
      case N => assumption
      case hps => kst_all
      case h0 => exact ⟨hu1, hn1⟩
      case go =>
        rintro I i v s' Q' E' hv hit hQ
        obtain ⟨_, ad, _, _, _, _, _, _, rfl, _⟩ := hrow2 i v hv
        exact wpAny_letOwnedTupleGo_listiter hit hQ
      case turn =>
        rintro i v ⟨us, ns⟩ u' I h tk oI hv ⟨hi1, hi2⟩ off F' N'
        obtain ⟨hi, ad, p1, p2, p3, p4, p5, p6, rfl, hr⟩ := hrow2 i v hv
        dsimp only at hi1 hi2 F' N'
        have hr' : Heap.IsList h ad _ := hr.at fun o e => F'.keep _ _ e
        have hnl : ns.length = 4 := by rw [hi2]; exact rotq_len _ _
        obtain ⟨g1a, g1b, g1c⟩ := idx_in (ra_in i) (show (_ : Int) < (ns.length : Int) by rw [hnl]; decide) (by rw [hnl]; decide)
        obtain ⟨g2a, g2b, g2c⟩ := idx_in (rb_in i) (show (_ : Int) < (ns.length : Int) by rw [hnl]; decide) (by rw [hnl]; decide)
        obtain ⟨g3a, g3b, g3c⟩ := idx_in (rc_in i) (show (_ : Int) < (ns.length : Int) by rw [hnl]; decide) (by rw [hnl]; decide)
        obtain ⟨g4a, g4b, g4c⟩ := idx_in (rd_in i) (show (_ : Int) < (ns.length : Int) by rw [hnl]; decide) (by rw [hnl]; decide)
        obtain ⟨g5a, g5b, g5c⟩ := idx_in (kk2_in hi) (show (_ : Int) < (W.length : Int) by rw [hWl]; decide) (by rw [hWl]; decide)
        have g6 := by2_in i
        have hI : I ≠ st := fun q => off _ (.head _) q.symm
        clear hr hrow1 hrow2
        show wpAny _ _ _ _ _ _
        k_fold
        k_steps
        refine MdTurnEnd.intro (_, _) (by assumption) (by assumption) (by kcj_all) (by kst_all) (by exact off_same off rfl) ⟨by assumption, ?_⟩
        have key := rstep2 (W := wordAt ks) hq2 i
        rw [← hi2, ← hWd _ (show (kk2 i).toNat < 16 by omega)] at key
        exact key
      case done =>
        rintro ⟨us2, ns2⟩ u' h tk ⟨hu2, hn2⟩ F' N'
        dsimp only at hu2 hn2 F' N'
        have hq3 : NN (iterQ (lstep2 (wordAt ks)) 16 (iterQ (lstep1 (wordAt ks)) 16 q)) := nn_iter2 hq2 _
        k_steps
        obtain ⟨hl3, hrow3⟩ := rows3 X rfl
        refine' ForAt.list (σ := List Value × List Int) hok hl3 (fun _ c => [(st, listOf c.1.toArray cn'), (D, LCg.lst ys), (L' + 1, oc), (x, instObj 126 dx), (dx, mdict w cnt ct sl buf bt k1 k2 k3), (sl, listOf vs.toArray n0)]) (fun i c => [(Str.ofString "self", .ref x), (Str.ofString "X", .ref D), (Str.ofString "state", .ref st), (Str.ofString "orig", .ref sl)]) (fun i c => IntsAre c.1 c.2 ∧ c.2 = rotq i (iterQ (lstep3 (wordAt ks)) i (iterQ (lstep2 (wordAt ks)) 16 (iterQ (lstep1 (wordAt ks)) 16 q)))) (us2, ns2) ?F ?N ?hps ?h0 ?turn ?done ?go
        case F => assumption
        case N => assumption
        case hps => kst_all
        case h0 => exact ⟨hu2, hn2⟩
        case go =>
          rintro I i v s' Q' E' hv hit hQ
          obtain ⟨_, ad, _, _, _, _, _, _, rfl, _⟩ := hrow3 i v hv
          exact wpAny_letOwnedTupleGo_listiter hit hQ
        case turn =>
          rintro i v ⟨us, ns⟩ u' I h tk oI hv ⟨hi1, hi2⟩ off F' N'
          obtain ⟨hi, ad, p1, p2, p3, p4, p5, p6, rfl, hr⟩ := hrow3 i v hv
          dsimp only at hi1 hi2 F' N'
          have hr' : Heap.IsList h ad _ := hr.at fun o e => F'.keep _ _ e
          have hnl : ns.length = 4 := by rw [hi2]; exact rotq_len _ _
          obtain ⟨g1a, g1b, g1c⟩ := idx_in (ra_in i) (show (_ : Int) < (ns.length : Int) by rw [hnl]; decide) (by rw [hnl]; decide)
          obtain ⟨g2a, g2b, g2c⟩ := idx_in (rb_in i) (show (_ : Int) < (ns.length : Int) by rw [hnl]; decide) (by rw [hnl]; decide)
          obtain ⟨g3a, g3b, g3c⟩ := idx_in (rc_in i) (show (_ : Int) < (ns.length : Int) by rw [hnl]; decide) (by rw [hnl]; decide)
          obtain ⟨g4a, g4b, g4c⟩ := idx_in (rd_in i) (show (_ : Int) < (ns.length : Int) by rw [hnl]; decide) (by rw [hnl]; decide)
          obtain ⟨g5a, g5b, g5c⟩ := idx_in (kk3_in hi) (show (_ : Int) < (W.length : Int) by rw [hWl]; decide) (by rw [hWl]; decide)
          have g6 := by3_in i
          have hI : I ≠ st := fun q => off _ (.head _) q.symm
          clear hr hrow1 hrow2 hrow3
          show wpAny _ _ _ _ _ _
          k_fold
          k_steps
          refine MdTurnEnd.intro (_, _) (by assumption) (by assumption) (by kcj_all) (by kst_all) (by exact off_same off rfl) ⟨by assumption, ?_⟩
          have key := rstep3 (W := wordAt ks) hq3 i
          rw [← hi2, ← hWd _ (show (kk3 i).toNat < 16 by omega)] at key
          exact key
        case done =>
          rintro ⟨us3, ns3⟩ u' h tk ⟨hu3, hn3⟩ F' N'
          dsimp only at hu3 hn3 F' N'
          have hnl3 : ns3.length = 4 := by rw [hn3]; exact rotq_len _ _
          k_steps
          rename IsRange _ _ _ _ _ _ _ _ => hrg
          refine' ForAt.range (n := 4) (σ := List Value × List Int) hok ?hr ?hsm ?hn (fun _ c => [(st, listOf us3.toArray cn'), (L' + 1, oc), (x, instObj 126 dx), (dx, mdict w cnt ct sl buf bt k1 k2 k3), (sl, listOf c.1.toArray n0)]) (fun i c => [(Str.ofString "self", .ref x), (Str.ofString "state", .ref st), (Str.ofString "orig", .ref sl)]) (fun i c => IntsAre c.1 c.2 ∧ c.2 = addL i q (iterQ (lstep3 (wordAt ks)) 16 (iterQ (lstep2 (wordAt ks)) 16 (iterQ (lstep1 (wordAt ks)) 16 q)))) (vs, ql q) ?F ?N ?hps ?h0 ?turn ?done ?ht
          case hr => exact hrg
          case F => assumption
          case N => exact cb_drop (by assumption) (by kcj_all)
          case hps => kst_all
          case h0 => exact ⟨hvs, rfl⟩
          case ht => intro _ _; rfl
          case hsm => decide
          case hn => rfl
          case turn =>
            rintro i t ⟨us, ns⟩ u' I h tk oI hi ⟨hi1, hi2⟩ off F' N'
            dsimp only at hi1 hi2 F' N'
            have hnl : ns.length = 4 := by rw [hi2]; rfl
            have hI : I ≠ sl := fun q => off _ (.tail _ (.tail _ (.tail _ (.tail _ (.head _))))) q.symm
            rw [show (0 : Int) + (i : Int) * 1 = (i : Int) by omega]
            show wpAny _ _ _ _ _ _
            k_fold
            k_steps
            refine MdTurnEnd.intro (_, _) (by assumption) (by assumption) (by kcj_all) (by kst_all) (by exact off_same off rfl) ⟨by assumption, ?_⟩
            have key := addL_step hi q (iterQ (lstep3 (wordAt ks)) 16 (iterQ (lstep2 (wordAt ks)) 16 (iterQ (lstep1 (wordAt ks)) 16 q)))
            rw [← hi2, show rotq 0 (iterQ (lstep3 (wordAt ks)) 16 (iterQ (lstep2 (wordAt ks)) 16 (iterQ (lstep1 (wordAt ks)) 16 q))) = ns3 from hn3.symm] at key
            exact key
          case done =>
            rintro ⟨us4, ns4⟩ u' h tk ⟨hu4, hn4⟩ F' N'
            dsimp only at hu4 hn4 F' N'
            rw [hn4, addL_end] at hu4
            k_steps
            refine ret_next F' N' [(x, instObj 126 dx), (dx, mdict w cnt ct sl buf bt k1 k2 k3), (sl, listOf us4.toArray n0)] ?sub ?rt
            case sub => kcj_all
            case rt => exact ⟨us4, rfl, by unfold lblock; exact hu4, rfl⟩
end

section
open PySem PySem.W PySem.Calls PySem.Spec PyProof.Rows
section
variable {prog : Program} {w : World} {A : Around} {s : Shared} {env : Env} {h₀ : Heap} {E : Value → Shared → Prop}

/-- a turn of a while loop that ends by a return -/
noncomputable def MdWhile {σ : Type} (h₀ : Heap) (L : Addr) (Led : σ → List (Addr × Obj)) (ps : σ → List (Str × Value)) (Inv : Nat → σ → Prop) (n : Nat) (Q : Flow → Shared → Prop) (s₁ : Shared) (f : Flow) (s₂ : Shared) : Prop :=
  match f with
  | .next => ∃ h' tk m' c n', s₂ = { s₁ with heap := h', toks := tk } ∧ n' < n ∧ Fr h₀ L h' m' ∧ (∀ p ∈ ps c, m' p.1 = some p.2) ∧ News h₀ L h' (Led c) ∧ Inv n' c
  | .ret v => Q (.ret v) s₂
  | _ => False
theorem MdWhile.intro {σ : Type} {L : Addr} {Led : σ → List (Addr × Obj)} {ps : σ → List (Str × Value)} {Inv : Nat → σ → Prop} {n : Nat} {Q : Flow → Shared → Prop} {s₁ : Shared} {h' : Heap} {tk : Nat} {m' : Str → Option Value} {news' : List (Addr × Obj)} (n' : Nat) (c : σ) (hn : n' < n)
    (F : Fr h₀ L h' m') (N : News h₀ L h' news') (hs : ∀ p ∈ Led c, p ∈ news') (hps : ∀ p ∈ ps c, m' p.1 = some p.2) (hi : Inv n' c) :
    MdWhile h₀ L Led ps Inv n Q s₁ .next { s₁ with heap := h', toks := tk } := ⟨h', tk, m', c, n', rfl, hn, F, hps, fun p hp => N p (hs p hp), hi⟩

noncomputable def WhlAt (prog : Program) (w : World) (A : Around) (env : Env) (test : Expr) (body : List Stmt) (pos : Pos) (Q : Flow → Shared → Prop) (E : Value → Shared → Prop) (s₁ : Shared) : Prop :=
  wpAny (model prog w) A (exec (.While test body [] pos) env) Q E s₁
theorem Whl_at {test : Expr} {body : List Stmt} {pos : Pos} {Q : Flow → Shared → Prop} (h : WhlAt prog w A env test body pos Q E s) : wpAny (model prog w) A (exec (.While test body [] pos) env) Q E s := h

theorem While_ret {σ : Type} {Q : Flow → Shared → Prop} {test : Expr} {body : List Stmt} {pos : Pos} {m : Str → Option Value}
    (Led : σ → List (Addr × Obj)) (ps : σ → List (Str × Value)) (Inv : Nat → σ → Prop) (n₀ : Nat) (c₀ : σ)
    (F : Fr h₀ env.locals s.heap m) (N : News h₀ env.locals s.heap (Led c₀)) (hps : ∀ p ∈ ps c₀, m p.1 = some p.2) (h0 : Inv n₀ c₀)
    (turn : ∀ n c u h tk, Inv n c → Fr h₀ env.locals h (kstB u (ps c)) → News h₀ env.locals h (Led c) →
      wpAny (model prog w) A (isTrue test env (eval test env)) (fun b s₂ => if b = true then wpAny (model prog w) A (execs body env) (MdWhile h₀ env.locals Led ps Inv n Q { s with heap := h, toks := tk }) (fun _ _ => False) s₂ else Q .next s₂) (fun _ _ => False) { s with heap := h, toks := tk }) :
    WhlAt prog w A env test body pos Q E s := by
  refine wpAny_While (codeAny_whileLoop (fun n s' => ∃ h' tk m' c, s' = { s with heap := h', toks := tk } ∧ Fr h₀ env.locals h' m' ∧ News h₀ env.locals h' (Led c) ∧ (∀ p ∈ ps c, m' p.1 = some p.2) ∧ Inv n c) ?_ n₀ ⟨s.heap, s.toks, m, c₀, rfl, F, N, hps, h0⟩)
  rintro n s' ⟨h', tk, m', c, rfl, F', N', hps', hJ⟩
  refine wpAny_mono (turn n c m' h' tk hJ (fr_tracked F' hps') N') (fun b s₂ h₂ => ?_) fun _ _ x => x.elim
  cases b with
  | false =>
    simp only [Bool.false_eq_true, if_false] at h₂ ⊢
    exact wpAny_execs_nil h₂
  | true =>
    simp only [if_true] at h₂ ⊢
    refine wpAny_mono h₂ (fun f s₃ h₃ => ?_) fun _ _ x => x.elim
    cases f with
    | next =>
      obtain ⟨h₃, tk₃, m₃, c₃, n', rfl, hn, F₃, hps₃, N₃, hJ₃⟩ := h₃
      exact ⟨n', hn, h₃, tk₃, m₃, c₃, rfl, F₃, N₃, hps₃, hJ₃⟩
    | cont => exact h₃.elim
    | brk => exact h₃.elim
    | ret v => exact h₃
end
end

section
open PySem PySem.W PySem.Calls PySem.Spec PyProof.Rows

theorem ok_nn {q : Q4} (h : okQ q) : NN q := ⟨h.1.1, h.2.1.1, h.2.2.1.1, h.2.2.2.1⟩
theorem nn_run {q : Q4} (h : NN q) (fs : List Int) : ∀ n, NN (lrun fs n q)
  | 0 => h
  | _ + 1 => ok_nn (ok_block _ _)
theorem hd_off {e : Option Value} {g h : Heap} {L : Addr} {led : List (Addr × Obj)} (hok : HdOk e g) (N : News g L h led) : ∀ p ∈ led, e ≠ some (.ref p.1) := fun p hp q => by
  obtain ⟨a, ob, vs, e1, e2, _⟩ := hok _ q
  cases e1
  rw [(N p hp).2.2] at e2
  cases e2
theorem fr_same {g h : Heap} {L : Addr} {m : Str → Option Value} {c : Str} {v : Value} (F : Fr g L h m) (hm : m c = some v) : Fr g L h (fun y => if y = c then some v else m y) := by
  have e : (fun y => if y = c then some v else m y) = m := funext fun y => by
    split
    · rename y = c => q; rw [q, hm]
    · rfl
  rw [e]
  exact F
/-- where the ways of update's if meet: content holds what there was and what came -/
noncomputable def UpdAt (g : Heap) (L : Addr) (m : Str → Option Value) (led : List (Addr × Obj)) (fs : List Int) (s s' : Shared) : Prop :=
  ∃ h' tk' b t, s' = { s with heap := h', toks := tk' } ∧ KBw.bInts b = fs ∧ Fr g L h' (fun y => if y = Str.ofString "content" then some (.bytes b t) else m y) ∧ News g L h' led
theorem upd_intro {g h : Heap} {L : Addr} {m : Str → Option Value} {led : List (Addr × Obj)} {fs : List Int} {s : Shared} {tk : Nat} {b : Array UInt8} {t : Tok} (hb : KBw.bInts b = fs) (F : Fr g L h (fun y => if y = Str.ofString "content" then some (.bytes b t) else m y)) (N : News g L h led) :
    Joined (UpdAt g L m led fs s) .next { s with heap := h, toks := tk } := ⟨rfl, h, tk, b, t, rfl, hb, F, N⟩
theorem upd_join {M : Model} {A : Around} {E : Value → Shared → Prop} {s : Shared} {env : Env} {test : Expr} {body orelse : List Stmt} {pos : Pos} {Q : Flow → Shared → Prop} {g : Heap} {L : Addr} {m : Str → Option Value} {led : List (Addr × Obj)} (fs : List Int)
    (_F : Fr g L s.heap m) (_N : News g L s.heap led)
    (go : wpAny M A (exec (.If test body orelse pos) env) (Joined (UpdAt g L m led fs s)) (fun _ _ => False) s)
    (key : ∀ (h' : Heap) (tk' : Nat) (b : Array UInt8) (t : Tok), KBw.bInts b = fs → Fr g L h' (fun y => if y = Str.ofString "content" then some (.bytes b t) else m y) → News g L h' led → Q .next { s with heap := h', toks := tk' }) :
    wpAny M A (exec (.If test body orelse pos) env) Q E s := by
  refine wpAny_mono go (fun f s' hj => ?_) fun _ _ x => x.elim
  obtain ⟨rfl, h', tk', b, t, rfl, hb, F, N⟩ := hj
  exact key h' tk' b t hb F N
set_option maxRecDepth 100000 in
set_option maxHeartbeats 8000000 in
theorem update_does {w : World} {e : Option Value} {x dx sl : Addr} {cnt : Nat} {ct bt k1 k2 k3 : Tok} {buf : Array UInt8} {vs : List Value} {q : Q4} {n0 : Nat} {cont : Array UInt8} {u : Tok} {bs ks : List Int}
    (hbs : KBw.bInts buf = bs) (hks : KBw.bInts cont = ks) (hbl : bs.length < 64) (hkl : ks.length ≤ 1000) (hcnt : cnt ≤ 1000) (hvs : IntsAre vs (ql q)) (hq : NN q) (hxs : (@Ne Nat x sl)) (hds : (@Ne Nat dx sl)) (hxd : (@Ne Nat x dx)) :
    Does PySem.Challenge.rw_iw0003_01.row.prog w (hd.heap_39 w.params) e 106 [.ref x, .bytes cont u] 5 110 [(x, instObj 126 dx), (dx, mdict w cnt ct sl buf bt k1 k2 k3), (sl, listOf vs.toArray n0)]
      (fun n v led' => ∃ vs' ct' buf' bt', v = .none ∧ KBw.bInts buf' = (bs ++ ks).drop (64 * ((bs ++ ks).length / 64)) ∧ IntsAre vs' (ql (lrun (bs ++ ks) ((bs ++ ks).length / 64) q)) ∧ led' = [(x, instObj 126 dx), (dx, mdict w (cnt + (bs ++ ks).length / 64 : Nat) ct' sl buf' bt' k1 k2 k3), (sl, listOf vs'.toArray n0)]) := by
  w_top off
  k_with_none
  k_with "exec If" => (k_here; (with_reducible show wpAny _ _ (exec (Stmt.If (Expr.Name _ _) _ _ _) _) _ _ _); refine stop_at ?_)
  k_with "eval BinOp" => (k_here; k_fold; refine wpAny_BinOp ?_)
  k_with "eval Subscript" => (k_here; k_fold; walk1)
  k_with "eval Call" => (k_here; k_fold; walk1)
  k_with "eval Call Attribute" => (k_here; k_fold; walk1)
  k_with "last exec While" => (k_here; k_dflt (refine Whl_at ?_))
  k_fill
  refine' does_plain (binds := [(Str.ofString "self", .ref x), (Str.ofString "content", .bytes cont u)]) ?ho ?hcd ?hd1 ?hbind ?hloc ?hcell ?h ?c2 ?c3 ?c4
  case ho => k_dflt k_is
  case hcd => k_dflt k_is
  case hd1 => omega
  case hbind => intro _; exact BindsTo.of_eq rfl
  case hloc => exact locs rfl
  case hcell => decide
  case c2 => exact rfl
  case c3 => exact rfl
  case c4 => exact rfl
  intro p loose mean mg mb dp un gd cn cs a ccd cl outer A₀ base g L L' h₁ s tk B F X N T hk hok hdp hun hs
  (try dsimp only)
  k_fold
  k_steps
  unfold StopAt
  rename Fr _ _ _ _ => F9
  rename News _ _ _ _ => N9
  refine upd_join (bs ++ ks) F9 N9 ?go ?key
  case go =>
    refine wpAny_If ?_
    k_fold
    k_steps
    · rename Fr _ _ _ _ => F8
      rename News _ _ _ _ => N8
      exact upd_intro (by assumption) F8 N8
    · have hb0 : bs = [] := List.length_eq_zero_iff.mp (by omega)
      exact upd_intro (by rw [hb0]; exact hks) (fr_same F9 rfl) N9
  clear F9 N9
  intro h' tk' b1 tb hT F9 N9
  have hfl : (bs ++ ks).length = bs.length + ks.length := List.length_append
  revert hT hfl
  generalize hfs : bs ++ ks = fs
  intro hT hfl
  have hN : fs.length / 64 ≤ 100 := by omega
  k_steps
  refine' While_ret (σ := Nat × List Value × Tok × Tok) (fun c => [(x, instObj 126 dx), (dx, mdict w ((cnt + c.1 : Nat) : Int) c.2.2.1 sl buf bt k1 k2 k3), (sl, listOf c.2.1.toArray n0)]) (fun c => [(Str.ofString "self", .ref x), (Str.ofString "content", .bytes (b1) _), (Str.ofString "end", .int ((fs.length : Nat) : Int) _), (Str.ofString "idx", .int ((64 * c.1 : Nat) : Int) c.2.2.2)])
    (fun n c => c.1 ≤ fs.length / 64 ∧ n = fs.length / 64 - c.1 ∧ IntsAre c.2.1 (ql (lrun fs c.1 q))) (fs.length / 64) (0, vs, ct, _) ?F ?N ?hps ?h0 ?turn
  case F => assumption
  case N => assumption
  case hps => kst_all
  case h0 => exact ⟨Nat.zero_le _, rfl, hvs⟩
  case turn =>
    rintro n ⟨i, us, ct', it⟩ u' h tk ⟨hi1, hi2, hi3⟩ F' N'
    dsimp only at hi1 hi2 hi3 F' N'
    show wpAny _ _ _ _ _ _
    k_fold
    k_steps
    · have hle : 64 * i + 64 ≤ fs.length := by omega
      rename KBw.bInts (KBy.picked _ _ _) = _ => hp
      refine call_by (process_does (hp.trans (chunk_bytes hle)) (chunk_len hle) hi3 (nn_run hq fs i) hxs hds) [] (by k_asm) (by k_asm) (by k_asm) (by k_asm) (by k_asm) (by first | exact rfl | assumption) (HdOk.keeps hok (Fr.keep (by assumption))) (hd_off hok (by assumption)) (by (try dsimp only); omega) (by (try dsimp only); omega) (by kcj_all) (fun _ h => nomatch h) ?_
      rintro v led' h' tk' ⟨us', rfl, hv', rfl⟩ hlt F' N' hok'
      simp only [List.append_nil] at N'
      k_steps
      have e1 : ((cnt + i : Nat) : Int) + 1 = ((cnt + (i + 1) : Nat) : Int) := by omega
      have e2 : ((64 * i : Nat) : Int) + 64 = ((64 * (i + 1) : Nat) : Int) := by omega
      rename News _ _ _ _ => N9
      rename Fr _ _ _ _ => F9
      rw [e1] at N9
      rw [e2] at F9
      refine MdWhile.intro (fs.length / 64 - (i + 1)) (i + 1, us', _, _) ?_ F9 N9 (by kcj_all) (by kst_all) ⟨?_, rfl, hv'⟩
      · omega
      · dsimp only; omega
    · have hi : i = fs.length / 64 := by omega
      rename KBw.bInts (KBy.picked _ _ _) = _ => hp
      rename News _ _ _ _ => N9
      rename Fr _ _ _ _ => F9
      subst hfs
      subst hi
      show RetPost _ _ _ (Flow.ret Value.none) _
      refine ret_intro F9 N9 _ (fun _ h => h) ⟨us, _, _, _, rfl, ?_, hi3, rfl⟩
      rw [hp, show min (64 * ((bs ++ ks).length / 64)) (bs ++ ks).length = 64 * ((bs ++ ks).length / 64) by omega]
      exact List.take_of_length_le (by rw [List.length_drop]; omega)
end

section
open PySem PySem.W PySem.Calls PySem.Spec PyProof.Rows
theorem ints_quad {vs : List Value} {a b c d : Int} (h : IntsAre vs [a, b, c, d]) : ∃ ta tb tc td, vs = quad a b c d ta tb tc td := by
  cases h with
  | cons _ t1 h => cases h with
    | cons _ t2 h => cases h with
      | cons _ t3 h => cases h with
        | cons _ t4 h => cases h; exact ⟨_, _, _, _, rfl⟩
section
variable {prog : Program} {w : World} {A : Around} {E : Value → Shared → Prop} {s : Shared}
theorem mul_zeros {n : Int} {t u : Tok} {Q : Value → Shared → Prop} (h0 : 0 ≤ n) (h1 : n ≤ 1000) (hQ : ∀ b t k zs, KBw.bInts b = zs → zs = List.replicate n.toNat 0 → zs.length = n.toNat → zs.length ≤ 1000 → Q (.bytes b t) { s with toks := k }) :
    wpAny (model prog w) A (binaryOp .Mult (.bytes #[0] t) (.int n u)) Q E s := by
  refine bytes_mul_any (b := [0]) (List.cons_ne_nil _ _) (by omega) (by omega) (by decide) fun t' k => hQ _ t' k _ ?_ rfl (by simp) (by simp; omega)
  unfold KBw.bInts
  simp
theorem list_of_lt {h₀ : Heap} {L b : Addr} {m : Str → Option Value} {news : List (Addr × Obj)} {its2 : Array Value} {n2 : Nat} {zs : List Value} {Q : Value → Shared → Prop} (F : Fr h₀ L s.heap m) (N : News h₀ L s.heap news) (hb : (b, listOf its2 n2) ∈ news) (e : its2.toList = zs)
    (h : ∀ D c h', Fr h₀ L h' m → News h₀ L h' ((D, listOf zs.toArray c) :: news) → L < D → (∀ q ∈ news, q.1 < D) → Q (.ref D) { s with heap := h' }) (hz : its2.toList.length ≤ sizeLine) : wpAny (model prog w) A (call (.type "list") [.ref b]) Q E s := by
  obtain ⟨o, ho, hc, n, hd⟩ := N.isList hb
  subst e
  exact call_list_seq (hsz := by rw [← Array.length_toList]; exact hz) b (.inl rfl) ho hc hd fun h' c' hk hD => h _ c' h' (F.keeps hk) (by rw [Array.toArray_toList]; exact news_pushed F N hk hD rfl) F.ns.lt fun q hq => Heap.lt_size (N q hq).1
end
noncomputable def mlen (cnt : Nat) (bs : List Int) : Int := (cnt : Int) * 512 + (bs.length : Int) * 8
noncomputable def mfill (cnt : Nat) (bs : List Int) : List Int := bs ++ [128] ++ List.replicate ((119 - (bs.length : Int)).fmod 64).toNat 0 ++ KTBy.little 4 ((mlen cnt bs).fmod 4294967296) ++ KTBy.little 4 (((mlen cnt bs).fdiv (2 ^ Int.toNat 32)).fmod 4294967296)
noncomputable def mdigest (cnt : Nat) (bs : List Int) (q : Q4) : List Int := out4 (lrun (mfill cnt bs) ((mfill cnt bs).length / 64) q)


theorem lrun_zero (fs : List Int) (q : Q4) : lrun fs 0 q = q := by unfold lrun; rw [iterQ]
theorem lrun_succ (fs : List Int) (n : Nat) (q : Q4) : lrun fs (n + 1) q = lblock (chunk fs n) (lrun fs n q) := by unfold lrun; rw [iterQ]
theorem lrun_one (fs : List Int) (q : Q4) : lrun fs 1 q = lblock (chunk fs 0) q := by rw [lrun_succ, lrun_zero]
theorem lrun_two (fs : List Int) (q : Q4) : lrun fs 2 q = lblock (chunk fs 1) (lblock (chunk fs 0) q) := by rw [lrun_succ, lrun_one]
theorem lrun_64 {fs : List Int} (q : Q4) (h : fs.length = 64) : lrun fs (fs.length / 64) q = lblock (chunk fs 0) q := by
  rw [h, show 64 / 64 = 1 from rfl, lrun_one]
theorem lrun_128 {fs : List Int} (q : Q4) (h : fs.length = 128) : lrun fs (fs.length / 64) q = lblock (chunk fs 1) (lblock (chunk fs 0) q) := by
  rw [h, show 128 / 64 = 2 from rfl, lrun_two]
theorem off3 {D x y z : Addr} {o a b c : Obj} (h : x < D ∧ y < D ∧ z < D) : ∀ p ∈ [(D, o)], ∀ q ∈ [(x, a), (y, b), (z, c)], p.1 ≠ q.1 := by
  intro p hp q hq
  rw [List.mem_singleton.mp hp]
  simp only [List.mem_cons, List.not_mem_nil, or_false] at hq
  rcases hq with rfl | rfl | rfl
  · exact Ne.symm (Nat.ne_of_lt h.1)
  · exact Ne.symm (Nat.ne_of_lt h.2.1)
  · exact Ne.symm (Nat.ne_of_lt h.2.2)
theorem mfill_len (cnt : Nat) (bs : List Int) : (mfill cnt bs).length = bs.length + 9 + ((119 - (bs.length : Int)).fmod 64).toNat := by
  simp only [mfill, List.length_append, List.length_replicate, KTBy.little_length, List.length_cons, List.length_nil]
  omega
theorem mfill_two (cnt : Nat) {bs : List Int} (h : bs.length < 64) : (mfill cnt bs).length = 64 ∨ (mfill cnt bs).length = 128 := by
  rw [mfill_len, Int.fmod_eq_emod_of_nonneg _ (by decide)]
  omega
theorem chunk_whole {fs : List Int} (h : fs.length = 64) : fs = chunk fs 0 := (List.take_of_length_le (Nat.le_of_eq h)).symm
theorem chunk_first {fs : List Int} (h : fs.length = 128) : List.take (clipAt fs.length 64) fs = chunk fs 0 := by
  rw [show (64 : Int) = ((64 : Nat) : Int) from rfl, clipAt_nat, h]
  rfl
theorem chunk_second {fs : List Int} (h : fs.length = 128) : List.take (fs.length - clipAt fs.length 64) (List.drop (clipAt fs.length 64) fs) = chunk fs 1 := by
  rw [show (64 : Int) = ((64 : Nat) : Int) from rfl, clipAt_nat, h]
  rfl

inductive Gone : Prop | mk
/-- where the ways of digest's if meet: the object has taken the filled block in -/
noncomputable def DigAt (g : Heap) (L : Addr) (m : Str → Option Value) (x dx sl Do : Addr) (oi od oD : Obj) (n0 : Nat) (D : List Int) (s s' : Shared) : Prop :=
  ∃ h' tk' us r, s' = { s with heap := h', toks := tk' } ∧ IntsAre us (ql r) ∧ okQ r ∧ D = out4 r ∧ Fr g L h' m ∧ News g L h' [(x, oi), (dx, od), (sl, listOf us.toArray n0), (Do, oD)]
theorem dig_intro {g h : Heap} {L : Addr} {m : Str → Option Value} {x dx sl Do : Addr} {oi od oD : Obj} {n0 : Nat} {D : List Int} {s : Shared} {tk : Nat} {us : List Value} {r : Q4} (hv : IntsAre us (ql r)) (hr : okQ r) (hD : D = out4 r) (F : Fr g L h m)
    (N : News g L h [(x, oi), (dx, od), (sl, listOf us.toArray n0), (Do, oD)]) : Joined (DigAt g L m x dx sl Do oi od oD n0 D s) .next { s with heap := h, toks := tk } := ⟨rfl, h, tk, us, r, rfl, hv, hr, hD, F, N⟩
theorem dig_join {M : Model} {A : Around} {E : Value → Shared → Prop} {s : Shared} {env : Env} {test : Expr} {body orelse : List Stmt} {pos : Pos} {Q : Flow → Shared → Prop} {g : Heap} {L : Addr} {m : Str → Option Value} {x dx sl Do : Addr} {oi od ol oD : Obj} {n0 : Nat} {D : List Int}
    (_F : Fr g L s.heap m) (_N : News g L s.heap [(x, oi), (dx, od), (sl, ol), (Do, oD)]) (_hD : D = D)
    (go : wpAny M A (exec (.If test body orelse pos) env) (Joined (DigAt g L m x dx sl Do oi od oD n0 D s)) (fun _ _ => False) s)
    (key : ∀ (h' : Heap) (tk' : Nat) (a b c d : Int) (ta tb tc td : Tok), okQ (a, b, c, d) → D = out4 (a, b, c, d) → Fr g L h' m → News g L h' [(x, oi), (dx, od), (sl, listOf (quad a b c d ta tb tc td).toArray n0), (Do, oD)] → Q .next { s with heap := h', toks := tk' }) :
    wpAny M A (exec (.If test body orelse pos) env) Q E s := by
  refine wpAny_mono go (fun f s' hj => ?_) fun _ _ x => x.elim
  obtain ⟨rfl, h', tk', us, r, rfl, hv, hr, hD, F, N⟩ := hj
  obtain ⟨a, b, c, d⟩ := r
  obtain ⟨ta, tb, tc, td, rfl⟩ := ints_quad hv
  exact key h' tk' a b c d ta tb tc td hr hD F N
set_option maxRecDepth 100000 in
set_option maxHeartbeats 8000000 in
theorem digest_does {w : World} {x dx sl : Addr} {cnt : Nat} {ct bt k1 k2 k3 : Tok} {buf : Array UInt8} {vs : List Value} {q : Q4} {n0 : Nat} {bs : List Int}
    (hbs : KBw.bInts buf = bs) (hbl : bs.length < 64) (hcnt : cnt ≤ 1000) (hvs : IntsAre vs (ql q)) (hq : NN q) (hxs : (@Ne Nat x sl)) (hds : (@Ne Nat dx sl)) (hxd : (@Ne Nat x dx)) :
    Does PySem.Challenge.rw_iw0003_01.row.prog w (hd.heap_39 w.params) none 118 [.ref x] 5 120 [(x, instObj 126 dx), (dx, mdict w cnt ct sl buf bt k1 k2 k3), (sl, listOf vs.toArray n0)]
      (fun n v led' => ∃ bb t' sl' vs' n', v = .bytes bb t' ∧ n ≤ sl' ∧ KBw.bInts bb = mdigest cnt bs q ∧ IntsAre vs' (ql q) ∧ led' = [(x, instObj 126 dx), (dx, mdict w cnt ct sl' buf bt k1 k2 k3), (sl', listOf vs'.toArray n')]) := by
  obtain ⟨t1, t2, t3, t4, rfl⟩ := ints_quad hvs
  w_top off
  k_with_none
  k_with "eval BinOp" => (k_here; k_fold; refine wpAny_BinOp ?_)
  k_with "eval Subscript" => (k_here; k_fold; walk1)
  k_with "eval Call" => (k_here; k_fold; walk1)
  k_with "eval Call Attribute" => (k_here; k_fold; walk1)
  k_with "binaryOp BitAnd int int" => (k_here; k_dflt (refine and_mask ?_); intro tₓ kₓ hm1ₓ hm2ₓ)
  k_with "binaryOp RShift int int" => (k_here; k_dflt (refine' rshift_int ?q0ₓ ?_; (case q0ₓ => omega); k_whole))
  k_with "binaryOp Mult bytes int" => (k_here; k_dflt (refine' mul_zeros ?q0ₓ ?q1ₓ ?_; (case q0ₓ => exact fmod_lo _ (by decide)); (case q1ₓ => exact Int.le_trans (Int.le_of_lt (fmod_hi _ (by decide))) (by decide)); k_whole); intro bₓ tₓ kₓ zsₓ hbₓ hz1ₓ hz2ₓ hz3ₓ)
  k_with "call type:list" => (k_here; (with_reducible show wpAny _ _ (call (Value.type _) [Value.ref _]) _ _ _); k_dflt (refine' list_of_lt ?Fₓ ?Nₓ ?bₓ ?eₓ ?_ ?zₓ; (case Fₓ => k_asm); (case Nₓ => k_asm); (case bₓ => k_mem); (case eₓ => kl_lit); (case zₓ => kl_room)); intro Do co h' F' N' hLD l1; (try k_lt l1); (try k_sweep))
  k_with "getMethod bytes" => (k_here; (with_reducible refine method_join ?_))
  k_with "call builtin:bytes.join" => (k_here; k_dflt (refine' call_join ?lₓ ?eₓ ?h0ₓ ?h1ₓ ?h2ₓ ?h3ₓ ?zₓ ?_; (case lₓ => exact News.isList (by k_asm) (by k_mem)); (case eₓ => rfl); (case h0ₓ => assumption); (case h1ₓ => assumption); (case h2ₓ => assumption); (case h3ₓ => assumption); (case zₓ => (simp only [List.length_cons, List.length_nil]; omega)); k_whole); intro bₓ tₓ kₓ hbₓ)
  k_with "exec If" => (k_here; (with_reducible show wpAny _ _ (exec (Stmt.If (Expr.Compare _ _ _ _) _ _ _) _) _ _ _); refine stop_at ?_)
  k_with "setAttr ref" => (k_here; (fail_if_success (with_reducible rename Gone => hgoneₓ)); refine stop_at ?_)
  k_with "CompRest" => (k_here; refine stop_at ?_)
  k_fill
  refine' does_plain (binds := [(Str.ofString "self", .ref x)]) ?ho ?hcd ?hd1 ?hbind ?hloc ?hcell ?h ?c2 ?c3 ?c4
  case ho => k_dflt k_is
  case hcd => k_dflt k_is
  case hd1 => omega
  case hbind => intro _; exact BindsTo.of_eq rfl
  case hloc => exact locs rfl
  case hcell => decide
  case c2 => exact rfl
  case c3 => exact rfl
  case c4 => exact rfl
  intro p loose mean mg mb dp un gd cn cs a ccd cl outer A₀ base g L L' h₁ s tk B F X N T hk hok hdp hun hs
  (try dsimp only)
  k_fold
  k_steps
  unfold StopAt
  have hDo : s.heap.objs.size ≤ Do ∧ True := ⟨Nat.le_trans hs (Nat.le_of_lt (by assumption)), trivial⟩
  rename KBw.bInts (_ ++ _ ++ _ ++ _ ++ _) = _ => hfs
  rename _ = List.replicate _ _ => hzs
  subst hzs
  have hm := mfill_two cnt hbl
  have hfs' : KBw.bInts _ = mfill cnt bs := hfs
  have hD : mdigest cnt bs q = out4 (lrun (mfill cnt bs) ((mfill cnt bs).length / 64) q) := rfl
  clear hfs
  revert hm hfs' hD
  generalize mfill cnt bs = fs
  intro hm hfs hD
  repeat (rename KBw.bInts _ = KTBy.little _ _ => hzz; clear hzz)
  repeat (rename 0 ≤ Int.fmod _ _ => hzz; clear hzz)
  repeat (rename Int.fmod _ _ < _ => hzz; clear hzz)
  repeat (rename List.length _ ≤ _ => hzz; clear hzz)
  rename Fr _ _ _ _ => F9
  rename News _ _ _ _ => N9
  have hlt3 : x < Do ∧ dx < Do ∧ sl < Do := by assumption
  have N8 := cb_drop (news := [(x, instObj 126 dx), (dx, mdict w cnt ct sl buf bt k1 k2 k3), (sl, listOf (quad q.1 q.2.1 q.2.2.1 q.2.2.2 t1 t2 t3 t4).toArray n0), (Do, listOf (quad q.1 q.2.1 q.2.2.1 q.2.2.2 t1 t2 t3 t4).toArray _)]) N9 (by kcj_all)
  clear N9
  refine dig_join (n0 := n0) F9 N8 (Eq.refl (mdigest cnt bs q)) ?go ?key
  case go =>
    refine wpAny_If ?_
    k_fold
    k_steps
    · rename (fs.length : Int) = 128 => h128i
      have h128 : fs.length = 128 := by clear hm; omega
      clear h128i hm
      rename KBw.bInts (KBy.picked _ _ _) = _ => hp
      refine call_by (process_does (hp.trans (chunk_first h128)) (chunk_len (by omega)) hvs hq hxs hds) [(Do, listOf _ _)] (by k_asm) (by k_asm) (by k_asm) (by k_asm) (by k_asm) (by first | exact rfl | assumption) HdOk.none (fun _ _ h => nomatch h) (by (try dsimp only); omega) (by (try dsimp only); omega) (by kcj_all) (off3 hlt3) ?_
      rintro v led' h' tk' ⟨us', rfl, hv', rfl⟩ hlt F' N' hok'
      simp only [List.cons_append, List.nil_append] at N'
      k_steps
      rename KBw.bInts (KBy.picked _ _ _) = _ => hp2
      refine call_by (process_does (hp2.trans (chunk_second h128)) (chunk_len (by omega)) hv' (ok_nn (ok_block _ _)) hxs hds) [(Do, listOf _ _)] (by k_asm) (by k_asm) (by k_asm) (by k_asm) (by k_asm) (by first | exact rfl | assumption) HdOk.none (fun _ _ h => nomatch h) (by (try dsimp only); omega) (by (try dsimp only); omega) (by kcj_all) (off3 hlt3) ?_
      rintro v led' h' tk' ⟨us'', rfl, hv'', rfl⟩ hlt F' N' hok'
      simp only [List.cons_append, List.nil_append] at N'
      k_steps
      exact dig_intro hv'' (ok_block _ _) (hD.trans (congrArg out4 (lrun_128 q h128))) F' N'
    · rename (fs.length : Int) = 64 => h64i
      have h64 : fs.length = 64 := by clear hm; omega
      clear h64i hm
      refine call_by (process_does (hfs.trans (chunk_whole h64)) (chunk_len (by omega)) hvs hq hxs hds) [(Do, listOf _ _)] (by k_asm) (by k_asm) (by k_asm) (by k_asm) (by k_asm) (by first | exact rfl | assumption) HdOk.none (fun _ _ h => nomatch h) (by (try dsimp only); omega) (by (try dsimp only); omega) (by kcj_all) (off3 hlt3) ?_
      rintro v led' h' tk' ⟨us', rfl, hv', rfl⟩ hlt F' N' hok'
      simp only [List.cons_append, List.nil_append] at N'
      k_steps
      exact dig_intro hv' (ok_block _ _) (hD.trans (congrArg out4 (lrun_64 q h64))) F' N'
  case key =>
    clear hD hfs hm F9 N8
    repeat (rename KBw.bInts _ = _ => hzz; clear hzz)
    repeat (rename @Eq Nat _ _ => hzz; clear hzz)
    intro h' tk' x1 x2 x3 x4 ta tb tc td hr hD F9 N9
    obtain ⟨⟨a1, b1⟩, ⟨a2, b2⟩, ⟨a3, b3⟩, a4, b4⟩ := hr
    dsimp only at a1 b1 a2 b2 a3 b3 a4 b4
    k_steps
    unfold StopAt
    refine comp_restS (fun i v => ∃ k, [x1, x2, x3, x4][i]? = some k ∧ ∃ b u, v = .bytes b u ∧ KBw.bInts b = KTBy.little 4 k) (.inr ⟨_, by k_mem, rfl, _, rfl⟩) ?turn ?fin
    case turn =>
      rintro i v I oI C oC D m₂ ys h tk hi hv hC hx F' N' off ne
      obtain ⟨k, t, rfl, hk0, hk1, hik⟩ := quad_get a1 b1 a2 b2 a3 b3 a4 b4 hv
      simp only [LCg.Off3, and_true] at off
      k_steps
      exact ⟨_, _, rfl, by assumption, cb_drop (by assumption) (by kcj_all), k, hik, _, _, rfl, by assumption⟩
    case fin =>
      intro ys hyl hyR
      unfold LCg.FinE
      intro D h tk F' N' o1
      obtain ⟨_, _, _, _, rfl, ⟨_, e1, _, _, rfl, hb1⟩, ⟨_, e2, _, _, rfl, hb2⟩, ⟨_, e3, _, _, rfl, hb3⟩, _, e4, _, _, rfl, hb4⟩ := four hyl hyR
      cases e1
      cases e2
      cases e3
      cases e4
      dsimp only
      k_steps
      refine call_join (News.isList (by k_asm) (by k_mem)) rfl hb1 hb2 hb3 hb4 (by simp only [KTBy.little_length]; omega) ?_
      intro bb tb kb hbb
      k_steps
      unfold StopAt
      rename News _ _ _ _ => N9
      have N8 := cb_drop (news := [(x, instObj 126 dx), (dx, mdict w (cnt : Int) ct sl buf bt k1 k2 k3), (Do, listOf _ _)]) N9 (by kcj_all)
      clear N9
      have hD2 : dx < Do := hlt3.2.1
      have gone : Gone := .mk
      show wpAny _ _ _ _ _ _
      k_fold
      k_steps
      rename Fr _ _ _ _ => F9
      rename News _ _ _ _ => N9
      show RetPost _ _ _ (Flow.ret _) _
      refine ret_intro F9 N9 [(x, instObj 126 dx), (dx, mdict w cnt ct Do buf bt k1 k2 k3), (Do, listOf (quad q.1 q.2.1 q.2.2.1 q.2.2.2 t1 t2 t3 t4).toArray _)] (fun _ h => h) ⟨_, _, Do, _, _, rfl, hDo.1, ?_, hvs, rfl⟩
      rw [hD]
      exact hbb
end

section
open PySem PySem.W PySem.Calls PySem.Spec PyProof.Rows
noncomputable def hexOf (k : Nat) : Bool := match List.map Char.toNat (Nat.toDigits 16 k) with
  | [d] => decide (d ∈ [48, 49, 50, 51, 52, 53, 54, 55, 56, 57, 97, 98, 99, 100, 101, 102]) && decide ((⟨#[48, d]⟩ : Str) = hex2 (k : Int))
  | [d1, d2] => decide ((⟨#[d1, d2]⟩ : Str) = hex2 (k : Int))
  | _ => false
theorem hex_all : ∀ k : Nat, k < 256 → hexOf k = true := by decide +kernel
theorem hex_digits (k : Nat) (h : k < 256) : (∃ d, d ∈ [48, 49, 50, 51, 52, 53, 54, 55, 56, 57, 97, 98, 99, 100, 101, 102] ∧ List.map Char.toNat (Nat.toDigits 16 k) = [d] ∧ (⟨#[48, d]⟩ : Str) = hex2 (k : Int)) ∨ ∃ d1 d2, List.map Char.toNat (Nat.toDigits 16 k) = [d1, d2] ∧ (⟨#[d1, d2]⟩ : Str) = hex2 (k : Int) := by
  have a := hex_all k h
  unfold hexOf at a
  split at a
  · rw [Bool.and_eq_true] at a
    exact .inl ⟨_, of_decide_eq_true a.1, by assumption, of_decide_eq_true a.2⟩
  · exact .inr ⟨_, _, by assumption, of_decide_eq_true a⟩
  · cases a
section
variable {prog : Program} {w : World} {A : Around} {E : Value → Shared → Prop} {s : Shared}
set_option maxRecDepth 100000 in
theorem mod_hex {n : Int} {t u : Tok} {Q : Value → Shared → Prop} (h0 : 0 ≤ n) (h1 : n < 256) (h : ∀ t' k, Q (.str (hex2 n) t') { s with toks := k }) :
    wpAny (model prog w) A (binaryOp .Mod (.str (Str.ofString "%02x") t) (.int n u)) Q E s := by
  refine KPc.mod_lit (T := hex2 n) (X' := ⟨#[37, 48, 50, 120]⟩) (by decide +kernel) (shown (N := 2 ^ 1920) (by omega) (by omega) (Int.le_refl _)) ?_ h
  intro _ _
  apply KPc.meets_of
  intro _ _ _ _ _ _ hQ
  rw [KPc.entry_is]
  unfold Builtin.Str.percentFormat
  refine wpAny_bind (wpAny_isInstance (typeIs_int _ _ _) F.sub_int_tuple ?_)
  refine wpAny_bind (wpAny_of_eq (a := none) rfl ?_)
  refine wpAny_bind (wpAny_of_eq (KPc.fills _ _) ?_)
  kpc_if
  refine wpAny_bind (wpAny_pure ?_)
  refine wpAny_bind ?_
  rw [KPc.range_list]
  refine KPc.start ?_
  intro w' hg
  refine KPc.turn ?_
  kpc_check
  repeat kpc_if
  refine wpAny_bind ?_
  refine wpAny_holding ?_
  repeat kpc_if
  refine wpAny_bind (wpAny_of_eq (a := n) rfl ?_)
  repeat kpc_if
  refine wpAny_bind (wpAny_pure ?_)
  have hneg : decide (n < 0) = false := decide_eq_false (by omega)
  have key := hex_digits n.toNat (by omega)
  rw [show ((n.toNat : Nat) : Int) = n by omega, show n.toNat = n.natAbs by omega] at key
  revert hneg key
  generalize decide (n < 0) = b
  generalize List.map Char.toNat (Nat.toDigits 16 n.natAbs) = ds
  intro hneg key
  subst hneg
  rcases key with ⟨d, hd, rfl, he⟩ | ⟨d1, d2, rfl, he⟩
  · have hl2 : (hex2 n).length = 2 := by rw [← he]; rfl
    refine wpAny_pure ?_
    refine wpAny_pure ?_
    refine KPc.after_add0 hg (y := hex2 n) (Eq.trans (b := (⟨#[48, d]⟩ : Str)) ?_ he) (KPc.obj_none rfl) ?_
    · simp only [List.mem_cons, List.not_mem_nil, or_false] at hd
      rcases hd with rfl | rfl | rfl | rfl | rfl | rfl | rfl | rfl | rfl | rfl | rfl | rfl | rfl | rfl | rfl | rfl <;> rfl
    intro w2 hg2
    rw [hl2] at hg2
    refine KPc.turn ?_
    kpc_check
    (repeat kpc_if)
    refine wpAny_pure ?_
    kpc_if
    exact KPc.finish_ok hg2 (by decide) rfl hQ
  · refine wpAny_pure ?_
    refine wpAny_pure ?_
    refine KPc.after_add0 hg (y := hex2 n) he (KPc.obj_none rfl) ?_
    intro w2 hg2
    have hl2 : (hex2 n).length = 2 := by rw [← he]; rfl
    rw [hl2] at hg2
    refine KPc.turn ?_
    kpc_check
    (repeat kpc_if)
    refine wpAny_pure ?_
    kpc_if
    exact KPc.finish_ok hg2 (by decide) rfl hQ
end
end

section
open PySem PySem.W PySem.Calls PySem.Spec PyProof.Rows
theorem mdigest_len (cnt : Nat) (bs : List Int) (q : Q4) : (mdigest cnt bs q).length = 16 := by
  unfold mdigest out4
  simp only [List.length_append, KTBy.little_length]

section

set_option maxRecDepth 100000 in
set_option maxHeartbeats 1000000 in
theorem hexdigest_does {w : World} {x dx sl : Addr} {cnt : Nat} {ct bt k1 k2 k3 : Tok} {buf : Array UInt8} {vs : List Value} {q : Q4} {n0 : Nat} {bs : List Int}
    (hbs : KBw.bInts buf = bs) (hbl : bs.length < 64) (hcnt : cnt ≤ 1000) (hvs : IntsAre vs (ql q)) (hq : NN q) (hxs : (@Ne Nat x sl)) (hds : (@Ne Nat dx sl)) (hxd : (@Ne Nat x dx)) :
    Does PySem.Challenge.rw_iw0003_01.row.prog w (hd.heap_39 w.params) none 123 [.ref x] 7 160 [(x, instObj 126 dx), (dx, mdict w cnt ct sl buf bt k1 k2 k3), (sl, listOf vs.toArray n0)]
      (fun n v led' => ∃ t' sl' vs' n', v = .str (hexS (mdigest cnt bs q)) t' ∧ n ≤ sl' ∧ IntsAre vs' (ql q) ∧ led' = [(x, instObj 126 dx), (dx, mdict w cnt ct sl' buf bt k1 k2 k3), (sl', listOf vs'.toArray n')]) := by
  w_top off
  k_with_none
  k_with "eval BinOp" => (k_here; k_fold; refine wpAny_BinOp ?_)
  k_with "eval Subscript" => (k_here; k_fold; walk1)
  k_with "eval Call" => (k_here; k_fold; walk1)
  k_with "eval Call Attribute" => (k_here; k_fold; walk1)
  k_with "eval ListComp" => (k_here; k_dflt (refine ListComp_W (by k_asm) (by rfl) (by decide) (by rfl) (by decide) (by rfl) ?_ (by intro _; rfl)))
  k_with "binaryOp Mod str int" => (k_here; k_dflt (refine' mod_hex ?q0ₓ ?q1ₓ ?_; (case q0ₓ => omega); (case q1ₓ => omega); k_whole); intro tₓ kₓ)
  k_fill
  refine' does_plain (binds := [(Str.ofString "self", .ref x)]) ?ho ?hcd ?hd1 ?hbind ?hloc ?hcell ?h ?c2 ?c3 ?c4
  case ho => k_dflt k_is
  case hcd => k_dflt k_is
  case hd1 => omega
  case hbind => intro _; exact BindsTo.of_eq rfl
  case hloc => exact locs rfl
  case hcell => decide
  case c2 => exact rfl
  case c3 => exact rfl
  case c4 => exact rfl
  intro p loose mean mg mb dp un gd cn cs a ccd cl outer A₀ base g L L' h₁ s tk B F X N T hk hok hdp hun hs
  (try dsimp only)
  k_fold
  k_steps
  have hlt0 : s.heap.objs.size < h₁.objs.size := Nat.lt_of_le_of_lt hs F.ns.lt
  refine call_by (digest_does hbs hbl hcnt hvs hq hxs hds hxd) [] (by k_asm) (by k_asm) (by k_asm) (by k_asm) (by k_asm) (by first | exact rfl | assumption) HdOk.none (fun _ _ h => nomatch h) (by (try dsimp only); omega) (by (try dsimp only); omega) (by kcj_all) (fun _ h => nomatch h) ?_
  rintro v led' h' tk' ⟨bb, t', sl', vs', n', rfl, hsl, hbb, hv', rfl⟩ hlt F' N' hok'
  simp only [List.append_nil] at N'
  have hlen := mdigest_len cnt bs q
  revert hbb hlen
  generalize hke : mdigest cnt bs q = ks
  intro hks hlen
  refine CSrc.bytes rfl (by rw [← KBw.ints_length bb, hks, sizeLine_eq]; omega) (by assumption) (by assumption) ?_
  rintro s₂ ⟨g', rfl⟩
  refine comp_rest (fun i v => ∃ k t, ks[i]? = some k ∧ v = .str (hex2 k) t) ?_ ?_
  · rintro i v I oI C oC D m₂ ys h tk hi ⟨c, t, hc, rfl⟩ hC hx F' N' off ne
    simp only [LCg.Off3, and_true] at off
    have hc0 : (0 : Int) ≤ (c.toNat : Int) := by omega
    have hc1 : (c.toNat : Int) < 256 := by have := c.toNat_lt; omega
    k_steps
    exact ⟨_, _, rfl, by assumption, cb_drop (by assumption) (by kcj_all), _, _, hks ▸ KBw.ints_get hc, rfl⟩
  · intro ys hyl hyR
    unfold LCg.FinE
    intro D h tk F' N' o1
    have hys : StrsAre ys (ks.map hex2) := strs_of (by rw [hyl, ← KBw.ints_length bb, hks]) hyR
    have hr : ∀ k ∈ ks, 0 ≤ k ∧ k < 256 := fun k hk => KBw.ints_in (hks ▸ hk)
    dsimp only
    k_steps
    refine join_list (News.isList (by k_asm) (by k_mem)) hys (by rw [hex2_lens hr, List.length_map]; show 2 * ks.length + ks.length * 0 ≤ _; omega) ?_
    intro t' k'
    k_steps
    refine ret_intro (by assumption) (by assumption) [(x, instObj 126 dx), (dx, mdict w cnt ct sl' buf bt k1 k2 k3), (sl', listOf vs'.toArray n')] (by kcj_all) ⟨_, sl', vs', n', congrArg (fun z => Value.str (hexS z) _) hke.symm, ?_, hv', rfl⟩
    exact Nat.le_trans (Nat.le_of_lt hlt0) hsl
end
end

section
open PySem PySem.W PySem.Calls PySem.Spec PyProof.Rows
theorem chunk_left {A F : List Int} {c i : Nat} (hA : A.length = 64 * c) (hi : i < c) : chunk (A ++ F) i = chunk A i := by
  unfold chunk
  rw [List.drop_append_of_le_length (by omega), List.take_append_of_le_length (by rw [List.length_drop]; omega)]
theorem chunk_right {A F : List Int} {c : Nat} (hA : A.length = 64 * c) (i : Nat) : chunk (A ++ F) (c + i) = chunk F i := by
  unfold chunk
  rw [show 64 * (c + i) = A.length + 64 * i by omega, List.drop_append]
  simp [List.drop_eq_nil_of_le]
theorem lrun_left {A F : List Int} {c : Nat} (hA : A.length = 64 * c) (q : Q4) : ∀ k, k ≤ c → lrun (A ++ F) k q = lrun A k q
  | 0, _ => by rw [lrun_zero, lrun_zero]
  | k + 1, h => by rw [lrun_succ, lrun_succ, lrun_left hA q k (by omega), chunk_left hA (by omega)]
theorem lrun_right {A F : List Int} {c : Nat} (hA : A.length = 64 * c) (q : Q4) : ∀ k, lrun (A ++ F) (c + k) q = lrun F k (lrun A c q)
  | 0 => by rw [lrun_zero, Nat.add_zero, lrun_left hA q c (Nat.le_refl _)]
  | k + 1 => by rw [← Nat.add_assoc, lrun_succ, lrun_succ, lrun_right hA q k, chunk_right hA]

/-- what an object holds that has taken m in -/
structure Took (m : List Int) (cnt : Nat) (bs : List Int) (q : Q4) : Prop where
  hc : cnt = m.length / 64
  hb : bs = m.drop (64 * cnt)
  hr : q = lrun m cnt q0
theorem took_nil : Took [] 0 [] q0 := ⟨rfl, rfl, (lrun_zero _ _).symm⟩
theorem Took.split {m : List Int} {cnt : Nat} {bs : List Int} {q : Q4} (h : Took m cnt bs q) : (m.take (64 * cnt)).length = 64 * cnt ∧ m = m.take (64 * cnt) ++ bs ∧ bs.length < 64 ∧ m.length = 64 * cnt + bs.length ∧ q = lrun (m.take (64 * cnt)) cnt q0 := by
  obtain ⟨h1, h2, h3⟩ := h
  have hl : (m.take (64 * cnt)).length = 64 * cnt := by rw [List.length_take]; omega
  have hs : m = m.take (64 * cnt) ++ bs := by rw [h2]; exact (List.take_append_drop _ _).symm
  refine ⟨hl, hs, ?_, ?_, ?_⟩
  · rw [h2, List.length_drop]; omega
  · have := congrArg List.length hs
    rw [List.length_append, hl] at this
    exact this
  · have e := lrun_left (F := bs) hl q0 cnt (Nat.le_refl _)
    rw [← hs] at e
    rw [h3, e]
theorem Took.more {m : List Int} {cnt : Nat} {bs : List Int} {q : Q4} (h : Took m cnt bs q) (ks : List Int) : Took (m ++ ks) (cnt + (bs ++ ks).length / 64) ((bs ++ ks).drop (64 * ((bs ++ ks).length / 64))) (lrun (bs ++ ks) ((bs ++ ks).length / 64) q) := by
  obtain ⟨hl, hs, hb, hm, hq⟩ := h.split
  have e : m ++ ks = m.take (64 * cnt) ++ (bs ++ ks) := by rw [← List.append_assoc, ← hs]
  have el : (m ++ ks).length = 64 * cnt + (bs ++ ks).length := by rw [e, List.length_append, hl]
  refine ⟨by omega, ?_, ?_⟩
  · rw [e, show 64 * (cnt + (bs ++ ks).length / 64) = (m.take (64 * cnt)).length + 64 * ((bs ++ ks).length / 64) by omega, ← List.drop_drop, List.drop_left]
  · rw [e, lrun_right hl, ← hq]
theorem quo (y k : Int) : y % (256 * k) / 256 = y / 256 % k := by
  rw [Int.emod_def, Int.emod_def, Int.mul_assoc, Int.sub_eq_add_neg, ← Int.mul_neg, Int.add_mul_ediv_left _ _ (by decide), Int.ediv_ediv_of_nonneg (by decide), ← Int.sub_eq_add_neg]
theorem quo4 (y : Int) : y % 4294967296 / 256 = y / 256 % 16777216 := quo y 16777216
theorem quo3 (y : Int) : y % 16777216 / 256 = y / 256 % 65536 := quo y 65536
theorem quo2 (y : Int) : y % 65536 / 256 = y / 256 % 256 := quo y 256
theorem little4 (x : Int) : KTBy.little 4 (x % 4294967296) = KTBy.little 4 x := by
  show [_, _, _, _] = [_, _, _, _]
  rw [quo4, quo3, quo2, Int.emod_emod_of_dvd x (by decide : (256 : Int) ∣ 4294967296), Int.emod_emod_of_dvd _ (by decide : (256 : Int) ∣ 16777216), Int.emod_emod_of_dvd _ (by decide : (256 : Int) ∣ 65536), Int.emod_emod_of_dvd _ (by decide : (256 : Int) ∣ 256)]
theorem little_add (x : Int) : KTBy.little 8 x = KTBy.little 4 (x.fmod 4294967296) ++ KTBy.little 4 ((x.fdiv (2 ^ Int.toNat 32)).fmod 4294967296) := by
  rw [Int.fmod_eq_emod_of_nonneg _ (by decide), Int.fmod_eq_emod_of_nonneg _ (by decide), Int.fdiv_eq_ediv_of_nonneg _ (by decide), little4, little4]
  rw [show ((2 : Int) ^ Int.toNat 32) = 256 * 256 * 256 * 256 from rfl, ← Int.ediv_ediv_of_nonneg (by decide), ← Int.ediv_ediv_of_nonneg (by decide), ← Int.ediv_ediv_of_nonneg (by decide)]
  rfl
theorem Took.digest {m : List Int} {cnt : Nat} {bs : List Int} {q : Q4} (h : Took m cnt bs q) : mdigest cnt bs q = ldigest m := by
  obtain ⟨hl, hs, hb, hm, hq⟩ := h.split
  have e : lfill m = m.take (64 * cnt) ++ mfill cnt bs := by
    unfold lfill mfill
    have e1 : (119 - (bs.length : Int)).fmod 64 = (55 - (m.length : Int)).fmod 64 := by
      rw [Int.fmod_eq_emod_of_nonneg _ (by decide), Int.fmod_eq_emod_of_nonneg _ (by decide)]
      omega
    have e2 : mlen cnt bs = 8 * (m.length : Int) := by unfold mlen; omega
    rw [e1, e2, little_add]
    conv => lhs; rw [hs]
    simp only [List.append_assoc]
    rw [← hs]
  have el : (lfill m).length / 64 = cnt + (mfill cnt bs).length / 64 := by rw [e, List.length_append, hl]; omega
  unfold ldigest mdigest
  rw [el, e, lrun_right hl, ← hq]
theorem bytes_eq {a b : Array UInt8} (h : KBw.bInts a = KBw.bInts b) : a = b := by
  unfold KBw.bInts at h
  have inj : ∀ {xs ys : List UInt8}, xs.map (fun c => (c.toNat : Int)) = ys.map (fun c => (c.toNat : Int)) → xs = ys := by
    intro xs
    induction xs with
    | nil => intro ys h; cases ys with
      | nil => rfl
      | cons y ys => simp at h
    | cons x xs ih => intro ys h; cases ys with
      | nil => simp at h
      | cons y ys =>
        simp only [List.map_cons, List.cons.injEq] at h
        rw [ih h.2, UInt8.toNat_inj.mp (by omega : x.toNat = y.toNat)]
  exact Array.ext' (inj h)
end

section
open PySem PySem.W PySem.Calls PySem.Spec PyProof.Rows
section
/-- what stands in the ledger of an md4 object that has taken mm in -/
noncomputable def Md (w : World) (x : Addr) (mm : List Int) (led : List (Addr × Obj)) : Prop :=
  ∃ (dx sl : Addr) (cnt : Nat) (ct bt k1 k2 k3 : Tok) (buf : Array UInt8) (vs : List Value) (q : Q4) (n0 : Nat),
    led = [(x, instObj 126 dx), (dx, mdict w cnt ct sl buf bt k1 k2 k3), (sl, listOf vs.toArray n0)] ∧ Took mm cnt (KBw.bInts buf) q ∧ IntsAre vs (ql q) ∧ (@Ne Nat x sl) ∧ (@Ne Nat dx sl) ∧ (@Ne Nat x dx)
noncomputable def Off (led rest : List (Addr × Obj)) : Prop := ∀ p ∈ rest, ∀ q ∈ led, p.1 ≠ q.1
noncomputable def Grown (n : Nat) (led led' : List (Addr × Obj)) : Prop := ∀ q ∈ led', q.1 ∈ led.map (·.1) ∨ n ≤ q.1
theorem Off.grown {n : Nat} {led led' rest : List (Addr × Obj)} (o : Off led rest) (g : Grown n led led') (h : ∀ p ∈ rest, p.1 < n) : Off led' rest := fun p hp q hq e => by
  rcases g q hq with g | g
  · obtain ⟨q', hq', e'⟩ := List.mem_map.mp g
    exact o p hp q' hq' (e.trans e'.symm)
  · exact absurd (e ▸ h p hp) (Nat.not_lt.mpr g)
theorem does_mono {prog : Program} {w : World} {K : Frag} {hd : Option Value} {f : Addr} {vs : List Value} {d u : Nat} {led : List (Addr × Obj)} {Ret Ret' : Nat → Value → List (Addr × Obj) → Prop} (C : Does prog w K hd f vs d u led Ret) (h : ∀ n v led', Ret n v led' → Ret' n v led') : Does prog w K hd f vs d u led Ret' :=
  fun p loose mean mg mb dp un gd cn cs a ccd cl outer A₀ base h₀ L m s Q E B F X N T hcs hok hne hdp hun ret =>
    C p loose mean mg mb dp un gd cn cs a ccd cl outer A₀ base h₀ L m s Q E B F X N T hcs hok hne hdp hun fun v led' h' tk' r => ret v led' h' tk' (h _ _ _ r)
theorem took_nn {m : List Int} {cnt : Nat} {bs : List Int} {q : Q4} (h : Took m cnt bs q) : NN q := by
  rw [h.hr]
  exact nn_run (ok_nn ok_q0) _ _
theorem took_bound {m : List Int} {cnt : Nat} {bs : List Int} {q : Q4} (h : Took m cnt bs q) (hm : m.length ≤ 704) : bs.length < 64 ∧ cnt ≤ 1000 :=
  ⟨h.split.2.2.1, by rw [h.hc]; exact Nat.le_trans (Nat.div_le_self _ _) (Nat.le_trans hm (by decide))⟩
theorem grown3 {n : Nat} {x y z z' : Addr} {a b c a' b' c' : Obj} (h : z' = z ∨ n ≤ z') : Grown n [(x, a), (y, b), (z, c)] [(x, a'), (y, b'), (z', c')] := by
  intro q hq
  simp only [List.mem_cons, List.not_mem_nil, or_false] at hq
  rcases hq with rfl | rfl | rfl
  · left; simp
  · left; simp
  · rcases h with h | h
    · left; simp [h]
    · right; exact h
theorem update_md {w : World} {e : Option Value} {x : Addr} {mm ks : List Int} {led : List (Addr × Obj)} {cont : Array UInt8} {u : Tok} (H : Md w x mm led) (hm : mm.length ≤ 704) (hks : KBw.bInts cont = ks) (hkl : ks.length ≤ 704) :
    Does PySem.Challenge.rw_iw0003_01.row.prog w (hd.heap_39 w.params) e 106 [.ref x, .bytes cont u] 5 110 led (fun n v led' => v = .none ∧ Md w x (mm ++ ks) led' ∧ Grown n led led') := by
  obtain ⟨dx, sl, cnt, ct, bt, k1, k2, k3, buf, vs, q, n0, rfl, hT, hvs, h1, h2, h3⟩ := H
  obtain ⟨hb, hl⟩ := took_bound hT hm
  refine does_mono (update_does rfl hks hb (Nat.le_trans hkl (by decide)) hl hvs (took_nn hT) h1 h2 h3) ?_
  rintro n v led' ⟨vs', ct', buf', bt', rfl, hb', hv', rfl⟩
  have hM := hT.more ks
  rw [← hb'] at hM
  exact ⟨rfl, ⟨dx, sl, _, ct', bt', k1, k2, k3, buf', vs', _, n0, rfl, hM, hv', h1, h2, h3⟩, grown3 (.inl rfl)⟩
theorem digest_md {w : World} {x : Addr} {mm : List Int} {led : List (Addr × Obj)} (H : Md w x mm led) (hm : mm.length ≤ 704) :
    Does PySem.Challenge.rw_iw0003_01.row.prog w (hd.heap_39 w.params) none 118 [.ref x] 5 120 led (fun n v led' => ∃ bb t', v = .bytes bb t' ∧ KBw.bInts bb = ldigest mm ∧ ((∀ p ∈ led, p.1 < n) → Md w x mm led') ∧ Grown n led led') := by
  obtain ⟨dx, sl, cnt, ct, bt, k1, k2, k3, buf, vs, q, n0, rfl, hT, hvs, h1, h2, h3⟩ := H
  obtain ⟨hb, hl⟩ := took_bound hT hm
  refine does_mono (digest_does rfl hb hl hvs (took_nn hT) h1 h2 h3) ?_
  rintro n v led' ⟨bb, t', sl', vs', n', rfl, hs, hbb, hv', rfl⟩
  refine ⟨bb, t', rfl, hbb.trans hT.digest, fun hlt => ⟨dx, sl', cnt, ct, bt, k1, k2, k3, buf, vs', q, n', rfl, hT, hv', ?_, ?_, h3⟩, grown3 (.inr hs)⟩
  · exact Nat.ne_of_lt (Nat.lt_of_lt_of_le (hlt _ (.head _)) hs)
  · exact Nat.ne_of_lt (Nat.lt_of_lt_of_le (hlt _ (.tail _ (.head _))) hs)
theorem hexdigest_md {w : World} {x : Addr} {mm : List Int} {led : List (Addr × Obj)} (H : Md w x mm led) (hm : mm.length ≤ 704) :
    Does PySem.Challenge.rw_iw0003_01.row.prog w (hd.heap_39 w.params) none 123 [.ref x] 7 160 led (fun n v led' => ∃ t', v = .str (hexS (ldigest mm)) t' ∧ ((∀ p ∈ led, p.1 < n) → Md w x mm led') ∧ Grown n led led') := by
  obtain ⟨dx, sl, cnt, ct, bt, k1, k2, k3, buf, vs, q, n0, rfl, hT, hvs, h1, h2, h3⟩ := H
  obtain ⟨hb, hl⟩ := took_bound hT hm
  refine does_mono (hexdigest_does rfl hb hl hvs (took_nn hT) h1 h2 h3) ?_
  rintro n v led' ⟨t', sl', vs', n', rfl, hs, hv', rfl⟩
  refine ⟨t', congrArg (fun z => Value.str (hexS z) t') hT.digest, fun hlt => ⟨dx, sl', cnt, ct, bt, k1, k2, k3, buf, vs', q, n', rfl, hT, hv', ?_, ?_, h3⟩, grown3 (.inr hs)⟩
  · exact Nat.ne_of_lt (Nat.lt_of_lt_of_le (hlt _ (.head _)) hs)
  · exact Nat.ne_of_lt (Nat.lt_of_lt_of_le (hlt _ (.tail _ (.head _))) hs)
theorem md_new {w : World} {x dx sl : Addr} {ct bt k1 k2 k3 t1 t2 t3 t4 : Tok} {n0 : Nat} (h1 : (@Ne Nat x sl)) (h2 : (@Ne Nat dx sl)) (h3 : (@Ne Nat x dx)) :
    Md w x [] [(x, instObj 126 dx), (dx, mdict w 0 ct sl #[] bt k1 k2 k3), (sl, listOf #[.int 1732584193 t1, .int 4023233417 t2, .int 2562383102 t3, .int 271733878 t4] n0)] :=
  ⟨dx, sl, 0, ct, bt, k1, k2, k3, #[], [.int 1732584193 t1, .int 4023233417 t2, .int 2562383102 t3, .int 271733878 t4], q0, n0, rfl, took_nil, .cons _ _ (.cons _ _ (.cons _ _ (.cons _ _ .nil))), h1, h2, h3⟩

theorem md_off {e : Option Value} {h : Heap} {w : World} {x : Addr} {mm : List Int} {led : List (Addr × Obj)} (hok : HdOk e h) (H : Md w x mm led) (N : ∀ p ∈ led, h.get? p.1 = some p.2) : ∀ p ∈ led, e ≠ some (.ref p.1) := fun p hp q => by
  obtain ⟨a, ob, vs, e1, e2, e3, _⟩ := hok _ q
  cases e1
  rw [N p hp] at e2
  cases e2
  obtain ⟨dx, sl, cnt, ct, bt, k1, k2, k3, buf, us, q, n0, rfl, _⟩ := H
  simp only [List.mem_cons, List.not_mem_nil, or_false] at hp
  rcases hp with rfl | rfl | rfl <;> cases e3
theorem ks_of {b : Array UInt8} {ks : List Int} (h : KBw.bInts b = ks) (hl : ks.length ≤ 352) : ∃ ks, KBw.bInts b = ks ∧ ks.length ≤ 352 := ⟨_, h, hl⟩
structure PartsAre (b1 b2 b3 b4 b : Array UInt8) (p1 p2 p3 p4 : List Int) : Prop where
  e1 : KBw.bInts b1 = p1
  e2 : KBw.bInts b2 = p2
  e3 : KBw.bInts b3 = p3
  e4 : KBw.bInts b4 = p4
  e : KBw.bInts b = p1 ++ p2 ++ p3 ++ p4
  l1 : p1.length ≤ 44
  l2 : p2.length ≤ 44
  l3 : p3.length ≤ 44
  l4 : p4.length ≤ 44
theorem off_nil_of {g h : Heap} {L : Addr} {news : List (Addr × Obj)} (_ : News g L h news) : Off [] news := fun _ _ _ q => nomatch q
theorem to_md {w : World} {g h : Heap} {L x dx sl D : Addr} {oD : Obj} {ct bt k1 k2 k3 t1 t2 t3 t4 : Tok} {n0 : Nat} (_N : News g L h [(x, instObj 126 dx), (dx, mdict w 0 ct sl #[] bt k1 k2 k3), (sl, listOf #[.int 1732584193 t1, .int 4023233417 t2, .int 2562383102 t3, .int 271733878 t4] n0), (D, oD)])
    (h1 : @LT.lt Nat _ D dx) (h2 : @LT.lt Nat _ dx x) (h3 : @LT.lt Nat _ x sl) : Md w x [] [(x, instObj 126 dx), (dx, mdict w 0 ct sl #[] bt k1 k2 k3), (sl, listOf #[.int 1732584193 t1, .int 4023233417 t2, .int 2562383102 t3, .int 271733878 t4] n0)] ∧
      Off [(x, instObj 126 dx), (dx, mdict w 0 ct sl #[] bt k1 k2 k3), (sl, listOf #[.int 1732584193 t1, .int 4023233417 t2, .int 2562383102 t3, .int 271733878 t4] n0)] [(D, oD)] := by
  refine ⟨md_new (Nat.ne_of_lt h3) (Nat.ne_of_lt (Nat.lt_trans h2 h3)) (Nat.ne_of_gt h2), ?_⟩
  intro p hp q hq
  rw [List.mem_singleton.mp hp]
  simp only [List.mem_cons, List.not_mem_nil, or_false] at hq
  rcases hq with rfl | rfl | rfl
  · exact Nat.ne_of_lt (Nat.lt_trans h1 h2)
  · exact Nat.ne_of_lt h1
  · exact Nat.ne_of_lt (Nat.lt_trans h1 (Nat.lt_trans h2 h3))
/-- a call by its contract: what it hands over grows, so what stood off it stands off it still -/
theorem call_md {prog : Program} {w : World} {K : Frag} {hd : Option Value} {f : Addr} {vs : List Value} {d u : Nat} {led : List (Addr × Obj)} {Ret : Nat → Value → List (Addr × Obj) → Prop}
    {p : Program} {loose : List Str} {mean : ExcName → Option Value} {mg mb : Str → Option Value} {dp un : Nat} {gd : Option (List Code)} {cn : Str} {cs : Scope} {a : Addr} {ccd : Value} {cl : List (Str × Addr)} {outer : List Env} {A₀ : Around} {base h₀ : Heap} {L : Addr} {m : Str → Option Value} {s : Shared} {Q E : Value → Shared → Prop} {news : List (Addr × Obj)}
    (C : Does prog w K hd f vs d u led Ret) (rest : List (Addr × Obj)) (off : Off led rest) (B : Below A₀ base outer h₀) (F : Fr h₀ L s.heap m) (X : K.In h₀) (N : News h₀ L s.heap news) (T : Top p loose mean mg mb h₀) (hk : cs.kind = .function) (hok : HdOk hd s.heap) (hne : ∀ p ∈ led, hd ≠ some (.ref p.1))
    (hdp : dp + d < recursionLimit) (hun : un + u < cLine) (hsub : ∀ p ∈ led ++ rest, p ∈ news)
    (ret : ∀ v led' h' tk', Ret s.heap.objs.size v led' → (∀ p ∈ led, p.1 < s.heap.objs.size) → (Grown s.heap.objs.size led led' → Off led' rest) → Fr h₀ L h' m → News h₀ L h' (led' ++ rest) → HdOk hd h' → Q v { s with heap := h', toks := tk' }) :
    wpAny (model prog w) (cTop hd dp un gd cn cs L a ccd cl outer) (call (.ref f) vs) Q E s :=
  call_by C rest B F X N T hk hok hne hdp hun hsub off fun v led' h' tk' r hlt F' N' ok' =>
    ret v led' h' tk' r (fun p hp => hlt p (hsub p (List.mem_append_left _ hp))) (fun g => off.grown g fun p hp => hlt p (hsub p (List.mem_append_right _ hp))) F' N' ok'

theorem md_cases {w : World} {x : Addr} {mm : List Int} {led : List (Addr × Obj)} (H : Md w x mm led) {C : List (Addr × Obj) → Prop}
    (k : ∀ (dx sl : Addr) (cnt : Nat) (ct bt k1 k2 k3 : Tok) (buf : Array UInt8) (vs : List Value) (q : Q4) (n0 : Nat), Took mm cnt (KBw.bInts buf) q → IntsAre vs (ql q) → Md w x mm [(x, instObj 126 dx), (dx, mdict w cnt ct sl buf bt k1 k2 k3), (sl, listOf vs.toArray n0)] → C [(x, instObj 126 dx), (dx, mdict w cnt ct sl buf bt k1 k2 k3), (sl, listOf vs.toArray n0)]) : C led := by
  have H2 := H
  obtain ⟨dx, sl, cnt, ct, bt, k1, k2, k3, buf, vs, q, n0, rfl, hT, hvs, _⟩ := H2
  exact k dx sl cnt ct bt k1 k2 k3 buf vs q n0 hT hvs H
theorem upd_call {w : World} {hd₁ : Option Value} {p : Program} {loose : List Str} {mean : ExcName → Option Value} {mg mb : Str → Option Value} {dp un : Nat} {gd : Option (List Code)} {cn : Str} {cs : Scope} {a : Addr} {ccd : Value} {cl : List (Str × Addr)} {outer : List Env} {A₀ : Around} {base h₀ : Heap} {L : Addr} {m : Str → Option Value} {s : Shared} {Q E : Value → Shared → Prop} {news led rest : List (Addr × Obj)} {x : Addr} {mm : List Int} {cont : Array UInt8} {u : Tok} {ks : List Int} (HM : Md w x mm led) (hm : mm.length ≤ 704) (hks : KBw.bInts cont = ks) (hkl : ks.length ≤ 704) (HO : Off led rest) (B : Below A₀ base outer h₀) (F : Fr h₀ L s.heap m) (X : (hd.heap_39 w.params).In h₀) (N : News h₀ L s.heap news) (T : Top p loose mean mg mb h₀) (hk : cs.kind = .function) (hok : HdOk hd₁ s.heap) (hne : ∀ p ∈ led, hd₁ ≠ some (.ref p.1)) (hdp : dp + 5 < recursionLimit) (hun : un + 110 < cLine) (hsub : ∀ p ∈ led ++ rest, p ∈ news)
    (ret : ∀ (dx sl : Addr) (cnt : Nat) (ct bt k1 k2 k3 : Tok) (buf : Array UInt8) (vs : List Value) (q : Q4) (n0 : Nat) (h' : Heap) (tk' : Nat), Took (mm ++ ks) cnt (KBw.bInts buf) q → IntsAre vs (ql q) → Md w x (mm ++ ks) [(x, instObj 126 dx), (dx, mdict w cnt ct sl buf bt k1 k2 k3), (sl, listOf vs.toArray n0)] → Off [(x, instObj 126 dx), (dx, mdict w cnt ct sl buf bt k1 k2 k3), (sl, listOf vs.toArray n0)] rest → Fr h₀ L h' m → News h₀ L h' ((x, instObj 126 dx) :: (dx, mdict w cnt ct sl buf bt k1 k2 k3) :: (sl, listOf vs.toArray n0) :: rest) → Q .none { s with heap := h', toks := tk' }) :
    wpAny (model PySem.Challenge.rw_iw0003_01.row.prog w) (cTop hd₁ dp un gd cn cs L a ccd cl outer) (call (.ref 106) [.ref x, .bytes cont u]) Q E s := by
  refine call_md (update_md HM hm hks hkl) rest HO B F X N T hk hok hne hdp hun hsub ?_
  rintro v led' h' tk' ⟨rfl, HM, hG⟩ hlt hO F' N' ok'
  exact md_cases HM (C := fun led' => Off led' rest → News h₀ L h' (led' ++ rest) → Q .none { s with heap := h', toks := tk' }) (fun dx sl cnt ct bt k1 k2 k3 buf vs q n0 hT hvs HM HO N => ret dx sl cnt ct bt k1 k2 k3 buf vs q n0 h' tk' hT hvs HM HO F' N) (hO hG) N'
theorem dig_call {w : World} {p : Program} {loose : List Str} {mean : ExcName → Option Value} {mg mb : Str → Option Value} {dp un : Nat} {gd : Option (List Code)} {cn : Str} {cs : Scope} {a : Addr} {ccd : Value} {cl : List (Str × Addr)} {outer : List Env} {A₀ : Around} {base h₀ : Heap} {L : Addr} {m : Str → Option Value} {s : Shared} {Q E : Value → Shared → Prop} {news led rest : List (Addr × Obj)} {x : Addr} {mm : List Int} (HM : Md w x mm led) (hm : mm.length ≤ 704) (HO : Off led rest) (B : Below A₀ base outer h₀) (F : Fr h₀ L s.heap m) (X : (hd.heap_39 w.params).In h₀) (N : News h₀ L s.heap news) (T : Top p loose mean mg mb h₀) (hk : cs.kind = .function) (hdp : dp + 5 < recursionLimit) (hun : un + 120 < cLine) (hsub : ∀ p ∈ led ++ rest, p ∈ news)
    (ret : ∀ (dx sl : Addr) (cnt : Nat) (ct bt k1 k2 k3 : Tok) (buf : Array UInt8) (vs : List Value) (q : Q4) (n0 : Nat) (h' : Heap) (tk' : Nat) (bb : Array UInt8) (tb : Tok) (_ : KBw.bInts bb = ldigest mm), Took (mm) cnt (KBw.bInts buf) q → IntsAre vs (ql q) → Md w x (mm) [(x, instObj 126 dx), (dx, mdict w cnt ct sl buf bt k1 k2 k3), (sl, listOf vs.toArray n0)] → Off [(x, instObj 126 dx), (dx, mdict w cnt ct sl buf bt k1 k2 k3), (sl, listOf vs.toArray n0)] rest → Fr h₀ L h' m → News h₀ L h' ((x, instObj 126 dx) :: (dx, mdict w cnt ct sl buf bt k1 k2 k3) :: (sl, listOf vs.toArray n0) :: rest) → Q (.bytes bb tb) { s with heap := h', toks := tk' }) :
    wpAny (model PySem.Challenge.rw_iw0003_01.row.prog w) (cTop none dp un gd cn cs L a ccd cl outer) (call (.ref 118) [.ref x]) Q E s := by
  refine call_md (digest_md HM hm) rest HO B F X N T hk HdOk.none (fun _ _ h => nomatch h) hdp hun hsub ?_
  rintro v led' h' tk' ⟨bb, tb, rfl, hbb, hMd, hG⟩ hlt hO F' N' ok'
  have HM := hMd hlt
  exact md_cases HM (C := fun led' => Off led' rest → News h₀ L h' (led' ++ rest) → Q (.bytes bb tb) { s with heap := h', toks := tk' }) (fun dx sl cnt ct bt k1 k2 k3 buf vs q n0 hT hvs HM HO N => ret dx sl cnt ct bt k1 k2 k3 buf vs q n0 h' tk' bb tb hbb hT hvs HM HO F' N) (hO hG) N'
theorem hex_call {w : World} {p : Program} {loose : List Str} {mean : ExcName → Option Value} {mg mb : Str → Option Value} {dp un : Nat} {gd : Option (List Code)} {cn : Str} {cs : Scope} {a : Addr} {ccd : Value} {cl : List (Str × Addr)} {outer : List Env} {A₀ : Around} {base h₀ : Heap} {L : Addr} {m : Str → Option Value} {s : Shared} {Q E : Value → Shared → Prop} {news led rest : List (Addr × Obj)} {x : Addr} {mm : List Int} (HM : Md w x mm led) (hm : mm.length ≤ 704) (HO : Off led rest) (B : Below A₀ base outer h₀) (F : Fr h₀ L s.heap m) (X : (hd.heap_39 w.params).In h₀) (N : News h₀ L s.heap news) (T : Top p loose mean mg mb h₀) (hk : cs.kind = .function) (hdp : dp + 7 < recursionLimit) (hun : un + 160 < cLine) (hsub : ∀ p ∈ led ++ rest, p ∈ news)
    (ret : ∀ (dx sl : Addr) (cnt : Nat) (ct bt k1 k2 k3 : Tok) (buf : Array UInt8) (vs : List Value) (q : Q4) (n0 : Nat) (h' : Heap) (tk' : Nat) (tb : Tok), Took (mm) cnt (KBw.bInts buf) q → IntsAre vs (ql q) → Md w x (mm) [(x, instObj 126 dx), (dx, mdict w cnt ct sl buf bt k1 k2 k3), (sl, listOf vs.toArray n0)] → Off [(x, instObj 126 dx), (dx, mdict w cnt ct sl buf bt k1 k2 k3), (sl, listOf vs.toArray n0)] rest → Fr h₀ L h' m → News h₀ L h' ((x, instObj 126 dx) :: (dx, mdict w cnt ct sl buf bt k1 k2 k3) :: (sl, listOf vs.toArray n0) :: rest) → Q (.str (hexS (ldigest mm)) tb) { s with heap := h', toks := tk' }) :
    wpAny (model PySem.Challenge.rw_iw0003_01.row.prog w) (cTop none dp un gd cn cs L a ccd cl outer) (call (.ref 123) [.ref x]) Q E s := by
  refine call_md (hexdigest_md HM hm) rest HO B F X N T hk HdOk.none (fun _ _ h => nomatch h) hdp hun hsub ?_
  rintro v led' h' tk' ⟨tb, rfl, hMd, hG⟩ hlt hO F' N' ok'
  have HM := hMd hlt
  exact md_cases HM (C := fun led' => Off led' rest → News h₀ L h' (led' ++ rest) → Q (.str (hexS (ldigest mm)) tb) { s with heap := h', toks := tk' }) (fun dx sl cnt ct bt k1 k2 k3 buf vs q n0 hT hvs HM HO N => ret dx sl cnt ct bt k1 k2 k3 buf vs q n0 h' tk' tb hT hvs HM HO F' N) (hO hG) N'
/-- where the ways of an if meet again -/
noncomputable def JoinAt (w : World) (h₀ : Heap) (L : Addr) (m : Str → Option Value) (x : Addr) (mm : List Int) (rest : List (Addr × Obj)) (s s' : Shared) : Prop :=
  ∃ h' tk' led', s' = { s with heap := h', toks := tk' } ∧ Md w x mm led' ∧ Off led' rest ∧ Fr h₀ L h' m ∧ News h₀ L h' (led' ++ rest)
theorem if_join {M : Model} {A : Around} {E : Value → Shared → Prop} {s : Shared} {env : Env} {test : Expr} {body orelse : List Stmt} {pos : Pos} {Q : Flow → Shared → Prop} {w : World} {h₀ : Heap} {L : Addr} {m : Str → Option Value} {x : Addr} {mm₀ : List Int} {led₀ rest : List (Addr × Obj)} (mm : List Int)
    (_F : Fr h₀ L s.heap m) (_HM : Md w x mm₀ led₀) (_HO : Off led₀ rest)
    (go : wpAny M A (exec (.If test body orelse pos) env) (Joined (JoinAt w h₀ L m x mm rest s)) (fun _ _ => False) s)
    (key : ∀ (dx sl : Addr) (cnt : Nat) (ct bt k1 k2 k3 : Tok) (buf : Array UInt8) (vs : List Value) (q : Q4) (n0 : Nat) (h' : Heap) (tk' : Nat), Took mm cnt (KBw.bInts buf) q → IntsAre vs (ql q) → Md w x mm [(x, instObj 126 dx), (dx, mdict w cnt ct sl buf bt k1 k2 k3), (sl, listOf vs.toArray n0)] → Off [(x, instObj 126 dx), (dx, mdict w cnt ct sl buf bt k1 k2 k3), (sl, listOf vs.toArray n0)] rest → Fr h₀ L h' m → News h₀ L h' ((x, instObj 126 dx) :: (dx, mdict w cnt ct sl buf bt k1 k2 k3) :: (sl, listOf vs.toArray n0) :: rest) → Q .next { s with heap := h', toks := tk' }) :
    wpAny M A (exec (.If test body orelse pos) env) Q E s := by
  refine wpAny_mono go (fun f s' hj => ?_) fun _ _ x => x.elim
  obtain ⟨rfl, h', tk', led', rfl, a, b, c, d⟩ := hj
  exact md_cases a (C := fun led' => Off led' rest → News h₀ L h' (led' ++ rest) → Q .next { s with heap := h', toks := tk' }) (fun dx sl cnt ct bt k1 k2 k3 buf vs q n0 hT hvs HM HO N => key dx sl cnt ct bt k1 k2 k3 buf vs q n0 h' tk' hT hvs HM HO c N) b d
theorem if_same {M : Model} {A : Around} {E : Value → Shared → Prop} {s : Shared} {env : Env} {test : Expr} {body orelse : List Stmt} {pos : Pos} {Q : Flow → Shared → Prop} {w : World} {h₀ : Heap} {L : Addr} {m : Str → Option Value} {x : Addr} {mm : List Int} {led₀ rest : List (Addr × Obj)}
    (F : Fr h₀ L s.heap m) (HM : Md w x mm led₀) (HO : Off led₀ rest)
    (go : wpAny M A (exec (.If test body orelse pos) env) (Joined (JoinAt w h₀ L m x mm rest s)) (fun _ _ => False) s)
    (key : ∀ (dx sl : Addr) (cnt : Nat) (ct bt k1 k2 k3 : Tok) (buf : Array UInt8) (vs : List Value) (q : Q4) (n0 : Nat) (h' : Heap) (tk' : Nat), Took mm cnt (KBw.bInts buf) q → IntsAre vs (ql q) → Md w x mm [(x, instObj 126 dx), (dx, mdict w cnt ct sl buf bt k1 k2 k3), (sl, listOf vs.toArray n0)] → Off [(x, instObj 126 dx), (dx, mdict w cnt ct sl buf bt k1 k2 k3), (sl, listOf vs.toArray n0)] rest → Fr h₀ L h' m → News h₀ L h' ((x, instObj 126 dx) :: (dx, mdict w cnt ct sl buf bt k1 k2 k3) :: (sl, listOf vs.toArray n0) :: rest) → Q .next { s with heap := h', toks := tk' }) :
    wpAny M A (exec (.If test body orelse pos) env) Q E s := if_join mm F HM HO go key
theorem ldigest_len (ks : List Int) : (ldigest ks).length = 16 := by
  unfold ldigest out4
  simp only [List.length_append, KTBy.little_length]
/-- the copy of an object: both stand apart -/
theorem md_copy {w : World} {g h : Heap} {L x x2 d2 Do D : Addr} {oD : Obj} {mm : List Int} {led₁ : List (Addr × Obj)} {cnt : Nat} {ct' bt' k1' k2' k3' : Tok} {buf : Array UInt8} {us : List Value} {q : Q4} {co : Nat}
    (_HM : Md w x mm led₁) (_HO : Off led₁ [(D, oD)]) (hT : Took mm cnt (KBw.bInts buf) q) (hvs : IntsAre us (ql q))
    (_N : News g L h ([(x2, instObj 126 d2), (d2, mdict w cnt ct' Do buf bt' k1' k2' k3'), (Do, listOf us.toArray co)] ++ (led₁ ++ [(D, oD)])))
    (hl : ∀ p ∈ led₁ ++ [(D, oD)], @LT.lt Nat _ p.1 d2) (h2 : @LT.lt Nat _ d2 x2) (h3 : @LT.lt Nat _ x2 Do) :
    Md w x2 mm [(x2, instObj 126 d2), (d2, mdict w cnt ct' Do buf bt' k1' k2' k3'), (Do, listOf us.toArray co)] ∧ Off [(x2, instObj 126 d2), (d2, mdict w cnt ct' Do buf bt' k1' k2' k3'), (Do, listOf us.toArray co)] (led₁ ++ [(D, oD)]) := by
  refine ⟨⟨d2, Do, cnt, ct', bt', k1', k2', k3', buf, us, q, co, rfl, hT, hvs, Nat.ne_of_lt h3, Nat.ne_of_lt (Nat.lt_trans h2 h3), Nat.ne_of_gt h2⟩, ?_⟩
  intro p hp r hr
  have hz := hl p hp
  simp only [List.mem_cons, List.not_mem_nil, or_false] at hr
  rcases hr with rfl | rfl | rfl
  · exact Nat.ne_of_lt (Nat.lt_trans hz h2)
  · exact Nat.ne_of_lt hz
  · exact Nat.ne_of_lt (Nat.lt_trans hz (Nat.lt_trans h2 h3))
theorem off_swap {led led2 r : List (Addr × Obj)} (o : Off led r) (o2 : Off led2 (led ++ r)) : Off led (led2 ++ r) := fun p hp q hq e => by
  rcases List.mem_append.mp hp with hp | hp
  · exact o2 q (List.mem_append_left _ hq) p hp e.symm
  · exact o p hp q hq e
theorem off_right {led r r' : List (Addr × Obj)} (o : Off led (r' ++ r)) : Off led r := fun p hp => o p (List.mem_append_right _ hp)
noncomputable def JoinR (R : List Int → Prop) (w : World) (h₀ : Heap) (L : Addr) (m : Str → Option Value) (x : Addr) (rest : List (Addr × Obj)) (s s' : Shared) : Prop :=
  ∃ h' tk' led' m', s' = { s with heap := h', toks := tk' } ∧ R m' ∧ Md w x m' led' ∧ Off led' rest ∧ Fr h₀ L h' m ∧ News h₀ L h' (led' ++ rest)
theorem joinr_intro {R : List Int → Prop} {s : Shared} {w : World} {h₀ h : Heap} {tk : Nat} {L : Addr} {m : Str → Option Value} {x : Addr} {mm : List Int} {led rest : List (Addr × Obj)} (hR : R mm) (H : Md w x mm led) (O : Off led rest) (F : Fr h₀ L h m) (N : News h₀ L h (led ++ rest)) :
    Joined (JoinR R w h₀ L m x rest s) .next { s with heap := h, toks := tk } := ⟨rfl, h, tk, led, mm, rfl, hR, H, O, F, N⟩
theorem if_third {M : Model} {A : Around} {E : Value → Shared → Prop} {s : Shared} {env : Env} {test : Expr} {body orelse : List Stmt} {pos : Pos} {Q : Flow → Shared → Prop} {w : World} {h₀ : Heap} {L : Addr} {m : Str → Option Value} {x : Addr} {mm : List Int} {led₀ rest : List (Addr × Obj)}
    {n : Int} {b1 b2 b3 b4 b : Array UInt8} {p1 p2 p3 p4 : List Int} (_hn : n.fmod 4 ≠ 1) (_HP : PartsAre b1 b2 b3 b4 b p1 p2 p3 p4) (_F : Fr h₀ L s.heap m) (_HM : Md w x mm led₀) (_HO : Off led₀ rest)
    (go : wpAny M A (exec (.If test body orelse pos) env) (Joined (JoinR (fun m' => n.fmod 4 = 3 → m' = mm ++ p4) w h₀ L m x rest s)) (fun _ _ => False) s)
    (key : ∀ (dx sl : Addr) (cnt : Nat) (ct bt k1 k2 k3 : Tok) (buf : Array UInt8) (vs : List Value) (q : Q4) (n0 : Nat) (h' : Heap) (tk' : Nat) (m' : List Int), (n.fmod 4 = 3 → m' = mm ++ p4) → Took m' cnt (KBw.bInts buf) q → IntsAre vs (ql q) → Md w x m' [(x, instObj 126 dx), (dx, mdict w cnt ct sl buf bt k1 k2 k3), (sl, listOf vs.toArray n0)] → Off [(x, instObj 126 dx), (dx, mdict w cnt ct sl buf bt k1 k2 k3), (sl, listOf vs.toArray n0)] rest → Fr h₀ L h' m → News h₀ L h' ((x, instObj 126 dx) :: (dx, mdict w cnt ct sl buf bt k1 k2 k3) :: (sl, listOf vs.toArray n0) :: rest) → Q .next { s with heap := h', toks := tk' }) :
    wpAny M A (exec (.If test body orelse pos) env) Q E s := by
  refine wpAny_mono go (fun f s' hj => ?_) fun _ _ x => x.elim
  obtain ⟨rfl, h', tk', led', m', rfl, r, a, b, c, d⟩ := hj
  exact md_cases a (C := fun led' => Off led' rest → News h₀ L h' (led' ++ rest) → Q .next { s with heap := h', toks := tk' }) (fun dx sl cnt ct bt k1 k2 k3 buf vs q n0 hT hvs HM HO N => key dx sl cnt ct bt k1 k2 k3 buf vs q n0 h' tk' m' r hT hvs HM HO c N) b d
theorem str_bne {s : Str} (h : (s != s) = true) : False := by simp at h
theorem ints_bne {s : List UInt8} (h : (s != s) = true) : False := by simp at h
theorem join_intro {s : Shared} {w : World} {h₀ h : Heap} {tk : Nat} {L : Addr} {m : Str → Option Value} {x : Addr} {mm : List Int} {led rest : List (Addr × Obj)} (H : Md w x mm led) (O : Off led rest) (F : Fr h₀ L h m) (N : News h₀ L h (led ++ rest)) :
    Joined (JoinAt w h₀ L m x mm rest s) .next { s with heap := h, toks := tk } := ⟨rfl, h, tk, led, rfl, H, O, F, N⟩
end
end

section
open PySem PySem.W PySem.Calls PySem.Spec PyProof.Rows
section
variable {prog : Program} {w : World} {A : Around} {E : Value → Shared → Prop} {s : Shared} {h₀ : Heap} {L : Addr} {m : Str → Option Value} {env : Env}

/-- the names' space of a comprehension with one cell -/
theorem newEnv_comp {scope : Scope} {globals : Addr} {qual : Str} {x : Str} {Q : Env → Shared → Prop} (hc : ∀ n, cellsFrom n scope.names [] = [(x, n)]) (hp : ∀ h, pushCells h scope.names = h.push { cls := .type "cell", data := .cell none })
    (h : Q { scope, locals := s.heap.objs.size, globals, cells := [(x, s.heap.objs.size + 1)], qual, func := none, code := env.code, frame := env.frame, builtins := env.builtins }
      { s with heap := (s.heap.push { cls := .type "dict", data := .dict #[] }).push { cls := .type "cell", data := .cell none } }) :
    wpAny (model prog w) A (newFunctionEnv scope globals [] [] qual none .none (some env)) Q E s := by
  simp only [newFunctionEnv, Option.isSome_some, if_true]
  refine wpAny_bind (wpAny_alloc ?_)
  refine wpAny_bind (wpAny_layCells _ (fun name kind cells => by cases hkc : kind == NameKind.cell <;> simp [hkc]) _ _ _ _ ?_)
  rw [hc, hp]
  rw [show ({ s with heap := s.heap.push { cls := .type "dict", data := .dict #[] } } : Shared).heap.objs.size = s.heap.objs.size + 1 from Heap.size_push ..]
  rw [List.forIn_nil]
  exact wpAny_bind (wpAny_pure (wpAny_pure h))

/-- what a comprehension over a list does whose target is a cell: an element's value, and the end -/
structure CellRest (prog : Program) (w : World) (A : Around) (h₀ : Heap) (L : Addr) (m : Str → Option Value) (env : Env) (elt : Expr) (x y : Str) (scope : Scope) (s : Shared) (its : Array Value) (news : List (Addr × Obj)) (Q : Flow → Shared → Prop) (R : Nat → Value → Prop) : Prop where
  turn : ∀ i v I oI C oC K oK D ys h tk, its[i]? = some v → oK.data = .cell (some v) → Fr h₀ L h m → News h₀ L h ((I, oI) :: (C, oC) :: (K, oK) :: (D, LCg.lst ys) :: news) →
    wpAny (model prog w) A (eval elt (compEnvC scope [(x, K)] C env)) (EltEnd h₀ L m { s with heap := h, toks := tk } ((I, oI) :: (C, oC) :: (K, oK) :: (D, LCg.lst ys) :: news) (R i)) (fun _ _ => False) { s with heap := h, toks := tk }
  fin : ∀ ys D h tk, ys.length = its.size → (∀ (i : Nat) z, ys[i]? = some z → R i z) → Fr h₀ L h (fun z => if z = y then some (.ref D) else m z) → News h₀ L h ((D, LCg.lst ys) :: news) → (∀ p ∈ news, p.1 < D) → Q .next { s with heap := h, toks := tk }

noncomputable def CellSrc (prog : Program) (w : World) (A : Around) (h₀ : Heap) (L : Addr) (m : Str → Option Value) (env : Env) (elt : Expr) (x y : Str) (scope : Scope) (Q : Flow → Shared → Prop) (xv : Value) (s₁ : Shared) : Prop :=
  ∃ ax its k news R, xv = .ref ax ∧ Fr h₀ L s₁.heap m ∧ News h₀ L s₁.heap news ∧ (ax, ({ cls := .type "list", data := .seq its k } : Obj)) ∈ news ∧ its.size ≤ sizeLine ∧ CellRest prog w A h₀ L m env elt x y scope s₁ its news Q R
theorem CellSrc.intro {elt : Expr} {x y : Str} {scope : Scope} {Q : Flow → Shared → Prop} {ax : Addr} {its : Array Value} {k : Nat} {news : List (Addr × Obj)} (R : Nat → Value → Prop) (F : Fr h₀ L s.heap m) (N : News h₀ L s.heap news)
    (hm : (ax, ({ cls := .type "list", data := .seq its k } : Obj)) ∈ news) (hz : its.size ≤ sizeLine) (W : CellRest prog w A h₀ L m env elt x y scope s its news Q R) : CellSrc prog w A h₀ L m env elt x y scope Q (.ref ax) s :=
  ⟨ax, its, k, news, R, rfl, F, N, hm, hz, W⟩

theorem Assign_cell_comp {elt iter : Expr} {x y : Str} {px py : Pos} {scope : Scope} {pos spos : Pos} {Q : Flow → Shared → Prop} (_F₀ : Fr h₀ L s.heap m) (hh : A.handled = none) (hLe : env.locals = L)
    (hsw : swapsWith (.ListComp elt [⟨.Name x px, iter, [], 0⟩] scope pos) (some (.Name y py)) spos.line env = pure true)
    (hclos : closureFor scope env = pure []) (hc : ∀ n, cellsFrom n scope.names [] = [(x, n)]) (hp : ∀ h, pushCells h scope.names = h.push { cls := .type "cell", data := .cell none }) (hkind : scope.kind = .function)
    (hnames : ∀ z ∈ scope.names, z.2 = .local → scope.names.lookup z.1 = some .local) (hx : ∀ K C, (compEnvC scope [(x, K)] C env).kindOf x = some .cell)
    (hy : env.kindOf y = some .local) (hpl : (env.scope.kind == .class || (env.scope.kind == .module && env.locals != env.globals)) = false)
    (h : wpAny (model prog w) A (eval iter env) (CellSrc prog w A h₀ L m env elt x y scope Q) E s)
    (hs : ∀ x, foldedSetIterable iter env x = pure x) :
    wpAny (model prog w) A (exec (.Assign [.Name y py] (.ListComp elt [⟨.Name x px, iter, [], 0⟩] scope pos) spos) env) Q E s := by
  subst hLe
  rw [exec_Assign_Name_used _ _ _ _ hsw]
  refine wpAny_bind (wpAny_standAt (wpAny_bind ?_))
  show wpAny _ A (do let _ ← comprehension (.ListComp elt [⟨.Name x px, iter, [], 0⟩] scope pos) scope env _ (newList []) false (eval iter env) (some (assign (.Name y py) env))) _ _ s
  refine wpAny_bind (wpAny_mono (wpAny_comprehension_free (use := some (assign (.Name y py) env)) (Q := fun _ s' => Q .next s') rfl hs hclos hkind hnames
    (wpAny_mono h (fun xv s₁ h₁ => ?_) fun _ _ e => e)) (fun _ s' hq => wpAny_pure (wpAny_pure hq)) fun _ _ e => e)
  obtain ⟨ax, its, k, news, R, rfl, F, N, hax, hsz, W⟩ := h₁
  have hls : s₁.heap.IsList ax its := N.isList hax
  refine wpAny_pyIter_list hls ?_
  have F1 := F.push { cls := .type "list_iterator", data := .fields #[.ref ax, .int 0 0] }
  have N1 := News.push F N { cls := .type "list_iterator", data := .fields #[.ref ax, .int 0 0] }
  have hit : (s₁.heap.push { cls := .type "list_iterator", data := .fields #[.ref ax, .int 0 0] }).IsListIter s₁.heap.objs.size ax 0 := ⟨_, Heap.get?_push_size _ rfl, rfl, rfl⟩
  have hls1 := hls.push { cls := .type "list_iterator", data := .fields #[.ref ax, .int 0 0] }
  have hlt : ∀ p ∈ news, p.1 < s₁.heap.objs.size := fun p hp => Heap.lt_size (N p hp).1
  have hsz1 : (s₁.heap.push { cls := .type "list_iterator", data := .fields #[.ref ax, .int 0 0] }).objs.size = s₁.heap.objs.size + 1 := Heap.size_push ..
  revert F1 N1 hit hls1 hsz1
  generalize s₁.heap.push { cls := .type "list_iterator", data := .fields #[.ref ax, .int 0 0] } = H1
  intro F1 N1 hit hls1 hsz1
  have hIlt : ∀ p ∈ news, p.1 < H1.objs.size := fun p hp => by rw [hsz1]; exact Nat.lt_succ_of_lt (hlt p hp)
  have hLI : env.locals < s₁.heap.objs.size := F.ns.lt
  have hI₀ : h₀.get? s₁.heap.objs.size = none := next_is_new F
  revert hlt hLI hI₀ hit N1 hsz1
  generalize s₁.heap.objs.size = I
  intro hlt N1 hit hsz1 hLI hI₀
  have hne : ax ≠ I := Nat.ne_of_lt (hlt _ hax)
  refine wpAny_newObj_type (newEnv_comp hc hp ?_)
  dsimp only
  generalize hl0 : ({ cls := .type "list", dict := none, data := .seq ([] : List Value).toArray } : Obj) = o0
  have F2 := F1.push o0
  have N2 := News.push F1 N1 o0 (by rw [← hl0]; rfl)
  have hD₀ : h₀.get? H1.objs.size = none := next_is_new F1
  have hsz2 : (H1.push o0).objs.size = H1.objs.size + 1 := Heap.size_push ..
  have F3 := F2.push { cls := .type "dict", data := .dict #[] }
  have N3 := News.push F2 N2 { cls := .type "dict", data := .dict #[] }
  have hC₀ : h₀.get? (H1.push o0).objs.size = none := next_is_new F2
  have hsz3 : ((H1.push o0).push { cls := .type "dict", data := .dict #[] }).objs.size = (H1.push o0).objs.size + 1 := Heap.size_push ..
  have F4 := F3.push { cls := .type "cell", data := .cell none }
  have N4 := News.push F3 N3 { cls := .type "cell", data := .cell none }
  have hK₀ : h₀.get? ((H1.push o0).push { cls := .type "dict", data := .dict #[] }).objs.size = none := next_is_new F3
  have hnsC : (((H1.push o0).push { cls := .type "dict", data := .dict #[] }).push { cls := .type "cell", data := .cell none }).Ns (H1.push o0).objs.size (fun _ => none) := (Heap.Ns.new _ _).keeps fun b o e => Heap.get?_push_of_some _ e
  have hit4 : (((H1.push o0).push { cls := .type "dict", data := .dict #[] }).push { cls := .type "cell", data := .cell none }).IsListIter I ax 0 := by
    obtain ⟨o, e, r⟩ := hit
    exact ⟨o, Heap.get?_push_of_some _ (Heap.get?_push_of_some _ (Heap.get?_push_of_some _ e)), r⟩
  have hls4 := ((hls1.push o0).push { cls := .type "dict", data := .dict #[] }).push { cls := .type "cell", data := .cell none }
  rw [hsz3] at N4 hK₀
  rw [hsz2] at N4 hK₀ hnsC hC₀ ⊢
  revert F4 N4 hnsC hit4 hls4
  generalize ((H1.push o0).push { cls := .type "dict", data := .dict #[] }).push { cls := .type "cell", data := .cell none } = H4
  intro F4 N4 hnsC hit4 hls4
  have hLD : env.locals < H1.objs.size := F1.ns.lt
  clear F1 N1 F2 N2 F3 N3 hit hls1 hsz3 hsz2
  revert hD₀ hC₀ hK₀ hIlt hLD hsz1 N4 hnsC
  generalize H1.objs.size = D
  intro hIlt hsz1 hD₀ hC₀ hK₀ N4 hnsC hLD
  have WL := Walks.list (prog := prog) (w := w) hh I ax hne its
  have hDI : D ≠ I := by omega
  have hCI : D + 1 ≠ I := by omega
  have hKI : D + 1 + 1 ≠ I := by omega
  have hnD : ∀ p ∈ news, p.1 ≠ D := fun p hp => Nat.ne_of_lt (hIlt p hp)
  have hnC : ∀ p ∈ news, p.1 ≠ D + 1 := fun p hp => Nat.ne_of_lt (Nat.lt_succ_of_lt (hIlt p hp))
  have hnK : ∀ p ∈ news, p.1 ≠ D + 1 + 1 := fun p hp => Nat.ne_of_lt (Nat.lt_succ_of_lt (Nat.lt_succ_of_lt (hIlt p hp)))
  have hnI : ∀ p ∈ news, p.1 ≠ I := fun p hp => Nat.ne_of_lt (hlt p hp)
  have hDK : D ≠ D + 1 + 1 := Nat.ne_of_lt (Nat.lt_succ_of_lt (Nat.lt_succ_self D))
  have hKL : D + 1 + 1 ≠ env.locals := Ne.symm (Nat.ne_of_lt (Nat.lt_succ_of_lt (Nat.lt_succ_of_lt hLD)))
  have hCL : D + 1 ≠ env.locals := Ne.symm (Nat.ne_of_lt (Nat.lt_succ_of_lt hLD))
  obtain ⟨oC, hoC, hoC2⟩ := LCg.ns_obj hnsC
  have loop : codeAny (model prog w) A (.compLoop (.ListComp elt [⟨.Name x px, iter, [], 0⟩] scope pos) 0 (.ref I) (.ref D) (compEnvC scope [(x, D + 1 + 1)] (D + 1) env))
      (compPost (model prog w) A E (some (assign (.Name y py) env)) (fun _ s' => Q .next s') (.ref D) (D + 1)) { s₁ with heap := H4 } := by
    refine codeAny_compLoop_tests (fun k s' => ∃ h' tk i ys v₀ oI oK, s' = { s₁ with heap := h', toks := tk } ∧ i ≤ its.size ∧ k = its.size + 1 - i ∧ ys.length = i ∧ (∀ (j : Nat) z, ys[j]? = some z → R j z) ∧ h'.IsListIter I ax i ∧ Fr h₀ env.locals h' m ∧ oK.data = .cell v₀ ∧
        News h₀ env.locals h' ((I, oI) :: (D + 1, oC) :: (D + 1 + 1, oK) :: (D, LCg.lst ys) :: news)) ?_ (its.size + 1)
      ⟨H4, s₁.toks, 0, [], none, { cls := .type "list_iterator", data := .fields #[.ref ax, .int 0 0] }, { cls := .type "cell", data := .cell none }, rfl, Nat.zero_le _, rfl, rfl, fun j z e => by simp at e, hit4, F4, rfl, fun p hp => ?_⟩
    · rintro kk s' ⟨h', tk, i, ys, v₀, oI, oK, rfl, hi, rfl, hyl, hyR, hit', F', hoK, N'⟩
      have hls' : h'.IsList ax its := News.isList (show News h₀ env.locals h' news from fun p hp => N' p (.tail _ (.tail _ (.tail _ (.tail _ hp))))) hax
      by_cases hlt' : i < its.size
      · refine WL.item i _ _ _ hlt' ⟨hit', hls'⟩ fun v h₂ tk₂ hPv hst₂ hk₂ => ?_
        have F₂ := LCg.fr_but F' hk₂ (Nat.ne_of_lt hLI) hI₀
        have N₂ : News h₀ env.locals h₂ ((D + 1, oC) :: (D + 1 + 1, oK) :: (D, LCg.lst ys) :: news) := LCg.news_but (fun p hp => N' p (.tail _ hp)) hk₂ fun p hp => by
          rcases List.mem_cons.mp hp with rfl | hp
          · exact hCI
          · rcases List.mem_cons.mp hp with rfl | hp
            · exact hKI
            · rcases List.mem_cons.mp hp with rfl | hp
              · exact hDI
              · exact hnI p hp
        obtain ⟨oI₂, heI₂, hrI₂⟩ := id hst₂.1
        refine wpAny_assign_Name (wpAny_storeName_cell hkind (hx _ _) (by simp [compEnvC]) ⟨oK, (N₂ _ (.tail _ (.head _))).1, hoK⟩ fun h₃ hc₃ hs₃ => ?_)
        obtain ⟨oK₃, heK₃, hdK₃⟩ := hc₃
        have F₃ : Fr h₀ env.locals h₃ m := F₂.change hs₃ hKL hK₀
        have N₃ : News h₀ env.locals h₃ ((I, oI₂) :: (D + 1, oC) :: (D + 1 + 1, oK₃) :: (D, LCg.lst ys) :: news) := fun p hp => by
          rcases List.mem_cons.mp hp with rfl | hp
          · exact ⟨hs₃.extBut _ _ (Ne.symm hKI) heI₂, Ne.symm (Nat.ne_of_lt hLI), hI₀⟩
          · rcases List.mem_cons.mp hp with rfl | hp
            · have z := N₂ _ (.head _)
              exact ⟨hs₃.extBut _ _ (by simp) z.1, z.2⟩
            · rcases List.mem_cons.mp hp with rfl | hp
              · exact ⟨heK₃, (N₂ _ (.tail _ (.head _))).2⟩
              · have z := N₂ p (.tail _ (.tail _ hp))
                refine ⟨hs₃.extBut _ _ ?_ z.1, z.2⟩
                rcases List.mem_cons.mp hp with rfl | hp
                · exact hDK
                · exact hnK p hp
        refine wpAny_tests_nil ?_
        simp only [if_true]
        refine wpAny_mono (W.turn i v I oI₂ (D + 1) oC (D + 1 + 1) oK₃ D ys h₃ _ hPv hdK₃ F₃ N₃) (fun z s₄ hz => ?_) fun _ _ x => x.elim
        obtain ⟨h₄, tk₄, rfl, F₄, N₄, hRz⟩ := hz
        have zD := (N₄ _ (.tail _ (.tail _ (.tail _ (.head _))))).1
        refine append_at (hsz := by show ys.toArray.size ≤ sizeLine; rw [List.size_toArray, hyl]; exact Nat.le_trans hi hsz) zD fun h₅ hs₅ hD₅ => ?_
        refine ⟨its.size + 1 - (i + 1), by omega, h₅, tk₄, i + 1, ys ++ [z], some v, oI₂, oK₃, rfl, hlt', rfl, by simp [hyl], fun j z' e => ?_, ⟨oI₂, hs₅.extBut _ _ (Ne.symm hDI) (N₄ _ (.head _)).1, hrI₂⟩, F₄.change hs₅ (Ne.symm (Nat.ne_of_lt hLD)) hD₀, hdK₃, fun p hp => ?_⟩
        · rcases Nat.lt_trichotomy j ys.length with q | q | q
          · rw [List.getElem?_append_left q] at e
            exact hyR j z' e
          · subst q
            simp at e
            subst e
            exact hyl ▸ hRz
          · rw [List.getElem?_eq_none (by simp; omega)] at e
            cases e
        · rcases List.mem_cons.mp hp with rfl | hp
          · have y1 := N₄ _ (.head _)
            exact ⟨hs₅.extBut _ _ (Ne.symm hDI) y1.1, y1.2⟩
          · rcases List.mem_cons.mp hp with rfl | hp
            · have y1 := N₄ _ (.tail _ (.head _))
              exact ⟨hs₅.extBut _ _ (by simp) y1.1, y1.2⟩
            · rcases List.mem_cons.mp hp with rfl | hp
              · have y1 := N₄ _ (.tail _ (.tail _ (.head _)))
                exact ⟨hs₅.extBut _ _ (Ne.symm hDK) y1.1, y1.2⟩
              · rcases List.mem_cons.mp hp with rfl | hp
                · exact ⟨hD₅.trans (congrArg some (LCg.lst_snoc ys z)), (N₄ _ (.tail _ (.tail _ (.tail _ (.head _))))).2⟩
                · have y1 := N₄ p (.tail _ (.tail _ (.tail _ (.tail _ hp))))
                  exact ⟨hs₅.extBut _ _ (hnD p hp) y1.1, y1.2⟩
      · obtain rfl : i = its.size := Nat.le_antisymm hi (Nat.not_lt.mp hlt')
        refine WL.done _ _ _ ⟨hit', hls'⟩ fun h₂ tk₂ hk₂ => ?_
        have F₂ := LCg.fr_but F' hk₂ (Nat.ne_of_lt hLI) hI₀
        have N₂ : News h₀ env.locals h₂ ((D + 1, oC) :: (D, LCg.lst ys) :: news) := LCg.news_but (fun p hp => N' p (by
          rcases List.mem_cons.mp hp with rfl | hp
          · exact .tail _ (.head _)
          · exact .tail _ (.tail _ (.tail _ hp)))) hk₂ fun p hp => by
          rcases List.mem_cons.mp hp with rfl | hp
          · exact hCI
          · rcases List.mem_cons.mp hp with rfl | hp
            · exact hDI
            · exact hnI p hp
        show wpAny _ A (assign (.Name y py) env (.ref D)) _ _ _
        refine wpAny_assign_Name (wpAny_storeName_local hy F₂.ns (fun h₃ hn₃ hs₃ => ?_) hpl)
        have hL₀ : h₀.get? env.locals = none := Heap.get?_none_of_le F₂.above
        have F₃ : Fr h₀ env.locals h₃ (fun z => if z = y then some (.ref D) else m z) := ⟨hn₃, fun b o e => hs₃.extBut b o (fun q => by rw [q, hL₀] at e; cases e) (F₂.keep b o e), F₂.above⟩
        have N₃ : News h₀ env.locals h₃ ((D + 1, oC) :: (D, LCg.lst ys) :: news) := fun p hp => ⟨hs₃.extBut _ _ (N₂ p hp).2.1 (N₂ p hp).1, (N₂ p hp).2⟩
        refine ⟨_, hoC2.ns (N₃ _ (.head _)).1, fun h₄ hs₄ => W.fin ys D h₄ _ hyl hyR (F₃.change hs₄ hCL hC₀) (fun p hp => ?_) hIlt⟩
        have y1 := N₃ p (.tail _ hp)
        refine ⟨hs₄.extBut _ _ ?_ y1.1, y1.2⟩
        rcases List.mem_cons.mp hp with rfl | hp
        · simp
        · exact hnC p hp
    · rcases List.mem_cons.mp hp with rfl | hp
      · exact N4 _ (.tail _ (.tail _ (.tail _ (.head _))))
      · rcases List.mem_cons.mp hp with rfl | hp
        · exact ⟨hoC, (N4 (D + 1, { cls := .type "dict", data := .dict #[] }) (.tail _ (.head _))).2⟩
        · rcases List.mem_cons.mp hp with rfl | hp
          · exact N4 _ (.head _)
          · rcases List.mem_cons.mp hp with rfl | hp
            · have y1 := N4 (D, o0) (.tail _ (.tail _ (.head _)))
              rw [← hl0] at y1
              exact y1
            · exact N4 p (.tail _ (.tail _ (.tail _ (.tail _ hp))))
  exact codeAny_compStart_list loop (WL.self 0 _ _ _ ⟨hit4, hls4⟩ loop)
end
end

section
open PySem PySem.W PySem.Calls PySem.Spec PyProof.Rows
/-- the exception's context stays none -/
noncomputable def Ctx2 (e : Addr) (h : Heap) : Prop := ∃ o vs, h.get? e = some o ∧ o.data = .fields vs ∧ vs[2]? = some .none
noncomputable def Keep2 (f : Obj → Obj) : Prop := ∀ o vs, o.data = .fields vs → ∃ vs', (f o).data = .fields vs' ∧ vs'[2]? = vs[2]?
inductive Calm {α : Type} : Sem α → Prop
  | pure (a : α) : Calm (.pure a)
  | raise (e : Value) : Calm (.raise e)
  | unsupported (x : String) : Calm (.unsupported x)
  | rule (t : String) (k : Unit → Sem α) : (∀ u, Calm (k u)) → Calm (.rule t k)
  | at (p : Pos) (k : Unit → Sem α) : (∀ u, Calm (k u)) → Calm (.at p k)
  | load (a : Addr) (p : Option Value) (k : Obj → Sem α) : (∀ o, Calm (k o)) → Calm (.load a p k)
  | update (a : Addr) (p : Option Value) (f : Obj → Obj) (k : Unit → Sem α) : Keep2 f → (∀ u, Calm (k u)) → Calm (.update a p f k)
  | alloc (o : Obj) (k : Addr → Sem α) : (∀ a, Calm (k a)) → Calm (.alloc o k)
  | point (l : List Value) (k : Unit → Sem α) : (∀ u, Calm (k u)) → Calm (.point l k)
  | register (a : Addr) (k : Unit → Sem α) : Calm (.register a k)
  | stack (k : List (Code × Pos) → Sem α) : (∀ x, Calm (k x)) → Calm (.stack k)
theorem Ctx2.push {e : Addr} {h : Heap} (x : Ctx2 e h) (o : Obj) : Ctx2 e (h.push o) := by
  obtain ⟨o', vs, a, b, c⟩ := x
  exact ⟨o', vs, Heap.get?_push_of_some _ a, b, c⟩
theorem Ctx2.update {e a : Addr} {h : Heap} {f : Obj → Obj} (x : Ctx2 e h) (hf : Keep2 f) : Ctx2 e (h.update a f) := by
  obtain ⟨o', vs, ha, b, c⟩ := x
  by_cases q : e = a
  · subst q
    obtain ⟨vs', d, g⟩ := hf _ _ b
    exact ⟨f o', vs', Heap.get?_update_self _ ha (Obj.isFreed_of_fields d), d, g.trans c⟩
  · exact ⟨o', vs, (Heap.get?_update_other _ _ (Ne.symm q)).trans ha, b, c⟩
theorem Calm.wp {α : Type} {M : Model} {Γ : PySem.Ctx} {e : Addr} {t : Sem α} (ct : Calm t) : ∀ {Q : α → Pos → Shared → Prop} {E : Value → Pos → Shared → Prop} {p : Pos} {s : Shared}, Ctx2 e s.heap → Sem.wp M Γ t Q E p s →
    Sem.wp M Γ t (fun a p s => Q a p s ∧ Ctx2 e s.heap) (fun x p s => E x p s ∧ Ctx2 e s.heap) p s := by
  induction ct with
  | pure a => intro Q E p s hi h; rw [Sem.wp] at h ⊢; exact ⟨h, hi⟩
  | raise a => intro Q E p s hi h; rw [Sem.wp] at h ⊢; exact ⟨h, hi⟩
  | unsupported a => intro Q E p s hi h; rw [Sem.wp] at h; exact h.elim
  | rule t k _ ih => intro Q E p s hi h; rw [Sem.wp] at h ⊢; exact ih () hi h
  | «at» t k _ ih => intro Q E p s hi h; rw [Sem.wp] at h ⊢; exact ih () hi h
  | load a q k _ ih => intro Q E p s hi h; rw [Sem.wp] at h ⊢; obtain ⟨o, e, h⟩ := h; exact ⟨o, e, ih o hi h⟩
  | update a q f k hf _ ih => intro Q E p s hi h; rw [Sem.wp] at h ⊢; exact ⟨h.1, ih () (Ctx2.update hi hf) h.2⟩
  | alloc o k _ ih => intro Q E p s hi h; rw [Sem.wp] at h ⊢; exact ih _ (Ctx2.push hi o) h
  | point l k _ ih => intro Q E p s hi h; rw [Sem.wp] at h ⊢; exact ih () hi h
  | register a k => intro Q E p s hi h; rw [Sem.wp] at h; exact h.elim
  | stack k _ ih => intro Q E p s hi h; rw [Sem.wp] at h ⊢; exact ih _ hi h
theorem Calm.any {α : Type} {M : Model} {A : Around} {e : Addr} {t : Sem α} (ct : Calm t) {Q : α → Shared → Prop} {E : Value → Shared → Prop} {s : Shared} (hi : Ctx2 e s.heap) (h : wpAny M A t Q E s) :
    wpAny M A t (fun a s' => Q a s' ∧ Ctx2 e s'.heap) (fun x s' => E x s' ∧ Ctx2 e s'.heap) s := fun Γ p hΓ => ct.wp hi (h Γ p hΓ)
theorem Calm.bind {α β : Type} {t : Sem α} {f : α → Sem β} (ct : Calm t) (hf : ∀ a, Calm (f a)) : Calm (t >>= f) := by
  show Calm (t.bind f)
  induction ct with
  | pure a => exact hf a
  | raise a => exact .raise a
  | unsupported a => exact .unsupported a
  | rule t k _ ih => exact .rule _ _ ih
  | «at» t k _ ih => exact .at _ _ ih
  | load a q k _ ih => exact .load _ _ _ ih
  | update a q f k h _ ih => exact .update _ _ _ _ h ih
  | alloc o k _ ih => exact .alloc _ _ ih
  | point l k _ ih => exact .point _ _ ih
  | register a k => exact .register _ _
  | stack k _ ih => exact .stack _ ih
theorem calm_pure {α : Type} (a : α) : Calm (Pure.pure a : Sem α) := .pure a
theorem calm_uns {α : Type} (x : String) : Calm (PySem.unsupported x : Sem α) := .unsupported x
theorem calm_load (a : Addr) : Calm (PySem.load a) := .load _ _ _ fun o => .pure o
theorem calm_stack : Calm PySem.stack := .stack _ fun o => .pure o
theorem calm_fieldsOf (v : Value) : Calm (fieldsOf v) := by
  unfold fieldsOf
  split
  · refine Calm.bind (calm_load _) fun o => ?_
    split
    · exact calm_pure _
    · exact calm_uns _
  · exact calm_uns _
theorem calm_field (v : Value) (i : Nat) : Calm (field v i) := by
  unfold field
  refine Calm.bind (calm_fieldsOf _) fun o => ?_
  split
  · exact calm_pure _
  · exact calm_uns _
theorem keep_field {i : Nat} (hi : i ≠ 2) (v : Value) : Keep2 (Obj.mapFields (·.setIfInBounds i v)) := fun o vs h =>
  ⟨_, Obj.data_mapFields h _, Array.getElem?_setIfInBounds_ne hi⟩
theorem calm_setField (v : Value) {i : Nat} (hi : i ≠ 2) (x : Value) : Calm (setField v i x) := by
  unfold setField
  split
  · unfold updateField
    refine Calm.bind (calm_load _) fun o => ?_
    split
    · split
      · exact .update _ _ _ _ (keep_field hi _) fun _ => .pure _
      · exact calm_uns _
    · exact calm_uns _
  · exact calm_uns _
theorem calm_setFlight (e : Value) (f : Option Addr) : Calm (setFlight e f) := by
  unfold setFlight
  refine Calm.bind (calm_field _ _) fun tb => ?_
  split
  · exact calm_setField _ (by decide) _
  · exact calm_pure _
theorem calm_behind (env : Env) (outer : List Env) : Calm (behindIsImport env outer) := by
  unfold behindIsImport
  split
  · exact calm_pure _
  · split
    · exact calm_pure _
    · exact Calm.bind (calm_field _ _) fun _ => calm_pure _
theorem calm_claim : Calm underTheClaimsCaller := Calm.bind calm_stack fun _ => calm_pure _
theorem calm_back (env : Env) (b : Bool) (l : List Env) : Calm (keptBack env b l) := by
  unfold keptBack
  cases l with
  | nil =>
    dsimp only
    split
    · exact calm_pure _
    · exact Calm.bind calm_claim fun _ => calm_pure _
  | cons c r => exact calm_pure _
theorem keep_slots (g : Obj → Array (Option Value)) : Keep2 (fun o => { o with slots := g o }) := fun _ vs h => ⟨vs, h, rfl⟩
theorem calm_ready : ∀ l : List Env, Calm (readyFrames l)
  | [] => calm_pure _
  | env :: outer => by
    unfold readyFrames
    split
    · refine Calm.bind (calm_load _) fun o => ?_
      split
      · exact calm_pure _
      · refine Calm.bind (calm_behind _ _) fun b => Calm.bind (calm_back _ _ _) fun v => ?_
        refine Calm.bind (.update _ _ _ _ (keep_slots _) fun _ => .pure _) fun _ => calm_ready outer
    · exact calm_uns _
theorem calm_frameObject (l : List Env) : Calm (frameObject l) := by
  cases l with
  | nil => exact calm_pure _
  | cons e r => exact Calm.bind (calm_ready _) fun _ => calm_pure _
theorem calm_frameOf (env : Env) : Calm (PySem.frameOf env) := by
  unfold PySem.frameOf
  refine Calm.bind (Calm.bind calm_stack fun _ => calm_pure _) fun fs => Calm.bind (calm_frameObject _) fun o => ?_
  split
  · exact calm_pure _
  · exact calm_uns _
theorem calm_place (f : Addr) (b : Bool) : Calm (entryPlaceOf f b) := by
  unfold entryPlaceOf
  refine Calm.bind calm_stack fun acts => ?_
  split
  · exact calm_pure _
  · exact calm_pure _
theorem calm_newEntry (a b c d e : Value) (l : List Value) : Calm (EntryCells.newEntry a b c d e l) := by
  have asIs : ∀ vs : Array Value, Calm (newObjAsIs (.type "traceback") (.fields vs)) := fun vs => .alloc _ _ fun _ => calm_pure _
  have obj : ∀ vs : Array Value, Calm (newObj (.type "traceback") (.fields vs)) := fun vs => by
    unfold newObj
    dsimp only
    split
    · exact Calm.bind (calm_uns _) fun _ => asIs _
    · exact asIs _
  exact obj _
theorem calm_noteFrame (e : Value) (env : Env) : Calm (noteFrame e env) := by
  unfold noteFrame
  split
  · refine Calm.bind (calm_field _ _) fun head => ?_
    have rest : ∀ f : Addr, Calm (do setField e 1 (← EntryCells.newEntry head (← PySem.frameOf env) .none (rawInt f) .none (← entryPlaceOf f (head != .none)))) := fun f =>
      Calm.bind (calm_frameOf _) fun _ => Calm.bind (calm_place _ _) fun _ => Calm.bind (calm_newEntry ..) fun _ => calm_setField _ (by decide) _
    split
    · refine Calm.bind (calm_field _ _) fun x => ?_
      split
      · exact calm_pure _
      · exact Calm.bind (calm_setField _ (by decide) _) fun _ => rest _
    · exact rest _
  · exact calm_uns _
theorem calm_leaving (env : Env) (e : Value) : Calm («leaving» env e) := Calm.bind (calm_noteFrame _ _) fun _ => calm_setFlight _ _
end

section
open PySem PySem.W PySem.Calls PySem.Spec PyProof.Rows
theorem Ctx2.ok {e : Addr} {h : Heap} (x : Ctx2 e h) : HdOk (some (.ref e)) h := fun v q => by
  obtain ⟨o, vs, a, b, c⟩ := x
  cases q
  exact ⟨e, o, vs, rfl, a, b, c⟩
section
variable {M : Model} {A : Around} {E : Value → Shared → Prop} {s' : Shared} {base g g₂ h : Heap} {outer : List Env} {L a e t : Addr} {m : Str → Option Value} {name : Str} {scope : Scope} {cd : Value} {Q : Unit → Shared → Prop} {news : List (Addr × Obj)}
theorem leave_raiseC {cls : Value} {vs : List Value} (K : Below A base outer g) (hx : Heap.MadeExcOf h s'.heap e cls vs) (F : Fr g L h m) (N : News g L h news)
    (hQ : ∀ h' t, RaisedK base outer e cls t vs news h' → g.UpToSlots h' → Ctx2 e h' → Q () { s' with heap := h' }) (hk : scope.kind = .function) :
    wpAny M (A.deeper (envOf name scope L a cd)) («leaving» (envOf name scope L a cd) (.ref e)) Q E s' := by
  have c : Ctx2 e s'.heap := by
    obtain ⟨t, h1, _⟩ := hx.there
    exact ⟨_, _, h1, rfl, rfl⟩
  refine wpAny_mono ((calm_leaving _ _).any c (leave_raiseK (Q := fun _ s => ∃ h' t, s = { s' with heap := h' } ∧ RaisedK base outer e cls t vs news h' ∧ g.UpToSlots h') K hx F N (fun h' t a b => ⟨h', t, rfl, a, b⟩) hk)) (fun _ s₂ z => ?_) fun _ _ x => x.1
  obtain ⟨⟨h', t, rfl, z1, z2⟩, z3⟩ := z
  exact hQ h' t z1 z2 z3
theorem leave_onC {cls : Value} {vs : List Value} (K : Below A base outer g) (F : Fr g L g₂ m) (R : RaisedK base (envOf name scope L a cd :: outer) e cls t vs news s'.heap) (hsm : g₂.UpToSlots s'.heap) (c : Ctx2 e s'.heap)
    (hQ : ∀ h', RaisedK base outer e cls t vs news h' → g.UpToSlots h' → Ctx2 e h' → Q () { s' with heap := h' }) :
    wpAny M (A.deeper (envOf name scope L a cd)) («leaving» (envOf name scope L a cd) (.ref e)) Q E s' := by
  refine wpAny_mono ((calm_leaving _ _).any c (leave_onK (Q := fun _ s => ∃ h', s = { s' with heap := h' } ∧ RaisedK base outer e cls t vs news h' ∧ g.UpToSlots h') K F R hsm (fun h' a b => ⟨h', rfl, a, b⟩))) (fun _ s₂ z => ?_) fun _ _ x => x.1
  obtain ⟨⟨h', rfl, z1, z2⟩, z3⟩ := z
  exact hQ h' z1 z2 z3
end
section
variable {prog : Program} {w : World} {A₀ : Around} {E : Value → Shared → Prop} {s' : Shared} {h₀ h : Heap} {outer : List Env} {L a e t : Addr} {m : Str → Option Value} {name : Str} {scope : Scope} {cd : Value}
  {vs : List Value} {b₀ : Stmt} {suite : List Stmt} {pos np : Pos} {rest : List ExceptHandler} {Q : Flow → Shared → Prop} {news : List (Addr × Obj)}
  {p : Program} {loose : List Str} {mg mb : Str → Option Value} {x : Str} {X T' : String}
/-- an exception caught in a frame with cells -/
theorem caught_C0 (K : Below A₀ h₀ outer h₀) (F : Fr h₀ L h m) (hsm : h.UpToSlots s'.heap) (R : RaisedK h₀ (envOfC name scope L a cd :: outer) e (.type X) t vs news s'.heap)
    (hc : Ctx2 e s'.heap) (T : TopRead p loose mg mb h₀) (hv : bootBuiltins x = some (.type T'))
    (hexc : isSubtype (.type T') (.type "BaseException") = pure true) (hnt : isSubtype (.type ((Manifest.find? T').elim "type" fun y => y.metatype)) (.type "tuple") = pure false) (hsub : isSubtype (.type X) (.type T') = pure true)
    (k : ∀ h' oe, Fr h₀ L h' m → News h₀ L h' ((e, oe) :: news) → HdOk (some (.ref e)) h' →
      wpAny (model prog w) ((A₀.deeper (envOfC name scope L a cd)).mark (some (.ref e))) (execs (b₀ :: suite) (envOfC name scope L a cd)) Q E { s' with heap := h' })
    (h1 : x ∉ startupNames) (h2 : x ∉ loose) (h3 : x ∉ (recsOf p).map (·.name)) (h4 : x ∉ (litsOf p).map (·.1)) (h4c : x ∉ (clssOf p loose).map (·.name)) (hn : x ≠ "__name__")
    (hk : scope.kind = .function) (hx : (envOfC name scope L a cd).kindOf x = some .globalImplicit) (hd : (x == ("__debug__" : Str)) = false)
    (hE : PassesOwnAt (model prog w) ((A₀.deeper (envOfC name scope L a cd)).mark (some (.ref e))) (A₀.deeper (envOfC name scope L a cd)) (envOfC name scope L a cd) E) :
    wpAny (model prog w) (A₀.deeper (envOfC name scope L a cd)) (noteFrame (.ref e) (envOfC name scope L a cd))
      (fun _ s₂ => wpAny (model prog w) (A₀.deeper (envOfC name scope L a cd)) (setFlight (.ref e) none) (fun _ s₃ =>
        wpAny (model prog w) (A₀.deeper (envOfC name scope L a cd)) (handleBy (.ref e) (envOfC name scope L a cd) (.ExceptHandler (some (.Name x np)) none (b₀ :: suite) pos :: rest)) Q E s₃) E s₂) E s' := by
  obtain ⟨⟨B, hB, hl, hfl, hnew⟩, htup⟩ := R
  have hL : B.get? L = none := by
    obtain ⟨_, ⟨L', _, hf, hn', _⟩, _⟩ := hfl.2.2.1
    obtain rfl : L = L' := Option.some.inj hf
    exact hn'
  refine wpAny_mono ((calm_noteFrame _ _).any hc (wpAny_looks_onW (Q := fun _ s => ∃ h₄, s = { s' with heap := h₄ } ∧ Heap.HeldW B (envOfC name scope L a cd :: outer) e (.type X) (.ref t) L h₄ ∧ s'.heap.UpToSlots h₄) (E := fun _ _ => False) (Around.frames_deeper K.stack) rfl hfl fun h₄ a b => ⟨h₄, rfl, a, b⟩)) (fun _ s₂ z => ?_) fun _ _ x => x.1.elim
  obtain ⟨⟨h₄, rfl, hheld₄, hsm₄⟩, hc₄⟩ := z
  refine wpAny_mono ((calm_setFlight _ _).any hc₄ (wpAny_landsW (Q := fun _ s => ∃ h₅, s = { s' with heap := h₅ } ∧ Heap.FlyingW B (envOfC name scope L a cd :: outer) e (.type X) (.ref t) h₅ ∧ h₄.UpToSlots h₅) (E := fun _ _ => False) hheld₄ fun h₅ a b => ⟨h₅, rfl, a, b⟩)) (fun _ s₃ z => ?_) fun _ _ x => x.1.elim
  obtain ⟨⟨h₅, rfl, hheld, hsm₅'⟩, hc₅⟩ := z
  have hsm₅ := hsm₄.trans hsm₅'
  have hheld' := flyingW_base hB hheld
  have F₅ := F.of_stays hheld'.1 (hsm.trans hsm₅)
  obtain ⟨ob, hob, hobc⟩ := hheld'.there
  refine wpAny_handleBy_builtin (X := X) (T := T') (b := true) hexc hnt hsub ?_
  refine Calls.Name_function_global hk hx (Calls.loadGlobal_builtin (env := envOfC name scope L a cd) (T.g.keeps F₅.keep) (T.free x h1 h2 h3 h4 h4c) (T.b.keeps F₅.keep) ((T.builtins x hn).trans hv) ⟨rfl, ⟨ob, hob, hobc⟩, ?_⟩) hd
  refine wpAny_mono ((calm_setFlight _ _).any hc₅ (lands_againW (Q := fun _ s => ∃ h₆, s = { s' with heap := h₆ } ∧ Heap.FlyingW B (envOfC name scope L a cd :: outer) e (.type X) (.ref t) h₆ ∧ h₅.UpToSlots h₆) (E := fun _ _ => False) hheld fun h₆ a b => ⟨h₆, rfl, a, b⟩)) (fun _ s₄ z => ?_) fun _ _ x => x.1.elim
  obtain ⟨⟨h₆, rfl, hfl₆, hsm₆⟩, hc₆⟩ := z
  have hfl₆' := flyingW_base hB hfl₆
  have F₆ := F.of_stays hfl₆'.1 ((hsm.trans hsm₅).trans hsm₆)
  obtain ⟨oe, ws, hoe, hoec, hoed, hoe0⟩ := hfl₆'.first
  have Ne := News.more F₆ News.nil hoe (fun es n q => by rw [hoed] at q; cases q) hfl₆'.2.1
  refine wpAny_passesOwnAt hE (k h₆ oe F₆ (fun q hq => ?_) hc₆.ok)
  rcases List.mem_cons.mp hq with rfl | hq
  · exact Ne _ (.head _)
  · exact ⟨hfl₆.1 _ _ (hl q hq).1, (fun z => by have := (hl q hq).1; rw [z, hL] at this; cases this), (hl q hq).2⟩
end
end

section
open PySem PySem.W PySem.Calls PySem.Spec PyProof.Rows
theorem ints5 {vs : List Value} {a b c d e : Int} (h : IntsAre vs [a, b, c, d, e]) : ∃ ta tb tc td te, vs = [.int a ta, .int b tb, .int c tc, .int d td, .int e te] := by
  cases h with
  | cons _ t1 h => cases h with
    | cons _ t2 h => cases h with
      | cons _ t3 h => cases h with
        | cons _ t4 h => cases h with
          | cons _ t5 h => cases h; exact ⟨_, _, _, _, _, rfl⟩
noncomputable def part (n : Int) : List Int := List.map (fun k' => (n.fdiv 45 + 5 * k' * k').fmod 256) (rangeKs 0 (n.fmod 45 - 0).toNat)
theorem part_len (n : Int) : (part n).length ≤ 44 := by
  have h1 := fmod_hi n (n := 45) (by decide)
  have h2 : ∀ a k, (rangeKs a k).length = k := by
    intro a k
    induction k generalizing a with
    | zero => rfl
    | succ k ih => simp [rangeKs, ih]
  unfold part
  rw [List.length_map, h2]
  omega
theorem below_of {K : Frag} {h : Heap} (_ : K.In h) : Below callerA h [] h := below_caller h
theorem fr_way {h₀ h : Heap} {L : Addr} {a : Int} {t u : Tok} {b : Array UInt8} {v1 v2 : Value} {m : Str → Option Value} (F : Fr h₀ L h (fun y => if y = Str.ofString "way" then some (.int (a.fmod 4) t) else if y = Str.ofString "whole" then some (.bytes b u) else if y = Str.ofString "parts" then some v1 else if y = Str.ofString "numbers" then some v2 else m y)) : ∃ (n : Int) (t' : Tok) (m' : Str → Option Value), Fr h₀ L h (fun y => if y = Str.ofString "way" then some (.int (n.fmod 4) t') else if y = Str.ofString "whole" then some (.bytes b u) else if y = Str.ofString "parts" then some v1 else m' y) := ⟨_, _, _, F⟩
theorem stop_go {p : Prop} (h : p) : StopAt p := h
structure Wrap (p : Prop) : Prop where
  x : p
set_option maxRecDepth 100000 in
set_option maxHeartbeats 4000000 in
noncomputable def st1 : PSigma fun P : Prop => Wrap P → PySem.Challenge.rw_iw0003_01.Holds := by
  refine' ⟨_, fun h => ?_⟩
  case refine'_2 =>
  refine hd ?_
  w_top off
  k_with_none
  k_with "exec Assign cons ListComp" => (k_here; (with_reducible show wpAny _ _ (exec (Stmt.Assign _ (Expr.ListComp (Expr.Call _ _ _ _) _ _ _) _) _) _ _ _); refine stop_at ?_)
  k_with "getMethod bytes" => (k_here; (with_reducible refine method_join ?_))
  k_with "call builtin:bytes.join" => (k_here; k_dflt (refine' call_join ?lₓ ?eₓ ?h0ₓ ?h1ₓ ?h2ₓ ?h3ₓ ?zₓ ?_; (case lₓ => exact News.isList (by k_asm) (by k_mem)); (case eₓ => rfl); (case h0ₓ => assumption); (case h1ₓ => assumption); (case h2ₓ => assumption); (case h3ₓ => assumption); (case zₓ => omega); k_whole); intro bₓ tₓ kₓ hbₓ)
  k_with "call ref" => (k_here; (first
      | (with_reducible show wpAny _ _ (call (Value.ref 106) [Value.ref _, Value.bytes _ _]) _ _ _)
      | (with_reducible show wpAny _ _ (call (Value.ref 118) _) _ _ _)
      | (with_reducible show wpAny _ _ (call (Value.ref 123) _) _ _ _)
      | (with_reducible show wpAny _ _ (call (Value.ref 152) _) _ _ _)
      | (with_reducible show wpAny _ _ (call (Value.ref 157) _) _ _ _)); refine stop_at ?_)
  k_with "leaving ref" => (k_here; first
      | (refine' leave_raiseC ?k1ₓ (Heap.MadeExc.of (by assumption)) ?k2ₓ ?k3ₓ ?_ (by rfl); (case k1ₓ => assumption); (case k2ₓ => assumption); (case k3ₓ => k_asm); k_whole; intro hₓ tₓ Rₓ Uₓ Cₓ; (try dsimp only at Rₓ Uₓ ⊢))
      | (refine' leave_onC ?k1ₓ ?k2ₓ ?k3ₓ ?k4ₓ ?k5ₓ ?_; (case k3ₓ => assumption); (case k1ₓ => assumption); (case k4ₓ => assumption); (case k2ₓ => assumption); (case k5ₓ => assumption); k_whole; intro hₓ Rₓ Uₓ Cₓ; (try dsimp only at Rₓ Uₓ ⊢)))
  k_with "noteFrame ref" => (k_here; (rename RaisedK _ _ _ _ _ _ _ _ => rkX); refine caught_C0 (T' := "TypeError") (by assumption) (by assumption) (by assumption) rkX (by assumption) (by k_asm) PyProof.Rows.Boot.«TypeError» PySem.F.isExc_TypeError PySem.F.notTuple_TypeError (by rw [isSubtype_type]; kernel_rfl) ?_ (by decide +kernel) (by decide +kernel) (by decide +kernel) (by decide +kernel) (by decide +kernel) (by decide +kernel) (by rfl) (by rfl) (by decide) (by passes_own); intro h7 oe F7 N7 O7; (try k_sweep); refine stop_at ?_)
  k_with "exec If" => (k_here; (first
      | ((fail_if_success (with_reducible rename Gone => hgoneₓ)); (with_reducible show wpAny _ _ (exec (Stmt.If (Expr.Name _ _) _ _ _) _) _ _ _))
      | (with_reducible show wpAny _ _ (exec (Stmt.If (Expr.Compare _ _ _ _) _ _ _) _) _ _ _)
      | (with_reducible show wpAny _ _ (exec (Stmt.If (Expr.BoolOp _ _ _) _ _ _) _) _ _ _)); refine stop_at ?_)
  k_with "call type:list" => (k_here; (with_reducible show wpAny _ _ (call (Value.type _) [Value.ref _]) _ _ _); k_dflt (refine' list_of_lt ?Fₓ ?Nₓ ?bₓ ?eₓ ?_ ?zₓ; (case Fₓ => k_asm); (case Nₓ => k_asm); (case bₓ => k_mem); (case eₓ => kl_lit); (case zₓ => kl_room)); intro Do co h' F' N' hLD l1; (try k_lt l1); (try k_sweep))
  k_with "exec Try" => (k_here; refine stop_at ?_)
  k_with "eval BinOp" => (k_here; k_fold; refine wpAny_BinOp ?_)
  k_with "eval Subscript" => (k_here; k_fold; walk1)
  k_with "eval Call" => (k_here; k_fold; walk1)
  k_with "eval Call Attribute" => (k_here; k_fold; walk1)
  k_go0
  rename Below _ _ _ _ => K0
  clear K0
  rename Frag.In _ _ => KX
  have KB := below_of KX
  all_goals try k_fold
  k_steps
  refine stop_go ?_
  rename IntsAre ys _ => hI8
  obtain ⟨n0, n1, n2, n3, n4, hI9⟩ : ∃ n0 n1 n2 n3 n4, IntsAre ys [n0, n1, n2, n3, n4] := ⟨_, _, _, _, _, hI8⟩
  obtain ⟨t0, t1, t2, t3, t4, rfl⟩ := ints5 hI9
  clear hI8 hI9
  refine Assign_cell_comp (by k_asm) rfl rfl (by with_unfolding_all rfl) (by rfl) (fun _ => rfl) (fun _ => rfl) rfl (by decide) (fun _ _ => rfl) (by rfl) (by rfl) ?_ (by intro _; rfl)
  k_steps
  refine CellSrc.intro (fun i v => ∃ b t, v = .bytes b t ∧ KBw.bInts b = part ([n1, n2, n3, n4].getD i 0)) (by k_asm) (by k_asm) (List.Mem.head _) (by rw [sizeLine_eq]; exact Nat.le_of_ble_eq_true rfl) ⟨?turn, ?fin⟩
  case turn =>
    rintro i v I oI C oC K oK D ys h tk hv hoK F' N'
    obtain ⟨t, rfl⟩ : ∃ t, v = .int ([n1, n2, n3, n4].getD i 0) t := by
      match i, hv with
      | 0, hv => exact ⟨_, (Option.some.inj hv).symm⟩
      | 1, hv => exact ⟨_, (Option.some.inj hv).symm⟩
      | 2, hv => exact ⟨_, (Option.some.inj hv).symm⟩
      | 3, hv => exact ⟨_, (Option.some.inj hv).symm⟩
      | i + 4, hv => simp at hv
    clear hv
    generalize [n1, n2, n3, n4].getD i 0 = num at *
    k_steps
    refine ⟨_, _, rfl, by assumption, cb_drop (by assumption) (by kcj_all), _, _, rfl, ?_⟩
    exact KBa.ints_make (by assumption)
  case fin =>
    rintro ys D h tk hyl hyR F' N' hlt
    obtain ⟨_, _, _, _, rfl, ⟨b1, u1, rfl, hb1⟩, ⟨b2, u2, rfl, hb2⟩, ⟨b3, u3, rfl, hb3⟩, b4, u4, rfl, hb4⟩ := four hyl hyR
    have hz1 := part_len n1
    have hz2 := part_len n2
    have hz3 := part_len n3
    have hz4 := part_len n4
    replace hb1 : KBw.bInts b1 = part n1 := hb1
    replace hb2 : KBw.bInts b2 = part n2 := hb2
    replace hb3 : KBw.bInts b3 = part n3 := hb3
    replace hb4 : KBw.bInts b4 = part n4 := hb4
    revert hb1 hb2 hb3 hb4 hz1 hz2 hz3 hz4
    generalize part n1 = p1
    generalize part n2 = p2
    generalize part n3 = p3
    generalize part n4 = p4
    intro hb1 hb2 hb3 hb4 hz1 hz2 hz3 hz4
    clear hyl hyR
    show wpAny _ _ _ _ _ _
    k_steps
    refine stop_go ?_
    rename Fr _ _ _ _ => F9
    rename News _ _ _ _ => N9
    obtain ⟨n, tw, m0, F8⟩ := fr_way F9
    have N8 := cb_drop (news := [(D, LCg.lst [Value.bytes b1 u1, Value.bytes b2 u2, Value.bytes b3 u3, Value.bytes b4 u4])]) N9 (by kcj_all)
    clear N9 F9 F' N' hlt
    rename KBw.bInts _ = _ ++ _ => hw
    have HP := PartsAre.mk hz1 hz2 hz3 hz4 hw hb1 hb2 hb3 hb4
    (rename CellsAre _ _ _ => z; clear z)
    (rename _ = Data.cell _ => z; clear z)
    (first | (rename Dflts _ _ _ _ => z; clear z) | (rename Dflts _ _ _ _ _ => z; clear z) | skip)
    (first | (rename Heap.CodeRec _ _ _ => z; clear z) | (rename Heap.CodeRec _ _ _ _ => z; clear z) | (rename Heap.CodeRec _ _ _ _ _ => z; clear z) | skip)
    (rename IsRange _ _ _ _ _ _ _ _ => z; clear z)
    (rename (∀ (b : Addr) (o : Obj), _ = _ → _ = _) => z; clear z)
    (rename List.length [_, _, _, _, _] = _ => z; clear z)
    (rename _ < _ ∧ _ => z; clear z)
    (rename _ + 1 ≠ _ => z; clear z)
    repeat (rename _ => z; revert z)
    intro h
    exact h.x
set_option maxRecDepth 100000 in
set_option maxHeartbeats 4000000 in
noncomputable def st2 : PSigma fun P : Prop => Wrap P → st1.1 := by
  refine' ⟨_, fun h => ?_⟩
  case refine'_2 =>
  delta st1
  w_top off
  k_with_none
  k_with "exec Assign cons ListComp" => (k_here; (with_reducible show wpAny _ _ (exec (Stmt.Assign _ (Expr.ListComp (Expr.Call _ _ _ _) _ _ _) _) _) _ _ _); refine stop_at ?_)
  k_with "getMethod bytes" => (k_here; (with_reducible refine method_join ?_))
  k_with "call builtin:bytes.join" => (k_here; k_dflt (refine' call_join ?lₓ ?eₓ ?h0ₓ ?h1ₓ ?h2ₓ ?h3ₓ ?zₓ ?_; (case lₓ => exact News.isList (by k_asm) (by k_mem)); (case eₓ => rfl); (case h0ₓ => assumption); (case h1ₓ => assumption); (case h2ₓ => assumption); (case h3ₓ => assumption); (case zₓ => omega); k_whole); intro bₓ tₓ kₓ hbₓ)
  k_with "call ref" => (k_here; (first
      | (with_reducible show wpAny _ _ (call (Value.ref 106) [Value.ref _, Value.bytes _ _]) _ _ _)
      | (with_reducible show wpAny _ _ (call (Value.ref 118) _) _ _ _)
      | (with_reducible show wpAny _ _ (call (Value.ref 123) _) _ _ _)
      | (with_reducible show wpAny _ _ (call (Value.ref 152) _) _ _ _)
      | (with_reducible show wpAny _ _ (call (Value.ref 157) _) _ _ _)); refine stop_at ?_)
  k_with "leaving ref" => (k_here; first
      | (refine' leave_raiseC ?k1ₓ (Heap.MadeExc.of (by assumption)) ?k2ₓ ?k3ₓ ?_ (by rfl); (case k1ₓ => assumption); (case k2ₓ => assumption); (case k3ₓ => k_asm); k_whole; intro hₓ tₓ Rₓ Uₓ Cₓ; (try dsimp only at Rₓ Uₓ ⊢))
      | (refine' leave_onC ?k1ₓ ?k2ₓ ?k3ₓ ?k4ₓ ?k5ₓ ?_; (case k3ₓ => assumption); (case k1ₓ => assumption); (case k4ₓ => assumption); (case k2ₓ => assumption); (case k5ₓ => assumption); k_whole; intro hₓ Rₓ Uₓ Cₓ; (try dsimp only at Rₓ Uₓ ⊢)))
  k_with "noteFrame ref" => (k_here; (rename RaisedK _ _ _ _ _ _ _ _ => rkX); refine caught_C0 (T' := "TypeError") (by assumption) (by assumption) (by assumption) rkX (by assumption) (by k_asm) PyProof.Rows.Boot.«TypeError» PySem.F.isExc_TypeError PySem.F.notTuple_TypeError (by rw [isSubtype_type]; kernel_rfl) ?_ (by decide +kernel) (by decide +kernel) (by decide +kernel) (by decide +kernel) (by decide +kernel) (by decide +kernel) (by rfl) (by rfl) (by decide) (by passes_own); intro h7 oe F7 N7 O7; (try k_sweep); refine stop_at ?_)
  k_with "exec If" => (k_here; (first
      | ((fail_if_success (with_reducible rename Gone => hgoneₓ)); (with_reducible show wpAny _ _ (exec (Stmt.If (Expr.Name _ _) _ _ _) _) _ _ _))
      | (with_reducible show wpAny _ _ (exec (Stmt.If (Expr.Compare _ _ _ _) _ _ _) _) _ _ _)
      | (with_reducible show wpAny _ _ (exec (Stmt.If (Expr.BoolOp _ _ _) _ _ _) _) _ _ _)); refine stop_at ?_)
  k_with "call type:list" => (k_here; (with_reducible show wpAny _ _ (call (Value.type _) [Value.ref _]) _ _ _); k_dflt (refine' list_of_lt ?Fₓ ?Nₓ ?bₓ ?eₓ ?_ ?zₓ; (case Fₓ => k_asm); (case Nₓ => k_asm); (case bₓ => k_mem); (case eₓ => kl_lit); (case zₓ => kl_room)); intro Do co h' F' N' hLD l1; (try k_lt l1); (try k_sweep))
  k_with "exec Try" => (k_here; refine stop_at ?_)
  k_with "eval BinOp" => (k_here; k_fold; refine wpAny_BinOp ?_)
  k_with "eval Subscript" => (k_here; k_fold; walk1)
  k_with "eval Call" => (k_here; k_fold; walk1)
  k_with "eval Call Attribute" => (k_here; k_fold; walk1)
  k_fill
  intro z
  intros
  have gone : Gone := .mk
  refine wpAny_Try_except ?_
  k_steps
  dsimp only [InitBack]
  k_steps
  refine stop_go ?_
  have N6 := cb_drop (news := [(_, oe), (_, LCg.lst [Value.bytes _ _, Value.bytes _ _, Value.bytes _ _, Value.bytes _ _])]) N7 (by kcj_all)
  clear N7
  revert F7 N6 O7
  iterate 2 (rename RaisedK _ _ _ _ _ _ _ _ => z; clear z)
  iterate 2 (rename Frag.In _ _ => z; clear z)
  iterate 2 (rename Top _ _ _ _ _ _ => z; clear z)
  iterate 2 (rename Below _ _ _ _ => z; clear z)
  iterate 3 (rename Fr _ _ _ _ => z; clear z)
  iterate 2 (rename News _ _ _ _ => z; clear z)
  intro F7 N7 O7
  k_steps
  refine stop_go ?_
  rename Fr _ _ _ _ => F9
  rename News _ _ _ _ => N9
  have N8 := cb_drop (news := [(_, instObj 126 _), (_, mdict _ 0 _ _ #[] _ _ _ _), (_, listOf #[.int 1732584193 _, .int 4023233417 _, .int 2562383102 _, .int 271733878 _] _), (_, LCg.lst [Value.bytes _ _, Value.bytes _ _, Value.bytes _ _, Value.bytes _ _])]) N9 (by kcj_all)
  obtain ⟨HM, HO⟩ := to_md N8 (by omega) (by omega) (by omega)
  clear N9
  clear gone
  revert F9 N8 HM HO
  iterate 2 (rename Frag.In _ _ => z; clear z)
  (rename Top _ _ _ _ _ _ => z; clear z)
  (rename Below _ _ _ _ => z; clear z)
  (rename Fr _ _ _ _ => z; clear z)
  (rename News _ _ _ _ => z; clear z)
  repeat (rename _ < _ ∧ _ => z; clear z)
  (rename HdOk _ _ => z; clear z)
  intro HM HO F9 N8
  repeat (rename _ => z; revert z)
  intro h
  exact h.x
set_option maxRecDepth 100000 in
set_option maxHeartbeats 4000000 in
noncomputable def st3 : PSigma fun P : Prop => Wrap P → st2.1 := by
  refine' ⟨_, fun h => ?_⟩
  case refine'_2 =>
  delta st2
  w_top off
  k_with_none
  k_with "exec Assign cons ListComp" => (k_here; (with_reducible show wpAny _ _ (exec (Stmt.Assign _ (Expr.ListComp (Expr.Call _ _ _ _) _ _ _) _) _) _ _ _); refine stop_at ?_)
  k_with "getMethod bytes" => (k_here; (with_reducible refine method_join ?_))
  k_with "call builtin:bytes.join" => (k_here; k_dflt (refine' call_join ?lₓ ?eₓ ?h0ₓ ?h1ₓ ?h2ₓ ?h3ₓ ?zₓ ?_; (case lₓ => exact News.isList (by k_asm) (by k_mem)); (case eₓ => rfl); (case h0ₓ => assumption); (case h1ₓ => assumption); (case h2ₓ => assumption); (case h3ₓ => assumption); (case zₓ => omega); k_whole); intro bₓ tₓ kₓ hbₓ)
  k_with "call ref" => (k_here; (first
      | (with_reducible show wpAny _ _ (call (Value.ref 106) [Value.ref _, Value.bytes _ _]) _ _ _)
      | (with_reducible show wpAny _ _ (call (Value.ref 118) _) _ _ _)
      | (with_reducible show wpAny _ _ (call (Value.ref 123) _) _ _ _)
      | (with_reducible show wpAny _ _ (call (Value.ref 152) _) _ _ _)
      | (with_reducible show wpAny _ _ (call (Value.ref 157) _) _ _ _)); refine stop_at ?_)
  k_with "leaving ref" => (k_here; first
      | (refine' leave_raiseC ?k1ₓ (Heap.MadeExc.of (by assumption)) ?k2ₓ ?k3ₓ ?_ (by rfl); (case k1ₓ => assumption); (case k2ₓ => assumption); (case k3ₓ => k_asm); k_whole; intro hₓ tₓ Rₓ Uₓ Cₓ; (try dsimp only at Rₓ Uₓ ⊢))
      | (refine' leave_onC ?k1ₓ ?k2ₓ ?k3ₓ ?k4ₓ ?k5ₓ ?_; (case k3ₓ => assumption); (case k1ₓ => assumption); (case k4ₓ => assumption); (case k2ₓ => assumption); (case k5ₓ => assumption); k_whole; intro hₓ Rₓ Uₓ Cₓ; (try dsimp only at Rₓ Uₓ ⊢)))
  k_with "noteFrame ref" => (k_here; (rename RaisedK _ _ _ _ _ _ _ _ => rkX); refine caught_C0 (T' := "TypeError") (by assumption) (by assumption) (by assumption) rkX (by assumption) (by k_asm) PyProof.Rows.Boot.«TypeError» PySem.F.isExc_TypeError PySem.F.notTuple_TypeError (by rw [isSubtype_type]; kernel_rfl) ?_ (by decide +kernel) (by decide +kernel) (by decide +kernel) (by decide +kernel) (by decide +kernel) (by decide +kernel) (by rfl) (by rfl) (by decide) (by passes_own); intro h7 oe F7 N7 O7; (try k_sweep); refine stop_at ?_)
  k_with "exec If" => (k_here; (first
      | ((fail_if_success (with_reducible rename Gone => hgoneₓ)); (with_reducible show wpAny _ _ (exec (Stmt.If (Expr.Name _ _) _ _ _) _) _ _ _))
      | (with_reducible show wpAny _ _ (exec (Stmt.If (Expr.Compare _ _ _ _) _ _ _) _) _ _ _)
      | (with_reducible show wpAny _ _ (exec (Stmt.If (Expr.BoolOp _ _ _) _ _ _) _) _ _ _)); refine stop_at ?_)
  k_with "call type:list" => (k_here; (with_reducible show wpAny _ _ (call (Value.type _) [Value.ref _]) _ _ _); k_dflt (refine' list_of_lt ?Fₓ ?Nₓ ?bₓ ?eₓ ?_ ?zₓ; (case Fₓ => k_asm); (case Nₓ => k_asm); (case bₓ => k_mem); (case eₓ => kl_lit); (case zₓ => kl_room)); intro Do co h' F' N' hLD l1; (try k_lt l1); (try k_sweep))
  k_with "exec Try" => (k_here; refine stop_at ?_)
  k_with "eval BinOp" => (k_here; k_fold; refine wpAny_BinOp ?_)
  k_with "eval Subscript" => (k_here; k_fold; walk1)
  k_with "eval Call" => (k_here; k_fold; walk1)
  k_with "eval Call Attribute" => (k_here; k_fold; walk1)
  k_fill
  intro z
  intros
  refine wpAny_If ?_
  k_steps
  · refine stop_go ?_
    rename Off _ _ => z; clear z
    rename Md _ _ _ _ => z; clear z
    rename Fr _ _ _ _ => F9
    rename News _ _ _ _ => N9
    have N8 := cb_drop (news := [(_, LCg.lst [Value.bytes _ _, Value.bytes _ _, Value.bytes _ _, Value.bytes _ _])]) N9 (by kcj_all)
    clear N9
    rename PartsAre _ _ _ _ _ _ _ _ _ => HP
    rename KBw.bInts (_ ++ _) = _ => hk0
    obtain ⟨ks, hks, hkl⟩ := ks_of hk0 (by simp only [List.length_append]; omega)
    clear hk0
    refine wpAny_If ?_
    k_steps
    refine stop_go ?_
    rename Fr _ _ _ _ => F9
    rename News _ _ _ _ => N9
    have N8 := cb_drop (news := [(_, instObj 126 _), (_, mdict _ 0 _ _ #[] _ _ _ _), (_, listOf #[.int 1732584193 _, .int 4023233417 _, .int 2562383102 _, .int 271733878 _] _), (_, LCg.lst [Value.bytes _ _, Value.bytes _ _, Value.bytes _ _, Value.bytes _ _])]) N9 (by kcj_all)
    obtain ⟨HM, HO⟩ := to_md N8 (by omega) (by omega) (by omega)
    clear N9
    refine if_join ks F9 HM HO ?go1 ?key1
    case go1 =>
      refine wpAny_If ?_
      k_fold
      k_steps
      · refine stop_go ?_
        refine upd_call HM (by simp) hks (by omega) HO (by k_asm) (by k_asm) (by k_asm) (by k_asm) (by k_asm) (by first | exact rfl | assumption) HdOk.none (fun _ _ h => nomatch h) (by first | omega | k_room | exact Nat.le_of_ble_eq_true rfl) (by first | omega | k_room | exact Nat.le_of_ble_eq_true rfl) (by kcj_all) ?_
        intro dx sl cnt ct bt k1 k2 k3 buf vs q m0 h' tk' hT hvs HM' HO' F' N'
        k_steps
        exact join_intro HM' HO' F' N'
      · have hz : ks = [] := List.eq_nil_of_length_eq_zero (by omega)
        exact join_intro (hz ▸ HM) HO F9 N8
    clear HM HO F9 N8
    intro dx sl cnt ct bt k1 k2 k3 buf vs q m0 h' tk' hT hvs HM HO F9 N9
    clear hT hvs
    k_steps
    refine stop_go ?_
    refine dig_call HM (by have z1 := HP.l1; have z2 := HP.l2; have z3 := HP.l3; have z4 := HP.l4; (try simp only [List.length_append, List.length_nil]); omega) HO (by k_asm) (by k_asm) (by k_asm) (by k_asm) (by k_asm) (by first | exact rfl | assumption) (by first | omega | k_room | exact Nat.le_of_ble_eq_true rfl) (by first | omega | k_room | exact Nat.le_of_ble_eq_true rfl) (by kcj_all) ?_
    clear HM HO F9 N9
    intro dx sl cnt ct bt k1 k2 k3 buf vs q m0 h' tk' bb tb hbb hT hvs HM HO F9 N9
    have N1 := cb_drop N9 fun p hp => List.mem_cons_of_mem _ (List.mem_cons_of_mem _ (List.mem_cons_of_mem _ hp))
    clear N9 hT hvs HM HO
    revert F9 N1
    (rename Frag.In _ _ => z; clear z)
    (rename Frag.In _ _ => z; clear z)
    (rename Top _ _ _ _ _ _ => z; clear z)
    (rename Below _ _ _ _ => z; clear z)
    intro F1 N1
    k_steps
    refine stop_go ?_
    refine call_md (ldigest_does hks (by omega)) _ (off_nil_of N1) (by k_asm) (by k_asm) (by k_asm) (by k_asm) (by k_asm) (by first | exact rfl | assumption) HdOk.none (fun _ _ h => nomatch h) (by first | omega | k_room | exact Nat.le_of_ble_eq_true rfl) (by first | omega | k_room | exact Nat.le_of_ble_eq_true rfl) (by kcj_all) ?_
    rintro v led' h' tk' ⟨⟨b9, t9, rfl, h9⟩, rfl⟩ hlt hO F' N' ok'
    simp only [List.nil_append] at N'
    obtain rfl := bytes_eq (h9.trans hbb.symm)
    clear h9 hbb hlt hO ok' hks hkl ks
    obtain ⟨ks, hks, hkl⟩ := ks_of HP.e1 (Nat.le_trans HP.l1 (by decide))
    k_steps
    refine stop_go ?_
    rename Fr _ _ _ _ => F9
    rename News _ _ _ _ => N9
    have N8 := cb_drop (news := [(_, instObj 126 _), (_, mdict _ 0 _ _ #[] _ _ _ _), (_, listOf #[.int 1732584193 _, .int 4023233417 _, .int 2562383102 _, .int 271733878 _] _), (_, LCg.lst [Value.bytes _ _, Value.bytes _ _, Value.bytes _ _, Value.bytes _ _])]) N9 (by kcj_all)
    obtain ⟨HM, HO⟩ := to_md N8 (by omega) (by omega) (by omega)
    clear N9
    refine if_join ks F9 HM HO ?go2 ?key2
    case go2 =>
      refine wpAny_If ?_
      k_fold
      k_steps
      · refine stop_go ?_
        refine upd_call HM (by simp) hks (by omega) HO (by k_asm) (by k_asm) (by k_asm) (by k_asm) (by k_asm) (by first | exact rfl | assumption) HdOk.none (fun _ _ h => nomatch h) (by first | omega | k_room | exact Nat.le_of_ble_eq_true rfl) (by first | omega | k_room | exact Nat.le_of_ble_eq_true rfl) (by kcj_all) ?_
        intro dx sl cnt ct bt k1 k2 k3 buf vs q m0 h' tk' hT hvs HM' HO' F' N'
        k_steps
        exact join_intro HM' HO' F' N'
      · have hz : ks = [] := List.eq_nil_of_length_eq_zero (by omega)
        exact join_intro (hz ▸ HM) HO F9 N8
    clear HM HO F9 N8
    intro dx sl cnt ct bt k1 k2 k3 buf vs q m0 h' tk' hT hvs HM HO F9 N9
    clear hT hvs
    k_steps
    refine stop_go ?_
    refine dig_call HM (by have z1 := HP.l1; have z2 := HP.l2; have z3 := HP.l3; have z4 := HP.l4; (try simp only [List.length_append, List.length_nil]); omega) HO (by k_asm) (by k_asm) (by k_asm) (by k_asm) (by k_asm) (by first | exact rfl | assumption) (by first | omega | k_room | exact Nat.le_of_ble_eq_true rfl) (by first | omega | k_room | exact Nat.le_of_ble_eq_true rfl) (by kcj_all) ?_
    clear HM HO F9 N9
    intro dx sl cnt ct bt k1 k2 k3 buf vs q m0 h' tk' bb tb hbb hT hvs HM HO F9 N9
    have N1 := cb_drop N9 fun p hp => List.mem_cons_of_mem _ (List.mem_cons_of_mem _ (List.mem_cons_of_mem _ hp))
    clear N9 hT hvs HM HO
    k_steps
    refine stop_go ?_
    refine call_md (ldigest_does hks (by omega)) _ (off_nil_of N1) (by k_asm) (by k_asm) (by k_asm) (by k_asm) (by k_asm) (by first | exact rfl | assumption) HdOk.none (fun _ _ h => nomatch h) (by first | omega | k_room | exact Nat.le_of_ble_eq_true rfl) (by first | omega | k_room | exact Nat.le_of_ble_eq_true rfl) (by kcj_all) ?_
    rintro v led' h' tk' ⟨⟨b9, t9, rfl, h9⟩, rfl⟩ hlt hO F' N' ok'
    simp only [List.nil_append] at N'
    obtain rfl := bytes_eq (h9.trans hbb.symm)
    k_steps
  · repeat (rename _ => z; revert z)
    intro h
    exact h.x
set_option maxRecDepth 100000 in
set_option maxHeartbeats 4000000 in
noncomputable def st4 : PSigma fun P : Prop => Wrap P → st3.1 := by
  refine' ⟨_, fun h => ?_⟩
  case refine'_2 =>
  delta st3
  w_top off
  k_with_none
  k_with "exec Assign cons ListComp" => (k_here; (with_reducible show wpAny _ _ (exec (Stmt.Assign _ (Expr.ListComp (Expr.Call _ _ _ _) _ _ _) _) _) _ _ _); refine stop_at ?_)
  k_with "getMethod bytes" => (k_here; (with_reducible refine method_join ?_))
  k_with "call builtin:bytes.join" => (k_here; k_dflt (refine' call_join ?lₓ ?eₓ ?h0ₓ ?h1ₓ ?h2ₓ ?h3ₓ ?zₓ ?_; (case lₓ => exact News.isList (by k_asm) (by k_mem)); (case eₓ => rfl); (case h0ₓ => assumption); (case h1ₓ => assumption); (case h2ₓ => assumption); (case h3ₓ => assumption); (case zₓ => omega); k_whole); intro bₓ tₓ kₓ hbₓ)
  k_with "call ref" => (k_here; (first
      | (with_reducible show wpAny _ _ (call (Value.ref 106) [Value.ref _, Value.bytes _ _]) _ _ _)
      | (with_reducible show wpAny _ _ (call (Value.ref 118) _) _ _ _)
      | (with_reducible show wpAny _ _ (call (Value.ref 123) _) _ _ _)
      | (with_reducible show wpAny _ _ (call (Value.ref 152) _) _ _ _)
      | (with_reducible show wpAny _ _ (call (Value.ref 157) _) _ _ _)); refine stop_at ?_)
  k_with "leaving ref" => (k_here; first
      | (refine' leave_raiseC ?k1ₓ (Heap.MadeExc.of (by assumption)) ?k2ₓ ?k3ₓ ?_ (by rfl); (case k1ₓ => assumption); (case k2ₓ => assumption); (case k3ₓ => k_asm); k_whole; intro hₓ tₓ Rₓ Uₓ Cₓ; (try dsimp only at Rₓ Uₓ ⊢))
      | (refine' leave_onC ?k1ₓ ?k2ₓ ?k3ₓ ?k4ₓ ?k5ₓ ?_; (case k3ₓ => assumption); (case k1ₓ => assumption); (case k4ₓ => assumption); (case k2ₓ => assumption); (case k5ₓ => assumption); k_whole; intro hₓ Rₓ Uₓ Cₓ; (try dsimp only at Rₓ Uₓ ⊢)))
  k_with "noteFrame ref" => (k_here; (rename RaisedK _ _ _ _ _ _ _ _ => rkX); refine caught_C0 (T' := "TypeError") (by assumption) (by assumption) (by assumption) rkX (by assumption) (by k_asm) PyProof.Rows.Boot.«TypeError» PySem.F.isExc_TypeError PySem.F.notTuple_TypeError (by rw [isSubtype_type]; kernel_rfl) ?_ (by decide +kernel) (by decide +kernel) (by decide +kernel) (by decide +kernel) (by decide +kernel) (by decide +kernel) (by rfl) (by rfl) (by decide) (by passes_own); intro h7 oe F7 N7 O7; (try k_sweep); refine stop_at ?_)
  k_with "exec If" => (k_here; (first
      | ((fail_if_success (with_reducible rename Gone => hgoneₓ)); (with_reducible show wpAny _ _ (exec (Stmt.If (Expr.Name _ _) _ _ _) _) _ _ _))
      | (with_reducible show wpAny _ _ (exec (Stmt.If (Expr.Compare _ _ _ _) _ _ _) _) _ _ _)
      | (with_reducible show wpAny _ _ (exec (Stmt.If (Expr.BoolOp _ _ _) _ _ _) _) _ _ _)); refine stop_at ?_)
  k_with "call type:list" => (k_here; (with_reducible show wpAny _ _ (call (Value.type _) [Value.ref _]) _ _ _); k_dflt (refine' list_of_lt ?Fₓ ?Nₓ ?bₓ ?eₓ ?_ ?zₓ; (case Fₓ => k_asm); (case Nₓ => k_asm); (case bₓ => k_mem); (case eₓ => kl_lit); (case zₓ => kl_room)); intro Do co h' F' N' hLD l1; (try k_lt l1); (try k_sweep))
  k_with "exec Try" => (k_here; refine stop_at ?_)
  k_with "eval BinOp" => (k_here; k_fold; refine wpAny_BinOp ?_)
  k_with "eval Subscript" => (k_here; k_fold; walk1)
  k_with "eval Call" => (k_here; k_fold; walk1)
  k_with "eval Call Attribute" => (k_here; k_fold; walk1)
  k_fill
  intro z
  intros
  rename PartsAre _ _ _ _ _ _ _ _ _ => HP
  rename Md _ _ _ _ => HM
  rename Off _ _ => HO
  rename Fr _ _ _ _ => F9
  rename News _ _ _ _ => N9
  refine stop_go ?_
  refine upd_call HM (by simp) HP.e1 (Nat.le_trans HP.l1 (by decide)) HO (by k_asm) (by k_asm) (by k_asm) (by k_asm) (by k_asm) (by first | exact rfl | assumption) HdOk.none (fun _ _ h => nomatch h) (by first | omega | k_room | exact Nat.le_of_ble_eq_true rfl) (by first | omega | k_room | exact Nat.le_of_ble_eq_true rfl) (by kcj_all) ?_
  clear HM HO F9 N9
  intro dx sl cnt ct bt k1 k2 k3 buf vs q m0 h' tk' hT hvs HM HO F9 N9
  clear hT hvs
  k_steps
  refine stop_go ?_
  refine upd_call HM (by have z1 := HP.l1; have z2 := HP.l2; have z3 := HP.l3; have z4 := HP.l4; (try simp only [List.length_append, List.length_nil]); omega) HP.e2 (Nat.le_trans HP.l2 (by decide)) HO (by k_asm) (by k_asm) (by k_asm) (by k_asm) (by k_asm) (by first | exact rfl | assumption) HdOk.none (fun _ _ h => nomatch h) (by first | omega | k_room | exact Nat.le_of_ble_eq_true rfl) (by first | omega | k_room | exact Nat.le_of_ble_eq_true rfl) (by kcj_all) ?_
  clear HM HO F9 N9
  intro dx sl cnt ct bt k1 k2 k3 buf vs q m0 h' tk' hT hvs HM HO F9 N9
  clear hT hvs
  rw [List.nil_append] at HM
  k_steps
  refine stop_go ?_
  repeat (rename _ => z; revert z)
  intro h
  exact h.x
set_option maxRecDepth 100000 in
set_option maxHeartbeats 4000000 in
noncomputable def st5 : PSigma fun P : Prop => Wrap P → st4.1 := by
  refine' ⟨_, fun h => ?_⟩
  case refine'_2 =>
  delta st4
  w_top off
  k_with_none
  k_with "exec Assign cons ListComp" => (k_here; (with_reducible show wpAny _ _ (exec (Stmt.Assign _ (Expr.ListComp (Expr.Call _ _ _ _) _ _ _) _) _) _ _ _); refine stop_at ?_)
  k_with "getMethod bytes" => (k_here; (with_reducible refine method_join ?_))
  k_with "call builtin:bytes.join" => (k_here; k_dflt (refine' call_join ?lₓ ?eₓ ?h0ₓ ?h1ₓ ?h2ₓ ?h3ₓ ?zₓ ?_; (case lₓ => exact News.isList (by k_asm) (by k_mem)); (case eₓ => rfl); (case h0ₓ => assumption); (case h1ₓ => assumption); (case h2ₓ => assumption); (case h3ₓ => assumption); (case zₓ => omega); k_whole); intro bₓ tₓ kₓ hbₓ)
  k_with "call ref" => (k_here; (first
      | (with_reducible show wpAny _ _ (call (Value.ref 106) [Value.ref _, Value.bytes _ _]) _ _ _)
      | (with_reducible show wpAny _ _ (call (Value.ref 118) _) _ _ _)
      | (with_reducible show wpAny _ _ (call (Value.ref 123) _) _ _ _)
      | (with_reducible show wpAny _ _ (call (Value.ref 152) _) _ _ _)
      | (with_reducible show wpAny _ _ (call (Value.ref 157) _) _ _ _)); refine stop_at ?_)
  k_with "leaving ref" => (k_here; first
      | (refine' leave_raiseC ?k1ₓ (Heap.MadeExc.of (by assumption)) ?k2ₓ ?k3ₓ ?_ (by rfl); (case k1ₓ => assumption); (case k2ₓ => assumption); (case k3ₓ => k_asm); k_whole; intro hₓ tₓ Rₓ Uₓ Cₓ; (try dsimp only at Rₓ Uₓ ⊢))
      | (refine' leave_onC ?k1ₓ ?k2ₓ ?k3ₓ ?k4ₓ ?k5ₓ ?_; (case k3ₓ => assumption); (case k1ₓ => assumption); (case k4ₓ => assumption); (case k2ₓ => assumption); (case k5ₓ => assumption); k_whole; intro hₓ Rₓ Uₓ Cₓ; (try dsimp only at Rₓ Uₓ ⊢)))
  k_with "noteFrame ref" => (k_here; (rename RaisedK _ _ _ _ _ _ _ _ => rkX); refine caught_C0 (T' := "TypeError") (by assumption) (by assumption) (by assumption) rkX (by assumption) (by k_asm) PyProof.Rows.Boot.«TypeError» PySem.F.isExc_TypeError PySem.F.notTuple_TypeError (by rw [isSubtype_type]; kernel_rfl) ?_ (by decide +kernel) (by decide +kernel) (by decide +kernel) (by decide +kernel) (by decide +kernel) (by decide +kernel) (by rfl) (by rfl) (by decide) (by passes_own); intro h7 oe F7 N7 O7; (try k_sweep); refine stop_at ?_)
  k_with "exec If" => (k_here; (first
      | ((fail_if_success (with_reducible rename Gone => hgoneₓ)); (with_reducible show wpAny _ _ (exec (Stmt.If (Expr.Name _ _) _ _ _) _) _ _ _))
      | (with_reducible show wpAny _ _ (exec (Stmt.If (Expr.Compare _ _ _ _) _ _ _) _) _ _ _)
      | (with_reducible show wpAny _ _ (exec (Stmt.If (Expr.BoolOp _ _ _) _ _ _) _) _ _ _)); refine stop_at ?_)
  k_with "call type:list" => (k_here; (with_reducible show wpAny _ _ (call (Value.type _) [Value.ref _]) _ _ _); k_dflt (refine' list_of_lt ?Fₓ ?Nₓ ?bₓ ?eₓ ?_ ?zₓ; (case Fₓ => k_asm); (case Nₓ => k_asm); (case bₓ => k_mem); (case eₓ => kl_lit); (case zₓ => kl_room)); intro Do co h' F' N' hLD l1; (try k_lt l1); (try k_sweep))
  k_with "exec Try" => (k_here; refine stop_at ?_)
  k_with "eval BinOp" => (k_here; k_fold; refine wpAny_BinOp ?_)
  k_with "eval Subscript" => (k_here; k_fold; walk1)
  k_with "eval Call" => (k_here; k_fold; walk1)
  k_with "eval Call Attribute" => (k_here; k_fold; walk1)
  k_fill
  intro z
  intros
  rename PartsAre _ _ _ _ _ _ _ _ _ => HP
  rename KBw.bInts (_ ++ _) = _ => hk
  rename Md _ _ _ _ => HM
  rename Off _ _ => HO
  rename Fr _ _ _ _ => F9
  rename News _ _ _ _ => N9
  refine if_same F9 HM HO ?goA ?keyA
  case goA =>
    refine wpAny_If ?_
    k_fold
    k_steps
    · refine stop_go ?_
      refine hex_call HM (by have z1 := HP.l1; have z2 := HP.l2; have z3 := HP.l3; have z4 := HP.l4; (try simp only [List.length_append, List.length_nil]); omega) HO (by k_asm) (by k_asm) (by k_asm) (by k_asm) (by k_asm) (by first | exact rfl | assumption) (by first | omega | k_room | exact Nat.le_of_ble_eq_true rfl) (by first | omega | k_room | exact Nat.le_of_ble_eq_true rfl) (by kcj_all) ?_
      clear HM HO F9 N9
      intro dx sl cnt ct bt k1 k2 k3 buf vs q m0 h' tk' th hT hvs HM HO F9 N9
      clear hT hvs
      k_steps
      refine stop_go ?_
      refine call_md (ldigest_does hk (by have z1 := HP.l1; have z2 := HP.l2; have z3 := HP.l3; have z4 := HP.l4; (try simp only [List.length_append, List.length_nil]); omega)) _ (off_nil_of N9) (by k_asm) (by k_asm) (by k_asm) (by k_asm) (by k_asm) (by first | exact rfl | assumption) HdOk.none (fun _ _ h => nomatch h) (by first | omega | k_room | exact Nat.le_of_ble_eq_true rfl) (by first | omega | k_room | exact Nat.le_of_ble_eq_true rfl) (by kcj_all) ?_
      clear F9 N9
      rintro v led' h' tk' ⟨⟨b9, t9, rfl, h9⟩, rfl⟩ hlt hO F9 N9 ok'
      simp only [List.nil_append] at N9
      clear hlt hO
      k_steps
      refine stop_go ?_
      refine call_md (lhex_does h9 (by rw [ldigest_len]; decide)) _ (off_nil_of N9) (by k_asm) (by k_asm) (by k_asm) (by k_asm) (by k_asm) (by first | exact rfl | assumption) HdOk.none (fun _ _ h => nomatch h) (by first | omega | k_room | exact Nat.le_of_ble_eq_true rfl) (by first | omega | k_room | exact Nat.le_of_ble_eq_true rfl) (by kcj_all) ?_
      clear F9 N9
      rintro v led' h' tk' ⟨⟨t8, rfl⟩, rfl⟩ hlt hO F9 N9 ok'
      simp only [List.nil_append] at N9
      clear hlt hO
      k_steps
      · exact (str_bne (by assumption)).elim
      · exact join_intro HM HO F9 N9
    · exact join_intro HM HO F9 N9
  clear HM HO F9 N9
  intro dx sl cnt ct bt k1 k2 k3 buf vs q m0 h' tk' hT hvs HM HO F9 N9
  clear hT hvs
  k_steps
  refine stop_go ?_
  refine if_same F9 HM HO ?goB ?keyB
  case goB =>
    refine wpAny_If ?_
    k_fold
    k_steps
    · refine stop_go ?_
      refine dig_call HM (by have z1 := HP.l1; have z2 := HP.l2; have z3 := HP.l3; have z4 := HP.l4; (try simp only [List.length_append, List.length_nil]); omega) HO (by k_asm) (by k_asm) (by k_asm) (by k_asm) (by k_asm) (by first | exact rfl | assumption) (by first | omega | k_room | exact Nat.le_of_ble_eq_true rfl) (by first | omega | k_room | exact Nat.le_of_ble_eq_true rfl) (by kcj_all) ?_
      clear HM HO F9 N9
      intro dx sl cnt ct bt k1 k2 k3 buf vs q m0 h' tk' bb tb hbb hT hvs HM HO F9 N9
      clear hT hvs
      k_steps
      refine stop_go ?_
      refine call_md (ldigest_does hk (by have z1 := HP.l1; have z2 := HP.l2; have z3 := HP.l3; have z4 := HP.l4; (try simp only [List.length_append, List.length_nil]); omega)) _ (off_nil_of N9) (by k_asm) (by k_asm) (by k_asm) (by k_asm) (by k_asm) (by first | exact rfl | assumption) HdOk.none (fun _ _ h => nomatch h) (by first | omega | k_room | exact Nat.le_of_ble_eq_true rfl) (by first | omega | k_room | exact Nat.le_of_ble_eq_true rfl) (by kcj_all) ?_
      clear F9 N9
      rintro v led' h' tk' ⟨⟨b9, t9, rfl, h9⟩, rfl⟩ hlt hO F9 N9 ok'
      simp only [List.nil_append] at N9
      clear hlt hO
      obtain rfl := bytes_eq (h9.trans hbb.symm)
      k_steps
      · exact (ints_bne (by assumption)).elim
      · exact join_intro HM HO F9 N9
    · exact join_intro HM HO F9 N9
  clear HM HO F9 N9
  intro dx sl cnt ct bt k1 k2 k3 buf vs q m0 h' tk' hT hvs HM HO F9 N9
  obtain ⟨t1, t2, t3, t4, rfl⟩ := ints_quad hvs
  have gone : Gone := .mk
  k_steps
  refine stop_go ?_
  rename Fr _ _ _ _ => F8
  rename News _ _ _ _ => N8
  have N9 := cb_drop (news := [(_, instObj 126 _), (_, mdict _ _ _ _ _ _ _ _ _), (_, listOf #[.int _ _, .int _ _, .int _ _, .int _ _] _), (_, instObj 126 dx), (dx, mdict _ _ _ _ _ _ _ _ _), (sl, listOf _ _), (_, LCg.lst [Value.bytes _ _, Value.bytes _ _, Value.bytes _ _, Value.bytes _ _])]) N8 (by kcj_all)
  obtain ⟨HM2, HO2⟩ := md_copy HM HO hT (.cons _ _ (.cons _ _ (.cons _ _ (.cons _ _ .nil)))) N9 (by intro p hp; simp only [List.cons_append, List.nil_append, List.mem_cons, List.not_mem_nil, or_false] at hp; rcases hp with rfl | rfl | rfl | rfl <;> (dsimp only; omega)) (by omega) (by omega)
  clear N8 hT gone
  revert F8 N9
  iterate 4 (rename Frag.In _ _ => z; clear z)
  iterate 2 (rename Top _ _ _ _ _ _ => z; clear z)
  iterate 2 (rename Below _ _ _ _ => z; clear z)
  repeat (rename Fr _ _ _ _ => z; clear z)
  repeat (rename News _ _ _ _ => z; clear z)
  repeat (rename _ < _ ∧ _ => z; clear z)
  intro F9 N9
  repeat (rename _ => z; revert z)
  intro h
  exact h.x
set_option maxRecDepth 100000 in
set_option maxHeartbeats 4000000 in
noncomputable def st6 : PSigma fun P : Prop => Wrap P → st5.1 := by
  refine' ⟨_, fun h => ?_⟩
  case refine'_2 =>
  delta st5
  w_top off
  k_with_none
  k_with "exec Assign cons ListComp" => (k_here; (with_reducible show wpAny _ _ (exec (Stmt.Assign _ (Expr.ListComp (Expr.Call _ _ _ _) _ _ _) _) _) _ _ _); refine stop_at ?_)
  k_with "getMethod bytes" => (k_here; (with_reducible refine method_join ?_))
  k_with "call builtin:bytes.join" => (k_here; k_dflt (refine' call_join ?lₓ ?eₓ ?h0ₓ ?h1ₓ ?h2ₓ ?h3ₓ ?zₓ ?_; (case lₓ => exact News.isList (by k_asm) (by k_mem)); (case eₓ => rfl); (case h0ₓ => assumption); (case h1ₓ => assumption); (case h2ₓ => assumption); (case h3ₓ => assumption); (case zₓ => omega); k_whole); intro bₓ tₓ kₓ hbₓ)
  k_with "call ref" => (k_here; (first
      | (with_reducible show wpAny _ _ (call (Value.ref 106) [Value.ref _, Value.bytes _ _]) _ _ _)
      | (with_reducible show wpAny _ _ (call (Value.ref 118) _) _ _ _)
      | (with_reducible show wpAny _ _ (call (Value.ref 123) _) _ _ _)
      | (with_reducible show wpAny _ _ (call (Value.ref 152) _) _ _ _)
      | (with_reducible show wpAny _ _ (call (Value.ref 157) _) _ _ _)); refine stop_at ?_)
  k_with "leaving ref" => (k_here; first
      | (refine' leave_raiseC ?k1ₓ (Heap.MadeExc.of (by assumption)) ?k2ₓ ?k3ₓ ?_ (by rfl); (case k1ₓ => assumption); (case k2ₓ => assumption); (case k3ₓ => k_asm); k_whole; intro hₓ tₓ Rₓ Uₓ Cₓ; (try dsimp only at Rₓ Uₓ ⊢))
      | (refine' leave_onC ?k1ₓ ?k2ₓ ?k3ₓ ?k4ₓ ?k5ₓ ?_; (case k3ₓ => assumption); (case k1ₓ => assumption); (case k4ₓ => assumption); (case k2ₓ => assumption); (case k5ₓ => assumption); k_whole; intro hₓ Rₓ Uₓ Cₓ; (try dsimp only at Rₓ Uₓ ⊢)))
  k_with "noteFrame ref" => (k_here; (rename RaisedK _ _ _ _ _ _ _ _ => rkX); refine caught_C0 (T' := "TypeError") (by assumption) (by assumption) (by assumption) rkX (by assumption) (by k_asm) PyProof.Rows.Boot.«TypeError» PySem.F.isExc_TypeError PySem.F.notTuple_TypeError (by rw [isSubtype_type]; kernel_rfl) ?_ (by decide +kernel) (by decide +kernel) (by decide +kernel) (by decide +kernel) (by decide +kernel) (by decide +kernel) (by rfl) (by rfl) (by decide) (by passes_own); intro h7 oe F7 N7 O7; (try k_sweep); refine stop_at ?_)
  k_with "exec If" => (k_here; (first
      | ((fail_if_success (with_reducible rename Gone => hgoneₓ)); (with_reducible show wpAny _ _ (exec (Stmt.If (Expr.Name _ _) _ _ _) _) _ _ _))
      | (with_reducible show wpAny _ _ (exec (Stmt.If (Expr.Compare _ _ _ _) _ _ _) _) _ _ _)
      | (with_reducible show wpAny _ _ (exec (Stmt.If (Expr.BoolOp _ _ _) _ _ _) _) _ _ _)); refine stop_at ?_)
  k_with "call type:list" => (k_here; (with_reducible show wpAny _ _ (call (Value.type _) [Value.ref _]) _ _ _); k_dflt (refine' list_of_lt ?Fₓ ?Nₓ ?bₓ ?eₓ ?_ ?zₓ; (case Fₓ => k_asm); (case Nₓ => k_asm); (case bₓ => k_mem); (case eₓ => kl_lit); (case zₓ => kl_room)); intro Do co h' F' N' hLD l1; (try k_lt l1); (try k_sweep))
  k_with "exec Try" => (k_here; refine stop_at ?_)
  k_with "eval BinOp" => (k_here; k_fold; refine wpAny_BinOp ?_)
  k_with "eval Subscript" => (k_here; k_fold; walk1)
  k_with "eval Call" => (k_here; k_fold; walk1)
  k_with "eval Call Attribute" => (k_here; k_fold; walk1)
  k_fill
  intro z
  intros
  rename PartsAre _ _ _ _ _ _ _ _ _ => HP
  rename KBw.bInts (_ ++ _) = _ => hk
  rename Md _ _ _ _ => HM2
  revert HM2
  rename Md _ _ _ _ => HM1
  intro HM2
  rename Off _ _ => HO2
  revert HO2
  rename Off _ _ => HO1
  intro HO2
  rename Fr _ _ _ _ => F9
  rename News _ _ _ _ => N9
  refine if_third (by assumption) HP F9 HM2 HO2 ?goC ?keyC
  case goC =>
    refine wpAny_If ?_
    k_fold
    k_steps
    · refine stop_go ?_
      refine upd_call HM2 (by have z1 := HP.l1; have z2 := HP.l2; have z3 := HP.l3; have z4 := HP.l4; (try simp only [List.length_append, List.length_nil]); omega) HP.e4 (Nat.le_trans HP.l4 (by decide)) HO2 (by k_asm) (by k_asm) (by k_asm) (by k_asm) (by k_asm) (by first | exact rfl | assumption) HdOk.none (fun _ _ h => nomatch h) (by first | omega | k_room | exact Nat.le_of_ble_eq_true rfl) (by first | omega | k_room | exact Nat.le_of_ble_eq_true rfl) (by kcj_all) ?_
      clear F9 N9
      intro dx sl cnt ct bt k1 k2 k3 buf vs q m0 h' tk' hT hvs HM HO F9 N9
      clear hT hvs
      k_steps
      exact joinr_intro (fun _ => rfl) HM HO F9 N9
    · exact joinr_intro (fun h => absurd h (by assumption)) HM2 HO2 F9 N9
  clear HM2 HO2 F9 N9
  intro dx sl cnt ct bt k1 k2 k3 buf vs q m0 h' tk' mm2 hR hT hvs HM2 HO2 F9 N9
  simp only [List.cons_append, List.nil_append] at N9
  clear hT hvs
  have HOd := off_right HO2
  k_steps
  refine stop_go ?_
  refine wpAny_Try_except ?_
  k_steps
  refine stop_go ?_
  have N6 := cb_drop N7 fun p hp => List.mem_cons_of_mem _ hp
  clear N7
  revert F7 O7 N6
  (rename RaisedK _ _ _ _ _ _ _ _ => z; clear z)
  (rename Frag.In _ _ => z; clear z)
  (rename Top _ _ _ _ _ _ => z; clear z)
  (rename Below _ _ _ _ => z; clear z)
  repeat (rename Fr _ _ _ _ => z; clear z)
  repeat (rename News _ _ _ _ => z; clear z)
  intro F9 O7 N9
  k_steps
  refine stop_go ?_
  refine upd_call HM1 (by have z1 := HP.l1; have z2 := HP.l2; have z3 := HP.l3; have z4 := HP.l4; (try simp only [List.length_append, List.length_nil]); omega) HP.e3 (Nat.le_trans HP.l3 (by decide)) (off_swap HO1 HO2) (by k_asm) (by k_asm) (by k_asm) (by k_asm) (by k_asm) (by first | exact rfl | assumption) O7 (md_off O7 HM1 fun p hp => (cb_drop N9 (by kcj_all) p hp).1) (by first | omega | k_room | exact Nat.le_of_ble_eq_true rfl) (by first | omega | k_room | exact Nat.le_of_ble_eq_true rfl) (by kcj_all) ?_
  clear F9 N9 O7 HM1 HO1 HO2
  intro ex el cn c1 c2 c3 c4 c5 bf us qq mm0 h' tk' hT hvs HM3 HO3 F9 N9
  simp only [List.cons_append, List.nil_append] at N9
  clear hT hvs
  k_steps
  refine stop_go ?_
  repeat (rename _ => z; revert z)
  intro h
  exact h.x
set_option maxRecDepth 100000 in
set_option maxHeartbeats 4000000 in
theorem st_end : st6.1 := by
  delta st6
  w_top off
  k_with_none
  k_with "exec Assign cons ListComp" => (k_here; (with_reducible show wpAny _ _ (exec (Stmt.Assign _ (Expr.ListComp (Expr.Call _ _ _ _) _ _ _) _) _) _ _ _); refine stop_at ?_)
  k_with "getMethod bytes" => (k_here; (with_reducible refine method_join ?_))
  k_with "call builtin:bytes.join" => (k_here; k_dflt (refine' call_join ?lₓ ?eₓ ?h0ₓ ?h1ₓ ?h2ₓ ?h3ₓ ?zₓ ?_; (case lₓ => exact News.isList (by k_asm) (by k_mem)); (case eₓ => rfl); (case h0ₓ => assumption); (case h1ₓ => assumption); (case h2ₓ => assumption); (case h3ₓ => assumption); (case zₓ => omega); k_whole); intro bₓ tₓ kₓ hbₓ)
  k_with "call ref" => (k_here; (first
      | (with_reducible show wpAny _ _ (call (Value.ref 106) [Value.ref _, Value.bytes _ _]) _ _ _)
      | (with_reducible show wpAny _ _ (call (Value.ref 118) _) _ _ _)
      | (with_reducible show wpAny _ _ (call (Value.ref 123) _) _ _ _)
      | (with_reducible show wpAny _ _ (call (Value.ref 152) _) _ _ _)
      | (with_reducible show wpAny _ _ (call (Value.ref 157) _) _ _ _)); refine stop_at ?_)
  k_with "leaving ref" => (k_here; first
      | (refine' leave_raiseC ?k1ₓ (Heap.MadeExc.of (by assumption)) ?k2ₓ ?k3ₓ ?_ (by rfl); (case k1ₓ => assumption); (case k2ₓ => assumption); (case k3ₓ => k_asm); k_whole; intro hₓ tₓ Rₓ Uₓ Cₓ; (try dsimp only at Rₓ Uₓ ⊢))
      | (refine' leave_onC ?k1ₓ ?k2ₓ ?k3ₓ ?k4ₓ ?k5ₓ ?_; (case k3ₓ => assumption); (case k1ₓ => assumption); (case k4ₓ => assumption); (case k2ₓ => assumption); (case k5ₓ => assumption); k_whole; intro hₓ Rₓ Uₓ Cₓ; (try dsimp only at Rₓ Uₓ ⊢)))
  k_with "noteFrame ref" => (k_here; (rename RaisedK _ _ _ _ _ _ _ _ => rkX); refine caught_C0 (T' := "TypeError") (by assumption) (by assumption) (by assumption) rkX (by assumption) (by k_asm) PyProof.Rows.Boot.«TypeError» PySem.F.isExc_TypeError PySem.F.notTuple_TypeError (by rw [isSubtype_type]; kernel_rfl) ?_ (by decide +kernel) (by decide +kernel) (by decide +kernel) (by decide +kernel) (by decide +kernel) (by decide +kernel) (by rfl) (by rfl) (by decide) (by passes_own); intro h7 oe F7 N7 O7; (try k_sweep); refine stop_at ?_)
  k_with "exec If" => (k_here; (first
      | ((fail_if_success (with_reducible rename Gone => hgoneₓ)); (with_reducible show wpAny _ _ (exec (Stmt.If (Expr.Name _ _) _ _ _) _) _ _ _))
      | (with_reducible show wpAny _ _ (exec (Stmt.If (Expr.Compare _ _ _ _) _ _ _) _) _ _ _)
      | (with_reducible show wpAny _ _ (exec (Stmt.If (Expr.BoolOp _ _ _) _ _ _) _) _ _ _)); refine stop_at ?_)
  k_with "call type:list" => (k_here; (with_reducible show wpAny _ _ (call (Value.type _) [Value.ref _]) _ _ _); k_dflt (refine' list_of_lt ?Fₓ ?Nₓ ?bₓ ?eₓ ?_ ?zₓ; (case Fₓ => k_asm); (case Nₓ => k_asm); (case bₓ => k_mem); (case eₓ => kl_lit); (case zₓ => kl_room)); intro Do co h' F' N' hLD l1; (try k_lt l1); (try k_sweep))
  k_with "exec Try" => (k_here; refine stop_at ?_)
  k_with "eval BinOp" => (k_here; k_fold; refine wpAny_BinOp ?_)
  k_with "eval Subscript" => (k_here; k_fold; walk1)
  k_with "eval Call" => (k_here; k_fold; walk1)
  k_with "eval Call Attribute" => (k_here; k_fold; walk1)
  k_fill
  intro z
  intros
  rename PartsAre _ _ _ _ _ _ _ _ _ => HP
  rename Int.fmod _ _ = 3 → _ => hR
  rename Md _ _ _ _ => HM3
  revert HM3
  rename Md _ _ _ _ => HM2
  intro HM3
  rename Off _ _ => HO3
  revert HO3
  rename Off _ _ => HOd
  intro HO3
  rename Fr _ _ _ _ => F9
  rename News _ _ _ _ => N9
  refine upd_call HM3 (by have z1 := HP.l1; have z2 := HP.l2; have z3 := HP.l3; have z4 := HP.l4; (try simp only [List.length_append, List.length_nil]); omega) HP.e4 (Nat.le_trans HP.l4 (by decide)) HO3 (by k_asm) (by k_asm) (by k_asm) (by k_asm) (by k_asm) (by first | exact rfl | assumption) HdOk.none (fun _ _ h => nomatch h) (by first | omega | k_room | exact Nat.le_of_ble_eq_true rfl) (by first | omega | k_room | exact Nat.le_of_ble_eq_true rfl) (by kcj_all) ?_
  clear F9 N9 HM3 HO3
  intro ex el cn c1 c2 c3 c4 c5 bf us qq mm0 h' tk' hT hvs HM4 HO4 F9 N9
  simp only [List.cons_append, List.nil_append] at N9
  clear hT hvs
  k_steps
  refine stop_go ?_
  refine if_same F9 HM4 (off_right HO4) ?goD ?keyD
  case goD =>
    refine wpAny_If ?_
    k_fold
    k_steps
    · refine stop_go ?_
      have hm := hR (by assumption)
      subst hm
      refine dig_call HM2 (by have z1 := HP.l1; have z2 := HP.l2; have z3 := HP.l3; have z4 := HP.l4; (try simp only [List.length_append, List.length_nil]); omega) (off_swap HOd HO4) (by k_asm) (by k_asm) (by k_asm) (by k_asm) (by k_asm) (by first | exact rfl | assumption) (by first | omega | k_room | exact Nat.le_of_ble_eq_true rfl) (by first | omega | k_room | exact Nat.le_of_ble_eq_true rfl) (by kcj_all) ?_
      clear F9 N9
      intro dx sl cnt ct bt k1 k2 k3 buf vs q m0 h' tk' bb tb hbb hT hvs HM HO F9 N8
      have N9 := cb_drop N8 fun p hp => List.mem_cons_of_mem _ (List.mem_cons_of_mem _ (List.mem_cons_of_mem _ hp))
      simp only [List.cons_append, List.nil_append] at N9
      clear hT hvs HM HO N8
      k_steps
      refine stop_go ?_
      rename KBw.bInts (_ ++ _) = _ => hk2
      rename Fr _ _ _ _ => F9
      rename News _ _ _ _ => N9
      refine call_md (ldigest_does hk2 (by have z1 := HP.l1; have z2 := HP.l2; have z3 := HP.l3; have z4 := HP.l4; (try simp only [List.length_append, List.length_nil]); omega)) _ (off_nil_of N9) (by k_asm) (by k_asm) (by k_asm) (by k_asm) (by k_asm) (by first | exact rfl | assumption) HdOk.none (fun _ _ h => nomatch h) (by first | omega | k_room | exact Nat.le_of_ble_eq_true rfl) (by first | omega | k_room | exact Nat.le_of_ble_eq_true rfl) (by kcj_all) ?_
      clear F9 N9
      rintro v led' h' tk' ⟨⟨b9, t9, rfl, h9⟩, rfl⟩ hlt hO F9 N9 ok'
      simp only [List.nil_append] at N9
      clear hlt hO
      obtain rfl := bytes_eq (h9.trans hbb.symm)
      k_steps
      · exact (ints_bne (by assumption)).elim
      · exact join_intro HM4 (off_right HO4) F9 N9
    · exact join_intro HM4 (off_right HO4) F9 (cb_drop N9 (by kcj_all))
  clear HM4 HO4 F9 N9 HM2 HOd
  intro dx sl cnt ct bt k1 k2 k3 buf vs q m0 h' tk' hT hvs HM HO F9 N9
  clear hT hvs
  k_steps
  refine stop_go ?_
  refine call_md (ldigest_does HP.e (by have z1 := HP.l1; have z2 := HP.l2; have z3 := HP.l3; have z4 := HP.l4; (try simp only [List.length_append, List.length_nil]); omega)) _ (off_nil_of N9) (by k_asm) (by k_asm) (by k_asm) (by k_asm) (by k_asm) (by first | exact rfl | assumption) HdOk.none (fun _ _ h => nomatch h) (by first | omega | k_room | exact Nat.le_of_ble_eq_true rfl) (by first | omega | k_room | exact Nat.le_of_ble_eq_true rfl) (by kcj_all) ?_
  clear F9 N9
  rintro v led' h' tk' ⟨⟨b8, t8, rfl, h8⟩, rfl⟩ hlt hO F9 N9 ok'
  simp only [List.nil_append] at N9
  clear hlt hO ok'
  k_steps
  refine stop_go ?_
  rename Fr _ _ _ _ => F9
  rename News _ _ _ _ => N9
  refine if_same F9 HM HO ?goE ?keyE
  case goE =>
    refine wpAny_If ?_
    k_fold
    k_steps
    · refine stop_go ?_
      refine hex_call HM (by have z1 := HP.l1; have z2 := HP.l2; have z3 := HP.l3; have z4 := HP.l4; (try simp only [List.length_append, List.length_nil]); omega) HO (by k_asm) (by k_asm) (by k_asm) (by k_asm) (by k_asm) (by first | exact rfl | assumption) (by first | omega | k_room | exact Nat.le_of_ble_eq_true rfl) (by first | omega | k_room | exact Nat.le_of_ble_eq_true rfl) (by kcj_all) ?_
      clear HM HO F9 N9
      intro dx sl cnt ct bt k1 k2 k3 buf vs q m0 h' tk' th hT hvs HM HO F9 N9
      clear hT hvs
      k_steps
      refine stop_go ?_
      refine call_md (lhex_does h8 (by rw [ldigest_len]; decide)) _ (off_nil_of N9) (by k_asm) (by k_asm) (by k_asm) (by k_asm) (by k_asm) (by first | exact rfl | assumption) HdOk.none (fun _ _ h => nomatch h) (by first | omega | k_room | exact Nat.le_of_ble_eq_true rfl) (by first | omega | k_room | exact Nat.le_of_ble_eq_true rfl) (by kcj_all) ?_
      clear F9 N9
      rintro v led' h' tk' ⟨⟨t7, rfl⟩, rfl⟩ hlt hO F9 N9 ok'
      simp only [List.nil_append] at N9
      clear hlt hO
      k_steps
      · exact (str_bne (by assumption)).elim
      · exact join_intro HM HO F9 N9
    · exact join_intro HM HO F9 N9
  clear HM HO F9 N9
  intro dx sl cnt ct bt k1 k2 k3 buf vs q m0 h' tk' hT hvs HM HO F9 N9
  clear hT hvs
  k_steps
  refine stop_go ?_
  refine dig_call HM (by have z1 := HP.l1; have z2 := HP.l2; have z3 := HP.l3; have z4 := HP.l4; (try simp only [List.length_append, List.length_nil]); omega) HO (by k_asm) (by k_asm) (by k_asm) (by k_asm) (by k_asm) (by first | exact rfl | assumption) (by first | omega | k_room | exact Nat.le_of_ble_eq_true rfl) (by first | omega | k_room | exact Nat.le_of_ble_eq_true rfl) (by kcj_all) ?_
  clear HM HO F9 N9
  intro dx sl cnt ct bt k1 k2 k3 buf vs q m0 h' tk' bb tb hbb hT hvs HM HO F9 N9
  obtain rfl := bytes_eq (hbb.trans h8.symm)
  clear hT hvs HM HO
  k_steps
theorem law_walk : PySem.Challenge.rw_iw0003_01.Holds := st1.2 ⟨st2.2 ⟨st3.2 ⟨st4.2 ⟨st5.2 ⟨st6.2 ⟨st_end⟩⟩⟩⟩⟩⟩
end

end Mine
theorem PySem.Challenge.cw_iw0003_01_holds : PySem.Challenge.rw_iw0003_01.Holds :=
  Mine.law_walk
