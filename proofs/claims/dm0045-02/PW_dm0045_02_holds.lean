import PyProof.Rows.All
import Wide.All
import OpenK.AllK
import Wide.FinOn
import PySem.Challenge.RW_dm0045_02
open PySem PySem.W PyProof.Rows
set_option Elab.async false
set_option maxRecDepth 100000
set_option maxHeartbeats 4000000

namespace Mine

/-- what an iterator over a text has still to give -/
def Rem (h : Heap) (i : Addr) (xs : List Nat) : Prop :=
  (∃ x t k, h.IsStrIter i "str_ascii_iterator" x t k ∧ x.cps.toList.drop k = xs) ∨
  (∃ o v, h.get? i = some o ∧ o.cls = .type "str_ascii_iterator" ∧ o.data = .fields #[.none, v] ∧ xs = [])

theorem Rem.at {h h' : Heap} {i : Addr} {xs : List Nat} (r : Rem h i xs) (e : ∀ o, h.get? i = some o → h'.get? i = some o) : Rem h' i xs := by
  rcases r with ⟨x, t, k, ⟨o, ho, r⟩, q⟩ | ⟨o, v, ho, r⟩
  · exact .inl ⟨x, t, k, ⟨o, e o ho, r⟩, q⟩
  · exact .inr ⟨o, v, e o ho, r⟩
theorem Rem.typeIs {s : Shared} {i : Addr} {xs : List Nat} (r : Rem s.heap i xs) : s.TypeIs (.ref i) "str_ascii_iterator" := by
  rcases r with ⟨x, t, k, ⟨o, ho, r, _⟩, q⟩ | ⟨o, v, ho, r, _⟩
  · exact ⟨o, ho, r⟩
  · exact ⟨o, ho, r⟩
theorem Rem.lt {h : Heap} {i : Addr} {xs : List Nat} (r : Rem h i xs) : i < h.objs.size := by
  rcases r with ⟨x, t, k, ⟨o, ho, r, _⟩, q⟩ | ⟨o, v, ho, r, _⟩
  · exact Heap.lt_size ho
  · exact Heap.lt_size ho

section
variable {prog : Program} {w : World} {A : Around} {E : Value → Shared → Prop} {s : Shared}

theorem next_item {i : Addr} {c : Nat} {xs : List Nat} {Q : Value → Shared → Prop} (r : Rem s.heap i (c :: xs))
    (hQ : ∀ h', Rem h' i xs → Heap.SameBut i s.heap h' → Q (.str ⟨#[c]⟩ s.toks) { s with heap := h', toks := s.toks + 1 }) :
    wpAny (model prog w) A (Builtin.«str_ascii_iterator.__next__» ⟨[.ref i], []⟩) (fun fin s' => ∃ v, fin = .done (.ret v) ∧ Q v s') E s := by
  rcases r with ⟨x, t, k, ⟨o, ho, hc, hd⟩, q⟩ | ⟨o, v, ho, hc, hd, q⟩
  · have hx : x.cps[k]? = some c := by
      have := congrArg (fun l => l[0]?) q
      simpa using this
    have hq : x.cps.toList.drop (k + 1) = xs := by
      have := congrArg (fun l => l.drop 1) q
      simpa [List.drop_drop, Nat.add_comm] using this
    show wpAny _ _ (field (.ref i) 0 >>= _) _ _ s
    refine wpAny_bind (wpAny_field ho hd (x := .str x t) rfl ?_)
    show wpAny _ _ (field (.ref i) 1 >>= _) _ _ s
    refine wpAny_bind (wpAny_field ho hd (x := .int k 0) rfl ?_)
    simp only [Int.toNat_natCast, hx]
    refine wpAny_bind (wpAny_setField ho hd (by simp) (wpAny_bind (wpAny_mkStr (wpAny_pure ⟨_, rfl, hQ _ ?_ (Heap.SameBut.update ..)⟩) (by show 1 ≤ sizeLine; decide))))
    exact .inl ⟨x, t, k + 1, ⟨_, Heap.get?_update_self _ ho (Obj.isFreed_of_fields (Obj.data_mapFields hd _)), (Obj.cls_mapFields ..).trans hc, by
      rw [Obj.data_mapFields hd]; simp [rawInt]⟩, hq⟩
  · cases q

theorem next_end {i : Addr} {Q : Fin → Shared → Prop} (hh : A.handled = none) (r : Rem s.heap i [])
    (hE : ∀ h' e, Rem h' i [] → Heap.ExtBut i s.heap h' → e ≠ i → (∃ o, h'.get? e = some o ∧ o.cls = .type "StopIteration") → E (.ref e) { s with heap := h' }) :
    wpAny (model prog w) A (Builtin.«str_ascii_iterator.__next__» ⟨[.ref i], []⟩) Q E s := by
  rcases r with ⟨x, t, k, ⟨o, ho, hc, hd⟩, q⟩ | ⟨o, v, ho, hc, hd, q⟩
  · have hx : x.cps[k]? = none := by
      have := congrArg List.length q
      simp at this
      simp; omega
    show wpAny _ _ (field (.ref i) 0 >>= _) _ _ s
    refine wpAny_bind (wpAny_field ho hd (x := .str x t) rfl ?_)
    show wpAny _ _ (field (.ref i) 1 >>= _) _ _ s
    refine wpAny_bind (wpAny_field ho hd (x := .int k 0) rfl ?_)
    simp only [Int.toNat_natCast, hx]
    refine wpAny_bind (wpAny_rule (wpAny_bind (wpAny_setField ho hd (by simp) (wpAny_bind (wpAny_letGo ?_)))))
    show wpAny _ _ (newExc (.type "StopIteration") [] >>= _) _ _ _
    refine wpAny_bind ?_
    simp only [newExc, newTuple]
    refine wpAny_bind (wpAny_newObj_type ?_ (by size_fits))
    refine wpAny_bind (m := firstArgMember _ _) (wpAny_of_eq (a := Value.none) (by first | rfl | (simp only [firstArgMember]; rfl)) ?_)
    refine wpAny_newObj_type ?_ (by size_fits)
    simp only [raiseNew]
    refine wpAny_bind (wpAny_handled ?_)
    rw [hh]
    have hlt := Heap.lt_size ho
    refine wpAny_bind (wpAny_pure (wpAny_throw (hE _ _ (.inr ?_) (((Heap.SameBut.update ..).extBut.push _).push _) ?_ ⟨_, Heap.get?_push_size _ rfl, rfl⟩)))
    · refine ⟨_, _, Heap.get?_push_of_some _ (Heap.get?_push_of_some _ (Heap.get?_update_self _ ho (Obj.isFreed_of_fields (Obj.data_mapFields hd _)))), (Obj.cls_mapFields ..).trans hc, by
        rw [Obj.data_mapFields hd]; simp; rfl, rfl⟩
    · rw [Heap.size_push, Heap.size_after_update]; exact Nat.ne_of_gt (Nat.lt_succ_of_lt hlt)
  · show wpAny _ _ (field (.ref i) 0 >>= _) _ _ s
    refine wpAny_bind (wpAny_field ho hd (x := .none) rfl ?_)
    simp only [beq_self_eq_true, if_true]
    refine wpAny_bind (wpAny_rule ?_)
    show wpAny _ _ ((newExc (.type "StopIteration") [] >>= _) >>= _) _ _ _
    refine wpAny_bind (wpAny_bind ?_)
    simp only [newExc, newTuple]
    refine wpAny_bind (wpAny_newObj_type ?_ (by size_fits))
    refine wpAny_bind (m := firstArgMember _ _) (wpAny_of_eq (a := Value.none) (by first | rfl | (simp only [firstArgMember]; rfl)) ?_)
    refine wpAny_newObj_type ?_ (by size_fits)
    simp only [raiseNew]
    refine wpAny_pure (wpAny_bind (wpAny_handled ?_))
    rw [hh]
    have hlt := Heap.lt_size ho
    refine wpAny_bind (wpAny_pure (wpAny_throw (hE _ _ (.inr ?_) (Heap.ExtBut.push (Heap.ExtBut.push (Heap.ExtBut.refl _ _) _) _) ?_ ⟨_, Heap.get?_push_size _ rfl, rfl⟩)))
    · exact ⟨_, _, Heap.get?_push_of_some _ (Heap.get?_push_of_some _ ho), hc, hd, rfl⟩
    · rw [Heap.size_push]; exact Nat.ne_of_gt (Nat.lt_succ_of_lt hlt)

theorem nextOf_item {i : Addr} {c : Nat} {xs : List Nat} {Q : Value → Shared → Prop} (r : Rem s.heap i (c :: xs))
    (hQ : ∀ h', Rem h' i xs → Heap.SameBut i s.heap h' → Q (.str ⟨#[c]⟩ s.toks) { s with heap := h', toks := s.toks + 1 }) :
    wpAny (model prog w) A (Builtin.SmallTypes.nextOf (.ref i)) Q E s := by
  unfold Builtin.SmallTypes.nextOf
  exact wpAny_bind (wpAny_callSpecial?_slot (name := Str.ofString "__next__") r.typeIs F.slot_str_ascii_iterator_next
    (wpAny_call_entry F.slot_str_ascii_iterator_next r.typeIs F.entry_str_ascii_iterator_next (next_item r fun h' r' hs => wpAny_pure (hQ h' r' hs)) (F.args_str_ascii_iterator_next_1 _)))

theorem nextOf_end {i : Addr} {Q : Value → Shared → Prop} (hh : A.handled = none) (r : Rem s.heap i [])
    (hE : ∀ h' e, Rem h' i [] → Heap.ExtBut i s.heap h' → e ≠ i → (∃ o, h'.get? e = some o ∧ o.cls = .type "StopIteration") → E (.ref e) { s with heap := h' }) :
    wpAny (model prog w) A (Builtin.SmallTypes.nextOf (.ref i)) Q E s := by
  unfold Builtin.SmallTypes.nextOf
  exact wpAny_bind (wpAny_callSpecial?_slot (name := Str.ofString "__next__") r.typeIs F.slot_str_ascii_iterator_next
    (wpAny_call_entry F.slot_str_ascii_iterator_next r.typeIs F.entry_str_ascii_iterator_next (next_end hh r hE) (F.args_str_ascii_iterator_next_1 _)))

theorem pyNext_item {i : Addr} {c : Nat} {xs : List Nat} {Q : Option Value → Shared → Prop} (r : Rem s.heap i (c :: xs))
    (hQ : ∀ h', Rem h' i xs → Heap.SameBut i s.heap h' → Q (some (.str ⟨#[c]⟩ s.toks)) { s with heap := h', toks := s.toks + 1 }) :
    wpAny (model prog w) A (pyNext (.ref i)) Q E s := by
  unfold pyNext
  exact wpAny_bind (wpAny_attempt (wpAny_callSpecial?_slot (name := Str.ofString "__next__") r.typeIs F.slot_str_ascii_iterator_next
    (wpAny_call_entry F.slot_str_ascii_iterator_next r.typeIs F.entry_str_ascii_iterator_next (next_item r fun h' r' hs => wpAny_pure (hQ h' r' hs)) (F.args_str_ascii_iterator_next_1 _))))

theorem pyNext_end {i : Addr} {Q : Option Value → Shared → Prop} (hh : A.handled = none) (r : Rem s.heap i [])
    (hQ : ∀ h', Rem h' i [] → Heap.ExtBut i s.heap h' → Q none { s with heap := h' }) :
    wpAny (model prog w) A (pyNext (.ref i)) Q E s := by
  unfold pyNext
  refine wpAny_bind (wpAny_attempt (wpAny_callSpecial?_slot (name := Str.ofString "__next__") r.typeIs F.slot_str_ascii_iterator_next
    (wpAny_call_entry F.slot_str_ascii_iterator_next r.typeIs F.entry_str_ascii_iterator_next (next_end hh r fun h' e r' hx _ he => ?_) (F.args_str_ascii_iterator_next_1 _))))
  obtain ⟨o, ho, hc⟩ := he
  refine wpAny_bind (wpAny_isInstance (T := "StopIteration") (b := true) ⟨o, ho, hc⟩ isSubtype_stop ?_)
  exact wpAny_pure (hQ _ r' hx)

theorem pyIter_rem {i : Addr} {xs : List Nat} {Q : Value → Shared → Prop} (r : Rem s.heap i xs) (h : Q (.ref i) s) :
    wpAny (model prog w) A (pyIter (.ref i)) Q E s := by
  refine wpAny_pyIter_slot r.typeIs F.slot_str_ascii_iterator_iter (wpAny_call_entry F.slot_str_ascii_iterator_iter r.typeIs F.entry_str_ascii_iterator_iter ?_ (F.args_str_ascii_iterator_iter_1 _))
  show wpAny _ _ (ret (.ref i)) _ _ s
  exact wpAny_pure ⟨_, rfl, "str_ascii_iterator", _, r.typeIs, F.slot_str_ascii_iterator_next.lookup, h⟩

theorem pyIter_text {x : Str} {t : Tok} {Q : Value → Shared → Prop} (ha : x.cps.all (· < 128) = true)
    (hQ : ∀ h' i, Rem h' i x.cps.toList → s.heap.objs.size = i → h'.objs.size = i + 1 → (∀ b o, s.heap.get? b = some o → h'.get? b = some o) → Q (.ref i) { s with heap := h' }) :
    wpAny (model prog w) A (pyIter (.str x t)) Q E s :=
  wpAny_pyIter_ascii ha (hQ _ _ (.inl ⟨x, t, 0, ⟨_, Heap.get?_push_size _ rfl, rfl, rfl⟩, rfl⟩) rfl (Heap.size_push ..) fun _ _ e => Heap.get?_push_of_some _ e)
end

end Mine

namespace Mine

def Only (i j : Addr) (h h' : Heap) : Prop := ∀ b o, b ≠ i → b ≠ j → h.get? b = some o → h'.get? b = some o
def Both (i j : Addr) (h h' : Heap) : Prop := ∀ b, b = i ∨ b = j → ∀ o, h.get? b = some o → h'.get? b = some o
def IsStop (h : Heap) (e : Addr) : Prop := ∃ o, h.get? e = some o ∧ o.cls = .type "StopIteration"

/-- two sources that are drawn by turns: n pairs, then an end -/
structure Feed (prog : Program) (w : World) (i j : Addr) (n : Nat) (xs ys : Nat → Nat) (J J' : Nat → Heap → Prop) (Fin : Heap → Prop) : Prop where
  frame : ∀ k h h', J k h → Both i j h h' → J k h'
  frame' : ∀ k h h', J' k h → Both i j h h' → J' k h'
  frameF : ∀ h h', Fin h → Both i j h h' → Fin h'
  lt : ∀ k h, J k h → i < h.objs.size ∧ j < h.objs.size
  one : ∀ k (A : Around) (s : Shared) (Q : Value → Shared → Prop) E, k < n → J k s.heap →
    (∀ h' t tk, J' k h' → Only i j s.heap h' → Q (.str ⟨#[xs k]⟩ t) { s with heap := h', toks := tk }) → wpAny (model prog w) A (Builtin.SmallTypes.nextOf (.ref i)) Q E s
  two : ∀ k (A : Around) (s : Shared) (Q : Value → Shared → Prop) E, k < n → J' k s.heap →
    (∀ h' t tk, J (k + 1) h' → Only i j s.heap h' → Q (.str ⟨#[ys k]⟩ t) { s with heap := h', toks := tk }) → wpAny (model prog w) A (Builtin.SmallTypes.nextOf (.ref j)) Q E s
  ends : (∀ (A : Around) (s : Shared) (Q : Value → Shared → Prop) (E : Value → Shared → Prop), A.handled = none → J n s.heap →
      (∀ h' e, Fin h' → Only i j s.heap h' → IsStop h' e → E (.ref e) { s with heap := h' }) → wpAny (model prog w) A (Builtin.SmallTypes.nextOf (.ref i)) Q E s) ∨
    ((∀ (A : Around) (s : Shared) (Q : Value → Shared → Prop) E, J n s.heap →
      (∀ v h' tk, J' n h' → Only i j s.heap h' → Q v { s with heap := h', toks := tk }) → wpAny (model prog w) A (Builtin.SmallTypes.nextOf (.ref i)) Q E s) ∧
     (∀ (A : Around) (s : Shared) (Q : Value → Shared → Prop) (E : Value → Shared → Prop), A.handled = none → J' n s.heap →
      (∀ h' e, Fin h' → Only i j s.heap h' → IsStop h' e → E (.ref e) { s with heap := h' }) → wpAny (model prog w) A (Builtin.SmallTypes.nextOf (.ref j)) Q E s))

structure Apart (z TI TO i j : Addr) : Prop where
  TIz : TI ≠ z
  TOz : TO ≠ z
  TITO : TI ≠ TO
  iz : i ≠ z
  jz : j ≠ z
  iTI : i ≠ TI
  jTI : j ≠ TI
  iTO : i ≠ TO
  jTO : j ≠ TO

section
variable {prog : Program} {w : World} {A : Around} {E : Value → Shared → Prop} {s : Shared} {i j : Addr} {n : Nat} {xs ys : Nat → Nat} {J J' : Nat → Heap → Prop} {Fn : Heap → Prop} {z TI TO : Addr}

theorem zip_item {k : Nat} {a b : Value} {Q : Value → Shared → Prop} (W : Feed prog w i j n xs ys J J' Fn) (D : Apart z TI TO i j) (hk : k < n)
    (hz : IsZip s.heap z TI TO .none) (hTI : IsPair s.heap TI (.ref i) (.ref j)) (hTO : IsPair s.heap TO a b) (hJ : J k s.heap)
    (hQ : ∀ h' (T : Addr) t u tk, IsZip h' z TI TO (rawInt T) → IsPair h' TI (.ref i) (.ref j) → IsPair h' TO (.str ⟨#[xs k]⟩ t) (.str ⟨#[ys k]⟩ u) → J (k + 1) h' → IsPair h' T (.str ⟨#[xs k]⟩ t) (.str ⟨#[ys k]⟩ u) →
      T ≠ z → T ≠ TO → T ≠ i → T ≠ j → (∀ c o, c ≠ z → c ≠ TO → c ≠ i → c ≠ j → s.heap.get? c = some o → h'.get? c = some o) → Q (.ref T) { s with heap := h', toks := tk }) :
    wpAny (model prog w) A (Builtin.«zip.__next__» ⟨[.ref z], []⟩) (fun fin s' => ∃ v, fin = .done (.ret v) ∧ Q v s') E s := by
  show wpAny _ _ (field (.ref z) 2 >>= _) _ _ _
  refine wpAny_bind (wpAny_field hz rfl (x := .bool false) rfl ?_)
  show wpAny _ _ (field (.ref z) 3 >>= _) _ _ _
  refine wpAny_bind (wpAny_field hz rfl (x := .ref TI) rfl ?_)
  refine wpAny_bind (wpAny_seqItems hTI rfl ?_)
  show wpAny _ _ (Builtin.SmallTypes.ownedTupleIsFree (.ref z) >>= _) _ _ _
  refine wpAny_bind ?_
  unfold Builtin.SmallTypes.ownedTupleIsFree
  refine wpAny_bind (wpAny_field hz rfl (x := .none) rfl (wpAny_pure ?_))
  simp only [if_true]
  refine wpAny_bind (wpAny_rule ?_)
  refine wpAny_bind (wpAny_field hz rfl (x := .ref TO) rfl ?_)
  refine wpAny_bind (wpAny_setField_rec hz (by simp) fun h₁ hz₁ hs₁ => ?_)
  replace hz₁ : IsZip h₁ z TI TO .ellipsis := hz₁
  have hJ₁ : J k h₁ := W.frame _ _ _ hJ fun b hb o e => hs₁.extBut b o (by rcases hb with rfl | rfl; exact D.iz; exact D.jz) e
  have hTI₁ := hs₁.extBut _ _ D.TIz hTI
  have hTO₁ := hs₁.extBut _ _ D.TOz hTO
  refine wpAny_bind ?_
  simp only [List.zipIdx_cons, List.zipIdx_nil, List.forIn_cons, List.forIn_nil]
  refine wpAny_bind (wpAny_bind (wpAny_onRaise ?_))
  show wpAny _ _ (Builtin.SmallTypes.nextOf (.ref i) >>= _) _ _ _
  refine wpAny_bind (W.one k _ _ _ _ hk hJ₁ fun h₂ t₂ tk₂ hJ₂ hs₂ => wpAny_pure ?_)
  have hz₂ := hs₂ _ _ D.iz.symm D.jz.symm hz₁
  have hTI₂ := hs₂ _ _ D.iTI.symm D.jTI.symm hTI₁
  have hTO₂ : IsPair h₂ TO a b := hs₂ _ _ D.iTO.symm D.jTO.symm hTO₁
  refine wpAny_bind (wpAny_seqItems hTO₂ rfl ?_)
  refine wpAny_bind (wpAny_updateSeq_pair hTO₂ fun h₃ hTO₃ hs₃ => ?_)
  replace hTO₃ : IsPair h₃ TO (.str ⟨#[xs k]⟩ t₂) b := hTO₃
  have hz₃ := hs₃.extBut _ _ D.TOz.symm hz₂
  have hTI₃ := hs₃.extBut _ _ D.TITO hTI₂
  have hJ₃ : J' k h₃ := W.frame' _ _ _ hJ₂ fun b hb o e => hs₃.extBut b o (by rcases hb with rfl | rfl; exact D.iTO; exact D.jTO) e
  refine wpAny_bind (wpAny_letGo (wpAny_pure ?_))
  refine wpAny_bind (wpAny_bind (wpAny_onRaise ?_))
  show wpAny _ _ (Builtin.SmallTypes.nextOf (.ref j) >>= _) _ _ _
  refine wpAny_bind (W.two k _ _ _ _ hk hJ₃ fun h₄ t₄ tk₄ hJ₄ hs₄ => wpAny_pure ?_)
  have hz₄ := hs₄ _ _ D.iz.symm D.jz.symm hz₃
  have hTI₄ := hs₄ _ _ D.iTI.symm D.jTI.symm hTI₃
  have hTO₄ := hs₄ _ _ D.iTO.symm D.jTO.symm hTO₃
  refine wpAny_bind (wpAny_seqItems hTO₄ rfl ?_)
  refine wpAny_bind (wpAny_updateSeq_pair hTO₄ fun h₅ hTO₅ hs₅ => ?_)
  replace hTO₅ : IsPair h₅ TO (.str ⟨#[xs k]⟩ t₂) (.str ⟨#[ys k]⟩ t₄) := hTO₅
  have hz₅ := hs₅.extBut _ _ D.TOz.symm hz₄
  have hTI₅ := hs₅.extBut _ _ D.TITO hTI₄
  have hJ₅ : J (k + 1) h₅ := W.frame _ _ _ hJ₄ fun b hb o e => hs₅.extBut b o (by rcases hb with rfl | rfl; exact D.iTO; exact D.jTO) e
  refine wpAny_bind (wpAny_letGo (wpAny_pure (wpAny_pure ?_)))
  refine wpAny_bind (wpAny_seqItems hTO₅ rfl ?_)
  refine wpAny_bind (wpAny_newTuple ?_)
  have hk₅ : ∀ c o, c ≠ z → c ≠ TO → c ≠ i → c ≠ j → s.heap.get? c = some o → h₅.get? c = some o := fun c o c1 c2 c3 c4 e =>
    hs₅.extBut _ _ c2 (hs₄ _ _ c3 c4 (hs₃.extBut _ _ c2 (hs₂ _ _ c3 c4 (hs₁.extBut _ _ c1 e))))
  have hzlt : z < h₅.objs.size := Heap.lt_size hz₅
  have hTOlt : TO < h₅.objs.size := Heap.lt_size hTO₅
  obtain ⟨hilt, hjlt⟩ := W.lt _ _ hJ₅
  show wpAny _ _ (Builtin.SmallTypes.ownedTupleHandOut (.ref z) (.ref h₅.objs.size) >>= _) _ _ _
  refine wpAny_bind ?_
  unfold Builtin.SmallTypes.ownedTupleHandOut
  have hz₆ : IsZip (h₅.push { cls := .type "tuple", data := .seq #[.str ⟨#[xs k]⟩ t₂, .str ⟨#[ys k]⟩ t₄] }) z TI TO .ellipsis := Heap.get?_push_of_some _ hz₅
  refine wpAny_bind (wpAny_setField_rec hz₆ (by simp) fun h₇ hz₇ hs₇ => ?_)
  replace hz₇ : IsZip h₇ z TI TO (rawInt h₅.objs.size) := hz₇
  refine wpAny_setField_rec hz₇ (by simp) fun h₈ hz₈ hs₈ => ?_
  replace hz₈ : IsZip h₈ z TI TO (rawInt h₅.objs.size) := hz₈
  have up : ∀ c o, c ≠ z → h₅.get? c = some o → h₈.get? c = some o := fun c o c1 e => hs₈.extBut _ _ c1 (hs₇.extBut _ _ c1 (Heap.get?_push_of_some _ e))
  have hT₈ : IsPair h₈ h₅.objs.size (.str ⟨#[xs k]⟩ t₂) (.str ⟨#[ys k]⟩ t₄) := hs₈.extBut _ _ (Nat.ne_of_gt hzlt) (hs₇.extBut _ _ (Nat.ne_of_gt hzlt) (Heap.get?_push_size _ rfl))
  refine wpAny_pure ⟨_, rfl, ?_⟩
  exact hQ h₈ h₅.objs.size t₂ t₄ tk₄ hz₈ (up _ _ D.TIz hTI₅) (up _ _ D.TOz hTO₅) (W.frame _ _ _ hJ₅ fun b hb o e => up b o (by rcases hb with rfl | rfl; exact D.iz; exact D.jz) e) hT₈
    (Nat.ne_of_gt hzlt) (Nat.ne_of_gt hTOlt) (Nat.ne_of_gt hilt) (Nat.ne_of_gt hjlt) fun c o c1 c2 c3 c4 e => up c o c1 (hk₅ c o c1 c2 c3 c4 e)

theorem zip_end {a b : Value} {Q : PySem.Fin → Shared → Prop} (hh : A.handled = none) (W : Feed prog w i j n xs ys J J' Fn) (D : Apart z TI TO i j)
    (hz : IsZip s.heap z TI TO .none) (hTI : IsPair s.heap TI (.ref i) (.ref j)) (hTO : IsPair s.heap TO a b) (hJ : J n s.heap)
    (hE : ∀ h' e tk, Fn h' → (∀ c o, c ≠ z → c ≠ TO → c ≠ i → c ≠ j → s.heap.get? c = some o → h'.get? c = some o) → IsStop h' e → E (.ref e) { s with heap := h', toks := tk }) :
    wpAny (model prog w) A (Builtin.«zip.__next__» ⟨[.ref z], []⟩) Q E s := by
  show wpAny _ _ (field (.ref z) 2 >>= _) _ _ _
  refine wpAny_bind (wpAny_field hz rfl (x := .bool false) rfl ?_)
  show wpAny _ _ (field (.ref z) 3 >>= _) _ _ _
  refine wpAny_bind (wpAny_field hz rfl (x := .ref TI) rfl ?_)
  refine wpAny_bind (wpAny_seqItems hTI rfl ?_)
  show wpAny _ _ (Builtin.SmallTypes.ownedTupleIsFree (.ref z) >>= _) _ _ _
  refine wpAny_bind ?_
  unfold Builtin.SmallTypes.ownedTupleIsFree
  refine wpAny_bind (wpAny_field hz rfl (x := .none) rfl (wpAny_pure ?_))
  simp only [if_true]
  refine wpAny_bind (wpAny_rule ?_)
  refine wpAny_bind (wpAny_field hz rfl (x := .ref TO) rfl ?_)
  refine wpAny_bind (wpAny_setField_rec hz (by simp) fun h₁ hz₁ hs₁ => ?_)
  replace hz₁ : IsZip h₁ z TI TO .ellipsis := hz₁
  have hJ₁ : J n h₁ := W.frame _ _ _ hJ fun b hb o e => hs₁.extBut b o (by rcases hb with rfl | rfl; exact D.iz; exact D.jz) e
  have hTO₁ := hs₁.extBut _ _ D.TOz hTO
  refine wpAny_bind ?_
  simp only [List.zipIdx_cons, List.zipIdx_nil, List.forIn_cons, List.forIn_nil]
  refine wpAny_bind (wpAny_bind (wpAny_onRaise ?_))
  show wpAny _ _ (Builtin.SmallTypes.nextOf (.ref i) >>= _) _ _ _
  rcases W.ends with e1 | ⟨g1, e2⟩
  · refine wpAny_bind (e1 _ _ _ _ hh hJ₁ fun h₂ e hF hs₂ he => ?_)
    obtain ⟨oe, hoe, hce⟩ := he
    have hz₂ := hs₂ _ _ D.iz.symm D.jz.symm hz₁
    have hez : e ≠ z := fun x => by subst x; rw [hz₂] at hoe; cases hoe; simp at hce
    refine wpAny_setField_rec hz₂ (by simp) fun h₃ _ hs₃ => hE h₃ e _ (W.frameF _ _ hF fun b hb o e => hs₃.extBut b o (by rcases hb with rfl | rfl; exact D.iz; exact D.jz) e)
      (fun c o c1 _ c3 c4 x => hs₃.extBut _ _ c1 (hs₂ _ _ c3 c4 (hs₁.extBut _ _ c1 x))) ⟨oe, hs₃.extBut _ _ hez hoe, hce⟩
  · refine wpAny_bind (g1 _ _ _ _ hJ₁ fun v h₂ tk₂ hJ₂ hs₂ => wpAny_pure ?_)
    have hz₂ := hs₂ _ _ D.iz.symm D.jz.symm hz₁
    have hTO₂ : IsPair h₂ TO a b := hs₂ _ _ D.iTO.symm D.jTO.symm hTO₁
    refine wpAny_bind (wpAny_seqItems hTO₂ rfl ?_)
    refine wpAny_bind (wpAny_updateSeq_pair hTO₂ fun h₃ hTO₃ hs₃ => ?_)
    have hz₃ := hs₃.extBut _ _ D.TOz.symm hz₂
    have hJ₃ : J' n h₃ := W.frame' _ _ _ hJ₂ fun b hb o e => hs₃.extBut b o (by rcases hb with rfl | rfl; exact D.iTO; exact D.jTO) e
    refine wpAny_bind (wpAny_letGo (wpAny_pure ?_))
    refine wpAny_bind (wpAny_bind (wpAny_onRaise ?_))
    show wpAny _ _ (Builtin.SmallTypes.nextOf (.ref j) >>= _) _ _ _
    refine wpAny_bind (e2 _ _ _ _ hh hJ₃ fun h₄ e hF hs₄ he => ?_)
    obtain ⟨oe, hoe, hce⟩ := he
    have hz₄ := hs₄ _ _ D.iz.symm D.jz.symm hz₃
    have hez : e ≠ z := fun x => by subst x; rw [hz₄] at hoe; cases hoe; simp at hce
    refine wpAny_setField_rec hz₄ (by simp) fun h₅ _ hs₅ => hE h₅ e _ (W.frameF _ _ hF fun b hb o e => hs₅.extBut b o (by rcases hb with rfl | rfl; exact D.iz; exact D.jz) e)
      (fun c o c1 c2 c3 c4 x => hs₅.extBut _ _ c1 (hs₄ _ _ c3 c4 (hs₃.extBut _ _ c2 (hs₂ _ _ c3 c4 (hs₁.extBut _ _ c1 x))))) ⟨oe, hs₅.extBut _ _ hez hoe, hce⟩
end

/-- as the library's WalksU, and the end tells its state -/
structure WalksF (prog : Program) (w : World) (A : Around) (I : Addr) (fp wr : List Addr) (n : Nat) (Pt : Nat → Array Value → Prop) (St : Nat → Heap → Prop) (Mid : Nat → Addr → Heap → Prop) (Fin : Heap → Prop) : Prop where
  sub : ∀ b ∈ wr, b ∈ fp
  frame : ∀ i h h', St i h → (∀ b ∈ fp, ∀ o, h.get? b = some o → h'.get? b = some o) → St i h'
  frameF : ∀ h h', Fin h → (∀ b ∈ fp, ∀ o, h.get? b = some o → h'.get? b = some o) → Fin h'
  item : ∀ i (s : Shared) (Q : Option Value → Shared → Prop) (E : Value → Shared → Prop), i < n → St i s.heap →
    (∀ T vals h' tk, Pt i vals → h'.IsTuple T vals → Mid i T h' → (∀ b o, b ∉ wr → s.heap.get? b = some o → h'.get? b = some o) → Q (some (.ref T)) { s with heap := h', toks := tk }) →
    wpAny (model prog w) A (pyNext (.ref I)) Q E s
  go : ∀ (elts : List Expr) (k : Nat) (pos : Pos) i T (s : Shared) (Q : Unit → Shared → Prop) (E : Value → Shared → Prop), Mid i T s.heap →
    (∀ h', St (i + 1) h' → (∀ b o, b ∉ wr → s.heap.get? b = some o → h'.get? b = some o) → Q () { s with heap := h' }) →
    wpAny (model prog w) A (letOwnedTupleGo (.Tuple elts k pos) (.ref I) (.ref T)) Q E s
  apart : ∀ i T h, Mid i T h → T ∉ wr
  done : ∀ (s : Shared) (Q : Option Value → Shared → Prop) (E : Value → Shared → Prop), St n s.heap →
    (∀ h' tk, Fin h' → (∀ b o, b ∉ wr → s.heap.get? b = some o → h'.get? b = some o) → Q none { s with heap := h', toks := tk }) → wpAny (model prog w) A (pyNext (.ref I)) Q E s
  self : ∀ i (s : Shared) (Q : Value → Shared → Prop) (E : Value → Shared → Prop), St i s.heap → Q (.ref I) s → wpAny (model prog w) A (pyIter (.ref I)) Q E s

theorem WalksF.mono_fp {prog : Program} {w : World} {A : Around} {I : Addr} {fp fp' wr : List Addr} {n : Nat} {Pt St Mid Fin} (W : WalksF prog w A I fp wr n Pt St Mid Fin)
    (h : ∀ b ∈ fp, b ∈ fp') : WalksF prog w A I fp' wr n Pt St Mid Fin where
  sub := fun b hb => h b (W.sub b hb)
  frame := fun i h₁ h₂ st hk => W.frame i h₁ h₂ st fun b hb o e => hk b (h b hb) o e
  frameF := fun h₁ h₂ st hk => W.frameF h₁ h₂ st fun b hb o e => hk b (h b hb) o e
  item := W.item
  go := W.go
  apart := W.apart
  done := W.done
  self := W.self

def PtOf (xs ys : Nat → Nat) (i : Nat) (vals : Array Value) : Prop := ∃ t u, vals = #[.str ⟨#[xs i]⟩ t, .str ⟨#[ys i]⟩ u]
def ZSt (z TI TO i j : Addr) (J : Nat → Heap → Prop) (k : Nat) (h : Heap) : Prop :=
  IsZip h z TI TO .none ∧ IsPair h TI (.ref i) (.ref j) ∧ (∃ a b, IsPair h TO a b) ∧ J k h
def ZMid (z TI TO i j : Addr) (J : Nat → Heap → Prop) (k : Nat) (T : Addr) (h : Heap) : Prop :=
  IsZip h z TI TO (rawInt T) ∧ IsPair h TI (.ref i) (.ref j) ∧ (∃ a b, IsPair h TO a b) ∧ J (k + 1) h ∧ T ≠ z ∧ T ≠ TO ∧ T ≠ i ∧ T ≠ j

theorem WalksF.zip {prog : Program} {w : World} {A : Around} {i j z TI TO : Addr} {n : Nat} {xs ys : Nat → Nat} {J J' : Nat → Heap → Prop} {Fin : Heap → Prop} (hh : A.handled = none)
    (W : Feed prog w i j n xs ys J J' Fin) (D : Apart z TI TO i j) :
    WalksF prog w A z [z, TI, TO, i, j] [z, TO, i, j] n (PtOf xs ys) (ZSt z TI TO i j J) (ZMid z TI TO i j J) Fin where
  sub := fun c hc => by simp at hc ⊢; rcases hc with rfl | rfl | rfl | rfl <;> simp
  frame := fun k h h' hst hk => by
    obtain ⟨hz, hTI, ⟨a, b, hTO⟩, hJ⟩ := hst
    exact ⟨hk z (by simp) _ hz, hk TI (by simp) _ hTI, ⟨a, b, hk TO (by simp) _ hTO⟩, W.frame _ _ _ hJ fun b hb o e => hk b (by rcases hb with rfl | rfl <;> simp) o e⟩
  frameF := fun h h' hF hk => W.frameF _ _ hF fun b hb o e => hk b (by rcases hb with rfl | rfl <;> simp) o e
  item := fun k s Q E hi hst hQ => by
    obtain ⟨hz, hTI, ⟨a, b, hTO⟩, hJ⟩ := hst
    have hT : s.TypeIs (.ref z) "zip" := ⟨_, hz, rfl⟩
    unfold pyNext
    exact wpAny_bind (wpAny_attempt (wpAny_callSpecial?_slot (name := Str.ofString "__next__") hT F.slot_zip_next
      (wpAny_call_entry F.slot_zip_next hT F.entry_zip_next
        (zip_item W D hi hz hTI hTO hJ fun h' T t u tk a1 a2 a3 a4 a5 a6 a7 a8 a9 hk => wpAny_pure (hQ T _ h' tk ⟨t, u, rfl⟩ ⟨_, a5, rfl, _, rfl⟩ ⟨a1, a2, ⟨_, _, a3⟩, a4, a6, a7, a8, a9⟩
          fun c o hc e => hk c o (fun x => hc (by simp [x])) (fun x => hc (by simp [x])) (fun x => hc (by simp [x])) (fun x => hc (by simp [x])) e)) (F.args_zip_next_1 _))))
  go := fun elts k pos m T s Q E hm hQ => by
    obtain ⟨hz, hTI, ⟨a, b, hTO⟩, hJ, _⟩ := hm
    refine wpAny_letOwnedTupleGo_zip hz fun h' hz' hs' => hQ h' ⟨hz', hs'.extBut _ _ D.TIz hTI, ⟨a, b, hs'.extBut _ _ D.TOz hTO⟩,
      W.frame _ _ _ hJ fun b hb o e => hs'.extBut b o (by rcases hb with rfl | rfl; exact D.iz; exact D.jz) e⟩ fun c o hc e => hs'.extBut _ _ (fun x => hc (by simp [x])) e
  apart := fun k T h hm hT => by
    obtain ⟨_, _, _, _, t1, t2, t3, t4⟩ := hm
    simp at hT
    rcases hT with rfl | rfl | rfl | rfl
    · exact t1 rfl
    · exact t2 rfl
    · exact t3 rfl
    · exact t4 rfl
  done := fun s Q E hst hQ => by
    obtain ⟨hz, hTI, ⟨a, b, hTO⟩, hJ⟩ := hst
    have hT : s.TypeIs (.ref z) "zip" := ⟨_, hz, rfl⟩
    unfold pyNext
    refine wpAny_bind (wpAny_attempt (wpAny_callSpecial?_slot (name := Str.ofString "__next__") hT F.slot_zip_next
      (wpAny_call_entry F.slot_zip_next hT F.entry_zip_next (zip_end hh W D hz hTI hTO hJ fun h' e tk hF hk he => ?_) (F.args_zip_next_1 _))))
    obtain ⟨o, ho, hc⟩ := he
    refine wpAny_bind (wpAny_isInstance (T := "StopIteration") (b := true) ⟨o, ho, hc⟩ isSubtype_stop ?_)
    exact wpAny_pure (hQ _ _ hF fun c o hc e => hk c o (fun x => hc (by simp [x])) (fun x => hc (by simp [x])) (fun x => hc (by simp [x])) (fun x => hc (by simp [x])) e)
  self := fun k s Q E hst hQ => wpAny_pyIter_zip hst.1 hQ

end Mine

namespace Mine

theorem drop_cons {α : Type} {l : List α} {k : Nat} {d : α} (h : k < l.length) : l.drop k = l.getD k d :: l.drop (k + 1) := by
  rw [List.drop_eq_getElem_cons h, List.getD_eq_getElem?_getD, List.getElem?_eq_getElem h]; rfl

theorem Feed.apart {prog : Program} {w : World} {i j : Addr} (xs ys : List Nat) (hij : i ≠ j) :
    Feed prog w i j (min xs.length ys.length) (fun k => xs.getD k 0) (fun k => ys.getD k 0)
      (fun k h => Rem h i (xs.drop k) ∧ Rem h j (ys.drop k)) (fun k h => Rem h i (xs.drop (k + 1)) ∧ Rem h j (ys.drop k))
      (fun h => Rem h i (xs.drop (ys.length + 1)) ∧ Rem h j (ys.drop xs.length)) where
  frame := fun k h h' r hb => ⟨r.1.at (hb i (.inl rfl)), r.2.at (hb j (.inr rfl))⟩
  frame' := fun k h h' r hb => ⟨r.1.at (hb i (.inl rfl)), r.2.at (hb j (.inr rfl))⟩
  frameF := fun h h' r hb => ⟨r.1.at (hb i (.inl rfl)), r.2.at (hb j (.inr rfl))⟩
  lt := fun k h r => ⟨r.1.lt, r.2.lt⟩
  one := fun k A s Q E hk r hQ => by
    have hx : k < xs.length := by omega
    rw [drop_cons (d := 0) hx] at r
    exact nextOf_item r.1 fun h' r' hs => hQ h' _ _ ⟨r', r.2.at fun o e => hs.extBut _ _ hij.symm e⟩ fun b o b1 _ e => hs.extBut b o b1 e
  two := fun k A s Q E hk r hQ => by
    have hy : k < ys.length := by omega
    rw [drop_cons (l := ys) (d := 0) hy] at r
    exact nextOf_item r.2 fun h' r' hs => hQ h' _ _ ⟨r.1.at fun o e => hs.extBut _ _ hij e, r'⟩ fun b o _ b2 e => hs.extBut b o b2 e
  ends := by
    rcases Nat.lt_or_ge ys.length xs.length with h | h
    · right
      have hm : min xs.length ys.length = ys.length := by omega
      rw [hm]
      refine ⟨fun A s Q E r hQ => ?_, fun A s Q E hh r hE => ?_⟩
      · rw [drop_cons (l := xs) (d := 0) h] at r
        exact nextOf_item r.1 fun h' r' hs => hQ _ h' _ ⟨r', r.2.at fun o e => hs.extBut _ _ hij.symm e⟩ fun b o b1 _ e => hs.extBut b o b1 e
      · have e1 : ys.drop ys.length = [] := by simp
        have e2 : ys.drop xs.length = [] := List.drop_of_length_le (by omega)
        rw [e1] at r
        exact nextOf_end hh r.2 fun h' e r' hx _ he => hE h' e ⟨r.1.at fun o e => hx _ _ hij e, e2 ▸ r'⟩ (fun b o _ b2 e => hx b o b2 e) he
    · left
      have hm : min xs.length ys.length = xs.length := by omega
      rw [hm]
      intro A s Q E hh r hE
      have e1 : xs.drop xs.length = [] := by simp
      have e2 : xs.drop (ys.length + 1) = [] := List.drop_of_length_le (by omega)
      rw [e1] at r
      exact nextOf_end hh r.1 fun h' e r' hx _ he => hE h' e ⟨e2 ▸ r', r.2.at fun o e => hx _ _ hij.symm e⟩ (fun b o b1 _ e => hx b o b1 e) he

theorem Feed.same {prog : Program} {w : World} {i : Addr} (zs : List Nat) :
    Feed prog w i i (zs.length / 2) (fun k => zs.getD (2 * k) 0) (fun k => zs.getD (2 * k + 1) 0)
      (fun k h => Rem h i (zs.drop (2 * k))) (fun k h => Rem h i (zs.drop (2 * k + 1))) (fun h => Rem h i []) where
  frame := fun k h h' r hb => r.at (hb i (.inl rfl))
  frame' := fun k h h' r hb => r.at (hb i (.inl rfl))
  frameF := fun h h' r hb => r.at (hb i (.inl rfl))
  lt := fun k h r => ⟨r.lt, r.lt⟩
  one := fun k A s Q E hk r hQ => by
    have hx : 2 * k < zs.length := by omega
    rw [drop_cons (d := 0) hx] at r
    exact nextOf_item r fun h' r' hs => hQ h' _ _ r' fun b o b1 _ e => hs.extBut b o b1 e
  two := fun k A s Q E hk r hQ => by
    have hx : 2 * k + 1 < zs.length := by omega
    rw [drop_cons (d := 0) hx] at r
    exact nextOf_item r fun h' r' hs => hQ h' _ _ r' fun b o b1 _ e => hs.extBut b o b1 e
  ends := by
    rcases Nat.lt_or_ge (2 * (zs.length / 2)) zs.length with h | h
    · right
      refine ⟨fun A s Q E r hQ => ?_, fun A s Q E hh r hE => ?_⟩
      · rw [drop_cons (d := 0) h] at r
        exact nextOf_item r fun h' r' hs => hQ _ h' _ r' fun b o b1 _ e => hs.extBut b o b1 e
      · rw [List.drop_of_length_le (by omega)] at r
        exact nextOf_end hh r fun h' e r' hx _ he => hE h' e r' (fun b o b1 _ e => hx b o b1 e) he
    · left
      intro A s Q E hh r hE
      rw [List.drop_of_length_le h] at r
      exact nextOf_end hh r fun h' e r' hx _ he => hE h' e r' (fun b o b1 _ e => hx b o b1 e) he

end Mine

namespace Mine

def protoF (C : Addr) (fp wr : List Addr) (n : Nat) (F : Nat → Value → Prop) : Protocol := fun m s₀ v s kap =>
  F (n - 1 - m) v ∧ GenSince C wr s₀ s ∧ ∀ s'' : Shared, (∀ b ∈ C :: fp, ∀ o, s.heap.get? b = some o → s''.heap.get? b = some o) → kap (.send .none) s''
def stopF (C : Addr) (wr : List Addr) (Fn : Heap → Prop) (n : Nat) (s₀ s₁ : Shared) : Prop := n = 0 ∧ GenSince C wr s₀ s₁ ∧ Fn s₁.heap
abbrev endF (C : Addr) (wr : List Addr) (Fn : Heap → Prop) : GenEnd := fun n s₀ r s₁ => r = .ok .next ∧ stopF C wr Fn n s₀ s₁

/-- the element's value, whatever stands around -/
def Elt (prog : Program) (w : World) (cenv : Env) (xa xb : Str) (elt : Expr) (Pt : Nat → Array Value → Prop) (F : Nat → Value → Prop) : Prop :=
  ∀ (A : Around) (E : Value → Shared → Prop) i va vb (s : Shared) m, Pt i #[va, vb] → s.heap.Ns cenv.locals m → m xa = some va → m xb = some vb →
    wpAny (model prog w) A (eval elt cenv) (fun y s' => F i y ∧ Keeps s s') E s

section
variable {prog : Program} {w : World} {A : Around} {elt iter : Expr} {xa xb : Str} {pa pb pt : Pos} {kt : Nat} {scope : Scope} {pos : Pos} {I : Addr} {fp wr : List Addr} {n₀ : Nat}
  {Pt : Nat → Array Value → Prop} {St₀ : Nat → Heap → Prop} {Mid : Nat → Addr → Heap → Prop} {Fn : Heap → Prop} {cenv : Env} {F : Nat → Value → Prop}

theorem segF_loop (hh : A.handled = none) (W₀ : ∀ A' : Around, A'.handled = none → WalksF prog w A' I fp wr n₀ Pt St₀ Mid Fn) (hsz : ∀ i vals, Pt i vals → ∃ va vb, vals = #[va, vb]) (hab : xa ≠ xb)
    (hxa : cenv.kindOf xa = some .local) (hxb : cenv.kindOf xb = some .local) (hp : (cenv.scope.kind == .class || (cenv.scope.kind == .module && cenv.locals != cenv.globals)) = false)
    (hco : cenv.scope.isCoroutine = false) (hCf : cenv.locals ∉ fp) (hq : Elt prog w cenv xa xb elt Pt F) :
    ∀ (k i : Nat) (s₀ s : Shared) (m : Str → Option Value), n₀ - i = k → i ≤ n₀ → St₀ i s.heap → s.heap.Ns cenv.locals m → GenSince cenv.locals wr s₀ s →
      Seg (model prog w) A (endF cenv.locals wr Fn) (protoF cenv.locals fp wr n₀ F) (n₀ - i) s₀
        (.compLoop (.GeneratorExp elt [⟨.Tuple [.Name xa pa, .Name xb pb] kt pt, iter, [], 0⟩] scope pos) 0 (.ref I) .none cenv)
        ((model prog w).den (.compLoop (.GeneratorExp elt [⟨.Tuple [.Name xa pa, .Name xb pb] kt pt, iter, [], 0⟩] scope pos) 0 (.ref I) .none cenv)) [] s := by
  have hh' : (A.over (.compLoop (.GeneratorExp elt [⟨.Tuple [.Name xa pa, .Name xb pb] kt pt, iter, [], 0⟩] scope pos) 0 (.ref I) .none cenv) []).handled = none := hh
  have hCw : cenv.locals ∉ wr := fun h => hCf ((W₀ A hh).sub _ h)
  intro k
  induction k with
  | zero =>
    intro i s₀ s m hk hi hst hn hsince
    have hin : i = n₀ := by omega
    subst hin
    show Seg _ A _ _ _ s₀ _ ((compTurn (.GeneratorExp elt [⟨.Tuple [.Name xa pa, .Name xb pb] kt pt, iter, [], 0⟩] scope pos) 0 (.ref I) .none cenv).onRaise (leaving cenv)) [] s
    rw [compTurn_gen, Sem.onRaise_eq_wrap]
    refine seg_bind_wrap (wpAny_standAt ?_)
    refine seg_bind_wrap ((W₀ _ hh').done s _ _ hst fun h' tk hF hk' => ?_)
    exact seg_end (.ok .next) ⟨rfl, Nat.sub_self _, hsince.step fun b o _ hw e => hk' b o hw e, hF⟩
  | succ k ih =>
    intro i s₀ s m hk hi hst hn hsince
    have hlt : i < n₀ := by omega
    show Seg _ A _ _ _ s₀ _ ((compTurn (.GeneratorExp elt [⟨.Tuple [.Name xa pa, .Name xb pb] kt pt, iter, [], 0⟩] scope pos) 0 (.ref I) .none cenv).onRaise (leaving cenv)) [] s
    rw [compTurn_gen, Sem.onRaise_eq_wrap]
    refine seg_bind_wrap (wpAny_standAt ?_)
    refine seg_bind_wrap ((W₀ _ hh').item i s _ _ hlt hst fun T vals h₁ tk₁ hPv hT₁ hmid hk₁ => ?_)
    obtain ⟨va, vb, rfl⟩ := hsz i vals hPv
    refine seg_bind_wrap ((W₀ _ hh').go _ _ _ i T _ _ _ hmid fun h₁' hst₁ hk₁' => ?_)
    have hT₁' : h₁'.IsTuple T #[va, vb] := let ⟨o, e, r⟩ := hT₁; ⟨o, hk₁' _ o ((W₀ _ hh').apart i T _ hmid) e, r⟩
    refine seg_bind_wrap (wpAny_assign_Tuple hh' hT₁' rfl rfl fun h₁'' hx₁ => ?_)
    replace hx₁ : Heap.ExtBut h₁'.objs.size h₁' h₁'' := hx₁
    have old₁ : ∀ b o, h₁'.get? b = some o → h₁''.get? b = some o := fun b o e => hx₁ b o (Nat.ne_of_lt (Heap.lt_size e)) e
    show wpAny _ _ (do holding [vb] (assign (.Name xa pa) cenv va); do holding [] (assign (.Name xb pb) cenv vb); pure ()) _ _ _
    refine wpAny_bind (wpAny_holding (wpAny_assign_Name (wpAny_storeName_local hxa (hn.at' fun o e => old₁ _ o (hk₁' _ o hCw (hk₁ _ o hCw e))) (fun h₂a hn₂a hs₂a => ?_) hp)))
    replace hs₂a : Heap.SameBut cenv.locals h₁'' h₂a := hs₂a
    refine wpAny_bind (wpAny_holding (wpAny_assign_Name (wpAny_storeName_local hxb hn₂a (fun h₂ hn₂ hs₂ => wpAny_pure ?_) hp)))
    replace hs₂ : Heap.SameBut cenv.locals h₂a h₂ := hs₂
    have up₂ : ∀ b o, b ≠ cenv.locals → b ∉ wr → s.heap.get? b = some o → h₂.get? b = some o := fun b o hbC hbw e => hs₂.extBut b o hbC (hs₂a.extBut b o hbC (old₁ b o (hk₁' b o hbw (hk₁ b o hbw e))))
    have hst₂ : St₀ (i + 1) h₂ := (W₀ A hh).frame _ _ _ hst₁ fun b hb o e => hs₂.extBut b o (fun h => hCf (h ▸ hb)) (hs₂a.extBut b o (fun h => hCf (h ▸ hb)) (old₁ b o e))
    refine seg_bind_wrap ?_
    show wpAny _ _ (forIn [] true _) _ _ _
    rw [List.forIn_nil]
    refine wpAny_pure ?_
    simp only [if_true]
    have hy : ∀ v, yieldOut cenv v = yieldValue v := fun v => by simp only [yieldOut, hco, Bool.false_eq_true, if_false]
    simp only [hy]
    rw [Sem.bind_eq_wrap', Sem.bind_eq_wrap', Sem.wrap_wrap, Sem.wrap_wrap]
    refine seg_wrap (wpAny_mono (hq _ _ i va vb _ _ hPv hn₂ (by simp [hab]) (by simp)) (fun y s₄ h₄ => ?_) fun _ _ e => e)
    obtain ⟨hFy, h₄, tk₄, rfl, hk₄⟩ := h₄
    have e1 : n₀ - i = (n₀ - (i + 1)) + 1 := by omega
    have e2 : n₀ - 1 - (n₀ - (i + 1)) = i := by omega
    rw [e1]
    refine seg_at (seg_yield rfl rfl rfl ⟨by rw [e2]; exact hFy, hsince.step fun b o hbC hbw e => hk₄ b o (up₂ b o hbC hbw e), fun s'' hal => ?_⟩)
    refine seg_again rfl (ih (i + 1) s'' s'' _ (by omega) hlt ((W₀ A hh).frame _ _ _ hst₂ fun b hb o e => hal b (List.mem_cons_of_mem _ hb) o (hk₄ b o e))
      ((hn₂.keeps hk₄).at' fun o e => hal _ (List.mem_cons_self ..) o e) (GenSince.refl _ _ _))

theorem segF_start (hh : A.handled = none) (W₀ : ∀ A' : Around, A'.handled = none → WalksF prog w A' I fp wr n₀ Pt St₀ Mid Fn) (hsz : ∀ i vals, Pt i vals → ∃ va vb, vals = #[va, vb]) (hab : xa ≠ xb)
    (hxa : cenv.kindOf xa = some .local) (hxb : cenv.kindOf xb = some .local) (hp : (cenv.scope.kind == .class || (cenv.scope.kind == .module && cenv.locals != cenv.globals)) = false)
    (hco : cenv.scope.isCoroutine = false) (hCf : cenv.locals ∉ fp) (hq : Elt prog w cenv xa xb elt Pt F)
    (s₀ s : Shared) (m : Str → Option Value) (hst : St₀ 0 s.heap) (hn : s.heap.Ns cenv.locals m) (hsince : GenSince cenv.locals wr s₀ s) :
    Seg (model prog w) A (endF cenv.locals wr Fn) (protoF cenv.locals fp wr n₀ F) n₀ s₀
      (.compStart (.GeneratorExp elt [⟨.Tuple [.Name xa pa, .Name xb pb] kt pt, iter, [], 0⟩] scope pos) 0 (.ref I) .none cenv)
      ((model prog w).den (.compStart (.GeneratorExp elt [⟨.Tuple [.Name xa pa, .Name xb pb] kt pt, iter, [], 0⟩] scope pos) 0 (.ref I) .none cenv)) [] s := by
  have hh' : (A.over (.compStart (.GeneratorExp elt [⟨.Tuple [.Name xa pa, .Name xb pb] kt pt, iter, [], 0⟩] scope pos) 0 (.ref I) .none cenv) []).handled = none := hh
  have loop := segF_loop (iter := iter) (pa := pa) (pb := pb) (pt := pt) (kt := kt) (scope := scope) (pos := pos) hh W₀ hsz hab hxa hxb hp hco hCf hq n₀ 0 s₀ s m (Nat.sub_zero _) (Nat.zero_le _) hst hn hsince
  rw [Nat.sub_zero] at loop
  show Seg _ A _ _ _ s₀ _ ((compStart (.GeneratorExp elt [⟨.Tuple [.Name xa pa, .Name xb pb] kt pt, iter, [], 0⟩] scope pos) 0 (.ref I) .none cenv).onRaise (leaving cenv)) [] s
  unfold compStart
  rw [Sem.onRaise_eq_wrap]
  show Seg _ A _ _ _ s₀ _ ((ask >>= _).wrap _ _ _ _) [] s
  refine seg_bind_wrap (wpAny_askSetting ?_)
  split
  · exact seg_again rfl loop
  · refine seg_bind_wrap (wpAny_rule ?_)
    show Seg _ A _ _ _ s₀ _ ((standAt iter.pos >>= _).wrap _ _ _ _) [] s
    exact seg_bind_wrap (wpAny_standAt (seg_bind_wrap ((W₀ _ hh').self 0 s _ _ hst (seg_again rfl loop))))

def GenAtF (prog : Program) (w : World) (A : Around) (a : Addr) (g : Nat) (C : Addr) (fp wr : List Addr) (n₀ : Nat) (F : Nat → Value → Prop) (Fn : Heap → Prop) (j : Nat) (s : Shared) : Prop :=
  s.heap.IsGen a g ∧ s.heap.NoLimit ∧ ∃ gs, s.gens[g]? = some gs ∧ ∀ s'' : Shared, (∀ b ∈ C :: fp, ∀ o, s.heap.get? b = some o → s''.heap.get? b = some o) →
    gs.Goes (model prog w) A.in1 (endF C wr Fn) (protoF C fp wr n₀ F) (n₀ - j) (.send .none) s''

theorem GenAtF.fresh {a : Addr} {g : Nat} (hh : A.handled = none) (W₀ : ∀ A' : Around, A'.handled = none → WalksF prog w A' I fp wr n₀ Pt St₀ Mid Fn) (hsz : ∀ i vals, Pt i vals → ∃ va vb, vals = #[va, vb]) (hab : xa ≠ xb)
    (hxa : cenv.kindOf xa = some .local) (hxb : cenv.kindOf xb = some .local) (hp : (cenv.scope.kind == .class || (cenv.scope.kind == .module && cenv.locals != cenv.globals)) = false)
    (hco : cenv.scope.isCoroutine = false) (hCf : cenv.locals ∉ fp) (hq : Elt prog w cenv xa xb elt Pt F) {s : Shared} {m : Str → Option Value}
    (hg : s.heap.IsGen a g) (hgs : s.gens[g]? = some (.fresh (.compStart (.GeneratorExp elt [⟨.Tuple [.Name xa pa, .Name xb pb] kt pt, iter, [], 0⟩] scope pos) 0 (.ref I) .none cenv)))
    (hst : St₀ 0 s.heap) (hn : s.heap.Ns cenv.locals m) (hl : s.heap.NoLimit) : GenAtF prog w A a g cenv.locals fp wr n₀ F Fn 0 s :=
  ⟨hg, hl, _, hgs, fun s'' hal => ⟨rfl, segF_start (A := A.in1) hh W₀ hsz hab hxa hxb hp hco hCf hq s'' s'' m ((W₀ A hh).frame _ _ _ hst fun b hb o e => hal b (List.mem_cons_of_mem _ hb) o e)
    (hn.at' fun o e => hal _ (List.mem_cons_self ..) o e) (GenSince.refl _ _ _)⟩⟩
end

/-- as the library's WalksS, and the end tells its state -/
structure WalksSF (prog : Program) (w : World) (A : Around) (I : Addr) (fp wr : List Addr) (G : Array GenState → Array GenState → Prop) (n : Nat) (P : Nat → Value → Prop) (St : Nat → Shared → Prop) (Fn : Heap → Prop) : Prop where
  sub : ∀ b ∈ wr, b ∈ fp
  grefl : ∀ a, G a a
  gtrans : ∀ a b c, G a b → G b c → G a c
  frame : ∀ i (s : Shared) h' tk, St i s → s.toks ≤ tk → (∀ b ∈ fp, ∀ o, s.heap.get? b = some o → h'.get? b = some o) → St i { s with heap := h', toks := tk }
  item : ∀ i (s : Shared) (Q : Option Value → Shared → Prop) (E : Value → Shared → Prop), i < n → St i s →
    (∀ v s', P i v → St (i + 1) s' → Moved wr G s s' → Q (some v) s') → wpAny (model prog w) A (pyNext (.ref I)) Q E s
  done : ∀ (s : Shared) (Q : Option Value → Shared → Prop) (E : Value → Shared → Prop), St n s → (∀ s', Fn s'.heap → Moved wr G s s' → Q none s') → wpAny (model prog w) A (pyNext (.ref I)) Q E s
  self : ∀ i (s : Shared) (Q : Value → Shared → Prop) (E : Value → Shared → Prop), St i s → Q (.ref I) s → wpAny (model prog w) A (pyIter (.ref I)) Q E s

section
variable {prog : Program} {w : World} {A : Around}

theorem WalksSF.genexp (hh : A.handled = none) (a : Addr) (g : Nat) (C : Addr) (fp wr : List Addr) (n₀ : Nat) (F : Nat → Value → Prop) (Fn : Heap → Prop) (haC : a ≠ C) (haf : a ∉ fp) (hsub : ∀ b ∈ wr, b ∈ fp)
    (hroom : A.depth < recursionLimit) (hcs : cStatics ∈ fp) (hcC : cStatics ≠ C) (hcw : cStatics ∉ wr) (hFn : ∀ h h', Fn h → (∀ b o, h.get? b = some o → h'.get? b = some o) → Fn h') :
    WalksSF prog w A a (a :: C :: fp) (C :: wr) (GenOnlyQ g) n₀ F (GenAtF prog w A a g C fp wr n₀ F Fn) Fn where
  sub := fun b hb => by
    rcases List.mem_cons.mp hb with rfl | hb
    · simp
    · exact List.mem_cons_of_mem _ (List.mem_cons_of_mem _ (hsub b hb))
  grefl := fun _ => .inl rfl
  gtrans := fun _ _ _ x y => x.trans y
  frame := fun j s h' tk st _ hk =>
    ⟨let ⟨o, nm, qn, ho, r⟩ := st.1; ⟨o, nm, qn, hk a (List.mem_cons_self ..) o ho, r⟩,
     (let ⟨mc, hns, hnn⟩ := st.2.1; ⟨mc, hns.at' fun o e => hk cStatics (List.mem_cons_of_mem _ (List.mem_cons_of_mem _ hcs)) o e, hnn⟩),
     let ⟨gs, hgs, hgo⟩ := st.2.2; ⟨gs, hgs, fun s'' hal => hgo s'' fun b hb o e => hal b hb o (hk b (List.mem_cons_of_mem _ hb) o e)⟩⟩
  item := fun j s Q E hj st hQ => by
    obtain ⟨hg, hl, gs, hgs, hgo⟩ := st
    obtain ⟨m, hm⟩ : ∃ m, n₀ - j = m + 1 := ⟨n₀ - j - 1, by omega⟩
    rw [hm] at hgo
    refine wpAny_with_toks (Nat.le_refl s.toks) ?_
    refine wpAny_pyNext_genexpQ (P := stopF C wr Fn) hh hl hroom hg hgs (hgo _ fun _ _ _ e => e) (fun v s₁ gs' hb hv => ?_) (fun s₁ hp h' hk => ?_)
    · obtain ⟨hF, ⟨h₁, tk₁, rfl, hk₁⟩, hkap⟩ := hv
      have hidx : n₀ - 1 - (m + 1 - 1) = j := by omega
      rw [hidx] at hF
      have haw : a ∉ wr := fun h => haf (hsub a h)
      intro htk
      refine hQ v _ hF ⟨let ⟨o, nm, qn, ho, r⟩ := hg; ⟨o, nm, qn, hk₁ a o haC haw ho, r⟩, (let ⟨mc, hns, hnn⟩ := hl; ⟨mc, hns.at' fun o e => hk₁ cStatics o hcC hcw e, hnn⟩), gs', setGen_self (gs := .running) (setGen_self hgs), fun s'' hal => ?_⟩
        ⟨fun b o hb e => hk₁ b o (fun h => hb (h ▸ List.mem_cons_self ..)) (fun h => hb (List.mem_cons_of_mem _ h)) e, GenOnlyQ.of ((GenOnly.setGen s g .running).trans (GenOnly.setGen _ g gs')) (setGen_self (gs := .running) (setGen_self hgs)) hb, rfl, rfl, htk⟩
      have e : n₀ - (j + 1) = m := by omega
      rw [e]
      exact hkap s'' hal
    · exact absurd hp.1 (Nat.succ_ne_zero m)
  done := fun s Q E st hQ => by
    obtain ⟨hg, hl, gs, hgs, hgo⟩ := st
    rw [Nat.sub_self] at hgo
    refine wpAny_with_toks (Nat.le_refl s.toks) ?_
    refine wpAny_pyNext_genexpQ (P := stopF C wr Fn) hh hl hroom hg hgs (hgo _ fun _ _ _ e => e) (fun v s₁ gs' hb hv => ?_) (fun s₁ hp h' hk => ?_)
    · obtain ⟨_, _, hkap⟩ := hv
      exact False.elim (hkap s₁ fun _ _ _ e => e)
    · obtain ⟨_, ⟨h₁, tk₁, rfl, hk₁⟩, hF⟩ := hp
      intro htk
      exact hQ _ (hFn _ _ hF hk) ⟨fun b o hb e => hk b o (hk₁ b o (fun h => hb (h ▸ List.mem_cons_self ..)) (fun h => hb (List.mem_cons_of_mem _ h)) e), GenOnlyQ.of ((GenOnly.setGen s g .running).trans (GenOnly.setGen _ g .finished)) (setGen_self (gs := .running) (setGen_self hgs)) rfl, rfl, rfl, htk⟩
  self := fun _ _ _ _ st hQ => wpAny_pyIter_gen st.1 hQ

theorem WalksSF.of_in1 {I : Addr} {fp wr : List Addr} {G : Array GenState → Array GenState → Prop} {n : Nat} {P : Nat → Value → Prop} {St : Nat → Shared → Prop} {Fn : Heap → Prop}
    (W : WalksSF prog w A.in1 I fp wr G n P St Fn) : WalksSF prog w A I fp wr G n P St Fn where
  sub := W.sub
  grefl := W.grefl
  gtrans := W.gtrans
  frame := W.frame
  item := fun i s Q E hi st hQ => wpAny_of_in1 (W.item i s Q E hi st hQ)
  done := fun s Q E st hQ => wpAny_of_in1 (W.done s Q E st hQ)
  self := fun i s Q E st hQ => wpAny_of_in1 (W.self i s Q E st hQ)
end

end Mine

namespace Mine

section
variable {prog : Program} {w : World} {A : Around} {R : Result → Shared → Prop} {I : Addr} {fp wr : List Addr} {G : Array GenState → Array GenState → Prop} {n : Nat} {P : Nat → Value → Prop} {St : Nat → Shared → Prop} {Fn : Heap → Prop}

theorem extendF (W : WalksSF prog w A.in1 I fp wr G n P St Fn) (hn : n ≤ sizeLine) (S : Addr) (hSf : S ∉ fp) (res : Value) :
    ∀ (k i : Nat) (s : Shared) (acc : Array Value) (c : Nat), n - i = k → i ≤ n → St i s → s.heap.get? S = some { cls := .type "list", dict := none, data := .seq acc c, slots := #[] } → ItemsOf P acc i →
    (∀ s' acc' c', Fn s'.heap → Moved (S :: wr) G s s' → s'.heap.get? S = some { cls := .type "list", dict := none, data := .seq acc' c', slots := #[] } → ItemsOf P acc' n → R (.ok (.ret res)) s') →
    codeAny (model prog w) A (.builtin "list.extend.loop" ⟨[.ref S, .ref I, res], []⟩) R s := by
  have hSw : S ∉ wr := fun h => hSf (W.sub _ h)
  have hsub : ∀ b ∈ wr, b ∈ S :: wr := fun b hb => List.mem_cons_of_mem _ hb
  intro k
  induction k with
  | zero =>
    intro i s acc c hk hi hst hS hacc hR
    have hin : i = n := by omega
    subst hin
    refine codeAny_builtin F.entry_extend_loop ?_
    rw [Around.under_plainId F.plain_extend_loop _]
    show wpAny _ A.in1 (pyNext (.ref I) >>= _) _ _ s
    refine wpAny_bind (W.done s _ _ hst fun s' hF hm => ?_)
    exact wpAny_pure (hR s' acc c hF (hm.mono hsub) (hm.heap S _ hSw hS) hacc)
  | succ k ih =>
    intro i s acc c hk hi hst hS hacc hR
    have hlt : i < n := by omega
    refine codeAny_builtin F.entry_extend_loop ?_
    rw [Around.under_plainId F.plain_extend_loop _]
    show wpAny _ A.in1 (pyNext (.ref I) >>= _) _ _ s
    refine wpAny_bind (W.item i s _ _ hlt hst fun v s' hP hst' hm => ?_)
    have hS' := hm.heap S _ hSw hS
    show wpAny _ A.in1 (updateSeq S (·.push v) >>= _) _ _ _
    refine wpAny_bind ?_
    refine wpAny_updateSeq hS' rfl (wpAny_pure ⟨plainId_quiet F.plain_extend_loop _, ih (i + 1) _ (acc.push v) _ (by omega) hlt (W.frame _ s' _ s'.toks hst' (Nat.le_refl _) fun b hb o e => ?_) (Heap.get?_update_self _ hS' rfl) (hacc.push hP) fun s'' acc' c' hF hm'' hS'' hacc' => ?_⟩)
      (by rw [hacc.1]; omega) (by show (acc.push v).size ≤ sizeLine + 1; rw [Array.size_push, hacc.1]; omega)
    · exact (Heap.get?_update_other _ _ (fun h : S = b => hSf (by rw [h]; exact hb))).trans e
    · refine hR s'' acc' c' hF (Moved.trans W.gtrans ((hm.mono hsub).then_heap (Nat.le_refl _) fun b o hb e => ?_) hm'') hS'' hacc'
      exact (Heap.get?_update_other _ _ (fun h : S = b => hb (by rw [h]; exact List.mem_cons_self))).trans e
end

section
variable {prog : Program} {w : World} {A : Around} {E : Value → Shared → Prop} {s : Shared} {I : Addr} {fp wr : List Addr} {G : Array GenState → Array GenState → Prop} {n : Nat} {P : Nat → Value → Prop} {St : Nat → Shared → Prop} {Fn : Heap → Prop}

theorem collectF {Q : List Value → Shared → Prop} (W : WalksSF prog w A.in1 I fp wr G n P St Fn) (hT : ∀ i s, St i s → s.TypeIs (.ref I) "generator") (hst : St 0 s) (hfp : ∀ b ∈ fp, b < s.heap.objs.size) (hI : I ∈ fp)
    (hQ : ∀ s' acc, Fn s'.heap → Moved wr G s s' → ItemsOf P acc n → Q acc.toList s') (hn : n ≤ sizeLine) : wpAny (model prog w) A (collect (.ref I)) Q E s := by
  have hSf : s.heap.objs.size ∉ fp := fun hm => Nat.lt_irrefl _ (hfp _ hm)
  have hSI : s.heap.objs.size ≠ I := fun e => hSf (e ▸ hI)
  unfold collect
  refine wpAny_bind (wpAny_runValue (codeAny_builtin F.entry_proto_collect ?_))
  rw [Around.under_plainId F.plain_proto_collect _]
  show wpAny _ A.in1 (newList [] >>= fun l => again (.builtin "list.__iadd__" ⟨[l, .ref I], []⟩)) _ _ s
  refine wpAny_bind (wpAny_newObj_type ?_)
  refine wpAny_pure ⟨plainId_quiet F.plain_list_iadd _, codeAny_builtin F.entry_list_iadd ?_⟩
  rw [Around.under_plainId F.plain_list_iadd _]
  have hst₁ := W.frame 0 s (s.heap.push { cls := .type "list", data := .seq ([] : List Value).toArray }) s.toks hst (Nat.le_refl _) fun b _ o e => Heap.get?_push_of_some _ e
  show wpAny _ A.in1 (Builtin.List.listExtendWith (.ref s.heap.objs.size) (.ref I) (.ref s.heap.objs.size)) _ _ _
  unfold Builtin.List.listExtendWith
  refine wpAny_bind (wpAny_typeOf (hT 0 _ hst₁) ?_)
  have h1 : Builtin.List.listSameRef (.ref s.heap.objs.size) (.ref I) = false := by simp [Builtin.List.listSameRef, hSI]
  have h2 : (Value.type "generator" == Value.type "list") = false := by decide
  have h3 : (Value.type "generator" == Value.type "tuple") = false := by decide
  simp only [h1, h2, h3, Bool.or_false, Bool.false_eq_true, if_false]
  refine wpAny_bind (W.self 0 _ _ _ hst₁ ?_)
  refine wpAny_bind (wpAny_holding ?_)
  unfold Builtin.List.listLengthHint
  refine wpAny_bind (wpAny_specialOf (hT 0 _ hst₁) F.gen_no_len ?_)
  show wpAny _ A.in1 (specialOf (Value.ref I) (Str.ofString "__length_hint__") >>= _) _ _ _
  refine wpAny_bind (wpAny_specialOf (hT 0 _ hst₁) F.gen_no_hint ?_)
  refine wpAny_pure ?_
  show wpAny _ A.in1 (rule "list.extend.makes-room" >>= fun _ => Builtin.List.listTouch (.ref s.heap.objs.size) >>= fun _ =>
    again (.builtin "list.extend.loop" ⟨[.ref s.heap.objs.size, .ref I, .ref s.heap.objs.size], []⟩)) _ _ _
  refine wpAny_bind (wpAny_rule ?_)
  have hS₁ : (s.heap.push { cls := .type "list", data := .seq ([] : List Value).toArray }).get? s.heap.objs.size = some { cls := .type "list", data := .seq ([] : List Value).toArray } := Heap.get?_push_size _ rfl
  refine wpAny_bind ?_
  show wpAny _ A.in1 (updateSeq s.heap.objs.size (·.push .none) >>= fun _ => updateSeq s.heap.objs.size (·.pop)) _ _ _
  refine wpAny_bind (wpAny_updateSeq hS₁ rfl ?_)
  have hS₂ := Heap.get?_update_self (Obj.mapSeq (·.push Value.none)) hS₁ rfl
  refine wpAny_updateSeq hS₂ rfl ?_
  have hS₃ := Heap.get?_update_self (Obj.mapSeq (·.pop)) hS₂ rfl
  have oth : ∀ b o, b ≠ s.heap.objs.size → (s.heap.push { cls := .type "list", data := .seq ([] : List Value).toArray }).get? b = some o →
      (((s.heap.push { cls := .type "list", data := .seq ([] : List Value).toArray }).update s.heap.objs.size (Obj.mapSeq (·.push Value.none))).update s.heap.objs.size (Obj.mapSeq (·.pop))).get? b = some o :=
    fun b o hb e => (Heap.get?_update_other _ _ (Ne.symm hb)).trans ((Heap.get?_update_other _ _ (Ne.symm hb)).trans e)
  refine wpAny_pure ⟨plainId_quiet F.plain_extend_loop _, extendF W hn _ hSf _ n 0 _ _ _ rfl (Nat.zero_le _)
    (W.frame 0 ({ s with heap := s.heap.push { cls := .type "list", data := .seq ([] : List Value).toArray } } : Shared) _ s.toks hst₁ (Nat.le_refl _) fun b hb o e => oth b o (fun h => hSf (h ▸ hb)) e) hS₃ (ItemsOf.nil P) fun s' acc' c' hF hm hS' hacc => ?_⟩
  show wpAny _ A (load s.heap.objs.size >>= _) _ _ s'
  refine wpAny_bind (wpAny_load hS' ?_)
  refine wpAny_pure (hQ s' acc' hF (Moved.drop_new (o := { cls := .type "list", data := .seq ([] : List Value).toArray }) (tk := s.toks) (Moved.trans W.gtrans ((Moved.refl W.grefl).then_heap (Nat.le_refl _) fun b o hb e => ?_) hm) (Nat.le_refl _)) hacc)
  exact oth b o (fun h => hb (h ▸ List.mem_cons_self)) e

theorem joinF {Q : Value → Shared → Prop} {x : Str} {t : Tok} (W : WalksSF prog w A.in1.in1 I fp wr G n P St Fn) (hT : ∀ i s, St i s → s.TypeIs (.ref I) "generator") (hst : St 0 s) (hfp : ∀ b ∈ fp, b < s.heap.objs.size) (hI : I ∈ fp)
    (tx : Nat → Str) (htx : ∀ i v, P i v → ∃ u, v = Value.str (tx i) u) (hok : JoinOk x ((List.range n).map tx) = true)
    (hQ : ∀ s' t' k, Fn s'.heap → Moved wr G s s' → Q (.str (Txt.join x ((List.range n).map tx)) t') { s' with toks := k }) (hn : n ≤ sizeLine) :
    wpAny (model prog w) A (call (.builtin "str.join") [.str x t, .ref I]) Q E s := by
  refine wpAny_call (codeAny_call_builtin F.slot_str_join.plain F.entry_str_join (F.slot_str_join.check _ _ _ _ _ _ _ _ (typeIs_str _ _ _) (F.args_str_join_2 _ _) ?_))
  rw [join_tree_other]
  refine wpAny_bind (wpAny_typeOf (hT 0 s hst) ?_)
  show wpAny _ A.in1 ((pyIter (.ref I)).tryCatch _ >>= fun it => collect it >>= fun items => joinTail x items) _ _ s
  refine wpAny_bind (wpAny_tryCatch (W.of_in1.self 0 s _ _ hst ?_))
  refine wpAny_bind (collectF W hT hst hfp hI (fun s' acc hF hm hacc => ?_) hn)
  obtain ⟨l, hl⟩ := exists_strValues acc.toList fun v hv => by
    obtain ⟨j, hj, rfl⟩ := Array.mem_iff_getElem.mp (Array.mem_toList_iff.mp hv)
    obtain ⟨u, hu⟩ := htx j _ (hacc.2 j _ (Array.getElem?_eq_getElem hj))
    exact ⟨_, u, hu⟩
  rw [← hl]
  have hacc' : ItemsOf P (strValues l).toArray n := by rw [hl]; simpa using hacc
  have hle : l.map (·.1) = (List.range n).map tx := by
    apply List.ext_getElem?
    intro j
    have hsz : l.length = n := by simpa [strValues] using hacc'.1
    by_cases hj : j < n
    · have hj' : j < l.length := hsz ▸ hj
      obtain ⟨u, hv⟩ := htx j _ (hacc'.2 j (.str l[j].1 l[j].2) (by simp [strValues, List.getElem?_eq_getElem hj']))
      injection hv with h1 _
      simp [List.getElem?_eq_getElem hj', hj, h1]
    · rw [List.getElem?_eq_none (by simpa [hsz] using Nat.le_of_not_lt hj), List.getElem?_eq_none (by simpa using Nat.le_of_not_lt hj)]
  have hok' : JoinOk x (l.map (·.1)) = true := by rw [hle]; exact hok
  have hpost : ∀ t' k, Q (.str (Txt.join x (l.map (·.1))) t') { s' with toks := k } := fun t' k => by rw [hle]; exact hQ s' t' k hF hm
  unfold JoinOk at hok'
  rw [Bool.not_eq_true'] at hok'
  have g : Gives (joinTail x (strValues l)) (joinMade x l) := by
    have g0 := gives_joinTail x l hok'
    cases l with
    | nil => exact g0
    | cons p r => cases r with
      | nil => exact g0
      | cons q r' => exact g0
  exact g prog w A (wants Q E) s' (post_join l ⟨joinFit_length hok', hpost⟩)
end

end Mine

open PySem.Calls

namespace Mine

abbrev itObj (x : Str) (t : Tok) : Obj := { cls := .type "str_ascii_iterator", data := .fields #[.str x t, .int 0 0] }

/-- what iter(v) gives: a new iterator over a text, or the iterator itself -/
def Src (v : Value) (h : Heap) (i : Addr) (xs : List Nat) (h' : Heap) : Prop :=
  (∃ x t, v = .str x t ∧ x.cps.all (· < 128) = true ∧ x.cps.toList = xs ∧ i = h.objs.size ∧ h' = h.push (itObj x t)) ∨ (v = .ref i ∧ Rem h i xs ∧ h' = h)

theorem Src.iter {prog : Program} {w : World} {A : Around} {E : Value → Shared → Prop} {s : Shared} {v : Value} {i : Addr} {xs : List Nat} {h' : Heap} {Q : Value → Shared → Prop} (x : Src v s.heap i xs h')
    (h : Q (.ref i) { s with heap := h' }) : wpAny (model prog w) A (pyIter v) Q E s := by
  rcases x with ⟨x, t, rfl, ha, _, rfl, rfl⟩ | ⟨rfl, r, rfl⟩
  · exact wpAny_pyIter_ascii ha h
  · exact pyIter_rem r h
theorem Src.rem {v : Value} {h : Heap} {i : Addr} {xs : List Nat} {h' : Heap} (x : Src v h i xs h') : Rem h' i xs := by
  rcases x with ⟨x, t, rfl, _, e, rfl, rfl⟩ | ⟨_, r, rfl⟩
  · exact .inl ⟨x, t, 0, ⟨_, Heap.get?_push_size _ rfl, rfl, rfl⟩, by simpa using e⟩
  · exact r
theorem Src.keep {v : Value} {h : Heap} {i : Addr} {xs : List Nat} {h' : Heap} (x : Src v h i xs h') (b : Addr) (o : Obj) (e : h.get? b = some o) : h'.get? b = some o := by
  rcases x with ⟨x, t, rfl, _, _, rfl, rfl⟩ | ⟨_, r, rfl⟩
  · exact Heap.get?_push_of_some _ e
  · exact e
theorem Src.le {v : Value} {h : Heap} {i : Addr} {xs : List Nat} {h' : Heap} (x : Src v h i xs h') : h.objs.size ≤ h'.objs.size := by
  rcases x with ⟨x, t, rfl, _, _, rfl, rfl⟩ | ⟨_, r, rfl⟩
  · rw [Heap.size_push]; exact Nat.le_succ _
  · exact Nat.le_refl _

abbrev zH3 (h : Heap) (i j : Addr) : Heap := h.push { cls := .type "tuple", data := .seq #[.ref i, .ref j] }
abbrev zH4 (h : Heap) (i j : Addr) : Heap := (zH3 h i j).push { cls := .type "tuple", data := .seq #[.none, .none] }
abbrev zH5 (h : Heap) (i j : Addr) : Heap := (zH4 h i j).push { cls := .type "zip", data := .fields #[.none, .bool false, .bool false, .ref h.objs.size, .ref (zH3 h i j).objs.size] }

theorem meets_zip (v1 v2 : Value) (i j : Addr) (xs ys : List Nat) (h1 h2 : Heap) :
    Meets (Builtin.«zip.__new__» ⟨[.type "zip", v1, v2], []⟩) (fun _ R s => Src v1 s.heap i xs h1 ∧ Src v2 h1 j ys h2 ∧
      R (.ok (.ret (.ref (zH4 h2 i j).objs.size))) { s with heap := zH5 h2 i j }) :=
  .of_wp fun prog w A R s h => by
    obtain ⟨hp, g, d, tk, os⟩ := s; obtain ⟨hl1, hl2, h⟩ := h
    have hsub := sub_zip
    have hL1 : Src v1 (Shared.heap ⟨hp, g, d, tk, os⟩) i xs h1 := hl1
    have hL2 : Src v2 (Shared.heap ⟨h1, g, d, tk, os⟩) j ys h2 := hl2
    wp_walk using Src.iter hL1, Src.iter hL2
    exact ⟨_, rfl, h⟩

theorem call_zip {prog : Program} {w : World} {A : Around} {E : Value → Shared → Prop} {s : Shared} {v1 v2 : Value} {i j : Addr} {xs ys : List Nat} {h1 h2 : Heap} {Q : Value → Shared → Prop}
    (s1 : Src v1 s.heap i xs h1) (s2 : Src v2 h1 j ys h2)
    (h : ∀ h' z TI TO, Apart z TI TO i j → IsZip h' z TI TO .none → IsPair h' TI (.ref i) (.ref j) → IsPair h' TO .none .none → h2.objs.size ≤ z → h2.objs.size ≤ TI → h2.objs.size ≤ TO → (∀ c o, h2.get? c = some o → h'.get? c = some o) →
      Q (.ref z) { s with heap := h' }) :
    wpAny (model prog w) A (call (.type "zip") [v1, v2]) Q E s := by
  refine callType_new F.called_zip (by decide) (F.typeCall_zip_2 _ _) (F.newCall_zip_2 _ _) (fun obj => F.args_object_init_3 obj _ _) F.entry_zip_new
    (meets_zip v1 v2 i j xs ys h1 h2) ⟨s1, s2, ?_⟩
  have hi : i < h2.objs.size := Nat.lt_of_lt_of_le s1.rem.lt s2.le
  have hj : j < h2.objs.size := s2.rem.lt
  have z3 : (zH3 h2 i j).objs.size = h2.objs.size + 1 := Heap.size_push ..
  have z4 : (zH4 h2 i j).objs.size = h2.objs.size + 2 := by rw [Heap.size_push, z3]
  have g5 : (zH5 h2 i j).get? (zH4 h2 i j).objs.size = some _ := Heap.get?_push_size _ rfl
  have g4 : (zH5 h2 i j).get? (zH3 h2 i j).objs.size = some _ := Heap.get?_push_of_some _ (Heap.get?_push_size _ rfl)
  have g3 : (zH5 h2 i j).get? h2.objs.size = some _ := Heap.get?_push_of_some _ (Heap.get?_push_of_some _ (Heap.get?_push_size _ rfl))
  show _ ∧ _
  rw [z3, z4] at g5
  rw [z3] at g4
  rw [z4]
  refine ⟨⟨_, g5, rfl⟩, h _ _ _ _ ?_ g5 g3 g4 (Nat.le_add_right _ _) (Nat.le_refl _) (Nat.le_add_right _ _) fun c o x => Heap.get?_push_of_some _ (Heap.get?_push_of_some _ (Heap.get?_push_of_some _ x))⟩
  exact ⟨Nat.ne_of_lt (Nat.lt_add_of_pos_right (by decide)), Nat.ne_of_lt (Nat.lt_succ_self _), Nat.ne_of_lt (Nat.lt_succ_self _), Nat.ne_of_lt (Nat.lt_of_lt_of_le hi (Nat.le_add_right _ _)), Nat.ne_of_lt (Nat.lt_of_lt_of_le hj (Nat.le_add_right _ _)),
    Nat.ne_of_lt hi, Nat.ne_of_lt hj, Nat.ne_of_lt (Nat.lt_of_lt_of_le hi (Nat.le_add_right _ _)), Nat.ne_of_lt (Nat.lt_of_lt_of_le hj (Nat.le_add_right _ _))⟩

/-- a generator expression's code: found, or made and noted -/
theorem codeG {M : Model} {A : Around} {E : Value → Shared → Prop} {s : Shared} {env : Env} {c P : Addr} {ps : Array Value} {pos : Pos} {qualname : Str} {scope : Scope} {Q : Value → Shared → Prop} (hc : env.code = .ref c)
    (hok : s.heap.IsCode c P ps) (htab : s.heap.TableAt c P ps)
    (hQ : ∀ code h' tk ps', Heap.ExtBut P s.heap h' → s.heap.objs.size ≤ h'.objs.size → h'.IsCode c P ps' → h'.TableAt c P ps' → Q code { s with heap := h', toks := tk }) :
    wpAny M A (genexprCode env pos qualname scope) Q E s := by
  cases hnf : codeAmong pos ps.toList with
  | none => exact wpAny_genexprCodeX hc hok htab hnf fun c' h' tk hx h1 h2 hco _ ht _ => hQ _ h' tk _ hx (Nat.le_trans h1 (Nat.le_of_lt h2)) hco ht
  | some cv =>
    obtain ⟨o, vs, file, tf, flags, tg, inF, text, tt, op, ho, hd, h11, h2, h7, h9, h10, hop, hpd, htr, hne⟩ := id hok
    unfold genexprCode codeAt
    rw [hc, if_neg (show ¬ ((Value.ref c == Value.none) = true) from Bool.false_ne_true)]
    refine wpAny_bind (wpAny_fieldsOf ho hd ?_)
    rw [h11]
    refine wpAny_bind (wpAny_fieldsOf hop hpd ?_)
    rw [hnf]
    exact wpAny_pure (hQ cv s.heap s.toks ps (Heap.ExtBut.refl _ _) (Nat.le_refl _) hok htab)

end Mine

namespace Mine

/-- the names that the module binds, and the start-up's -/
def nms : List Str := ["__name__", "__doc__", "__package__", "__loader__", "__spec__", "__annotations__", "__builtins__", "__file__", "__cached__", "_keep_original_ws", "_law_laid", "_law_strips", "_law_row", "law"]

/-- what stands before the call -/
structure Gr (H : Heap) (c P : Addr) (mg mb : Str → Option Value) : Prop where
  g : H.Ns mainGlobals mg
  b : H.Ns builtinsNs mb
  nolimit : H.NoLimit
  bmod : ∃ bm ob, BMod H mainGlobals mg bm ob
  code : H.IsCode c P #[]
  tab : H.TableAt c P #[]
  builtins : ∀ x : Str, x ≠ "__name__" → mb x = bootBuiltins x
  glob : Glob 0 mg mb [] [] [] nms H
  booked : NoneBooked H

/-- a heap in the call: all that stood, but the one code table may have grown -/
structure Bs (H : Heap) (c P : Addr) (h : Heap) : Prop where
  keep : ∀ b o, b ≠ P → H.get? b = some o → h.get? b = some o
  tab : ∃ ps, h.IsCode c P ps ∧ h.TableAt c P ps
  le : H.objs.size ≤ h.objs.size

section
variable {H h h' : Heap} {c P : Addr} {mg mb : Str → Option Value}

theorem Gr.start (G : Gr H c P mg mb) : Bs H c P H := ⟨fun _ _ _ e => e, ⟨_, G.code, G.tab⟩, Nat.le_refl _⟩
theorem Gr.cP (G : Gr H c P mg mb) : c ≠ P := by obtain ⟨_, _, _, _, _, _, _, _, _, _, _, _, _, _, _, _, _, _, _, _, x⟩ := G.code; exact x
theorem Gr.nsP (G : Gr H c P mg mb) {a : Addr} {m : Str → Option Value} (x : H.Ns a m) : a ≠ P := fun e => by
  obtain ⟨o, es, ep, ho, hd, _⟩ := x
  rw [e, G.tab.2] at ho; cases ho; cases hd
theorem Bs.ns (B : Bs H c P h) (G : Gr H c P mg mb) {a : Addr} {m : Str → Option Value} (x : H.Ns a m) : h.Ns a m := x.at' fun o e => B.keep _ o (G.nsP x) e
theorem Bs.nolimit (B : Bs H c P h) (G : Gr H c P mg mb) : h.NoLimit := let ⟨mc, x, e⟩ := G.nolimit; ⟨mc, B.ns G x, e⟩
theorem Bs.get (B : Bs H c P h) (G : Gr H c P mg mb) {a : Addr} {o : Obj} (e : H.get? a = some o) (hd : ∀ vs, o.data ≠ .fields vs) : h.get? a = some o :=
  B.keep _ _ (fun x => by subst x; rw [G.tab.2] at e; cases e; exact hd _ rfl) e
theorem Bs.codeRec (B : Bs H c P h) (G : Gr H c P mg mb) {cd : Value} {q : Str} (x : H.CodeRec cd q) : h.CodeRec cd q := by
  obtain ⟨c', o, vs, t, e, g, hd, hv⟩ := x
  refine ⟨c', o, vs, t, e, B.keep _ _ (fun x => ?_) g, hd, hv⟩
  subst x
  rw [G.tab.2] at g
  cases g
  injection hd with hd
  subst hd
  simp at hv
theorem Bs.bmod (B : Bs H c P h) (G : Gr H c P mg mb) : ∃ bm ob, BMod h mainGlobals mg bm ob := by
  obtain ⟨bm, ob, x⟩ := G.bmod
  exact ⟨bm, ob, B.ns G x.ns, x.name, x.ne, B.keep _ _ (x.apart G.tab).2 x.obj, x.cls, x.dict, x.data⟩
theorem Bs.glob (B : Bs H c P h) (G : Gr H c P mg mb) : Glob 0 mg mb [] [] [] nms h := by
  have S := G.glob.seer
  exact ⟨B.ns G G.g, B.ns G G.b, G.builtins, B.nolimit G, nofun, nofun, G.glob.free, (let ⟨mc, h1, h2⟩ := G.glob.digits; ⟨mc, B.ns G h1, h2⟩), nofun,
    ⟨(let ⟨mc, a, b⟩ := S.statics; ⟨mc, B.ns G a, b⟩), (let ⟨mc, a, b⟩ := S.mods; ⟨mc, B.ns G a, b⟩), (let ⟨mc, a, b⟩ := S.imp; ⟨mc, B.ns G a, b⟩),
      (let ⟨mg', bm, ob, a, b, c', d, f⟩ := S.main; ⟨mg', bm, ob, B.ns G a, b, B.keep _ _ (fun e => by rw [e, G.tab.2] at c'; cases c'; cases d) c', d, f⟩)⟩⟩
theorem Bs.booked (B : Bs H c P h) (G : Gr H c P mg mb) : NoneBooked h := let ⟨mc, x, e⟩ := G.booked; ⟨mc, B.ns G x, e⟩
theorem Bs.mono (B : Bs H c P h) (G : Gr H c P mg mb) (le : H.objs.size ≤ h'.objs.size) (k : ∀ b o, b < H.objs.size → h.get? b = some o → h'.get? b = some o) : Bs H c P h' := by
  refine ⟨fun b o hb e => k b o (Heap.lt_size e) (B.keep b o hb e), ?_, le⟩
  obtain ⟨ps, hc, ht⟩ := B.tab
  have l := G.code.lt
  refine ⟨ps, ?_, ?_⟩
  · obtain ⟨o, vs, file, tf, flags, tg, inF, text, tt, op, ho, r1, r2, r3, r4, r5, r6, hop, r⟩ := hc
    exact ⟨o, vs, file, tf, flags, tg, inF, text, tt, op, k _ _ l.1 ho, r1, r2, r3, r4, r5, r6, k _ _ l.2 hop, r⟩
  · obtain ⟨⟨o, vs, a, r⟩, t⟩ := ht
    exact ⟨⟨o, vs, k _ _ l.1 a, r⟩, k _ _ l.2 t⟩
theorem Bs.keeps (B : Bs H c P h) (G : Gr H c P mg mb) (le : h.objs.size ≤ h'.objs.size) (k : ∀ b o, h.get? b = some o → h'.get? b = some o) : Bs H c P h' := B.mono G (Nat.le_trans B.le le) fun b o _ e => k b o e
/-- the code table alone is another one -/
theorem Bs.table (B : Bs H c P h) (_G : Gr H c P mg mb) {ps : Array Value} (le : h.objs.size ≤ h'.objs.size) (x : Heap.ExtBut P h h') (hc : h'.IsCode c P ps) (ht : h'.TableAt c P ps) : Bs H c P h' :=
  ⟨fun b o hb e => x b o hb (B.keep b o hb e), ⟨ps, hc, ht⟩, Nat.le_trans B.le le⟩
theorem Bs.old (B : Bs H c P h) (G : Gr H c P mg mb) : OldK H h := by
  obtain ⟨ps, _, ht⟩ := B.tab
  refine ⟨fun b o e => ?_, fun b o e => ?_⟩
  · by_cases hb : b = P
    · subst hb
      have e₀ : o = { cls := .none, data := .fields #[] } := Option.some.inj (e.symm.trans G.tab.2)
      subst e₀
      exact .inr (.inl ⟨G.tab.isCodeTable, rfl, #[], ps, rfl, by rw [ht.2]; simp⟩)
    · exact .inl (B.keep b o hb e)
  · by_cases hb : b = P
    · subst hb; exact ⟨_, ht.2⟩
    · exact ⟨o, B.keep b o hb e⟩
end

theorem frEmpty {L : Addr} {h : Heap} {m : Str → Option Value} (hn : h.Ns L m) : Fr {} L h m := ⟨hn, fun b o e => by simp [Heap.get?] at e, Nat.zero_le _⟩

/-- a generator that gives F 0, F 1 .. and ends with Fn -/
def GenF (prog : Program) (w : World) (A : Around) (a : Addr) (n : Nat) (F : Nat → Value → Prop) (Fn : Heap → Prop) (wr : List Addr) (s : Shared) : Prop :=
  ∃ fp g St, WalksSF prog w A.in4 a fp wr (GenOnlyQ g) n F St Fn ∧ St 0 s ∧ (∀ i s', St i s' → s'.TypeIs (.ref a) "generator") ∧ a ∈ fp ∧ (∀ b ∈ fp, b < s.heap.objs.size)

section
variable {prog : Program} {w : World} {A : Around} {E : Value → Shared → Prop} {s : Shared} {H : Heap} {c P : Addr} {mg mb : Str → Option Value}

theorem gen_make {env : Env} {elt iter : Expr} {xa xb : Str} {pa pb pt : Pos} {kt : Nat} {scope : Scope} {pos : Pos} {Q : Value → Shared → Prop} {n : Nat} {F : Nat → Value → Prop}
    (G : Gr H c P mg mb) (hg : env.globals = mainGlobals) (hcode : env.code = .ref c) (hh : A.handled = none) (hco : scope.isCoroutine = false) (hclos : closureFor scope env = pure []) (hcell : ∀ y ∈ scope.names, y.2 ≠ .cell)
    (h0 : scope.names.lookup (".0" : Str) = some NameKind.local) (hxa : scope.names.lookup xa = some .local) (hxb : scope.names.lookup xb = some .local) (hab : xa ≠ xb) (hkind : scope.kind = .function) (hroom : A.depth < recursionLimit)
    (h : wpAny (model prog w) A (eval iter env) (fun xv s₁ => ∃ I fp wr Pt St₀ Mid Fn, xv = .ref I ∧ (∀ A' : Around, A'.handled = none → WalksF prog w A' I fp wr n Pt St₀ Mid Fn) ∧ (∀ i vals, Pt i vals → ∃ va vb, vals = #[va, vb]) ∧ St₀ 0 s₁.heap ∧
      (∀ b ∈ fp, b < s₁.heap.objs.size) ∧ (∀ b ∈ fp, H.objs.size ≤ b) ∧ Bs H c P s₁.heap ∧ (∀ C code, Elt prog w (genEnv scope [] C code builtinsNs env) xa xb elt Pt F) ∧
      (∀ a s₅, Bs H c P s₅.heap → (∀ b o, b ≠ P → s₁.heap.get? b = some o → s₅.heap.get? b = some o) → s₁.heap.objs.size ≤ s₅.heap.objs.size → (AllBare s₁.gens → AllBare s₅.gens) → s₅.os = s₁.os →
        (∃ C, s₁.heap.objs.size ≤ C ∧ GenF prog w A a n F Fn (C :: wr) s₅) → Q (.ref a) s₅)) E s)
    (hs : ∀ x, genFold iter env x = pure x) :
    wpAny (model prog w) A (eval (.GeneratorExp elt [⟨.Tuple [.Name xa pa, .Name xb pb] kt pt, iter, [], 0⟩] scope pos) env) Q E s := by
  refine wpAny_GeneratorExp_make hco hclos hcell h0 hkind hroom (wpAny_mono h (fun xv s₁ h₁ => ?_) fun _ _ e => e) hs
  obtain ⟨I, fp, wr, Pt, St₀, Mid, Fn, rfl, W₀, hsz2, hst, hfp, hfH, B, hq, hQ⟩ := h₁
  refine (W₀ A hh).self 0 _ _ _ hst ?_
  obtain ⟨ps, hcd, htb⟩ := B.tab
  have lcP := G.code.lt
  have nP : ∀ b ∈ fp, b ≠ P := fun b hb e => absurd lcP.2 (Nat.not_lt.mpr (e ▸ hfH b hb))
  refine ⟨B.nolimit G, codeG hcode hcd htb fun code h₃ tk₃ ps' hx₃ hle₃ hcd₃ htb₃ => ?_⟩
  have B₃ : Bs H c P h₃ := B.table G hle₃ hx₃ hcd₃ htb₃
  obtain ⟨bm, ob, M₃⟩ := B₃.bmod G
  rw [← hg] at M₃
  refine wpAny_builtinsFor M₃.ns M₃.name M₃.ne M₃.obj M₃.cls M₃.dict M₃.data ?_
  intro h' hn' hs'
  have hl₃ : h₃.NoLimit := B₃.nolimit G
  have hclt : cStatics < h₃.objs.size := let ⟨_, hn, _⟩ := hl₃; hn.lt
  have hcH : cStatics < H.objs.size := let ⟨_, hn, _⟩ := G.nolimit; hn.lt
  have hsz : h'.objs.size = h₃.objs.size + 1 := by rw [hs'.1, Heap.size_push]
  have keep' : ∀ b o, h₃.get? b = some o → h'.get? b = some o := fun b o e => hs'.extBut b o (Nat.ne_of_lt (Heap.lt_size e)) (Heap.get?_push_of_some _ e)
  have hsub : ∀ b ∈ wr, b ∈ List.range h₃.objs.size := fun b hb => List.mem_range.mpr (Nat.lt_of_lt_of_le (hfp b ((W₀ A hh).sub b hb)) hle₃)
  have haC : h'.objs.size ≠ h₃.objs.size := by rw [hsz]; exact Nat.succ_ne_self _
  have haf : h'.objs.size ∉ List.range h₃.objs.size := fun hm => by have := List.mem_range.mp hm; omega
  have hcw : cStatics ∉ wr := fun hm => absurd hcH (Nat.not_lt.mpr (hfH _ ((W₀ A hh).sub _ hm)))
  have keep₅ : ∀ b o, h₃.get? b = some o → (h'.push { cls := .type "generator", data := .fields #[.int s₁.gens.size 0, .str "<genexpr>" (tk₃ + 1), .str (env.qual ++ "<genexpr>") (tk₃ + 1 + 1)] }).get? b = some o :=
    fun b o e => Heap.get?_push_of_some _ (keep' b o e)
  have hst₃ : St₀ 0 h₃ := (W₀ A hh).frame _ _ _ hst fun b hb o e => hx₃ b o (nP b hb) e
  refine hQ _ _ (B₃.keeps G (by rw [Heap.size_push, hsz]; omega) keep₅) (fun b o hb e => keep₅ b o (hx₃ b o hb e)) (by show s₁.heap.objs.size ≤ (h'.push _).objs.size; rw [Heap.size_push, hsz]; omega) (fun hb => hb.push rfl) rfl
    ⟨h₃.objs.size, hle₃, ?_⟩
  refine ⟨_, _, _, WalksSF.genexp (A := A.in4) hh h'.objs.size s₁.gens.size h₃.objs.size (List.range h₃.objs.size) wr n F Fn haC haf hsub hroom (List.mem_range.mpr hclt) (Nat.ne_of_lt hclt) hcw
      (fun h h'' hF hk => (W₀ A hh).frameF _ _ hF fun b _ o e => hk b o e), ?_, fun i s' st => st.1.typeIs, List.mem_cons_self, ?_⟩
  · refine GenAtF.fresh (A := A.in4) (cenv := genEnv scope [] h₃.objs.size code builtinsNs env) (m := fun y => if y = ".0" then some (.ref I) else none) hh
      (fun A' hA => (W₀ A' hA).mono_fp fun b hb => List.mem_range.mpr (Nat.lt_of_lt_of_le (hfp b hb) hle₃)) hsz2 hab hxa hxb (by simp [genEnv, hkind]) hco
      (fun hm => Nat.lt_irrefl _ (List.mem_range.mp hm)) (hq _ _) ⟨_, _, _, Heap.get?_push_size _ rfl, rfl, rfl, rfl⟩ (Array.getElem?_push_size ..) ((W₀ A hh).frame _ _ _ hst₃ fun b _ o e => keep₅ b o e) (hn'.push _) (hl₃.keeps keep₅)
  · intro b hb
    show b < (h'.push _).objs.size
    rw [Heap.size_push, hsz]
    rcases List.mem_cons.mp hb with rfl | hb
    · rw [hsz]; exact Nat.lt_succ_self _
    · rcases List.mem_cons.mp hb with rfl | hb
      · exact Nat.lt_succ_of_lt (Nat.lt_succ_self _)
      · have := List.mem_range.mp hb
        exact Nat.lt_succ_of_lt (Nat.lt_succ_of_lt this)
end

end Mine

namespace Mine

def dAt (p : Program) (i : Nat) : DefRec := match p.main.body[i]? with
  | some (.FunctionDef n a b _ _ _ sc _ _ pos) => ⟨n, a, b, sc, pos⟩
  | _ => ⟨"", ⟨[], [], none, [], [], none, []⟩, [], ⟨.function, [], false, false, []⟩, ⟨0, 0, 0, 0⟩⟩
abbrev dK : DefRec := dAt PySem.Challenge.pw_dm0045_02 1
def eltK : Expr := match dK.body with
  | [.Return (some (.Call _ [.GeneratorExp e _ _ _] _ _)) _] => e
  | _ => .Constant .none 0 ⟨0, 0, 0, 0⟩
def scK : Scope := match dK.body with
  | [.Return (some (.Call _ [.GeneratorExp _ _ sc _] _ _)) _] => sc
  | _ => ⟨.function, [], false, false, []⟩

def keepC (c t : Nat) : Nat := if ((⟨#[t]⟩ : Str) == Str.ofString " ") = true then (if Txt.isspace ⟨#[c]⟩ = true then c else t) else t

theorem eltK_is {prog : Program} {w : World} {L f c C : Addr} {code : Value} {A : Around} {E : Value → Shared → Prop} {s : Shared} {x y : Nat} {t u : Tok} {m : Str → Option Value} {Q : Value → Shared → Prop}
    (hn : s.heap.Ns C m) (ha : m (Str.ofString "c") = some (.str ⟨#[x]⟩ t)) (hb : m (Str.ofString "tag_c") = some (.str ⟨#[y]⟩ u))
    (hQ : ∀ t' tk, Q (.str ⟨#[keepC x y]⟩ t') { s with toks := tk }) :
    wpAny (model prog w) A (eval eltK (genEnv scK [] C code builtinsNs (envOf dK.name dK.scope L f (.ref c)))) Q E s := by
  have F := frEmpty hn
  unfold eltK scK dK dAt PySem.Challenge.pw_dm0045_02
  dsimp only [List.getElem?_cons_succ, List.getElem?_cons_zero]
  repeat' walk1
  all_goals (
    unfold keepC at hQ
    simp only [*, if_true, if_false, Bool.false_eq_true] at hQ
    exact hQ _ _)

theorem ofString_nil : Str.ofString "" = ⟨#[]⟩ := by decide
theorem glued_fold : ∀ (l : List Nat) (acc : Array Nat), (l.map fun c => (⟨#[c]⟩ : Str)).foldl (fun acc p => acc ++ (#[] : Array Nat) ++ p.cps) acc = acc ++ l.toArray
  | [], acc => by simp
  | c :: l, acc => by
    rw [List.map_cons, List.foldl_cons, glued_fold l]
    apply Array.ext'
    simp
theorem glued_signs (l : List Nat) : Txt.join (Str.ofString "") (l.map fun c => (⟨#[c]⟩ : Str)) = ⟨l.toArray⟩ := by
  unfold Txt.join Builtin.Str.glued
  rw [ofString_nil]
  cases l with
  | nil => rfl
  | cons c l =>
    simp only [List.map_cons, List.drop_succ_cons, List.drop_zero, List.headD_cons]
    rw [glued_fold]
    simp
theorem join_ok (l : List Nat) (h : l.length ≤ 100000) : JoinOk (Str.ofString "") (l.map fun c => (⟨#[c]⟩ : Str)) = true := by
  refine joinOk_of ?_
  rw [ofString_nil]
  have : ((l.map fun c => (⟨#[c]⟩ : Str)).map (·.length)).sum = l.length := by
    clear h
    induction l with
    | nil => rfl
    | cons c l ih =>
      simp only [List.map_cons, List.sum_cons, List.length_cons]
      rw [ih]
      show 1 + _ = _
      omega
  rw [this]
  show l.length + _ * 0 ≤ _
  omega

section
variable {prog : Program} {w : World} {A : Around} {E : Value → Shared → Prop} {s : Shared} {H : Heap} {c P : Addr} {mg mb : Str → Option Value}

theorem keep_core {f : Addr} {o : Obj} {pm doc v1 v2 : Value} {Q : Value → Shared → Prop} (G : Gr H c P mg mb) (hzip : mg (Str.ofString "zip") = none)
    (ho : H.get? f = some o) (hd : o.data = .func (docDef dK.name dK.params dK.body dK.scope pm (.ref c) doc)) (hcd : H.CodeRec (.ref c) dK.name)
    (B : Bs H c P s.heap) (hh : A.handled = none) (hroom : A.depth + 5 < recursionLimit) (hb : AllBare s.gens)
    (ws : List Addr) (hws : ∀ b ∈ ws, H.objs.size ≤ b) (n : Nat) (hn : n ≤ 100000) (fx fy : Nat → Nat) (Fin : Heap → Prop)
    (hsrc : ∀ h₁ : Heap, s.heap.objs.size ≤ h₁.objs.size → (∀ b o, s.heap.get? b = some o → h₁.get? b = some o) → ∃ i j xs ys h1 h2 J J' Fn, Src v1 h₁ i xs h1 ∧ Src v2 h1 j ys h2 ∧ Feed prog w i j n fx fy J J' Fn ∧ J 0 h2 ∧
      (i ∈ ws ∨ s.heap.objs.size ≤ i) ∧ (j ∈ ws ∨ s.heap.objs.size ≤ j) ∧ (∀ h, Fn h → Fin h))
    (hQ : ∀ s' t, Bs H c P s'.heap → AllBare s'.gens → s'.os = s.os → (∀ b o, b ≠ P → b ∉ ws → s.heap.get? b = some o → s'.heap.get? b = some o) → Fin s'.heap →
      Q (.str ⟨((List.range n).map fun k => keepC (fx k) (fy k)).toArray⟩ t) s') :
    wpAny (model prog w) A (call (.ref f) [v1, v2]) Q E s := by
  have hf := B.get G ho (fun vs => by rw [hd]; nofun)
  have hroom0 : A.depth < recursionLimit := by omega
  refine wpAny_call (call_plain_ret hroom0 hf hd (B.nolimit G) (B.codeRec G hcd) (binds := [(Str.ofString "s", v1), (Str.ofString "tag_s", v2)]) rfl (locs rfl) (fun h₁ F₁ => ?_) rfl rfl rfl (by decide))
  have B₁ : Bs H c P h₁ := B.keeps G (Nat.le_of_lt (by have := F₁.ns.lt; exact this)) F₁.keep
  generalize hA' : A.deeper (envOf dK.name dK.scope s.heap.objs.size f (.ref c)) = A'
  have hh' : A'.handled = none := by subst hA'; exact hh
  have hroom' : A'.depth < recursionLimit := by subst hA'; show A.depth + 1 < _; omega
  unfold dK dAt PySem.Challenge.pw_dm0045_02
  dsimp only [List.getElem?_cons_succ, List.getElem?_cons_zero]
  walk1
  walk1
  walk1
  walk1
  walk1
  walk1
  walk1
  refine gen_make (n := n) (F := fun k v => ∃ u, v = .str ⟨#[keepC (fx k) (fy k)]⟩ u) G rfl rfl hh' rfl rfl (by decide) rfl rfl rfl (by decide) rfl hroom' ?_ (fun _ => rfl)
  walk1
  refine Name_function_global rfl rfl (loadGlobal_builtin (env := envOf _ _ _ _ _) (B₁.ns G G.g) hzip (B₁.ns G G.b) ((G.builtins _ (by decide)).trans (by boot_fast)) ?_)
  walk1
  walk1
  walk1
  walk1
  walk1
  walk1
  have hlt₁ : s.heap.objs.size < h₁.objs.size := F₁.ns.lt
  obtain ⟨i, j, xs, ys, h1, h2, J, J', Fn, s1, s2, W, hJ, hi, hj, hFin⟩ := hsrc h₁ (Nat.le_of_lt hlt₁) F₁.keep
  have iH : H.objs.size ≤ i := hi.elim (hws i) fun x => Nat.le_trans B.le x
  have jH : H.objs.size ≤ j := hj.elim (hws j) fun x => Nat.le_trans B.le x
  have k12 : ∀ b o, h₁.get? b = some o → h2.get? b = some o := fun b o e => s2.keep b o (s1.keep b o e)
  have l12 : h₁.objs.size ≤ h2.objs.size := Nat.le_trans s1.le s2.le
  refine call_zip s1 s2 fun h' z TI TO D hz hTI hTO zl TIl TOl hk' => ?_
  have i2 : i < h2.objs.size := (W.lt _ _ hJ).1
  have j2 : j < h2.objs.size := (W.lt _ _ hJ).2
  have hzs : z < h'.objs.size := Heap.lt_size hz
  have hl' : h2.objs.size ≤ h'.objs.size := Nat.le_of_lt (Nat.lt_of_le_of_lt zl hzs)
  have hbase : ∀ a, h2.objs.size ≤ a → H.objs.size ≤ a := fun a ha => Nat.le_trans B.le (Nat.le_trans (Nat.le_of_lt hlt₁) (Nat.le_trans l12 ha))
  have B' : Bs H c P h' := B₁.keeps G (Nat.le_trans l12 hl') fun b o e => hk' b o (k12 b o e)
  refine ⟨z, [z, TI, TO, i, j], [z, TO, i, j], PtOf fx fy, ZSt z TI TO i j J, ZMid z TI TO i j J, Fn, rfl, fun A'' hA'' => WalksF.zip hA'' W D, (fun k vals ⟨t, u, e⟩ => ⟨_, _, e⟩),
    ⟨hz, hTI, ⟨_, _, hTO⟩, W.frame _ _ _ hJ fun b _ o e => hk' b o e⟩, ?_, ?_, B', ?_, ?_⟩
  · intro b hb
    simp only [List.mem_cons, List.not_mem_nil, or_false] at hb
    rcases hb with rfl | rfl | rfl | rfl | rfl
    · exact hzs
    · exact Heap.lt_size hTI
    · exact Heap.lt_size hTO
    · exact Nat.lt_of_lt_of_le i2 hl'
    · exact Nat.lt_of_lt_of_le j2 hl'
  · intro b hb
    simp only [List.mem_cons, List.not_mem_nil, or_false] at hb
    rcases hb with rfl | rfl | rfl | rfl | rfl
    · exact hbase _ zl
    · exact hbase _ TIl
    · exact hbase _ TOl
    · exact iH
    · exact jH
  · rintro C code A'' E'' k va vb s'' m ⟨t, u, e⟩ hns ha hb'
    obtain ⟨e1, e2⟩ : va = _ ∧ vb = _ := by simpa using congrArg Array.toList e
    subst e1 e2
    exact eltK_is hns ha hb' fun t' tk => ⟨⟨t', rfl⟩, _, tk, rfl, fun _ _ e => e⟩
  · intro a s₅ B₅ hk₅ hl₅ hbare hos ⟨C, hC, fp, g, St, WS, hst, hT, ha, hfp⟩
    walk1
    refine joinF (WS.of_in1 (A := A'.in1.in1.in1)).of_in1 hT hst hfp ha (fun k => ⟨#[keepC (fx k) (fy k)]⟩) (fun k v hv => hv) ?_ ?_ (Nat.le_trans hn (by decide))
    · have := join_ok ((List.range n).map fun k => keepC (fx k) (fy k)) (by simpa using hn)
      rwa [List.map_map] at this
    · intro s' t' k hF hm
      have e := glued_signs ((List.range n).map fun k => keepC (fx k) (fy k))
      rw [List.map_map] at e
      have e' : Txt.join (Str.ofString "") (List.map (fun k => ({ cps := #[keepC (fx k) (fy k)] } : Str)) (List.range n)) = ⟨((List.range n).map fun k => keepC (fx k) (fy k)).toArray⟩ := e
      rw [e']
      have wrH : ∀ b ∈ C :: [z, TO, i, j], H.objs.size ≤ b := by
        intro b hb
        simp only [List.mem_cons, List.not_mem_nil, or_false] at hb
        rcases hb with rfl | rfl | rfl | rfl | rfl
        · exact hbase _ (Nat.le_trans hl' hC)
        · exact hbase _ zl
        · exact hbase _ TOl
        · exact iH
        · exact jH
      have hPH : P < H.objs.size := G.code.lt.2
      have hbare' := (hbare hb).movedS hm
      have hTI' : s'.heap.get? TI = some _ := hm.heap TI _ (fun hw => by
        simp only [List.mem_cons, List.not_mem_nil, or_false] at hw
        rcases hw with e | e | e | e | e
        · exact absurd (Heap.lt_size hTI) (Nat.not_lt.mpr (e ▸ hC))
        · exact D.TIz e
        · exact D.TITO e
        · exact D.iTI e.symm
        · exact D.jTI e.symm) (hk₅ TI _ (fun e => absurd hPH (Nat.not_lt.mpr (e ▸ hbase _ TIl))) hTI)
      refine hQ { s' with toks := k } t' ⟨fun b o hb e => hm.heap b o (fun hw => absurd (Heap.lt_size e) (Nat.not_lt.mpr (wrH b hw))) (B₅.keep b o hb e), ?_, ?_⟩ hbare' (hm.os.trans hos) ?_ (hFin _ hF)
      · obtain ⟨ps, hc, ht⟩ := B₅.tab
        have l := G.code.lt
        have kk : ∀ b o, b < H.objs.size → s₅.heap.get? b = some o → s'.heap.get? b = some o := fun b o hb e => hm.heap b o (fun hw => absurd hb (Nat.not_lt.mpr (wrH b hw))) e
        refine ⟨ps, ?_, ?_⟩
        · obtain ⟨o, vs, file, tf, flags, tg, inF, text, tt, op, ho, r1, r2, r3, r4, r5, r6, hop, r⟩ := hc
          exact ⟨o, vs, file, tf, flags, tg, inF, text, tt, op, kk _ _ l.1 ho, r1, r2, r3, r4, r5, r6, kk _ _ l.2 hop, r⟩
        · obtain ⟨⟨o, vs, a, r⟩, t⟩ := ht
          exact ⟨⟨o, vs, kk _ _ l.1 a, r⟩, kk _ _ l.2 t⟩
      · exact Nat.le_trans (hbase _ TIl) (Nat.le_of_lt (Heap.lt_size hTI'))
      · intro b o hbP hbw e
        refine hm.heap b o (fun hw => ?_) (hk₅ b o hbP (hk' b o (k12 b o (F₁.keep b o e))))
        have hlt := Heap.lt_size e
        have hs2 : s.heap.objs.size ≤ h2.objs.size := Nat.le_trans (Nat.le_of_lt hlt₁) l12
        simp only [List.mem_cons, List.not_mem_nil, or_false] at hw
        rcases hw with rfl | rfl | rfl | rfl | rfl
        · exact absurd hlt (Nat.not_lt.mpr (Nat.le_trans hs2 (Nat.le_trans hl' hC)))
        · exact absurd hlt (Nat.not_lt.mpr (Nat.le_trans hs2 zl))
        · exact absurd hlt (Nat.not_lt.mpr (Nat.le_trans hs2 TOl))
        · exact hi.elim hbw fun x => absurd hlt (Nat.not_lt.mpr x)
        · exact hj.elim hbw fun x => absurd hlt (Nat.not_lt.mpr x)
end

end Mine

namespace Mine

theorem range_zip (f : Nat → Nat → Nat) (xs ys : List Nat) : (List.range (min xs.length ys.length)).map (fun k => f (xs.getD k 0) (ys.getD k 0)) = List.zipWith f xs ys := by
  apply List.ext_getElem
  · simp
  · intro i h1 h2
    simp at h2
    have a1 : i < xs.length := by omega
    have a2 : i < ys.length := by omega
    simp [List.getD_eq_getElem?_getD, a1, a2]

/-- by turns: first, second, first, second .. -/
def turns (f : Nat → Nat → Nat) : List Nat → List Nat
  | a :: b :: r => f a b :: turns f r
  | _ => []
theorem turns_is (f : Nat → Nat → Nat) : ∀ zs : List Nat, (List.range (zs.length / 2)).map (fun k => f (zs.getD (2 * k) 0) (zs.getD (2 * k + 1) 0)) = turns f zs
  | [] => rfl
  | [a] => by simp [turns]
  | a :: b :: r => by
    have e : (a :: b :: r).length / 2 = r.length / 2 + 1 := by simp only [List.length_cons]; omega
    rw [e, List.range_succ_eq_map, List.map_cons, List.map_map]
    show _ = f a b :: turns f r
    rw [← turns_is f r]
    congr 1

section
variable {prog : Program} {w : World} {A : Around} {E : Value → Shared → Prop} {s : Shared} {H : Heap} {c P : Addr} {mg mb : Str → Option Value} {f : Addr} {o : Obj} {pm doc : Value} {Q : Value → Shared → Prop}

/-- the def stands at f -/
structure KeepAt (H : Heap) (c : Addr) (mg : Str → Option Value) (f : Addr) : Prop where
  zip : mg (Str.ofString "zip") = none
  there : ∃ o pm doc, H.get? f = some o ∧ o.data = .func (docDef dK.name dK.params dK.body dK.scope pm (.ref c) doc)
  codeRec : H.CodeRec (.ref c) dK.name

theorem keep_text_text (G : Gr H c P mg mb) (K : KeepAt H c mg f) (B : Bs H c P s.heap) (hh : A.handled = none) (hroom : A.depth + 5 < recursionLimit) (hb : AllBare s.gens)
    {x y : Str} {t u : Tok} (hx : x.cps.all (· < 128) = true) (hy : y.cps.all (· < 128) = true) (hn : min x.cps.size y.cps.size ≤ 100000)
    (hQ : ∀ s' t, Bs H c P s'.heap → AllBare s'.gens → s'.os = s.os → (∀ b o, b ≠ P → s.heap.get? b = some o → s'.heap.get? b = some o) →
      Q (.str ⟨(List.zipWith keepC x.cps.toList y.cps.toList).toArray⟩ t) s') :
    wpAny (model prog w) A (call (.ref f) [.str x t, .str y u]) Q E s := by
  obtain ⟨o, pm, doc, ho, hd⟩ := K.there
  refine keep_core G K.zip ho hd K.codeRec B hh hroom hb [] (by simp) (min x.cps.toList.length y.cps.toList.length) (by simpa using hn) (fun k => x.cps.toList.getD k 0) (fun k => y.cps.toList.getD k 0) (fun _ => True) (fun h₁ hl hk => ?_) ?_
  · have s1 : Src (.str x t) h₁ h₁.objs.size x.cps.toList (h₁.push (itObj x t)) := .inl ⟨x, t, rfl, hx, rfl, rfl, rfl⟩
    have s2 : Src (.str y u) (h₁.push (itObj x t)) (h₁.push (itObj x t)).objs.size y.cps.toList ((h₁.push (itObj x t)).push (itObj y u)) := .inl ⟨y, u, rfl, hy, rfl, rfl, rfl⟩
    refine ⟨_, _, _, _, _, _, _, _, _, s1, s2, Feed.apart x.cps.toList y.cps.toList (by rw [Heap.size_push]; exact Nat.ne_of_lt (Nat.lt_succ_self _)), ⟨s1.rem.at (s2.keep _), s2.rem⟩, .inr hl, .inr (Nat.le_trans hl (by rw [Heap.size_push]; exact Nat.le_succ _)), fun _ _ => trivial⟩
  · intro s' t' B' hb' hos hk _
    rw [range_zip]
    exact hQ s' t' B' hb' hos fun b o hbP e => hk b o hbP (by simp) e

theorem keep_iter_text (G : Gr H c P mg mb) (K : KeepAt H c mg f) (B : Bs H c P s.heap) (hh : A.handled = none) (hroom : A.depth + 5 < recursionLimit) (hb : AllBare s.gens)
    {i : Addr} {xs : List Nat} {y : Str} {u : Tok} (r : Rem s.heap i xs) (hi : H.objs.size ≤ i) (hy : y.cps.all (· < 128) = true) (hn : y.cps.size ≤ 100000)
    (hQ : ∀ s' t, Bs H c P s'.heap → AllBare s'.gens → s'.os = s.os → (∀ b o, b ≠ P → b ≠ i → s.heap.get? b = some o → s'.heap.get? b = some o) → Rem s'.heap i (xs.drop (y.cps.size + 1)) →
      Q (.str ⟨(List.zipWith keepC xs y.cps.toList).toArray⟩ t) s') :
    wpAny (model prog w) A (call (.ref f) [.ref i, .str y u]) Q E s := by
  obtain ⟨o, pm, doc, ho, hd⟩ := K.there
  refine keep_core G K.zip ho hd K.codeRec B hh hroom hb [i] (by simpa using hi) (min xs.length y.cps.toList.length) (by simp; omega) (fun k => xs.getD k 0) (fun k => y.cps.toList.getD k 0) (fun h => Rem h i (xs.drop (y.cps.size + 1))) (fun h₁ hl hk => ?_) ?_
  · have s1 : Src (.ref i) h₁ i xs h₁ := .inr ⟨rfl, r.at (hk i), rfl⟩
    have s2 : Src (.str y u) h₁ h₁.objs.size y.cps.toList (h₁.push (itObj y u)) := .inl ⟨y, u, rfl, hy, rfl, rfl, rfl⟩
    refine ⟨_, _, _, _, _, _, _, _, _, s1, s2, Feed.apart xs y.cps.toList (Nat.ne_of_lt (Nat.lt_of_lt_of_le r.lt hl)), ⟨s1.rem.at (s2.keep _), s2.rem⟩, .inl (by simp), .inr hl, fun h hF => by simpa using hF.1⟩
  · intro s' t' B' hb' hos hk hF
    rw [range_zip]
    exact hQ s' t' B' hb' hos (fun b o hbP hbi e => hk b o hbP (by simpa using hbi) e) hF

theorem keep_text_iter (G : Gr H c P mg mb) (K : KeepAt H c mg f) (B : Bs H c P s.heap) (hh : A.handled = none) (hroom : A.depth + 5 < recursionLimit) (hb : AllBare s.gens)
    {j : Addr} {ys : List Nat} {x : Str} {t : Tok} (r : Rem s.heap j ys) (hj : H.objs.size ≤ j) (hx : x.cps.all (· < 128) = true) (hn : x.cps.size ≤ 100000)
    (hQ : ∀ s' t, Bs H c P s'.heap → AllBare s'.gens → s'.os = s.os → (∀ b o, b ≠ P → b ≠ j → s.heap.get? b = some o → s'.heap.get? b = some o) → Rem s'.heap j (ys.drop x.cps.size) →
      Q (.str ⟨(List.zipWith keepC x.cps.toList ys).toArray⟩ t) s') :
    wpAny (model prog w) A (call (.ref f) [.str x t, .ref j]) Q E s := by
  obtain ⟨o, pm, doc, ho, hd⟩ := K.there
  refine keep_core G K.zip ho hd K.codeRec B hh hroom hb [j] (by simpa using hj) (min x.cps.toList.length ys.length) (by simp; omega) (fun k => x.cps.toList.getD k 0) (fun k => ys.getD k 0) (fun h => Rem h j (ys.drop x.cps.size)) (fun h₁ hl hk => ?_) ?_
  · have s1 : Src (.str x t) h₁ h₁.objs.size x.cps.toList (h₁.push (itObj x t)) := .inl ⟨x, t, rfl, hx, rfl, rfl, rfl⟩
    have s2 : Src (.ref j) (h₁.push (itObj x t)) j ys (h₁.push (itObj x t)) := .inr ⟨rfl, r.at fun o e => s1.keep _ o (hk j o e), rfl⟩
    refine ⟨_, _, _, _, _, _, _, _, _, s1, s2, Feed.apart x.cps.toList ys (Nat.ne_of_gt (Nat.lt_of_lt_of_le r.lt hl)), ⟨s1.rem, s2.rem⟩, .inr hl, .inl (by simp), fun h hF => by simpa using hF.2⟩
  · intro s' t' B' hb' hos hk hF
    rw [range_zip]
    exact hQ s' t' B' hb' hos (fun b o hbP hbi e => hk b o hbP (by simpa using hbi) e) hF

theorem keep_iter_same (G : Gr H c P mg mb) (K : KeepAt H c mg f) (B : Bs H c P s.heap) (hh : A.handled = none) (hroom : A.depth + 5 < recursionLimit) (hb : AllBare s.gens)
    {i : Addr} {zs : List Nat} (r : Rem s.heap i zs) (hi : H.objs.size ≤ i) (hn : zs.length ≤ 100000)
    (hQ : ∀ s' t, Bs H c P s'.heap → AllBare s'.gens → s'.os = s.os → (∀ b o, b ≠ P → b ≠ i → s.heap.get? b = some o → s'.heap.get? b = some o) →
      Q (.str ⟨(turns keepC zs).toArray⟩ t) s') :
    wpAny (model prog w) A (call (.ref f) [.ref i, .ref i]) Q E s := by
  obtain ⟨o, pm, doc, ho, hd⟩ := K.there
  refine keep_core G K.zip ho hd K.codeRec B hh hroom hb [i] (by simpa using hi) (zs.length / 2) (by omega) (fun k => zs.getD (2 * k) 0) (fun k => zs.getD (2 * k + 1) 0) (fun _ => True) (fun h₁ hl hk => ?_) ?_
  · have s1 : Src (.ref i) h₁ i zs h₁ := .inr ⟨rfl, r.at (hk i), rfl⟩
    refine ⟨_, _, _, _, _, _, _, _, _, s1, s1, Feed.same zs, ?_, .inl (by simp), .inl (by simp), fun h hF => trivial⟩
    exact s1.rem
  · intro s' t' B' hb' hos hk hF
    rw [turns_is]
    exact hQ s' t' B' hb' hos (fun b o hbP hbi e => hk b o hbP (by simpa using hbi) e)
end

end Mine

namespace Mine

section
variable {prog : Program} {w : World} {A : Around} {E : Value → Shared → Prop} {s : Shared} {env : Env}

/-- a for over any walk, by an invariant over the frame's map and the whole state; no exception, no early end -/
theorem loop_rule {R : Result → Shared → Prop} {x : Str} {px : Pos} {body : List Stmt} {I : Addr} {fp wr : List Addr} {n : Nat} {Pw : Nat → Value → Prop} {St : Nat → Heap → Prop} {m : Str → Option Value}
    (W : Walks prog w A I fp wr n Pw St) (hx : env.kindOf x = some .local) (hp : (env.scope.kind == .class || (env.scope.kind == .module && env.locals != env.globals)) = false)
    (hLf : env.locals ∉ fp) (hst : St 0 s.heap) (hns : s.heap.Ns env.locals m) (J : Nat → (Str → Option Value) → Shared → Prop) (h0 : J 0 m s)
    (hJ : ∀ i m s h' tk m', J i m s → h'.Ns env.locals m' → (∀ b o, b ∉ wr → b ≠ env.locals → s.heap.get? b = some o → h'.get? b = some o) → J i m { s with heap := h', toks := tk })
    (step : ∀ i v m₁ s₁ (Q : Flow → Shared → Prop), i < n → Pw i v → J i m₁ s₁ → St (i + 1) s₁.heap → s₁.heap.Ns env.locals (fun y => if y = x then some v else m₁ y) →
      (∀ s₂ m₂, St (i + 1) s₂.heap → s₂.heap.Ns env.locals m₂ → J (i + 1) m₂ s₂ → Q .next s₂) → wpAny (model prog w) A (execs body env) Q (fun _ _ => False) s₁)
    (hR : ∀ s' m', s'.heap.Ns env.locals m' → J n m' s' → R (.ok .next) s') :
    codeAny (model prog w) A (.forLoop (.Name x px) (.ref I) body [] env) R s := by
  have hLw : env.locals ∉ wr := fun h => hLf (W.sub _ h)
  refine codeAny_forLoop (fun k s' => ∃ i m', i ≤ n ∧ k = n + 1 - i ∧ St i s'.heap ∧ s'.heap.Ns env.locals m' ∧ J i m' s') ?_ (n + 1) ⟨0, m, Nat.zero_le _, rfl, hst, hns, h0⟩
  rintro k s' ⟨i, m', hi, rfl, hst', hn', hJ'⟩
  by_cases hlt : i < n
  · refine W.item i _ _ _ hlt hst' fun v h₁ tk₁ hP hst₁ hk₁ => ?_
    have hn₁ : h₁.Ns env.locals m' := hn'.at' fun o e => hk₁ _ o hLw e
    refine wpAny_assign_Name (wpAny_storeName_local hx hn₁ (fun h₂ hn₂ hs₂ => ?_) hp)
    have hJ₂ : J i m' { s' with heap := h₂, toks := tk₁ + 1 } := hJ i m' s' h₂ _ _ hJ' hn₂ fun b o hbw hbL e => hs₂.extBut b o hbL (hk₁ b o hbw e)
    have hst₂ : St (i + 1) h₂ := W.frame _ _ _ hst₁ fun b hb o e => hs₂.extBut b o (fun h => hLf (h ▸ hb)) e
    refine wpAny_mono (step i v m' _ _ hlt hP hJ₂ hst₂ hn₂ fun s₃ m₃ hst₃ hn₃ hJ₃ => ?_) (fun _ _ e => e) fun _ _ e => e.elim
    exact ⟨n + 1 - (i + 1), by omega, i + 1, m₃, hlt, rfl, hst₃, hn₃, hJ₃⟩
  · have hin : i = n := by omega
    subst hin
    refine W.done _ _ _ hst' fun h₁ tk₁ hk₁ => wpAny_execs_nil ?_
    have hn₁ : h₁.Ns env.locals m' := hn'.at' fun o e => hk₁ _ o hLw e
    exact hR _ m' hn₁ (hJ _ m' s' h₁ tk₁ _ hJ' hn₁ fun b o hbw _ e => hk₁ b o hbw e)
end

end Mine

namespace Mine

section
variable {prog : Program} {w : World} {A : Around} {E : Value → Shared → Prop} {s : Shared}
theorem range_iter {n : Nat} {t : Tok} {K : Value → Shared → Prop} (hn : n < 2 ^ 62)
    (h : ∀ h' tk I, IsRangeIter h' I 0 n 1 → s.heap.objs.size ≤ I → (∀ b o, s.heap.get? b = some o → h'.get? b = some o) → K (.ref I) { s with heap := h', toks := tk }) :
    wpAny (model prog w) A (call (.type "range") [.int n t]) (fun x s₁ => wpAny (model prog w) A (pyIter x) K E s₁) E s := by
  refine call_range_1 ?_
  refine wpAny_pyIter_range (IsRange.new ..) (small_one (by decide) (by decide) (by omega) (by omega)) ?_
  have e : Builtin.Range.rangeSize 0 (n : Int) 1 = (n : Int) := by
    rw [rangeSize_one]
    split
    · omega
    · omega
  rw [e]
  refine h _ _ _ (Heap.get?_push_size _ rfl) ?_ fun b o x => Heap.get?_push_of_some _ (Heap.get?_push_of_some _ x)
  show s.heap.objs.size ≤ (s.heap.push _).objs.size
  rw [Heap.size_push]; exact Nat.le_succ _
theorem min_len {a b : Nat} {t u : Tok} {Q : Value → Shared → Prop} (hh : A.handled = none)
    (h : ∀ h' tk t', (∀ c o, s.heap.get? c = some o → h'.get? c = some o) → Q (.int ((min a b : Nat) : Int) t') { s with heap := h', toks := tk }) :
    wpAny (model prog w) A (call (.builtin "min") [.int (a : Int) t, .int (b : Int) u]) Q E s := by
  refine min_two_ints hh fun h' tk hk => ?_
  split
  · have := h h' tk u hk
    rwa [Nat.min_eq_right (by omega)] at this
  · have := h h' tk t hk
    rwa [Nat.min_eq_left (by omega)] at this
end

/-- is the sign in the written text of six white ones -/
def white6 (c : Nat) : Bool := !(Builtin.Str.occurrences (Str.ofString "\t \n\x0b\x0c\x0d") ⟨#[c]⟩ 0 (Str.ofString "\t \n\x0b\x0c\x0d").length 1).isEmpty
/-- what _law_laid lays of a sign and its tag -/
def laidC (c t : Nat) : Nat := if white6 c = true then (if t = 32 then c else t) else t

theorem item_is {x : Str} {i : Nat} (h : i < x.cps.size) : Txt.item x (i : Int) = ⟨#[x.cps[i]]⟩ := by
  unfold Txt.item Txt.charAt
  have e : seqIndex? (i : Int) x.length = some i := by
    unfold seqIndex?
    have h1 : x.length = x.cps.size := rfl
    have h2 : ¬ ((i : Int) < 0) := by omega
    simp only [h1, if_neg h2]
    rw [if_pos (by simp; omega), Int.toNat_natCast]
  rw [e]
  simp [h]

theorem ofString_blank : Str.ofString " " = ⟨#[32]⟩ := by decide
theorem occ_one (t d : Nat) : Builtin.Str.occurrences ⟨#[t]⟩ ⟨#[d]⟩ 0 1 2 = if t = d then [0] else [] := by
  rw [StrLaws.occ_eq]
  have e1 : Builtin.Str.subAt ⟨#[t]⟩ ⟨#[d]⟩ 0 = decide (t = d) := by
    unfold Builtin.Str.subAt
    show ((#[t] : Array Nat).extract 0 (0 + 1) == #[d]) = _
    by_cases h : t = d
    · subst h; simp
    · simp [h]
  have l1 : (⟨#[d]⟩ : Str).length = 1 := rfl
  simp only [List.range', List.forIn_cons, List.forIn_nil, StrLaws.occBody, l1, e1]
  by_cases h : t = d
  · subst h; simp
  · simp [h]

theorem replace_sign (t c : Nat) : Txt.replace ⟨#[t]⟩ (Str.ofString " ") ⟨#[c]⟩ = ⟨#[if t = 32 then c else t]⟩ := by
  rw [ofString_blank]
  unfold Txt.replace
  have l1 : (⟨#[t]⟩ : Str).length = 1 := rfl
  have l2 : (⟨#[32]⟩ : Str).length = 1 := rfl
  rw [l1, l2, occ_one]
  by_cases h : t = 32
  · subst h
    simp [Builtin.Str.partsBetween, Builtin.Str.glued, Builtin.Str.strSub]
  · simp [h]

abbrev mapL (x y acc : Str) (t u v : Tok) (z : Str) : Option Value :=
  if z = Str.ofString "laid" then some (.str acc v) else List.lookup z [((Str.ofString "signs" : Str), Value.str x t), ((Str.ofString "tags" : Str), Value.str y u)].reverse

abbrev txt (l : List Nat) : Str := ⟨l.toArray⟩
theorem txt_snoc (l : List Nat) (c : Nat) : txt l ++ (⟨#[c]⟩ : Str) = txt (l ++ [c]) := by
  show (⟨l.toArray ++ #[c]⟩ : Str) = ⟨(l ++ [c]).toArray⟩
  congr 1
  apply Array.ext'
  simp
theorem take_zip {f : Nat → Nat → Nat} {xs ys : List Nat} {i : Nat} (h1 : i < xs.length) (h2 : i < ys.length) : (List.zipWith f xs ys).take (i + 1) = (List.zipWith f xs ys).take i ++ [f xs[i] ys[i]] := by
  rw [List.take_add_one, List.getElem?_zipWith, List.getElem?_eq_getElem h1, List.getElem?_eq_getElem h2]
  rfl

abbrev dL : DefRec := dAt PySem.Challenge.pw_dm0045_02 3

section
variable {prog : Program} {w : World} {A : Around} {E : Value → Shared → Prop} {s : Shared} {H : Heap} {c P : Addr} {mg mb : Str → Option Value}

theorem laid_body {Q : Flow → Shared → Prop} {f : Addr} {cd : Value} {L : Addr} {x y : Str} {t u : Tok} {h₀ : Heap}
    (F : Fr h₀ L s.heap fun z => [((Str.ofString "signs" : Str), Value.str x t), ((Str.ofString "tags" : Str), Value.str y u)].reverse.lookup z) (hx : x.length ≤ 1000) (hy : y.length ≤ 1000)
    (GL : Glob 0 mg mb [] [] [] nms h₀) (hnb₀ : NoneBooked h₀) (hh : A.handled = none)
    (hQ : ∀ s' m' t', Fr h₀ L s'.heap m' → s'.gens = s.gens → s'.os = s.os → Q (.ret (.str (txt (List.zipWith laidC x.cps.toList y.cps.toList)) t')) s') :
    wpAny (model prog w) A (execs dL.body (envOf dL.name dL.scope L f cd)) Q (fun _ _ => False) s := by
  have N : News h₀ L s.heap [] := News.nil
  unfold dL dAt PySem.Challenge.pw_dm0045_02
  dsimp only [List.getElem?_cons_succ, List.getElem?_cons_zero]
  walk1
  walk1
  walk1
  walk1
  walk1
  refine wpAny_For ?_ (fun _ => rfl)
  repeat' walk1
  refine min_len hh fun h₁ tk₁ t₁ hk₁ => ?_
  rename_i hL F' N'
  walk1
  have hlx : x.length = x.cps.size := rfl
  have hly : y.length = y.cps.size := rfl
  refine range_iter (by omega) fun h₂ tk₂ I hI hIle hk₂ => ?_
  have F₂ : Fr h₀ L h₂ (mapL x y (Str.ofString "") t u s.toks) := F'.keeps fun b o e => hk₂ b o (hk₁ b o e)
  have hLI : L < I := Nat.lt_of_lt_of_le ((F'.ns.keeps hk₁).lt) hIle
  have hI0 : h₀.get? I = none := by
    cases hq : h₀.get? I with
    | none => rfl
    | some o => exact absurd (Nat.lt_trans (Nat.lt_of_lt_of_le (Heap.lt_size hq) F.above) hLI) (Nat.lt_irrefl _)
  refine loop_rule (m := mapL x y (Str.ofString "") t u s.toks) (Walks.range hh I 0 1 (min x.length y.length)) rfl rfl ?_ ?_ F₂.ns
    (fun i m s' => ∃ v, (∀ z, z ≠ Str.ofString "k" → m z = mapL x y (txt ((List.zipWith laidC x.cps.toList y.cps.toList).take i)) t u v z) ∧ (∀ b o, h₀.get? b = some o → s'.heap.get? b = some o) ∧ s'.gens = s.gens ∧ s'.os = s.os) ?_ ?_ ?_ ?_
  · exact fun hm => absurd (List.mem_singleton.mp hm) (Nat.ne_of_lt hLI)
  · simpa using hI
  · exact ⟨s.toks, fun z _ => by simp [txt, ofString_nil], fun b o e => F₂.keep b o e, rfl, rfl⟩
  · rintro i m s' h' tk m' ⟨v, hm, hk, hg, hos⟩ _ hkeep
    refine ⟨v, hm, fun b o e => hkeep b o (fun hb => ?_) (fun hb => ?_) (hk b o e), hg, hos⟩
    · rw [List.mem_singleton.mp hb, hI0] at e; cases e
    · exact absurd (Nat.lt_of_lt_of_le (Heap.lt_size e) F.above) (hb ▸ Nat.lt_irrefl _)
  · rintro i v m₁ s₁ Q' hi ⟨tk, rfl⟩ ⟨v', hm, hk, hg, hos⟩ hst hns hQ'
    have e : (fun z => if z = Str.ofString "k" then some (Value.int (0 + (i : Int) * 1) tk) else m₁ z) = fun z => if z = Str.ofString "k" then some (Value.int (i : Int) tk) else mapL x y (txt ((List.zipWith laidC x.cps.toList y.cps.toList).take i)) t u v' z := by
      funext z
      by_cases hz : z = Str.ofString "k"
      · rw [if_pos hz, if_pos hz]; congr 2; omega
      · rw [if_neg hz, if_neg hz, hm z hz]
    rw [e] at hns
    have F₁ : Fr h₀ L s₁.heap _ := ⟨hns, hk, F.above⟩
    have N₁ : News h₀ L s₁.heap [(I, _)] := fun p hp => by rw [List.mem_singleton.mp hp]; exact ⟨hst, Nat.ne_of_gt hLI, hI0⟩
    have hnb : NoneBooked s₁.heap := let ⟨mc, a, b⟩ := hnb₀; ⟨mc, a.keeps hk, b⟩
    have hab := F.above
    clear F F' F₂ N N' e hns hm
    have hi0 : (0 : Int) ≤ i := by omega
    have hi1 : (i : Int) < x.length := by omega
    have hi2 : (i : Int) < y.length := by omega
    have hal : (txt ((List.zipWith laidC x.cps.toList y.cps.toList).take i)).length ≤ 1000 := by
      show (List.toArray _).size ≤ 1000
      simp
      omega
    generalize hacc : txt ((List.zipWith laidC x.cps.toList y.cps.toList).take i) = acc at F₁ hal
    have hx' : i < x.cps.size := by omega
    have hy' : i < y.cps.size := by omega
    have fin : ∀ (s₂ : Shared) (v : Tok), Fr h₀ L s₂.heap (fun z => if z = Str.ofString "laid" then some (Value.str (acc ++ (⟨#[laidC x.cps[i] y.cps[i]]⟩ : Str)) v) else if z = Str.ofString "k" then some (Value.int (i : Int) tk) else mapL x y acc t u v' z) →
        News h₀ L s₂.heap [(I, _)] → s₂.gens = s₁.gens → s₂.os = s₁.os → Q' .next s₂ := fun s₂ v F₃ N₃ hg₃ hos₃ => by
      refine hQ' s₂ _ (N₃ _ List.mem_cons_self).1 F₃.ns ⟨v, fun z hz => ?_, F₃.keep, hg₃.trans hg, hos₃.trans hos⟩
      have ea : acc ++ (⟨#[laidC x.cps[i] y.cps[i]]⟩ : Str) = txt ((List.zipWith laidC x.cps.toList y.cps.toList).take (i + 1)) := by
        rw [← hacc, txt_snoc, take_zip (by simpa using hx') (by simpa using hy')]
        simp
      rw [ea]
      by_cases h1 : z = Str.ofString "laid"
      · simp [h1, mapL]
      · simp [h1, hz, mapL]
    repeat' walk1
    · rename_i hw _ _ _ _ _ Fz Nz
      rw [item_is hx'] at hw
      rw [item_is hy'] at Fz
      have e1 : laidC x.cps[i] y.cps[i] = y.cps[i] := by
        unfold laidC white6
        rw [hw]
        simp
      exact fin _ _ (by rw [e1]; exact Fz) Nz rfl rfl
    · rename_i hw _ _
      refine SC.replaceA ?_ ?_ ?_ ?_ (fun t' k => ?_) hnb
      · exact Nat.succ_ne_zero _
      · exact Nat.succ_ne_zero _
      · exact Nat.ne_of_lt (Nat.lt_succ_self _)
      · rw [item_is hx', item_is hy']; exact (by decide : 1 + (1 + 1) * 1 ≤ 16777216)
      · rw [item_is hx'] at hw
        rw [item_is hx', item_is hy', replace_sign]
        have e1 : laidC x.cps[i] y.cps[i] = if y.cps[i] = 32 then x.cps[i] else y.cps[i] := by
          unfold laidC white6
          rw [hw]
          simp
        rw [← e1]
        have hl1 : (⟨#[laidC x.cps[i] y.cps[i]]⟩ : Str).length ≤ 1 := Nat.le_refl 1
        repeat' walk1
        · rename_i Fz Nz
          exact fin _ _ Fz Nz rfl rfl
  · rintro s' m' hn' ⟨v, hm, hk, hg, hos⟩
    have hlen : (List.zipWith laidC x.cps.toList y.cps.toList).take (min x.length y.length) = List.zipWith laidC x.cps.toList y.cps.toList := by
      apply List.take_of_length_le
      simp [hlx, hly]
    rw [hlen] at hm
    have Fe : Fr h₀ L s'.heap m' := ⟨hn', hk, F.above⟩
    have hl := hm (Str.ofString "laid") (by decide)
    clear F F' F₂ N N'
    dsimp only
    walk1
    walk1
    refine ld Fe hl ?_
    exact hQ _ m' _ Fe hg hos

/-- a def of the module stands at f -/
def DefAt (H : Heap) (d : DefRec) (f : Addr) : Prop := ∃ o pm cd doc, H.get? f = some o ∧ o.data = .func (docDef d.name d.params d.body d.scope pm cd doc) ∧ H.CodeRec cd d.name

theorem laid_call {f : Addr} {Q : Value → Shared → Prop} (G : Gr H c P mg mb) (D : DefAt H dL f) (B : Bs H c P s.heap) (hh : A.handled = none) (hroom : A.depth + 5 < recursionLimit)
    {x y : Str} {t u : Tok} (hx : x.length ≤ 1000) (hy : y.length ≤ 1000)
    (hQ : ∀ s' t', (∀ b o, s.heap.get? b = some o → s'.heap.get? b = some o) → s.heap.objs.size ≤ s'.heap.objs.size → s'.gens = s.gens → s'.os = s.os →
      Q (.str (txt (List.zipWith laidC x.cps.toList y.cps.toList)) t') s') :
    wpAny (model prog w) A (call (.ref f) [.str x t, .str y u]) Q E s := by
  obtain ⟨o, pm, cd, doc, ho, hd, hcd⟩ := D
  refine wpAny_call (call_plain_ret (by omega) (B.get G ho (fun vs => by rw [hd]; nofun)) hd (B.nolimit G) (B.codeRec G hcd) (binds := [(Str.ofString "signs", .str x t), (Str.ofString "tags", .str y u)]) rfl (locs rfl) (fun h₁ F₁ => ?_) rfl rfl rfl (by decide))
  refine laid_body F₁ hx hy (B.glob G) (B.booked G) hh fun s' m' t' F' hg hos => ?_
  exact hQ s' t' F'.keep (Nat.le_of_lt F'.ns.lt) hg hos
end

end Mine

namespace Mine
open PySem.Builtin PySem.Builtin.Str

theorem clip_mid (p c n : Nat) : strSliceIndices (some (p : Int)) (some ((p : Int) + (c : Int))) 1 n = strSliceIndices (some ((min p n : Nat) : Int)) (some ((min (p + c) n : Nat) : Int)) 1 n := by
  have h2 : (1 : Int) > 0 := by decide
  have a1 : ¬ ((p : Int) < 0) := by omega
  have a2 : ¬ ((p : Int) + (c : Int) < 0) := by omega
  have a3 : ¬ (((min p n : Nat) : Int) < 0) := by omega
  have a4 : ¬ (((min (p + c) n : Nat) : Int) < 0) := by omega
  simp only [strSliceIndices, a1, a2, a3, a4, h2, if_false, if_true]
  have e1 : max 0 (min (p : Int) (n : Int)) = max 0 (min ((min p n : Nat) : Int) (n : Int)) := by omega
  have e2 : max 0 (min ((p : Int) + (c : Int)) (n : Int)) = max 0 (min ((min (p + c) n : Nat) : Int) (n : Int)) := by omega
  rw [e1, e2]
theorem slice_mid (x : Str) (p c : Nat) : Txt.slice x (some (p : Int)) (some ((p : Int) + (c : Int))) = txt ((x.cps.toList.drop p).take c) := by
  have e2 : Txt.slice x (some (p : Int)) (some ((p : Int) + (c : Int))) = Txt.slice x (some ((min p x.length : Nat) : Int)) (some ((min (p + c) x.length : Nat) : Int)) := by
    unfold Txt.slice
    rw [clip_mid]
  have hl : x.cps.toList.length = x.length := by simp; rfl
  have hl' : x.cps.size = x.length := rfl
  rw [e2, beq_iff_eq.mp (slice_closes (x := x) (i := ((min p x.length : Nat) : Int)) (j := ((min (p + c) x.length : Nat) : Int)) (by rw [hl]; omega))]
  congr 2
  rw [Int.toNat_natCast]
  rcases Nat.le_total p x.length with h | h
  · rw [Nat.min_eq_left h]
    rcases Nat.le_total (p + c) x.length with h' | h'
    · rw [Nat.min_eq_left h']
      congr 1
      omega
    · rw [Nat.min_eq_right h', List.take_of_length_le (by simp; omega), List.take_of_length_le (by simp; omega)]
  · rw [Nat.min_eq_right h, List.drop_of_length_le (by omega), List.drop_of_length_le (by omega)]
    simp
theorem slice_from (x : Str) (p : Nat) : Txt.slice x (some (p : Int)) none = txt (x.cps.toList.drop p) := by
  have hl : x.cps.toList.length = x.length := by simp; rfl
  have hl' : x.cps.size = x.length := rfl
  rcases Nat.le_total p x.length with h | h
  · rw [slice_from_eq (b := (x.length : Int)) (by omega) (by omega) rfl]
    congr 2
    rw [Int.toNat_natCast, List.take_of_length_le (by simp; omega)]
  · rw [slice_beyond (by omega), List.drop_of_length_le (by omega)]
    rfl

/-- every other one, from the first on, from the second on -/
def evens : List Nat → List Nat
  | a :: _ :: r => a :: evens r
  | [a] => [a]
  | [] => []
def odds : List Nat → List Nat
  | _ :: b :: r => b :: odds r
  | _ => []
theorem evens_is : ∀ l : List Nat, evens l = ((List.range ((l.length + 1) / 2)).map (fun k => l.getD (2 * k) 0))
  | [] => rfl
  | [a] => by simp [evens, List.range_succ]
  | a :: b :: r => by
    have e : ((a :: b :: r).length + 1) / 2 = (r.length + 1) / 2 + 1 := by simp only [List.length_cons]; omega
    rw [e, List.range_succ_eq_map, List.map_cons, List.map_map]
    show a :: evens r = _
    rw [evens_is r]
    congr 1
theorem odds_is : ∀ l : List Nat, odds l = ((List.range (l.length / 2)).map (fun k => l.getD (2 * k + 1) 0))
  | [] => rfl
  | [a] => by simp [odds]
  | a :: b :: r => by
    have e : (a :: b :: r).length / 2 = r.length / 2 + 1 := by simp only [List.length_cons]; omega
    rw [e, List.range_succ_eq_map, List.map_cons, List.map_map]
    show b :: odds r = _
    rw [odds_is r]
    congr 1
theorem turns_zip (f : Nat → Nat → Nat) : ∀ l : List Nat, turns f l = List.zipWith f (evens l) (odds l)
  | [] => rfl
  | [a] => rfl
  | a :: b :: r => by
    show f a b :: turns f r = f a b :: List.zipWith f (evens r) (odds r)
    rw [turns_zip f r]

theorem filterMap_range (l : List Nat) (g : Nat → Nat) : ∀ n : Nat, (∀ k, k < n → g k < l.length) → ((List.range n).map g).filterMap (fun i => l.toArray[i]?) = (List.range n).map (fun k => l.getD (g k) 0)
  | 0, _ => rfl
  | n + 1, h => by
    rw [List.range_succ, List.map_append, List.filterMap_append, filterMap_range l g n (fun k hk => h k (by omega)), List.map_append]
    have := h n (by omega)
    simp [List.getD_eq_getElem?_getD, this]

theorem indices_even (n : Nat) : strSliceIndices none none 2 n = (List.range ((n + 1) / 2)).map fun k => 2 * k := by
  simp only [strSliceIndices, sliceRange]
  have h2 : (2 : Int) > 0 := by decide
  simp only [h2, if_true]
  have e : (if (0 : Int) < (n : Int) then ((n : Int) - 0 + 2 - 1) / 2 else 0).toNat = (n + 1) / 2 := by split <;> omega
  rw [e]
  apply List.map_congr_left
  intro k _
  omega
theorem indices_odd (n : Nat) : strSliceIndices (some 1) none 2 n = (List.range (n / 2)).map fun k => 2 * k + 1 := by
  simp only [strSliceIndices, sliceRange]
  have h2 : (2 : Int) > 0 := by decide
  have h1 : ¬ ((1 : Int) < 0) := by decide
  simp only [h1, h2, if_true, if_false]
  rcases Nat.eq_zero_or_pos n with rfl | hn
  · rfl
  · have e0 : max 0 (min (1 : Int) (n : Int)) = 1 := by omega
    rw [e0]
    have e : (if (1 : Int) < (n : Int) then ((n : Int) - 1 + 2 - 1) / 2 else 0).toNat = n / 2 := by split <;> omega
    rw [e]
    apply List.map_congr_left
    intro k _
    omega
theorem step_even (x : Str) (u : Tok) : Txt.sliceBy x none none (2, u) = txt (evens x.cps.toList) := by
  have hl : x.cps.toList.length = x.length := by simp; rfl
  unfold Txt.sliceBy slicePicked
  simp only [Option.map_some, Option.map_none, Option.getD_some]
  rw [if_neg (by simp), indices_even]
  have e := filterMap_range x.cps.toList (fun k => 2 * k) ((x.length + 1) / 2) (fun k hk => by rw [hl]; omega)
  rw [Array.toArray_toList] at e
  rw [e, evens_is, hl]
theorem step_odd (x : Str) (u v : Tok) : Txt.sliceBy x (some (1, v)) none (2, u) = txt (odds x.cps.toList) := by
  have hl : x.cps.toList.length = x.length := by simp; rfl
  unfold Txt.sliceBy slicePicked
  simp only [Option.map_some, Option.map_none, Option.getD_some]
  rw [if_neg (by simp), indices_odd]
  have e := filterMap_range x.cps.toList (fun k => 2 * k + 1) (x.length / 2) (fun k hk => by rw [hl]; omega)
  rw [Array.toArray_toList] at e
  rw [e, odds_is, hl]

/-- the strips of a row, by its cuts -/
def strips (xs : List Nat) : Nat → List Nat → List (List Nat)
  | _, [] => []
  | p, c :: cs => (xs.drop p).take c :: strips xs (p + c) cs
theorem strips_length (xs : List Nat) : ∀ (p : Nat) (cs : List Nat), (strips xs p cs).length = cs.length
  | _, [] => rfl
  | p, c :: cs => by simp [strips, strips_length xs (p + c) cs]
theorem strips_get (xs : List Nat) : ∀ (cs : List Nat) (p i : Nat) (h : i < cs.length), (strips xs p cs)[i]? = some ((xs.drop (p + (cs.take i).sum)).take cs[i])
  | c :: cs, p, 0, _ => by simp [strips]
  | c :: cs, p, i + 1, h => by
    have h' : i < cs.length := by simpa using h
    simp only [strips, List.getElem?_cons_succ, List.take_succ_cons, List.sum_cons, List.getElem_cons_succ]
    rw [strips_get xs cs (p + c) i h', Nat.add_assoc]
theorem strips_take (xs : List Nat) (cs : List Nat) (p i : Nat) (h : i < cs.length) : (strips xs p cs).take (i + 1) = (strips xs p cs).take i ++ [(xs.drop (p + (cs.take i).sum)).take cs[i]] := by
  rw [List.take_add_one, strips_get xs cs p i h]
  rfl

end Mine

namespace Mine

theorem IntsAre.at {vs : List Value} {ns : List Int} (h : IntsAre vs ns) {i : Nat} {v : Value} (e : vs[i]? = some v) : ∃ n t, ns[i]? = some n ∧ v = .int n t := by
  have hlt : i < ns.length := by rw [← h.length]; exact (List.getElem?_eq_some_iff.mp e).1
  obtain ⟨t, ht⟩ := h.get i ns[i] (List.getElem?_eq_getElem hlt)
  rw [e] at ht
  exact ⟨_, t, List.getElem?_eq_getElem hlt, Option.some.inj ht⟩

abbrev dS : DefRec := dAt PySem.Challenge.pw_dm0045_02 4
abbrev mapS (x : Str) (l S : Addr) (p : Nat) (t u : Tok) (z : Str) : Option Value :=
  if z = Str.ofString "place" then some (.int (p : Int) u) else if z = Str.ofString "strips" then some (.ref S) else List.lookup z [((Str.ofString "row" : Str), Value.str x t), ((Str.ofString "cuts" : Str), Value.ref l)].reverse

section
variable {prog : Program} {w : World} {A : Around} {E : Value → Shared → Prop} {s : Shared} {H : Heap} {c P : Addr} {mg mb : Str → Option Value}

theorem strips_body {Q : Flow → Shared → Prop} {f : Addr} {cd : Value} {L l : Addr} {x : Str} {t : Tok} {h₀ : Heap} {vals : List Value} {cs : List Nat}
    (F : Fr h₀ L s.heap fun z => [((Str.ofString "row" : Str), Value.str x t), ((Str.ofString "cuts" : Str), Value.ref l)].reverse.lookup z) (hx : x.length ≤ 1000)
    (hl : h₀.IsList l vals.toArray) (hI : IntsAre vals (cs.map fun (c : Nat) => (c : Int))) (hcs : cs.length ≤ 1000) (hsum : cs.sum ≤ 100000) (hh : A.handled = none)
    (hQ : ∀ s' S vs n m', Fr h₀ L s'.heap m' → L < S → s'.heap.get? S = some (listOf (List.toArray vs) n) → StrsAre vs ((strips x.cps.toList 0 cs).map txt) → s'.gens = s.gens → s'.os = s.os → Q (.ret (.ref S)) s') :
    wpAny (model prog w) A (execs dS.body (envOf dS.name dS.scope L f cd)) Q (fun _ _ => False) s := by
  have N : News h₀ L s.heap [] := News.nil
  unfold dS dAt PySem.Challenge.pw_dm0045_02
  dsimp only [List.getElem?_cons_succ, List.getElem?_cons_zero]
  have hlS : L < s.heap.objs.size := F.ns.lt
  generalize hS : s.heap.objs.size = S at hlS
  repeat' walk1
  rename_i h₁ F₁ N₁
  rw [hS] at N₁ F₁
  refine wpAny_For ?_ (fun _ => rfl)
  walk1
  have hl₁ : h₁.IsList l vals.toArray := let ⟨o, a, b⟩ := hl; ⟨o, F₁.keep _ _ a, b⟩
  have hS0 : h₀.get? S = none := (N₁ _ List.mem_cons_self).2.2
  have hlS' : l ≠ S := by
    obtain ⟨o, a, _⟩ := hl
    exact Nat.ne_of_lt (Nat.lt_of_lt_of_le (Heap.lt_size a) (Nat.le_trans F.above (Nat.le_of_lt hlS)))
  have hlL : l ≠ L := by
    obtain ⟨o, a, _⟩ := hl
    exact Nat.ne_of_lt (Nat.lt_of_lt_of_le (Heap.lt_size a) F.above)
  have hSlt : S < h₁.objs.size := Heap.lt_size (N₁ _ List.mem_cons_self).1
  refine wpAny_pyIter_list hl₁ ?_
  generalize hIe : h₁.objs.size = I at hSlt
  have hLI : L < I := Nat.lt_trans hlS hSlt
  have hI0 : h₀.get? I = none := by
    cases hq : h₀.get? I with
    | none => rfl
    | some o => exact absurd (Nat.lt_trans (Nat.lt_of_lt_of_le (Heap.lt_size hq) F.above) hLI) (Nat.lt_irrefl _)
  have hlI : l ≠ I := by
    obtain ⟨o, a, _⟩ := hl
    exact Nat.ne_of_lt (Nat.lt_trans (Nat.lt_of_lt_of_le (Heap.lt_size a) F.above) hLI)
  have hlen : vals.length = cs.length := by simpa using hI.length
  refine loop_rule (m := mapS x l S 0 t (s.toks + 1)) (Walks.list hh I l hlI vals.toArray) rfl rfl ?_ ?_ (F₁.ns.push _)
    (fun i m s' => ∃ u vs n, (∀ z, z ≠ Str.ofString "cut" → m z = mapS x l S (cs.take i).sum t u z) ∧ s'.heap.get? S = some (listOf (List.toArray vs) n) ∧ StrsAre vs (((strips x.cps.toList 0 cs).take i).map txt) ∧
      (∀ b o, h₀.get? b = some o → s'.heap.get? b = some o) ∧ s'.gens = s.gens ∧ s'.os = s.os) ?_ ?_ ?_ ?_
  · intro hm
    rcases List.mem_cons.mp hm with e | hm
    · exact Nat.lt_irrefl _ (e ▸ hLI)
    · exact hlL (List.mem_singleton.mp hm).symm
  · exact ⟨⟨_, hIe ▸ Heap.get?_push_size _ rfl, rfl, rfl⟩, hl₁.push _⟩
  · exact ⟨s.toks + 1, [], 0, fun z _ => by simp, Heap.get?_push_of_some _ (N₁ _ List.mem_cons_self).1, by simpa using StrsAre.nil, fun b o e => Heap.get?_push_of_some _ (F₁.keep b o e), rfl, rfl⟩
  · rintro i m s' h' tk m' ⟨u, vs, n, hm, hSo, hst, hk, hg, hos⟩ _ hkeep
    refine ⟨u, vs, n, hm, hkeep S _ (fun hb => ?_) (Nat.ne_of_gt hlS) hSo, hst, fun b o e => hkeep b o (fun hb => ?_) (fun hb => ?_) (hk b o e), hg, hos⟩
    · exact Nat.lt_irrefl _ ((List.mem_singleton.mp hb) ▸ hSlt)
    · rw [List.mem_singleton.mp hb, hI0] at e; cases e
    · exact absurd (Nat.lt_of_lt_of_le (Heap.lt_size e) F.above) (hb ▸ Nat.lt_irrefl _)
  · rintro i v m₁ s₁ Q' hi hv ⟨u, vs, n, hm, hSo, hst, hk, hg, hos⟩ hit hns hQ'
    obtain ⟨⟨oI, hoI, rI⟩, hlist⟩ := hit
    have hi' : i < cs.length := by rw [← hlen]; simpa using hi
    obtain ⟨k, tk, hk', rfl⟩ := IntsAre.at hI (i := i) (by simpa using hv)
    have hk'' : k = (cs[i] : Int) := by
      rw [List.getElem?_map, List.getElem?_eq_getElem hi'] at hk'
      simpa using hk'.symm
    subst hk''
    have hsplit : cs.sum = (cs.take i).sum + (cs[i] + (cs.drop (i + 1)).sum) := by
      conv => lhs; rw [← List.take_append_drop i cs, List.sum_append, List.drop_eq_getElem_cons hi', List.sum_cons]
    have hctle : cs[i] ≤ cs.sum := by omega
    have hple : (cs.take i).sum ≤ cs.sum := by omega
    have e : (fun z => if z = Str.ofString "cut" then some (Value.int (cs[i] : Int) tk) else m₁ z) = fun z => if z = Str.ofString "cut" then some (Value.int (cs[i] : Int) tk) else mapS x l S (cs.take i).sum t u z := by
      funext z
      by_cases hz : z = Str.ofString "cut"
      · rw [if_pos hz, if_pos hz]
      · rw [if_neg hz, if_neg hz, hm z hz]
    rw [e] at hns
    have F₂ : Fr h₀ L s₁.heap _ := ⟨hns, hk, F.above⟩
    have N₂ : News h₀ L s₁.heap [(S, listOf (List.toArray vs) n), (I, oI)] := fun p hp => by
      rcases List.mem_cons.mp hp with rfl | hp
      · exact ⟨hSo, Nat.ne_of_gt hlS, hS0⟩
      · rw [List.mem_singleton.mp hp]; exact ⟨hoI, Nat.ne_of_gt hLI, hI0⟩
    have hvs : vs.length ≤ 1000 := by
      rw [hst.length]
      simp
      omega
    have hp : (cs.take i).sum ≤ 100000 := by omega
    have hct : cs[i] ≤ 100000 := by omega
    clear F F₁ N N₁ e hns hm hl₁ hoI hSo
    generalize hpe : (cs.take i).sum = p at F₂ hp
    generalize hce : cs[i] = ct at F₂ hct
    iterate 20 walk1
    rename_i h₃ t₃ k₃ F₃ N₃ _
    rw [slice_mid]
    have hsz : (List.toArray vs).size ≤ sizeLine := by rw [List.size_toArray]; exact Nat.le_trans hvs (by decide)
    refine append_K (hsz := hsz) F₃ N₃ (Upd.head (by simpa using Nat.ne_of_gt hSlt)) (fun h₄ F₄ N₄ => ?_)
    dsimp only
    repeat' walk1
    rename_i h₅ F₅ N₅
    have a5 := (N₅ _ List.mem_cons_self).1
    have b5 := (N₅ _ (List.mem_cons_of_mem _ List.mem_cons_self)).1
    refine hQ' _ _ ⟨⟨oI, b5, rI⟩, hl.at fun o e => F₅.keep _ o e⟩ F₅.ns ⟨k₃, vs ++ [Value.str (txt ((x.cps.toList.drop p).take ct)) t₃], n + 1, fun z hz => ?_, by rw [a5]; simp, ?_, F₅.keep, hg, hos⟩
    · have e1 : (cs.take (i + 1)).sum = p + ct := by
        rw [List.take_add_one, List.getElem?_eq_getElem hi', List.sum_append, hpe, hce]
        simp
      rw [e1]
      by_cases h1 : z = Str.ofString "place"
      · simp [h1, mapS]
      · simp [h1, hz, mapS]
    · rw [strips_take x.cps.toList cs 0 i hi', List.map_append, Nat.zero_add, hpe, hce]
      exact StrsAre.append' hst (.cons _ _ .nil)
  · rintro s' m' hn' ⟨u, vs, n, hm, hSo, hst, hk, hg, hos⟩
    have hlen' : (strips x.cps.toList 0 cs).take vals.toArray.size = strips x.cps.toList 0 cs := by
      apply List.take_of_length_le
      rw [strips_length]
      simp [hlen]
    rw [hlen'] at hst
    have Fe : Fr h₀ L s'.heap m' := ⟨hn', hk, F.above⟩
    have hl' := hm (Str.ofString "strips") (by decide)
    clear F F₁ N N₁
    dsimp only
    walk1
    walk1
    refine ld Fe hl' ?_
    exact hQ _ S vs n m' Fe hlS hSo hst hg hos

theorem strips_call {f : Addr} {Q : Value → Shared → Prop} (G : Gr H c P mg mb) (D : DefAt H dS f) (B : Bs H c P s.heap) (hh : A.handled = none) (hroom : A.depth + 5 < recursionLimit)
    {x : Str} {t : Tok} {l : Addr} {vals : List Value} {cs : List Nat} (hx : x.length ≤ 1000) (hl : s.heap.IsList l vals.toArray) (hI : IntsAre vals (cs.map fun (c : Nat) => (c : Int))) (hcs : cs.length ≤ 1000) (hsum : cs.sum ≤ 100000)
    (hQ : ∀ s' S vs n, (∀ b o, s.heap.get? b = some o → s'.heap.get? b = some o) → s.heap.objs.size ≤ s'.heap.objs.size → s.heap.objs.size ≤ S → s'.heap.get? S = some (listOf (List.toArray vs) n) → StrsAre vs ((strips x.cps.toList 0 cs).map txt) →
      s'.gens = s.gens → s'.os = s.os → Q (.ref S) s') :
    wpAny (model prog w) A (call (.ref f) [.str x t, .ref l]) Q E s := by
  obtain ⟨o, pm, cd, doc, ho, hd, hcd⟩ := D
  refine wpAny_call (call_plain_ret (by omega) (B.get G ho (fun vs => by rw [hd]; nofun)) hd (B.nolimit G) (B.codeRec G hcd) (binds := [(Str.ofString "row", .str x t), (Str.ofString "cuts", .ref l)]) rfl (locs rfl) (fun h₁ F₁ => ?_) rfl rfl rfl (by decide))
  refine strips_body F₁ hx hl hI hcs hsum hh fun s' S vs n m' F' hLS hSo hst hg hos => ?_
  exact hQ s' S vs n F'.keep (Nat.le_of_lt F'.ns.lt) (Nat.le_of_lt hLS) hSo hst hg hos
end

end Mine

namespace Mine
abbrev dW : DefRec := dAt PySem.Challenge.pw_dm0045_02 5

theorem tab_item {prog : Program} {w : World} {A : Around} {E : Value → Shared → Prop} {s : Shared} {value slice : Expr} {x : Str} {t : Tok} {Q : Value → Shared → Prop} {i : Int} {u : Tok}
    (h0 : 0 ≤ i) (h1 : i < 100) (h2 : i < x.length) (h : Q (.str ⟨#[x.cps.toList.getD i.toNat 0]⟩ s.toks) { s with toks := s.toks + 1 })
    (hs : subscripted slice false (Value.str x t) (Value.int i u) = operate [Value.str x t, Value.int i u] (getItem (Value.str x t) (Value.int i u)) := by with_unfolding_all rfl)
    (hg : ∀ r, letTemporaryGo value (Value.str x t) r = pure () := by intro _; with_unfolding_all rfl) :
    wpAny (model prog w) A (subscriptTail value slice (Value.str x t) (Value.int i u)) Q E s := by
  refine item_str (fitsSsize_of (N := 9223372036854775808) (by omega) (by omega) (Int.le_refl _)) (by omega) h2 (fun _ => ?_) hs hg
  obtain ⟨k, rfl⟩ : ∃ k : Nat, i = (k : Int) := ⟨i.toNat, by omega⟩
  have hk : k < x.cps.size := by have : x.length = x.cps.size := rfl; omega
  rw [item_is hk]
  rw [Int.toNat_natCast, List.getD_eq_getElem?_getD, List.getElem?_eq_getElem (by simpa using hk)] at h
  simpa using h

abbrev T1 : Str := Str.ofString "a\tb \n^\x0b-\x0c\x0d"
abbrev T2 : Str := Str.ofString "  ^  -  +\t"
def sgn (x : Int) : Nat := T1.cps.toList.getD (x.fmod 10).toNat 0
def tgn (x : Int) : Nat := T2.cps.toList.getD ((x.fdiv 10).fmod 10).toNat 0
def ctn (x : Int) : Nat := ((x.fdiv 100).fmod 5).toNat

abbrev mapA (l lc : Addr) (sg tg : Str) (t1 t2 : Tok) (z : Str) : Option Value :=
  if z = Str.ofString "signs" then some (.str sg t1) else if z = Str.ofString "tags" then some (.str tg t2) else if z = Str.ofString "cuts" then some (.ref lc) else List.lookup z [((Str.ofString "script" : Str), Value.ref l)].reverse

theorem turnA {prog : Program} {w : World} {A : Around} {s : Shared} {Q : Flow → Shared → Prop} {f : Addr} {cd : Value} {L l lc I : Addr} {h₀ : Heap} {sg tg : Str} {t1 t2 tk : Tok} {x : Int} {itO : Obj} {vs : List Value} {n : Nat}
   (F : Fr h₀ L s.heap fun z => if z = Str.ofString "x" then some (.int x tk) else mapA l lc sg tg t1 t2 z) (h1 : sg.length ≤ 1000) (h2 : tg.length ≤ 1000) (h3 : vs.length ≤ 1000)
   (N : News h₀ L s.heap [(lc, listOf (List.toArray vs) n), (I, itO)]) (hne : I ≠ lc)
   (hQ : ∀ s' t1' t2' t3', Fr h₀ L s'.heap (fun z => if z = Str.ofString "tags" then some (.str (tg ++ (⟨#[tgn x]⟩ : Str)) t2') else if z = Str.ofString "signs" then some (.str (sg ++ (⟨#[sgn x]⟩ : Str)) t1') else if z = Str.ofString "x" then some (.int x tk) else mapA l lc sg tg t1 t2 z) →
      News h₀ L s'.heap [(lc, listOf (List.toArray (vs ++ [.int (ctn x : Int) t3'])) (n + 1)), (I, itO)] → s'.gens = s.gens → s'.os = s.os → Q .next s') :
    wpAny (model prog w) A (execs (match dW.body with | _ :: (.For _ _ b _ _) :: _ => b | _ => []) (envOf dW.name dW.scope L f cd)) Q (fun _ _ => False) s := by
  unfold dW dAt PySem.Challenge.pw_dm0045_02
  dsimp only [List.getElem?_cons_succ, List.getElem?_cons_zero]
  have a0 : 0 ≤ x.fmod 10 := Int.fmod_nonneg_of_pos _ (by decide)
  have a1 : x.fmod 10 < 10 := Int.fmod_lt_of_pos _ (by decide)
  have b0 : 0 ≤ (x.fdiv 10).fmod 10 := Int.fmod_nonneg_of_pos _ (by decide)
  have b1 : (x.fdiv 10).fmod 10 < 10 := Int.fmod_lt_of_pos _ (by decide)
  have c0 : 0 ≤ (x.fdiv 100).fmod 5 := Int.fmod_nonneg_of_pos _ (by decide)
  have c1 : (x.fdiv 100).fmod 5 < 5 := Int.fmod_lt_of_pos _ (by decide)
  have l1 : T1.length = 10 := by decide
  have l2 : T2.length = 10 := by decide
  iterate 9 walk1
  refine tab_item (x := T1) a0 (by omega) (by omega) ?_
  show wpAny _ _ (inplaceOp Operator.Add (Value.str sg t1) (Value.str ⟨#[sgn x]⟩ _)) _ _ _
  have e1 : (⟨#[sgn x]⟩ : Str).length ≤ 1 := Nat.le_refl 1
  have e2 : (⟨#[tgn x]⟩ : Str).length ≤ 1 := Nat.le_refl 1
  iterate 14 walk1
  refine tab_item (x := T2) b0 (by omega) (by omega) ?_
  show wpAny _ _ (inplaceOp Operator.Add (Value.str tg t2) (Value.str ⟨#[tgn x]⟩ _)) _ _ _
  iterate 17 walk1
  rename_i h₃ F₃ N₃
  have hsz : (List.toArray vs).size ≤ sizeLine := by rw [List.size_toArray]; exact Nat.le_trans h3 (by decide)
  refine append_K (hsz := hsz) F₃ N₃ (Upd.head (by simpa using hne)) (fun h₄ F₄ N₄ => ?_)
  dsimp only
  walk1
  have e3 : (x.fdiv 100).fmod 5 = (ctn x : Int) := by unfold ctn; omega
  rw [e3] at N₄
  have e4 : ∀ v : Value, (List.toArray vs).push v = List.toArray (vs ++ [v]) := fun v => by simp
  rw [e4] at N₄
  exact hQ _ _ _ _ F₄ N₄ rfl rfl

def sg0 : List Nat := (Str.ofString "a\tb\n \x0bc").cps.toList
def tg0 : List Nat := (Str.ofString "^   -  ").cps.toList
def sgL (ns : List Int) : List Nat := sg0 ++ ns.map sgn
def tgL (ns : List Int) : List Nat := tg0 ++ ns.map tgn
def csL (ns : List Int) : List Nat := [2, 0, 1] ++ ns.map ctn
theorem txt_toList (x : Str) : txt x.cps.toList = x := by show (⟨x.cps.toList.toArray⟩ : Str) = x; simp
theorem take_snoc {α β : Type} (g : α → β) (a : List β) (ns : List α) {i : Nat} {x : α} (h : ns[i]? = some x) : a ++ (ns.take (i + 1)).map g = (a ++ (ns.take i).map g) ++ [g x] := by
  rw [List.take_add_one, h]
  simp

theorem segA {prog : Program} {w : World} {A : Around} {s : Shared} {Q : Flow → Shared → Prop} {f : Addr} {cd : Value} {L l : Addr} {h₀ : Heap} {vals : List Value} {ns : List Int}
   (F : Fr h₀ L s.heap fun z => [((Str.ofString "script" : Str), Value.ref l)].reverse.lookup z) (hh : A.handled = none) (hl : h₀.IsList l vals.toArray) (hI : IntsAre vals ns) (hn : ns.length ≤ 63)
   (hQ : ∀ s' m' lc t1 t2 vs n, Fr h₀ L s'.heap m' → (∀ z, z ≠ Str.ofString "x" → m' z = mapA l lc (txt (sgL ns)) (txt (tgL ns)) t1 t2 z) → L < lc → s'.heap.get? lc = some (listOf (List.toArray vs) n) →
      IntsAre vs ((csL ns).map fun (c : Nat) => (c : Int)) → s'.gens = s.gens → s'.os = s.os →
      wpAny (model prog w) A (execs (dW.body.drop 2) (envOf dW.name dW.scope L f cd)) Q (fun _ _ => False) s') :
    wpAny (model prog w) A (execs dW.body (envOf dW.name dW.scope L f cd)) Q (fun _ _ => False) s := by
  have N : News h₀ L s.heap [] := News.nil
  have turn := @turnA prog w A
  unfold dW dAt PySem.Challenge.pw_dm0045_02 at hQ turn ⊢
  dsimp only [List.getElem?_cons_succ, List.getElem?_cons_zero, List.drop_succ_cons, List.drop_zero] at hQ turn ⊢
  have hlS : L < s.heap.objs.size := F.ns.lt
  generalize hS : s.heap.objs.size = lc at hlS
  iterate 19 walk1
  rename_i F1 N1
  refine unpackItemsN_ F1 N1 (News.isTup N1 (.head _)) hh rfl ?_
  intro h2 F2 N2
  iterate 11 walk1
  rename_i h₁ F₁ N₁
  rw [hS] at N₁ F₁
  refine wpAny_For ?_ (fun _ => rfl)
  walk1
  have hl₁ : h₁.IsList l vals.toArray := hl.at fun o e => F₁.keep _ _ e
  have hlc := N₁ _ (List.mem_cons_of_mem _ List.mem_cons_self)
  have hll : l < L := by obtain ⟨o, a, _⟩ := hl; exact Nat.lt_of_lt_of_le (Heap.lt_size a) F.above
  have hlclt : lc < h₁.objs.size := Heap.lt_size hlc.1
  refine wpAny_pyIter_list hl₁ ?_
  generalize hIe : h₁.objs.size = I at hlclt
  have hLI : L < I := Nat.lt_trans hlS hlclt
  have hI0 : h₀.get? I = none := by
    cases hq : h₀.get? I with
    | none => rfl
    | some o => exact absurd (Nat.lt_trans (Nat.lt_of_lt_of_le (Heap.lt_size hq) F.above) hLI) (Nat.lt_irrefl _)
  have hlen : vals.length = ns.length := hI.length
  refine loop_rule (m := mapA l lc (txt (sgL [])) (txt (tgL [])) s.toks (s.toks + 1)) (Walks.list hh I l (Nat.ne_of_lt (Nat.lt_trans hll hLI)) vals.toArray) rfl rfl ?_ ?_ ?_
    (fun i m s' => ∃ t1 t2 vs n, (∀ z, z ≠ Str.ofString "x" → m z = mapA l lc (txt (sgL (ns.take i))) (txt (tgL (ns.take i))) t1 t2 z) ∧ s'.heap.get? lc = some (listOf (List.toArray vs) n) ∧ IntsAre vs ((csL (ns.take i)).map fun (c : Nat) => (c : Int)) ∧
      (∀ b o, h₀.get? b = some o → s'.heap.get? b = some o) ∧ s'.gens = s.gens ∧ s'.os = s.os) ?_ ?_ ?_ ?_
  · intro hm
    rcases List.mem_cons.mp hm with e | hm
    · exact Nat.lt_irrefl _ (e ▸ hLI)
    · exact absurd hll ((List.mem_singleton.mp hm) ▸ Nat.lt_irrefl _)
  · exact ⟨⟨_, hIe ▸ Heap.get?_push_size _ rfl, rfl, rfl⟩, hl₁.push _⟩
  · have e1 : txt (sgL []) = Str.ofString "a\tb\n \x0bc" := by unfold sgL sg0; simp
    have e2 : txt (tgL []) = Str.ofString "^   -  " := by unfold tgL tg0; simp
    rw [e1, e2]
    exact F₁.ns.push _
  · refine ⟨s.toks, s.toks + 1, [.int 2 _, .int 0 _, .int 1 _], 0, fun z _ => by simp, Heap.get?_push_of_some _ hlc.1, ?_, fun b o e => Heap.get?_push_of_some _ (F₁.keep b o e), rfl, rfl⟩
    exact .cons _ _ (.cons _ _ (.cons _ _ .nil))
  · rintro i m s' h' tk m' ⟨t1, t2, vs, n, hm, hSo, hst, hk, hg, hos⟩ _ hkeep
    refine ⟨t1, t2, vs, n, hm, hkeep lc _ (fun hb => ?_) (Nat.ne_of_gt hlS) hSo, hst, fun b o e => hkeep b o (fun hb => ?_) (fun hb => ?_) (hk b o e), hg, hos⟩
    · exact Nat.lt_irrefl _ ((List.mem_singleton.mp hb) ▸ hlclt)
    · rw [List.mem_singleton.mp hb, hI0] at e; cases e
    · exact absurd (Nat.lt_of_lt_of_le (Heap.lt_size e) F.above) (hb ▸ Nat.lt_irrefl _)
  · rintro i v m₁ s₁ Q' hi hv ⟨t1, t2, vs, n, hm, hSo, hst, hk, hg, hos⟩ hit hns hQ'
    obtain ⟨⟨oI, hoI, rI⟩, hlist⟩ := hit
    obtain ⟨x, tk, hx, rfl⟩ := IntsAre.at hI (i := i) (by simpa using hv)
    have hi' : i < ns.length := by rw [← hlen]; simpa using hi
    have e : (fun z => if z = Str.ofString "x" then some (Value.int x tk) else m₁ z) = fun z => if z = Str.ofString "x" then some (Value.int x tk) else mapA l lc (txt (sgL (ns.take i))) (txt (tgL (ns.take i))) t1 t2 z := by
      funext z
      by_cases hz : z = Str.ofString "x"
      · rw [if_pos hz, if_pos hz]
      · rw [if_neg hz, if_neg hz, hm z hz]
    rw [e] at hns
    have F₂ : Fr h₀ L s₁.heap _ := ⟨hns, hk, F.above⟩
    have N₂ : News h₀ L s₁.heap [(lc, listOf (List.toArray vs) n), (I, oI)] := fun p hp => by
      rcases List.mem_cons.mp hp with rfl | hp
      · exact ⟨hSo, Nat.ne_of_gt hlS, hlc.2.2⟩
      · rw [List.mem_singleton.mp hp]; exact ⟨hoI, Nat.ne_of_gt hLI, hI0⟩
    refine turn F₂ ?_ ?_ ?_ N₂ (Nat.ne_of_gt hlclt) fun s₂ t1' t2' t3' F₃ N₃ hg₃ hos₃ => ?_
    · show (List.toArray _).size ≤ 1000
      simp [sgL, sg0]
      have : (Str.ofString "a\tb\n \x0bc").cps.size = 7 := by decide
      omega
    · show (List.toArray _).size ≤ 1000
      simp [tgL, tg0]
      have : (Str.ofString "^   -  ").cps.size = 7 := by decide
      omega
    · rw [hst.length]
      simp [csL]
      omega
    · have a3 := (N₃ _ List.mem_cons_self).1
      have b3 := (N₃ _ (List.mem_cons_of_mem _ List.mem_cons_self)).1
      refine hQ' _ _ ⟨⟨oI, b3, rI⟩, hl.at fun o e => F₃.keep _ o e⟩ F₃.ns ⟨t1', t2', _, _, fun z hz => ?_, a3, ?_, F₃.keep, hg₃.trans hg, hos₃.trans hos⟩
      · rw [txt_snoc, txt_snoc]
        have e1 : sgL (ns.take (i + 1)) = sgL (ns.take i) ++ [sgn x] := take_snoc sgn sg0 ns hx
        have e2 : tgL (ns.take (i + 1)) = tgL (ns.take i) ++ [tgn x] := take_snoc tgn tg0 ns hx
        rw [e1, e2]
        by_cases h1 : z = Str.ofString "tags"
        · subst h1; rfl
        · by_cases h2 : z = Str.ofString "signs"
          · subst h2; rfl
          · simp [h1, h2, hz, mapA]
      · have e3 : csL (ns.take (i + 1)) = csL (ns.take i) ++ [ctn x] := take_snoc ctn [2, 0, 1] ns hx
        rw [e3, List.map_append]
        exact IntsAre.append hst (.cons _ _ .nil)
  · rintro s' m' hn' ⟨t1, t2, vs, n, hm, hSo, hst, hk, hg, hos⟩
    have e1 : ns.take vals.toArray.size = ns := List.take_of_length_le (by simp [hlen])
    rw [e1] at hm hst
    exact hQ s' m' lc t1 t2 vs n ⟨hn', hk, F.above⟩ hm hlS hSo hst hg hos

end Mine

namespace Mine

section
variable {H h : Heap} {c P : Addr} {mg mb : Str → Option Value}

/-- the part of a heap in the call that stood before it -/
theorem Bs.base (B : Bs H c P h) (G : Gr H c P mg mb) : ∃ h₀, Bs H c P h₀ ∧ h₀.objs.size = H.objs.size ∧ ∀ b o, h₀.get? b = some o → h.get? b = some o := by
  obtain ⟨ps, hc, ht⟩ := B.tab
  have hcP := G.cP
  have hself : (regrown H P ps).get? P = some { cls := .none, data := .fields ps } := Heap.get?_update_self _ G.tab.2 rfl
  have hoth : ∀ b, b ≠ P → (regrown H P ps).get? b = H.get? b := fun b hb => Heap.get?_update_other _ _ (Ne.symm hb)
  refine ⟨regrown H P ps, ⟨fun b o hb e => (hoth b hb).trans e, ⟨ps, ?_, ?_⟩, Nat.le_of_eq (Heap.SameBut.update H P _).1.symm⟩, (Heap.SameBut.update H P _).1, fun b o e => ?_⟩
  · obtain ⟨o, vs, file, tf, flags, tg, inF, text, tt, op, ho, r1, r2, r3, r4, r5, r6, _, _, _, r9⟩ := G.code
    obtain ⟨o', vs', file', tf', flags', tg', inF', text', tt', op', ho', _, _, _, _, _, _, hop', hpd', htr', _⟩ := hc
    exact ⟨o, vs, file, tf, flags, tg, inF, text, tt, _, (hoth c hcP).trans ho, r1, r2, r3, r4, r5, r6, hself, rfl, htr', r9⟩
  · obtain ⟨⟨o, vs, e, r⟩, _⟩ := G.tab
    exact ⟨⟨o, vs, (hoth c hcP).trans e, r⟩, hself⟩
  · by_cases hb : b = P
    · subst hb; rw [hself] at e; cases e; exact ht.2
    · rw [hoth b hb] at e; exact B.keep b o hb e
end

section
variable {M : Model} {A : Around} {E : Value → Shared → Prop} {s : Shared} {name : Str} {scope : Scope} {L a : Addr} {cd : Value} {mg mb : Str → Option Value} {h₀ : Heap} {m : Str → Option Value} {Q : Value → Shared → Prop}
theorem gl_fn {x : Str} {pos : Pos} {v : Value} (F : Fr h₀ L s.heap m) (GL : Glob 0 mg mb [] [] [] nms h₀) (hv : mg x = some v) (h : Q v s)
    (hk : scope.kind = .function := by rfl) (hx : (envOf name scope L a cd).kindOf x = some .globalImplicit := by rfl)
    (hd : (x == ("__debug__" : Str)) = false := by decide) : wpAny M A (eval (.Name x pos) (envOf name scope L a cd)) Q E s :=
  Name_function_global hk hx (loadGlobal_global (env := envOf name scope L a cd) (GL.g.keeps F.keep) hv h) hd
end

/-- where the defs stand -/
structure Env2 (H : Heap) (c : Addr) (mg : Str → Option Value) (fK fL fS : Addr) : Prop where
  keep : KeepAt H c mg fK
  laid : DefAt H dL fL
  strips : DefAt H dS fS
  gk : mg (Str.ofString "_keep_original_ws") = some (.ref fK)
  gl : mg (Str.ofString "_law_laid") = some (.ref fL)
  gs : mg (Str.ofString "_law_strips") = some (.ref fS)

abbrev mapB (rest : Str → Option Value) (lc : Addr) (sg tg : Str) (t1 t2 : Tok) (z : Str) : Option Value :=
  if z = Str.ofString "signs" then some (.str sg t1) else if z = Str.ofString "tags" then some (.str tg t2) else if z = Str.ofString "cuts" then some (.ref lc) else rest z
abbrev mapP (rest : Str → Option Value) (i : Addr) (p : Nat) (u : Tok) (z : Str) : Option Value :=
  if z = Str.ofString "place" then some (.int (p : Int) u) else if z = Str.ofString "running" then some (.ref i) else rest z

section
variable {prog : Program} {w : World} {A : Around} {s : Shared} {H : Heap} {c P fK fL fS : Addr} {mg mb : Str → Option Value}

theorem news_of {h₁ h : Heap} {L : Addr} {led : List (Addr × Obj)} (hz : h₁.objs.size = H.objs.size) (hl : ∀ p ∈ led, H.objs.size ≤ p.1 ∧ p.1 ≠ L ∧ h.get? p.1 = some p.2) : News h₁ L h led := fun p hp => by
  obtain ⟨a, b, d⟩ := hl p hp
  refine ⟨d, b, ?_⟩
  cases hq : h₁.get? p.1 with
  | none => rfl
  | some o => exact absurd (Heap.lt_size hq) (Nat.not_lt.mpr (hz ▸ a))
theorem Rem.obj {h : Heap} {i : Addr} {xs : List Nat} (r : Rem h i xs) : ∃ o, h.get? i = some o ∧ ∀ h' : Heap, h'.get? i = some o → Rem h' i xs := by
  rcases id r with ⟨x, t, k, ⟨o, ho, _⟩, _⟩ | ⟨o, v, ho, _⟩
  · exact ⟨o, ho, fun h' e => r.at fun o' e' => by rw [ho] at e'; cases e'; exact e⟩
  · exact ⟨o, ho, fun h' e => r.at fun o' e' => by rw [ho] at e'; cases e'; exact e⟩

theorem turnB {Q : Flow → Shared → Prop} {f : Addr} {cd : Value} {L lc i : Addr} {h₀ : Heap} {sg tg y : Str} {t1 t2 u v : Tok} {p : Nat} {rest : Str → Option Value} {led : List (Addr × Obj)}
   (G : Gr H c P mg mb) (D : Env2 H c mg fK fL fS) (hh : A.handled = none) (hroom : A.depth + 5 < recursionLimit)
   (B₀ : Bs H c P h₀) (hz : h₀.objs.size = H.objs.size) (hb : AllBare s.gens)
   (F : Fr h₀ L s.heap fun z => if z = Str.ofString "strip" then some (.str y v) else mapP (mapB rest lc sg tg t1 t2) i p u z)
   (hl : ∀ q ∈ led, H.objs.size ≤ q.1 ∧ q.1 ≠ L ∧ q.1 ≠ i ∧ s.heap.get? q.1 = some q.2) (r : Rem s.heap i (sg.cps.toList.drop p)) (hiH : H.objs.size ≤ i) (hiL : i ≠ L)
   (hsg : sg.length ≤ 1000) (hy : y.length ≤ 1000) (hya : y.cps.all (· < 128) = true) (hp : p ≤ 100000) (heq : List.zipWith keepC (sg.cps.toList.drop p) y.cps.toList = List.zipWith laidC (sg.cps.toList.drop p) y.cps.toList)
   (hQ : ∀ s' u' h₀', Bs H c P h₀' → h₀'.objs.size = H.objs.size → AllBare s'.gens → s'.os = s.os → Fr h₀' L s'.heap (fun z => if z = Str.ofString "place" then some (.int ((p + (y.length + 1) : Nat) : Int) u') else if z = Str.ofString "strip" then some (.str y v) else mapP (mapB rest lc sg tg t1 t2) i p u z) →
      (∀ q ∈ led, s'.heap.get? q.1 = some q.2) → Rem s'.heap i (sg.cps.toList.drop (p + (y.length + 1))) → Q .next s') :
    wpAny (model prog w) A (execs (match dW.body.drop 4 with | (.For _ _ b _ _) :: _ => b | _ => []) (envOf dW.name dW.scope L f cd)) Q (fun _ _ => False) s := by
  unfold dW dAt PySem.Challenge.pw_dm0045_02
  dsimp only [List.getElem?_cons_succ, List.getElem?_cons_zero, List.drop_succ_cons, List.drop_zero]
  have GL := B₀.glob G
  walk1
  walk1
  walk1
  walk1
  refine gl_fn F GL D.gk ?_
  obtain ⟨oK, pmK, docK, hoK, hdK⟩ := D.keep.there
  obtain ⟨oL, pmL, cdL, docL, hoL, hdL, _⟩ := id D.laid
  refine callWith_def hdK ?_
  iterate 5 walk1
  have hs : H.objs.size ≤ s.heap.objs.size := Nat.le_of_lt (Nat.lt_of_le_of_lt (hz ▸ F.above) F.ns.lt)
  have Bs₁ : Bs H c P s.heap := B₀.keeps G (by rw [hz]; exact hs) F.keep
  refine ⟨Bs₁.get G hoK (fun vs => by rw [hdK]; nofun), ?_⟩
  refine keep_iter_text G D.keep Bs₁ hh hroom hb r hiH hya (Nat.le_trans hy (by decide)) fun s₁ t₃ B₁ hb₁ hos₁ hk₁ r₁ => ?_
  have hPH : P < H.objs.size := G.code.lt.2
  have hLP : L ≠ P := Nat.ne_of_gt (Nat.lt_of_lt_of_le hPH (hz ▸ F.above))
  obtain ⟨h₁, B₁', hz₁, hkeep₁⟩ := B₁.base G
  have F₁ : Fr h₁ L s₁.heap _ := ⟨F.ns.at' fun o e => hk₁ L o hLP hiL.symm e, hkeep₁, by rw [hz₁]; exact hz ▸ F.above⟩
  obtain ⟨oi, hoi, hrem⟩ := r₁.obj
  have N₁ : News h₁ L s₁.heap ((i, oi) :: led) := news_of hz₁ fun q hq => by
    rcases List.mem_cons.mp hq with rfl | hq
    · exact ⟨hiH, hiL, hoi⟩
    · obtain ⟨a, b, d, e⟩ := hl q hq
      exact ⟨a, b, hk₁ _ _ (fun e' => absurd hPH (Nat.not_lt.mpr (e' ▸ a))) d e⟩
  have GL₁ := B₁'.glob G
  clear F GL
  walk1
  refine gl_fn F₁ GL₁ D.gl ?_
  refine callWith_def hdL ?_
  iterate 12 walk1
  rename_i h₂ t₂' k₂ F₂ N₂ _
  have Bs₂ : Bs H c P h₂ := B₁'.keeps G (by rw [hz₁]; exact Nat.le_of_lt (Nat.lt_of_le_of_lt (hz₁ ▸ F₂.above) F₂.ns.lt)) F₂.keep
  refine ⟨Bs₂.get G hoL (fun vs => by rw [hdL]; nofun), ?_⟩
  rw [slice_from]
  refine laid_call G D.laid Bs₂ hh hroom ?_ hy fun s₃ t₃' hk₃ hle₃ hg₃ hos₃ => ?_
  · show (List.toArray _).size ≤ 1000
    have : sg.length = sg.cps.size := rfl
    simp
    omega
  have F₃ : Fr h₁ L s₃.heap _ := F₂.keeps hk₃
  have N₃ : News h₁ L s₃.heap ((i, oi) :: led) := fun q hq => ⟨hk₃ _ _ (N₂ q hq).1, (N₂ q hq).2⟩
  clear F₂ N₂
  have hlen : (y.length : Int) = ((y.length : Nat) : Int) := rfl
  walk1
  walk1
  walk1
  · rename_i hne
    rw [heq] at hne
    simp at hne
  · repeat' walk1
    rename_i h₄ F₄ N₄
    have ep : ((p + (y.length + 1) : Nat) : Int) = (p : Int) + ((y.length : Int) + 1) := by omega
    refine hQ _ _ h₁ B₁' hz₁ (by show AllBare s₃.gens; rw [hg₃]; exact hb₁) (hos₃.trans hos₁) (by rw [ep]; exact F₄) (fun q hq => (N₄ q (List.mem_cons_of_mem _ hq)).1) ?_
    have := hrem h₄ (N₄ _ List.mem_cons_self).1
    rw [List.drop_drop] at this
    exact this
end
end Mine

namespace Mine

section
variable {prog : Program} {w : World} {A : Around} {E : Value → Shared → Prop} {s : Shared}

theorem iter_text {x : Str} {t : Tok} {Q : Value → Shared → Prop} (ha : x.cps.all (· < 128) = true)
    (hQ : ∀ h' i, Rem h' i x.cps.toList → s.heap.objs.size = i → h'.objs.size = i + 1 → (∀ b o, s.heap.get? b = some o → h'.get? b = some o) → Q (.ref i) { s with heap := h' }) :
    wpAny (model prog w) A (call (.builtin "iter") [.str x t]) Q E s := by
  refine call_function_entry (by decide +kernel) (by decide +kernel) kdk_entry_iter (kdk_args_iter _) ?_
  show wpAny _ _ (pyIter (.str x t) >>= fun it => ret it) _ _ s
  refine wpAny_bind (pyIter_text ha fun h' i r e1 e2 hk => ?_)
  exact wpAny_pure ⟨_, rfl, hQ h' i r e1 e2 hk⟩

theorem walks_rem (hh : A.handled = none) (i : Addr) (xs : List Nat) : Walks prog w A i [i] [i] xs.length (fun k v => ∃ t, v = .str ⟨#[xs.getD k 0]⟩ t) (fun k h => Rem h i (xs.drop k)) where
  sub := fun _ hb => hb
  frame := fun _ _ _ st hk => st.at (hk i (by simp))
  item := fun k s Q E hk st hQ => by
    rw [drop_cons (d := 0) hk] at st
    exact pyNext_item st fun h' r' hs => hQ _ h' _ ⟨_, rfl⟩ r' fun b o hb e => hs.extBut b o (fun h => hb (by simp [h])) e
  done := fun s Q E st hQ => by
    have e : xs.drop xs.length = [] := by simp
    rw [e] at st
    exact pyNext_end hh st fun h' _ hx => hQ h' s.toks fun b o hb e => hx b o (fun h => hb (by simp [h])) e
  self := fun _ _ _ _ st hQ => pyIter_rem st hQ

theorem join_iter {i : Addr} {xs : List Nat} {t : Tok} {Q : Value → Shared → Prop} (hh : A.handled = none) (r : Rem s.heap i xs) (hn : xs.length ≤ 1000)
    (hQ : ∀ s' t', (∀ b o, b ≠ i → s.heap.get? b = some o → s'.heap.get? b = some o) → s'.gens = s.gens → s'.os = s.os → Q (.str (txt xs) t') s') :
    wpAny (model prog w) A (call (.builtin "str.join") [.str (Str.ofString "") t, .ref i]) Q E s := by
  refine wpAny_call (codeAny_call_builtin F.slot_str_join.plain F.entry_str_join (F.slot_str_join.check _ _ _ _ _ _ _ _ (typeIs_str _ _ _) (F.args_str_join_2 _ _) ?_))
  rw [join_tree_other]
  refine wpAny_bind (wpAny_typeOf r.typeIs ?_)
  show wpAny _ A.in1 ((pyIter (.ref i)).tryCatch _ >>= fun it => collect it >>= fun items => joinTail (Str.ofString "") items) _ _ s
  refine wpAny_bind (wpAny_tryCatch (pyIter_rem r ?_))
  refine wpAny_bind (wpAny_collect_iter (.inl rfl) (walks_rem (A := A.in1.in1) hh i xs).toS (fun k s' st => Rem.typeIs st) (by simpa using r) (by simpa using r.lt) (by simp) (fun s' acc hm hacc => ?_) (Nat.le_trans hn (by decide)))
  obtain ⟨l, hl⟩ := exists_strValues acc.toList fun v hv => by
    obtain ⟨j, hj, rfl⟩ := Array.mem_iff_getElem.mp (Array.mem_toList_iff.mp hv)
    obtain ⟨u, hu⟩ := hacc.2 j _ (Array.getElem?_eq_getElem hj)
    exact ⟨_, u, hu⟩
  rw [← hl]
  have hacc' : ItemsOf (fun k v => ∃ t, v = Value.str ⟨#[xs.getD k 0]⟩ t) (strValues l).toArray xs.length := by rw [hl]; simpa using hacc
  have hle : l.map (·.1) = xs.map fun c => (⟨#[c]⟩ : Str) := by
    apply List.ext_getElem?
    intro j
    have hsz : l.length = xs.length := by simpa [strValues] using hacc'.1
    by_cases hj : j < xs.length
    · have hj' : j < l.length := hsz ▸ hj
      obtain ⟨u, hv⟩ := hacc'.2 j (.str l[j].1 l[j].2) (by simp [strValues, List.getElem?_eq_getElem hj'])
      injection hv with h1 _
      rw [List.getElem?_map, List.getElem?_map, List.getElem?_eq_getElem hj', List.getElem?_eq_getElem hj]
      simp [h1, hj]
    · rw [List.getElem?_eq_none (by simpa [hsz] using Nat.le_of_not_lt hj), List.getElem?_eq_none (by simpa using Nat.le_of_not_lt hj)]
  have hok' : JoinOk (Str.ofString "") (l.map (·.1)) = true := by rw [hle]; exact join_ok xs (by omega)
  have hpost : ∀ t' k, Q (.str (Txt.join (Str.ofString "") (l.map (·.1))) t') { s' with toks := k } := fun t' k => by
    rw [hle, glued_signs]
    exact hQ _ t' (fun b o hb e => hm.heap b o (by simpa using hb) e) hm.gens hm.os
  unfold JoinOk at hok'
  rw [Bool.not_eq_true'] at hok'
  have g : Gives (joinTail (Str.ofString "") (strValues l)) (joinMade (Str.ofString "") l) := by
    have g0 := gives_joinTail (Str.ofString "") l hok'
    cases l with
    | nil => exact g0
    | cons p r => cases r with
      | nil => exact g0
      | cons q r' => exact g0
  exact g prog w A (wants Q E) s' (post_join l ⟨joinFit_length hok', hpost⟩)
end

end Mine

namespace Mine

theorem StrsAre.at' {vs : List Value} {ts : List Str} (h : StrsAre vs ts) {i : Nat} {v : Value} (e : vs[i]? = some v) : ∃ x t, ts[i]? = some x ∧ v = .str x t := by
  have hlt : i < ts.length := by rw [← h.length]; exact (List.getElem?_eq_some_iff.mp e).1
  obtain ⟨t, ht⟩ := h.get i ts[i] (List.getElem?_eq_getElem hlt)
  rw [e] at ht
  exact ⟨_, t, List.getElem?_eq_getElem hlt, Option.some.inj ht⟩

theorem strips_mem (xs : List Nat) : ∀ (cs : List Nat) (p : Nat) (l : List Nat), l ∈ strips xs p cs → l.length ≤ xs.length ∧ ∀ a ∈ l, a ∈ xs
  | [], _, _, h => nomatch h
  | c :: cs, p, l, h => by
    rcases List.mem_cons.mp h with rfl | h
    · refine ⟨by simp; omega, fun a ha => List.mem_of_mem_drop (List.mem_of_mem_take ha)⟩
    · exact strips_mem xs cs (p + c) l h
theorem sum_le (B : Nat) : ∀ l : List Nat, (∀ a ∈ l, a ≤ B) → l.sum ≤ l.length * B
  | [], _ => by simp
  | a :: r, h => by
    have h1 := sum_le B r fun b hb => h b (List.mem_cons_of_mem _ hb)
    have h2 := h a List.mem_cons_self
    simp only [List.sum_cons, List.length_cons, Nat.add_mul]
    omega
theorem take_sum {α : Type} (g : α → Nat) (l : List α) {i : Nat} {x : α} (h : l[i]? = some x) : ((l.take (i + 1)).map g).sum = ((l.take i).map g).sum + g x := by
  rw [List.take_add_one, h]
  simp
theorem all_ascii {l : List Nat} (h : ∀ a ∈ l, a < 128) : (txt l).cps.all (· < 128) = true := by
  show l.toArray.all _ = true
  simpa using h
theorem zip_eq {xs ys : List Nat} (h : ∀ c ∈ xs, ∀ t, keepC c t = laidC c t) : List.zipWith keepC xs ys = List.zipWith laidC xs ys := by
  induction xs generalizing ys with
  | nil => simp
  | cons c xs ih =>
    cases ys with
    | nil => simp
    | cons t ys =>
      simp only [List.zipWith_cons_cons]
      rw [h c List.mem_cons_self t, ih fun c' hc' => h c' (List.mem_cons_of_mem _ hc')]

theorem mapB_self {m : Str → Option Value} {lc : Addr} {sg tg : Str} {t1 t2 : Tok} (h1 : m (Str.ofString "signs") = some (.str sg t1)) (h2 : m (Str.ofString "tags") = some (.str tg t2)) (h3 : m (Str.ofString "cuts") = some (.ref lc)) : mapB m lc sg tg t1 t2 = m := by
  funext z
  unfold mapB
  split
  · rename_i h; rw [h, h1]
  · split
    · rename_i h; rw [h, h2]
    · split
      · rename_i h; rw [h, h3]
      · rfl

/-- the law's frame between its parts -/
def Sw (H : Heap) (c P L : Addr) (sg tg cs : List Nat) (os₀ : OsState) (s : Shared) : Prop :=
  ∃ rest lc t1 t2 vs n, Bs H c P s.heap ∧ s.heap.Ns L (mapB rest lc (txt sg) (txt tg) t1 t2) ∧ L < lc ∧ s.heap.get? lc = some (listOf (List.toArray vs) n) ∧ IntsAre vs (cs.map fun (c : Nat) => (c : Int)) ∧ AllBare s.gens ∧ s.os = os₀

section
variable {prog : Program} {w : World} {A : Around} {s : Shared} {H : Heap} {c P fK fL fS : Addr} {mg mb : Str → Option Value}

theorem segB {Q : Flow → Shared → Prop} {f : Addr} {cd : Value} {L : Addr} {sg tg cs : List Nat} {os₀ : OsState}
   (G : Gr H c P mg mb) (D : Env2 H c mg fK fL fS) (hh : A.handled = none) (hroom : A.depth + 5 < recursionLimit) (hLH : H.objs.size ≤ L)
   (hsg : sg.length ≤ 70) (htg : tg.length ≤ 70) (hcs : cs.length ≤ 70) (hsum : cs.sum ≤ 1000) (asg : ∀ a ∈ sg, a < 128) (atg : ∀ a ∈ tg, a < 128) (hkl : ∀ c ∈ sg, ∀ t, keepC c t = laidC c t)
   (S₀ : Sw H c P L sg tg cs os₀ s)
   (hQ : ∀ s', Sw H c P L sg tg cs os₀ s' → wpAny (model prog w) A (execs (dW.body.drop 6) (envOf dW.name dW.scope L f cd)) Q (fun _ _ => False) s') :
    wpAny (model prog w) A (execs (dW.body.drop 2) (envOf dW.name dW.scope L f cd)) Q (fun _ _ => False) s := by
  obtain ⟨rest, lc, t1, t2, vs, n, B, hns, hLlc, hlc, hI, hb, hos⟩ := S₀
  have turn := @turnB prog w A
  unfold dW dAt PySem.Challenge.pw_dm0045_02 at hQ turn ⊢
  dsimp only [List.getElem?_cons_succ, List.getElem?_cons_zero, List.drop_succ_cons, List.drop_zero] at hQ turn ⊢
  obtain ⟨h₀, B₀, hz, hkeep⟩ := B.base G
  have F : Fr h₀ L s.heap _ := ⟨hns, hkeep, by rw [hz]; exact hLH⟩
  have GL := B₀.glob G
  have N : News h₀ L s.heap [(lc, listOf (List.toArray vs) n)] := news_of hz fun q hq => by
    rw [List.mem_singleton.mp hq]; exact ⟨Nat.le_trans hLH (Nat.le_of_lt hLlc), Nat.ne_of_gt hLlc, hlc⟩
  iterate 8 walk1
  refine iter_text (all_ascii asg) fun h₁ i r₁ hi₁ hsz₁ hk₁ => ?_
  have hLi : L < i := by rw [← hi₁]; exact hns.lt
  have hlci : lc < i := by rw [← hi₁]; exact Heap.lt_size hlc
  obtain ⟨oi, hoi, hremi⟩ := r₁.obj
  have F₁ : Fr h₀ L h₁ _ := F.keeps hk₁
  have N₁ : News h₀ L h₁ [(i, oi), (lc, listOf (List.toArray vs) n)] := news_of hz fun q hq => by
    rcases List.mem_cons.mp hq with rfl | hq
    · exact ⟨Nat.le_trans hLH (Nat.le_of_lt hLi), Nat.ne_of_gt hLi, hoi⟩
    · rw [List.mem_singleton.mp hq]; exact ⟨Nat.le_trans hLH (Nat.le_of_lt hLlc), Nat.ne_of_gt hLlc, hk₁ _ _ hlc⟩
  clear F N
  iterate 6 walk1
  rename_i h₂ F₂ N₂
  refine wpAny_For ?_ (fun _ => rfl)
  walk1
  refine gl_fn F₂ (B₀.glob G) D.gs ?_
  obtain ⟨oS, pmS, cdS, docS, hoS, hdS, _⟩ := id D.strips
  refine callWith_def hdS ?_
  iterate 5 walk1
  have Bs₂ : Bs H c P h₂ := B₀.keeps G (by rw [hz]; exact Nat.le_trans hLH (Nat.le_of_lt F₂.ns.lt)) F₂.keep
  refine ⟨Bs₂.get G hoS (fun vs => by rw [hdS]; nofun), ?_⟩
  have hlc₂ : h₂.IsList lc vs.toArray := ⟨_, (N₂ _ (List.mem_cons_of_mem _ List.mem_cons_self)).1, rfl, n, rfl⟩
  refine strips_call G D.strips Bs₂ hh hroom (by show (List.toArray _).size ≤ 1000; simp; omega) hlc₂ hI (by omega) (by omega) fun s₃ S ss k hk₃ hle₃ hSle hSo hst hg₃ hos₃ => ?_
  have hst' : StrsAre ss ((strips tg 0 cs).map txt) := by simpa using hst
  clear hst
  have hLS : L < S := Nat.lt_of_lt_of_le F₂.ns.lt hSle
  have hiS : i < S := Nat.lt_of_lt_of_le (Heap.lt_size (N₂ _ List.mem_cons_self).1) hSle
  have hlcS : lc < S := Nat.lt_trans hlci hiS
  have hSL : s₃.heap.IsList S ss.toArray := ⟨_, hSo, rfl, k, rfl⟩
  refine wpAny_pyIter_list hSL ?_
  generalize hIe : s₃.heap.objs.size = I
  have hSI : S < I := by rw [← hIe]; exact Heap.lt_size hSo
  have hLI : L < I := Nat.lt_trans hLS hSI
  have hPH : P < H.objs.size := G.code.lt.2
  have hlen : ss.length = cs.length := by rw [hst'.length]; simp [strips_length]
  generalize hpl : (fun (q : Nat) => (((strips tg 0 cs).take q).map fun (l : List Nat) => l.length + 1).sum) = pl
  have plb : ∀ q, pl q ≤ 100000 := fun q => by
    rw [← hpl]
    have h1 := sum_le 71 (((strips tg 0 cs).take q).map fun (l : List Nat) => l.length + 1) (fun a ha => by
      obtain ⟨l, hl, rfl⟩ := List.mem_map.mp ha
      have := (strips_mem tg cs 0 l (List.mem_of_mem_take hl)).1
      omega)
    have h2 : (((strips tg 0 cs).take q).map fun (l : List Nat) => l.length + 1).length ≤ 70 := by
      rw [List.length_map, List.length_take, strips_length]; omega
    have h3 : (((strips tg 0 cs).take q).map fun (l : List Nat) => l.length + 1).length * 71 ≤ 70 * 71 := Nat.mul_le_mul_right _ h2
    show List.sum _ ≤ 100000
    omega
  refine loop_rule (A := A) (m := mapP (mapB rest lc (txt sg) (txt tg) t1 t2) i 0 (s.toks + 1)) (Walks.list hh I S (Nat.ne_of_lt hSI) ss.toArray) rfl rfl ?_ ?_ ?_
    (fun q m s' => ∃ u, (∀ z, z ≠ Str.ofString "strip" → m z = mapP (mapB rest lc (txt sg) (txt tg) t1 t2) i (pl q) u z) ∧ Bs H c P s'.heap ∧ s'.heap.get? lc = some (listOf (List.toArray vs) n) ∧ s'.heap.get? S = some (listOf (List.toArray ss) k) ∧
      Rem s'.heap i (sg.drop (pl q)) ∧ AllBare s'.gens ∧ s'.os = os₀) ?_ ?_ ?_ ?_
  · intro hm
    rcases List.mem_cons.mp hm with e | hm
    · exact Nat.lt_irrefl _ (e ▸ hLI)
    · exact Nat.lt_irrefl _ ((List.mem_singleton.mp hm) ▸ hLS)
  · exact ⟨⟨_, hIe ▸ Heap.get?_push_size _ rfl, rfl, rfl⟩, hSL.push _⟩
  · exact (F₂.ns.keeps hk₃).push _
  · have e0 : pl 0 = 0 := by rw [← hpl]; simp
    refine ⟨s.toks + 1, fun z _ => by rw [e0], ?_, ?_, Heap.get?_push_of_some _ hSo, ?_, ?_, ?_⟩
    · exact Bs₂.keeps G (by rw [Heap.size_push]; exact Nat.le_succ_of_le hle₃) fun b o e => Heap.get?_push_of_some _ (hk₃ b o e)
    · exact Heap.get?_push_of_some _ (hk₃ _ _ (N₂ _ (List.mem_cons_of_mem _ List.mem_cons_self)).1)
    · rw [e0]
      have := hremi (s₃.heap.push { cls := .type "list_iterator", data := .fields #[.ref S, .int 0 0] }) (Heap.get?_push_of_some _ (hk₃ _ _ (N₂ _ List.mem_cons_self).1))
      simpa using this
    · show AllBare s₃.gens
      rw [hg₃]; exact hb
    · exact hos₃.trans hos
  · rintro q m s' h' tk m' ⟨u, hm, B', hlc', hS', r', hb', hos'⟩ hn' hkeep'
    have nI : ∀ b, b < I → b ∉ [I] := fun b hlt hm => Nat.lt_irrefl _ ((List.mem_singleton.mp hm) ▸ hlt)
    refine ⟨u, hm, ?_, hkeep' _ _ (nI _ (Nat.lt_trans hlcS hSI)) (Nat.ne_of_gt hLlc) hlc', hkeep' _ _ (nI _ hSI) (Nat.ne_of_gt hLS) hS', r'.at fun o e => hkeep' _ o (nI _ (Nat.lt_trans hiS hSI)) (Nat.ne_of_gt hLi) e, hb', hos'⟩
    exact B'.mono G (Nat.le_trans hLH (Nat.le_of_lt hn'.lt)) fun b o hlt e => hkeep' b o (nI _ (Nat.lt_of_lt_of_le hlt (Nat.le_trans hLH (Nat.le_of_lt hLI)))) (Nat.ne_of_lt (Nat.lt_of_lt_of_le hlt hLH)) e
  · rintro q v m₁ s₁ Q' hq hv ⟨u, hm, B', hlc', hS', r', hb', hos'⟩ hit hns' hQ'
    obtain ⟨⟨oI, hoI, rI⟩, hlist⟩ := hit
    have hq' : q < (strips tg 0 cs).length := by rw [strips_length, ← hlen]; simpa using hq
    obtain ⟨y, ty, hy, rfl⟩ := StrsAre.at' hst' (i := q) (by simpa using hv)
    have hy' : y = txt (strips tg 0 cs)[q] := by
      rw [List.getElem?_map, List.getElem?_eq_getElem hq'] at hy
      simpa using hy.symm
    have hmem := strips_mem tg cs 0 _ (List.getElem_mem hq')
    have hyl : y.length = (strips tg 0 cs)[q].length := by rw [hy']; show (List.toArray _).size = _; simp
    have e : (fun z => if z = Str.ofString "strip" then some (Value.str y ty) else m₁ z) = fun z => if z = Str.ofString "strip" then some (Value.str y ty) else mapP (mapB rest lc (txt sg) (txt tg) t1 t2) i (pl q) u z := by
      funext z
      by_cases hz : z = Str.ofString "strip"
      · rw [if_pos hz, if_pos hz]
      · rw [if_neg hz, if_neg hz, hm z hz]
    rw [e] at hns'
    obtain ⟨h₄, B₄, hz₄, hkeep₄⟩ := B'.base G
    have F₄ : Fr h₄ L s₁.heap _ := ⟨hns', hkeep₄, by rw [hz₄]; exact hLH⟩
    have epl : pl (q + 1) = pl q + (y.length + 1) := by
      rw [← hpl, hyl]
      exact take_sum (fun (l : List Nat) => l.length + 1) _ (List.getElem?_eq_getElem hq')
    refine turn (led := [(lc, listOf (List.toArray vs) n), (S, listOf (List.toArray ss) k), (I, oI)]) G D hh hroom B₄ hz₄ hb' F₄ ?_ (by simpa using r') (Nat.le_trans hLH (Nat.le_of_lt hLi)) (Nat.ne_of_gt hLi)
      (by show (List.toArray _).size ≤ 1000; simp; omega) (by rw [hyl]; omega) (by rw [hy']; exact all_ascii fun a ha => atg a (hmem.2 a ha)) (plb q) (by simpa using zip_eq fun c' hc' => hkl c' (List.mem_of_mem_drop hc'))
      fun s₂ u' h₀' B₅ hz₅ hb₅ hos₅ F₅ hl₅ r₅ => ?_
    · intro p hp
      simp only [List.mem_cons, List.not_mem_nil, or_false] at hp
      rcases hp with rfl | rfl | rfl
      · exact ⟨Nat.le_trans hLH (Nat.le_of_lt hLlc), Nat.ne_of_gt hLlc, Nat.ne_of_lt hlci, hlc'⟩
      · exact ⟨Nat.le_trans hLH (Nat.le_of_lt hLS), Nat.ne_of_gt hLS, Nat.ne_of_gt hiS, hS'⟩
      · exact ⟨Nat.le_trans hLH (Nat.le_of_lt hLI), Nat.ne_of_gt hLI, Nat.ne_of_gt (Nat.lt_trans hiS hSI), hoI⟩
    · have a1 := hl₅ _ List.mem_cons_self
      have a2 := hl₅ _ (List.mem_cons_of_mem _ List.mem_cons_self)
      have a3 := hl₅ _ (List.mem_cons_of_mem _ (List.mem_cons_of_mem _ List.mem_cons_self))
      refine hQ' s₂ _ ⟨⟨oI, a3, rI⟩, ⟨_, a2, rfl, k, rfl⟩⟩ F₅.ns ⟨u', fun z hz => ?_, ?_, a1, a2, ?_, hb₅, hos₅.trans hos'⟩
      · rw [epl]
        by_cases h1 : z = Str.ofString "place"
        · subst h1; rfl
        · simp [h1, hz, mapP]
      · exact B₅.keeps G (by rw [hz₅]; exact Nat.le_trans hLH (Nat.le_of_lt F₅.ns.lt)) F₅.keep
      · rw [epl]
        simpa using r₅
  · rintro s' m' hn' ⟨u, hm, B', hlc', hS', r', hb', hos'⟩
    generalize pl ss.toArray.size = p at hm r'
    have em : m' = mapP (mapB m' lc (txt sg) (txt tg) t1 t2) i p u := by
      funext z
      by_cases h1 : z = Str.ofString "place"
      · subst h1; exact hm _ (by decide)
      · by_cases h2 : z = Str.ofString "running"
        · subst h2; exact hm _ (by decide)
        · by_cases h3 : z = Str.ofString "signs"
          · subst h3; exact hm _ (by decide)
          · by_cases h4 : z = Str.ofString "tags"
            · subst h4; exact hm _ (by decide)
            · by_cases h5 : z = Str.ofString "cuts"
              · subst h5; exact hm _ (by decide)
              · simp [mapP, mapB, h1, h2, h3, h4, h5]
    rw [em] at hn'
    obtain ⟨h₆, B₆, hz₆, hkeep₆⟩ := B'.base G
    have F₆ : Fr h₆ L s'.heap _ := ⟨hn', hkeep₆, by rw [hz₆]; exact hLH⟩
    clear F₁ F₂ N₁ N₂ em hm
    dsimp only
    iterate 10 walk1
    refine join_iter hh r' (by simp; omega) fun s₇ t₇ hk₇ hg₇ hos₇ => ?_
    have F₇ : Fr h₆ L s₇.heap _ := ⟨hn'.at' fun o e => hk₇ _ o (Nat.ne_of_lt hLi) e, fun b o e => hk₇ b o (Nat.ne_of_lt (Nat.lt_of_lt_of_le (Heap.lt_size e) (Nat.le_trans (by rw [hz₆]; exact hLH) (Nat.le_of_lt hLi)))) (hkeep₆ b o e), by rw [hz₆]; exact hLH⟩
    have N₇ : News h₆ L s₇.heap [(lc, listOf (List.toArray vs) n)] := news_of hz₆ fun q hq => by
      rw [List.mem_singleton.mp hq]; exact ⟨Nat.le_trans hLH (Nat.le_of_lt hLlc), Nat.ne_of_gt hLlc, hk₇ _ _ (Nat.ne_of_lt hlci) hlc'⟩
    clear F₆
    iterate 11 walk1
    · rename_i hne
      rw [slice_from] at hne
      simp at hne
    · rename_i h₈ _ _ F₈ N₈ _ _
      walk1
      refine hQ _ ⟨mapP (mapB m' lc (txt sg) (txt tg) t1 t2) i p u, lc, t1, t2, vs, n, ?_, by rw [mapB_self rfl rfl rfl]; exact F₈.ns, hLlc, (N₈ _ List.mem_cons_self).1, hI, ?_, hos₇.trans hos'⟩
      · exact B₆.keeps G (by rw [hz₆]; exact Nat.le_trans hLH (Nat.le_of_lt F₈.ns.lt)) F₈.keep
      · show AllBare s₇.gens
        rw [hg₇]; exact hb'
end

end Mine

namespace Mine
section
variable {prog : Program} {w : World} {A : Around} {s : Shared} {H : Heap} {c P fK fL fS : Addr} {mg mb : Str → Option Value}

theorem turnC {Q : Flow → Shared → Prop} {f : Addr} {cd : Value} {L lc i : Addr} {h₀ : Heap} {sg tg y : Str} {t1 t2 u v : Tok} {p : Nat} {rest : Str → Option Value} {led : List (Addr × Obj)}
   (G : Gr H c P mg mb) (D : Env2 H c mg fK fL fS) (hh : A.handled = none) (hroom : A.depth + 5 < recursionLimit)
   (B₀ : Bs H c P h₀) (hz : h₀.objs.size = H.objs.size) (hb : AllBare s.gens)
   (F : Fr h₀ L s.heap fun z => if z = Str.ofString "strip" then some (.str y v) else mapP (mapB rest lc sg tg t1 t2) i p u z)
   (hl : ∀ q ∈ led, H.objs.size ≤ q.1 ∧ q.1 ≠ L ∧ q.1 ≠ i ∧ s.heap.get? q.1 = some q.2) (r : Rem s.heap i (tg.cps.toList.drop p)) (hiH : H.objs.size ≤ i) (hiL : i ≠ L)
   (htg : tg.length ≤ 1000) (hy : y.length ≤ 1000) (hya : y.cps.all (· < 128) = true) (hp : p ≤ 100000) (heq : List.zipWith keepC y.cps.toList (tg.cps.toList.drop p) = List.zipWith laidC y.cps.toList (tg.cps.toList.drop p))
   (hQ : ∀ s' u' h₀', Bs H c P h₀' → h₀'.objs.size = H.objs.size → AllBare s'.gens → s'.os = s.os → Fr h₀' L s'.heap (fun z => if z = Str.ofString "place" then some (.int ((p + y.length : Nat) : Int) u') else if z = Str.ofString "strip" then some (.str y v) else mapP (mapB rest lc sg tg t1 t2) i p u z) →
      (∀ q ∈ led, s'.heap.get? q.1 = some q.2) → Rem s'.heap i (tg.cps.toList.drop (p + y.length)) → Q .next s') :
    wpAny (model prog w) A (execs (match dW.body.drop 8 with | (.For _ _ b _ _) :: _ => b | _ => []) (envOf dW.name dW.scope L f cd)) Q (fun _ _ => False) s := by
  unfold dW dAt PySem.Challenge.pw_dm0045_02
  dsimp only [List.getElem?_cons_succ, List.getElem?_cons_zero, List.drop_succ_cons, List.drop_zero]
  have GL := B₀.glob G
  walk1
  walk1
  walk1
  walk1
  refine gl_fn F GL D.gk ?_
  obtain ⟨oK, pmK, docK, hoK, hdK⟩ := D.keep.there
  obtain ⟨oL, pmL, cdL, docL, hoL, hdL, _⟩ := id D.laid
  refine callWith_def hdK ?_
  iterate 5 walk1
  have hs : H.objs.size ≤ s.heap.objs.size := Nat.le_of_lt (Nat.lt_of_le_of_lt (hz ▸ F.above) F.ns.lt)
  have Bs₁ : Bs H c P s.heap := B₀.keeps G (by rw [hz]; exact hs) F.keep
  refine ⟨Bs₁.get G hoK (fun vs => by rw [hdK]; nofun), ?_⟩
  refine keep_text_iter G D.keep Bs₁ hh hroom hb r hiH hya (Nat.le_trans hy (by decide)) fun s₁ t₃ B₁ hb₁ hos₁ hk₁ r₁ => ?_
  have hPH : P < H.objs.size := G.code.lt.2
  have hLP : L ≠ P := Nat.ne_of_gt (Nat.lt_of_lt_of_le hPH (hz ▸ F.above))
  obtain ⟨h₁, B₁', hz₁, hkeep₁⟩ := B₁.base G
  have F₁ : Fr h₁ L s₁.heap _ := ⟨F.ns.at' fun o e => hk₁ L o hLP hiL.symm e, hkeep₁, by rw [hz₁]; exact hz ▸ F.above⟩
  obtain ⟨oi, hoi, hrem⟩ := r₁.obj
  have N₁ : News h₁ L s₁.heap ((i, oi) :: led) := news_of hz₁ fun q hq => by
    rcases List.mem_cons.mp hq with rfl | hq
    · exact ⟨hiH, hiL, hoi⟩
    · obtain ⟨a, b, d, e⟩ := hl q hq
      exact ⟨a, b, hk₁ _ _ (fun e' => absurd hPH (Nat.not_lt.mpr (e' ▸ a))) d e⟩
  have GL₁ := B₁'.glob G
  clear F GL
  walk1
  refine gl_fn F₁ GL₁ D.gl ?_
  refine callWith_def hdL ?_
  iterate 12 walk1
  rename_i h₂ t₂' k₂ F₂ N₂ _
  have Bs₂ : Bs H c P h₂ := B₁'.keeps G (by rw [hz₁]; exact Nat.le_of_lt (Nat.lt_of_le_of_lt (hz₁ ▸ F₂.above) F₂.ns.lt)) F₂.keep
  refine ⟨Bs₂.get G hoL (fun vs => by rw [hdL]; nofun), ?_⟩
  rw [slice_from]
  refine laid_call G D.laid Bs₂ hh hroom hy ?_ fun s₃ t₃' hk₃ hle₃ hg₃ hos₃ => ?_
  · show (List.toArray _).size ≤ 1000
    have : tg.length = tg.cps.size := rfl
    simp
    omega
  have F₃ : Fr h₁ L s₃.heap _ := F₂.keeps hk₃
  have N₃ : News h₁ L s₃.heap ((i, oi) :: led) := fun q hq => ⟨hk₃ _ _ (N₂ q hq).1, (N₂ q hq).2⟩
  clear F₂ N₂
  have hlen : (y.length : Int) = ((y.length : Nat) : Int) := rfl
  walk1
  walk1
  walk1
  · rename_i hne
    rw [heq] at hne
    simp at hne
  · repeat' walk1
    rename_i h₄ F₄ N₄
    have ep : ((p + y.length : Nat) : Int) = (p : Int) + (y.length : Int) := by omega
    refine hQ _ _ h₁ B₁' hz₁ (by show AllBare s₃.gens; rw [hg₃]; exact hb₁) (hos₃.trans hos₁) (by rw [ep]; exact F₄) (fun q hq => (N₄ q (List.mem_cons_of_mem _ hq)).1) ?_
    have := hrem h₄ (N₄ _ List.mem_cons_self).1
    rw [List.drop_drop] at this
    exact this

theorem segC {Q : Flow → Shared → Prop} {f : Addr} {cd : Value} {L : Addr} {sg tg cs : List Nat} {os₀ : OsState}
   (G : Gr H c P mg mb) (D : Env2 H c mg fK fL fS) (hh : A.handled = none) (hroom : A.depth + 5 < recursionLimit) (hLH : H.objs.size ≤ L)
   (hsg : sg.length ≤ 70) (htg : tg.length ≤ 70) (hcs : cs.length ≤ 70) (hsum : cs.sum ≤ 1000) (asg : ∀ a ∈ sg, a < 128) (atg : ∀ a ∈ tg, a < 128) (hkl : ∀ c ∈ sg, ∀ t, keepC c t = laidC c t)
   (S₀ : Sw H c P L sg tg cs os₀ s)
   (hQ : ∀ s', Sw H c P L sg tg cs os₀ s' → wpAny (model prog w) A (execs (dW.body.drop 10) (envOf dW.name dW.scope L f cd)) Q (fun _ _ => False) s') :
    wpAny (model prog w) A (execs (dW.body.drop 6) (envOf dW.name dW.scope L f cd)) Q (fun _ _ => False) s := by
  obtain ⟨rest, lc, t1, t2, vs, n, B, hns, hLlc, hlc, hI, hb, hos⟩ := S₀
  have turn := @turnC prog w A
  unfold dW dAt PySem.Challenge.pw_dm0045_02 at hQ turn ⊢
  dsimp only [List.getElem?_cons_succ, List.getElem?_cons_zero, List.drop_succ_cons, List.drop_zero] at hQ turn ⊢
  obtain ⟨h₀, B₀, hz, hkeep⟩ := B.base G
  have F : Fr h₀ L s.heap _ := ⟨hns, hkeep, by rw [hz]; exact hLH⟩
  have GL := B₀.glob G
  have N : News h₀ L s.heap [(lc, listOf (List.toArray vs) n)] := news_of hz fun q hq => by
    rw [List.mem_singleton.mp hq]; exact ⟨Nat.le_trans hLH (Nat.le_of_lt hLlc), Nat.ne_of_gt hLlc, hlc⟩
  iterate 8 walk1
  refine iter_text (all_ascii atg) fun h₁ i r₁ hi₁ hsz₁ hk₁ => ?_
  have hLi : L < i := by rw [← hi₁]; exact hns.lt
  have hlci : lc < i := by rw [← hi₁]; exact Heap.lt_size hlc
  obtain ⟨oi, hoi, hremi⟩ := r₁.obj
  have F₁ : Fr h₀ L h₁ _ := F.keeps hk₁
  have N₁ : News h₀ L h₁ [(i, oi), (lc, listOf (List.toArray vs) n)] := news_of hz fun q hq => by
    rcases List.mem_cons.mp hq with rfl | hq
    · exact ⟨Nat.le_trans hLH (Nat.le_of_lt hLi), Nat.ne_of_gt hLi, hoi⟩
    · rw [List.mem_singleton.mp hq]; exact ⟨Nat.le_trans hLH (Nat.le_of_lt hLlc), Nat.ne_of_gt hLlc, hk₁ _ _ hlc⟩
  clear F N
  iterate 6 walk1
  rename_i h₂ F₂ N₂
  refine wpAny_For ?_ (fun _ => rfl)
  walk1
  refine gl_fn F₂ (B₀.glob G) D.gs ?_
  obtain ⟨oS, pmS, cdS, docS, hoS, hdS, _⟩ := id D.strips
  refine callWith_def hdS ?_
  iterate 5 walk1
  have Bs₂ : Bs H c P h₂ := B₀.keeps G (by rw [hz]; exact Nat.le_trans hLH (Nat.le_of_lt F₂.ns.lt)) F₂.keep
  refine ⟨Bs₂.get G hoS (fun vs => by rw [hdS]; nofun), ?_⟩
  have hlc₂ : h₂.IsList lc vs.toArray := ⟨_, (N₂ _ (List.mem_cons_of_mem _ List.mem_cons_self)).1, rfl, n, rfl⟩
  refine strips_call G D.strips Bs₂ hh hroom (by show (List.toArray _).size ≤ 1000; simp; omega) hlc₂ hI (by omega) (by omega) fun s₃ S ss k hk₃ hle₃ hSle hSo hst hg₃ hos₃ => ?_
  have hst' : StrsAre ss ((strips sg 0 cs).map txt) := by simpa using hst
  clear hst
  have hLS : L < S := Nat.lt_of_lt_of_le F₂.ns.lt hSle
  have hiS : i < S := Nat.lt_of_lt_of_le (Heap.lt_size (N₂ _ List.mem_cons_self).1) hSle
  have hlcS : lc < S := Nat.lt_trans hlci hiS
  have hSL : s₃.heap.IsList S ss.toArray := ⟨_, hSo, rfl, k, rfl⟩
  refine wpAny_pyIter_list hSL ?_
  generalize hIe : s₃.heap.objs.size = I
  have hSI : S < I := by rw [← hIe]; exact Heap.lt_size hSo
  have hLI : L < I := Nat.lt_trans hLS hSI
  have hPH : P < H.objs.size := G.code.lt.2
  have hlen : ss.length = cs.length := by rw [hst'.length]; simp [strips_length]
  generalize hpl : (fun (q : Nat) => (((strips sg 0 cs).take q).map fun (l : List Nat) => l.length).sum) = pl
  have plb : ∀ q, pl q ≤ 100000 := fun q => by
    rw [← hpl]
    have h1 := sum_le 71 (((strips sg 0 cs).take q).map fun (l : List Nat) => l.length) (fun a ha => by
      obtain ⟨l, hl, rfl⟩ := List.mem_map.mp ha
      have := (strips_mem sg cs 0 l (List.mem_of_mem_take hl)).1
      omega)
    have h2 : (((strips sg 0 cs).take q).map fun (l : List Nat) => l.length).length ≤ 70 := by
      rw [List.length_map, List.length_take, strips_length]; omega
    have h3 : (((strips sg 0 cs).take q).map fun (l : List Nat) => l.length).length * 71 ≤ 70 * 71 := Nat.mul_le_mul_right _ h2
    show List.sum _ ≤ 100000
    omega
  refine loop_rule (A := A) (m := mapP (mapB rest lc (txt sg) (txt tg) t1 t2) i 0 (s.toks + 1)) (Walks.list hh I S (Nat.ne_of_lt hSI) ss.toArray) rfl rfl ?_ ?_ ?_
    (fun q m s' => ∃ u, (∀ z, z ≠ Str.ofString "strip" → m z = mapP (mapB rest lc (txt sg) (txt tg) t1 t2) i (pl q) u z) ∧ Bs H c P s'.heap ∧ s'.heap.get? lc = some (listOf (List.toArray vs) n) ∧ s'.heap.get? S = some (listOf (List.toArray ss) k) ∧
      Rem s'.heap i (tg.drop (pl q)) ∧ AllBare s'.gens ∧ s'.os = os₀) ?_ ?_ ?_ ?_
  · intro hm
    rcases List.mem_cons.mp hm with e | hm
    · exact Nat.lt_irrefl _ (e ▸ hLI)
    · exact Nat.lt_irrefl _ ((List.mem_singleton.mp hm) ▸ hLS)
  · exact ⟨⟨_, hIe ▸ Heap.get?_push_size _ rfl, rfl, rfl⟩, hSL.push _⟩
  · exact (F₂.ns.keeps hk₃).push _
  · have e0 : pl 0 = 0 := by rw [← hpl]; simp
    refine ⟨s.toks + 1, fun z _ => by rw [e0], ?_, ?_, Heap.get?_push_of_some _ hSo, ?_, ?_, ?_⟩
    · exact Bs₂.keeps G (by rw [Heap.size_push]; exact Nat.le_succ_of_le hle₃) fun b o e => Heap.get?_push_of_some _ (hk₃ b o e)
    · exact Heap.get?_push_of_some _ (hk₃ _ _ (N₂ _ (List.mem_cons_of_mem _ List.mem_cons_self)).1)
    · rw [e0]
      have := hremi (s₃.heap.push { cls := .type "list_iterator", data := .fields #[.ref S, .int 0 0] }) (Heap.get?_push_of_some _ (hk₃ _ _ (N₂ _ List.mem_cons_self).1))
      simpa using this
    · show AllBare s₃.gens
      rw [hg₃]; exact hb
    · exact hos₃.trans hos
  · rintro q m s' h' tk m' ⟨u, hm, B', hlc', hS', r', hb', hos'⟩ hn' hkeep'
    have nI : ∀ b, b < I → b ∉ [I] := fun b hlt hm => Nat.lt_irrefl _ ((List.mem_singleton.mp hm) ▸ hlt)
    refine ⟨u, hm, ?_, hkeep' _ _ (nI _ (Nat.lt_trans hlcS hSI)) (Nat.ne_of_gt hLlc) hlc', hkeep' _ _ (nI _ hSI) (Nat.ne_of_gt hLS) hS', r'.at fun o e => hkeep' _ o (nI _ (Nat.lt_trans hiS hSI)) (Nat.ne_of_gt hLi) e, hb', hos'⟩
    exact B'.mono G (Nat.le_trans hLH (Nat.le_of_lt hn'.lt)) fun b o hlt e => hkeep' b o (nI _ (Nat.lt_of_lt_of_le hlt (Nat.le_trans hLH (Nat.le_of_lt hLI)))) (Nat.ne_of_lt (Nat.lt_of_lt_of_le hlt hLH)) e
  · rintro q v m₁ s₁ Q' hq hv ⟨u, hm, B', hlc', hS', r', hb', hos'⟩ hit hns' hQ'
    obtain ⟨⟨oI, hoI, rI⟩, hlist⟩ := hit
    have hq' : q < (strips sg 0 cs).length := by rw [strips_length, ← hlen]; simpa using hq
    obtain ⟨y, ty, hy, rfl⟩ := StrsAre.at' hst' (i := q) (by simpa using hv)
    have hy' : y = txt (strips sg 0 cs)[q] := by
      rw [List.getElem?_map, List.getElem?_eq_getElem hq'] at hy
      simpa using hy.symm
    have hmem := strips_mem sg cs 0 _ (List.getElem_mem hq')
    have hyl : y.length = (strips sg 0 cs)[q].length := by rw [hy']; show (List.toArray _).size = _; simp
    have e : (fun z => if z = Str.ofString "strip" then some (Value.str y ty) else m₁ z) = fun z => if z = Str.ofString "strip" then some (Value.str y ty) else mapP (mapB rest lc (txt sg) (txt tg) t1 t2) i (pl q) u z := by
      funext z
      by_cases hz : z = Str.ofString "strip"
      · rw [if_pos hz, if_pos hz]
      · rw [if_neg hz, if_neg hz, hm z hz]
    rw [e] at hns'
    obtain ⟨h₄, B₄, hz₄, hkeep₄⟩ := B'.base G
    have F₄ : Fr h₄ L s₁.heap _ := ⟨hns', hkeep₄, by rw [hz₄]; exact hLH⟩
    have epl : pl (q + 1) = pl q + y.length := by
      rw [← hpl, hyl]
      exact take_sum (fun (l : List Nat) => l.length) _ (List.getElem?_eq_getElem hq')
    refine turn (led := [(lc, listOf (List.toArray vs) n), (S, listOf (List.toArray ss) k), (I, oI)]) G D hh hroom B₄ hz₄ hb' F₄ ?_ (by simpa using r') (Nat.le_trans hLH (Nat.le_of_lt hLi)) (Nat.ne_of_gt hLi)
      (by show (List.toArray _).size ≤ 1000; simp; omega) (by rw [hyl]; omega) (by rw [hy']; exact all_ascii fun a ha => asg a (hmem.2 a ha)) (plb q) (by rw [hy']; simpa using zip_eq fun c' hc' => hkl c' (hmem.2 c' hc'))
      fun s₂ u' h₀' B₅ hz₅ hb₅ hos₅ F₅ hl₅ r₅ => ?_
    · intro p hp
      simp only [List.mem_cons, List.not_mem_nil, or_false] at hp
      rcases hp with rfl | rfl | rfl
      · exact ⟨Nat.le_trans hLH (Nat.le_of_lt hLlc), Nat.ne_of_gt hLlc, Nat.ne_of_lt hlci, hlc'⟩
      · exact ⟨Nat.le_trans hLH (Nat.le_of_lt hLS), Nat.ne_of_gt hLS, Nat.ne_of_gt hiS, hS'⟩
      · exact ⟨Nat.le_trans hLH (Nat.le_of_lt hLI), Nat.ne_of_gt hLI, Nat.ne_of_gt (Nat.lt_trans hiS hSI), hoI⟩
    · have a1 := hl₅ _ List.mem_cons_self
      have a2 := hl₅ _ (List.mem_cons_of_mem _ List.mem_cons_self)
      have a3 := hl₅ _ (List.mem_cons_of_mem _ (List.mem_cons_of_mem _ List.mem_cons_self))
      refine hQ' s₂ _ ⟨⟨oI, a3, rI⟩, ⟨_, a2, rfl, k, rfl⟩⟩ F₅.ns ⟨u', fun z hz => ?_, ?_, a1, a2, ?_, hb₅, hos₅.trans hos'⟩
      · rw [epl]
        by_cases h1 : z = Str.ofString "place"
        · subst h1; rfl
        · simp [h1, hz, mapP]
      · exact B₅.keeps G (by rw [hz₅]; exact Nat.le_trans hLH (Nat.le_of_lt F₅.ns.lt)) F₅.keep
      · rw [epl]
        simpa using r₅
  · rintro s' m' hn' ⟨u, hm, B', hlc', hS', r', hb', hos'⟩
    generalize pl ss.toArray.size = p at hm r'
    have em : m' = mapP (mapB m' lc (txt sg) (txt tg) t1 t2) i p u := by
      funext z
      by_cases h1 : z = Str.ofString "place"
      · subst h1; exact hm _ (by decide)
      · by_cases h2 : z = Str.ofString "running"
        · subst h2; exact hm _ (by decide)
        · by_cases h3 : z = Str.ofString "signs"
          · subst h3; exact hm _ (by decide)
          · by_cases h4 : z = Str.ofString "tags"
            · subst h4; exact hm _ (by decide)
            · by_cases h5 : z = Str.ofString "cuts"
              · subst h5; exact hm _ (by decide)
              · simp [mapP, mapB, h1, h2, h3, h4, h5]
    rw [em] at hn'
    obtain ⟨h₆, B₆, hz₆, hkeep₆⟩ := B'.base G
    have F₆ : Fr h₆ L s'.heap _ := ⟨hn', hkeep₆, by rw [hz₆]; exact hLH⟩
    clear F₁ F₂ N₁ N₂ em hm
    dsimp only
    iterate 10 walk1
    refine join_iter hh r' (by simp; omega) fun s₇ t₇ hk₇ hg₇ hos₇ => ?_
    have F₇ : Fr h₆ L s₇.heap _ := ⟨hn'.at' fun o e => hk₇ _ o (Nat.ne_of_lt hLi) e, fun b o e => hk₇ b o (Nat.ne_of_lt (Nat.lt_of_lt_of_le (Heap.lt_size e) (Nat.le_trans (by rw [hz₆]; exact hLH) (Nat.le_of_lt hLi)))) (hkeep₆ b o e), by rw [hz₆]; exact hLH⟩
    have N₇ : News h₆ L s₇.heap [(lc, listOf (List.toArray vs) n)] := news_of hz₆ fun q hq => by
      rw [List.mem_singleton.mp hq]; exact ⟨Nat.le_trans hLH (Nat.le_of_lt hLlc), Nat.ne_of_gt hLlc, hk₇ _ _ (Nat.ne_of_lt hlci) hlc'⟩
    clear F₆
    iterate 11 walk1
    · rename_i hne
      rw [slice_from] at hne
      simp at hne
    · rename_i h₈ _ _ F₈ N₈ _ _
      walk1
      refine hQ _ ⟨mapP (mapB m' lc (txt sg) (txt tg) t1 t2) i p u, lc, t1, t2, vs, n, ?_, by rw [mapB_self rfl rfl rfl]; exact F₈.ns, hLlc, (N₈ _ List.mem_cons_self).1, hI, ?_, hos₇.trans hos'⟩
      · exact B₆.keeps G (by rw [hz₆]; exact Nat.le_trans hLH (Nat.le_of_lt F₈.ns.lt)) F₈.keep
      · show AllBare s₇.gens
        rw [hg₇]; exact hb'
end

end Mine

namespace Mine
section
variable {prog : Program} {w : World} {A : Around} {s : Shared} {H : Heap} {c P fK fL fS : Addr} {mg mb : Str → Option Value}

theorem evens_len : ∀ l : List Nat, (evens l).length ≤ l.length
  | [] => Nat.le_refl _
  | [a] => Nat.le_refl _
  | a :: b :: r => by have := evens_len r; simp only [evens, List.length_cons]; omega
theorem odds_len : ∀ l : List Nat, (odds l).length ≤ l.length
  | [] => Nat.le_refl _
  | [a] => by simp [odds]
  | a :: b :: r => by have := odds_len r; simp only [odds, List.length_cons]; omega
theorem evens_mem : ∀ (l : List Nat) (a : Nat), a ∈ evens l → a ∈ l
  | [], _, h => nomatch h
  | [a], _, h => h
  | a :: b :: r, x, h => by
    rcases List.mem_cons.mp h with rfl | h
    · simp
    · exact List.mem_cons_of_mem _ (List.mem_cons_of_mem _ (evens_mem r x h))

theorem segD {Q : Flow → Shared → Prop} {f : Addr} {cd : Value} {L : Addr} {sg tg cs : List Nat} {os₀ : OsState}
   (G : Gr H c P mg mb) (D : Env2 H c mg fK fL fS) (hh : A.handled = none) (hroom : A.depth + 5 < recursionLimit) (hLH : H.objs.size ≤ L)
   (hsg : sg.length ≤ 70) (asg : ∀ a ∈ sg, a < 128) (hkl : ∀ c ∈ sg, ∀ t, keepC c t = laidC c t)
   (S₀ : Sw H c P L sg tg cs os₀ s)
   (hQ : ∀ s', Bs H c P s'.heap → AllBare s'.gens → s'.os = os₀ → Q (.ret (.bool true)) s') :
    wpAny (model prog w) A (execs (dW.body.drop 10) (envOf dW.name dW.scope L f cd)) Q (fun _ _ => False) s := by
  obtain ⟨rest, lc, t1, t2, vs, n, B, hns, hLlc, hlc, hI, hb, hos⟩ := S₀
  unfold dW dAt PySem.Challenge.pw_dm0045_02
  dsimp only [List.getElem?_cons_succ, List.getElem?_cons_zero, List.drop_succ_cons, List.drop_zero]
  obtain ⟨h₀, B₀, hz, hkeep⟩ := B.base G
  have F : Fr h₀ L s.heap _ := ⟨hns, hkeep, by rw [hz]; exact hLH⟩
  have GL := B₀.glob G
  have N : News h₀ L s.heap [] := News.nil
  iterate 8 walk1
  refine iter_text (all_ascii asg) fun h₁ i r₁ hi₁ hsz₁ hk₁ => ?_
  have hLi : L < i := by rw [← hi₁]; exact hns.lt
  obtain ⟨oi, hoi, hremi⟩ := r₁.obj
  have F₁ : Fr h₀ L h₁ _ := F.keeps hk₁
  have N₁ : News h₀ L h₁ [(i, oi)] := news_of hz fun q hq => by
    rw [List.mem_singleton.mp hq]; exact ⟨Nat.le_trans hLH (Nat.le_of_lt hLi), Nat.ne_of_gt hLi, hoi⟩
  clear F N
  iterate 4 walk1
  rename_i h₂ F₂ N₂
  walk1
  refine gl_fn F₂ (B₀.glob G) D.gk ?_
  obtain ⟨oK, pmK, docK, hoK, hdK⟩ := D.keep.there
  obtain ⟨oL, pmL, cdL, docL, hoL, hdL, _⟩ := id D.laid
  refine callWith_def hdK ?_
  iterate 5 walk1
  have Bs₂ : Bs H c P h₂ := B₀.keeps G (by rw [hz]; exact Nat.le_trans hLH (Nat.le_of_lt F₂.ns.lt)) F₂.keep
  refine ⟨Bs₂.get G hoK (fun vs => by rw [hdK]; nofun), ?_⟩
  have r₂ : Rem h₂ i sg := by simpa using hremi h₂ (N₂ _ List.mem_cons_self).1
  refine keep_iter_same (zs := sg) G D.keep ?_ hh hroom ?_ ?_ (Nat.le_trans hLH (Nat.le_of_lt hLi)) (by omega) fun s₃ t₃ B₃ hb₃ hos₃ hk₃ => ?_
  · exact Bs₂
  · exact hb
  · exact r₂
  have hPH : P < H.objs.size := G.code.lt.2
  have hLP : L ≠ P := Nat.ne_of_gt (Nat.lt_of_lt_of_le hPH hLH)
  obtain ⟨h₄, B₄, hz₄, hkeep₄⟩ := B₃.base G
  have F₄ : Fr h₄ L s₃.heap _ := ⟨F₂.ns.at' fun o e => hk₃ L o hLP (Nat.ne_of_lt hLi) e, hkeep₄, by rw [hz₄]; exact hLH⟩
  have N₄ : News h₄ L s₃.heap [] := News.nil
  have GL₄ := B₄.glob G
  clear F₁ F₂ N₁ N₂
  walk1
  refine gl_fn F₄ GL₄ D.gl ?_
  refine callWith_def hdL ?_
  iterate 20 walk1
  rename Fr h₄ L _ _ => F₅
  have Bs₅ := B₄.keeps G (by rw [hz₄]; exact Nat.le_trans hLH (Nat.le_of_lt F₅.ns.lt)) F₅.keep
  refine ⟨Bs₅.get G hoL (fun vs => by rw [hdL]; nofun), ?_⟩
  rw [step_even, step_odd]
  have l1 := evens_len sg
  have l2 := odds_len sg
  refine laid_call G D.laid Bs₅ hh hroom (by show (List.toArray _).size ≤ 1000; simp; omega) (by show (List.toArray _).size ≤ 1000; simp; omega) fun s₆ t₆ hk₆ hle₆ hg₆ hos₆ => ?_
  walk1
  have e : (({ cps := (turns keepC sg).toArray } : Str) == txt (List.zipWith laidC (txt (evens (txt sg).cps.toList)).cps.toList (txt (odds (txt sg).cps.toList)).cps.toList)) = true := by
    rw [turns_zip]
    simp
    rw [zip_eq fun c' hc' => hkl c' (evens_mem sg c' hc')]
  rw [e]
  refine hQ _ (Bs₅.keeps G hle₆ hk₆) ?_ ((hos₆.trans hos₃).trans hos)
  show AllBare s₆.gens
  rw [hg₆]
  exact hb₃
end

end Mine

namespace Mine

theorem white_same (c : Nat) (h : Txt.isspace ⟨#[c]⟩ = white6 c) (t : Nat) : keepC c t = laidC c t := by
  unfold keepC laidC
  rw [h, ofString_blank]
  by_cases ht : t = 32
  · subst ht; simp
  · have : ((⟨#[t]⟩ : Str) == ⟨#[32]⟩) = false := by simpa using ht
    simp [this, ht]

def goodSign (c : Nat) : Bool := decide (c < 128) && (Txt.isspace ⟨#[c]⟩ == white6 c)
theorem good_sg0 : sg0.all goodSign = true := by decide +kernel
theorem good_T1 : T1.cps.toList.all goodSign = true := by decide +kernel
theorem good_tg0 : tg0.all (fun c => decide (c < 128)) = true := by decide +kernel
theorem good_T2 : T2.cps.toList.all (fun c => decide (c < 128)) = true := by decide +kernel
theorem size_T1 : T1.cps.toList.length = 10 := by decide +kernel
theorem size_T2 : T2.cps.toList.length = 10 := by decide +kernel
theorem size_sg0 : sg0.length = 7 := by decide +kernel
theorem size_tg0 : tg0.length = 7 := by decide +kernel

theorem getD_mem {l : List Nat} {k : Nat} (h : k < l.length) : l.getD k 0 ∈ l := by
  rw [List.getD_eq_getElem?_getD, List.getElem?_eq_getElem h]
  exact List.getElem_mem h
theorem fmod_lt (x : Int) (k : Nat) (h : 0 < k) : (x.fmod k).toNat < k := by
  have h1 : 0 ≤ x.fmod k := Int.fmod_nonneg_of_pos _ (by omega)
  have h2 : x.fmod k < k := Int.fmod_lt_of_pos _ (by omega)
  omega
theorem sgL_good (ns : List Int) : ∀ c ∈ sgL ns, c < 128 ∧ ∀ t, keepC c t = laidC c t := by
  have key : ∀ c, goodSign c = true → c < 128 ∧ ∀ t, keepC c t = laidC c t := fun c h => by
    unfold goodSign at h
    obtain ⟨h1, h2⟩ := Bool.and_eq_true_iff.mp h
    exact ⟨of_decide_eq_true h1, white_same c (beq_iff_eq.mp h2)⟩
  intro c hc
  rcases List.mem_append.mp hc with h | h
  · exact key c (List.all_eq_true.mp good_sg0 c h)
  · obtain ⟨x, _, rfl⟩ := List.mem_map.mp h
    exact key _ (List.all_eq_true.mp good_T1 _ (getD_mem (by rw [size_T1]; exact fmod_lt x 10 (by decide))))
theorem tgL_good (ns : List Int) : ∀ c ∈ tgL ns, c < 128 := by
  intro c hc
  rcases List.mem_append.mp hc with h | h
  · exact of_decide_eq_true (List.all_eq_true.mp good_tg0 c h)
  · obtain ⟨x, _, rfl⟩ := List.mem_map.mp h
    exact of_decide_eq_true (List.all_eq_true.mp good_T2 _ (getD_mem (by rw [size_T2]; exact fmod_lt (x.fdiv 10) 10 (by decide))))
theorem csL_len (ns : List Int) : (csL ns).length = 3 + ns.length := by simp [csL]; omega
theorem csL_sum (ns : List Int) : (csL ns).sum ≤ 3 + 4 * ns.length := by
  have h : (ns.map ctn).sum ≤ (ns.map ctn).length * 4 := sum_le 4 _ fun a ha => by
    obtain ⟨x, _, rfl⟩ := List.mem_map.mp ha
    have := fmod_lt (x.fdiv 100) 5 (by decide)
    show ((x.fdiv 100).fmod 5).toNat ≤ 4
    have e : ((x.fdiv 100).fmod ((5 : Nat) : Int)).toNat = ((x.fdiv 100).fmod 5).toNat := rfl
    omega
  unfold csL
  rw [List.sum_append]
  simp only [List.length_map] at h
  simp
  omega

section
variable {prog : Program} {w : World} {A : Around} {s : Shared} {H : Heap} {c P fK fL fS : Addr} {mg mb : Str → Option Value}

theorem law_ok {Q : Flow → Shared → Prop} {f : Addr} {cd : Value} {L l : Addr} {vals : List Value} {ns : List Int}
   (G : Gr H c P mg mb) (D : Env2 H c mg fK fL fS) (hh : A.handled = none) (hroom : A.depth + 5 < recursionLimit)
   (F : Fr H L s.heap fun z => [((Str.ofString "script" : Str), Value.ref l)].reverse.lookup z) (hl : H.IsList l vals.toArray) (hI : IntsAre vals ns) (hn : ns.length ≤ 63) (hb : AllBare s.gens)
   (hQ : ∀ s', Bs H c P s'.heap → AllBare s'.gens → s'.os = s.os → Q (.ret (.bool true)) s') :
    wpAny (model prog w) A (execs dW.body (envOf dW.name dW.scope L f cd)) Q (fun _ _ => False) s := by
  have hLH : H.objs.size ≤ L := F.above
  have a1 : (sgL ns).length ≤ 70 := by simp [sgL, size_sg0]; omega
  have a2 : (tgL ns).length ≤ 70 := by simp [tgL, size_tg0]; omega
  have a3 : (csL ns).length ≤ 70 := by rw [csL_len]; omega
  have a4 : (csL ns).sum ≤ 1000 := by have := csL_sum ns; omega
  have g1 : ∀ a ∈ sgL ns, a < 128 := fun a ha => (sgL_good ns a ha).1
  have g2 : ∀ a ∈ tgL ns, a < 128 := tgL_good ns
  have g3 : ∀ c ∈ sgL ns, ∀ t, keepC c t = laidC c t := fun c hc => (sgL_good ns c hc).2
  refine segA F hh hl hI hn fun s₁ m₁ lc t1 t2 vs n F₁ hm hLlc hlc hIv hg hos => ?_
  have S₁ : Sw H c P L (sgL ns) (tgL ns) (csL ns) s.os s₁ := by
    refine ⟨m₁, lc, t1, t2, vs, n, G.start.keeps G (Nat.le_trans hLH (Nat.le_of_lt F₁.ns.lt)) F₁.keep, ?_, hLlc, hlc, hIv, by rw [hg]; exact hb, hos⟩
    rw [mapB_self (hm _ (by decide)) (hm _ (by decide)) (hm _ (by decide))]
    exact F₁.ns
  refine segB G D hh hroom hLH a1 a2 a3 a4 g1 g2 g3 S₁ fun s₂ S₂ => ?_
  refine segC G D hh hroom hLH a1 a2 a3 a4 g1 g2 g3 S₂ fun s₃ S₃ => ?_
  exact segD G D hh hroom hLH a1 g1 g3 S₃ hQ
end

end Mine

namespace Mine
theorem booked_of {K : Frag} {h : Heap} (X : K.In h) (hl : h.NoLimit) (e : nsIn K cStatics sharingNotToldKey = some none) : NoneBooked h := by
  obtain ⟨mc, hn, _⟩ := hl
  refine ⟨mc, hn, ?_⟩
  obtain ⟨o, es, ep, ho, hd, _, hf⟩ := hn
  unfold nsIn at e
  split at e
  · rename_i c d es' n' sl q
    have := X _ _ q
    rw [ho] at this
    cases this
    cases hd
    split at e
    · cases e
    · rename_i he
      rw [← hf]
      unfold nsFind findBy
      rw [← Array.find?_toList, he]
      rfl
  · cases e
theorem sub_names {l l' : List PySem.Str} (H : ∀ y ∈ l, y ∈ l') {x : PySem.Str} (h : x ∈ l) : x ∈ l' := H x h
end Mine

set_option maxHeartbeats 8000000 in
theorem PySem.Challenge.cw_dm0045_02_holds : PySem.Challenge.rw_dm0045_02.Holds := by
  w_on
  o_law
  k_head
  (case hw => w_witness2)
  w_strict (lgec_go0)
  rename_i w s₀ s₁ mg mb G Y fa o pm doc kV ho hg KX X V GL T B TE TW bm ob M c0 P0 B9 hcd ns hs hlay0 hL1 hr1 hl2 as1 as2 l vals as3 hL ra w1 r0 hI hr hcond hcond' K0 hD h₁ F N0 fK cK PK oK pmK dcK gK hoK hdK rK BK fL cL PL oL pmL dcL gL hoL hdL rL BL fS cS PS oS pmS dcS gS hoS hdS rS BS fW cW PW oW pmW dcW gW hoW hdW rW BW _ _
  have hfree : ∀ x : PySem.Str, x ∉ Mine.nms → mg x = none := fun x hx => GL.free x (fun h => hx (Mine.sub_names (by decide +kernel) h)) (fun h => hx (Mine.sub_names (by decide +kernel) h))
  have Gr0 : Mine.Gr s₁.heap cK PK mg mb := ⟨T.g, T.b, T.nolimit, ⟨_, _, M⟩, BK.code, BK.tab, T.builtins, ⟨T.g, T.b, T.builtins, T.nolimit, nofun, nofun, fun x hx _ => hfree x hx, GL.digits, nofun, GL.seer⟩, Mine.booked_of KX T.nolimit (by k_is)⟩
  have D : Mine.Env2 s₁.heap cK mg fK fL fS := ⟨⟨hfree _ (by decide +kernel), ⟨oK, pmK, dcK, hoK, hdK⟩, rK⟩, ⟨oL, pmL, _, dcL, hoL, hdL, rL⟩, ⟨oS, pmS, _, dcS, hoS, hdS, rS⟩, gK, gL, gS⟩
  have hbare : AllBare s₁.gens := AllBare.of_eq hg
  refine wpAny_mono (Mine.law_ok Gr0 D rfl (by simp only [depth_deeper, depth_caller]; decide) F hL hI (by omega) hbare fun s' B' hb' hos' => ?_) (fun _ _ x => x) fun _ _ x => x.elim
  exact ⟨.inl ⟨_, _, [], rfl, raisesW_false (by wrow_none_raised), ReadsW.bool true, postW_of (by wrow_shape) (by wtm_val) (by str_meet; first | done | w_fin), unshared_nil⟩, B'.old Gr0, hos', hb'⟩
