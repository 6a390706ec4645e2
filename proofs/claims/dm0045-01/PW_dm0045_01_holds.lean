import PyProof.Rows.All
import Wide.All
import OpenK.AllK
import Wide.FinOn
import PySem.Challenge.RW_dm0045_01
open PySem PySem.W PyProof.Rows
set_option Elab.async false
set_option maxRecDepth 100000
set_option maxHeartbeats 4000000

namespace Mine

/-- what an iterator over a text has still to give -/
def Rem (h : Heap) (i : Addr) (xs : List Nat) : Prop :=
  (∃ x t k, h.IsStrIter i "str_ascii_iterator" x t k ∧ x.cps.toList.drop k = xs) ∨
  (∃ o v, h.get? i = some o ∧ o.cls = .type "str_ascii_iterator" ∧ o.data = .fields #[.none, v] ∧ xs = [])

theorem Rem.at {h h' : Heap} {i : Addr} {xs : List Nat} (r : Rem h i xs) (e : ∀ o, h.get? i = some o → h'.get? i = some o) : Rem h' i xs := by
  rcases r with ⟨x, t, k, ⟨o, ho, r⟩, q⟩ | ⟨o, v, ho, r⟩
  · exact .inl ⟨x, t, k, ⟨o, e o ho, r⟩, q⟩
  · exact .inr ⟨o, v, e o ho, r⟩
theorem Rem.typeIs {s : Shared} {i : Addr} {xs : List Nat} (r : Rem s.heap i xs) : s.TypeIs (.ref i) "str_ascii_iterator" := by
  rcases r with ⟨x, t, k, ⟨o, ho, r, _⟩, q⟩ | ⟨o, v, ho, r, _⟩
  · exact ⟨o, ho, r⟩
  · exact ⟨o, ho, r⟩
theorem Rem.lt {h : Heap} {i : Addr} {xs : List Nat} (r : Rem h i xs) : i < h.objs.size := by
  rcases r with ⟨x, t, k, ⟨o, ho, r, _⟩, q⟩ | ⟨o, v, ho, r, _⟩
  · exact Heap.lt_size ho
  · exact Heap.lt_size ho

section
variable {prog : Program} {w : World} {A : Around} {E : Value → Shared → Prop} {s : Shared}

theorem next_item {i : Addr} {c : Nat} {xs : List Nat} {Q : Value → Shared → Prop} (r : Rem s.heap i (c :: xs))
    (hQ : ∀ h', Rem h' i xs → Heap.SameBut i s.heap h' → Q (.str ⟨#[c]⟩ s.toks) { s with heap := h', toks := s.toks + 1 }) :
    wpAny (model prog w) A (Builtin.«str_ascii_iterator.__next__» ⟨[.ref i], []⟩) (fun fin s' => ∃ v, fin = .done (.ret v) ∧ Q v s') E s := by
  rcases r with ⟨x, t, k, ⟨o, ho, hc, hd⟩, q⟩ | ⟨o, v, ho, hc, hd, q⟩
  · have hx : x.cps[k]? = some c := by
      have := congrArg (fun l => l[0]?) q
      simpa using this
    have hq : x.cps.toList.drop (k + 1) = xs := by
      have := congrArg (fun l => l.drop 1) q
      simpa [List.drop_drop, Nat.add_comm] using this
    show wpAny _ _ (field (.ref i) 0 >>= _) _ _ s
    refine wpAny_bind (wpAny_field ho hd (x := .str x t) rfl ?_)
    show wpAny _ _ (field (.ref i) 1 >>= _) _ _ s
    refine wpAny_bind (wpAny_field ho hd (x := .int k 0) rfl ?_)
    simp only [Int.toNat_natCast, hx]
    refine wpAny_bind (wpAny_setField ho hd (by simp) (wpAny_bind (wpAny_mkStr (wpAny_pure ⟨_, rfl, hQ _ ?_ (Heap.SameBut.update ..)⟩) (by show 1 ≤ sizeLine; decide))))
    exact .inl ⟨x, t, k + 1, ⟨_, Heap.get?_update_self _ ho (Obj.isFreed_of_fields (Obj.data_mapFields hd _)), (Obj.cls_mapFields ..).trans hc, by
      rw [Obj.data_mapFields hd]; simp [rawInt]⟩, hq⟩
  · cases q

theorem next_end {i : Addr} {Q : Fin → Shared → Prop} (hh : A.handled = none) (r : Rem s.heap i [])
    (hE : ∀ h' e, Rem h' i [] → Heap.ExtBut i s.heap h' → e ≠ i → (∃ o, h'.get? e = some o ∧ o.cls = .type "StopIteration") → E (.ref e) { s with heap := h' }) :
    wpAny (model prog w) A (Builtin.«str_ascii_iterator.__next__» ⟨[.ref i], []⟩) Q E s := by
  rcases r with ⟨x, t, k, ⟨o, ho, hc, hd⟩, q⟩ | ⟨o, v, ho, hc, hd, q⟩
  · have hx : x.cps[k]? = none := by
      have := congrArg List.length q
      simp at this
      simp; omega
    show wpAny _ _ (field (.ref i) 0 >>= _) _ _ s
    refine wpAny_bind (wpAny_field ho hd (x := .str x t) rfl ?_)
    show wpAny _ _ (field (.ref i) 1 >>= _) _ _ s
    refine wpAny_bind (wpAny_field ho hd (x := .int k 0) rfl ?_)
    simp only [Int.toNat_natCast, hx]
    refine wpAny_bind (wpAny_rule (wpAny_bind (wpAny_setField ho hd (by simp) (wpAny_bind (wpAny_letGo ?_)))))
    show wpAny _ _ (newExc (.type "StopIteration") [] >>= _) _ _ _
    refine wpAny_bind ?_
    simp only [newExc, newTuple]
    refine wpAny_bind (wpAny_newObj_type ?_ (by size_fits))
    refine wpAny_bind (m := firstArgMember _ _) (wpAny_of_eq (a := Value.none) (by first | rfl | (simp only [firstArgMember]; rfl)) ?_)
    refine wpAny_newObj_type ?_ (by size_fits)
    simp only [raiseNew]
    refine wpAny_bind (wpAny_handled ?_)
    rw [hh]
    have hlt := Heap.lt_size ho
    refine wpAny_bind (wpAny_pure (wpAny_throw (hE _ _ (.inr ?_) (((Heap.SameBut.update ..).extBut.push _).push _) ?_ ⟨_, Heap.get?_push_size _ rfl, rfl⟩)))
    · refine ⟨_, _, Heap.get?_push_of_some _ (Heap.get?_push_of_some _ (Heap.get?_update_self _ ho (Obj.isFreed_of_fields (Obj.data_mapFields hd _)))), (Obj.cls_mapFields ..).trans hc, by
        rw [Obj.data_mapFields hd]; simp; rfl, rfl⟩
    · rw [Heap.size_push, Heap.size_after_update]; exact Nat.ne_of_gt (Nat.lt_succ_of_lt hlt)
  · show wpAny _ _ (field (.ref i) 0 >>= _) _ _ s
    refine wpAny_bind (wpAny_field ho hd (x := .none) rfl ?_)
    simp only [beq_self_eq_true, if_true]
    refine wpAny_bind (wpAny_rule ?_)
    show wpAny _ _ ((newExc (.type "StopIteration") [] >>= _) >>= _) _ _ _
    refine wpAny_bind (wpAny_bind ?_)
    simp only [newExc, newTuple]
    refine wpAny_bind (wpAny_newObj_type ?_ (by size_fits))
    refine wpAny_bind (m := firstArgMember _ _) (wpAny_of_eq (a := Value.none) (by first | rfl | (simp only [firstArgMember]; rfl)) ?_)
    refine wpAny_newObj_type ?_ (by size_fits)
    simp only [raiseNew]
    refine wpAny_pure (wpAny_bind (wpAny_handled ?_))
    rw [hh]
    have hlt := Heap.lt_size ho
    refine wpAny_bind (wpAny_pure (wpAny_throw (hE _ _ (.inr ?_) (Heap.ExtBut.push (Heap.ExtBut.push (Heap.ExtBut.refl _ _) _) _) ?_ ⟨_, Heap.get?_push_size _ rfl, rfl⟩)))
    · exact ⟨_, _, Heap.get?_push_of_some _ (Heap.get?_push_of_some _ ho), hc, hd, rfl⟩
    · rw [Heap.size_push]; exact Nat.ne_of_gt (Nat.lt_succ_of_lt hlt)

theorem nextOf_item {i : Addr} {c : Nat} {xs : List Nat} {Q : Value → Shared → Prop} (r : Rem s.heap i (c :: xs))
    (hQ : ∀ h', Rem h' i xs → Heap.SameBut i s.heap h' → Q (.str ⟨#[c]⟩ s.toks) { s with heap := h', toks := s.toks + 1 }) :
    wpAny (model prog w) A (Builtin.SmallTypes.nextOf (.ref i)) Q E s := by
  unfold Builtin.SmallTypes.nextOf
  exact wpAny_bind (wpAny_callSpecial?_slot (name := Str.ofString "__next__") r.typeIs F.slot_str_ascii_iterator_next
    (wpAny_call_entry F.slot_str_ascii_iterator_next r.typeIs F.entry_str_ascii_iterator_next (next_item r fun h' r' hs => wpAny_pure (hQ h' r' hs)) (F.args_str_ascii_iterator_next_1 _)))

theorem nextOf_end {i : Addr} {Q : Value → Shared → Prop} (hh : A.handled = none) (r : Rem s.heap i [])
    (hE : ∀ h' e, Rem h' i [] → Heap.ExtBut i s.heap h' → e ≠ i → (∃ o, h'.get? e = some o ∧ o.cls = .type "StopIteration") → E (.ref e) { s with heap := h' }) :
    wpAny (model prog w) A (Builtin.SmallTypes.nextOf (.ref i)) Q E s := by
  unfold Builtin.SmallTypes.nextOf
  exact wpAny_bind (wpAny_callSpecial?_slot (name := Str.ofString "__next__") r.typeIs F.slot_str_ascii_iterator_next
    (wpAny_call_entry F.slot_str_ascii_iterator_next r.typeIs F.entry_str_ascii_iterator_next (next_end hh r hE) (F.args_str_ascii_iterator_next_1 _)))

theorem pyNext_item {i : Addr} {c : Nat} {xs : List Nat} {Q : Option Value → Shared → Prop} (r : Rem s.heap i (c :: xs))
    (hQ : ∀ h', Rem h' i xs → Heap.SameBut i s.heap h' → Q (some (.str ⟨#[c]⟩ s.toks)) { s with heap := h', toks := s.toks + 1 }) :
    wpAny (model prog w) A (pyNext (.ref i)) Q E s := by
  unfold pyNext
  exact wpAny_bind (wpAny_attempt (wpAny_callSpecial?_slot (name := Str.ofString "__next__") r.typeIs F.slot_str_ascii_iterator_next
    (wpAny_call_entry F.slot_str_ascii_iterator_next r.typeIs F.entry_str_ascii_iterator_next (next_item r fun h' r' hs => wpAny_pure (hQ h' r' hs)) (F.args_str_ascii_iterator_next_1 _))))

theorem pyNext_end {i : Addr} {Q : Option Value → Shared → Prop} (hh : A.handled = none) (r : Rem s.heap i [])
    (hQ : ∀ h', Rem h' i [] → Heap.ExtBut i s.heap h' → Q none { s with heap := h' }) :
    wpAny (model prog w) A (pyNext (.ref i)) Q E s := by
  unfold pyNext
  refine wpAny_bind (wpAny_attempt (wpAny_callSpecial?_slot (name := Str.ofString "__next__") r.typeIs F.slot_str_ascii_iterator_next
    (wpAny_call_entry F.slot_str_ascii_iterator_next r.typeIs F.entry_str_ascii_iterator_next (next_end hh r fun h' e r' hx _ he => ?_) (F.args_str_ascii_iterator_next_1 _))))
  obtain ⟨o, ho, hc⟩ := he
  refine wpAny_bind (wpAny_isInstance (T := "StopIteration") (b := true) ⟨o, ho, hc⟩ isSubtype_stop ?_)
  exact wpAny_pure (hQ _ r' hx)

theorem pyIter_rem {i : Addr} {xs : List Nat} {Q : Value → Shared → Prop} (r : Rem s.heap i xs) (h : Q (.ref i) s) :
    wpAny (model prog w) A (pyIter (.ref i)) Q E s := by
  refine wpAny_pyIter_slot r.typeIs F.slot_str_ascii_iterator_iter (wpAny_call_entry F.slot_str_ascii_iterator_iter r.typeIs F.entry_str_ascii_iterator_iter ?_ (F.args_str_ascii_iterator_iter_1 _))
  show wpAny _ _ (ret (.ref i)) _ _ s
  exact wpAny_pure ⟨_, rfl, "str_ascii_iterator", _, r.typeIs, F.slot_str_ascii_iterator_next.lookup, h⟩

theorem pyIter_text {x : Str} {t : Tok} {Q : Value → Shared → Prop} (ha : x.cps.all (· < 128) = true)
    (hQ : ∀ h' i, Rem h' i x.cps.toList → s.heap.objs.size = i → h'.objs.size = i + 1 → (∀ b o, s.heap.get? b = some o → h'.get? b = some o) → Q (.ref i) { s with heap := h' }) :
    wpAny (model prog w) A (pyIter (.str x t)) Q E s :=
  wpAny_pyIter_ascii ha (hQ _ _ (.inl ⟨x, t, 0, ⟨_, Heap.get?_push_size _ rfl, rfl, rfl⟩, rfl⟩) rfl (Heap.size_push ..) fun _ _ e => Heap.get?_push_of_some _ e)
end

end Mine

namespace Mine

def Only (i j : Addr) (h h' : Heap) : Prop := ∀ b o, b ≠ i → b ≠ j → h.get? b = some o → h'.get? b = some o
def Both (i j : Addr) (h h' : Heap) : Prop := ∀ b, b = i ∨ b = j → ∀ o, h.get? b = some o → h'.get? b = some o
def IsStop (h : Heap) (e : Addr) : Prop := ∃ o, h.get? e = some o ∧ o.cls = .type "StopIteration"

/-- two sources that are drawn by turns: n pairs, then an end -/
structure Feed (prog : Program) (w : World) (i j : Addr) (n : Nat) (xs ys : Nat → Nat) (J J' : Nat → Heap → Prop) (Fin : Heap → Prop) : Prop where
  frame : ∀ k h h', J k h → Both i j h h' → J k h'
  frame' : ∀ k h h', J' k h → Both i j h h' → J' k h'
  frameF : ∀ h h', Fin h → Both i j h h' → Fin h'
  lt : ∀ k h, J k h → i < h.objs.size ∧ j < h.objs.size
  one : ∀ k (A : Around) (s : Shared) (Q : Value → Shared → Prop) E, k < n → J k s.heap →
    (∀ h' t tk, J' k h' → Only i j s.heap h' → Q (.str ⟨#[xs k]⟩ t) { s with heap := h', toks := tk }) → wpAny (model prog w) A (Builtin.SmallTypes.nextOf (.ref i)) Q E s
  two : ∀ k (A : Around) (s : Shared) (Q : Value → Shared → Prop) E, k < n → J' k s.heap →
    (∀ h' t tk, J (k + 1) h' → Only i j s.heap h' → Q (.str ⟨#[ys k]⟩ t) { s with heap := h', toks := tk }) → wpAny (model prog w) A (Builtin.SmallTypes.nextOf (.ref j)) Q E s
  ends : (∀ (A : Around) (s : Shared) (Q : Value → Shared → Prop) (E : Value → Shared → Prop), A.handled = none → J n s.heap →
      (∀ h' e, Fin h' → Only i j s.heap h' → IsStop h' e → E (.ref e) { s with heap := h' }) → wpAny (model prog w) A (Builtin.SmallTypes.nextOf (.ref i)) Q E s) ∨
    ((∀ (A : Around) (s : Shared) (Q : Value → Shared → Prop) E, J n s.heap →
      (∀ v h' tk, J' n h' → Only i j s.heap h' → Q v { s with heap := h', toks := tk }) → wpAny (model prog w) A (Builtin.SmallTypes.nextOf (.ref i)) Q E s) ∧
     (∀ (A : Around) (s : Shared) (Q : Value → Shared → Prop) (E : Value → Shared → Prop), A.handled = none → J' n s.heap →
      (∀ h' e, Fin h' → Only i j s.heap h' → IsStop h' e → E (.ref e) { s with heap := h' }) → wpAny (model prog w) A (Builtin.SmallTypes.nextOf (.ref j)) Q E s))

structure Apart (z TI TO i j : Addr) : Prop where
  TIz : TI ≠ z
  TOz : TO ≠ z
  TITO : TI ≠ TO
  iz : i ≠ z
  jz : j ≠ z
  iTI : i ≠ TI
  jTI : j ≠ TI
  iTO : i ≠ TO
  jTO : j ≠ TO

section
variable {prog : Program} {w : World} {A : Around} {E : Value → Shared → Prop} {s : Shared} {i j : Addr} {n : Nat} {xs ys : Nat → Nat} {J J' : Nat → Heap → Prop} {Fn : Heap → Prop} {z TI TO : Addr}

theorem zip_item {k : Nat} {a b : Value} {Q : Value → Shared → Prop} (W : Feed prog w i j n xs ys J J' Fn) (D : Apart z TI TO i j) (hk : k < n)
    (hz : IsZip s.heap z TI TO .none) (hTI : IsPair s.heap TI (.ref i) (.ref j)) (hTO : IsPair s.heap TO a b) (hJ : J k s.heap)
    (hQ : ∀ h' (T : Addr) t u tk, IsZip h' z TI TO (rawInt T) → IsPair h' TI (.ref i) (.ref j) → IsPair h' TO (.str ⟨#[xs k]⟩ t) (.str ⟨#[ys k]⟩ u) → J (k + 1) h' → IsPair h' T (.str ⟨#[xs k]⟩ t) (.str ⟨#[ys k]⟩ u) →
      T ≠ z → T ≠ TO → T ≠ i → T ≠ j → (∀ c o, c ≠ z → c ≠ TO → c ≠ i → c ≠ j → s.heap.get? c = some o → h'.get? c = some o) → Q (.ref T) { s with heap := h', toks := tk }) :
    wpAny (model prog w) A (Builtin.«zip.__next__» ⟨[.ref z], []⟩) (fun fin s' => ∃ v, fin = .done (.ret v) ∧ Q v s') E s := by
  show wpAny _ _ (field (.ref z) 2 >>= _) _ _ _
  refine wpAny_bind (wpAny_field hz rfl (x := .bool false) rfl ?_)
  show wpAny _ _ (field (.ref z) 3 >>= _) _ _ _
  refine wpAny_bind (wpAny_field hz rfl (x := .ref TI) rfl ?_)
  refine wpAny_bind (wpAny_seqItems hTI rfl ?_)
  show wpAny _ _ (Builtin.SmallTypes.ownedTupleIsFree (.ref z) >>= _) _ _ _
  refine wpAny_bind ?_
  unfold Builtin.SmallTypes.ownedTupleIsFree
  refine wpAny_bind (wpAny_field hz rfl (x := .none) rfl (wpAny_pure ?_))
  simp only [if_true]
  refine wpAny_bind (wpAny_rule ?_)
  refine wpAny_bind (wpAny_field hz rfl (x := .ref TO) rfl ?_)
  refine wpAny_bind (wpAny_setField_rec hz (by simp) fun h₁ hz₁ hs₁ => ?_)
  replace hz₁ : IsZip h₁ z TI TO .ellipsis := hz₁
  have hJ₁ : J k h₁ := W.frame _ _ _ hJ fun b hb o e => hs₁.extBut b o (by rcases hb with rfl | rfl; exact D.iz; exact D.jz) e
  have hTI₁ := hs₁.extBut _ _ D.TIz hTI
  have hTO₁ := hs₁.extBut _ _ D.TOz hTO
  refine wpAny_bind ?_
  simp only [List.zipIdx_cons, List.zipIdx_nil, List.forIn_cons, List.forIn_nil]
  refine wpAny_bind (wpAny_bind (wpAny_onRaise ?_))
  show wpAny _ _ (Builtin.SmallTypes.nextOf (.ref i) >>= _) _ _ _
  refine wpAny_bind (W.one k _ _ _ _ hk hJ₁ fun h₂ t₂ tk₂ hJ₂ hs₂ => wpAny_pure ?_)
  have hz₂ := hs₂ _ _ D.iz.symm D.jz.symm hz₁
  have hTI₂ := hs₂ _ _ D.iTI.symm D.jTI.symm hTI₁
  have hTO₂ : IsPair h₂ TO a b := hs₂ _ _ D.iTO.symm D.jTO.symm hTO₁
  refine wpAny_bind (wpAny_seqItems hTO₂ rfl ?_)
  refine wpAny_bind (wpAny_updateSeq_pair hTO₂ fun h₃ hTO₃ hs₃ => ?_)
  replace hTO₃ : IsPair h₃ TO (.str ⟨#[xs k]⟩ t₂) b := hTO₃
  have hz₃ := hs₃.extBut _ _ D.TOz.symm hz₂
  have hTI₃ := hs₃.extBut _ _ D.TITO hTI₂
  have hJ₃ : J' k h₃ := W.frame' _ _ _ hJ₂ fun b hb o e => hs₃.extBut b o (by rcases hb with rfl | rfl; exact D.iTO; exact D.jTO) e
  refine wpAny_bind (wpAny_letGo (wpAny_pure ?_))
  refine wpAny_bind (wpAny_bind (wpAny_onRaise ?_))
  show wpAny _ _ (Builtin.SmallTypes.nextOf (.ref j) >>= _) _ _ _
  refine wpAny_bind (W.two k _ _ _ _ hk hJ₃ fun h₄ t₄ tk₄ hJ₄ hs₄ => wpAny_pure ?_)
  have hz₄ := hs₄ _ _ D.iz.symm D.jz.symm hz₃
  have hTI₄ := hs₄ _ _ D.iTI.symm D.jTI.symm hTI₃
  have hTO₄ := hs₄ _ _ D.iTO.symm D.jTO.symm hTO₃
  refine wpAny_bind (wpAny_seqItems hTO₄ rfl ?_)
  refine wpAny_bind (wpAny_updateSeq_pair hTO₄ fun h₅ hTO₅ hs₅ => ?_)
  replace hTO₅ : IsPair h₅ TO (.str ⟨#[xs k]⟩ t₂) (.str ⟨#[ys k]⟩ t₄) := hTO₅
  have hz₅ := hs₅.extBut _ _ D.TOz.symm hz₄
  have hTI₅ := hs₅.extBut _ _ D.TITO hTI₄
  have hJ₅ : J (k + 1) h₅ := W.frame _ _ _ hJ₄ fun b hb o e => hs₅.extBut b o (by rcases hb with rfl | rfl; exact D.iTO; exact D.jTO) e
  refine wpAny_bind (wpAny_letGo (wpAny_pure (wpAny_pure ?_)))
  refine wpAny_bind (wpAny_seqItems hTO₅ rfl ?_)
  refine wpAny_bind (wpAny_newTuple ?_)
  have hk₅ : ∀ c o, c ≠ z → c ≠ TO → c ≠ i → c ≠ j → s.heap.get? c = some o → h₅.get? c = some o := fun c o c1 c2 c3 c4 e =>
    hs₅.extBut _ _ c2 (hs₄ _ _ c3 c4 (hs₃.extBut _ _ c2 (hs₂ _ _ c3 c4 (hs₁.extBut _ _ c1 e))))
  have hzlt : z < h₅.objs.size := Heap.lt_size hz₅
  have hTOlt : TO < h₅.objs.size := Heap.lt_size hTO₅
  obtain ⟨hilt, hjlt⟩ := W.lt _ _ hJ₅
  show wpAny _ _ (Builtin.SmallTypes.ownedTupleHandOut (.ref z) (.ref h₅.objs.size) >>= _) _ _ _
  refine wpAny_bind ?_
  unfold Builtin.SmallTypes.ownedTupleHandOut
  have hz₆ : IsZip (h₅.push { cls := .type "tuple", data := .seq #[.str ⟨#[xs k]⟩ t₂, .str ⟨#[ys k]⟩ t₄] }) z TI TO .ellipsis := Heap.get?_push_of_some _ hz₅
  refine wpAny_bind (wpAny_setField_rec hz₆ (by simp) fun h₇ hz₇ hs₇ => ?_)
  replace hz₇ : IsZip h₇ z TI TO (rawInt h₅.objs.size) := hz₇
  refine wpAny_setField_rec hz₇ (by simp) fun h₈ hz₈ hs₈ => ?_
  replace hz₈ : IsZip h₈ z TI TO (rawInt h₅.objs.size) := hz₈
  have up : ∀ c o, c ≠ z → h₅.get? c = some o → h₈.get? c = some o := fun c o c1 e => hs₈.extBut _ _ c1 (hs₇.extBut _ _ c1 (Heap.get?_push_of_some _ e))
  have hT₈ : IsPair h₈ h₅.objs.size (.str ⟨#[xs k]⟩ t₂) (.str ⟨#[ys k]⟩ t₄) := hs₈.extBut _ _ (Nat.ne_of_gt hzlt) (hs₇.extBut _ _ (Nat.ne_of_gt hzlt) (Heap.get?_push_size _ rfl))
  refine wpAny_pure ⟨_, rfl, ?_⟩
  exact hQ h₈ h₅.objs.size t₂ t₄ tk₄ hz₈ (up _ _ D.TIz hTI₅) (up _ _ D.TOz hTO₅) (W.frame _ _ _ hJ₅ fun b hb o e => up b o (by rcases hb with rfl | rfl; exact D.iz; exact D.jz) e) hT₈
    (Nat.ne_of_gt hzlt) (Nat.ne_of_gt hTOlt) (Nat.ne_of_gt hilt) (Nat.ne_of_gt hjlt) fun c o c1 c2 c3 c4 e => up c o c1 (hk₅ c o c1 c2 c3 c4 e)

theorem zip_end {a b : Value} {Q : PySem.Fin → Shared → Prop} (hh : A.handled = none) (W : Feed prog w i j n xs ys J J' Fn) (D : Apart z TI TO i j)
    (hz : IsZip s.heap z TI TO .none) (hTI : IsPair s.heap TI (.ref i) (.ref j)) (hTO : IsPair s.heap TO a b) (hJ : J n s.heap)
    (hE : ∀ h' e tk, Fn h' → (∀ c o, c ≠ z → c ≠ TO → c ≠ i → c ≠ j → s.heap.get? c = some o → h'.get? c = some o) → IsStop h' e → E (.ref e) { s with heap := h', toks := tk }) :
    wpAny (model prog w) A (Builtin.«zip.__next__» ⟨[.ref z], []⟩) Q E s := by
  show wpAny _ _ (field (.ref z) 2 >>= _) _ _ _
  refine wpAny_bind (wpAny_field hz rfl (x := .bool false) rfl ?_)
  show wpAny _ _ (field (.ref z) 3 >>= _) _ _ _
  refine wpAny_bind (wpAny_field hz rfl (x := .ref TI) rfl ?_)
  refine wpAny_bind (wpAny_seqItems hTI rfl ?_)
  show wpAny _ _ (Builtin.SmallTypes.ownedTupleIsFree (.ref z) >>= _) _ _ _
  refine wpAny_bind ?_
  unfold Builtin.SmallTypes.ownedTupleIsFree
  refine wpAny_bind (wpAny_field hz rfl (x := .none) rfl (wpAny_pure ?_))
  simp only [if_true]
  refine wpAny_bind (wpAny_rule ?_)
  refine wpAny_bind (wpAny_field hz rfl (x := .ref TO) rfl ?_)
  refine wpAny_bind (wpAny_setField_rec hz (by simp) fun h₁ hz₁ hs₁ => ?_)
  replace hz₁ : IsZip h₁ z TI TO .ellipsis := hz₁
  have hJ₁ : J n h₁ := W.frame _ _ _ hJ fun b hb o e => hs₁.extBut b o (by rcases hb with rfl | rfl; exact D.iz; exact D.jz) e
  have hTO₁ := hs₁.extBut _ _ D.TOz hTO
  refine wpAny_bind ?_
  simp only [List.zipIdx_cons, List.zipIdx_nil, List.forIn_cons, List.forIn_nil]
  refine wpAny_bind (wpAny_bind (wpAny_onRaise ?_))
  show wpAny _ _ (Builtin.SmallTypes.nextOf (.ref i) >>= _) _ _ _
  rcases W.ends with e1 | ⟨g1, e2⟩
  · refine wpAny_bind (e1 _ _ _ _ hh hJ₁ fun h₂ e hF hs₂ he => ?_)
    obtain ⟨oe, hoe, hce⟩ := he
    have hz₂ := hs₂ _ _ D.iz.symm D.jz.symm hz₁
    have hez : e ≠ z := fun x => by subst x; rw [hz₂] at hoe; cases hoe; simp at hce
    refine wpAny_setField_rec hz₂ (by simp) fun h₃ _ hs₃ => hE h₃ e _ (W.frameF _ _ hF fun b hb o e => hs₃.extBut b o (by rcases hb with rfl | rfl; exact D.iz; exact D.jz) e)
      (fun c o c1 _ c3 c4 x => hs₃.extBut _ _ c1 (hs₂ _ _ c3 c4 (hs₁.extBut _ _ c1 x))) ⟨oe, hs₃.extBut _ _ hez hoe, hce⟩
  · refine wpAny_bind (g1 _ _ _ _ hJ₁ fun v h₂ tk₂ hJ₂ hs₂ => wpAny_pure ?_)
    have hz₂ := hs₂ _ _ D.iz.symm D.jz.symm hz₁
    have hTO₂ : IsPair h₂ TO a b := hs₂ _ _ D.iTO.symm D.jTO.symm hTO₁
    refine wpAny_bind (wpAny_seqItems hTO₂ rfl ?_)
    refine wpAny_bind (wpAny_updateSeq_pair hTO₂ fun h₃ hTO₃ hs₃ => ?_)
    have hz₃ := hs₃.extBut _ _ D.TOz.symm hz₂
    have hJ₃ : J' n h₃ := W.frame' _ _ _ hJ₂ fun b hb o e => hs₃.extBut b o (by rcases hb with rfl | rfl; exact D.iTO; exact D.jTO) e
    refine wpAny_bind (wpAny_letGo (wpAny_pure ?_))
    refine wpAny_bind (wpAny_bind (wpAny_onRaise ?_))
    show wpAny _ _ (Builtin.SmallTypes.nextOf (.ref j) >>= _) _ _ _
    refine wpAny_bind (e2 _ _ _ _ hh hJ₃ fun h₄ e hF hs₄ he => ?_)
    obtain ⟨oe, hoe, hce⟩ := he
    have hz₄ := hs₄ _ _ D.iz.symm D.jz.symm hz₃
    have hez : e ≠ z := fun x => by subst x; rw [hz₄] at hoe; cases hoe; simp at hce
    refine wpAny_setField_rec hz₄ (by simp) fun h₅ _ hs₅ => hE h₅ e _ (W.frameF _ _ hF fun b hb o e => hs₅.extBut b o (by rcases hb with rfl | rfl; exact D.iz; exact D.jz) e)
      (fun c o c1 c2 c3 c4 x => hs₅.extBut _ _ c1 (hs₄ _ _ c3 c4 (hs₃.extBut _ _ c2 (hs₂ _ _ c3 c4 (hs₁.extBut _ _ c1 x))))) ⟨oe, hs₅.extBut _ _ hez hoe, hce⟩
end

/-- as the library's WalksU, and the end tells its state -/
structure WalksF (prog : Program) (w : World) (A : Around) (I : Addr) (fp wr : List Addr) (n : Nat) (Pt : Nat → Array Value → Prop) (St : Nat → Heap → Prop) (Mid : Nat → Addr → Heap → Prop) (Fin : Heap → Prop) : Prop where
  sub : ∀ b ∈ wr, b ∈ fp
  frame : ∀ i h h', St i h → (∀ b ∈ fp, ∀ o, h.get? b = some o → h'.get? b = some o) → St i h'
  frameF : ∀ h h', Fin h → (∀ b ∈ fp, ∀ o, h.get? b = some o → h'.get? b = some o) → Fin h'
  item : ∀ i (s : Shared) (Q : Option Value → Shared → Prop) (E : Value → Shared → Prop), i < n → St i s.heap →
    (∀ T vals h' tk, Pt i vals → h'.IsTuple T vals → Mid i T h' → (∀ b o, b ∉ wr → s.heap.get? b = some o → h'.get? b = some o) → Q (some (.ref T)) { s with heap := h', toks := tk }) →
    wpAny (model prog w) A (pyNext (.ref I)) Q E s
  go : ∀ (elts : List Expr) (k : Nat) (pos : Pos) i T (s : Shared) (Q : Unit → Shared → Prop) (E : Value → Shared → Prop), Mid i T s.heap →
    (∀ h', St (i + 1) h' → (∀ b o, b ∉ wr → s.heap.get? b = some o → h'.get? b = some o) → Q () { s with heap := h' }) →
    wpAny (model prog w) A (letOwnedTupleGo (.Tuple elts k pos) (.ref I) (.ref T)) Q E s
  apart : ∀ i T h, Mid i T h → T ∉ wr
  done : ∀ (s : Shared) (Q : Option Value → Shared → Prop) (E : Value → Shared → Prop), St n s.heap →
    (∀ h' tk, Fin h' → (∀ b o, b ∉ wr → s.heap.get? b = some o → h'.get? b = some o) → Q none { s with heap := h', toks := tk }) → wpAny (model prog w) A (pyNext (.ref I)) Q E s
  self : ∀ i (s : Shared) (Q : Value → Shared → Prop) (E : Value → Shared → Prop), St i s.heap → Q (.ref I) s → wpAny (model prog w) A (pyIter (.ref I)) Q E s

theorem WalksF.mono_fp {prog : Program} {w : World} {A : Around} {I : Addr} {fp fp' wr : List Addr} {n : Nat} {Pt St Mid Fin} (W : WalksF prog w A I fp wr n Pt St Mid Fin)
    (h : ∀ b ∈ fp, b ∈ fp') : WalksF prog w A I fp' wr n Pt St Mid Fin where
  sub := fun b hb => h b (W.sub b hb)
  frame := fun i h₁ h₂ st hk => W.frame i h₁ h₂ st fun b hb o e => hk b (h b hb) o e
  frameF := fun h₁ h₂ st hk => W.frameF h₁ h₂ st fun b hb o e => hk b (h b hb) o e
  item := W.item
  go := W.go
  apart := W.apart
  done := W.done
  self := W.self

def PtOf (xs ys : Nat → Nat) (i : Nat) (vals : Array Value) : Prop := ∃ t u, vals = #[.str ⟨#[xs i]⟩ t, .str ⟨#[ys i]⟩ u]
def ZSt (z TI TO i j : Addr) (J : Nat → Heap → Prop) (k : Nat) (h : Heap) : Prop :=
  IsZip h z TI TO .none ∧ IsPair h TI (.ref i) (.ref j) ∧ (∃ a b, IsPair h TO a b) ∧ J k h
def ZMid (z TI TO i j : Addr) (J : Nat → Heap → Prop) (k : Nat) (T : Addr) (h : Heap) : Prop :=
  IsZip h z TI TO (rawInt T) ∧ IsPair h TI (.ref i) (.ref j) ∧ (∃ a b, IsPair h TO a b) ∧ J (k + 1) h ∧ T ≠ z ∧ T ≠ TO ∧ T ≠ i ∧ T ≠ j

theorem WalksF.zip {prog : Program} {w : World} {A : Around} {i j z TI TO : Addr} {n : Nat} {xs ys : Nat → Nat} {J J' : Nat → Heap → Prop} {Fin : Heap → Prop} (hh : A.handled = none)
    (W : Feed prog w i j n xs ys J J' Fin) (D : Apart z TI TO i j) :
    WalksF prog w A z [z, TI, TO, i, j] [z, TO, i, j] n (PtOf xs ys) (ZSt z TI TO i j J) (ZMid z TI TO i j J) Fin where
  sub := fun c hc => by simp at hc ⊢; rcases hc with rfl | rfl | rfl | rfl <;> simp
  frame := fun k h h' hst hk => by
    obtain ⟨hz, hTI, ⟨a, b, hTO⟩, hJ⟩ := hst
    exact ⟨hk z (by simp) _ hz, hk TI (by simp) _ hTI, ⟨a, b, hk TO (by simp) _ hTO⟩, W.frame _ _ _ hJ fun b hb o e => hk b (by rcases hb with rfl | rfl <;> simp) o e⟩
  frameF := fun h h' hF hk => W.frameF _ _ hF fun b hb o e => hk b (by rcases hb with rfl | rfl <;> simp) o e
  item := fun k s Q E hi hst hQ => by
    obtain ⟨hz, hTI, ⟨a, b, hTO⟩, hJ⟩ := hst
    have hT : s.TypeIs (.ref z) "zip" := ⟨_, hz, rfl⟩
    unfold pyNext
    exact wpAny_bind (wpAny_attempt (wpAny_callSpecial?_slot (name := Str.ofString "__next__") hT F.slot_zip_next
      (wpAny_call_entry F.slot_zip_next hT F.entry_zip_next
        (zip_item W D hi hz hTI hTO hJ fun h' T t u tk a1 a2 a3 a4 a5 a6 a7 a8 a9 hk => wpAny_pure (hQ T _ h' tk ⟨t, u, rfl⟩ ⟨_, a5, rfl, _, rfl⟩ ⟨a1, a2, ⟨_, _, a3⟩, a4, a6, a7, a8, a9⟩
          fun c o hc e => hk c o (fun x => hc (by simp [x])) (fun x => hc (by simp [x])) (fun x => hc (by simp [x])) (fun x => hc (by simp [x])) e)) (F.args_zip_next_1 _))))
  go := fun elts k pos m T s Q E hm hQ => by
    obtain ⟨hz, hTI, ⟨a, b, hTO⟩, hJ, _⟩ := hm
    refine wpAny_letOwnedTupleGo_zip hz fun h' hz' hs' => hQ h' ⟨hz', hs'.extBut _ _ D.TIz hTI, ⟨a, b, hs'.extBut _ _ D.TOz hTO⟩,
      W.frame _ _ _ hJ fun b hb o e => hs'.extBut b o (by rcases hb with rfl | rfl; exact D.iz; exact D.jz) e⟩ fun c o hc e => hs'.extBut _ _ (fun x => hc (by simp [x])) e
  apart := fun k T h hm hT => by
    obtain ⟨_, _, _, _, t1, t2, t3, t4⟩ := hm
    simp at hT
    rcases hT with rfl | rfl | rfl | rfl
    · exact t1 rfl
    · exact t2 rfl
    · exact t3 rfl
    · exact t4 rfl
  done := fun s Q E hst hQ => by
    obtain ⟨hz, hTI, ⟨a, b, hTO⟩, hJ⟩ := hst
    have hT : s.TypeIs (.ref z) "zip" := ⟨_, hz, rfl⟩
    unfold pyNext
    refine wpAny_bind (wpAny_attempt (wpAny_callSpecial?_slot (name := Str.ofString "__next__") hT F.slot_zip_next
      (wpAny_call_entry F.slot_zip_next hT F.entry_zip_next (zip_end hh W D hz hTI hTO hJ fun h' e tk hF hk he => ?_) (F.args_zip_next_1 _))))
    obtain ⟨o, ho, hc⟩ := he
    refine wpAny_bind (wpAny_isInstance (T := "StopIteration") (b := true) ⟨o, ho, hc⟩ isSubtype_stop ?_)
    exact wpAny_pure (hQ _ _ hF fun c o hc e => hk c o (fun x => hc (by simp [x])) (fun x => hc (by simp [x])) (fun x => hc (by simp [x])) (fun x => hc (by simp [x])) e)
  self := fun k s Q E hst hQ => wpAny_pyIter_zip hst.1 hQ

end Mine

namespace Mine

theorem drop_cons {α : Type} {l : List α} {k : Nat} {d : α} (h : k < l.length) : l.drop k = l.getD k d :: l.drop (k + 1) := by
  rw [List.drop_eq_getElem_cons h, List.getD_eq_getElem?_getD, List.getElem?_eq_getElem h]; rfl

theorem Feed.apart {prog : Program} {w : World} {i j : Addr} (xs ys : List Nat) (hij : i ≠ j) :
    Feed prog w i j (min xs.length ys.length) (fun k => xs.getD k 0) (fun k => ys.getD k 0)
      (fun k h => Rem h i (xs.drop k) ∧ Rem h j (ys.drop k)) (fun k h => Rem h i (xs.drop (k + 1)) ∧ Rem h j (ys.drop k))
      (fun h => Rem h i (xs.drop (ys.length + 1)) ∧ Rem h j (ys.drop xs.length)) where
  frame := fun k h h' r hb => ⟨r.1.at (hb i (.inl rfl)), r.2.at (hb j (.inr rfl))⟩
  frame' := fun k h h' r hb => ⟨r.1.at (hb i (.inl rfl)), r.2.at (hb j (.inr rfl))⟩
  frameF := fun h h' r hb => ⟨r.1.at (hb i (.inl rfl)), r.2.at (hb j (.inr rfl))⟩
  lt := fun k h r => ⟨r.1.lt, r.2.lt⟩
  one := fun k A s Q E hk r hQ => by
    have hx : k < xs.length := by omega
    rw [drop_cons (d := 0) hx] at r
    exact nextOf_item r.1 fun h' r' hs => hQ h' _ _ ⟨r', r.2.at fun o e => hs.extBut _ _ hij.symm e⟩ fun b o b1 _ e => hs.extBut b o b1 e
  two := fun k A s Q E hk r hQ => by
    have hy : k < ys.length := by omega
    rw [drop_cons (l := ys) (d := 0) hy] at r
    exact nextOf_item r.2 fun h' r' hs => hQ h' _ _ ⟨r.1.at fun o e => hs.extBut _ _ hij e, r'⟩ fun b o _ b2 e => hs.extBut b o b2 e
  ends := by
    rcases Nat.lt_or_ge ys.length xs.length with h | h
    · right
      have hm : min xs.length ys.length = ys.length := by omega
      rw [hm]
      refine ⟨fun A s Q E r hQ => ?_, fun A s Q E hh r hE => ?_⟩
      · rw [drop_cons (l := xs) (d := 0) h] at r
        exact nextOf_item r.1 fun h' r' hs => hQ _ h' _ ⟨r', r.2.at fun o e => hs.extBut _ _ hij.symm e⟩ fun b o b1 _ e => hs.extBut b o b1 e
      · have e1 : ys.drop ys.length = [] := by simp
        have e2 : ys.drop xs.length = [] := List.drop_of_length_le (by omega)
        rw [e1] at r
        exact nextOf_end hh r.2 fun h' e r' hx _ he => hE h' e ⟨r.1.at fun o e => hx _ _ hij e, e2 ▸ r'⟩ (fun b o _ b2 e => hx b o b2 e) he
    · left
      have hm : min xs.length ys.length = xs.length := by omega
      rw [hm]
      intro A s Q E hh r hE
      have e1 : xs.drop xs.length = [] := by simp
      have e2 : xs.drop (ys.length + 1) = [] := List.drop_of_length_le (by omega)
      rw [e1] at r
      exact nextOf_end hh r.1 fun h' e r' hx _ he => hE h' e ⟨e2 ▸ r', r.2.at fun o e => hx _ _ hij.symm e⟩ (fun b o b1 _ e => hx b o b1 e) he

theorem Feed.same {prog : Program} {w : World} {i : Addr} (zs : List Nat) :
    Feed prog w i i (zs.length / 2) (fun k => zs.getD (2 * k) 0) (fun k => zs.getD (2 * k + 1) 0)
      (fun k h => Rem h i (zs.drop (2 * k))) (fun k h => Rem h i (zs.drop (2 * k + 1))) (fun h => Rem h i []) where
  frame := fun k h h' r hb => r.at (hb i (.inl rfl))
  frame' := fun k h h' r hb => r.at (hb i (.inl rfl))
  frameF := fun h h' r hb => r.at (hb i (.inl rfl))
  lt := fun k h r => ⟨r.lt, r.lt⟩
  one := fun k A s Q E hk r hQ => by
    have hx : 2 * k < zs.length := by omega
    rw [drop_cons (d := 0) hx] at r
    exact nextOf_item r fun h' r' hs => hQ h' _ _ r' fun b o b1 _ e => hs.extBut b o b1 e
  two := fun k A s Q E hk r hQ => by
    have hx : 2 * k + 1 < zs.length := by omega
    rw [drop_cons (d := 0) hx] at r
    exact nextOf_item r fun h' r' hs => hQ h' _ _ r' fun b o b1 _ e => hs.extBut b o b1 e
  ends := by
    rcases Nat.lt_or_ge (2 * (zs.length / 2)) zs.length with h | h
    · right
      refine ⟨fun A s Q E r hQ => ?_, fun A s Q E hh r hE => ?_⟩
      · rw [drop_cons (d := 0) h] at r
        exact nextOf_item r fun h' r' hs => hQ _ h' _ r' fun b o b1 _ e => hs.extBut b o b1 e
      · rw [List.drop_of_length_le (by omega)] at r
        exact nextOf_end hh r fun h' e r' hx _ he => hE h' e r' (fun b o b1 _ e => hx b o b1 e) he
    · left
      intro A s Q E hh r hE
      rw [List.drop_of_length_le h] at r
      exact nextOf_end hh r fun h' e r' hx _ he => hE h' e r' (fun b o b1 _ e => hx b o b1 e) he

end Mine

namespace Mine

def protoF (C : Addr) (fp wr : List Addr) (n : Nat) (F : Nat → Value → Prop) : Protocol := fun m s₀ v s kap =>
  F (n - 1 - m) v ∧ GenSince C wr s₀ s ∧ ∀ s'' : Shared, (∀ b ∈ C :: fp, ∀ o, s.heap.get? b = some o → s''.heap.get? b = some o) → kap (.send .none) s''
def stopF (C : Addr) (wr : List Addr) (Fn : Heap → Prop) (n : Nat) (s₀ s₁ : Shared) : Prop := n = 0 ∧ GenSince C wr s₀ s₁ ∧ Fn s₁.heap
abbrev endF (C : Addr) (wr : List Addr) (Fn : Heap → Prop) : GenEnd := fun n s₀ r s₁ => r = .ok .next ∧ stopF C wr Fn n s₀ s₁

/-- the element's value, whatever stands around -/
def Elt (prog : Program) (w : World) (cenv : Env) (xa xb : Str) (elt : Expr) (Pt : Nat → Array Value → Prop) (F : Nat → Value → Prop) : Prop :=
  ∀ (A : Around) (E : Value → Shared → Prop) i va vb (s : Shared) m, Pt i #[va, vb] → s.heap.Ns cenv.locals m → m xa = some va → m xb = some vb →
    wpAny (model prog w) A (eval elt cenv) (fun y s' => F i y ∧ Keeps s s') E s

section
variable {prog : Program} {w : World} {A : Around} {elt iter : Expr} {xa xb : Str} {pa pb pt : Pos} {kt : Nat} {scope : Scope} {pos : Pos} {I : Addr} {fp wr : List Addr} {n₀ : Nat}
  {Pt : Nat → Array Value → Prop} {St₀ : Nat → Heap → Prop} {Mid : Nat → Addr → Heap → Prop} {Fn : Heap → Prop} {cenv : Env} {F : Nat → Value → Prop}

theorem segF_loop (hh : A.handled = none) (W₀ : ∀ A' : Around, A'.handled = none → WalksF prog w A' I fp wr n₀ Pt St₀ Mid Fn) (hsz : ∀ i vals, Pt i vals → ∃ va vb, vals = #[va, vb]) (hab : xa ≠ xb)
    (hxa : cenv.kindOf xa = some .local) (hxb : cenv.kindOf xb = some .local) (hp : (cenv.scope.kind == .class || (cenv.scope.kind == .module && cenv.locals != cenv.globals)) = false)
    (hco : cenv.scope.isCoroutine = false) (hCf : cenv.locals ∉ fp) (hq : Elt prog w cenv xa xb elt Pt F) :
    ∀ (k i : Nat) (s₀ s : Shared) (m : Str → Option Value), n₀ - i = k → i ≤ n₀ → St₀ i s.heap → s.heap.Ns cenv.locals m → GenSince cenv.locals wr s₀ s →
      Seg (model prog w) A (endF cenv.locals wr Fn) (protoF cenv.locals fp wr n₀ F) (n₀ - i) s₀
        (.compLoop (.GeneratorExp elt [⟨.Tuple [.Name xa pa, .Name xb pb] kt pt, iter, [], 0⟩] scope pos) 0 (.ref I) .none cenv)
        ((model prog w).den (.compLoop (.GeneratorExp elt [⟨.Tuple [.Name xa pa, .Name xb pb] kt pt, iter, [], 0⟩] scope pos) 0 (.ref I) .none cenv)) [] s := by
  have hh' : (A.over (.compLoop (.GeneratorExp elt [⟨.Tuple [.Name xa pa, .Name xb pb] kt pt, iter, [], 0⟩] scope pos) 0 (.ref I) .none cenv) []).handled = none := hh
  have hCw : cenv.locals ∉ wr := fun h => hCf ((W₀ A hh).sub _ h)
  intro k
  induction k with
  | zero =>
    intro i s₀ s m hk hi hst hn hsince
    have hin : i = n₀ := by omega
    subst hin
    show Seg _ A _ _ _ s₀ _ ((compTurn (.GeneratorExp elt [⟨.Tuple [.Name xa pa, .Name xb pb] kt pt, iter, [], 0⟩] scope pos) 0 (.ref I) .none cenv).onRaise (leaving cenv)) [] s
    rw [compTurn_gen, Sem.onRaise_eq_wrap]
    refine seg_bind_wrap (wpAny_standAt ?_)
    refine seg_bind_wrap ((W₀ _ hh').done s _ _ hst fun h' tk hF hk' => ?_)
    exact seg_end (.ok .next) ⟨rfl, Nat.sub_self _, hsince.step fun b o _ hw e => hk' b o hw e, hF⟩
  | succ k ih =>
    intro i s₀ s m hk hi hst hn hsince
    have hlt : i < n₀ := by omega
    show Seg _ A _ _ _ s₀ _ ((compTurn (.GeneratorExp elt [⟨.Tuple [.Name xa pa, .Name xb pb] kt pt, iter, [], 0⟩] scope pos) 0 (.ref I) .none cenv).onRaise (leaving cenv)) [] s
    rw [compTurn_gen, Sem.onRaise_eq_wrap]
    refine seg_bind_wrap (wpAny_standAt ?_)
    refine seg_bind_wrap ((W₀ _ hh').item i s _ _ hlt hst fun T vals h₁ tk₁ hPv hT₁ hmid hk₁ => ?_)
    obtain ⟨va, vb, rfl⟩ := hsz i vals hPv
    refine seg_bind_wrap ((W₀ _ hh').go _ _ _ i T _ _ _ hmid fun h₁' hst₁ hk₁' => ?_)
    have hT₁' : h₁'.IsTuple T #[va, vb] := let ⟨o, e, r⟩ := hT₁; ⟨o, hk₁' _ o ((W₀ _ hh').apart i T _ hmid) e, r⟩
    refine seg_bind_wrap (wpAny_assign_Tuple hh' hT₁' rfl rfl fun h₁'' hx₁ => ?_)
    replace hx₁ : Heap.ExtBut h₁'.objs.size h₁' h₁'' := hx₁
    have old₁ : ∀ b o, h₁'.get? b = some o → h₁''.get? b = some o := fun b o e => hx₁ b o (Nat.ne_of_lt (Heap.lt_size e)) e
    show wpAny _ _ (do holding [vb] (assign (.Name xa pa) cenv va); do holding [] (assign (.Name xb pb) cenv vb); pure ()) _ _ _
    refine wpAny_bind (wpAny_holding (wpAny_assign_Name (wpAny_storeName_local hxa (hn.at' fun o e => old₁ _ o (hk₁' _ o hCw (hk₁ _ o hCw e))) (fun h₂a hn₂a hs₂a => ?_) hp)))
    replace hs₂a : Heap.SameBut cenv.locals h₁'' h₂a := hs₂a
    refine wpAny_bind (wpAny_holding (wpAny_assign_Name (wpAny_storeName_local hxb hn₂a (fun h₂ hn₂ hs₂ => wpAny_pure ?_) hp)))
    replace hs₂ : Heap.SameBut cenv.locals h₂a h₂ := hs₂
    have up₂ : ∀ b o, b ≠ cenv.locals → b ∉ wr → s.heap.get? b = some o → h₂.get? b = some o := fun b o hbC hbw e => hs₂.extBut b o hbC (hs₂a.extBut b o hbC (old₁ b o (hk₁' b o hbw (hk₁ b o hbw e))))
    have hst₂ : St₀ (i + 1) h₂ := (W₀ A hh).frame _ _ _ hst₁ fun b hb o e => hs₂.extBut b o (fun h => hCf (h ▸ hb)) (hs₂a.extBut b o (fun h => hCf (h ▸ hb)) (old₁ b o e))
    refine seg_bind_wrap ?_
    show wpAny _ _ (forIn [] true _) _ _ _
    rw [List.forIn_nil]
    refine wpAny_pure ?_
    simp only [if_true]
    have hy : ∀ v, yieldOut cenv v = yieldValue v := fun v => by simp only [yieldOut, hco, Bool.false_eq_true, if_false]
    simp only [hy]
    rw [Sem.bind_eq_wrap', Sem.bind_eq_wrap', Sem.wrap_wrap, Sem.wrap_wrap]
    refine seg_wrap (wpAny_mono (hq _ _ i va vb _ _ hPv hn₂ (by simp [hab]) (by simp)) (fun y s₄ h₄ => ?_) fun _ _ e => e)
    obtain ⟨hFy, h₄, tk₄, rfl, hk₄⟩ := h₄
    have e1 : n₀ - i = (n₀ - (i + 1)) + 1 := by omega
    have e2 : n₀ - 1 - (n₀ - (i + 1)) = i := by omega
    rw [e1]
    refine seg_at (seg_yield rfl rfl rfl ⟨by rw [e2]; exact hFy, hsince.step fun b o hbC hbw e => hk₄ b o (up₂ b o hbC hbw e), fun s'' hal => ?_⟩)
    refine seg_again rfl (ih (i + 1) s'' s'' _ (by omega) hlt ((W₀ A hh).frame _ _ _ hst₂ fun b hb o e => hal b (List.mem_cons_of_mem _ hb) o (hk₄ b o e))
      ((hn₂.keeps hk₄).at' fun o e => hal _ (List.mem_cons_self ..) o e) (GenSince.refl _ _ _))

theorem segF_start (hh : A.handled = none) (W₀ : ∀ A' : Around, A'.handled = none → WalksF prog w A' I fp wr n₀ Pt St₀ Mid Fn) (hsz : ∀ i vals, Pt i vals → ∃ va vb, vals = #[va, vb]) (hab : xa ≠ xb)
    (hxa : cenv.kindOf xa = some .local) (hxb : cenv.kindOf xb = some .local) (hp : (cenv.scope.kind == .class || (cenv.scope.kind == .module && cenv.locals != cenv.globals)) = false)
    (hco : cenv.scope.isCoroutine = false) (hCf : cenv.locals ∉ fp) (hq : Elt prog w cenv xa xb elt Pt F)
    (s₀ s : Shared) (m : Str → Option Value) (hst : St₀ 0 s.heap) (hn : s.heap.Ns cenv.locals m) (hsince : GenSince cenv.locals wr s₀ s) :
    Seg (model prog w) A (endF cenv.locals wr Fn) (protoF cenv.locals fp wr n₀ F) n₀ s₀
      (.compStart (.GeneratorExp elt [⟨.Tuple [.Name xa pa, .Name xb pb] kt pt, iter, [], 0⟩] scope pos) 0 (.ref I) .none cenv)
      ((model prog w).den (.compStart (.GeneratorExp elt [⟨.Tuple [.Name xa pa, .Name xb pb] kt pt, iter, [], 0⟩] scope pos) 0 (.ref I) .none cenv)) [] s := by
  have hh' : (A.over (.compStart (.GeneratorExp elt [⟨.Tuple [.Name xa pa, .Name xb pb] kt pt, iter, [], 0⟩] scope pos) 0 (.ref I) .none cenv) []).handled = none := hh
  have loop := segF_loop (iter := iter) (pa := pa) (pb := pb) (pt := pt) (kt := kt) (scope := scope) (pos := pos) hh W₀ hsz hab hxa hxb hp hco hCf hq n₀ 0 s₀ s m (Nat.sub_zero _) (Nat.zero_le _) hst hn hsince
  rw [Nat.sub_zero] at loop
  show Seg _ A _ _ _ s₀ _ ((compStart (.GeneratorExp elt [⟨.Tuple [.Name xa pa, .Name xb pb] kt pt, iter, [], 0⟩] scope pos) 0 (.ref I) .none cenv).onRaise (leaving cenv)) [] s
  unfold compStart
  rw [Sem.onRaise_eq_wrap]
  show Seg _ A _ _ _ s₀ _ ((ask >>= _).wrap _ _ _ _) [] s
  refine seg_bind_wrap (wpAny_askSetting ?_)
  split
  · exact seg_again rfl loop
  · refine seg_bind_wrap (wpAny_rule ?_)
    show Seg _ A _ _ _ s₀ _ ((standAt iter.pos >>= _).wrap _ _ _ _) [] s
    exact seg_bind_wrap (wpAny_standAt (seg_bind_wrap ((W₀ _ hh').self 0 s _ _ hst (seg_again rfl loop))))

def GenAtF (prog : Program) (w : World) (A : Around) (a : Addr) (g : Nat) (C : Addr) (fp wr : List Addr) (n₀ : Nat) (F : Nat → Value → Prop) (Fn : Heap → Prop) (j : Nat) (s : Shared) : Prop :=
  s.heap.IsGen a g ∧ s.heap.NoLimit ∧ ∃ gs, s.gens[g]? = some gs ∧ ∀ s'' : Shared, (∀ b ∈ C :: fp, ∀ o, s.heap.get? b = some o → s''.heap.get? b = some o) →
    gs.Goes (model prog w) A.in1 (endF C wr Fn) (protoF C fp wr n₀ F) (n₀ - j) (.send .none) s''

theorem GenAtF.fresh {a : Addr} {g : Nat} (hh : A.handled = none) (W₀ : ∀ A' : Around, A'.handled = none → WalksF prog w A' I fp wr n₀ Pt St₀ Mid Fn) (hsz : ∀ i vals, Pt i vals → ∃ va vb, vals = #[va, vb]) (hab : xa ≠ xb)
    (hxa : cenv.kindOf xa = some .local) (hxb : cenv.kindOf xb = some .local) (hp : (cenv.scope.kind == .class || (cenv.scope.kind == .module && cenv.locals != cenv.globals)) = false)
    (hco : cenv.scope.isCoroutine = false) (hCf : cenv.locals ∉ fp) (hq : Elt prog w cenv xa xb elt Pt F) {s : Shared} {m : Str → Option Value}
    (hg : s.heap.IsGen a g) (hgs : s.gens[g]? = some (.fresh (.compStart (.GeneratorExp elt [⟨.Tuple [.Name xa pa, .Name xb pb] kt pt, iter, [], 0⟩] scope pos) 0 (.ref I) .none cenv)))
    (hst : St₀ 0 s.heap) (hn : s.heap.Ns cenv.locals m) (hl : s.heap.NoLimit) : GenAtF prog w A a g cenv.locals fp wr n₀ F Fn 0 s :=
  ⟨hg, hl, _, hgs, fun s'' hal => ⟨rfl, segF_start (A := A.in1) hh W₀ hsz hab hxa hxb hp hco hCf hq s'' s'' m ((W₀ A hh).frame _ _ _ hst fun b hb o e => hal b (List.mem_cons_of_mem _ hb) o e)
    (hn.at' fun o e => hal _ (List.mem_cons_self ..) o e) (GenSince.refl _ _ _)⟩⟩
end

/-- as the library's WalksS, and the end tells its state -/
structure WalksSF (prog : Program) (w : World) (A : Around) (I : Addr) (fp wr : List Addr) (G : Array GenState → Array GenState → Prop) (n : Nat) (P : Nat → Value → Prop) (St : Nat → Shared → Prop) (Fn : Heap → Prop) : Prop where
  sub : ∀ b ∈ wr, b ∈ fp
  grefl : ∀ a, G a a
  gtrans : ∀ a b c, G a b → G b c → G a c
  frame : ∀ i (s : Shared) h' tk, St i s → s.toks ≤ tk → (∀ b ∈ fp, ∀ o, s.heap.get? b = some o → h'.get? b = some o) → St i { s with heap := h', toks := tk }
  item : ∀ i (s : Shared) (Q : Option Value → Shared → Prop) (E : Value → Shared → Prop), i < n → St i s →
    (∀ v s', P i v → St (i + 1) s' → Moved wr G s s' → Q (some v) s') → wpAny (model prog w) A (pyNext (.ref I)) Q E s
  done : ∀ (s : Shared) (Q : Option Value → Shared → Prop) (E : Value → Shared → Prop), St n s → (∀ s', Fn s'.heap → Moved wr G s s' → Q none s') → wpAny (model prog w) A (pyNext (.ref I)) Q E s
  self : ∀ i (s : Shared) (Q : Value → Shared → Prop) (E : Value → Shared → Prop), St i s → Q (.ref I) s → wpAny (model prog w) A (pyIter (.ref I)) Q E s

section
variable {prog : Program} {w : World} {A : Around}

theorem WalksSF.genexp (hh : A.handled = none) (a : Addr) (g : Nat) (C : Addr) (fp wr : List Addr) (n₀ : Nat) (F : Nat → Value → Prop) (Fn : Heap → Prop) (haC : a ≠ C) (haf : a ∉ fp) (hsub : ∀ b ∈ wr, b ∈ fp)
    (hroom : A.depth < recursionLimit) (hcs : cStatics ∈ fp) (hcC : cStatics ≠ C) (hcw : cStatics ∉ wr) (hFn : ∀ h h', Fn h → (∀ b o, h.get? b = some o → h'.get? b = some o) → Fn h') :
    WalksSF prog w A a (a :: C :: fp) (C :: wr) (GenOnlyQ g) n₀ F (GenAtF prog w A a g C fp wr n₀ F Fn) Fn where
  sub := fun b hb => by
    rcases List.mem_cons.mp hb with rfl | hb
    · simp
    · exact List.mem_cons_of_mem _ (List.mem_cons_of_mem _ (hsub b hb))
  grefl := fun _ => .inl rfl
  gtrans := fun _ _ _ x y => x.trans y
  frame := fun j s h' tk st _ hk =>
    ⟨let ⟨o, nm, qn, ho, r⟩ := st.1; ⟨o, nm, qn, hk a (List.mem_cons_self ..) o ho, r⟩,
     (let ⟨mc, hns, hnn⟩ := st.2.1; ⟨mc, hns.at' fun o e => hk cStatics (List.mem_cons_of_mem _ (List.mem_cons_of_mem _ hcs)) o e, hnn⟩),
     let ⟨gs, hgs, hgo⟩ := st.2.2; ⟨gs, hgs, fun s'' hal => hgo s'' fun b hb o e => hal b hb o (hk b (List.mem_cons_of_mem _ hb) o e)⟩⟩
  item := fun j s Q E hj st hQ => by
    obtain ⟨hg, hl, gs, hgs, hgo⟩ := st
    obtain ⟨m, hm⟩ : ∃ m, n₀ - j = m + 1 := ⟨n₀ - j - 1, by omega⟩
    rw [hm] at hgo
    refine wpAny_with_toks (Nat.le_refl s.toks) ?_
    refine wpAny_pyNext_genexpQ (P := stopF C wr Fn) hh hl hroom hg hgs (hgo _ fun _ _ _ e => e) (fun v s₁ gs' hb hv => ?_) (fun s₁ hp h' hk => ?_)
    · obtain ⟨hF, ⟨h₁, tk₁, rfl, hk₁⟩, hkap⟩ := hv
      have hidx : n₀ - 1 - (m + 1 - 1) = j := by omega
      rw [hidx] at hF
      have haw : a ∉ wr := fun h => haf (hsub a h)
      intro htk
      refine hQ v _ hF ⟨let ⟨o, nm, qn, ho, r⟩ := hg; ⟨o, nm, qn, hk₁ a o haC haw ho, r⟩, (let ⟨mc, hns, hnn⟩ := hl; ⟨mc, hns.at' fun o e => hk₁ cStatics o hcC hcw e, hnn⟩), gs', setGen_self (gs := .running) (setGen_self hgs), fun s'' hal => ?_⟩
        ⟨fun b o hb e => hk₁ b o (fun h => hb (h ▸ List.mem_cons_self ..)) (fun h => hb (List.mem_cons_of_mem _ h)) e, GenOnlyQ.of ((GenOnly.setGen s g .running).trans (GenOnly.setGen _ g gs')) (setGen_self (gs := .running) (setGen_self hgs)) hb, rfl, rfl, htk⟩
      have e : n₀ - (j + 1) = m := by omega
      rw [e]
      exact hkap s'' hal
    · exact absurd hp.1 (Nat.succ_ne_zero m)
  done := fun s Q E st hQ => by
    obtain ⟨hg, hl, gs, hgs, hgo⟩ := st
    rw [Nat.sub_self] at hgo
    refine wpAny_with_toks (Nat.le_refl s.toks) ?_
    refine wpAny_pyNext_genexpQ (P := stopF C wr Fn) hh hl hroom hg hgs (hgo _ fun _ _ _ e => e) (fun v s₁ gs' hb hv => ?_) (fun s₁ hp h' hk => ?_)
    · obtain ⟨_, _, hkap⟩ := hv
      exact False.elim (hkap s₁ fun _ _ _ e => e)
    · obtain ⟨_, ⟨h₁, tk₁, rfl, hk₁⟩, hF⟩ := hp
      intro htk
      exact hQ _ (hFn _ _ hF hk) ⟨fun b o hb e => hk b o (hk₁ b o (fun h => hb (h ▸ List.mem_cons_self ..)) (fun h => hb (List.mem_cons_of_mem _ h)) e), GenOnlyQ.of ((GenOnly.setGen s g .running).trans (GenOnly.setGen _ g .finished)) (setGen_self (gs := .running) (setGen_self hgs)) rfl, rfl, rfl, htk⟩
  self := fun _ _ _ _ st hQ => wpAny_pyIter_gen st.1 hQ

theorem WalksSF.of_in1 {I : Addr} {fp wr : List Addr} {G : Array GenState → Array GenState → Prop} {n : Nat} {P : Nat → Value → Prop} {St : Nat → Shared → Prop} {Fn : Heap → Prop}
    (W : WalksSF prog w A.in1 I fp wr G n P St Fn) : WalksSF prog w A I fp wr G n P St Fn where
  sub := W.sub
  grefl := W.grefl
  gtrans := W.gtrans
  frame := W.frame
  item := fun i s Q E hi st hQ => wpAny_of_in1 (W.item i s Q E hi st hQ)
  done := fun s Q E st hQ => wpAny_of_in1 (W.done s Q E st hQ)
  self := fun i s Q E st hQ => wpAny_of_in1 (W.self i s Q E st hQ)
end

end Mine

namespace Mine

section
variable {prog : Program} {w : World} {A : Around} {R : Result → Shared → Prop} {I : Addr} {fp wr : List Addr} {G : Array GenState → Array GenState → Prop} {n : Nat} {P : Nat → Value → Prop} {St : Nat → Shared → Prop} {Fn : Heap → Prop}

theorem extendF (W : WalksSF prog w A.in1 I fp wr G n P St Fn) (hn : n ≤ sizeLine) (S : Addr) (hSf : S ∉ fp) (res : Value) :
    ∀ (k i : Nat) (s : Shared) (acc : Array Value) (c : Nat), n - i = k → i ≤ n → St i s → s.heap.get? S = some { cls := .type "list", dict := none, data := .seq acc c, slots := #[] } → ItemsOf P acc i →
    (∀ s' acc' c', Fn s'.heap → Moved (S :: wr) G s s' → s'.heap.get? S = some { cls := .type "list", dict := none, data := .seq acc' c', slots := #[] } → ItemsOf P acc' n → R (.ok (.ret res)) s') →
    codeAny (model prog w) A (.builtin "list.extend.loop" ⟨[.ref S, .ref I, res], []⟩) R s := by
  have hSw : S ∉ wr := fun h => hSf (W.sub _ h)
  have hsub : ∀ b ∈ wr, b ∈ S :: wr := fun b hb => List.mem_cons_of_mem _ hb
  intro k
  induction k with
  | zero =>
    intro i s acc c hk hi hst hS hacc hR
    have hin : i = n := by omega
    subst hin
    refine codeAny_builtin F.entry_extend_loop ?_
    rw [Around.under_plainId F.plain_extend_loop _]
    show wpAny _ A.in1 (pyNext (.ref I) >>= _) _ _ s
    refine wpAny_bind (W.done s _ _ hst fun s' hF hm => ?_)
    exact wpAny_pure (hR s' acc c hF (hm.mono hsub) (hm.heap S _ hSw hS) hacc)
  | succ k ih =>
    intro i s acc c hk hi hst hS hacc hR
    have hlt : i < n := by omega
    refine codeAny_builtin F.entry_extend_loop ?_
    rw [Around.under_plainId F.plain_extend_loop _]
    show wpAny _ A.in1 (pyNext (.ref I) >>= _) _ _ s
    refine wpAny_bind (W.item i s _ _ hlt hst fun v s' hP hst' hm => ?_)
    have hS' := hm.heap S _ hSw hS
    show wpAny _ A.in1 (updateSeq S (·.push v) >>= _) _ _ _
    refine wpAny_bind ?_
    refine wpAny_updateSeq hS' rfl (wpAny_pure ⟨plainId_quiet F.plain_extend_loop _, ih (i + 1) _ (acc.push v) _ (by omega) hlt (W.frame _ s' _ s'.toks hst' (Nat.le_refl _) fun b hb o e => ?_) (Heap.get?_update_self _ hS' rfl) (hacc.push hP) fun s'' acc' c' hF hm'' hS'' hacc' => ?_⟩)
      (by rw [hacc.1]; omega) (by show (acc.push v).size ≤ sizeLine + 1; rw [Array.size_push, hacc.1]; omega)
    · exact (Heap.get?_update_other _ _ (fun h : S = b => hSf (by rw [h]; exact hb))).trans e
    · refine hR s'' acc' c' hF (Moved.trans W.gtrans ((hm.mono hsub).then_heap (Nat.le_refl _) fun b o hb e => ?_) hm'') hS'' hacc'
      exact (Heap.get?_update_other _ _ (fun h : S = b => hb (by rw [h]; exact List.mem_cons_self))).trans e
end

section
variable {prog : Program} {w : World} {A : Around} {E : Value → Shared → Prop} {s : Shared} {I : Addr} {fp wr : List Addr} {G : Array GenState → Array GenState → Prop} {n : Nat} {P : Nat → Value → Prop} {St : Nat → Shared → Prop} {Fn : Heap → Prop}

theorem collectF {Q : List Value → Shared → Prop} (W : WalksSF prog w A.in1 I fp wr G n P St Fn) (hT : ∀ i s, St i s → s.TypeIs (.ref I) "generator") (hst : St 0 s) (hfp : ∀ b ∈ fp, b < s.heap.objs.size) (hI : I ∈ fp)
    (hQ : ∀ s' acc, Fn s'.heap → Moved wr G s s' → ItemsOf P acc n → Q acc.toList s') (hn : n ≤ sizeLine) : wpAny (model prog w) A (collect (.ref I)) Q E s := by
  have hSf : s.heap.objs.size ∉ fp := fun hm => Nat.lt_irrefl _ (hfp _ hm)
  have hSI : s.heap.objs.size ≠ I := fun e => hSf (e ▸ hI)
  unfold collect
  refine wpAny_bind (wpAny_runValue (codeAny_builtin F.entry_proto_collect ?_))
  rw [Around.under_plainId F.plain_proto_collect _]
  show wpAny _ A.in1 (newList [] >>= fun l => again (.builtin "list.__iadd__" ⟨[l, .ref I], []⟩)) _ _ s
  refine wpAny_bind (wpAny_newObj_type ?_)
  refine wpAny_pure ⟨plainId_quiet F.plain_list_iadd _, codeAny_builtin F.entry_list_iadd ?_⟩
  rw [Around.under_plainId F.plain_list_iadd _]
  have hst₁ := W.frame 0 s (s.heap.push { cls := .type "list", data := .seq ([] : List Value).toArray }) s.toks hst (Nat.le_refl _) fun b _ o e => Heap.get?_push_of_some _ e
  show wpAny _ A.in1 (Builtin.List.listExtendWith (.ref s.heap.objs.size) (.ref I) (.ref s.heap.objs.size)) _ _ _
  unfold Builtin.List.listExtendWith
  refine wpAny_bind (wpAny_typeOf (hT 0 _ hst₁) ?_)
  have h1 : Builtin.List.listSameRef (.ref s.heap.objs.size) (.ref I) = false := by simp [Builtin.List.listSameRef, hSI]
  have h2 : (Value.type "generator" == Value.type "list") = false := by decide
  have h3 : (Value.type "generator" == Value.type "tuple") = false := by decide
  simp only [h1, h2, h3, Bool.or_false, Bool.false_eq_true, if_false]
  refine wpAny_bind (W.self 0 _ _ _ hst₁ ?_)
  refine wpAny_bind (wpAny_holding ?_)
  unfold Builtin.List.listLengthHint
  refine wpAny_bind (wpAny_specialOf (hT 0 _ hst₁) F.gen_no_len ?_)
  show wpAny _ A.in1 (specialOf (Value.ref I) (Str.ofString "__length_hint__") >>= _) _ _ _
  refine wpAny_bind (wpAny_specialOf (hT 0 _ hst₁) F.gen_no_hint ?_)
  refine wpAny_pure ?_
  show wpAny _ A.in1 (rule "list.extend.makes-room" >>= fun _ => Builtin.List.listTouch (.ref s.heap.objs.size) >>= fun _ =>
    again (.builtin "list.extend.loop" ⟨[.ref s.heap.objs.size, .ref I, .ref s.heap.objs.size], []⟩)) _ _ _
  refine wpAny_bind (wpAny_rule ?_)
  have hS₁ : (s.heap.push { cls := .type "list", data := .seq ([] : List Value).toArray }).get? s.heap.objs.size = some { cls := .type "list", data := .seq ([] : List Value).toArray } := Heap.get?_push_size _ rfl
  refine wpAny_bind ?_
  show wpAny _ A.in1 (updateSeq s.heap.objs.size (·.push .none) >>= fun _ => updateSeq s.heap.objs.size (·.pop)) _ _ _
  refine wpAny_bind (wpAny_updateSeq hS₁ rfl ?_)
  have hS₂ := Heap.get?_update_self (Obj.mapSeq (·.push Value.none)) hS₁ rfl
  refine wpAny_updateSeq hS₂ rfl ?_
  have hS₃ := Heap.get?_update_self (Obj.mapSeq (·.pop)) hS₂ rfl
  have oth : ∀ b o, b ≠ s.heap.objs.size → (s.heap.push { cls := .type "list", data := .seq ([] : List Value).toArray }).get? b = some o →
      (((s.heap.push { cls := .type "list", data := .seq ([] : List Value).toArray }).update s.heap.objs.size (Obj.mapSeq (·.push Value.none))).update s.heap.objs.size (Obj.mapSeq (·.pop))).get? b = some o :=
    fun b o hb e => (Heap.get?_update_other _ _ (Ne.symm hb)).trans ((Heap.get?_update_other _ _ (Ne.symm hb)).trans e)
  refine wpAny_pure ⟨plainId_quiet F.plain_extend_loop _, extendF W hn _ hSf _ n 0 _ _ _ rfl (Nat.zero_le _)
    (W.frame 0 ({ s with heap := s.heap.push { cls := .type "list", data := .seq ([] : List Value).toArray } } : Shared) _ s.toks hst₁ (Nat.le_refl _) fun b hb o e => oth b o (fun h => hSf (h ▸ hb)) e) hS₃ (ItemsOf.nil P) fun s' acc' c' hF hm hS' hacc => ?_⟩
  show wpAny _ A (load s.heap.objs.size >>= _) _ _ s'
  refine wpAny_bind (wpAny_load hS' ?_)
  refine wpAny_pure (hQ s' acc' hF (Moved.drop_new (o := { cls := .type "list", data := .seq ([] : List Value).toArray }) (tk := s.toks) (Moved.trans W.gtrans ((Moved.refl W.grefl).then_heap (Nat.le_refl _) fun b o hb e => ?_) hm) (Nat.le_refl _)) hacc)
  exact oth b o (fun h => hb (h ▸ List.mem_cons_self)) e

theorem joinF {Q : Value → Shared → Prop} {x : Str} {t : Tok} (W : WalksSF prog w A.in1.in1 I fp wr G n P St Fn) (hT : ∀ i s, St i s → s.TypeIs (.ref I) "generator") (hst : St 0 s) (hfp : ∀ b ∈ fp, b < s.heap.objs.size) (hI : I ∈ fp)
    (tx : Nat → Str) (htx : ∀ i v, P i v → ∃ u, v = Value.str (tx i) u) (hok : JoinOk x ((List.range n).map tx) = true)
    (hQ : ∀ s' t' k, Fn s'.heap → Moved wr G s s' → Q (.str (Txt.join x ((List.range n).map tx)) t') { s' with toks := k }) (hn : n ≤ sizeLine) :
    wpAny (model prog w) A (call (.builtin "str.join") [.str x t, .ref I]) Q E s := by
  refine wpAny_call (codeAny_call_builtin F.slot_str_join.plain F.entry_str_join (F.slot_str_join.check _ _ _ _ _ _ _ _ (typeIs_str _ _ _) (F.args_str_join_2 _ _) ?_))
  rw [join_tree_other]
  refine wpAny_bind (wpAny_typeOf (hT 0 s hst) ?_)
  show wpAny _ A.in1 ((pyIter (.ref I)).tryCatch _ >>= fun it => collect it >>= fun items => joinTail x items) _ _ s
  refine wpAny_bind (wpAny_tryCatch (W.of_in1.self 0 s _ _ hst ?_))
  refine wpAny_bind (collectF W hT hst hfp hI (fun s' acc hF hm hacc => ?_) hn)
  obtain ⟨l, hl⟩ := exists_strValues acc.toList fun v hv => by
    obtain ⟨j, hj, rfl⟩ := Array.mem_iff_getElem.mp (Array.mem_toList_iff.mp hv)
    obtain ⟨u, hu⟩ := htx j _ (hacc.2 j _ (Array.getElem?_eq_getElem hj))
    exact ⟨_, u, hu⟩
  rw [← hl]
  have hacc' : ItemsOf P (strValues l).toArray n := by rw [hl]; simpa using hacc
  have hle : l.map (·.1) = (List.range n).map tx := by
    apply List.ext_getElem?
    intro j
    have hsz : l.length = n := by simpa [strValues] using hacc'.1
    by_cases hj : j < n
    · have hj' : j < l.length := hsz ▸ hj
      obtain ⟨u, hv⟩ := htx j _ (hacc'.2 j (.str l[j].1 l[j].2) (by simp [strValues, List.getElem?_eq_getElem hj']))
      injection hv with h1 _
      simp [List.getElem?_eq_getElem hj', hj, h1]
    · rw [List.getElem?_eq_none (by simpa [hsz] using Nat.le_of_not_lt hj), List.getElem?_eq_none (by simpa using Nat.le_of_not_lt hj)]
  have hok' : JoinOk x (l.map (·.1)) = true := by rw [hle]; exact hok
  have hpost : ∀ t' k, Q (.str (Txt.join x (l.map (·.1))) t') { s' with toks := k } := fun t' k => by rw [hle]; exact hQ s' t' k hF hm
  unfold JoinOk at hok'
  rw [Bool.not_eq_true'] at hok'
  have g : Gives (joinTail x (strValues l)) (joinMade x l) := by
    have g0 := gives_joinTail x l hok'
    cases l with
    | nil => exact g0
    | cons p r => cases r with
      | nil => exact g0
      | cons q r' => exact g0
  exact g prog w A (wants Q E) s' (post_join l ⟨joinFit_length hok', hpost⟩)
end

end Mine

open PySem.Calls

namespace Mine

abbrev itObj (x : Str) (t : Tok) : Obj := { cls := .type "str_ascii_iterator", data := .fields #[.str x t, .int 0 0] }

/-- what iter(v) gives: a new iterator over a text, or the iterator itself -/
def Src (v : Value) (h : Heap) (i : Addr) (xs : List Nat) (h' : Heap) : Prop :=
  (∃ x t, v = .str x t ∧ x.cps.all (· < 128) = true ∧ x.cps.toList = xs ∧ i = h.objs.size ∧ h' = h.push (itObj x t)) ∨ (v = .ref i ∧ Rem h i xs ∧ h' = h)

theorem Src.iter {prog : Program} {w : World} {A : Around} {E : Value → Shared → Prop} {s : Shared} {v : Value} {i : Addr} {xs : List Nat} {h' : Heap} {Q : Value → Shared → Prop} (x : Src v s.heap i xs h')
    (h : Q (.ref i) { s with heap := h' }) : wpAny (model prog w) A (pyIter v) Q E s := by
  rcases x with ⟨x, t, rfl, ha, _, rfl, rfl⟩ | ⟨rfl, r, rfl⟩
  · exact wpAny_pyIter_ascii ha h
  · exact pyIter_rem r h
theorem Src.rem {v : Value} {h : Heap} {i : Addr} {xs : List Nat} {h' : Heap} (x : Src v h i xs h') : Rem h' i xs := by
  rcases x with ⟨x, t, rfl, _, e, rfl, rfl⟩ | ⟨_, r, rfl⟩
  · exact .inl ⟨x, t, 0, ⟨_, Heap.get?_push_size _ rfl, rfl, rfl⟩, by simpa using e⟩
  · exact r
theorem Src.keep {v : Value} {h : Heap} {i : Addr} {xs : List Nat} {h' : Heap} (x : Src v h i xs h') (b : Addr) (o : Obj) (e : h.get? b = some o) : h'.get? b = some o := by
  rcases x with ⟨x, t, rfl, _, _, rfl, rfl⟩ | ⟨_, r, rfl⟩
  · exact Heap.get?_push_of_some _ e
  · exact e
theorem Src.le {v : Value} {h : Heap} {i : Addr} {xs : List Nat} {h' : Heap} (x : Src v h i xs h') : h.objs.size ≤ h'.objs.size := by
  rcases x with ⟨x, t, rfl, _, _, rfl, rfl⟩ | ⟨_, r, rfl⟩
  · rw [Heap.size_push]; exact Nat.le_succ _
  · exact Nat.le_refl _

abbrev zH3 (h : Heap) (i j : Addr) : Heap := h.push { cls := .type "tuple", data := .seq #[.ref i, .ref j] }
abbrev zH4 (h : Heap) (i j : Addr) : Heap := (zH3 h i j).push { cls := .type "tuple", data := .seq #[.none, .none] }
abbrev zH5 (h : Heap) (i j : Addr) : Heap := (zH4 h i j).push { cls := .type "zip", data := .fields #[.none, .bool false, .bool false, .ref h.objs.size, .ref (zH3 h i j).objs.size] }

theorem meets_zip (v1 v2 : Value) (i j : Addr) (xs ys : List Nat) (h1 h2 : Heap) :
    Meets (Builtin.«zip.__new__» ⟨[.type "zip", v1, v2], []⟩) (fun _ R s => Src v1 s.heap i xs h1 ∧ Src v2 h1 j ys h2 ∧
      R (.ok (.ret (.ref (zH4 h2 i j).objs.size))) { s with heap := zH5 h2 i j }) :=
  .of_wp fun prog w A R s h => by
    obtain ⟨hp, g, d, tk, os⟩ := s; obtain ⟨hl1, hl2, h⟩ := h
    have hsub := sub_zip
    have hL1 : Src v1 (Shared.heap ⟨hp, g, d, tk, os⟩) i xs h1 := hl1
    have hL2 : Src v2 (Shared.heap ⟨h1, g, d, tk, os⟩) j ys h2 := hl2
    wp_walk using Src.iter hL1, Src.iter hL2
    exact ⟨_, rfl, h⟩

theorem call_zip {prog : Program} {w : World} {A : Around} {E : Value → Shared → Prop} {s : Shared} {v1 v2 : Value} {i j : Addr} {xs ys : List Nat} {h1 h2 : Heap} {Q : Value → Shared → Prop}
    (s1 : Src v1 s.heap i xs h1) (s2 : Src v2 h1 j ys h2)
    (h : ∀ h' z TI TO, Apart z TI TO i j → IsZip h' z TI TO .none → IsPair h' TI (.ref i) (.ref j) → IsPair h' TO .none .none → h2.objs.size ≤ z → h2.objs.size ≤ TI → h2.objs.size ≤ TO → (∀ c o, h2.get? c = some o → h'.get? c = some o) →
      Q (.ref z) { s with heap := h' }) :
    wpAny (model prog w) A (call (.type "zip") [v1, v2]) Q E s := by
  refine callType_new F.called_zip (by decide) (F.typeCall_zip_2 _ _) (F.newCall_zip_2 _ _) (fun obj => F.args_object_init_3 obj _ _) F.entry_zip_new
    (meets_zip v1 v2 i j xs ys h1 h2) ⟨s1, s2, ?_⟩
  have hi : i < h2.objs.size := Nat.lt_of_lt_of_le s1.rem.lt s2.le
  have hj : j < h2.objs.size := s2.rem.lt
  have z3 : (zH3 h2 i j).objs.size = h2.objs.size + 1 := Heap.size_push ..
  have z4 : (zH4 h2 i j).objs.size = h2.objs.size + 2 := by rw [Heap.size_push, z3]
  have g5 : (zH5 h2 i j).get? (zH4 h2 i j).objs.size = some _ := Heap.get?_push_size _ rfl
  have g4 : (zH5 h2 i j).get? (zH3 h2 i j).objs.size = some _ := Heap.get?_push_of_some _ (Heap.get?_push_size _ rfl)
  have g3 : (zH5 h2 i j).get? h2.objs.size = some _ := Heap.get?_push_of_some _ (Heap.get?_push_of_some _ (Heap.get?_push_size _ rfl))
  show _ ∧ _
  rw [z3, z4] at g5
  rw [z3] at g4
  rw [z4]
  refine ⟨⟨_, g5, rfl⟩, h _ _ _ _ ?_ g5 g3 g4 (Nat.le_add_right _ _) (Nat.le_refl _) (Nat.le_add_right _ _) fun c o x => Heap.get?_push_of_some _ (Heap.get?_push_of_some _ (Heap.get?_push_of_some _ x))⟩
  exact ⟨Nat.ne_of_lt (Nat.lt_add_of_pos_right (by decide)), Nat.ne_of_lt (Nat.lt_succ_self _), Nat.ne_of_lt (Nat.lt_succ_self _), Nat.ne_of_lt (Nat.lt_of_lt_of_le hi (Nat.le_add_right _ _)), Nat.ne_of_lt (Nat.lt_of_lt_of_le hj (Nat.le_add_right _ _)),
    Nat.ne_of_lt hi, Nat.ne_of_lt hj, Nat.ne_of_lt (Nat.lt_of_lt_of_le hi (Nat.le_add_right _ _)), Nat.ne_of_lt (Nat.lt_of_lt_of_le hj (Nat.le_add_right _ _))⟩

/-- a generator expression's code: found, or made and noted -/
theorem codeG {M : Model} {A : Around} {E : Value → Shared → Prop} {s : Shared} {env : Env} {c P : Addr} {ps : Array Value} {pos : Pos} {qualname : Str} {scope : Scope} {Q : Value → Shared → Prop} (hc : env.code = .ref c)
    (hok : s.heap.IsCode c P ps) (htab : s.heap.TableAt c P ps)
    (hQ : ∀ code h' tk ps', Heap.ExtBut P s.heap h' → s.heap.objs.size ≤ h'.objs.size → h'.IsCode c P ps' → h'.TableAt c P ps' → Q code { s with heap := h', toks := tk }) :
    wpAny M A (genexprCode env pos qualname scope) Q E s := by
  cases hnf : codeAmong pos ps.toList with
  | none => exact wpAny_genexprCodeX hc hok htab hnf fun c' h' tk hx h1 h2 hco _ ht _ => hQ _ h' tk _ hx (Nat.le_trans h1 (Nat.le_of_lt h2)) hco ht
  | some cv =>
    obtain ⟨o, vs, file, tf, flags, tg, inF, text, tt, op, ho, hd, h11, h2, h7, h9, h10, hop, hpd, htr, hne⟩ := id hok
    unfold genexprCode codeAt
    rw [hc, if_neg (show ¬ ((Value.ref c == Value.none) = true) from Bool.false_ne_true)]
    refine wpAny_bind (wpAny_fieldsOf ho hd ?_)
    rw [h11]
    refine wpAny_bind (wpAny_fieldsOf hop hpd ?_)
    rw [hnf]
    exact wpAny_pure (hQ cv s.heap s.toks ps (Heap.ExtBut.refl _ _) (Nat.le_refl _) hok htab)

end Mine

namespace Mine

/-- the names that the module binds, and the start-up's -/
def nms : List Str := ["__name__", "__doc__", "__package__", "__loader__", "__spec__", "__annotations__", "__builtins__", "__file__", "__cached__", "_keep_original_ws", "_law_laid", "_law_strips", "_law_row", "law"]

/-- what stands before the call -/
structure Gr (H : Heap) (c P : Addr) (mg mb : Str → Option Value) : Prop where
  g : H.Ns mainGlobals mg
  b : H.Ns builtinsNs mb
  nolimit : H.NoLimit
  bmod : ∃ bm ob, BMod H mainGlobals mg bm ob
  code : H.IsCode c P #[]
  tab : H.TableAt c P #[]
  builtins : ∀ x : Str, x ≠ "__name__" → mb x = bootBuiltins x
  glob : Glob 0 mg mb [] [] [] nms H
  booked : NoneBooked H

/-- a heap in the call: all that stood, but the one code table may have grown -/
structure Bs (H : Heap) (c P : Addr) (h : Heap) : Prop where
  keep : ∀ b o, b ≠ P → H.get? b = some o → h.get? b = some o
  tab : ∃ ps, h.IsCode c P ps ∧ h.TableAt c P ps
  le : H.objs.size ≤ h.objs.size

section
variable {H h h' : Heap} {c P : Addr} {mg mb : Str → Option Value}

theorem Gr.start (G : Gr H c P mg mb) : Bs H c P H := ⟨fun _ _ _ e => e, ⟨_, G.code, G.tab⟩, Nat.le_refl _⟩
theorem Gr.cP (G : Gr H c P mg mb) : c ≠ P := by obtain ⟨_, _, _, _, _, _, _, _, _, _, _, _, _, _, _, _, _, _, _, _, x⟩ := G.code; exact x
theorem Gr.nsP (G : Gr H c P mg mb) {a : Addr} {m : Str → Option Value} (x : H.Ns a m) : a ≠ P := fun e => by
  obtain ⟨o, es, ep, ho, hd, _⟩ := x
  rw [e, G.tab.2] at ho; cases ho; cases hd
theorem Bs.ns (B : Bs H c P h) (G : Gr H c P mg mb) {a : Addr} {m : Str → Option Value} (x : H.Ns a m) : h.Ns a m := x.at' fun o e => B.keep _ o (G.nsP x) e
theorem Bs.nolimit (B : Bs H c P h) (G : Gr H c P mg mb) : h.NoLimit := let ⟨mc, x, e⟩ := G.nolimit; ⟨mc, B.ns G x, e⟩
theorem Bs.get (B : Bs H c P h) (G : Gr H c P mg mb) {a : Addr} {o : Obj} (e : H.get? a = some o) (hd : ∀ vs, o.data ≠ .fields vs) : h.get? a = some o :=
  B.keep _ _ (fun x => by subst x; rw [G.tab.2] at e; cases e; exact hd _ rfl) e
theorem Bs.codeRec (B : Bs H c P h) (G : Gr H c P mg mb) {cd : Value} {q : Str} (x : H.CodeRec cd q) : h.CodeRec cd q := by
  obtain ⟨c', o, vs, t, e, g, hd, hv⟩ := x
  refine ⟨c', o, vs, t, e, B.keep _ _ (fun x => ?_) g, hd, hv⟩
  subst x
  rw [G.tab.2] at g
  cases g
  injection hd with hd
  subst hd
  simp at hv
theorem Bs.bmod (B : Bs H c P h) (G : Gr H c P mg mb) : ∃ bm ob, BMod h mainGlobals mg bm ob := by
  obtain ⟨bm, ob, x⟩ := G.bmod
  exact ⟨bm, ob, B.ns G x.ns, x.name, x.ne, B.keep _ _ (x.apart G.tab).2 x.obj, x.cls, x.dict, x.data⟩
theorem Bs.glob (B : Bs H c P h) (G : Gr H c P mg mb) : Glob 0 mg mb [] [] [] nms h := by
  have S := G.glob.seer
  exact ⟨B.ns G G.g, B.ns G G.b, G.builtins, B.nolimit G, nofun, nofun, G.glob.free, (let ⟨mc, h1, h2⟩ := G.glob.digits; ⟨mc, B.ns G h1, h2⟩), nofun,
    ⟨(let ⟨mc, a, b⟩ := S.statics; ⟨mc, B.ns G a, b⟩), (let ⟨mc, a, b⟩ := S.mods; ⟨mc, B.ns G a, b⟩), (let ⟨mc, a, b⟩ := S.imp; ⟨mc, B.ns G a, b⟩),
      (let ⟨mg', bm, ob, a, b, c', d, f⟩ := S.main; ⟨mg', bm, ob, B.ns G a, b, B.keep _ _ (fun e => by rw [e, G.tab.2] at c'; cases c'; cases d) c', d, f⟩)⟩⟩
theorem Bs.booked (B : Bs H c P h) (G : Gr H c P mg mb) : NoneBooked h := let ⟨mc, x, e⟩ := G.booked; ⟨mc, B.ns G x, e⟩
theorem Bs.mono (B : Bs H c P h) (G : Gr H c P mg mb) (le : H.objs.size ≤ h'.objs.size) (k : ∀ b o, b < H.objs.size → h.get? b = some o → h'.get? b = some o) : Bs H c P h' := by
  refine ⟨fun b o hb e => k b o (Heap.lt_size e) (B.keep b o hb e), ?_, le⟩
  obtain ⟨ps, hc, ht⟩ := B.tab
  have l := G.code.lt
  refine ⟨ps, ?_, ?_⟩
  · obtain ⟨o, vs, file, tf, flags, tg, inF, text, tt, op, ho, r1, r2, r3, r4, r5, r6, hop, r⟩ := hc
    exact ⟨o, vs, file, tf, flags, tg, inF, text, tt, op, k _ _ l.1 ho, r1, r2, r3, r4, r5, r6, k _ _ l.2 hop, r⟩
  · obtain ⟨⟨o, vs, a, r⟩, t⟩ := ht
    exact ⟨⟨o, vs, k _ _ l.1 a, r⟩, k _ _ l.2 t⟩
theorem Bs.keeps (B : Bs H c P h) (G : Gr H c P mg mb) (le : h.objs.size ≤ h'.objs.size) (k : ∀ b o, h.get? b = some o → h'.get? b = some o) : Bs H c P h' := B.mono G (Nat.le_trans B.le le) fun b o _ e => k b o e
/-- the code table alone is another one -/
theorem Bs.table (B : Bs H c P h) (_G : Gr H c P mg mb) {ps : Array Value} (le : h.objs.size ≤ h'.objs.size) (x : Heap.ExtBut P h h') (hc : h'.IsCode c P ps) (ht : h'.TableAt c P ps) : Bs H c P h' :=
  ⟨fun b o hb e => x b o hb (B.keep b o hb e), ⟨ps, hc, ht⟩, Nat.le_trans B.le le⟩
theorem Bs.old (B : Bs H c P h) (G : Gr H c P mg mb) : OldK H h := by
  obtain ⟨ps, _, ht⟩ := B.tab
  refine ⟨fun b o e => ?_, fun b o e => ?_⟩
  · by_cases hb : b = P
    · subst hb
      have e₀ : o = { cls := .none, data := .fields #[] } := Option.some.inj (e.symm.trans G.tab.2)
      subst e₀
      exact .inr (.inl ⟨G.tab.isCodeTable, rfl, #[], ps, rfl, by rw [ht.2]; simp⟩)
    · exact .inl (B.keep b o hb e)
  · by_cases hb : b = P
    · subst hb; exact ⟨_, ht.2⟩
    · exact ⟨o, B.keep b o hb e⟩
end

theorem frEmpty {L : Addr} {h : Heap} {m : Str → Option Value} (hn : h.Ns L m) : Fr {} L h m := ⟨hn, fun b o e => by simp [Heap.get?] at e, Nat.zero_le _⟩

/-- a generator that gives F 0, F 1 .. and ends with Fn -/
def GenF (prog : Program) (w : World) (A : Around) (a : Addr) (n : Nat) (F : Nat → Value → Prop) (Fn : Heap → Prop) (wr : List Addr) (s : Shared) : Prop :=
  ∃ fp g St, WalksSF prog w A.in4 a fp wr (GenOnlyQ g) n F St Fn ∧ St 0 s ∧ (∀ i s', St i s' → s'.TypeIs (.ref a) "generator") ∧ a ∈ fp ∧ (∀ b ∈ fp, b < s.heap.objs.size)

section
variable {prog : Program} {w : World} {A : Around} {E : Value → Shared → Prop} {s : Shared} {H : Heap} {c P : Addr} {mg mb : Str → Option Value}

theorem gen_make {env : Env} {elt iter : Expr} {xa xb : Str} {pa pb pt : Pos} {kt : Nat} {scope : Scope} {pos : Pos} {Q : Value → Shared → Prop} {n : Nat} {F : Nat → Value → Prop}
    (G : Gr H c P mg mb) (hg : env.globals = mainGlobals) (hcode : env.code = .ref c) (hh : A.handled = none) (hco : scope.isCoroutine = false) (hclos : closureFor scope env = pure []) (hcell : ∀ y ∈ scope.names, y.2 ≠ .cell)
    (h0 : scope.names.lookup (".0" : Str) = some NameKind.local) (hxa : scope.names.lookup xa = some .local) (hxb : scope.names.lookup xb = some .local) (hab : xa ≠ xb) (hkind : scope.kind = .function) (hroom : A.depth < recursionLimit)
    (h : wpAny (model prog w) A (eval iter env) (fun xv s₁ => ∃ I fp wr Pt St₀ Mid Fn, xv = .ref I ∧ (∀ A' : Around, A'.handled = none → WalksF prog w A' I fp wr n Pt St₀ Mid Fn) ∧ (∀ i vals, Pt i vals → ∃ va vb, vals = #[va, vb]) ∧ St₀ 0 s₁.heap ∧
      (∀ b ∈ fp, b < s₁.heap.objs.size) ∧ (∀ b ∈ fp, H.objs.size ≤ b) ∧ Bs H c P s₁.heap ∧ (∀ C code, Elt prog w (genEnv scope [] C code builtinsNs env) xa xb elt Pt F) ∧
      (∀ a s₅, Bs H c P s₅.heap → (∀ b o, b ≠ P → s₁.heap.get? b = some o → s₅.heap.get? b = some o) → s₁.heap.objs.size ≤ s₅.heap.objs.size → (AllBare s₁.gens → AllBare s₅.gens) → s₅.os = s₁.os →
        (∃ C, s₁.heap.objs.size ≤ C ∧ GenF prog w A a n F Fn (C :: wr) s₅) → Q (.ref a) s₅)) E s)
    (hs : ∀ x, genFold iter env x = pure x) :
    wpAny (model prog w) A (eval (.GeneratorExp elt [⟨.Tuple [.Name xa pa, .Name xb pb] kt pt, iter, [], 0⟩] scope pos) env) Q E s := by
  refine wpAny_GeneratorExp_make hco hclos hcell h0 hkind hroom (wpAny_mono h (fun xv s₁ h₁ => ?_) fun _ _ e => e) hs
  obtain ⟨I, fp, wr, Pt, St₀, Mid, Fn, rfl, W₀, hsz2, hst, hfp, hfH, B, hq, hQ⟩ := h₁
  refine (W₀ A hh).self 0 _ _ _ hst ?_
  obtain ⟨ps, hcd, htb⟩ := B.tab
  have lcP := G.code.lt
  have nP : ∀ b ∈ fp, b ≠ P := fun b hb e => absurd lcP.2 (Nat.not_lt.mpr (e ▸ hfH b hb))
  refine ⟨B.nolimit G, codeG hcode hcd htb fun code h₃ tk₃ ps' hx₃ hle₃ hcd₃ htb₃ => ?_⟩
  have B₃ : Bs H c P h₃ := B.table G hle₃ hx₃ hcd₃ htb₃
  obtain ⟨bm, ob, M₃⟩ := B₃.bmod G
  rw [← hg] at M₃
  refine wpAny_builtinsFor M₃.ns M₃.name M₃.ne M₃.obj M₃.cls M₃.dict M₃.data ?_
  intro h' hn' hs'
  have hl₃ : h₃.NoLimit := B₃.nolimit G
  have hclt : cStatics < h₃.objs.size := let ⟨_, hn, _⟩ := hl₃; hn.lt
  have hcH : cStatics < H.objs.size := let ⟨_, hn, _⟩ := G.nolimit; hn.lt
  have hsz : h'.objs.size = h₃.objs.size + 1 := by rw [hs'.1, Heap.size_push]
  have keep' : ∀ b o, h₃.get? b = some o → h'.get? b = some o := fun b o e => hs'.extBut b o (Nat.ne_of_lt (Heap.lt_size e)) (Heap.get?_push_of_some _ e)
  have hsub : ∀ b ∈ wr, b ∈ List.range h₃.objs.size := fun b hb => List.mem_range.mpr (Nat.lt_of_lt_of_le (hfp b ((W₀ A hh).sub b hb)) hle₃)
  have haC : h'.objs.size ≠ h₃.objs.size := by rw [hsz]; exact Nat.succ_ne_self _
  have haf : h'.objs.size ∉ List.range h₃.objs.size := fun hm => by have := List.mem_range.mp hm; omega
  have hcw : cStatics ∉ wr := fun hm => absurd hcH (Nat.not_lt.mpr (hfH _ ((W₀ A hh).sub _ hm)))
  have keep₅ : ∀ b o, h₃.get? b = some o → (h'.push { cls := .type "generator", data := .fields #[.int s₁.gens.size 0, .str "<genexpr>" (tk₃ + 1), .str (env.qual ++ "<genexpr>") (tk₃ + 1 + 1)] }).get? b = some o :=
    fun b o e => Heap.get?_push_of_some _ (keep' b o e)
  have hst₃ : St₀ 0 h₃ := (W₀ A hh).frame _ _ _ hst fun b hb o e => hx₃ b o (nP b hb) e
  refine hQ _ _ (B₃.keeps G (by rw [Heap.size_push, hsz]; omega) keep₅) (fun b o hb e => keep₅ b o (hx₃ b o hb e)) (by show s₁.heap.objs.size ≤ (h'.push _).objs.size; rw [Heap.size_push, hsz]; omega) (fun hb => hb.push rfl) rfl
    ⟨h₃.objs.size, hle₃, ?_⟩
  refine ⟨_, _, _, WalksSF.genexp (A := A.in4) hh h'.objs.size s₁.gens.size h₃.objs.size (List.range h₃.objs.size) wr n F Fn haC haf hsub hroom (List.mem_range.mpr hclt) (Nat.ne_of_lt hclt) hcw
      (fun h h'' hF hk => (W₀ A hh).frameF _ _ hF fun b _ o e => hk b o e), ?_, fun i s' st => st.1.typeIs, List.mem_cons_self, ?_⟩
  · refine GenAtF.fresh (A := A.in4) (cenv := genEnv scope [] h₃.objs.size code builtinsNs env) (m := fun y => if y = ".0" then some (.ref I) else none) hh
      (fun A' hA => (W₀ A' hA).mono_fp fun b hb => List.mem_range.mpr (Nat.lt_of_lt_of_le (hfp b hb) hle₃)) hsz2 hab hxa hxb (by simp [genEnv, hkind]) hco
      (fun hm => Nat.lt_irrefl _ (List.mem_range.mp hm)) (hq _ _) ⟨_, _, _, Heap.get?_push_size _ rfl, rfl, rfl, rfl⟩ (Array.getElem?_push_size ..) ((W₀ A hh).frame _ _ _ hst₃ fun b _ o e => keep₅ b o e) (hn'.push _) (hl₃.keeps keep₅)
  · intro b hb
    show b < (h'.push _).objs.size
    rw [Heap.size_push, hsz]
    rcases List.mem_cons.mp hb with rfl | hb
    · rw [hsz]; exact Nat.lt_succ_self _
    · rcases List.mem_cons.mp hb with rfl | hb
      · exact Nat.lt_succ_of_lt (Nat.lt_succ_self _)
      · have := List.mem_range.mp hb
        exact Nat.lt_succ_of_lt (Nat.lt_succ_of_lt this)
end

end Mine

namespace Mine

def dAt (p : Program) (i : Nat) : DefRec := match p.main.body[i]? with
  | some (.FunctionDef n a b _ _ _ sc _ _ pos) => ⟨n, a, b, sc, pos⟩
  | _ => ⟨"", ⟨[], [], none, [], [], none, []⟩, [], ⟨.function, [], false, false, []⟩, ⟨0, 0, 0, 0⟩⟩
abbrev dK : DefRec := dAt PySem.Challenge.pw_dm0045_01 1
def eltK : Expr := match dK.body with
  | [.Return (some (.Call _ [.GeneratorExp e _ _ _] _ _)) _] => e
  | _ => .Constant .none 0 ⟨0, 0, 0, 0⟩
def scK : Scope := match dK.body with
  | [.Return (some (.Call _ [.GeneratorExp _ _ sc _] _ _)) _] => sc
  | _ => ⟨.function, [], false, false, []⟩

def keepC (c t : Nat) : Nat := if ((⟨#[t]⟩ : Str) == Str.ofString " ") = true then (if Txt.isspace ⟨#[c]⟩ = true then c else t) else t

theorem eltK_is {prog : Program} {w : World} {L f c C : Addr} {code : Value} {A : Around} {E : Value → Shared → Prop} {s : Shared} {x y : Nat} {t u : Tok} {m : Str → Option Value} {Q : Value → Shared → Prop}
    (hn : s.heap.Ns C m) (ha : m (Str.ofString "c") = some (.str ⟨#[x]⟩ t)) (hb : m (Str.ofString "tag_c") = some (.str ⟨#[y]⟩ u))
    (hQ : ∀ t' tk, Q (.str ⟨#[keepC x y]⟩ t') { s with toks := tk }) :
    wpAny (model prog w) A (eval eltK (genEnv scK [] C code builtinsNs (envOf dK.name dK.scope L f (.ref c)))) Q E s := by
  have F := frEmpty hn
  unfold eltK scK dK dAt PySem.Challenge.pw_dm0045_01
  dsimp only [List.getElem?_cons_succ, List.getElem?_cons_zero]
  repeat' walk1
  all_goals (
    unfold keepC at hQ
    simp only [*, if_true, if_false, Bool.false_eq_true] at hQ
    exact hQ _ _)

theorem ofString_nil : Str.ofString "" = ⟨#[]⟩ := by decide
theorem glued_fold : ∀ (l : List Nat) (acc : Array Nat), (l.map fun c => (⟨#[c]⟩ : Str)).foldl (fun acc p => acc ++ (#[] : Array Nat) ++ p.cps) acc = acc ++ l.toArray
  | [], acc => by simp
  | c :: l, acc => by
    rw [List.map_cons, List.foldl_cons, glued_fold l]
    apply Array.ext'
    simp
theorem glued_signs (l : List Nat) : Txt.join (Str.ofString "") (l.map fun c => (⟨#[c]⟩ : Str)) = ⟨l.toArray⟩ := by
  unfold Txt.join Builtin.Str.glued
  rw [ofString_nil]
  cases l with
  | nil => rfl
  | cons c l =>
    simp only [List.map_cons, List.drop_succ_cons, List.drop_zero, List.headD_cons]
    rw [glued_fold]
    simp
theorem join_ok (l : List Nat) (h : l.length ≤ 100000) : JoinOk (Str.ofString "") (l.map fun c => (⟨#[c]⟩ : Str)) = true := by
  refine joinOk_of ?_
  rw [ofString_nil]
  have : ((l.map fun c => (⟨#[c]⟩ : Str)).map (·.length)).sum = l.length := by
    clear h
    induction l with
    | nil => rfl
    | cons c l ih =>
      simp only [List.map_cons, List.sum_cons, List.length_cons]
      rw [ih]
      show 1 + _ = _
      omega
  rw [this]
  show l.length + _ * 0 ≤ _
  omega

section
variable {prog : Program} {w : World} {A : Around} {E : Value → Shared → Prop} {s : Shared} {H : Heap} {c P : Addr} {mg mb : Str → Option Value}

theorem keep_core {f : Addr} {o : Obj} {pm doc v1 v2 : Value} {Q : Value → Shared → Prop} (G : Gr H c P mg mb) (hzip : mg (Str.ofString "zip") = none)
    (ho : H.get? f = some o) (hd : o.data = .func (docDef dK.name dK.params dK.body dK.scope pm (.ref c) doc)) (hcd : H.CodeRec (.ref c) dK.name)
    (B : Bs H c P s.heap) (hh : A.handled = none) (hroom : A.depth + 5 < recursionLimit) (hb : AllBare s.gens)
    (ws : List Addr) (hws : ∀ b ∈ ws, H.objs.size ≤ b) (n : Nat) (hn : n ≤ 100000) (fx fy : Nat → Nat) (Fin : Heap → Prop)
    (hsrc : ∀ h₁ : Heap, s.heap.objs.size ≤ h₁.objs.size → (∀ b o, s.heap.get? b = some o → h₁.get? b = some o) → ∃ i j xs ys h1 h2 J J' Fn, Src v1 h₁ i xs h1 ∧ Src v2 h1 j ys h2 ∧ Feed prog w i j n fx fy J J' Fn ∧ J 0 h2 ∧
      (i ∈ ws ∨ s.heap.objs.size ≤ i) ∧ (j ∈ ws ∨ s.heap.objs.size ≤ j) ∧ (∀ h, Fn h → Fin h))
    (hQ : ∀ s' t, Bs H c P s'.heap → AllBare s'.gens → s'.os = s.os → (∀ b o, b ≠ P → b ∉ ws → s.heap.get? b = some o → s'.heap.get? b = some o) → Fin s'.heap →
      Q (.str ⟨((List.range n).map fun k => keepC (fx k) (fy k)).toArray⟩ t) s') :
    wpAny (model prog w) A (call (.ref f) [v1, v2]) Q E s := by
  have hf := B.get G ho (fun vs => by rw [hd]; nofun)
  have hroom0 : A.depth < recursionLimit := by omega
  refine wpAny_call (call_plain_ret hroom0 hf hd (B.nolimit G) (B.codeRec G hcd) (binds := [(Str.ofString "s", v1), (Str.ofString "tag_s", v2)]) rfl (locs rfl) (fun h₁ F₁ => ?_) rfl rfl rfl (by decide))
  have B₁ : Bs H c P h₁ := B.keeps G (Nat.le_of_lt (by have := F₁.ns.lt; exact this)) F₁.keep
  generalize hA' : A.deeper (envOf dK.name dK.scope s.heap.objs.size f (.ref c)) = A'
  have hh' : A'.handled = none := by subst hA'; exact hh
  have hroom' : A'.depth < recursionLimit := by subst hA'; show A.depth + 1 < _; omega
  unfold dK dAt PySem.Challenge.pw_dm0045_01
  dsimp only [List.getElem?_cons_succ, List.getElem?_cons_zero]
  walk1
  walk1
  walk1
  walk1
  walk1
  walk1
  walk1
  refine gen_make (n := n) (F := fun k v => ∃ u, v = .str ⟨#[keepC (fx k) (fy k)]⟩ u) G rfl rfl hh' rfl rfl (by decide) rfl rfl rfl (by decide) rfl hroom' ?_ (fun _ => rfl)
  walk1
  refine Name_function_global rfl rfl (loadGlobal_builtin (env := envOf _ _ _ _ _) (B₁.ns G G.g) hzip (B₁.ns G G.b) ((G.builtins _ (by decide)).trans (by boot_fast)) ?_)
  walk1
  walk1
  walk1
  walk1
  walk1
  walk1
  have hlt₁ : s.heap.objs.size < h₁.objs.size := F₁.ns.lt
  obtain ⟨i, j, xs, ys, h1, h2, J, J', Fn, s1, s2, W, hJ, hi, hj, hFin⟩ := hsrc h₁ (Nat.le_of_lt hlt₁) F₁.keep
  have iH : H.objs.size ≤ i := hi.elim (hws i) fun x => Nat.le_trans B.le x
  have jH : H.objs.size ≤ j := hj.elim (hws j) fun x => Nat.le_trans B.le x
  have k12 : ∀ b o, h₁.get? b = some o → h2.get? b = some o := fun b o e => s2.keep b o (s1.keep b o e)
  have l12 : h₁.objs.size ≤ h2.objs.size := Nat.le_trans s1.le s2.le
  refine call_zip s1 s2 fun h' z TI TO D hz hTI hTO zl TIl TOl hk' => ?_
  have i2 : i < h2.objs.size := (W.lt _ _ hJ).1
  have j2 : j < h2.objs.size := (W.lt _ _ hJ).2
  have hzs : z < h'.objs.size := Heap.lt_size hz
  have hl' : h2.objs.size ≤ h'.objs.size := Nat.le_of_lt (Nat.lt_of_le_of_lt zl hzs)
  have hbase : ∀ a, h2.objs.size ≤ a → H.objs.size ≤ a := fun a ha => Nat.le_trans B.le (Nat.le_trans (Nat.le_of_lt hlt₁) (Nat.le_trans l12 ha))
  have B' : Bs H c P h' := B₁.keeps G (Nat.le_trans l12 hl') fun b o e => hk' b o (k12 b o e)
  refine ⟨z, [z, TI, TO, i, j], [z, TO, i, j], PtOf fx fy, ZSt z TI TO i j J, ZMid z TI TO i j J, Fn, rfl, fun A'' hA'' => WalksF.zip hA'' W D, (fun k vals ⟨t, u, e⟩ => ⟨_, _, e⟩),
    ⟨hz, hTI, ⟨_, _, hTO⟩, W.frame _ _ _ hJ fun b _ o e => hk' b o e⟩, ?_, ?_, B', ?_, ?_⟩
  · intro b hb
    simp only [List.mem_cons, List.not_mem_nil, or_false] at hb
    rcases hb with rfl | rfl | rfl | rfl | rfl
    · exact hzs
    · exact Heap.lt_size hTI
    · exact Heap.lt_size hTO
    · exact Nat.lt_of_lt_of_le i2 hl'
    · exact Nat.lt_of_lt_of_le j2 hl'
  · intro b hb
    simp only [List.mem_cons, List.not_mem_nil, or_false] at hb
    rcases hb with rfl | rfl | rfl | rfl | rfl
    · exact hbase _ zl
    · exact hbase _ TIl
    · exact hbase _ TOl
    · exact iH
    · exact jH
  · rintro C code A'' E'' k va vb s'' m ⟨t, u, e⟩ hns ha hb'
    obtain ⟨e1, e2⟩ : va = _ ∧ vb = _ := by simpa using congrArg Array.toList e
    subst e1 e2
    exact eltK_is hns ha hb' fun t' tk => ⟨⟨t', rfl⟩, _, tk, rfl, fun _ _ e => e⟩
  · intro a s₅ B₅ hk₅ hl₅ hbare hos ⟨C, hC, fp, g, St, WS, hst, hT, ha, hfp⟩
    walk1
    refine joinF (WS.of_in1 (A := A'.in1.in1.in1)).of_in1 hT hst hfp ha (fun k => ⟨#[keepC (fx k) (fy k)]⟩) (fun k v hv => hv) ?_ ?_ (Nat.le_trans hn (by decide))
    · have := join_ok ((List.range n).map fun k => keepC (fx k) (fy k)) (by simpa using hn)
      rwa [List.map_map] at this
    · intro s' t' k hF hm
      have e := glued_signs ((List.range n).map fun k => keepC (fx k) (fy k))
      rw [List.map_map] at e
      have e' : Txt.join (Str.ofString "") (List.map (fun k => ({ cps := #[keepC (fx k) (fy k)] } : Str)) (List.range n)) = ⟨((List.range n).map fun k => keepC (fx k) (fy k)).toArray⟩ := e
      rw [e']
      have wrH : ∀ b ∈ C :: [z, TO, i, j], H.objs.size ≤ b := by
        intro b hb
        simp only [List.mem_cons, List.not_mem_nil, or_false] at hb
        rcases hb with rfl | rfl | rfl | rfl | rfl
        · exact hbase _ (Nat.le_trans hl' hC)
        · exact hbase _ zl
        · exact hbase _ TOl
        · exact iH
        · exact jH
      have hPH : P < H.objs.size := G.code.lt.2
      have hbare' := (hbare hb).movedS hm
      have hTI' : s'.heap.get? TI = some _ := hm.heap TI _ (fun hw => by
        simp only [List.mem_cons, List.not_mem_nil, or_false] at hw
        rcases hw with e | e | e | e | e
        · exact absurd (Heap.lt_size hTI) (Nat.not_lt.mpr (e ▸ hC))
        · exact D.TIz e
        · exact D.TITO e
        · exact D.iTI e.symm
        · exact D.jTI e.symm) (hk₅ TI _ (fun e => absurd hPH (Nat.not_lt.mpr (e ▸ hbase _ TIl))) hTI)
      refine hQ { s' with toks := k } t' ⟨fun b o hb e => hm.heap b o (fun hw => absurd (Heap.lt_size e) (Nat.not_lt.mpr (wrH b hw))) (B₅.keep b o hb e), ?_, ?_⟩ hbare' (hm.os.trans hos) ?_ (hFin _ hF)
      · obtain ⟨ps, hc, ht⟩ := B₅.tab
        have l := G.code.lt
        have kk : ∀ b o, b < H.objs.size → s₅.heap.get? b = some o → s'.heap.get? b = some o := fun b o hb e => hm.heap b o (fun hw => absurd hb (Nat.not_lt.mpr (wrH b hw))) e
        refine ⟨ps, ?_, ?_⟩
        · obtain ⟨o, vs, file, tf, flags, tg, inF, text, tt, op, ho, r1, r2, r3, r4, r5, r6, hop, r⟩ := hc
          exact ⟨o, vs, file, tf, flags, tg, inF, text, tt, op, kk _ _ l.1 ho, r1, r2, r3, r4, r5, r6, kk _ _ l.2 hop, r⟩
        · obtain ⟨⟨o, vs, a, r⟩, t⟩ := ht
          exact ⟨⟨o, vs, kk _ _ l.1 a, r⟩, kk _ _ l.2 t⟩
      · exact Nat.le_trans (hbase _ TIl) (Nat.le_of_lt (Heap.lt_size hTI'))
      · intro b o hbP hbw e
        refine hm.heap b o (fun hw => ?_) (hk₅ b o hbP (hk' b o (k12 b o (F₁.keep b o e))))
        have hlt := Heap.lt_size e
        have hs2 : s.heap.objs.size ≤ h2.objs.size := Nat.le_trans (Nat.le_of_lt hlt₁) l12
        simp only [List.mem_cons, List.not_mem_nil, or_false] at hw
        rcases hw with rfl | rfl | rfl | rfl | rfl
        · exact absurd hlt (Nat.not_lt.mpr (Nat.le_trans hs2 (Nat.le_trans hl' hC)))
        · exact absurd hlt (Nat.not_lt.mpr (Nat.le_trans hs2 zl))
        · exact absurd hlt (Nat.not_lt.mpr (Nat.le_trans hs2 TOl))
        · exact hi.elim hbw fun x => absurd hlt (Nat.not_lt.mpr x)
        · exact hj.elim hbw fun x => absurd hlt (Nat.not_lt.mpr x)
end

theorem range_zip (f : Nat → Nat → Nat) (xs ys : List Nat) : (List.range (min xs.length ys.length)).map (fun k => f (xs.getD k 0) (ys.getD k 0)) = List.zipWith f xs ys := by
  apply List.ext_getElem
  · simp
  · intro i h1 h2
    simp at h2
    have a1 : i < xs.length := by omega
    have a2 : i < ys.length := by omega
    simp [List.getD_eq_getElem?_getD, a1, a2]

/-- by turns: first, second, first, second .. -/
def turns (f : Nat → Nat → Nat) : List Nat → List Nat
  | a :: b :: r => f a b :: turns f r
  | _ => []
theorem turns_is (f : Nat → Nat → Nat) : ∀ zs : List Nat, (List.range (zs.length / 2)).map (fun k => f (zs.getD (2 * k) 0) (zs.getD (2 * k + 1) 0)) = turns f zs
  | [] => rfl
  | [a] => by simp [turns]
  | a :: b :: r => by
    have e : (a :: b :: r).length / 2 = r.length / 2 + 1 := by simp only [List.length_cons]; omega
    rw [e, List.range_succ_eq_map, List.map_cons, List.map_map]
    show _ = f a b :: turns f r
    rw [← turns_is f r]
    congr 1

section
variable {prog : Program} {w : World} {A : Around} {E : Value → Shared → Prop} {s : Shared} {H : Heap} {c P : Addr} {mg mb : Str → Option Value} {f : Addr} {o : Obj} {pm doc : Value} {Q : Value → Shared → Prop}

/-- the def stands at f -/
structure KeepAt (H : Heap) (c : Addr) (mg : Str → Option Value) (f : Addr) : Prop where
  zip : mg (Str.ofString "zip") = none
  there : ∃ o pm doc, H.get? f = some o ∧ o.data = .func (docDef dK.name dK.params dK.body dK.scope pm (.ref c) doc)
  codeRec : H.CodeRec (.ref c) dK.name

theorem keep_text_text (G : Gr H c P mg mb) (K : KeepAt H c mg f) (B : Bs H c P s.heap) (hh : A.handled = none) (hroom : A.depth + 5 < recursionLimit) (hb : AllBare s.gens)
    {x y : Str} {t u : Tok} (hx : x.cps.all (· < 128) = true) (hy : y.cps.all (· < 128) = true) (hn : min x.cps.size y.cps.size ≤ 100000)
    (hQ : ∀ s' t, Bs H c P s'.heap → AllBare s'.gens → s'.os = s.os → (∀ b o, b ≠ P → s.heap.get? b = some o → s'.heap.get? b = some o) →
      Q (.str ⟨(List.zipWith keepC x.cps.toList y.cps.toList).toArray⟩ t) s') :
    wpAny (model prog w) A (call (.ref f) [.str x t, .str y u]) Q E s := by
  obtain ⟨o, pm, doc, ho, hd⟩ := K.there
  refine keep_core G K.zip ho hd K.codeRec B hh hroom hb [] (by simp) (min x.cps.toList.length y.cps.toList.length) (by simpa using hn) (fun k => x.cps.toList.getD k 0) (fun k => y.cps.toList.getD k 0) (fun _ => True) (fun h₁ hl hk => ?_) ?_
  · have s1 : Src (.str x t) h₁ h₁.objs.size x.cps.toList (h₁.push (itObj x t)) := .inl ⟨x, t, rfl, hx, rfl, rfl, rfl⟩
    have s2 : Src (.str y u) (h₁.push (itObj x t)) (h₁.push (itObj x t)).objs.size y.cps.toList ((h₁.push (itObj x t)).push (itObj y u)) := .inl ⟨y, u, rfl, hy, rfl, rfl, rfl⟩
    refine ⟨_, _, _, _, _, _, _, _, _, s1, s2, Feed.apart x.cps.toList y.cps.toList (by rw [Heap.size_push]; exact Nat.ne_of_lt (Nat.lt_succ_self _)), ⟨s1.rem.at (s2.keep _), s2.rem⟩, .inr hl, .inr (Nat.le_trans hl (by rw [Heap.size_push]; exact Nat.le_succ _)), fun _ _ => trivial⟩
  · intro s' t' B' hb' hos hk _
    rw [range_zip]
    exact hQ s' t' B' hb' hos fun b o hbP e => hk b o hbP (by simp) e

theorem keep_iter_text (G : Gr H c P mg mb) (K : KeepAt H c mg f) (B : Bs H c P s.heap) (hh : A.handled = none) (hroom : A.depth + 5 < recursionLimit) (hb : AllBare s.gens)
    {i : Addr} {xs : List Nat} {y : Str} {u : Tok} (r : Rem s.heap i xs) (hi : H.objs.size ≤ i) (hy : y.cps.all (· < 128) = true) (hn : y.cps.size ≤ 100000)
    (hQ : ∀ s' t, Bs H c P s'.heap → AllBare s'.gens → s'.os = s.os → (∀ b o, b ≠ P → b ≠ i → s.heap.get? b = some o → s'.heap.get? b = some o) → Rem s'.heap i (xs.drop (y.cps.size + 1)) →
      Q (.str ⟨(List.zipWith keepC xs y.cps.toList).toArray⟩ t) s') :
    wpAny (model prog w) A (call (.ref f) [.ref i, .str y u]) Q E s := by
  obtain ⟨o, pm, doc, ho, hd⟩ := K.there
  refine keep_core G K.zip ho hd K.codeRec B hh hroom hb [i] (by simpa using hi) (min xs.length y.cps.toList.length) (by simp; omega) (fun k => xs.getD k 0) (fun k => y.cps.toList.getD k 0) (fun h => Rem h i (xs.drop (y.cps.size + 1))) (fun h₁ hl hk => ?_) ?_
  · have s1 : Src (.ref i) h₁ i xs h₁ := .inr ⟨rfl, r.at (hk i), rfl⟩
    have s2 : Src (.str y u) h₁ h₁.objs.size y.cps.toList (h₁.push (itObj y u)) := .inl ⟨y, u, rfl, hy, rfl, rfl, rfl⟩
    refine ⟨_, _, _, _, _, _, _, _, _, s1, s2, Feed.apart xs y.cps.toList (Nat.ne_of_lt (Nat.lt_of_lt_of_le r.lt hl)), ⟨s1.rem.at (s2.keep _), s2.rem⟩, .inl (by simp), .inr hl, fun h hF => by simpa using hF.1⟩
  · intro s' t' B' hb' hos hk hF
    rw [range_zip]
    exact hQ s' t' B' hb' hos (fun b o hbP hbi e => hk b o hbP (by simpa using hbi) e) hF

theorem keep_text_iter (G : Gr H c P mg mb) (K : KeepAt H c mg f) (B : Bs H c P s.heap) (hh : A.handled = none) (hroom : A.depth + 5 < recursionLimit) (hb : AllBare s.gens)
    {j : Addr} {ys : List Nat} {x : Str} {t : Tok} (r : Rem s.heap j ys) (hj : H.objs.size ≤ j) (hx : x.cps.all (· < 128) = true) (hn : x.cps.size ≤ 100000)
    (hQ : ∀ s' t, Bs H c P s'.heap → AllBare s'.gens → s'.os = s.os → (∀ b o, b ≠ P → b ≠ j → s.heap.get? b = some o → s'.heap.get? b = some o) → Rem s'.heap j (ys.drop x.cps.size) →
      Q (.str ⟨(List.zipWith keepC x.cps.toList ys).toArray⟩ t) s') :
    wpAny (model prog w) A (call (.ref f) [.str x t, .ref j]) Q E s := by
  obtain ⟨o, pm, doc, ho, hd⟩ := K.there
  refine keep_core G K.zip ho hd K.codeRec B hh hroom hb [j] (by simpa using hj) (min x.cps.toList.length ys.length) (by simp; omega) (fun k => x.cps.toList.getD k 0) (fun k => ys.getD k 0) (fun h => Rem h j (ys.drop x.cps.size)) (fun h₁ hl hk => ?_) ?_
  · have s1 : Src (.str x t) h₁ h₁.objs.size x.cps.toList (h₁.push (itObj x t)) := .inl ⟨x, t, rfl, hx, rfl, rfl, rfl⟩
    have s2 : Src (.ref j) (h₁.push (itObj x t)) j ys (h₁.push (itObj x t)) := .inr ⟨rfl, r.at fun o e => s1.keep _ o (hk j o e), rfl⟩
    refine ⟨_, _, _, _, _, _, _, _, _, s1, s2, Feed.apart x.cps.toList ys (Nat.ne_of_gt (Nat.lt_of_lt_of_le r.lt hl)), ⟨s1.rem, s2.rem⟩, .inr hl, .inl (by simp), fun h hF => by simpa using hF.2⟩
  · intro s' t' B' hb' hos hk hF
    rw [range_zip]
    exact hQ s' t' B' hb' hos (fun b o hbP hbi e => hk b o hbP (by simpa using hbi) e) hF

theorem keep_iter_same (G : Gr H c P mg mb) (K : KeepAt H c mg f) (B : Bs H c P s.heap) (hh : A.handled = none) (hroom : A.depth + 5 < recursionLimit) (hb : AllBare s.gens)
    {i : Addr} {zs : List Nat} (r : Rem s.heap i zs) (hi : H.objs.size ≤ i) (hn : zs.length ≤ 100000)
    (hQ : ∀ s' t, Bs H c P s'.heap → AllBare s'.gens → s'.os = s.os → (∀ b o, b ≠ P → b ≠ i → s.heap.get? b = some o → s'.heap.get? b = some o) →
      Q (.str ⟨(turns keepC zs).toArray⟩ t) s') :
    wpAny (model prog w) A (call (.ref f) [.ref i, .ref i]) Q E s := by
  obtain ⟨o, pm, doc, ho, hd⟩ := K.there
  refine keep_core G K.zip ho hd K.codeRec B hh hroom hb [i] (by simpa using hi) (zs.length / 2) (by omega) (fun k => zs.getD (2 * k) 0) (fun k => zs.getD (2 * k + 1) 0) (fun _ => True) (fun h₁ hl hk => ?_) ?_
  · have s1 : Src (.ref i) h₁ i zs h₁ := .inr ⟨rfl, r.at (hk i), rfl⟩
    refine ⟨_, _, _, _, _, _, _, _, _, s1, s1, Feed.same zs, ?_, .inl (by simp), .inl (by simp), fun h hF => trivial⟩
    exact s1.rem
  · intro s' t' B' hb' hos hk hF
    rw [turns_is]
    exact hQ s' t' B' hb' hos (fun b o hbP hbi e => hk b o hbP (by simpa using hbi) e)
end

section
variable {prog : Program} {w : World} {A : Around} {E : Value → Shared → Prop} {s : Shared} {env : Env}

/-- a for over any walk, by an invariant over the frame's map and the whole state; no exception, no early end -/
theorem loop_rule {R : Result → Shared → Prop} {x : Str} {px : Pos} {body : List Stmt} {I : Addr} {fp wr : List Addr} {n : Nat} {Pw : Nat → Value → Prop} {St : Nat → Heap → Prop} {m : Str → Option Value}
    (W : Walks prog w A I fp wr n Pw St) (hx : env.kindOf x = some .local) (hp : (env.scope.kind == .class || (env.scope.kind == .module && env.locals != env.globals)) = false)
    (hLf : env.locals ∉ fp) (hst : St 0 s.heap) (hns : s.heap.Ns env.locals m) (J : Nat → (Str → Option Value) → Shared → Prop) (h0 : J 0 m s)
    (hJ : ∀ i m s h' tk m', J i m s → h'.Ns env.locals m' → (∀ b o, b ∉ wr → b ≠ env.locals → s.heap.get? b = some o → h'.get? b = some o) → J i m { s with heap := h', toks := tk })
    (step : ∀ i v m₁ s₁ (Q : Flow → Shared → Prop), i < n → Pw i v → J i m₁ s₁ → St (i + 1) s₁.heap → s₁.heap.Ns env.locals (fun y => if y = x then some v else m₁ y) →
      (∀ s₂ m₂, St (i + 1) s₂.heap → s₂.heap.Ns env.locals m₂ → J (i + 1) m₂ s₂ → Q .next s₂) → wpAny (model prog w) A (execs body env) Q (fun _ _ => False) s₁)
    (hR : ∀ s' m', s'.heap.Ns env.locals m' → J n m' s' → R (.ok .next) s') :
    codeAny (model prog w) A (.forLoop (.Name x px) (.ref I) body [] env) R s := by
  have hLw : env.locals ∉ wr := fun h => hLf (W.sub _ h)
  refine codeAny_forLoop (fun k s' => ∃ i m', i ≤ n ∧ k = n + 1 - i ∧ St i s'.heap ∧ s'.heap.Ns env.locals m' ∧ J i m' s') ?_ (n + 1) ⟨0, m, Nat.zero_le _, rfl, hst, hns, h0⟩
  rintro k s' ⟨i, m', hi, rfl, hst', hn', hJ'⟩
  by_cases hlt : i < n
  · refine W.item i _ _ _ hlt hst' fun v h₁ tk₁ hP hst₁ hk₁ => ?_
    have hn₁ : h₁.Ns env.locals m' := hn'.at' fun o e => hk₁ _ o hLw e
    refine wpAny_assign_Name (wpAny_storeName_local hx hn₁ (fun h₂ hn₂ hs₂ => ?_) hp)
    have hJ₂ : J i m' { s' with heap := h₂, toks := tk₁ + 1 } := hJ i m' s' h₂ _ _ hJ' hn₂ fun b o hbw hbL e => hs₂.extBut b o hbL (hk₁ b o hbw e)
    have hst₂ : St (i + 1) h₂ := W.frame _ _ _ hst₁ fun b hb o e => hs₂.extBut b o (fun h => hLf (h ▸ hb)) e
    refine wpAny_mono (step i v m' _ _ hlt hP hJ₂ hst₂ hn₂ fun s₃ m₃ hst₃ hn₃ hJ₃ => ?_) (fun _ _ e => e) fun _ _ e => e.elim
    exact ⟨n + 1 - (i + 1), by omega, i + 1, m₃, hlt, rfl, hst₃, hn₃, hJ₃⟩
  · have hin : i = n := by omega
    subst hin
    refine W.done _ _ _ hst' fun h₁ tk₁ hk₁ => wpAny_execs_nil ?_
    have hn₁ : h₁.Ns env.locals m' := hn'.at' fun o e => hk₁ _ o hLw e
    exact hR _ m' hn₁ (hJ _ m' s' h₁ tk₁ _ hJ' hn₁ fun b o hbw _ e => hk₁ b o hbw e)
end

section
variable {prog : Program} {w : World} {A : Around} {E : Value → Shared → Prop} {s : Shared}
theorem range_iter {n : Nat} {t : Tok} {K : Value → Shared → Prop} (hn : n < 2 ^ 62)
    (h : ∀ h' tk I, IsRangeIter h' I 0 n 1 → s.heap.objs.size ≤ I → (∀ b o, s.heap.get? b = some o → h'.get? b = some o) → K (.ref I) { s with heap := h', toks := tk }) :
    wpAny (model prog w) A (call (.type "range") [.int n t]) (fun x s₁ => wpAny (model prog w) A (pyIter x) K E s₁) E s := by
  refine call_range_1 ?_
  refine wpAny_pyIter_range (IsRange.new ..) (small_one (by decide) (by decide) (by omega) (by omega)) ?_
  have e : Builtin.Range.rangeSize 0 (n : Int) 1 = (n : Int) := by
    rw [rangeSize_one]
    split
    · omega
    · omega
  rw [e]
  refine h _ _ _ (Heap.get?_push_size _ rfl) ?_ fun b o x => Heap.get?_push_of_some _ (Heap.get?_push_of_some _ x)
  show s.heap.objs.size ≤ (s.heap.push _).objs.size
  rw [Heap.size_push]; exact Nat.le_succ _
theorem min_len {a b : Nat} {t u : Tok} {Q : Value → Shared → Prop} (hh : A.handled = none)
    (h : ∀ h' tk t', (∀ c o, s.heap.get? c = some o → h'.get? c = some o) → Q (.int ((min a b : Nat) : Int) t') { s with heap := h', toks := tk }) :
    wpAny (model prog w) A (call (.builtin "min") [.int (a : Int) t, .int (b : Int) u]) Q E s := by
  refine min_two_ints hh fun h' tk hk => ?_
  split
  · have := h h' tk u hk
    rwa [Nat.min_eq_right (by omega)] at this
  · have := h h' tk t hk
    rwa [Nat.min_eq_left (by omega)] at this
end
theorem item_is {x : Str} {i : Nat} (h : i < x.cps.size) : Txt.item x (i : Int) = ⟨#[x.cps[i]]⟩ := by
  unfold Txt.item Txt.charAt
  have e : seqIndex? (i : Int) x.length = some i := by
    unfold seqIndex?
    have h1 : x.length = x.cps.size := rfl
    have h2 : ¬ ((i : Int) < 0) := by omega
    simp only [h1, if_neg h2]
    rw [if_pos (by simp; omega), Int.toNat_natCast]
  rw [e]
  simp [h]
theorem ofString_blank : Str.ofString " " = ⟨#[32]⟩ := by decide
abbrev txt (l : List Nat) : Str := ⟨l.toArray⟩
theorem txt_snoc (l : List Nat) (c : Nat) : txt l ++ (⟨#[c]⟩ : Str) = txt (l ++ [c]) := by
  show (⟨l.toArray ++ #[c]⟩ : Str) = ⟨(l ++ [c]).toArray⟩
  congr 1
  apply Array.ext'
  simp
def DefAt (H : Heap) (d : DefRec) (f : Addr) : Prop := ∃ o pm cd doc, H.get? f = some o ∧ o.data = .func (docDef d.name d.params d.body d.scope pm cd doc) ∧ H.CodeRec cd d.name
theorem IntsAre.at {vs : List Value} {ns : List Int} (h : IntsAre vs ns) {i : Nat} {v : Value} (e : vs[i]? = some v) : ∃ n t, ns[i]? = some n ∧ v = .int n t := by
  have hlt : i < ns.length := by rw [← h.length]; exact (List.getElem?_eq_some_iff.mp e).1
  obtain ⟨t, ht⟩ := h.get i ns[i] (List.getElem?_eq_getElem hlt)
  rw [e] at ht
  exact ⟨_, t, List.getElem?_eq_getElem hlt, Option.some.inj ht⟩
theorem tab_item {prog : Program} {w : World} {A : Around} {E : Value → Shared → Prop} {s : Shared} {value slice : Expr} {x : Str} {t : Tok} {Q : Value → Shared → Prop} {i : Int} {u : Tok}
    (h0 : 0 ≤ i) (h1 : i < 100) (h2 : i < x.length) (h : Q (.str ⟨#[x.cps.toList.getD i.toNat 0]⟩ s.toks) { s with toks := s.toks + 1 })
    (hs : subscripted slice false (Value.str x t) (Value.int i u) = operate [Value.str x t, Value.int i u] (getItem (Value.str x t) (Value.int i u)) := by with_unfolding_all rfl)
    (hg : ∀ r, letTemporaryGo value (Value.str x t) r = pure () := by intro _; with_unfolding_all rfl) :
    wpAny (model prog w) A (subscriptTail value slice (Value.str x t) (Value.int i u)) Q E s := by
  refine item_str (fitsSsize_of (N := 9223372036854775808) (by omega) (by omega) (Int.le_refl _)) (by omega) h2 (fun _ => ?_) hs hg
  obtain ⟨k, rfl⟩ : ∃ k : Nat, i = (k : Int) := ⟨i.toNat, by omega⟩
  have hk : k < x.cps.size := by have : x.length = x.cps.size := rfl; omega
  rw [item_is hk]
  rw [Int.toNat_natCast, List.getD_eq_getElem?_getD, List.getElem?_eq_getElem (by simpa using hk)] at h
  simpa using h
theorem txt_toList (x : Str) : txt x.cps.toList = x := by show (⟨x.cps.toList.toArray⟩ : Str) = x; simp
section
variable {H h : Heap} {c P : Addr} {mg mb : Str → Option Value}
theorem Bs.base (B : Bs H c P h) (G : Gr H c P mg mb) : ∃ h₀, Bs H c P h₀ ∧ h₀.objs.size = H.objs.size ∧ ∀ b o, h₀.get? b = some o → h.get? b = some o := by
  obtain ⟨ps, hc, ht⟩ := B.tab
  have hcP := G.cP
  have hself : (regrown H P ps).get? P = some { cls := .none, data := .fields ps } := Heap.get?_update_self _ G.tab.2 rfl
  have hoth : ∀ b, b ≠ P → (regrown H P ps).get? b = H.get? b := fun b hb => Heap.get?_update_other _ _ (Ne.symm hb)
  refine ⟨regrown H P ps, ⟨fun b o hb e => (hoth b hb).trans e, ⟨ps, ?_, ?_⟩, Nat.le_of_eq (Heap.SameBut.update H P _).1.symm⟩, (Heap.SameBut.update H P _).1, fun b o e => ?_⟩
  · obtain ⟨o, vs, file, tf, flags, tg, inF, text, tt, op, ho, r1, r2, r3, r4, r5, r6, _, _, _, r9⟩ := G.code
    obtain ⟨o', vs', file', tf', flags', tg', inF', text', tt', op', ho', _, _, _, _, _, _, hop', hpd', htr', _⟩ := hc
    exact ⟨o, vs, file, tf, flags, tg, inF, text, tt, _, (hoth c hcP).trans ho, r1, r2, r3, r4, r5, r6, hself, rfl, htr', r9⟩
  · obtain ⟨⟨o, vs, e, r⟩, _⟩ := G.tab
    exact ⟨⟨o, vs, (hoth c hcP).trans e, r⟩, hself⟩
  · by_cases hb : b = P
    · subst hb; rw [hself] at e; cases e; exact ht.2
    · rw [hoth b hb] at e; exact B.keep b o hb e
end
section
variable {H : Heap}
theorem news_of {h₁ h : Heap} {L : Addr} {led : List (Addr × Obj)} (hz : h₁.objs.size = H.objs.size) (hl : ∀ p ∈ led, H.objs.size ≤ p.1 ∧ p.1 ≠ L ∧ h.get? p.1 = some p.2) : News h₁ L h led := fun p hp => by
  obtain ⟨a, b, d⟩ := hl p hp
  refine ⟨d, b, ?_⟩
  cases hq : h₁.get? p.1 with
  | none => rfl
  | some o => exact absurd (Heap.lt_size hq) (Nat.not_lt.mpr (hz ▸ a))
end
theorem StrsAre.at' {vs : List Value} {ts : List Str} (h : StrsAre vs ts) {i : Nat} {v : Value} (e : vs[i]? = some v) : ∃ x t, ts[i]? = some x ∧ v = .str x t := by
  have hlt : i < ts.length := by rw [← h.length]; exact (List.getElem?_eq_some_iff.mp e).1
  obtain ⟨t, ht⟩ := h.get i ts[i] (List.getElem?_eq_getElem hlt)
  rw [e] at ht
  exact ⟨_, t, List.getElem?_eq_getElem hlt, Option.some.inj ht⟩
theorem all_ascii {l : List Nat} (h : ∀ a ∈ l, a < 128) : (txt l).cps.all (· < 128) = true := by
  show l.toArray.all _ = true
  simpa using h

end Mine

namespace Mine
abbrev dR : DefRec := dAt PySem.Challenge.pw_dm0045_01 3
abbrev T5 : Str := Str.ofString " \t\x0b^a"
def cnt (x : Int) : Nat := [3, 4, 2, 4, 1, 0].getD (x.fmod 6).toNat 0
def rowF (x : Int) : List Nat := (List.range (cnt x)).map fun p => T5.cps.toList.getD (((x.fdiv 6).fdiv (5 ^ p)).fmod 5).toNat 0

section
variable {prog : Program} {w : World} {A : Around} {E : Value → Shared → Prop} {s : Shared} {H : Heap} {c P : Addr} {mg mb : Str → Option Value}

theorem row_call {f : Addr} {Q : Value → Shared → Prop} (G : Gr H c P mg mb) (D : DefAt H dR f) (B : Bs H c P s.heap) (hh : A.handled = none) (hroom : A.depth + 5 < recursionLimit)
    {x : Int} {t : Tok}
    (hQ : ∀ s' t', Keeps s s' → s.heap.objs.size ≤ s'.heap.objs.size → Q (.str (txt (rowF x)) t') s') :
    wpAny (model prog w) A (call (.ref f) [.int x t]) Q E s := by
  obtain ⟨o, pm, cd, doc, ho, hd, hcd⟩ := D
  have GL := B.glob G
  refine wpAny_call (call_cellsN_ret (by omega) (B.get G ho (fun vs => by rw [hd]; nofun)) hd (B.nolimit G) (B.codeRec G hcd) (binds := [(Str.ofString "x", .int x t)]) rfl (kinds_of (by kinds_ok)) (by decide) (fun h₁ tk₁ cells F N X => ?_) rfl rfl rfl)
  cells_open X
  clear hd
  unfold dR dAt PySem.Challenge.pw_dm0045_01
  dsimp only [List.getElem?_cons_succ, List.getElem?_cons_zero]
  repeat' walk1
  rename_i h₂ o₂ F₂ N₂ hd₂
  have hn6 : cnt x ≤ 4 := by
    have h1 : 0 ≤ x.fmod 6 := Int.fmod_nonneg_of_pos _ (by decide)
    have h2 : x.fmod 6 < 6 := Int.fmod_lt_of_pos _ (by decide)
    unfold cnt
    obtain ⟨k, hk⟩ : ∃ k : Nat, x.fmod 6 = k := ⟨(x.fmod 6).toNat, by omega⟩
    rw [hk]
    have : k < 6 := by omega
    match k, this with
    | 0, _ => decide
    | 1, _ => decide
    | 2, _ => decide
    | 3, _ => decide
    | 4, _ => decide
    | 5, _ => decide
  refine ListComp_DCr (h₀ := s.heap) (L := s.heap.objs.size) (m := bindL (envOfC dR.name dR.scope s.heap.objs.size f cd).kindOf [(Str.ofString "x", Value.int x t)] fun x => none) (pz := fun _ => true) (d := fun p => PyData.str ⟨#[T5.cps.toList.getD (((x.fdiv 6).fdiv (5 ^ p.toNat)).fmod 5).toNat 0]⟩) hh rfl (by decide) rfl (by decide) rfl ?_ (fun _ => rfl)
  repeat' walk1
  rename_i h₃ F₃ N₃
  have m1 : 0 ≤ x.fmod 6 := Int.fmod_nonneg_of_pos _ (by decide)
  have m2 : x.fmod 6 < 6 := Int.fmod_lt_of_pos _ (by decide)
  refine item_list_intsR (vs := [Value.int 3 _, Value.int 4 _, Value.int 2 _, Value.int 4 _, Value.int 1 _, Value.int 0 _]) (ns := [3, 4, 2, 4, 1, 0]) (News.isList N₃ (.head _)) (.cons _ _ (.cons _ _ (.cons _ _ (.cons _ _ (.cons _ _ (.cons _ _ .nil)))))) m1 (by simpa using m2) (by omega) (fun t₃ => ?_)
  walk1
  have ec : [(3 : Int), 4, 2, 4, 1, 0].getD (x.fmod 6).toNat 0 = (cnt x : Int) := by
    unfold cnt
    obtain ⟨k, hk⟩ : ∃ k : Nat, x.fmod 6 = k := ⟨(x.fmod 6).toNat, by omega⟩
    rw [hk]
    have : k < 6 := by omega
    match k, this with
    | 0, _ => rfl
    | 1, _ => rfl
    | 2, _ => rfl
    | 3, _ => rfl
    | 4, _ => rfl
    | 5, _ => rfl
  rw [ec]
  refine call_range_1 ?_
  have er : Builtin.Range.rangeSize 0 (cnt x : Int) 1 = (cnt x : Int) := by
    rw [rangeSize_one]
    split <;> omega
  have k4 : ∀ (q : Obj) b o, h₃.get? b = some o → (h₃.push q).get? b = some o := fun q b o e => Heap.get?_push_of_some q e
  refine ⟨_, _, 0, (cnt x : Int), 1, _, _, _, cnt x, rfl, IsRange.new .., small_one (by decide) (by decide) (by omega) (by omega), er, Nat.le_trans hn6 (by decide), F₃.keeps (k4 _), N₃.grown (k4 _), ?_, ?_, ?_⟩
  · intro C a v s₂ m₂ E' hC ha hv hns hm hk
    exact wpAny_pure ⟨rfl, _, _, rfl, fun _ _ e => e⟩
  · intro C a v s₂ m₂ E' hC ha hv _ hns hm hk
    obtain ⟨tv, rfl⟩ := hv
    obtain ⟨k, hk4, rfl⟩ : ∃ k : Nat, k < 4 ∧ a = (k : Int) := by
      unfold rangeInts at ha
      obtain ⟨k, hk, e⟩ := List.mem_map.mp ha
      exact ⟨k, Nat.lt_of_lt_of_le (List.mem_range.mp hk) hn6, by omega⟩
    have hcell : s₂.heap.IsCell (s.heap.objs.size + 1) (some (Value.int (x.fdiv 6) (tk₁ + 1))) := ⟨o₂, hk _ _ (k4 _ _ _ (N₃.get (.tail _ (.head _)))), hd₂⟩
    have b0 : 0 ≤ (k : Int) := by omega
    have b1 : (k : Int) < 4 := by omega
    clear F₃ N₃ F₂ N₂ X GL
    iterate 4 walk1
    refine ldCellK rfl hcell ?_
    walk1
    walk1
    refine ldVarK hns hm ?_
    refine pow_int_small b0 (by omega) (by decide) ?_
    have p0 : (5 : Int) ^ (k : Int).toNat ≠ 0 := Int.ne_of_gt (Int.pow_pos (by decide))
    have p1 : ((5 : Int) ^ (k : Int).toNat).natAbs < 1073741824 := by
      rw [Int.toNat_natCast]
      match k, hk4 with
      | 0, _ => decide
      | 1, _ => decide
      | 2, _ => decide
      | 3, _ => decide
    refine floordiv_int p0 ?_ (Or.inl (PyProof.noPylong_small p1))
    repeat' walk1
    have q0 : 0 ≤ ((x.fdiv 6).fdiv (5 ^ (k : Int).toNat)).fmod 5 := Int.fmod_nonneg_of_pos _ (by decide)
    have q1 : ((x.fdiv 6).fdiv (5 ^ (k : Int).toNat)).fmod 5 < 5 := Int.fmod_lt_of_pos _ (by decide)
    refine tab_item q0 (by omega) (by rw [show ((Str.ofString " \t\x0b^a").length : Int) = 5 from by decide]; exact q1) ?_
    exact ⟨.str _ _, _, _, rfl, fun _ _ e => e⟩
  · intro D ys h' tk F' N' hD hl hpl hC
    have hS := CarriedAll.strsOf hC
    have e1 : ((rangeInts 0 1 (cnt x)).filter fun _ => true).map (fun p => (⟨#[T5.cps.toList.getD (((x.fdiv 6).fdiv (5 ^ p.toNat)).fmod 5).toNat 0]⟩ : Str)) = (rowF x).map fun c => ⟨#[c]⟩ := by
      unfold rowF rangeInts
      rw [List.filter_eq_self.mpr (fun _ _ => rfl), List.map_map, List.map_map]
      apply List.map_congr_left
      intro k _
      simp only [Function.comp]
      rw [show (0 + (k : Int) * 1).toNat = k by omega]
    rw [e1] at hS
    walk1
    refine join_listC hl (by simpa using hS) (by decide) ?_ fun t' k => ?_
    · have : (((rowF x).map fun c => (⟨#[c]⟩ : Str)).map (·.length)).sum = (rowF x).length := by
        rw [List.map_map]
        induction rowF x with
        | nil => rfl
        | cons a r ih => rw [List.map_cons, List.sum_cons, ih, List.length_cons]; show 1 + r.length = _; omega
      rw [this, List.length_map]
      have : (rowF x).length = cnt x := by simp [rowF]
      omega
    · rw [glued_signs]
      exact hQ _ t' ⟨_, _, rfl, F'.keep⟩ (Nat.le_of_lt F'.ns.lt)
end
end Mine

namespace Mine
section
variable {prog : Program} {w : World} {A : Around} {E : Value → Shared → Prop} {s : Shared} {h₀ : Heap} {L : Addr} {m : Str → Option Value} {news : List (Addr × Obj)} {env : Env}

/-- a list of a list's items, by the frame and the ledger at hand -/
theorem comp_list {α : Type} {K : ItemKind α} {elt iter : Expr} {x : Str} {px : Pos} {ifs : List Expr} {scope : Scope} {cl : List (Str × Addr)} {pos : Pos} {Q : Value → Shared → Prop} {ax : Addr} {vs : List Value} {as : List α}
    (F : Fr h₀ L s.heap m) (N : News h₀ L s.heap news) (hl : s.heap.IsList ax vs.toArray) (hi : AreOf K vs as) (hsz : as.length ≤ sizeLine) (pz : α → Bool) (d : α → PyData)
    (hit : ∀ R : Value → Shared → Prop, R (.ref ax) s → wpAny (model prog w) A (eval iter env) R E s)
    (htests : ∀ C a v s₂ m₂ E', a ∈ as → K.is a v → s₂.heap.Ns (compEnvC scope cl C env).locals m₂ → m₂ x = some v → (∀ b o, s.heap.get? b = some o → s₂.heap.get? b = some o) →
        wpAny (model prog w) A (forIn ifs true fun c r => if r = true then do let ok ← isTrue c (compEnvC scope cl C env) (eval c (compEnvC scope cl C env)); pure (ForInStep.yield ok) else pure (ForInStep.yield r))
          (fun ok s₃ => ok = pz a ∧ Keeps s₂ s₃) E' s₂)
    (helt : ∀ C a v s₂ m₂ E', a ∈ as → K.is a v → pz a = true → s₂.heap.Ns (compEnvC scope cl C env).locals m₂ → m₂ x = some v → (∀ b o, s.heap.get? b = some o → s₂.heap.get? b = some o) →
        wpAny (model prog w) A (eval elt (compEnvC scope cl C env)) (fun y s₃ => Carried y (d a) ∧ Keeps s₂ s₃) E' s₂)
    (hQ : ∀ D (ys : List Value) h' tk, Fr h₀ L h' m → News h₀ L h' news → h₀.get? D = none → h'.IsList D ys.toArray → CarriedAll ys ((as.filter pz).map d) → Q (.ref D) { s with heap := h', toks := tk })
    (hh : A.handled = none) (hclos : closureFor scope env = pure cl := by rfl) (hcell : ∀ y ∈ scope.names, y.2 ≠ .cell := by decide) (hkind : scope.kind = .function := by rfl)
    (hnames : ∀ y ∈ scope.names, y.2 = .local → scope.names.lookup y.1 = some .local := by decide) (hx : scope.names.lookup x = some .local := by rfl)
    (hs : ∀ x, foldedSetIterable iter env x = pure x := by intro _; rfl) :
    wpAny (model prog w) A (eval (.ListComp elt [⟨.Name x px, iter, ifs, 0⟩] scope pos) env) Q E s :=
  ListComp_DC (pz := pz) (d := d) hh hclos hcell hkind hnames hx (hit _ ⟨ax, vs, as, rfl, hl, hi, hsz, F, N, htests, helt, hQ⟩) hs

theorem assign_list {α : Type} {K : ItemKind α} {elt iter : Expr} {x y : Str} {px py : Pos} {ifs : List Expr} {scope : Scope} {cl : List (Str × Addr)} {pos spos : Pos} {Q : Flow → Shared → Prop} {ax : Addr} {vs : List Value} {as : List α}
    (hL : env.locals = L) (F : Fr h₀ L s.heap m) (N : News h₀ L s.heap news) (hl : s.heap.IsList ax vs.toArray) (hi : AreOf K vs as) (hsz : as.length ≤ sizeLine) (pz : α → Bool) (d : α → PyData)
    (hit : ∀ R : Value → Shared → Prop, R (.ref ax) s → wpAny (model prog w) A (eval iter env) R E s)
    (htests : ∀ C a v s₂ m₂ E', a ∈ as → K.is a v → s₂.heap.Ns (compEnvC scope cl C env).locals m₂ → m₂ x = some v → (∀ b o, s.heap.get? b = some o → s₂.heap.get? b = some o) →
        wpAny (model prog w) A (forIn ifs true fun c r => if r = true then do let ok ← isTrue c (compEnvC scope cl C env) (eval c (compEnvC scope cl C env)); pure (ForInStep.yield ok) else pure (ForInStep.yield r))
          (fun ok s₃ => ok = pz a ∧ Keeps s₂ s₃) E' s₂)
    (helt : ∀ C a v s₂ m₂ E', a ∈ as → K.is a v → pz a = true → s₂.heap.Ns (compEnvC scope cl C env).locals m₂ → m₂ x = some v → (∀ b o, s.heap.get? b = some o → s₂.heap.get? b = some o) →
        wpAny (model prog w) A (eval elt (compEnvC scope cl C env)) (fun y s₃ => Carried y (d a) ∧ Keeps s₂ s₃) E' s₂)
    (hQ : ∀ D (ys : List Value) h' tk, Fr h₀ L h' (fun z => if z = y then some (.ref D) else m z) → News h₀ L h' news → h₀.get? D = none → h'.IsList D ys.toArray → CarriedAll ys ((as.filter pz).map d) → Q .next { s with heap := h', toks := tk })
    (hh : A.handled = none) (hsw : swapsWith (.ListComp elt [⟨.Name x px, iter, ifs, 0⟩] scope pos) (some (.Name y py)) spos.line env = pure true := by rfl)
    (hclos : closureFor scope env = pure cl := by rfl) (hcell : ∀ y ∈ scope.names, y.2 ≠ .cell := by decide) (hkind : scope.kind = .function := by rfl)
    (hnames : ∀ y ∈ scope.names, y.2 = .local → scope.names.lookup y.1 = some .local := by decide) (hx : scope.names.lookup x = some .local := by rfl)
    (hy : env.kindOf y = some .local := by rfl) (hp : (env.scope.kind == .class || (env.scope.kind == .module && env.locals != env.globals)) = false := by rfl)
    (hs : ∀ x, foldedSetIterable iter env x = pure x := by intro _; rfl) :
    wpAny (model prog w) A (exec (.Assign [.Name y py] (.ListComp elt [⟨.Name x px, iter, ifs, 0⟩] scope pos) spos) env) Q E s :=
  Assign_ListComp_DC (pz := pz) (d := d) hsw hL hh hclos hcell hkind hnames hx hy hp (hit _ ⟨ax, vs, as, rfl, hl, hi, hsz, F, N, htests, helt, hQ⟩) hs

theorem assign_listN {α : Type} {K : ItemKind α} {elt iter : Expr} {x y : Str} {px py : Pos} {ifs : List Expr} {scope : Scope} {cl : List (Str × Addr)} {pos spos : Pos} {Q : Flow → Shared → Prop} {ax : Addr} {vs : List Value} {as : List α}
    (hL : env.locals = L) (F : Fr h₀ L s.heap m) (N : News h₀ L s.heap news) (hl : s.heap.IsList ax vs.toArray) (hi : AreOf K vs as) (hsz : as.length ≤ sizeLine) (pz : α → Bool) (d : α → PyData)
    (hit : ∀ R : Value → Shared → Prop, R (.ref ax) s → wpAny (model prog w) A (eval iter env) R E s)
    (htests : ∀ C a v s₂ m₂ E', a ∈ as → K.is a v → s₂.heap.Ns (compEnvC scope cl C env).locals m₂ → m₂ x = some v → (∀ b o, s.heap.get? b = some o → s₂.heap.get? b = some o) →
        wpAny (model prog w) A (forIn ifs true fun c r => if r = true then do let ok ← isTrue c (compEnvC scope cl C env) (eval c (compEnvC scope cl C env)); pure (ForInStep.yield ok) else pure (ForInStep.yield r))
          (fun ok s₃ => ok = pz a ∧ Keeps s₂ s₃) E' s₂)
    (helt : ∀ C a v s₂ m₂ E', a ∈ as → K.is a v → pz a = true → s₂.heap.Ns (compEnvC scope cl C env).locals m₂ → m₂ x = some v → (∀ b o, s.heap.get? b = some o → s₂.heap.get? b = some o) →
        wpAny (model prog w) A (eval elt (compEnvC scope cl C env)) (fun y s₃ => Carried y (d a) ∧ Keeps s₂ s₃) E' s₂)
    (hQ : ∀ D (ys : List Value) h' tk, Fr h₀ L h' (fun z => if z = y then some (.ref D) else m z) → News h₀ L h' news → h₀.get? D = none → h'.IsList D ys.toArray → NewPlain h' news D ys.toArray → CarriedAll ys ((as.filter pz).map d) → Q .next { s with heap := h', toks := tk })
    (hh : A.handled = none) (hsw : swapsWith (.ListComp elt [⟨.Name x px, iter, ifs, 0⟩] scope pos) (some (.Name y py)) spos.line env = pure true := by rfl)
    (hclos : closureFor scope env = pure cl := by rfl) (hcell : ∀ y ∈ scope.names, y.2 ≠ .cell := by decide) (hkind : scope.kind = .function := by rfl)
    (hnames : ∀ y ∈ scope.names, y.2 = .local → scope.names.lookup y.1 = some .local := by decide) (hx : scope.names.lookup x = some .local := by rfl)
    (hy : env.kindOf y = some .local := by rfl) (hp : (env.scope.kind == .class || (env.scope.kind == .module && env.locals != env.globals)) = false := by rfl)
    (hs : ∀ x, foldedSetIterable iter env x = pure x := by intro _; rfl) :
    wpAny (model prog w) A (exec (.Assign [.Name y py] (.ListComp elt [⟨.Name x px, iter, ifs, 0⟩] scope pos) spos) env) Q E s :=
  Assign_ListComp_DCn (pz := pz) (d := d) hsw hL hh hclos hcell hkind hnames hx hy hp (hit _ ⟨news, ax, vs, as, rfl, hl, hi, hsz, F, N, fun C a v s₂ m₂ E' _ => htests C a v s₂ m₂ E', fun C a v s₂ m₂ E' _ => helt C a v s₂ m₂ E', hQ⟩) hs

theorem no_tests {C : Addr} {scope : Scope} {cl : List (Str × Addr)} {s₂ : Shared} {E' : Value → Shared → Prop} :
    wpAny (model prog w) A (forIn ([] : List Expr) true fun c r => if r = true then do let ok ← isTrue c (compEnvC scope cl C env) (eval c (compEnvC scope cl C env)); pure (ForInStep.yield ok) else pure (ForInStep.yield r))
          (fun ok s₃ => ok = true ∧ Keeps s₂ s₃) E' s₂ := wpAny_pure ⟨rfl, _, _, rfl, fun _ _ e => e⟩
end

/-- the shortest of the tags and the rows -/
def minL (n : Nat) (rows : List (List Nat)) : Nat := rows.foldl (fun a r => min a r.length) n

theorem minL_spec : ∀ (rows : List (List Nat)) (n : Nat), minL n rows ≤ n ∧ (∀ r ∈ rows, minL n rows ≤ r.length) ∧ (minL n rows = n ∨ ∃ r ∈ rows, minL n rows = r.length)
  | [], n => ⟨Nat.le_refl _, nofun, .inl rfl⟩
  | r :: rs, n => by
    obtain ⟨h1, h2, h3⟩ := minL_spec rs (min n r.length)
    have e : minL n (r :: rs) = minL (min n r.length) rs := rfl
    rw [e]
    refine ⟨Nat.le_trans h1 (Nat.min_le_left _ _), fun q hq => ?_, ?_⟩
    · rcases List.mem_cons.mp hq with rfl | hq
      · exact Nat.le_trans h1 (Nat.min_le_right _ _)
      · exact h2 q hq
    · rcases h3 with h3 | ⟨q, hq, h3⟩
      · rcases Nat.le_total n r.length with h | h
        · left; rw [h3, Nat.min_eq_left h]
        · right; exact ⟨r, List.mem_cons_self, by rw [h3, Nat.min_eq_right h]⟩
      · right; exact ⟨q, List.mem_cons_of_mem _ hq, h3⟩
theorem minL_unique {rows : List (List Nat)} {n k : Nat} (h1 : k ≤ n) (h2 : ∀ r ∈ rows, k ≤ r.length) (h3 : k = n ∨ ∃ r ∈ rows, k = r.length) : k = minL n rows := by
  obtain ⟨g1, g2, g3⟩ := minL_spec rows n
  apply Nat.le_antisymm
  · rcases g3 with g3 | ⟨r, hr, g3⟩
    · omega
    · rw [g3]; exact h2 r hr
  · rcases h3 with h3 | ⟨r, hr, h3⟩
    · omega
    · rw [h3]; exact g2 r hr
end Mine

namespace Mine
abbrev dL : DefRec := dAt PySem.Challenge.pw_dm0045_01 4
section
variable {prog : Program} {w : World} {A : Around} {E : Value → Shared → Prop} {s : Shared} {H : Heap} {c P : Addr} {mg mb : Str → Option Value}

theorem laid_size {Q : Flow → Shared → Prop} {f : Addr} {cd : Value} {L lr : Addr} {h₀ : Heap} {oc : Obj} {tags : List Nat} {rows : List (List Nat)} {vr : List Value} {t : Tok}
    (F : Fr h₀ L s.heap (bindL (envOfC dL.name dL.scope L f cd).kindOf [(Str.ofString "tags", Value.str (txt tags) t), (Str.ofString "rows", Value.ref lr)] fun _ => none))
    (N : News h₀ L s.heap [(L + 1, oc)]) (GL : Glob 0 mg mb [] [] [] nms h₀) (hh : A.handled = none)
    (hr : h₀.IsList lr vr.toArray) (hS : StrsAre vr (rows.map txt)) (hlen : rows.length ≤ 1000) (ht : tags.length ≤ 1000) (hw : ∀ r ∈ rows, r.length ≤ 1000)
    (hQ : ∀ s' u, Fr h₀ L s'.heap (fun z => if z = Str.ofString "size" then some (.int (minL tags.length rows : Nat) u) else bindL (envOfC dL.name dL.scope L f cd).kindOf [(Str.ofString "tags", Value.str (txt tags) t), (Str.ofString "rows", Value.ref lr)] (fun _ => none) z) →
      News h₀ L s'.heap [(L + 1, oc)] → s'.gens = s.gens → s'.os = s.os → Q .next s') :
    wpAny (model prog w) A (exec (match dL.body with | x :: _ => x | _ => .Pass default) (envOfC dL.name dL.scope L f cd)) Q (fun _ _ => False) s := by
  unfold dL dAt PySem.Challenge.pw_dm0045_01
  dsimp only [List.getElem?_cons_succ, List.getElem?_cons_zero]
  have hl : (txt tags).length = tags.length := by show (List.toArray tags).size = _; simp
  iterate 17 walk1
  rename_i h₂ F₂ N₂
  refine comp_list F₂ N₂ (F₂.lst hr) hS.areOf (by rw [List.length_map]; exact Nat.le_trans hlen (by decide)) (fun _ => true) (fun a => PyData.int (a.length : Int)) (fun R hR => ldLoc F₂ rfl hR) ?_ ?_ ?_ hh
  · intro C a v s₂ m₂ E' ha hv hns hm hk
    exact no_tests
  · intro C a v s₂ m₂ E' ha hv _ hns hm hk
    obtain ⟨tv, rfl⟩ := hv
    have ha' : a.length ≤ 1000 := by
      obtain ⟨r, hr, rfl⟩ := List.mem_map.mp ha
      have := hw r hr
      show (List.toArray r).size ≤ 1000
      simpa using this
    have GL₂ : Glob 0 mg mb [] [] [] nms s₂.heap := GL.keeps fun b o e => hk b o (F₂.keep b o e)
    clear F N F₂ N₂ GL hr hS
    walk1
    refine gl_builtinK GL₂ (v := .builtin "len") (by decide +kernel) ?_
    walk1
    walk1
    refine ldVarK hns hm ?_
    repeat' walk1
    · exact .int _ _
    · exact ⟨_, _, rfl, fun _ _ e => e⟩
  · intro D ys h' tk F' N' hD hl hC
    have hI := CarriedAll.intsOf hC
    rw [List.filter_eq_self.mpr (fun _ _ => rfl), List.map_map] at hI
    have e0 : rows.map ((fun a : Str => (a.length : Int)) ∘ txt) = rows.map fun r => (r.length : Int) := List.map_congr_left fun r _ => by
      show (((List.toArray r).size : Nat) : Int) = _
      simp
    rw [e0] at hI
    dsimp only
    clear F N F₂ N₂
    refine add_lists F' N' (vs := [Value.int (txt tags).length _]) (News.isList N' (.head _)) hl (fun h₃ F₃ N₃ => ?_) ?_
    · walk1
      refine min_list_N hh F₃ N₃ (News.isList N₃ (.head _)) (IntsAre.cons _ _ hI) (Nat.succ_pos _) fun h₄ M t₄ tk₄ F₄ N₄ hM hle => ?_
      have e1 : M = ((minL tags.length rows : Nat) : Int) := by
        obtain ⟨k, rfl⟩ : ∃ k : Nat, M = (k : Int) := by
          rcases List.mem_cons.mp hM with h | h
          · exact ⟨_, h⟩
          · obtain ⟨r, _, e⟩ := List.mem_map.mp h
            exact ⟨_, e.symm⟩
        congr 1
        refine minL_unique ?_ (fun r hr => ?_) ?_
        · have := hle _ List.mem_cons_self
          omega
        · have := hle _ (List.mem_cons_of_mem _ (List.mem_map.mpr ⟨r, hr, rfl⟩))
          omega
        · rcases List.mem_cons.mp hM with h | h
          · left; omega
          · obtain ⟨r, hr, e⟩ := List.mem_map.mp h
            right
            exact ⟨r, hr, by omega⟩
      subst e1
      have N₅ : News h₀ L h₄ [(L + 1, oc)] := fun p hp => N₄ p (List.mem_cons_of_mem _ (List.mem_cons_of_mem _ hp))
      clear F' N' F₃ N₃ N₄
      refine stLocN F₄ N₅ (fun h₆ F₆ N₆ => ?_)
      exact hQ _ _ F₆ N₆ rfl rfl
    · rw [hI.length]
      simp
      exact Nat.le_trans (Nat.add_le_add_left hlen 1) (by decide)
end
end Mine

namespace Mine
section
variable {prog : Program} {w : World} {A : Around} {E : Value → Shared → Prop} {s : Shared} {env : Env}
/-- a for whose variable is a cell -/
theorem loop_cell {R : Result → Shared → Prop} {x : Str} {px : Pos} {body : List Stmt} {I c : Addr} {fp wr : List Addr} {n : Nat} {Pw : Nat → Value → Prop} {St : Nat → Heap → Prop}
    (W : Walks prog w A I fp wr n Pw St) (hk : env.scope.kind = .function) (hx : env.kindOf x = some .cell) (hc : env.cells.lookup x = some c) (hcf : c ∉ fp) (hst : St 0 s.heap)
    (J : Nat → Shared → Prop) (h0 : J 0 s) (hcell : ∀ i s, J i s → ∃ v, s.heap.IsCell c v)
    (hJ : ∀ i s h' tk, J i s → (∀ b o, b ∉ wr → s.heap.get? b = some o → h'.get? b = some o) → J i { s with heap := h', toks := tk })
    (step : ∀ i v s₁ h' (Q : Flow → Shared → Prop), i < n → Pw i v → J i s₁ → St (i + 1) h' → Heap.SameBut c s₁.heap h' → h'.IsCell c (some v) →
      (∀ s₂, St (i + 1) s₂.heap → J (i + 1) s₂ → Q .next s₂) → wpAny (model prog w) A (execs body env) Q (fun _ _ => False) { s₁ with heap := h' })
    (hR : ∀ s', J n s' → R (.ok .next) s') :
    codeAny (model prog w) A (.forLoop (.Name x px) (.ref I) body [] env) R s := by
  refine codeAny_forLoop (fun k s' => ∃ i, i ≤ n ∧ k = n + 1 - i ∧ St i s'.heap ∧ J i s') ?_ (n + 1) ⟨0, Nat.zero_le _, rfl, hst, h0⟩
  rintro k s' ⟨i, hi, rfl, hst', hJ'⟩
  have hcw : c ∉ wr := fun h => hcf (W.sub _ h)
  by_cases hlt : i < n
  · refine W.item i _ _ _ hlt hst' fun v h₁ tk₁ hP hst₁ hk₁ => ?_
    have hJ₁ : J i { s' with heap := h₁, toks := tk₁ } := hJ i s' h₁ tk₁ hJ' fun b o hb e => hk₁ b o hb e
    obtain ⟨v₀, hv₀⟩ := hcell _ _ hJ₁
    refine wpAny_assign_Name (wpAny_storeName_cell hk hx hc hv₀ fun h₂ hv₂ hs₂ => ?_)
    have hst₂ : St (i + 1) h₂ := W.frame _ _ _ hst₁ fun b hb o e => (hs₂.2 b (fun h => hcf (h ▸ hb))).trans e
    refine wpAny_mono (step i v _ h₂ _ hlt hP hJ₁ hst₂ hs₂ hv₂ fun s₃ hst₃ hJ₃ => ?_) (fun _ _ e => e) fun _ _ e => e.elim
    exact ⟨n + 1 - (i + 1), by omega, i + 1, hlt, rfl, hst₃, hJ₃⟩
  · have hin : i = n := by omega
    subst hin
    refine W.done _ _ _ hst' fun h₁ tk₁ hk₁ => wpAny_execs_nil ?_
    exact hR _ (hJ _ s' h₁ tk₁ hJ' fun b o hb e => hk₁ b o hb e)
end

theorem fr_is {h₀ h : Heap} {L : Addr} {m m' : Str → Option Value} (F : Fr h₀ L h m) (e : ∀ z, m z = m' z) : Fr h₀ L h m' := by
  have : m = m' := funext e
  rw [← this]; exact F

theorem canLay_strs : ∀ ts : List Str, (∀ t ∈ ts, PyData.strOk t = true) → PyData.canLayAll0 (ts.map PyData.str) = true
  | [], _ => rfl
  | x :: r, h => by simp [PyData.canLayAll0, PyData.canLay0, canLay_strs r fun t ht => h t (List.mem_cons_of_mem _ ht), h x List.mem_cons_self]
theorem depth_strs : ∀ ts : List Str, PyData.depthAll (ts.map PyData.str) = 0
  | [] => rfl
  | _ :: r => by simp [PyData.depthAll, PyData.depth, depth_strs r]
theorem shaped_strs (ts : List Str) (h : ∀ t ∈ ts, PyData.strOk t = true) : SeqAt.shaped (.list (ts.map PyData.str)) = true := by
  simp [SeqAt.shaped, PyData.canLay0, PyData.depth, canLay_strs ts h, depth_strs]
theorem carried_strs : ∀ {vs : List Value} {ts : List Str}, StrsAre vs ts → CarriedAll vs (ts.map PyData.str)
  | _, _, .nil => .nil
  | _, _, .cons _ t r => .cons (.str _ t) (carried_strs r)
theorem ne_nil {prog : Program} {w : World} {A : Around} {E : Value → Shared → Prop} {s : Shared} {a b : Addr} {xs : List Value} {ts : List Str} {Q : Value → Shared → Prop}
    (ha : s.heap.IsList a xs.toArray) (hb : s.heap.IsList b #[]) (hi : StrsAre xs ts) (hok : ∀ t ∈ ts, PyData.strOk t = true) (hu : A.units + 64 < cLine) (h : Q (.bool (!ts.isEmpty)) s) :
    wpAny (model prog w) A (compareOp .NotEq (.ref a) (.ref b)) Q E s := by
  refine ne_dataH_same (reads_newData ha (carried_strs hi)) (reads_newData (ys := []) (ds := ([] : List Str).map PyData.str) hb .nil) (shaped_strs _ hok) (shaped_strs _ nofun) hu (SeqAt.noMix_of_shape (.list .str) rfl _ _ (list_map_has fun _ => rfl) (list_map_has fun _ => rfl)) ?_
  have e : PySem.Spec.same (.list (ts.map PyData.str)) (.list (([] : List Str).map PyData.str)) = ts.isEmpty := by
    cases ts <;> simp [PySem.Spec.same, PySem.Spec.sameAll]
  rw [e]; exact h

theorem cps_getD {a : Str} {p : Nat} (h : p < a.cps.size) : a.cps[p] = a.cps.toList.getD p 0 := by simp [List.getD_eq_getElem?_getD, h]

theorem news_list {h₀ h : Heap} {L D : Addr} {m : Str → Option Value} {news : List (Addr × Obj)} {items : Array Value} (F : Fr h₀ L h m) (N : News h₀ L h news) (hD : h₀.get? D = none) (hl : h.IsList D items) :
    ∃ o, News h₀ L h ((D, o) :: news) ∧ ∀ h' : Heap, h'.get? D = some o → h'.IsList D items := by
  obtain ⟨o, ho, hc, n, hd⟩ := hl
  refine ⟨o, fun q hq => ?_, fun h' e => ⟨o, e, hc, n, hd⟩⟩
  rcases List.mem_cons.mp hq with rfl | hq
  · refine ⟨ho, fun e => ?_, hD⟩
    obtain ⟨o', es, ep, ho', hd', _⟩ := F.ns
    rw [show (D, o).1 = D from rfl] at e
    rw [← e, ho] at ho'
    cases ho'
    rw [hd] at hd'
    cases hd'
  · exact N q hq

/-- is the sign in the written text of two tabs -/
def tab2 (c : Nat) : Bool := !(Builtin.Str.occurrences (Str.ofString "\t\x0b") ⟨#[c]⟩ 0 (Str.ofString "\t\x0b").length 1).isEmpty
def laidAt (tags : List Nat) (rows : List (List Nat)) (p : Nat) : Nat :=
  if tags.getD p 0 = 32 then ((rows.map fun r => r.getD p 0).filter tab2).headD 32 else tags.getD p 0

abbrev mapE (rest : Str → Option Value) (S lr : Addr) (tags : Str) (t : Tok) (z : Str) : Option Value :=
  if z = Str.ofString "signs" then some (.ref S) else if z = Str.ofString "tags" then some (.str tags t) else if z = Str.ofString "rows" then some (.ref lr) else rest z

section
variable {prog : Program} {w : World} {A : Around} {E : Value → Shared → Prop} {s : Shared}

theorem turnL {Q : Flow → Shared → Prop} {f : Addr} {cd : Value} {L lr S I : Addr} {h₀ : Heap} {oc oI : Obj} {tags : List Nat} {rows : List (List Nat)} {vr vs : List Value} {t tp : Tok} {n p : Nat} {rest : Str → Option Value}
    (F : Fr h₀ L s.heap (mapE rest S lr (txt tags) t))
    (N : News h₀ L s.heap [(S, listOf (List.toArray vs) n), (L + 1, oc), (I, oI)]) (hoc : oc.data = .cell (some (.int (p : Int) tp))) (hh : A.handled = none) (hun : A.units + 64 < cLine) (hSI : S ≠ I) (hSL : S ≠ L + 1)
    (hr : h₀.IsList lr vr.toArray) (hS : StrsAre vr (rows.map txt)) (hlen : rows.length ≤ 1000) (hvs : vs.length ≤ 1000) (ht : tags.length ≤ 1000) (hp : p < tags.length) (hw : ∀ r ∈ rows, p < r.length) (hwa : ∀ r ∈ rows, ∀ a ∈ r, a < 128)
    (hQ : ∀ s' rest' u, Fr h₀ L s'.heap (mapE rest' S lr (txt tags) t) → News h₀ L s'.heap [(S, listOf (List.toArray (vs ++ [Value.str ⟨#[laidAt tags rows p]⟩ u])) (n + 1)), (L + 1, oc), (I, oI)] → s'.gens = s.gens → s'.os = s.os → Q .next s') :
    wpAny (model prog w) A (execs (match dL.body.drop 2 with | (.For _ _ b _ _) :: _ => b | _ => []) (envOfC dL.name dL.scope L f cd)) Q (fun _ _ => False) s := by
  unfold dL dAt PySem.Challenge.pw_dm0045_01
  dsimp only [List.getElem?_cons_succ, List.getElem?_cons_zero, List.drop_succ_cons, List.drop_zero]
  have hl : (txt tags).length = tags.length := by show (List.toArray tags).size = _; simp
  have hi0 : (0 : Int) ≤ p := by omega
  have hi1 : (p : Int) < (txt tags).length := by omega
  have hsz : (List.toArray vs).size ≤ sizeLine := by rw [List.size_toArray]; exact Nat.le_trans hvs (by decide)
  have hSr : ∀ q ∈ [(L + 1, oc), (I, oI)], q.1 ≠ S := by simp; exact ⟨hSL.symm, hSI.symm⟩
  have hp' : p < (txt tags).cps.size := by show p < (List.toArray tags).size; simpa using hp
  have eg : (txt tags).cps[p] = tags.getD p 0 := by simp [txt, List.getD_eq_getElem?_getD, hp]
  repeat' walk1
  · rename_i F N _ h₂ F₂ N₂ _ _ hr heq
    rw [item_is hp', eg, ofString_blank] at heq
    have e32 : tags.getD p 0 = 32 := by simpa using heq
    refine assign_list rfl F₂ N₂ (F₂.lst hr) hS.areOf (by rw [List.length_map]; exact Nat.le_trans hlen (by decide)) (fun a => tab2 (a.cps.toList.getD p 0)) (fun a => PyData.str ⟨#[a.cps.toList.getD p 0]⟩) (fun R hR => ldLoc F₂ rfl hR) ?_ ?_ ?_ hh
    · intro C a v s₂ m₂ E' ha hv hns hm hk
      obtain ⟨tv, rfl⟩ := hv
      have hcell : s₂.heap.IsCell (L + 1) (some (Value.int p tp)) := ⟨oc, hk _ _ (N₂.get (.tail _ (.head _))), hoc⟩
      have hpa : p < a.cps.size := by
        obtain ⟨r, hr', rfl⟩ := List.mem_map.mp ha
        have := hw r hr'
        show p < (List.toArray r).size
        simpa using this
      have hpb : (p : Int) < a.length := by show (p : Int) < (a.cps.size : Nat); omega
      clear F N F₂ N₂ hr hS
      refine wpAny_tests_one ?_
      walk1
      walk1
      refine ldVarK hns hm ?_
      refine ldCellK rfl hcell ?_
      repeat' walk1
      · rw [item_is hpa, cps_getD hpa]
        rfl
      · exact ⟨_, _, rfl, fun _ _ e => e⟩
    · intro C a v s₂ m₂ E' ha hv _ hns hm hk
      obtain ⟨tv, rfl⟩ := hv
      have hcell : s₂.heap.IsCell (L + 1) (some (Value.int p tp)) := ⟨oc, hk _ _ (N₂.get (.tail _ (.head _))), hoc⟩
      have hpa : p < a.cps.size := by
        obtain ⟨r, hr', rfl⟩ := List.mem_map.mp ha
        have := hw r hr'
        show p < (List.toArray r).size
        simpa using this
      have hpb : (p : Int) < a.length := by show (p : Int) < (a.cps.size : Nat); omega
      clear F N F₂ N₂ hr hS
      walk1
      refine ldVarK hns hm ?_
      refine ldCellK rfl hcell ?_
      repeat' walk1
      · rw [item_is hpa, cps_getD hpa]
        exact .str _ _
      · exact ⟨_, _, rfl, fun _ _ e => e⟩
    · intro D ys h₃ tk₃ F₃ N₃ hD hl₃ hC
      have hI := CarriedAll.strsOf hC
      have ets : ((rows.map txt).filter fun a => tab2 (a.cps.toList.getD p 0)).map (fun a => (⟨#[a.cps.toList.getD p 0]⟩ : Str)) = ((rows.map fun r => r.getD p 0).filter tab2).map fun c => ⟨#[c]⟩ := by
        rw [List.filter_map, List.map_map, List.filter_map, List.map_map]
        rfl
      rw [ets] at hI
      generalize hts : (rows.map fun r => r.getD p 0).filter tab2 = ts at hI
      clear F N F₂ N₂
      dsimp only
      have hll : ts.length ≤ 1000 := by
        rw [← hts]
        refine Nat.le_trans (List.length_filter_le _ _) ?_
        rw [List.length_map]; exact hlen
      have hok : ∀ t ∈ ts.map fun c => (⟨#[c]⟩ : Str), PyData.strOk t = true := by
        intro t ht
        obtain ⟨c, hc, rfl⟩ := List.mem_map.mp ht
        rw [← hts] at hc
        obtain ⟨r, hr', rfl⟩ := List.mem_map.mp (List.mem_filter.mp hc).1
        have hlt := hw r hr'
        have := hwa r hr' (r.getD p 0) (by rw [List.getD_eq_getElem?_getD, List.getElem?_eq_getElem hlt]; exact List.getElem_mem hlt)
        generalize r.getD p 0 = c at this ⊢
        simp [PyData.strOk]
        omega
      obtain ⟨oD, N₄, hDk⟩ := news_list F₃ N₃ hD hl₃
      clear N₃ hl₃ hr
      iterate 7 walk1
      rename_i h₅ F₅ N₅ _ _
      have F₅ : Fr h₀ L h₅ _ := F₅
      refine ne_nil (hDk _ (N₅.get (.tail _ (.head _)))) (News.isList N₅ (.head _)) hI hok hun ?_
      have N₆ : News h₀ L h₅ [(S, listOf (List.toArray vs) n), (L + 1, oc), (I, oI)] := fun q hq => N₅ q (List.mem_cons_of_mem _ (List.mem_cons_of_mem _ hq))
      repeat' walk1
      · rename_i he
        have ht0 : ts = [] := by simpa using he
        have el : laidAt tags rows p = 32 := by unfold laidAt; rw [if_pos e32, hts, ht0]; rfl
        refine append_K (hsz := hsz) F₅ N₆ (Upd.head hSr) (fun h₇ F₇ N₇ => ?_)
        dsimp only
        clear F₅ N₅ N₆
        repeat' walk1
        rw [item_is hp', eg, e32] at N₇
        refine hQ _ (fun z => if z = Str.ofString "tabs" then some (.ref D) else if z = Str.ofString "sign" then some (Value.str (Txt.item (txt tags) p) s.toks) else rest z) s.toks (fr_is F₇ fun z => ?_) (by rw [el]; simpa using N₇) rfl rfl
        by_cases h1 : z = Str.ofString "tabs"
        · subst h1; rfl
        · by_cases h2 : z = Str.ofString "sign"
          · subst h2; rfl
          · simp [h1, h2, mapE]
      · rename_i he
        obtain ⟨c, cs, ht0⟩ : ∃ c cs, ts = c :: cs := by
          cases ts with
          | nil => simp at he
          | cons c cs => exact ⟨c, cs, rfl⟩
        have el : laidAt tags rows p = c := by unfold laidAt; rw [if_pos e32, hts, ht0]; rfl
        have hD₅ := hDk h₅ (N₅.get (.tail _ (.head _)))
        clear hDk
        refine item_strsA hD₅ hI (by decide) (by rw [ht0]; simp) (by decide) fun t₆ => ?_
        have e0 : (ts.map fun c => (⟨#[c]⟩ : Str)).getD (0 : Int).toNat Str.empty = ⟨#[c]⟩ := by rw [ht0]; rfl
        rw [e0]
        refine stLocN F₅ N₆ (fun h₆ F₆ N₇ => ?_)
        clear F₅ N₅ N₆
        iterate 11 walk1
        refine append_K (hsz := hsz) F₆ N₇ (Upd.head hSr) (fun h₇ F₈ N₈ => ?_)
        dsimp only
        clear F₆ N₇
        repeat' walk1
        refine hQ _ (fun z => if z = Str.ofString "sign" then some (Value.str ⟨#[c]⟩ t₆) else if z = Str.ofString "tabs" then some (.ref D) else rest z) t₆ (fr_is F₈ fun z => ?_) (by rw [el]; simpa using N₈) rfl rfl
        by_cases h1 : z = Str.ofString "tabs"
        · subst h1; rfl
        · by_cases h2 : z = Str.ofString "sign"
          · subst h2; rfl
          · simp [h1, h2, mapE]
  · rename_i F N _ h₂ F₂ N₂ _ _ hr heq
    rw [item_is hp', eg, ofString_blank] at heq
    have e32 : ¬ tags.getD p 0 = 32 := by simpa using heq
    refine append_K (hsz := hsz) F₂ N₂ (Upd.head hSr) (fun h₄ F₄ N₄ => ?_)
    dsimp only
    repeat' walk1
    rw [item_is hp', eg] at N₄
    have el : laidAt tags rows p = tags.getD p 0 := by unfold laidAt; rw [if_neg e32]
    refine hQ _ (fun z => if z = Str.ofString "sign" then some (Value.str (Txt.item (txt tags) p) s.toks) else rest z) s.toks (fr_is F₄ fun z => ?_) (by rw [el]; simpa using N₄) rfl rfl
    by_cases h1 : z = Str.ofString "sign"
    · subst h1; rfl
    · simp [h1, mapE]
end
end Mine

namespace Mine
def laidF (tags : List Nat) (rows : List (List Nat)) : List Nat := (List.range (minL tags.length rows)).map (laidAt tags rows)

theorem mapE_self {m : Str → Option Value} {S lr : Addr} {tags : Str} {t : Tok} (h1 : m (Str.ofString "signs") = some (.ref S)) (h2 : m (Str.ofString "tags") = some (.str tags t)) (h3 : m (Str.ofString "rows") = some (.ref lr)) (z : Str) :
    m z = mapE m S lr tags t z := by
  unfold mapE
  by_cases e1 : z = Str.ofString "signs"
  · rw [if_pos e1, e1, h1]
  · rw [if_neg e1]
    by_cases e2 : z = Str.ofString "tags"
    · rw [if_pos e2, e2, h2]
    · rw [if_neg e2]
      by_cases e3 : z = Str.ofString "rows"
      · rw [if_pos e3, e3, h3]
      · rw [if_neg e3]

section
variable {prog : Program} {w : World} {A : Around} {E : Value → Shared → Prop} {s : Shared} {H : Heap} {c P : Addr} {mg mb : Str → Option Value}

theorem laid_body {Q : Flow → Shared → Prop} {f : Addr} {cd : Value} {L lr : Addr} {h₀ : Heap} {oc : Obj} {v₀ : Option Value} {tags : List Nat} {rows : List (List Nat)} {vr : List Value} {t : Tok}
    (F : Fr h₀ L s.heap (bindL (envOfC dL.name dL.scope L f cd).kindOf [(Str.ofString "tags", Value.str (txt tags) t), (Str.ofString "rows", Value.ref lr)] fun _ => none))
    (N : News h₀ L s.heap [(L + 1, oc)]) (hoc : oc.data = .cell v₀) (GL : Glob 0 mg mb [] [] [] nms h₀) (hh : A.handled = none) (hun : A.units + 64 < cLine)
    (hr : h₀.IsList lr vr.toArray) (hS : StrsAre vr (rows.map txt)) (hlen : rows.length ≤ 1000) (ht : tags.length ≤ 1000) (hw : ∀ r ∈ rows, r.length ≤ 1000) (hwa : ∀ r ∈ rows, ∀ a ∈ r, a < 128)
    (hQ : ∀ s' m' u, Fr h₀ L s'.heap m' → s'.gens = s.gens → s'.os = s.os → Q (.ret (.str (txt (laidF tags rows)) u)) s') :
    wpAny (model prog w) A (execs dL.body (envOfC dL.name dL.scope L f cd)) Q (fun _ _ => False) s := by
  have hmin := minL_spec rows tags.length
  have step0 := @laid_size prog w A s mg mb
  unfold dL dAt PySem.Challenge.pw_dm0045_01 at step0 F ⊢
  dsimp only [List.getElem?_cons_succ, List.getElem?_cons_zero] at step0 F ⊢
  walk1
  refine step0 F N GL hh hr hS hlen ht hw fun s₁ u F₁ N₁ hg₁ hos₁ => ?_
  clear step0
  have hlS : L + 1 < s₁.heap.objs.size := Heap.lt_size (N₁ _ (.head _)).1
  dsimp only
  generalize hSe : s₁.heap.objs.size = S at hlS
  clear F N
  iterate 5 walk1
  rename_i h₂ F₂ N₂
  rw [hSe] at N₂
  clear F₁ N₁
  refine stLocN F₂ N₂ (fun h₃ F₃ N₃ => ?_)
  rw [hSe] at F₃
  clear F₂ N₂
  walk1
  refine wpAny_For ?_ (fun _ => rfl)
  iterate 6 walk1
  refine range_iter (n := minL tags.length rows) (by omega) fun h₄ tk₄ I hI hIle hk₄ => ?_
  have hI4 : S < I := Nat.lt_of_lt_of_le (Heap.lt_size (N₃ _ (.head _)).1) hIle
  have hLI1 : L + 1 < I := Nat.lt_trans hlS hI4
  have hLI : L < I := Nat.lt_of_succ_lt hLI1
  have hI0 : h₀.get? I = none := by
    cases hq : h₀.get? I with
    | none => rfl
    | some o => exact absurd (Nat.lt_of_lt_of_le (Heap.lt_size hq) F₃.above) (Nat.not_lt.mpr (Nat.le_of_lt hLI))
  refine loop_cell (c := L + 1) (Walks.range hh I 0 1 (minL tags.length rows)) rfl rfl rfl ?_ (by simpa using hI)
    (fun i s' => ∃ oc' v' rest vs n, oc'.data = .cell v' ∧ Fr h₀ L s'.heap (mapE rest S lr (txt tags) t) ∧ News h₀ L s'.heap [(S, listOf (List.toArray vs) n), (L + 1, oc')] ∧ StrsAre vs (((laidF tags rows).take i).map fun c => (⟨#[c]⟩ : Str)) ∧
      s'.gens = s.gens ∧ s'.os = s.os) ?_ ?_ ?_ ?_ ?_
  · exact fun hm => absurd (List.mem_singleton.mp hm) (Nat.ne_of_lt hLI1)
  · refine ⟨oc, v₀, _, [], 0, hoc, fr_is (F₃.keeps hk₄) (mapE_self rfl rfl rfl), fun q hq => ⟨hk₄ _ _ (N₃ q hq).1, (N₃ q hq).2⟩, by simpa using StrsAre.nil, ?_, ?_⟩
    · exact hg₁
    · exact hos₁
  · rintro i s' ⟨oc', v', rest, vs, n, hd, F', N', _⟩
    exact ⟨v', oc', (N' _ (.tail _ (.head _))).1, hd⟩
  · rintro i s' h' tk ⟨oc', v', rest, vs, n, hd, F', N', hst, hg, hos⟩ hkeep
    have hn : ∀ q ∈ [(S, listOf (List.toArray vs) n), (L + 1, oc')], q.1 ∉ [I] := by
      intro q hq hm
      have hm := List.mem_singleton.mp hm
      rcases List.mem_cons.mp hq with rfl | hq
      · exact absurd hm (Nat.ne_of_lt hI4)
      · rw [List.mem_singleton.mp hq] at hm
        exact absurd hm (Nat.ne_of_lt hLI1)
    refine ⟨oc', v', rest, vs, n, hd, ⟨F'.ns.at' fun o e => hkeep L o (fun hm => absurd (List.mem_singleton.mp hm) (Nat.ne_of_lt hLI)) e, fun b o e => hkeep b o (fun hm => ?_) (F'.keep b o e), F'.above⟩, fun q hq => ⟨hkeep _ _ (hn q hq) (N' q hq).1, (N' q hq).2⟩, hst, hg, hos⟩
    rw [List.mem_singleton.mp hm, hI0] at e; cases e
  · rintro i v s' h' Q' hi ⟨tv, rfl⟩ ⟨oc', v', rest, vs, n, hd, F', N', hst, hg, hos⟩ hit hsb ⟨oc₂, hc₂, hd₂⟩ hQ'
    have ev : (0 : Int) + (i : Int) * 1 = (i : Int) := by omega
    rw [ev] at hd₂
    have hcN := N' _ (.tail _ (.head _))
    have F₅ : Fr h₀ L h' (mapE rest S lr (txt tags) t) := ⟨F'.ns.sameBut hsb (Nat.ne_of_lt (Nat.lt_succ_self L)), fun b o e => (hsb.2 b (fun hb => by rw [hb, hcN.2.2] at e; cases e)).trans (F'.keep b o e), F'.above⟩
    have N₅ : News h₀ L h' [(S, listOf (List.toArray vs) n), (L + 1, oc₂), (I, _)] := fun q hq => by
      rcases List.mem_cons.mp hq with rfl | hq
      · have := N' _ (.head _)
        exact ⟨(hsb.2 _ (Nat.ne_of_gt hlS)).trans this.1, this.2⟩
      · rcases List.mem_cons.mp hq with rfl | hq
        · exact ⟨hc₂, hcN.2⟩
        · rw [List.mem_singleton.mp hq]
          exact ⟨hit, Nat.ne_of_gt hLI, hI0⟩
    have hvl : vs.length ≤ 1000 := by
      rw [hst.length]
      simp
      omega
    refine wpAny_mono (turnL (Q := Q') F₅ N₅ hd₂ hh hun (Nat.ne_of_lt hI4) (Nat.ne_of_gt hlS) hr hS hlen hvl ht (by omega) (fun r hr => Nat.lt_of_lt_of_le hi (hmin.2.1 r hr)) hwa fun s₆ rest' u₆ F₆ N₆ hg₆ hos₆ => ?_) (fun _ _ e => e) fun _ _ e => e
    refine hQ' s₆ (N₆ _ (.tail _ (.tail _ (.head _)))).1 ⟨oc₂, _, rest', vs ++ [Value.str ⟨#[laidAt tags rows i]⟩ u₆], n + 1, hd₂, F₆, fun q hq => N₆ q ?_, ?_, hg₆.trans hg, hos₆.trans hos⟩
    · rcases List.mem_cons.mp hq with rfl | hq
      · exact .head _
      · rw [List.mem_singleton.mp hq]; exact .tail _ (.head _)
    · have e1 : (laidF tags rows).take (i + 1) = (laidF tags rows).take i ++ [laidAt tags rows i] := by
        rw [List.take_add_one]
        congr 1
        unfold laidF
        rw [List.getElem?_map, List.getElem?_range hi]
        rfl
      rw [e1, List.map_append]
      exact StrsAre.append' hst (.cons _ _ .nil)
  · rintro s' ⟨oc', v', rest, vs, n, hd, F', N', hst, hg, hos⟩
    have e1 : (laidF tags rows).take (minL tags.length rows) = laidF tags rows := List.take_of_length_le (by simp [laidF])
    rw [e1] at hst
    clear F₃ N₃
    dsimp only
    iterate 9 walk1
    refine join_listC (News.isList N' (.head _)) (by simpa using hst) (by decide) ?_ fun t' k => ?_
    · have : (((laidF tags rows).map fun c => (⟨#[c]⟩ : Str)).map (·.length)).sum = (laidF tags rows).length := by
        rw [List.map_map]
        induction laidF tags rows with
        | nil => rfl
        | cons a r ih => rw [List.map_cons, List.sum_cons, ih, List.length_cons]; show 1 + r.length = _; omega
      rw [this, List.length_map]
      have : (laidF tags rows).length = minL tags.length rows := by simp [laidF]
      omega
    · rw [glued_signs]
      exact hQ _ _ t' F' hg hos
theorem laid_call {f : Addr} {Q : Value → Shared → Prop} (G : Gr H c P mg mb) (D : DefAt H dL f) (B : Bs H c P s.heap) (hh : A.handled = none) (hroom : A.depth + 5 < recursionLimit) (hun : A.units + 100 < cLine)
    {t : Tok} {lr : Addr} {vr : List Value} {tags : List Nat} {rows : List (List Nat)} (hr : s.heap.IsList lr vr.toArray) (hS : StrsAre vr (rows.map txt)) (hlen : rows.length ≤ 1000) (ht : tags.length ≤ 1000) (hw : ∀ r ∈ rows, r.length ≤ 1000)
    (hwa : ∀ r ∈ rows, ∀ a ∈ r, a < 128)
    (hQ : ∀ s' t', (∀ b o, s.heap.get? b = some o → s'.heap.get? b = some o) → s.heap.objs.size ≤ s'.heap.objs.size → s'.gens = s.gens → s'.os = s.os → Q (.str (txt (laidF tags rows)) t') s') :
    wpAny (model prog w) A (call (.ref f) [.str (txt tags) t, .ref lr]) Q E s := by
  obtain ⟨o, pm, cd, doc, ho, hd, hcd⟩ := D
  have GL := B.glob G
  refine wpAny_call (call_cellsN_ret (by omega) (B.get G ho (fun vs => by rw [hd]; nofun)) hd (B.nolimit G) (B.codeRec G hcd) (binds := [(Str.ofString "tags", .str (txt tags) t), (Str.ofString "rows", .ref lr)]) rfl (kinds_of (by kinds_ok)) (by decide) (fun h₁ tk₁ cells F N X => ?_) rfl rfl rfl)
  obtain ⟨oc, rfl, hoc⟩ := CellsAre.one X
  refine laid_body F N hoc GL hh (by rw [units_deeper]; omega) hr hS hlen ht hw hwa fun s' m' u F' hg hos => ?_
  exact hQ s' u F'.keep (Nat.le_of_lt F'.ns.lt) hg hos
end
end Mine

namespace Mine
abbrev dW : DefRec := dAt PySem.Challenge.pw_dm0045_01 5

section
variable {H h₀ h h' : Heap} {c P L : Addr} {mg mb m : Str → Option Value} {led : List (Addr × Obj)}
/-- as large as H, and what holds nothing in H holds nothing in it -/
structure Same (H h₀ : Heap) : Prop where
  size : h₀.objs.size = H.objs.size
  none : ∀ b, H.get? b = none → h₀.get? b = none
theorem Same.rfl : Same H H := ⟨_root_.rfl, fun _ e => e⟩
theorem base' (B : Bs H c P h) (G : Gr H c P mg mb) : ∃ h₀, Bs H c P h₀ ∧ Same H h₀ ∧ ∀ b o, h₀.get? b = some o → h.get? b = some o := by
  obtain ⟨ps, hc, ht⟩ := B.tab
  have hcP := G.cP
  have hself : (regrown H P ps).get? P = some { cls := .none, data := .fields ps } := Heap.get?_update_self _ G.tab.2 rfl
  have hoth : ∀ b, b ≠ P → (regrown H P ps).get? b = H.get? b := fun b hb => Heap.get?_update_other _ _ (Ne.symm hb)
  refine ⟨regrown H P ps, ⟨fun b o hb e => (hoth b hb).trans e, ⟨ps, ?_, ?_⟩, Nat.le_of_eq (Heap.SameBut.update H P _).1.symm⟩, ⟨(Heap.SameBut.update H P _).1, fun b e => ?_⟩, fun b o e => ?_⟩
  · obtain ⟨o, vs, file, tf, flags, tg, inF, text, tt, op, ho, r1, r2, r3, r4, r5, r6, _, _, _, r9⟩ := G.code
    obtain ⟨o', vs', file', tf', flags', tg', inF', text', tt', op', ho', _, _, _, _, _, _, hop', hpd', htr', _⟩ := hc
    exact ⟨o, vs, file, tf, flags, tg, inF, text, tt, _, (hoth c hcP).trans ho, r1, r2, r3, r4, r5, r6, hself, rfl, htr', r9⟩
  · obtain ⟨⟨o, vs, e, r⟩, _⟩ := G.tab
    exact ⟨⟨o, vs, (hoth c hcP).trans e, r⟩, hself⟩
  · exact (hoth b (fun x => by rw [x, G.tab.2] at e; cases e)).trans e
  · by_cases hb : b = P
    · subst hb; rw [hself] at e; cases e; exact ht.2
    · rw [hoth b hb] at e; exact B.keep b o hb e
theorem news_same {h₁ : Heap} (hz : Same H h₁) (hl : ∀ p ∈ led, H.get? p.1 = none ∧ p.1 ≠ L ∧ h.get? p.1 = some p.2) : News h₁ L h led := fun p hp => by
  obtain ⟨a, b, d⟩ := hl p hp
  exact ⟨d, b, hz.none _ a⟩
theorem bs_of (G : Gr H c P mg mb) (B₀ : Bs H c P h₀) (hz : Same H h₀) (F : Fr h₀ L h m) : Bs H c P h :=
  B₀.keeps G (by rw [hz.size]; exact Nat.le_of_lt (Nat.lt_of_le_of_lt (hz.size ▸ F.above) F.ns.lt)) F.keep
theorem rebase (G : Gr H c P mg mb) (hz : Same H h₀) (F : Fr h₀ L h m) (N : News h₀ L h led) (ha : ∀ q ∈ led, H.get? q.1 = none) (B₁ : Bs H c P h') (hk : ∀ b o, b ≠ P → h.get? b = some o → h'.get? b = some o) :
    ∃ h₁, Bs H c P h₁ ∧ Same H h₁ ∧ Fr h₁ L h' m ∧ News h₁ L h' led := by
  have hPH : P < H.objs.size := G.code.lt.2
  have hLP : L ≠ P := Nat.ne_of_gt (Nat.lt_of_lt_of_le hPH (hz.size ▸ F.above))
  obtain ⟨h₁, B₁', hz₁, hkeep₁⟩ := base' B₁ G
  refine ⟨h₁, B₁', hz₁, ⟨F.ns.at' fun o e => hk L o hLP e, hkeep₁, by rw [hz₁.size]; exact hz.size ▸ F.above⟩, news_same hz₁ fun q hq => ?_⟩
  exact ⟨ha q hq, (N q hq).2.1, hk _ _ (fun e => by have := ha q hq; rw [e, G.tab.2] at this; cases this) (N q hq).1⟩
end

section
variable {M : Model} {A : Around} {E : Value → Shared → Prop} {s : Shared} {name : Str} {scope : Scope} {L a : Addr} {cd : Value} {mg mb : Str → Option Value} {h₀ : Heap} {m : Str → Option Value} {Q : Value → Shared → Prop}
theorem gl_fnC {x : Str} {pos : Pos} {v : Value} (F : Fr h₀ L s.heap m) (GL : Glob 0 mg mb [] [] [] nms h₀) (hv : mg x = some v) (h : Q v s)
    (hk : scope.kind = .function := by rfl) (hx : (envOfC name scope L a cd).kindOf x = some .globalImplicit := by rfl)
    (hd : (x == ("__debug__" : Str)) = false := by decide) : wpAny M A (eval (.Name x pos) (envOfC name scope L a cd)) Q E s :=
  Name_function_global hk hx (loadGlobal_global (env := envOfC name scope L a cd) (GL.g.keeps F.keep) hv h) hd
theorem gl_fnK {x : Str} {pos : Pos} {v : Value} {cl : List (Str × Addr)} {C : Addr} {env : Env} (GL : Glob 0 mg mb [] [] [] nms s.heap) (hv : mg x = some v) (h : Q v s) (hg : env.globals = mainGlobals := by rfl)
    (hk : (compEnvC scope cl C env).scope.kind = .function := by rfl) (hx : (compEnvC scope cl C env).kindOf x = some .globalImplicit := by rfl)
    (hd : (x == ("__debug__" : Str)) = false := by decide) : wpAny M A (eval (.Name x pos) (compEnvC scope cl C env)) Q E s :=
  Name_function_global hk hx (loadGlobal_global (env := compEnvC scope cl C env) (show s.heap.Ns env.globals mg from hg ▸ GL.g) hv h) hd
end

/-- where the defs stand -/
structure Env1 (H : Heap) (c : Addr) (mg : Str → Option Value) (fK fR fL : Addr) : Prop where
  keep : KeepAt H c mg fK
  row : DefAt H dR fR
  laid : DefAt H dL fL
  gk : mg (Str.ofString "_keep_original_ws") = some (.ref fK)
  gr : mg (Str.ofString "_law_row") = some (.ref fR)
  gl : mg (Str.ofString "_law_laid") = some (.ref fL)

section
variable {prog : Program} {w : World} {A : Around} {s : Shared} {H : Heap} {c P fK fR fL : Addr} {mg mb : Str → Option Value}

theorem sum_any {E : Value → Shared → Prop} {Q : Value → Shared → Prop} {l : Addr} {vs : List Value} {ns : List Int} (hh : A.handled = none) (hl : s.heap.IsList l vs.toArray) (hi : IntsAre vs ns)
    (h : ∀ h' tk t', (∀ b o, s.heap.get? b = some o → h'.get? b = some o) → Q (.int ns.sum t') { s with heap := h', toks := tk }) : wpAny (model prog w) A (call (.builtin "sum") [.ref l]) Q E s := by
  obtain ⟨xs, e⟩ := hi.allInts.items
  have hns : ns = xs.toList.map (·.1) := by rw [← hi.numsOf, ← nums_intItems, ← e]
  rw [e] at hl
  refine sum_intListG hh hl fun h' tk t' hk => ?_
  rw [preSum_eq, List.take_of_length_le (by simp), ← hns]
  exact h h' tk t' hk

theorem segA0 {Q : Flow → Shared → Prop} {f : Addr} {cd : Value} {L l : Addr} {o1 : Obj} {v1 : Option Value} {vals : List Value} {ns : List Int} {m : Str → Option Value} {led : List (Addr × Obj)}
   (G : Gr H c P mg mb) (D : Env1 H c mg fK fR fL) (hh : A.handled = none) (hroom : A.depth + 5 < recursionLimit)
   (F : Fr H L s.heap m) (hm : m (Str.ofString "script") = some (.ref l)) (N : News H L s.heap (led ++ [(L + 1, o1)])) (hap : ∀ p ∈ led, p.1 ≠ L + 1) (ho1 : o1.data = .cell v1) (hl : H.IsList l vals.toArray) (hI : IntsAre vals ns)
   (hQ : ∀ s' o1' t, Fr H L s'.heap m → News H L s'.heap (led ++ [(L + 1, o1')]) → o1'.data = .cell (some (.str (txt (rowF ns.sum)) t)) → s'.gens = s.gens → s'.os = s.os → Q .next s') :
    wpAny (model prog w) A (exec (match dW.body with | x :: _ => x | _ => .Pass default) (envOfC dW.name dW.scope L f cd)) Q (fun _ _ => False) s := by
  unfold dW dAt PySem.Challenge.pw_dm0045_01
  dsimp only [List.getElem?_cons_succ, List.getElem?_cons_zero]
  have GL := G.glob
  obtain ⟨oR, pmR, cdR, docR, hoR, hdR, _⟩ := id D.row
  walk1
  walk1
  refine gl_fnC F GL D.gr ?_
  refine callWith_def hdR ?_
  walk1
  walk1
  walk1
  walk1
  walk1
  refine ldLoc F hm ?_
  walk1
  refine sum_any hh (F.lst hl) hI fun h₁ tk₁ t₁ hk₁ => ?_
  have F₁ := F.keeps hk₁
  have N₁ := N.grown hk₁
  clear F N
  walk1
  have Bs₁ : Bs H c P h₁ := bs_of G G.start Same.rfl F₁
  refine row_call G D.row Bs₁ hh hroom fun s₂ t₂ ⟨h₂, tk₂, e₂, hk₂⟩ _ => ?_
  subst e₂
  have F₂ := F₁.keeps hk₂
  have N₂ := N₁.grown hk₂
  refine stCN (c := L + 1) (own := led) (rest := []) F₂ N₂ rfl ho1 hap (fun p hp => nomatch hp) (fun h₃ o3 F₃ N₃ hd₃ => ?_)
  exact hQ _ o3 t₂ F₃ N₃ hd₃ rfl rfl

theorem segA1 {Q : Flow → Shared → Prop} {f : Addr} {cd : Value} {L l : Addr} {vals : List Value} {ns : List Int} {m : Str → Option Value} {led : List (Addr × Obj)}
   (G : Gr H c P mg mb) (D : Env1 H c mg fK fR fL) (hh : A.handled = none) (hroom : A.depth + 5 < recursionLimit)
   (F : Fr H L s.heap m) (hm : m (Str.ofString "script") = some (.ref l)) (N : News H L s.heap led) (hl : H.IsList l vals.toArray) (hI : IntsAre vals ns) (hn : ns.length ≤ 63)
   (hQ : ∀ s' lr vr, Fr H L s'.heap (fun z => if z = Str.ofString "rows" then some (.ref lr) else m z) → News H L s'.heap led → H.get? lr = none → (∀ q ∈ led, q.1 ≠ lr) → s'.heap.IsList lr (List.toArray vr) → StrsAre vr ((ns.map rowF).map txt) → s'.gens = s.gens → s'.os = s.os → Q .next s') :
    wpAny (model prog w) A (exec (match dW.body.drop 1 with | x :: _ => x | _ => .Pass default) (envOfC dW.name dW.scope L f cd)) Q (fun _ _ => False) s := by
  unfold dW dAt PySem.Challenge.pw_dm0045_01
  dsimp only [List.getElem?_cons_succ, List.getElem?_cons_zero, List.drop_succ_cons, List.drop_zero]
  obtain ⟨oR, pmR, cdR, docR, hoR, hdR, _⟩ := id D.row
  refine assign_listN rfl F N (F.lst hl) hI.areOf (Nat.le_trans hn (by decide)) (fun _ => true) (fun a => PyData.str (txt (rowF a))) (fun R hR => ldLoc F hm hR) ?_ ?_ ?_ hh
  · intro C a v s₂ m₂ E' ha hv hns hm₂ hk
    exact no_tests
  · intro C a v s₂ m₂ E' ha hv _ hns hm₂ hk
    obtain ⟨tv, rfl⟩ := hv
    have hle : H.objs.size ≤ s₂.heap.objs.size := by
      obtain ⟨o, _, _, ho, _⟩ := F.ns
      exact Nat.le_of_lt (Nat.lt_of_le_of_lt F.above (Heap.lt_size (hk _ _ ho)))
    have Bs₂ : Bs H c P s₂.heap := G.start.keeps G hle fun b o e => hk b o (F.keep b o e)
    have GL₂ := Bs₂.glob G
    clear F N
    walk1
    refine gl_fnK GL₂ D.gr ?_
    refine callWith_def hdR ?_
    walk1
    refine ldVarK hns hm₂ ?_
    walk1
    refine ⟨Bs₂.get G hoR (fun vs => by rw [hdR]; nofun), ?_⟩
    refine row_call G D.row Bs₂ hh hroom fun s₃ t₃ hk₃ _ => ⟨.str _ _, hk₃⟩
  · intro D' ys h' tk F' N' hD hl' hpl hC
    have hS := CarriedAll.strsOf hC
    rw [List.filter_eq_self.mpr (fun _ _ => rfl)] at hS
    refine hQ _ D' ys F' N' hD hpl.2 hl' ?_ rfl rfl
    rw [List.map_map]
    exact hS
end
end Mine

namespace Mine
def rowsF (ns : List Int) : List (List Nat) := (if ns.length % 2 = 0 then [[9, 97, 11, 32], [11, 9]] else []) ++ ns.map rowF
abbrev mapA (rest : Str → Option Value) (l lr : Addr) (z : Str) : Option Value :=
  if z = Str.ofString "rows" then some (.ref lr) else if z = Str.ofString "script" then some (.ref l) else rest z

section
variable {prog : Program} {w : World} {A : Around} {s : Shared} {H : Heap} {c P fK fR fL : Addr} {mg mb : Str → Option Value}

theorem segA2 {Q : Flow → Shared → Prop} {f : Addr} {cd : Value} {L l lr : Addr} {vals vr : List Value} {ns : List Int} {rest : Str → Option Value} {led : List (Addr × Obj)} {olr : Obj}
   (G : Gr H c P mg mb) (hh : A.handled = none)
   (F : Fr H L s.heap (mapA rest l lr)) (N : News H L s.heap ((lr, olr) :: led)) (hlr : ∀ h' : Heap, h'.get? lr = some olr → h'.IsList lr vr.toArray) (hS : StrsAre vr ((ns.map rowF).map txt)) (hl : H.IsList l vals.toArray) (hI : IntsAre vals ns) (hn : ns.length ≤ 63)
   (hQ : ∀ s' lr' olr' vr', Fr H L s'.heap (mapA rest l lr') → News H L s'.heap ((lr', olr') :: led) → (∀ h' : Heap, h'.get? lr' = some olr' → h'.IsList lr' (List.toArray vr')) → (lr' = lr ∨ s.heap.objs.size ≤ lr') → StrsAre vr' ((rowsF ns).map txt) → s'.gens = s.gens → s'.os = s.os → Q .next s') :
    wpAny (model prog w) A (exec (match dW.body.drop 2 with | x :: _ => x | _ => .Pass default) (envOfC dW.name dW.scope L f cd)) Q (fun _ _ => False) s := by
  unfold dW dAt PySem.Challenge.pw_dm0045_01
  dsimp only [List.getElem?_cons_succ, List.getElem?_cons_zero, List.drop_succ_cons, List.drop_zero, List.drop]
  have GL := G.glob
  have hvl : vals.length ≤ 63 := by rw [hI.length]; exact hn
  have em : ((vals.toArray.size : Nat) : Int).fmod 2 = (ns.length : Int) % 2 := by rw [List.size_toArray, hI.length]; exact Int.fmod_eq_emod_of_nonneg _ (by decide)
  have evl : ((vals.toArray.size : Nat) : Int) = (ns.length : Int) := by rw [List.size_toArray, hI.length]
  repeat' walk1
  · rename_i hc h₂ F₂ N₂
    refine add_lists F₂ N₂ (vs := [Value.str (Str.ofString "\ta\x0b ") _, Value.str (Str.ofString "\x0b\t") _]) (ws := vr) (News.isList N₂ (.head _)) (hlr _ (N₂.get (.tail _ (.head _)))) (fun h₃ F₃ N₃ => ?_) ?_
    · have N₄ : News H L h₃ ((h₂.objs.size, _) :: led) := fun q hq => N₃ q (by
        rcases List.mem_cons.mp hq with rfl | hq
        · exact .head _
        · exact .tail _ (.tail _ (.tail _ hq)))
      refine stLocN F₃ N₄ (fun h₅ F₅ N₅ => ?_)
      have hfr : s.heap.objs.size < h₂.objs.size := Heap.lt_size (N₂ _ (.head _)).1
      clear F N F₂ N₂ F₃ N₃ N₄
      repeat' walk1
      have ev : ns.length % 2 = 0 := by
        rw [em] at hc
        omega
      refine hQ _ _ _ (_ ++ vr) (fr_is F₅ fun z => ?_) N₅ (fun h' e => ⟨_, e, rfl, _, rfl⟩) (.inr ?_) ?_ rfl rfl
      · by_cases h1 : z = Str.ofString "rows"
        · subst h1; rfl
        · simp [h1, mapA]
      · exact Nat.le_of_lt hfr
      · unfold rowsF
        rw [if_pos ev, List.map_append]
        exact StrsAre.append' (.cons _ _ (.cons _ _ .nil)) hS
    · rw [hS.length]
      simp
      exact Nat.le_trans (Nat.add_le_add_left hn 2) (by decide)
  · rename_i hc
    have ev : ¬ ns.length % 2 = 0 := by
      rw [em] at hc
      simp at hc
      omega
    refine hQ _ lr olr vr F N hlr (.inl rfl) ?_ rfl rfl
    unfold rowsF
    rw [if_neg ev]
    exact hS

theorem segA3 {Q : Flow → Shared → Prop} {f : Addr} {cd : Value} {L : Addr} {m : Str → Option Value} {led : List (Addr × Obj)} {o1 : Obj} {x : Str} {t : Tok}
   (F : Fr H L s.heap m) (N : News H L s.heap led) (hm : (L + 1, o1) ∈ led) (ho1 : o1.data = .cell (some (.str x t)))
   (hQ : ∀ s', Fr H L s'.heap (fun z => if z = Str.ofString "laid" then some (.str x t) else m z) → News H L s'.heap led → s'.gens = s.gens → s'.os = s.os → Q .next s') :
    wpAny (model prog w) A (exec (match dW.body.drop 3 with | x :: _ => x | _ => .Pass default) (envOfC dW.name dW.scope L f cd)) Q (fun _ _ => False) s := by
  unfold dW dAt PySem.Challenge.pw_dm0045_01
  dsimp only [List.getElem?_cons_succ, List.getElem?_cons_zero, List.drop_succ_cons, List.drop_zero, List.drop]
  walk1
  refine ldCN N (c := L + 1) rfl hm ho1 ?_
  refine stLocN F N (fun h₅ F₅ N₅ => ?_)
  exact hQ _ F₅ N₅ rfl rfl
end
end Mine

namespace Mine
abbrev mapR (rest : Str → Option Value) (lr : Addr) (k : Nat) (u : Tok) (x : Str) (v : Tok) (z : Str) : Option Value :=
  if z = Str.ofString "k" then some (.int (k : Int) u) else if z = Str.ofString "laid" then some (.str x v) else if z = Str.ofString "rows" then some (.ref lr) else rest z
theorem len_txt (l : List Nat) : (txt l).length = l.length := by show (List.toArray l).size = _; simp
theorem size_txt (l : List Nat) : (txt l).cps.size = l.length := by show (List.toArray l).size = _; simp

section
variable {prog : Program} {w : World} {A : Around} {s : Shared} {H : Heap} {c P fK fR fL : Addr} {mg mb : Str → Option Value}

theorem turnB {Q : Flow → Shared → Prop} {f : Addr} {cd : Value} {L lr I : Addr} {h₀ : Heap} {laid tags : List Nat} {rows : List (List Nat)} {vr : List Value} {u v t1 : Tok} {k : Nat} {rest : Str → Option Value} {o1 o2 o3 olr oI : Obj}
   (G : Gr H c P mg mb) (D : Env1 H c mg fK fR fL) (hh : A.handled = none) (hroom : A.depth + 5 < recursionLimit) (hun : A.units + 100 < cLine)
   (B₀ : Bs H c P h₀) (hz : Same H h₀) (hb : AllBare s.gens)
   (F : Fr h₀ L s.heap (mapR rest lr k u (txt laid) v))
   (N : News h₀ L s.heap [(lr, olr), (L + 1 + 1 + 1, o3), (L + 1 + 1, o2), (L + 1, o1), (I, oI)]) (ha : ∀ q ∈ [(lr, olr), (L + 1 + 1 + 1, o3), (L + 1 + 1, o2), (L + 1, o1), (I, oI)], H.get? q.1 = none)
   (ho1 : o1.data = .cell (some (.str (txt tags) t1))) (hlr : ∀ h' : Heap, h'.get? lr = some olr → h'.IsList lr vr.toArray) (hS : StrsAre vr (rows.map txt))
   (hk : k < rows.length) (hn : rows.length ≤ 100) (ht : tags.length ≤ 1000) (hla : ∀ a ∈ laid, a < 128) (hll : laid.length ≤ 1000) (hw : ∀ r ∈ rows, r.length ≤ 1000) (hwa : ∀ r ∈ rows, ∀ a ∈ r, a < 128)
   (heq : List.zipWith keepC (rows.getD k []) laid = laidF tags (rows.take (k + 1)))
   (hQ : ∀ s' h₀' rest' v', Bs H c P h₀' → Same H h₀' → AllBare s'.gens → s'.os = s.os → Fr h₀' L s'.heap (mapR rest' lr k u (txt (List.zipWith keepC (rows.getD k []) laid)) v') →
      News h₀' L s'.heap [(lr, olr), (L + 1 + 1 + 1, o3), (L + 1 + 1, o2), (L + 1, o1), (I, oI)] → Q .next s') :
    wpAny (model prog w) A (execs (match dW.body.drop 4 with | (.For _ _ b _ _) :: _ => b | _ => []) (envOfC dW.name dW.scope L f cd)) Q (fun _ _ => False) s := by
  unfold dW dAt PySem.Challenge.pw_dm0045_01
  dsimp only [List.getElem?_cons_succ, List.getElem?_cons_zero, List.drop_succ_cons, List.drop_zero, List.drop]
  have GL := B₀.glob G
  obtain ⟨oK, pmK, docK, hoK, hdK⟩ := D.keep.there
  obtain ⟨oL, pmL, cdL, docL, hoL, hdL, _⟩ := id D.laid
  have hmem : rows.getD k [] ∈ rows := by rw [List.getD_eq_getElem?_getD, List.getElem?_eq_getElem hk]; exact List.getElem_mem hk
  walk1
  walk1
  walk1
  refine gl_fnC F GL D.gk ?_
  refine callWith_def hdK ?_
  iterate 4 walk1
  refine item_strsA (hlr _ (N _ (.head _)).1) hS (by omega) (by rw [List.length_map]; omega) (by omega) fun t₂ => ?_
  have e0 : (rows.map txt).getD (k : Int).toNat Str.empty = txt (rows.getD k []) := by
    rw [Int.toNat_natCast, List.getD_eq_getElem?_getD, List.getElem?_map, List.getD_eq_getElem?_getD, List.getElem?_eq_getElem hk]; rfl
  rw [e0]
  iterate 3 walk1
  have Bs₁ : Bs H c P s.heap := bs_of G B₀ hz F
  refine ⟨Bs₁.get G hoK (fun vs => by rw [hdK]; nofun), ?_⟩
  refine keep_text_text G D.keep Bs₁ hh hroom hb (all_ascii (hwa _ hmem)) (all_ascii hla) (by rw [size_txt, size_txt]; exact Nat.le_trans (Nat.min_le_right _ _) (Nat.le_trans hll (by decide))) fun s₂ t₃ B₂ hb₂ hos₂ hk₂ => ?_
  obtain ⟨h₁, B₁, hz₁, F₁, N₁⟩ := rebase G hz F N ha B₂ hk₂
  clear F N GL
  have GL := B₁.glob G
  refine stLocN F₁ N₁ (fun h₃ F₃ N₃ => ?_)
  clear F₁ N₁
  have ez : (⟨(List.zipWith keepC (txt (rows.getD k [])).cps.toList (txt laid).cps.toList).toArray⟩ : Str) = txt (List.zipWith keepC (rows.getD k []) laid) := rfl
  rw [ez] at F₃
  iterate 5 walk1
  refine gl_fnC F₃ GL D.gl ?_
  refine callWith_def hdL ?_
  repeat' walk1
  rename_i N₃
  refine slice_list3 F₃ N₃ (hlr _ (N₃ _ (.head _)).1) .none (.int _ _) .none nofun (fun h₄ F₄ N₄ => ?_) (hsz := by rw [List.size_toArray, hS.length, List.length_map]; exact Nat.le_trans hn (by decide))
  have ek : (k : Int) + 1 = ((k + 1 : Nat) : Int) := by omega
  rw [ek, slicePick_upto'] at N₄
  walk1
  have Bs₄ : Bs H c P h₄ := bs_of G B₁ hz₁ F₄
  refine ⟨Bs₄.get G hoL (fun vs => by rw [hdL]; nofun), ?_⟩
  have hS' : StrsAre (vr.take (k + 1)) ((rows.take (k + 1)).map txt) := by rw [List.map_take]; exact hS.take' (k + 1)
  refine laid_call G D.laid Bs₄ hh hroom hun (vr := vr.take (k + 1)) (rows := rows.take (k + 1)) (News.isList N₄ (.head _)) hS' (Nat.le_trans (List.length_take_le _ _) (by omega)) ht (fun r hr => hw r (List.mem_of_mem_take hr)) (fun r hr => hwa r (List.mem_of_mem_take hr)) fun s₅ t₅ hk₅ _ hg₅ hos₅ => ?_
  have F₅ := F₄.keeps hk₅
  have N₅ : News h₁ L s₅.heap [(lr, olr), (L + 1 + 1 + 1, o3), (L + 1 + 1, o2), (L + 1, o1), (I, oI)] := fun q hq => (N₄.grown hk₅) q (List.mem_cons_of_mem _ hq)
  clear F₃ N₃ F₄ N₄
  rw [heq]
  walk1
  walk1
  walk1
  · rename_i hne
    simp at hne
  · repeat' walk1
    refine hQ _ h₁ rest t₃ B₁ hz₁ (by rw [hg₅]; exact hb₂) (hos₅.trans hos₂) (fr_is F₅ fun z => ?_) N₅
    by_cases h1 : z = Str.ofString "k"
    · subst h1; rfl
    · by_cases h2 : z = Str.ofString "laid"
      · subst h2; rfl
      · simp [h1, h2, mapR]
end
end Mine

namespace Mine
abbrev mapQ (rest : Str → Option Value) (lr : Addr) (x : Str) (v : Tok) (z : Str) : Option Value :=
  if z = Str.ofString "laid" then some (.str x v) else if z = Str.ofString "rows" then some (.ref lr) else rest z
def foldK (tags : List Nat) (rows : List (List Nat)) : List Nat := rows.foldl (fun l r => List.zipWith keepC r l) tags

section
variable {prog : Program} {w : World} {A : Around} {s : Shared} {H : Heap} {c P fK fR fL : Addr} {mg mb : Str → Option Value}

theorem segB {Q : Flow → Shared → Prop} {f : Addr} {cd : Value} {L lr : Addr} {h₀ : Heap} {tags : List Nat} {rows : List (List Nat)} {vr : List Value} {v t1 : Tok} {rest : Str → Option Value} {o1 o2 o3 olr : Obj}
   (G : Gr H c P mg mb) (D : Env1 H c mg fK fR fL) (hh : A.handled = none) (hroom : A.depth + 5 < recursionLimit) (hun : A.units + 100 < cLine)
   (B₀ : Bs H c P h₀) (hz : Same H h₀) (hb : AllBare s.gens)
   (F : Fr h₀ L s.heap (mapQ rest lr (txt tags) v))
   (N : News h₀ L s.heap [(lr, olr), (L + 1 + 1 + 1, o3), (L + 1 + 1, o2), (L + 1, o1)]) (ha : ∀ q ∈ [(lr, olr), (L + 1 + 1 + 1, o3), (L + 1 + 1, o2), (L + 1, o1)], H.get? q.1 = none)
   (ho1 : o1.data = .cell (some (.str (txt tags) t1))) (hlr : ∀ h' : Heap, h'.get? lr = some olr → h'.IsList lr vr.toArray) (hS : StrsAre vr (rows.map txt))
   (hn : rows.length ≤ 100) (ht : tags.length ≤ 1000) (hfa : ∀ k, ∀ a ∈ foldK tags (rows.take k), a < 128) (hfl : ∀ k, (foldK tags (rows.take k)).length ≤ 1000) (hw : ∀ r ∈ rows, r.length ≤ 1000) (hwa : ∀ r ∈ rows, ∀ a ∈ r, a < 128)
   (heq : ∀ k, k < rows.length → List.zipWith keepC (rows.getD k []) (foldK tags (rows.take k)) = laidF tags (rows.take (k + 1)))
   (hQ : ∀ s' h₀' m', Bs H c P h₀' → Same H h₀' → AllBare s'.gens → s'.os = s.os → Fr h₀' L s'.heap m' → m' (Str.ofString "rows") = some (.ref lr) →
      News h₀' L s'.heap [(lr, olr), (L + 1 + 1 + 1, o3), (L + 1 + 1, o2), (L + 1, o1)] → Q .next s') :
    wpAny (model prog w) A (exec (match dW.body.drop 4 with | x :: _ => x | _ => .Pass default) (envOfC dW.name dW.scope L f cd)) Q (fun _ _ => False) s := by
  have turn := @turnB prog w A
  unfold dW dAt PySem.Challenge.pw_dm0045_01 at turn ⊢
  dsimp only [List.getElem?_cons_succ, List.getElem?_cons_zero, List.drop_succ_cons, List.drop_zero, List.drop] at turn ⊢
  have GL := B₀.glob G
  have hvl : ((vr.toArray.size : Nat) : Int) = (rows.length : Int) := by rw [List.size_toArray, hS.length, List.length_map]
  refine wpAny_For ?_ (fun _ => rfl)
  iterate 10 walk1
  refine len_list (hlr _ (N _ (.head _)).1) (by rw [hvl]; omega) ?_
  rw [hvl]
  walk1
  refine range_iter (n := rows.length) (by omega) fun h₄ tk₄ I hI hIle hk₄ => ?_
  have hLI : L < I := Nat.lt_of_lt_of_le F.ns.lt hIle
  have hqI : ∀ q ∈ [(lr, olr), (L + 1 + 1 + 1, o3), (L + 1 + 1, o2), (L + 1, o1)], q.1 < I := fun q hq => Nat.lt_of_lt_of_le (Heap.lt_size (N q hq).1) hIle
  have hLH : H.objs.size ≤ L := hz.size ▸ F.above
  have hqL : ∀ q ∈ [(lr, olr), (L + 1 + 1 + 1, o3), (L + 1 + 1, o2), (L + 1, o1)], q.1 ≠ L := fun q hq => (N q hq).2.1
  refine loop_rule (m := mapQ rest lr (txt tags) v) (Walks.range hh I 0 1 rows.length) rfl rfl ?_ (by simpa using hI) (F.ns.keeps hk₄)
    (fun i m s' => ∃ h₀' rest' v', Bs H c P h₀' ∧ Same H h₀' ∧ AllBare s'.gens ∧ s'.os = s.os ∧ (∀ z, z ≠ Str.ofString "k" → m z = mapQ rest' lr (txt (foldK tags (rows.take i))) v' z) ∧
      (∀ b o, h₀'.get? b = some o → s'.heap.get? b = some o) ∧ ∀ q ∈ [(lr, olr), (L + 1 + 1 + 1, o3), (L + 1 + 1, o2), (L + 1, o1)], s'.heap.get? q.1 = some q.2) ?_ ?_ ?_ ?_
  · exact fun hm => absurd (List.mem_singleton.mp hm) (Nat.ne_of_lt hLI)
  · exact ⟨h₀, rest, v, B₀, hz, hb, rfl, fun z _ => rfl, fun b o e => hk₄ b o (F.keep b o e), fun q hq => hk₄ _ _ (N q hq).1⟩
  · rintro i m s' h' tk m' ⟨h₀', rest', v', B', hz', hb', hos', hm, hk, hled⟩ _ hkeep
    refine ⟨h₀', rest', v', B', hz', hb', hos', hm, fun b o e => ?_, fun q hq => hkeep _ _ (fun hm => absurd (List.mem_singleton.mp hm) (Nat.ne_of_lt (hqI q hq))) (hqL q hq) (hled q hq)⟩
    have hbH : b < H.objs.size := hz'.size ▸ Heap.lt_size e
    exact hkeep b o (fun hm => absurd (List.mem_singleton.mp hm) (Nat.ne_of_lt (Nat.lt_trans (Nat.lt_of_lt_of_le hbH hLH) hLI))) (Nat.ne_of_lt (Nat.lt_of_lt_of_le hbH hLH)) (hk b o e)
  · rintro i vi m₁ s' Q' hi ⟨tv, rfl⟩ ⟨h₀', rest', v', B', hz', hb', hos', hm, hk, hled⟩ hit hns hQ'
    have ev : (0 : Int) + (i : Int) * 1 = (i : Int) := by omega
    rw [ev] at hns
    obtain ⟨oI, hoI, hIk⟩ : ∃ oI, s'.heap.get? I = some oI ∧ ∀ h' : Heap, h'.get? I = some oI → IsRangeIter h' I (0 + ((i + 1 : Nat) : Int) * 1) ((rows.length : Int) - ((i + 1 : Nat) : Int)) 1 := ⟨_, hit, fun h' e => e⟩
    have F' : Fr h₀' L s'.heap (mapR rest' lr i tv (txt (foldK tags (rows.take i))) v') := fr_is ⟨hns, hk, hz'.size ▸ hLH⟩ fun z => by
      by_cases h1 : z = Str.ofString "k"
      · rw [if_pos h1]; unfold mapR; rw [if_pos h1]
      · rw [if_neg h1]; unfold mapR; rw [if_neg h1]; exact hm z h1
    have ha' : ∀ q ∈ [(lr, olr), (L + 1 + 1 + 1, o3), (L + 1 + 1, o2), (L + 1, o1), (I, oI)], H.get? q.1 = none := fun q hq => by
      rcases List.mem_append.mp (show q ∈ [(lr, olr), (L + 1 + 1 + 1, o3), (L + 1 + 1, o2), (L + 1, o1)] ++ [(I, oI)] from hq) with hq | hq
      · exact ha q hq
      · rw [List.mem_singleton.mp hq]; exact Heap.get?_none_of_le (Nat.le_of_lt (Nat.lt_of_le_of_lt hLH hLI))
    have N' : News h₀' L s'.heap [(lr, olr), (L + 1 + 1 + 1, o3), (L + 1 + 1, o2), (L + 1, o1), (I, oI)] := news_same hz' fun q hq => by
      refine ⟨ha' q hq, ?_⟩
      rcases List.mem_append.mp (show q ∈ [(lr, olr), (L + 1 + 1 + 1, o3), (L + 1 + 1, o2), (L + 1, o1)] ++ [(I, oI)] from hq) with hq | hq
      · exact ⟨hqL q hq, hled q hq⟩
      · rw [List.mem_singleton.mp hq]; exact ⟨Nat.ne_of_gt hLI, hoI⟩
    refine turn G D hh hroom hun B' hz' hb' F' N' ha' ho1 hlr hS hi hn ht (hfa i) (hfl i) hw hwa (heq i hi) fun s₅ h₅ rest₅ v₅ B₅ hz₅ hb₅ hos₅ F₅ N₅ => ?_
    have ef : List.zipWith keepC (rows.getD i []) (foldK tags (rows.take i)) = foldK tags (rows.take (i + 1)) := by
      have e1 : rows.take (i + 1) = rows.take i ++ [rows.getD i []] := by
        rw [List.take_add_one, List.getD_eq_getElem?_getD, List.getElem?_eq_getElem hi]; rfl
      rw [e1]
      unfold foldK
      rw [List.foldl_append]
      rfl
    rw [ef] at F₅
    refine hQ' s₅ _ (hIk _ (N₅ _ (.tail _ (.tail _ (.tail _ (.tail _ (.head _)))))).1) F₅.ns ⟨h₅, rest₅, v₅, B₅, hz₅, hb₅, hos₅.trans hos', fun z hz => ?_, F₅.keep, fun q hq => (N₅ q (List.mem_append_left [(I, oI)] hq)).1⟩
    show mapR rest₅ lr i tv (txt (foldK tags (rows.take (i + 1)))) v₅ z = _
    unfold mapR
    rw [if_neg hz]
  · rintro s' m' hn' ⟨h₀', rest', v', B', hz', hb', hos', hm, hk, hled⟩
    dsimp only
    refine hQ s' h₀' m' B' hz' hb' hos' ⟨hn', hk, hz'.size ▸ hLH⟩ ((hm _ (by decide)).trans rfl) (news_same hz' fun q hq => ⟨ha q hq, hqL q hq, hled q hq⟩)
end
end Mine

namespace Mine
abbrev mapK (rest : Str → Option Value) (lr : Addr) (k : Nat) (u : Tok) (z : Str) : Option Value :=
  if z = Str.ofString "k" then some (.int (k : Int) u) else if z = Str.ofString "rows" then some (.ref lr) else rest z
abbrev mapJ (rest : Str → Option Value) (x y : Str) (v1 v2 : Tok) (z : Str) : Option Value :=
  if z = Str.ofString "joined" then some (.str y v2) else if z = Str.ofString "one_by_one" then some (.str x v1) else rest z
def bodyC : List Stmt := match dW.body.drop 5 with | (.For _ _ b _ _) :: _ => b | _ => []

theorem zip_ascii {xs ys : List Nat} (h1 : ∀ a ∈ xs, a < 128) (h2 : ∀ a ∈ ys, a < 128) : ∀ a ∈ List.zipWith keepC xs ys, a < 128 := by
  intro a ha
  obtain ⟨i, hi, rfl⟩ := List.getElem_of_mem ha
  rw [List.getElem_zipWith]
  simp at hi
  have e : ∀ a b, keepC a b = a ∨ keepC a b = b := fun a b => by
    unfold keepC
    split
    · first | exact .inl rfl | (split <;> simp)
    · exact .inr rfl
  rcases e (xs[i]'(by omega)) (ys[i]'(by omega)) with h | h
  · rw [h]; exact h1 _ (List.getElem_mem _)
  · rw [h]; exact h2 _ (List.getElem_mem _)

section
variable {prog : Program} {w : World} {A : Around} {s : Shared} {H : Heap} {c P fK fR fL : Addr} {mg mb : Str → Option Value}

theorem turnC1 {Q : Flow → Shared → Prop} {f : Addr} {cd : Value} {L lr I : Addr} {h₀ : Heap} {tags : List Nat} {rows : List (List Nat)} {vr : List Value} {u t1 : Tok} {k : Nat} {rest : Str → Option Value} {o1 o2 o3 olr oI : Obj} {w2 w3 : Option Value}
   (G : Gr H c P mg mb) (D : Env1 H c mg fK fR fL) (hh : A.handled = none) (hroom : A.depth + 5 < recursionLimit)
   (B₀ : Bs H c P h₀) (hz : Same H h₀) (hb : AllBare s.gens)
   (F : Fr h₀ L s.heap (mapK rest lr (k + 1) u))
   (N : News h₀ L s.heap [(lr, olr), (L + 1 + 1 + 1, o3), (L + 1 + 1, o2), (L + 1, o1), (I, oI)]) (hla : H.get? lr = none) (hIa : H.get? I = none) (hl2 : lr ≠ L + 1 + 1) (hl3 : lr ≠ L + 1 + 1 + 1) (hi2 : I ≠ L + 1 + 1) (hi3 : I ≠ L + 1 + 1 + 1)
   (ho1 : o1.data = .cell (some (.str (txt tags) t1))) (ho2 : o2.data = .cell w2) (ho3 : o3.data = .cell w3) (hlr : ∀ h' : Heap, h'.get? lr = some olr → h'.IsList lr vr.toArray) (hS : StrsAre vr (rows.map txt))
   (hk : k + 1 < rows.length) (hn : rows.length ≤ 100) (ht : tags.length ≤ 1000) (hta : ∀ a ∈ tags, a < 128) (hw : ∀ r ∈ rows, r.length ≤ 1000) (hwa : ∀ r ∈ rows, ∀ a ∈ r, a < 128)
   (hQ : ∀ s' h₀' o2' o3' t2 t3 v1 v2, Bs H c P h₀' → Same H h₀' → AllBare s'.gens → s'.os = s.os →
      Fr h₀' L s'.heap (mapJ (mapK rest lr (k + 1) u) (txt (List.zipWith keepC (rows.getD (k + 1) []) (List.zipWith keepC (rows.getD k []) tags))) (txt (List.zipWith keepC (List.zipWith keepC (rows.getD (k + 1) []) (rows.getD k [])) tags)) v1 v2) →
      News h₀' L s'.heap [(lr, olr), (L + 1 + 1 + 1, o3'), (L + 1 + 1, o2'), (L + 1, o1), (I, oI)] → o2'.data = .cell (some (.str (txt (rows.getD k [])) t2)) → o3'.data = .cell (some (.str (txt (rows.getD (k + 1) [])) t3)) →
      wpAny (model prog w) A (execs (bodyC.drop 4) (envOfC dW.name dW.scope L f cd)) Q (fun _ _ => False) s') :
    wpAny (model prog w) A (execs bodyC (envOfC dW.name dW.scope L f cd)) Q (fun _ _ => False) s := by
  unfold bodyC dW dAt PySem.Challenge.pw_dm0045_01 at hQ ⊢
  dsimp only [List.getElem?_cons_succ, List.getElem?_cons_zero, List.drop_succ_cons, List.drop_zero, List.drop] at hQ ⊢
  have GL := B₀.glob G
  obtain ⟨oK, pmK, docK, hoK, hdK⟩ := D.keep.there
  have hk0 : k < rows.length := by omega
  have hm0 : rows.getD k [] ∈ rows := by rw [List.getD_eq_getElem?_getD, List.getElem?_eq_getElem hk0]; exact List.getElem_mem hk0
  have hm1 : rows.getD (k + 1) [] ∈ rows := by rw [List.getD_eq_getElem?_getD, List.getElem?_eq_getElem hk]; exact List.getElem_mem hk
  have eg : ∀ i, i < rows.length → (rows.map txt).getD i Str.empty = txt (rows.getD i []) := fun i hi => by
    rw [List.getD_eq_getElem?_getD, List.getElem?_map, List.getD_eq_getElem?_getD, List.getElem?_eq_getElem hi]; rfl
  have hLH : H.objs.size ≤ L := hz.size ▸ F.above
  iterate 8 walk1
  refine item_strsA (hlr _ (N _ (.head _)).1) hS (by omega) (by rw [List.length_map]; omega) (by omega) fun t₂ => ?_
  rw [show (((k + 1 : Nat) : Int) - 1).toNat = k by omega, eg k hk0]
  refine stCN (c := L + 1 + 1) (own := [(lr, olr), (L + 1 + 1 + 1, o3)]) (rest := [(L + 1, o1), (I, oI)]) F N rfl ho2 (by simp [hl2]) (by simp [hi2]) (fun h₁ o2' F₁ N₁ ho2' => ?_)
  clear F N
  iterate 5 walk1
  refine item_strsA (hlr _ (N₁ _ (.head _)).1) hS (by omega) (by rw [List.length_map]; omega) (by omega) fun t₃ => ?_
  rw [Int.toNat_natCast, eg (k + 1) hk]
  refine stCN (c := L + 1 + 1 + 1) (own := [(lr, olr)]) (rest := [(L + 1 + 1, o2'), (L + 1, o1), (I, oI)]) F₁ N₁ rfl ho3 (by simp [hl3]) (by simp [hi3]) (fun h₂ o3' F₂ N₂ ho3' => ?_)
  clear F₁ N₁
  have ha : ∀ q ∈ [(lr, olr), (L + 1 + 1 + 1, o3'), (L + 1 + 1, o2'), (L + 1, o1), (I, oI)], H.get? q.1 = none := by
    have e1 : H.objs.size ≤ L + 1 := Nat.le_succ_of_le hLH
    have e2 : H.objs.size ≤ L + 1 + 1 := Nat.le_succ_of_le e1
    have e3 : H.objs.size ≤ L + 1 + 1 + 1 := Nat.le_succ_of_le e2
    simp only [List.mem_cons, List.not_mem_nil, or_false, forall_eq_or_imp, forall_eq]
    exact ⟨hla, Heap.get?_none_of_le e3, Heap.get?_none_of_le e2, Heap.get?_none_of_le e1, hIa⟩
  iterate 3 walk1
  refine gl_fnC F₂ GL D.gk ?_
  refine callWith_def hdK ?_
  iterate 4 walk1
  refine gl_fnC F₂ GL D.gk ?_
  refine callWith_def hdK ?_
  iterate 5 walk1
  rename News _ _ _ _ => N₂
  have Bs₂ : Bs H c P h₂ := bs_of G B₀ hz F₂
  refine ⟨Bs₂.get G hoK (fun vs => by rw [hdK]; nofun), ?_⟩
  have bnd : ∀ (x y : List Nat), x.length ≤ 1000 → min (txt x).cps.size (txt y).cps.size ≤ 100000 := fun x y h => by rw [size_txt, size_txt]; exact Nat.le_trans (Nat.min_le_left _ _) (Nat.le_trans h (by decide))
  refine keep_text_text G D.keep Bs₂ hh hroom (by exact hb) (all_ascii (hwa _ hm0)) (all_ascii hta) (bnd _ _ (hw _ hm0)) fun s₃ t₄ B₃ hb₃ hos₃ hk₃ => ?_
  obtain ⟨h₃, B₃', hz₃, F₃, N₃⟩ := rebase G hz F₂ N₂ ha B₃ hk₃
  clear F₂ N₂ GL
  have GL := B₃'.glob G
  walk1
  refine ⟨B₃.get G hoK (fun vs => by rw [hdK]; nofun), ?_⟩
  refine keep_text_text (x := txt (rows.getD (k + 1) [])) (y := txt (List.zipWith keepC (rows.getD k []) tags)) G D.keep B₃ hh hroom hb₃ (all_ascii (hwa _ hm1)) (all_ascii (zip_ascii (hwa _ hm0) hta)) (bnd _ _ (hw _ hm1)) fun s₄ t₅ B₄ hb₄ hos₄ hk₄ => ?_
  obtain ⟨h₄, B₄', hz₄, F₄, N₄⟩ := rebase G hz₃ F₃ N₃ ha B₄ hk₄
  clear F₃ N₃ GL
  have GL := B₄'.glob G
  refine stLocN F₄ N₄ (fun h₅ F₅ N₅ => ?_)
  clear F₄ N₄
  iterate 3 walk1
  refine gl_fnC F₅ GL D.gk ?_
  refine callWith_def hdK ?_
  iterate 2 walk1
  refine gl_fnC F₅ GL D.gk ?_
  refine callWith_def hdK ?_
  iterate 5 walk1
  rename News _ _ _ _ => N₅
  have Bs₅ : Bs H c P h₅ := bs_of G B₄' hz₄ F₅
  refine ⟨Bs₅.get G hoK (fun vs => by rw [hdK]; nofun), ?_⟩
  refine keep_text_text G D.keep Bs₅ hh hroom (by exact hb₄) (all_ascii (hwa _ hm1)) (all_ascii (hwa _ hm0)) (bnd _ _ (hw _ hm1)) fun s₆ t₇ B₆ hb₆ hos₆ hk₆ => ?_
  obtain ⟨h₆, B₆', hz₆, F₆, N₆⟩ := rebase G hz₄ F₅ N₅ ha B₆ hk₆
  clear F₅ N₅ GL
  have GL := B₆'.glob G
  iterate 3 walk1
  rename News _ _ _ _ => N₆
  refine ⟨B₆.get G hoK (fun vs => by rw [hdK]; nofun), ?_⟩
  refine keep_text_text (x := txt (List.zipWith keepC (rows.getD (k + 1) []) (rows.getD k []))) (y := txt tags) G D.keep B₆ hh hroom hb₆ (all_ascii (zip_ascii (hwa _ hm1) (hwa _ hm0))) (all_ascii hta) (by rw [size_txt, size_txt]; exact Nat.le_trans (Nat.min_le_right _ _) (Nat.le_trans ht (by decide))) fun s₇ t₈ B₇ hb₇ hos₇ hk₇ => ?_
  obtain ⟨h₇, B₇', hz₇, F₇, N₇⟩ := rebase G hz₆ F₆ N₆ ha B₇ hk₇
  clear F₆ N₆ GL
  refine stLocN F₇ N₇ (fun h₈ F₈ N₈ => ?_)
  exact hQ _ h₇ o2' o3' t₂ t₃ t₅ t₈ B₇' hz₇ hb₇ (hos₇.trans (hos₆.trans (hos₄.trans hos₃))) F₈ N₈ ho2' ho3'
end
end Mine

namespace Mine
/-- is the sign in the written text of two seen ones -/
def seen2 (c : Nat) : Bool := !(Builtin.Str.occurrences (Str.ofString "a^") ⟨#[c]⟩ 0 (Str.ofString "a^").length 1).isEmpty
def isBetw (tags first second : List Nat) (p : Nat) : Bool := (⟨#[tags.getD p 0]⟩ == Str.ofString " ") && (seen2 (first.getD p 0) && tab2 (second.getD p 0))
def size3 (a b c : Nat) : Nat := min a (min b c)
def betw (tags first second : List Nat) : List Nat := (List.range (size3 tags.length first.length second.length)).filter (isBetw tags first second)

theorem item_txt {l : List Nat} {p : Nat} (h : p < l.length) : Txt.item (txt l) (p : Int) = ⟨#[l.getD p 0]⟩ := by
  have h' : p < (txt l).cps.size := by rw [size_txt]; exact h
  rw [item_is h', cps_getD h']

section
variable {prog : Program} {w : World} {A : Around} {s : Shared} {mg mb : Str → Option Value}

theorem turnC2 {Q : Flow → Shared → Prop} {f : Addr} {cd : Value} {L lr I : Addr} {h₀ : Heap} {tags first second one jn : List Nat} {u t1 t2 t3 v1 v2 : Tok} {k : Nat} {rest : Str → Option Value} {o1 o2 o3 olr oI : Obj}
   (hh : A.handled = none) (hun : A.units + 100 < cLine) (GL : Glob 0 mg mb [] [] [] nms h₀)
   (F : Fr h₀ L s.heap (mapJ (mapK rest lr k u) (txt one) (txt jn) v1 v2))
   (N : News h₀ L s.heap [(lr, olr), (L + 1 + 1 + 1, o3), (L + 1 + 1, o2), (L + 1, o1), (I, oI)])
   (ho1 : o1.data = .cell (some (.str (txt tags) t1))) (ho2 : o2.data = .cell (some (.str (txt first) t2))) (ho3 : o3.data = .cell (some (.str (txt second) t3)))
   (ht : tags.length ≤ 1000) (hf : first.length ≤ 1000) (hs : second.length ≤ 1000) (heq : one = jn ↔ betw tags first second = [])
   (hQ : ∀ s' m', Fr h₀ L s'.heap m' → m' (Str.ofString "rows") = some (.ref lr) → News h₀ L s'.heap [(lr, olr), (L + 1 + 1 + 1, o3), (L + 1 + 1, o2), (L + 1, o1), (I, oI)] → s'.gens = s.gens → s'.os = s.os → Q .next s') :
    wpAny (model prog w) A (execs (bodyC.drop 4) (envOfC dW.name dW.scope L f cd)) Q (fun _ _ => False) s := by
  unfold bodyC dW dAt PySem.Challenge.pw_dm0045_01
  dsimp only [List.getElem?_cons_succ, List.getElem?_cons_zero, List.drop_succ_cons, List.drop_zero, List.drop]
  have l1 := len_txt tags
  have l2 := len_txt first
  have l3 := len_txt second
  repeat' walk1
  rename News _ _ _ _ => N
  refine min_three_ints hh fun h₁ tk₁ hk₁ => ?_
  have em : ∃ t, (if ((txt first).length : Int) < (txt tags).length then (if ((txt second).length : Int) < (txt first).length then Value.int (txt second).length (s.toks + 1 + 1 + 1 + 1 + 1) else .int (txt first).length (s.toks + 1 + 1 + 1)) else (if ((txt second).length : Int) < (txt tags).length then .int (txt second).length (s.toks + 1 + 1 + 1 + 1 + 1) else .int (txt tags).length (s.toks + 1))) = Value.int ((size3 tags.length first.length second.length : Nat) : Int) t := by
    rw [l1, l2, l3]
    unfold size3
    split
    · split
      · exact ⟨_, by congr 1; omega⟩
      · exact ⟨_, by congr 1; omega⟩
    · split
      · exact ⟨_, by congr 1; omega⟩
      · exact ⟨_, by congr 1; omega⟩
  obtain ⟨t₁, em⟩ := em
  rw [em]
  have F₁ := F.keeps hk₁
  have N₁ := N.grown hk₁
  clear F N
  refine stLocN F₁ N₁ (fun h₂ F₂ N₂ => ?_)
  clear F₁ N₁
  walk1
  have h3 : size3 tags.length first.length second.length ≤ 1000 := Nat.le_trans (Nat.min_le_left _ _) ht
  refine Assign_ListComp_DCr (h₀ := h₀) (L := L) (m := fun z => if z = Str.ofString "size" then some (Value.int ((size3 tags.length first.length second.length : Nat) : Int) t₁) else mapJ (mapK rest lr k u) (txt one) (txt jn) v1 v2 z)
    (pz := fun p => isBetw tags first second p.toNat) (d := fun p => PyData.int p) rfl rfl hh rfl (by decide) rfl (by decide) rfl rfl rfl ?_ (fun _ => rfl)
  iterate 6 walk1
  refine call_range_1 ?_
  have er : Builtin.Range.rangeSize 0 ((size3 tags.length first.length second.length : Nat) : Int) 1 = ((size3 tags.length first.length second.length : Nat) : Int) := by
    rw [rangeSize_one]
    split <;> omega
  have k4 : ∀ (q : Obj) b o, h₂.get? b = some o → (h₂.push q).get? b = some o := fun q b o e => Heap.get?_push_of_some q e
  refine ⟨_, _, 0, ((size3 tags.length first.length second.length : Nat) : Int), 1, _, _, _, size3 tags.length first.length second.length, rfl, IsRange.new .., small_one (by decide) (by decide) (by omega) (by omega), er, Nat.le_trans h3 (by decide), F₂.keeps (k4 _), N₂.grown (k4 _), ?_, ?_, ?_⟩
  · intro C a v s₃ m₂ E' hC hmem hv hns hm hk
    obtain ⟨tv, rfl⟩ := hv
    obtain ⟨p, hp, rfl⟩ : ∃ p : Nat, p < size3 tags.length first.length second.length ∧ a = (p : Int) := by
      unfold rangeInts at hmem
      obtain ⟨p, hp, e⟩ := List.mem_map.mp hmem
      exact ⟨p, List.mem_range.mp hp, by omega⟩
    have hc1 : s₃.heap.IsCell (L + 1) (some (Value.str (txt tags) t1)) := ⟨o1, hk _ _ (k4 _ _ _ (N₂.get (.tail _ (.tail _ (.tail _ (.head _)))))), ho1⟩
    have hc2 : s₃.heap.IsCell (L + 1 + 1) (some (Value.str (txt first) t2)) := ⟨o2, hk _ _ (k4 _ _ _ (N₂.get (.tail _ (.tail _ (.head _))))), ho2⟩
    have hc3 : s₃.heap.IsCell (L + 1 + 1 + 1) (some (Value.str (txt second) t3)) := ⟨o3, hk _ _ (k4 _ _ _ (N₂.get (.tail _ (.head _)))), ho3⟩
    have p1 : p < tags.length := Nat.lt_of_lt_of_le hp (Nat.min_le_left _ _)
    have p2 : p < first.length := Nat.lt_of_lt_of_le hp (Nat.le_trans (Nat.min_le_right _ _) (Nat.min_le_left _ _))
    have p3 : p < second.length := Nat.lt_of_lt_of_le hp (Nat.le_trans (Nat.min_le_right _ _) (Nat.min_le_right _ _))
    have i0 : (0 : Int) ≤ p := by omega
    have i1 : (p : Int) < (txt tags).length := by omega
    have i2 : (p : Int) < (txt first).length := by omega
    have i3 : (p : Int) < (txt second).length := by omega
    clear F₂ N₂ GL
    refine wpAny_tests_one ?_
    iterate 3 walk1
    refine ldCellK rfl hc1 ?_
    refine ldVarK hns hm ?_
    iterate 5 walk1
    · rename_i hq1
      rw [item_txt p1] at hq1
      iterate 3 walk1
      refine ldCellK rfl hc2 ?_
      refine ldVarK hns hm ?_
      iterate 6 walk1
      · rename_i hq2
        rw [item_txt p2] at hq2
        refine ⟨?_, _, _, rfl, fun _ _ e => e⟩
        unfold isBetw seen2
        rw [Int.toNat_natCast, hq1, hq2]
        rfl
      · rename_i hq2
        rw [item_txt p2] at hq2
        iterate 3 walk1
        refine ldCellK rfl hc3 ?_
        refine ldVarK hns hm ?_
        iterate 6 walk1
        · rename_i hq3
          rw [item_txt p3] at hq3
          refine ⟨?_, _, _, rfl, fun _ _ e => e⟩
          unfold isBetw seen2 tab2
          rw [Int.toNat_natCast, hq1, hq2, hq3]
          rfl
        · rename_i hq3
          rw [item_txt p3] at hq3
          repeat' walk1
          · unfold isBetw seen2 tab2
            rw [Int.toNat_natCast, hq1, hq2, hq3]
            rfl
          · exact ⟨_, _, rfl, fun _ _ e => e⟩
    · rename_i hq1
      rw [item_txt p1] at hq1
      refine ⟨?_, _, _, rfl, fun _ _ e => e⟩
      unfold isBetw
      rw [Int.toNat_natCast, hq1]
      rfl
  · intro C a v s₃ m₂ E' hC hmem hv _ hns hm hk
    obtain ⟨tv, rfl⟩ := hv
    refine ldVarK hns hm ?_
    exact ⟨.int _ _, _, _, rfl, fun _ _ e => e⟩
  · intro D' ys h' tk F' N' hD hl hpl hC
    have hI := CarriedAll.intsOf (f := fun p => p) hC
    have eb : ((rangeInts 0 1 (size3 tags.length first.length second.length)).filter fun p => isBetw tags first second p.toNat).map (fun p => p) = (betw tags first second).map fun p : Nat => (p : Int) := by
      unfold betw rangeInts
      rw [List.map_id', List.filter_map]
      have : (fun p : Int => isBetw tags first second p.toNat) ∘ (fun i : Nat => (0 : Int) + (i : Int) * 1) = isBetw tags first second := by
        funext p
        simp
      rw [this]
      apply List.map_congr_left
      intro p _
      omega
    rw [eb] at hI
    obtain ⟨oD, N₃, hDk⟩ := news_list F' N' hD hl
    clear F₂ N₂ N' hl hpl
    dsimp only
    iterate 12 walk1
    rename_i h₅ F₅ N₅ _ _
    have F₅ : Fr h₀ L h₅ _ := F₅
    have N₅ : News h₀ L h₅ _ := N₅
    refine ke_eq_ints (hDk _ (N₅.get (.tail _ (.head _)))) (ys := []) (News.isList N₅ (.head _)) hI .nil (by omega) ?_
    have N₆ : News h₀ L h₅ [(lr, olr), (L + 1 + 1 + 1, o3), (L + 1 + 1, o2), (L + 1, o1), (I, oI)] := fun q hq => N₅ q (List.mem_cons_of_mem _ (List.mem_cons_of_mem _ hq))
    have ed : (txt one == txt jn) = decide ((betw tags first second).map (fun p : Nat => (p : Int)) = []) := by
      rw [Bool.eq_iff_iff]
      simp only [beq_iff_eq, decide_eq_true_eq, List.map_eq_nil_iff]
      rw [← heq]
      refine ⟨fun e => ?_, fun e => by rw [e]⟩
      have e' : (List.toArray one) = List.toArray jn := congrArg Str.cps e
      simpa using e'
    clear N₅
    repeat' walk1
    · rename_i hne
      rw [ed] at hne
      simp at hne
    · exact hQ _ _ F₅ rfl N₆ rfl rfl
end
end Mine

namespace Mine
/-- the five signs -/
def alpha (c : Nat) : Prop := c = 32 ∨ c = 9 ∨ c = 11 ∨ c = 94 ∨ c = 97

theorem keep_blank {c t : Nat} (hc : alpha c) : keepC c t = if t = 32 then (if tab2 c = true then c else 32) else t := by
  unfold keepC
  rw [ofString_blank]
  by_cases ht : t = 32
  · subst ht
    rcases hc with rfl | rfl | rfl | rfl | rfl <;> decide +kernel
  · have : ((⟨#[t]⟩ : Str) == ⟨#[32]⟩) = false := by simpa using ht
    rw [this, if_neg ht]
    rfl
theorem tab_cases {c : Nat} (hc : alpha c) : (tab2 c = true ↔ c = 9 ∨ c = 11) ∧ (seen2 c = true ↔ c = 94 ∨ c = 97) := by
  rcases hc with rfl | rfl | rfl | rfl | rfl <;> decide +kernel
theorem alpha_ascii {c : Nat} (hc : alpha c) : c < 128 := by rcases hc with rfl | rfl | rfl | rfl | rfl <;> decide

theorem row_alpha (x : Int) : ∀ a ∈ rowF x, alpha a := by
  intro a ha
  obtain ⟨p, _, rfl⟩ := List.mem_map.mp ha
  have q0 : 0 ≤ ((x.fdiv 6).fdiv (5 ^ p)).fmod 5 := Int.fmod_nonneg_of_pos _ (by decide)
  have q1 : ((x.fdiv 6).fdiv (5 ^ p)).fmod 5 < 5 := Int.fmod_lt_of_pos _ (by decide)
  obtain ⟨k, hk⟩ : ∃ k : Nat, ((x.fdiv 6).fdiv (5 ^ p)).fmod 5 = k := ⟨(((x.fdiv 6).fdiv (5 ^ p)).fmod 5).toNat, by omega⟩
  rw [hk, Int.toNat_natCast]
  have : k < 5 := by omega
  unfold alpha
  match k, this with
  | 0, _ => decide +kernel
  | 1, _ => decide +kernel
  | 2, _ => decide +kernel
  | 3, _ => decide +kernel
  | 4, _ => decide +kernel
theorem row_len (x : Int) : (rowF x).length ≤ 4 := by
  have : (rowF x).length = cnt x := by simp [rowF]
  rw [this]
  have h1 : 0 ≤ x.fmod 6 := Int.fmod_nonneg_of_pos _ (by decide)
  have h2 : x.fmod 6 < 6 := Int.fmod_lt_of_pos _ (by decide)
  unfold cnt
  obtain ⟨k, hk⟩ : ∃ k : Nat, x.fmod 6 = k := ⟨(x.fmod 6).toNat, by omega⟩
  rw [hk]
  have : k < 6 := by omega
  match k, this with
  | 0, _ => decide
  | 1, _ => decide
  | 2, _ => decide
  | 3, _ => decide
  | 4, _ => decide
  | 5, _ => decide
theorem rows_alpha (ns : List Int) : ∀ r ∈ rowsF ns, (∀ a ∈ r, alpha a) ∧ r.length ≤ 4 := by
  intro r hr
  rcases List.mem_append.mp hr with hr | hr
  · split at hr
    · unfold alpha
      rcases List.mem_cons.mp hr with rfl | hr
      · exact ⟨by decide, by decide⟩
      · rw [List.mem_singleton.mp hr]; exact ⟨by decide, by decide⟩
    · cases hr
  · obtain ⟨x, _, rfl⟩ := List.mem_map.mp hr
    exact ⟨row_alpha x, row_len x⟩

/-- a row under what lies: one sign -/
def lay (t c : Nat) : Nat := if t = 32 then (if tab2 c = true then c else 32) else t

theorem minL_snoc (rows : List (List Nat)) (r : List Nat) (n : Nat) : minL n (rows ++ [r]) = min (minL n rows) r.length := by
  unfold minL; rw [List.foldl_append]; rfl

theorem tab_ne {c : Nat} (hc : alpha c) (h : tab2 c = true) : c ≠ 32 := by
  rcases ((tab_cases hc).1.mp h) with rfl | rfl <;> decide

theorem laid_snoc {tags : List Nat} {rows : List (List Nat)} {r : List Nat} {p : Nat} (hr : ∀ q ∈ rows, ∀ a ∈ q, alpha a) (hp : ∀ q ∈ rows, p < q.length) :
    laidAt tags (rows ++ [r]) p = lay (laidAt tags rows p) (r.getD p 0) := by
  unfold laidAt lay
  by_cases ht : tags.getD p 0 = 32
  · rw [if_pos ht, if_pos ht, List.map_append, List.filter_append]
    cases hts : (rows.map fun r => r.getD p 0).filter tab2 with
    | nil =>
      show (List.filter tab2 [r.getD p 0]).headD 32 = _
      generalize r.getD p 0 = c
      by_cases hb : tab2 c = true
      · rw [List.filter_cons_of_pos hb]; simp [hb]
      · rw [List.filter_cons_of_neg hb]; simp [hb]
    | cons c cs =>
      have hc : c ∈ (rows.map fun r => r.getD p 0).filter tab2 := by rw [hts]; exact List.mem_cons_self
      obtain ⟨h1, h2⟩ := List.mem_filter.mp hc
      obtain ⟨q, hq, rfl⟩ := List.mem_map.mp h1
      have hlt := hp q hq
      have hal := hr q hq (q.getD p 0) (by rw [List.getD_eq_getElem?_getD, List.getElem?_eq_getElem hlt]; exact List.getElem_mem hlt)
      show q.getD p 0 = if q.getD p 0 = 32 then _ else q.getD p 0
      rw [if_neg (tab_ne hal h2)]
  · rw [if_neg ht, if_neg ht, if_neg ht]

theorem snoc_ind {α : Type} {R : List α → Prop} (h0 : R []) (h1 : ∀ l a, R l → R (l ++ [a])) (l : List α) : R l := by
  have : ∀ l : List α, R l.reverse := fun l => by
    induction l with
    | nil => exact h0
    | cons a r ih => rw [List.reverse_cons]; exact h1 _ _ ih
  have := this l.reverse
  rwa [List.reverse_reverse] at this

theorem getD_of {l : List Nat} {p : Nat} (h : p < l.length) : l.getD p 0 = l[p] := by rw [List.getD_eq_getElem?_getD, List.getElem?_eq_getElem h]; rfl

theorem laidF_get {tags : List Nat} {rows : List (List Nat)} {i : Nat} (h : i < (laidF tags rows).length) : (laidF tags rows)[i] = laidAt tags rows i := by simp [laidF]

theorem fold_laid {tags : List Nat} (rows : List (List Nat)) : (∀ q ∈ rows, ∀ a ∈ q, alpha a) → foldK tags rows = laidF tags rows := by
  refine snoc_ind (R := fun rows => (∀ q ∈ rows, ∀ a ∈ q, alpha a) → foldK tags rows = laidF tags rows) ?_ ?_ rows
  · intro _
    show tags = _
    unfold laidF
    apply List.ext_getElem
    · simp [minL]
    · intro i h1 h2
      rw [List.getElem_map, List.getElem_range]
      unfold laidAt
      rw [getD_of h1]
      by_cases h : tags[i] = 32
      · rw [if_pos h, h]; rfl
      · rw [if_neg h]
  · intro rows r ih hal
    have hr : ∀ q ∈ rows, ∀ a ∈ q, alpha a := fun q hq => hal q (List.mem_append_left _ hq)
    have e : foldK tags (rows ++ [r]) = List.zipWith keepC r (foldK tags rows) := by unfold foldK; rw [List.foldl_append]; rfl
    rw [e, ih hr]
    apply List.ext_getElem
    · simp [laidF, minL_snoc, Nat.min_comm]
    · intro i h1 h2
      have hl : i < r.length ∧ i < minL tags.length rows := by simp [laidF] at h1; omega
      rw [List.getElem_zipWith, laidF_get, laidF_get, laid_snoc hr fun q hq => Nat.lt_of_lt_of_le hl.2 ((minL_spec rows tags.length).2.1 q hq), getD_of hl.1]
      exact keep_blank (hal r (List.mem_append_right _ (List.mem_singleton.mpr rfl)) _ (List.getElem_mem hl.1))

theorem pt {t f s : Nat} (ht : alpha t) (hf : alpha f) (hs : alpha s) : keepC s (keepC f t) = keepC (keepC s f) t ↔ ((⟨#[t]⟩ : Str) == Str.ofString " " && (seen2 f && tab2 s)) = false := by
  rcases ht with rfl | rfl | rfl | rfl | rfl <;> rcases hf with rfl | rfl | rfl | rfl | rfl <;> rcases hs with rfl | rfl | rfl | rfl | rfl <;> decide +kernel

theorem assoc_iff {tags first second : List Nat} (ht : ∀ a ∈ tags, alpha a) (hf : ∀ a ∈ first, alpha a) (hs : ∀ a ∈ second, alpha a) :
    List.zipWith keepC second (List.zipWith keepC first tags) = List.zipWith keepC (List.zipWith keepC second first) tags ↔ betw tags first second = [] := by
  unfold betw
  rw [List.filter_eq_nil_iff]
  have bound : ∀ p, p < size3 tags.length first.length second.length ↔ p < tags.length ∧ p < first.length ∧ p < second.length := fun p => by unfold size3; omega
  constructor
  · intro e p hp
    obtain ⟨p1, p2, p3⟩ := (bound p).mp (List.mem_range.mp hp)
    have e1 := congrArg (fun l : List Nat => l[p]?) e
    simp only [List.getElem?_zipWith, List.getElem?_eq_getElem p1, List.getElem?_eq_getElem p2, List.getElem?_eq_getElem p3] at e1
    have := (pt (ht _ (List.getElem_mem p1)) (hf _ (List.getElem_mem p2)) (hs _ (List.getElem_mem p3))).mp (Option.some.inj e1)
    unfold isBetw
    rw [getD_of p1, getD_of p2, getD_of p3, this]
    exact Bool.false_ne_true
  · intro h
    apply List.ext_getElem
    · simp [Nat.min_assoc]
    · intro p h1 h2
      simp at h1
      have p1 : p < tags.length := by omega
      have p2 : p < first.length := by omega
      have p3 : p < second.length := by omega
      rw [List.getElem_zipWith, List.getElem_zipWith, List.getElem_zipWith, List.getElem_zipWith]
      have := h p (List.mem_range.mpr ((bound p).mpr ⟨p1, p2, p3⟩))
      unfold isBetw at this
      rw [getD_of p1, getD_of p2, getD_of p3] at this
      exact (pt (ht _ (List.getElem_mem p1)) (hf _ (List.getElem_mem p2)) (hs _ (List.getElem_mem p3))).mpr (by simpa using this)

theorem fold_alpha {tags : List Nat} (ht : ∀ a ∈ tags, alpha a) : ∀ (rows : List (List Nat)), (∀ q ∈ rows, ∀ a ∈ q, a < 128) → (∀ a ∈ foldK tags rows, a < 128) ∧ (foldK tags rows).length ≤ tags.length := by
  intro rows
  refine snoc_ind (R := fun rows => (∀ q ∈ rows, ∀ a ∈ q, a < 128) → (∀ a ∈ foldK tags rows, a < 128) ∧ (foldK tags rows).length ≤ tags.length) ?_ ?_ rows
  · intro _
    exact ⟨fun a ha => alpha_ascii (ht a ha), Nat.le_refl _⟩
  · intro rows r ih hal
    have e : foldK tags (rows ++ [r]) = List.zipWith keepC r (foldK tags rows) := by unfold foldK; rw [List.foldl_append]; rfl
    obtain ⟨i1, i2⟩ := ih fun q hq => hal q (List.mem_append_left _ hq)
    rw [e]
    refine ⟨zip_ascii (hal r (List.mem_append_right _ (List.mem_singleton.mpr rfl))) i1, ?_⟩
    simp
    omega
end Mine

namespace Mine
section
variable {prog : Program} {w : World} {A : Around} {E : Value → Shared → Prop} {s : Shared}
theorem range_iter2 {n : Nat} {t u : Tok} {K : Value → Shared → Prop} (hn : n < 2 ^ 60)
    (h : ∀ h' tk I, IsRangeIter h' I 1 ((n - 1 : Nat) : Int) 1 → s.heap.objs.size ≤ I → (∀ b o, s.heap.get? b = some o → h'.get? b = some o) → K (.ref I) { s with heap := h', toks := tk }) :
    wpAny (model prog w) A (call (.type "range") [.int 1 u, .int n t]) (fun x s₁ => wpAny (model prog w) A (pyIter x) K E s₁) E s := by
  refine call_range_2 ?_
  refine wpAny_pyIter_range (IsRange.new ..) (small_one (by decide) (by decide) (by omega) (by omega)) ?_
  have e : Builtin.Range.rangeSize 1 (n : Int) 1 = ((n - 1 : Nat) : Int) := by
    rw [rangeSize_one]
    split
    · omega
    · omega
  rw [e]
  refine h _ _ _ (Heap.get?_push_size _ rfl) ?_ fun b o x => Heap.get?_push_of_some _ (Heap.get?_push_of_some _ x)
  show s.heap.objs.size ≤ (s.heap.push _).objs.size
  rw [Heap.size_push]; exact Nat.le_succ _
end

abbrev mapW (rest : Str → Option Value) (lr : Addr) (z : Str) : Option Value := if z = Str.ofString "rows" then some (.ref lr) else rest z

section
variable {prog : Program} {w : World} {A : Around} {s : Shared} {H : Heap} {c P fK fR fL : Addr} {mg mb : Str → Option Value}

theorem segC {Q : Flow → Shared → Prop} {f : Addr} {cd : Value} {L lr : Addr} {h₀ : Heap} {tags : List Nat} {rows : List (List Nat)} {vr : List Value} {t1 : Tok} {rest : Str → Option Value} {o1 o2 o3 olr : Obj} {w2 w3 : Option Value}
   (G : Gr H c P mg mb) (D : Env1 H c mg fK fR fL) (hh : A.handled = none) (hroom : A.depth + 5 < recursionLimit) (hun : A.units + 100 < cLine)
   (B₀ : Bs H c P h₀) (hz : Same H h₀) (hb : AllBare s.gens)
   (F : Fr h₀ L s.heap (mapW rest lr))
   (N : News h₀ L s.heap [(lr, olr), (L + 1 + 1 + 1, o3), (L + 1 + 1, o2), (L + 1, o1)]) (hlN : H.get? lr = none) (hl2 : lr ≠ L + 1 + 1) (hl3 : lr ≠ L + 1 + 1 + 1)
   (ho1 : o1.data = .cell (some (.str (txt tags) t1))) (ho2 : o2.data = .cell w2) (ho3 : o3.data = .cell w3) (hlr : ∀ h' : Heap, h'.get? lr = some olr → h'.IsList lr vr.toArray) (hS : StrsAre vr (rows.map txt))
   (hn : rows.length ≤ 100) (ht : tags.length ≤ 1000) (hta : ∀ a ∈ tags, a < 128) (hw : ∀ r ∈ rows, r.length ≤ 1000) (hwa : ∀ r ∈ rows, ∀ a ∈ r, a < 128)
   (heq : ∀ k, k + 1 < rows.length → (List.zipWith keepC (rows.getD (k + 1) []) (List.zipWith keepC (rows.getD k []) tags) = List.zipWith keepC (List.zipWith keepC (rows.getD (k + 1) []) (rows.getD k [])) tags ↔ betw tags (rows.getD k []) (rows.getD (k + 1) []) = []))
   (hQ : ∀ s', Bs H c P s'.heap → AllBare s'.gens → s'.os = s.os → Q .next s') :
    wpAny (model prog w) A (exec (match dW.body.drop 5 with | x :: _ => x | _ => .Pass default) (envOfC dW.name dW.scope L f cd)) Q (fun _ _ => False) s := by
  have t1' := @turnC1 prog w A
  have t2' := @turnC2 prog w A
  have eb : bodyC = (match dW.body.drop 5 with | (.For _ _ b _ _) :: _ => b | _ => []) := rfl
  rw [eb] at t1' t2'
  unfold dW dAt PySem.Challenge.pw_dm0045_01 at t1' t2' ⊢
  dsimp only [List.getElem?_cons_succ, List.getElem?_cons_zero, List.drop_succ_cons, List.drop_zero, List.drop] at t1' t2' ⊢
  have GL := B₀.glob G
  have hvl : ((vr.toArray.size : Nat) : Int) = (rows.length : Int) := by rw [List.size_toArray, hS.length, List.length_map]
  refine wpAny_For ?_ (fun _ => rfl)
  iterate 12 walk1
  refine len_list (hlr _ (N _ (.head _)).1) (by rw [hvl]; omega) ?_
  rw [hvl]
  walk1
  refine range_iter2 (n := rows.length) (by omega) fun h₄ tk₄ I hI hIle hk₄ => ?_
  have hlI : lr < I := Nat.lt_of_lt_of_le (Heap.lt_size (N _ (.head _)).1) hIle
  have h3L : L < L + 1 + 1 + 1 := Nat.lt_of_lt_of_le (Nat.lt_succ_self L) (Nat.le_trans (Nat.le_succ _) (Nat.le_succ _))
  have h3I : L + 1 + 1 + 1 < I := Nat.lt_of_lt_of_le (Heap.lt_size (N _ (.tail _ (.head _))).1) hIle
  have h2I : L + 1 + 1 < I := Nat.lt_of_succ_lt h3I
  have h1I : L + 1 < I := Nat.lt_of_succ_lt h2I
  have hLI : L < I := Nat.lt_of_succ_lt h1I
  have hlL : lr ≠ L := (N _ (.head _)).2.1
  have hLH : H.objs.size ≤ L := hz.size ▸ F.above
  have hqI : ∀ (a b : Obj), ∀ q ∈ [(lr, olr), (L + 1 + 1 + 1, a), (L + 1 + 1, b), (L + 1, o1)], q.1 < I := by
    intro a b
    simp only [List.mem_cons, List.not_mem_nil, or_false, forall_eq_or_imp, forall_eq]
    exact ⟨hlI, h3I, h2I, h1I⟩
  have hqL : ∀ (a b : Obj), ∀ q ∈ [(lr, olr), (L + 1 + 1 + 1, a), (L + 1 + 1, b), (L + 1, o1)], H.get? q.1 = none ∧ q.1 ≠ L := by
    intro a b
    simp only [List.mem_cons, List.not_mem_nil, or_false, forall_eq_or_imp, forall_eq]
    have e1 : L < L + 1 := Nat.lt_succ_self L
    have e2 : L < L + 1 + 1 := Nat.lt_succ_of_lt e1
    exact ⟨⟨hlN, hlL⟩, ⟨Heap.get?_none_of_le (Nat.le_of_lt (Nat.lt_of_le_of_lt hLH h3L)), Nat.ne_of_gt h3L⟩, ⟨Heap.get?_none_of_le (Nat.le_of_lt (Nat.lt_of_le_of_lt hLH e2)), Nat.ne_of_gt e2⟩, ⟨Heap.get?_none_of_le (Nat.le_of_lt (Nat.lt_of_le_of_lt hLH e1)), Nat.ne_of_gt e1⟩⟩
  refine loop_rule (m := mapW rest lr) (Walks.range hh I 1 1 (rows.length - 1)) rfl rfl ?_ (by simpa using hI) (F.ns.keeps hk₄)
    (fun i m s' => ∃ h₀' rest' o2' o3' w2' w3', Bs H c P h₀' ∧ Same H h₀' ∧ AllBare s'.gens ∧ s'.os = s.os ∧ (∀ z, z ≠ Str.ofString "k" → m z = mapW rest' lr z) ∧
      (∀ b o, h₀'.get? b = some o → s'.heap.get? b = some o) ∧ (∀ q ∈ [(lr, olr), (L + 1 + 1 + 1, o3'), (L + 1 + 1, o2'), (L + 1, o1)], s'.heap.get? q.1 = some q.2) ∧ o2'.data = .cell w2' ∧ o3'.data = .cell w3') ?_ ?_ ?_ ?_
  · exact fun hm => absurd (List.mem_singleton.mp hm) (Nat.ne_of_lt hLI)
  · exact ⟨h₀, rest, o2, o3, w2, w3, B₀, hz, hb, rfl, fun z _ => rfl, fun b o e => hk₄ b o (F.keep b o e), fun q hq => hk₄ _ _ (N q hq).1, ho2, ho3⟩
  · rintro i m s' h' tk m' ⟨h₀', rest', o2', o3', w2', w3', B', hz', hb', hos', hm, hk, hled, d2, d3⟩ _ hkeep
    refine ⟨h₀', rest', o2', o3', w2', w3', B', hz', hb', hos', hm, fun b o e => ?_, fun q hq => hkeep _ _ (fun hm => absurd (List.mem_singleton.mp hm) (Nat.ne_of_lt (hqI _ _ q hq))) (hqL _ _ q hq).2 (hled q hq), d2, d3⟩
    have hbH : b < H.objs.size := hz'.size ▸ Heap.lt_size e
    exact hkeep b o (fun hm => absurd (List.mem_singleton.mp hm) (Nat.ne_of_lt (Nat.lt_trans (Nat.lt_of_lt_of_le hbH hLH) hLI))) (Nat.ne_of_lt (Nat.lt_of_lt_of_le hbH hLH)) (hk b o e)
  · rintro i vi m₁ s' Q' hi ⟨tv, rfl⟩ ⟨h₀', rest', o2', o3', w2', w3', B', hz', hb', hos', hm, hk, hled, d2, d3⟩ hit hns hQ'
    have ev : (1 : Int) + (i : Int) * 1 = ((i + 1 : Nat) : Int) := by omega
    rw [ev] at hns
    obtain ⟨oI, hoI, hIk⟩ : ∃ oI, s'.heap.get? I = some oI ∧ ∀ h' : Heap, h'.get? I = some oI → IsRangeIter h' I (1 + ((i + 1 : Nat) : Int) * 1) (((rows.length - 1 : Nat) : Int) - ((i + 1 : Nat) : Int)) 1 := ⟨_, hit, fun h' e => e⟩
    have F' : Fr h₀' L s'.heap (mapK rest' lr (i + 1) tv) := fr_is ⟨hns, hk, hz'.size ▸ hLH⟩ fun z => by
      by_cases h1 : z = Str.ofString "k"
      · rw [if_pos h1]; unfold mapK; rw [if_pos h1]
      · rw [if_neg h1]; unfold mapK; rw [if_neg h1]; exact hm z h1
    have N' : News h₀' L s'.heap [(lr, olr), (L + 1 + 1 + 1, o3'), (L + 1 + 1, o2'), (L + 1, o1), (I, oI)] := news_same hz' fun q hq => by
      rcases List.mem_append.mp (show q ∈ [(lr, olr), (L + 1 + 1 + 1, o3'), (L + 1 + 1, o2'), (L + 1, o1)] ++ [(I, oI)] from hq) with hq | hq
      · exact ⟨(hqL _ _ q hq).1, (hqL _ _ q hq).2, hled q hq⟩
      · rw [List.mem_singleton.mp hq]; exact ⟨Heap.get?_none_of_le (Nat.le_of_lt (Nat.lt_of_le_of_lt hLH hLI)), Nat.ne_of_gt hLI, hoI⟩
    have hk' : i + 1 < rows.length := by omega
    refine t1' G D hh hroom B' hz' hb' F' N' hlN (Heap.get?_none_of_le (Nat.le_of_lt (Nat.lt_of_le_of_lt hLH hLI))) hl2 hl3 (Nat.ne_of_gt h2I) (Nat.ne_of_gt h3I) ho1 d2 d3 hlr hS hk' hn ht hta hw hwa
      fun s₅ h₅ o2₅ o3₅ t2₅ t3₅ v1₅ v2₅ B₅ hz₅ hb₅ hos₅ F₅ N₅ e2 e3 => ?_
    have hm0 : rows.getD i [] ∈ rows := by rw [List.getD_eq_getElem?_getD, List.getElem?_eq_getElem (by omega)]; exact List.getElem_mem _
    have hm1 : rows.getD (i + 1) [] ∈ rows := by rw [List.getD_eq_getElem?_getD, List.getElem?_eq_getElem hk']; exact List.getElem_mem _
    refine t2' hh hun (B₅.glob G) F₅ N₅ ho1 e2 e3 ht (hw _ hm0) (hw _ hm1) (heq i hk') fun s₆ m₆ F₆ hm₆ N₆ hg₆ hos₆ => ?_
    refine hQ' s₆ m₆ (hIk _ (N₆ _ (.tail _ (.tail _ (.tail _ (.tail _ (.head _)))))).1) F₆.ns ⟨h₅, m₆, o2₅, o3₅, _, _, B₅, hz₅, by rw [hg₆]; exact hb₅, hos₆.trans (hos₅.trans hos'), fun z hz => ?_, F₆.keep, fun q hq => (N₆ q (List.mem_append_left [(I, oI)] hq)).1, e2, e3⟩
    unfold mapW
    by_cases h1 : z = Str.ofString "rows"
    · rw [if_pos h1, h1, hm₆]
    · rw [if_neg h1]
  · rintro s' m' hn' ⟨h₀', rest', o2', o3', w2', w3', B', hz', hb', hos', hm, hk, hled, d2, d3⟩
    dsimp only
    exact hQ s' (bs_of (m := m') (L := L) G B' hz' ⟨hn', hk, hz'.size ▸ hLH⟩) hb' hos'
end
end Mine

namespace Mine
section
variable {prog : Program} {w : World} {A : Around} {s : Shared} {H : Heap} {c P fK fR fL : Addr} {mg mb : Str → Option Value}

theorem law_ok {Q : Flow → Shared → Prop} {f : Addr} {cd : Value} {L l : Addr} {vals : List Value} {ns : List Int} {o1 o2 o3 : Obj} {w1 w2 w3 : Option Value}
   (G : Gr H c P mg mb) (D : Env1 H c mg fK fR fL) (hh : A.handled = none) (hroom : A.depth + 5 < recursionLimit) (hun : A.units + 100 < cLine)
   (F : Fr H L s.heap (bindL (envOfC dW.name dW.scope L f cd).kindOf [(Str.ofString "script", Value.ref l)] fun _ => none))
   (N : News H L s.heap [(L + 1 + 1 + 1, o3), (L + 1 + 1, o2), (L + 1, o1)]) (ho1 : o1.data = .cell w1) (ho2 : o2.data = .cell w2) (ho3 : o3.data = .cell w3)
   (hl : H.IsList l vals.toArray) (hI : IntsAre vals ns) (hn : ns.length ≤ 63) (hb : AllBare s.gens)
   (hQ : ∀ s', Bs H c P s'.heap → AllBare s'.gens → s'.os = s.os → Q (.ret (.bool true)) s') :
    wpAny (model prog w) A (execs dW.body (envOfC dW.name dW.scope L f cd)) Q (fun _ _ => False) s := by
  have hLH : H.objs.size ≤ L := F.above
  have rA := rows_alpha ns
  have tA : ∀ a ∈ rowF ns.sum, alpha a := row_alpha ns.sum
  have tL : (rowF ns.sum).length ≤ 1000 := Nat.le_trans (row_len _) (by decide)
  have rL : ∀ r ∈ rowsF ns, r.length ≤ 1000 := fun r hr => Nat.le_trans (rA r hr).2 (by decide)
  have rN : (rowsF ns).length ≤ 100 := by
    unfold rowsF
    rw [List.length_append, List.length_map]
    split
    · simp; omega
    · simp; omega
  have rW : ∀ r ∈ rowsF ns, ∀ a ∈ r, a < 128 := fun r hr a ha => alpha_ascii ((rA r hr).1 a ha)
  have tW : ∀ a ∈ rowF ns.sum, a < 128 := fun a ha => alpha_ascii (tA a ha)
  have fA : ∀ k, (∀ a ∈ foldK (rowF ns.sum) ((rowsF ns).take k), a < 128) ∧ (foldK (rowF ns.sum) ((rowsF ns).take k)).length ≤ (rowF ns.sum).length := fun k => fold_alpha tA _ fun q hq => rW q (List.mem_of_mem_take hq)
  have eB : ∀ k, k < (rowsF ns).length → List.zipWith keepC ((rowsF ns).getD k []) (foldK (rowF ns.sum) ((rowsF ns).take k)) = laidF (rowF ns.sum) ((rowsF ns).take (k + 1)) := fun k hk => by
    have e1 : (rowsF ns).take (k + 1) = (rowsF ns).take k ++ [(rowsF ns).getD k []] := by
      rw [List.take_add_one, List.getD_eq_getElem?_getD, List.getElem?_eq_getElem hk]; rfl
    rw [← fold_laid _ fun q hq => (rA q (List.mem_of_mem_take hq)).1, e1]
    unfold foldK
    rw [List.foldl_append]
    rfl
  have eC : ∀ k, k + 1 < (rowsF ns).length → (List.zipWith keepC ((rowsF ns).getD (k + 1) []) (List.zipWith keepC ((rowsF ns).getD k []) (rowF ns.sum)) = List.zipWith keepC (List.zipWith keepC ((rowsF ns).getD (k + 1) []) ((rowsF ns).getD k [])) (rowF ns.sum) ↔
      betw (rowF ns.sum) ((rowsF ns).getD k []) ((rowsF ns).getD (k + 1) []) = []) := fun k hk => by
    have m0 : (rowsF ns).getD k [] ∈ rowsF ns := by rw [List.getD_eq_getElem?_getD, List.getElem?_eq_getElem (by omega)]; exact List.getElem_mem _
    have m1 : (rowsF ns).getD (k + 1) [] ∈ rowsF ns := by rw [List.getD_eq_getElem?_getD, List.getElem?_eq_getElem hk]; exact List.getElem_mem _
    exact assoc_iff tA (rA _ m0).1 (rA _ m1).1
  have sA0 := @segA0 prog w A
  have sA1 := @segA1 prog w A
  have sA2 := @segA2 prog w A
  have sA3 := @segA3 prog w A
  have sB := @segB prog w A
  have sC := @segC prog w A
  have hms : bindL (envOfC dW.name dW.scope L f cd).kindOf [(Str.ofString "script", Value.ref l)] (fun _ => none) (Str.ofString "script") = some (.ref l) := rfl
  generalize bindL (envOfC dW.name dW.scope L f cd).kindOf [(Str.ofString "script", Value.ref l)] (fun _ => none) = m at F hms
  unfold dW dAt PySem.Challenge.pw_dm0045_01 at sA0 sA1 sA2 sA3 sB sC ⊢
  dsimp only [List.getElem?_cons_succ, List.getElem?_cons_zero, List.drop_succ_cons, List.drop_zero, List.drop] at sA0 sA1 sA2 sA3 sB sC ⊢
  walk1
  refine sA0 (led := [(L + 1 + 1 + 1, o3), (L + 1 + 1, o2)]) G D hh hroom F hms N ?_ ho1 hl hI fun s₁ o1' t₁ F₁ N₁ d1 hg₁ hos₁ => ?_
  · simp only [List.mem_cons, List.not_mem_nil, or_false, forall_eq_or_imp, forall_eq]
    exact ⟨Nat.ne_of_gt (Nat.lt_succ_of_lt (Nat.lt_succ_self _)), Nat.ne_of_gt (Nat.lt_succ_self _)⟩
  clear F N sA0
  dsimp only
  walk1
  refine sA1 G D hh hroom F₁ hms N₁ hl hI hn fun s₂ lr₀ vr₀ F₂ N₂ hl₀ hne₀ hL₀ hS₀ hg₂ hos₂ => ?_
  clear F₁ sA1
  obtain ⟨olr₀, N₃, hlk₀⟩ := news_list F₂ N₂ hl₀ hL₀
  have s3 : L + 1 + 1 + 1 < s₂.heap.objs.size := Heap.lt_size (N₂ _ (.head _)).1
  have s2 : L + 1 + 1 < s₂.heap.objs.size := Nat.lt_of_succ_lt s3
  clear N₂
  have F₃ : Fr H L s₂.heap (mapA m l lr₀) := fr_is F₂ fun z => by
    unfold mapA
    by_cases h1 : z = Str.ofString "rows"
    · rw [if_pos h1, if_pos h1]
    · rw [if_neg h1, if_neg h1]
      by_cases h2 : z = Str.ofString "script"
      · rw [if_pos h2, h2, hms]
      · rw [if_neg h2]
  clear F₂
  dsimp only
  walk1
  refine sA2 G hh F₃ N₃ hlk₀ hS₀ hl hI hn fun s₄ lr olr vr F₄ N₄ hlk hfr hS hg₄ hos₄ => ?_
  clear F₃ N₃ sA2
  dsimp only
  walk1
  refine sA3 F₄ N₄ (.tail _ (.tail _ (.tail _ (.head _)))) d1 fun s₅ F₅ N₅ hg₅ hos₅ => ?_
  clear F₄ N₄ sA3
  have hlr3 : lr ≠ L + 1 + 1 + 1 := by
    rcases hfr with e | e
    · rw [e]; exact (hne₀ _ (.head _)).symm
    · exact Nat.ne_of_gt (Nat.lt_of_lt_of_le s3 e)
  have hlr2 : lr ≠ L + 1 + 1 := by
    rcases hfr with e | e
    · rw [e]; exact (hne₀ _ (.tail _ (.head _))).symm
    · exact Nat.ne_of_gt (Nat.lt_of_lt_of_le s2 e)
  have hlrN : H.get? lr = none := (N₅ _ (.head _)).2.2
  have haN : ∀ q ∈ [(lr, olr), (L + 1 + 1 + 1, o3), (L + 1 + 1, o2), (L + 1, o1')], H.get? q.1 = none := fun q hq => (N₅ q hq).2.2
  have hb₅ : AllBare s₅.gens := by rw [hg₅, hg₄, hg₂, hg₁]; exact hb
  have F₆ : Fr H L s₅.heap (mapQ (mapA m l lr) lr (txt (rowF ns.sum)) t₁) := fr_is F₅ fun z => by
    unfold mapQ
    by_cases h1 : z = Str.ofString "laid"
    · rw [if_pos h1, if_pos h1]
    · rw [if_neg h1, if_neg h1]
      by_cases h2 : z = Str.ofString "rows"
      · rw [if_pos h2, h2]; rfl
      · rw [if_neg h2]
  clear F₅
  dsimp only
  walk1
  refine sB G D hh hroom hun G.start Same.rfl hb₅ F₆ N₅ haN d1 hlk hS rN tL (fun k => (fA k).1) (fun k => Nat.le_trans (fA k).2 tL) rL rW eB fun s₇ h₇ m₇ B₇ hz₇ hb₇ hos₇ F₇ hm₇ N₇ => ?_
  clear sB F₆ N₅
  have F₈ : Fr h₇ L s₇.heap (mapW m₇ lr) := fr_is F₇ fun z => by
    unfold mapW
    by_cases h1 : z = Str.ofString "rows"
    · rw [if_pos h1, h1, hm₇]
    · rw [if_neg h1]
  clear F₇
  dsimp only
  walk1
  refine sC G D hh hroom hun B₇ hz₇ hb₇ F₈ N₇ hlrN hlr2 hlr3 d1 ho2 ho3 hlk hS rN tL tW rL rW eC fun s₉ B₉ hb₉ hos₉ => ?_
  clear sC F₈ N₇
  dsimp only
  walk1
  walk1
  walk1
  exact hQ _ B₉ hb₉ (hos₉.trans (hos₇.trans (hos₅.trans (hos₄.trans (hos₂.trans hos₁)))))
end
end Mine

namespace Mine
theorem booked_of {K : Frag} {h : Heap} (X : K.In h) (hl : h.NoLimit) (e : nsIn K cStatics sharingNotToldKey = some none) : NoneBooked h := by
  obtain ⟨mc, hn, _⟩ := hl
  refine ⟨mc, hn, ?_⟩
  obtain ⟨o, es, ep, ho, hd, _, hf⟩ := hn
  unfold nsIn at e
  split at e
  · rename_i c d es' n' sl q
    have := X _ _ q
    rw [ho] at this
    cases this
    cases hd
    split at e
    · cases e
    · rename_i he
      rw [← hf]
      unfold nsFind findBy
      rw [← Array.find?_toList, he]
      rfl
  · cases e
theorem sub_names {l l' : List PySem.Str} (H : ∀ y ∈ l, y ∈ l') {x : PySem.Str} (h : x ∈ l) : x ∈ l' := H x h
end Mine

set_option maxHeartbeats 8000000 in
theorem PySem.Challenge.cw_dm0045_01_holds : PySem.Challenge.rw_dm0045_01.Holds := by
  w_on
  o_law
  k_head
  (case hw => w_witness2)
  w_strict (lgec_go0)
  rename_i w s₀ s₁ mg mb G Y fa o pm doc ho hg KX X V GL T B TE TW bm ob M c0 P0 B9 hcd ns hs hlay0 hL1 hr1 hl2 as1 as2 l vals as3 hL ra w1 r0 hI hr hcond hcond' K0 hD h₁ tk₁ F o3 o2 o1 d3 d2 d1 N0 X0 fK cK PK oK pmK dcK gK hoK hdK rK BK fR cR PR oR pmR dcR gR hoR hdR rR BR fL cL PL oL pmL dcL gL hoL hdL rL BL fW cW PW oW pmW dcW gW hoW hdW rW BW _ _
  have hfree : ∀ x : PySem.Str, x ∉ Mine.nms → mg x = none := fun x hx => GL.free x (fun h => hx (Mine.sub_names (by decide +kernel) h)) (fun h => hx (Mine.sub_names (by decide +kernel) h))
  have Gr0 : Mine.Gr s₁.heap cK PK mg mb := ⟨T.g, T.b, T.nolimit, ⟨_, _, M⟩, BK.code, BK.tab, T.builtins, ⟨T.g, T.b, T.builtins, T.nolimit, nofun, nofun, fun x hx _ => hfree x hx, GL.digits, nofun, GL.seer⟩, Mine.booked_of KX T.nolimit (by k_is)⟩
  have D : Mine.Env1 s₁.heap cK mg fK fR fL := ⟨⟨hfree _ (by decide +kernel), ⟨oK, pmK, dcK, hoK, hdK⟩, rK⟩, ⟨oR, pmR, _, dcR, hoR, hdR, rR⟩, ⟨oL, pmL, _, dcL, hoL, hdL, rL⟩, gK, gR, gL⟩
  have hbare : AllBare s₁.gens := AllBare.of_eq hg
  refine wpAny_mono (Mine.law_ok Gr0 D rfl (by simp only [depth_deeper, depth_caller]; decide) (by simp only [units_deeper, units_caller]; decide) F N0 d1 d2 d3 hL hI (by omega) hbare fun s' B' hb' hos' => ?_) (fun _ _ x => x) fun _ _ x => x.elim
  exact ⟨.inl ⟨_, _, [], rfl, raisesW_false (by wrow_none_raised), ReadsW.bool true, postW_of (by wrow_shape) (by wtm_val) (by str_meet; first | done | w_fin), unshared_nil⟩, B'.old Gr0, hos', hb'⟩
