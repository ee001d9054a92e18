import PyProof.Rows.All
import Wide.All
import OpenK.AllK
import Wide.FinOn
import PySem.Challenge.RW_bs0041_01
open PySem PySem.W PyProof.Rows
set_option Elab.async false
set_option maxRecDepth 100000
set_option maxHeartbeats 8000000
-- Hd
namespace Mine
open_top hd for PySem.Challenge.rw_bs0041_01
end Mine
-- EdA
namespace Mine
theorem owner_map : Manifest.owners.lookup (String.ofList ['p', 'a', 'm'].reverse) = some Manifest.sig_map := by kernel_rfl
theorem slot_map_iter : Slot "map" "__iter__" "map.__iter__" :=
  .of (owner := "map") (n := "__iter__") (by rw [typeLookup_type, builtinLookup_eq_fast]; kernel_rfl) (by decide +kernel) (by decide +kernel) (by decide +kernel)
    (by first | exact .inl (by decide +kernel) | exact .inr (by decide +kernel)) (by rw [isSubtype_type]; kernel_rfl)
theorem slot_map_next : Slot "map" "__next__" "map.__next__" :=
  .of (owner := "map") (n := "__next__") (by rw [typeLookup_type, builtinLookup_eq_fast]; kernel_rfl) (by decide +kernel) (by decide +kernel) (by decide +kernel)
    (by first | exact .inl (by decide +kernel) | exact .inr (by decide +kernel)) (by rw [isSubtype_type]; kernel_rfl)
theorem slot_map_init : Slot "map" "__init__" "object.__init__" :=
  .of (owner := "object") (n := "__init__") (by rw [typeLookup_type, builtinLookup_eq_fast]; kernel_rfl) (by decide +kernel) (by decide +kernel) (by decide +kernel)
    (by first | exact .inl (by decide +kernel) | exact .inr (by decide +kernel)) (by rw [isSubtype_type]; kernel_rfl)
theorem entry_map_next : entryFor table "map.__next__" = some Builtin.«map.__next__» := entryFor_of_tree (by kernel_rfl)
theorem entry_map_new : entryFor table "map.__new__" = some Builtin.«map.__new__» := entryFor_of_tree (by kernel_rfl)
theorem entry_map_iter : entryFor table "map.__iter__" = some Builtin.«dict_keyiterator.__iter__» :=
  entryFor_alias (id' := "dict_keyiterator.__iter__") (by kernel_rfl) (by first | rfl | decide +kernel | (unfold String.splitOn; simp +decide [String.splitOnAux])) (by decide +kernel) (by kernel_rfl)
theorem args_map_next_1 (a : Value) : argsOk "map.__next__" ⟨[a], []⟩ := by
  unfold argsOk; rw [signature?_of (id := "map.__next__") (n := ['_', '_', 't', 'x', 'e', 'n', '_', '_']) (o := ['p', 'a', 'm']) (by kernel_rfl) owner_map]; kernel_rfl
theorem args_map_iter_1 (a : Value) : argsOk "map.__iter__" ⟨[a], []⟩ := by
  unfold argsOk; rw [signature?_of (id := "map.__iter__") (n := ['_', '_', 'r', 'e', 't', 'i', '_', '_']) (o := ['p', 'a', 'm']) (by kernel_rfl) owner_map]; kernel_rfl
theorem mro_map : mroOf (.type "map") = pure [.type "map", .type "object"] := by rw [mroOf_type]; kernel_rfl
theorem lookup_map_new : typeLookup (.type "map") "__new__" = pure (some (.builtin "map.__new__")) := by rw [typeLookup_type, builtinLookup_eq_fast]; kernel_rfl
theorem called_map : TypeCalled "map" "map.__new__" "object.__init__" :=
  ⟨by decide +kernel, by decide +kernel, ⟨_, _, mro_map⟩, madeBy_type mro_map lookup_map_new (by decide +kernel), by decide +kernel, by rw [isSubtype_type]; kernel_rfl, slot_map_init⟩
theorem typeCall_map_2 (a b : Value) : checkTypeCall "map" ⟨[a, b], []⟩ = pure () := by kernel_rfl
theorem newCall_map_2 (a b : Value) : checkBuiltinCall "map.__new__" ⟨[.type "map", a, b], []⟩ = pure () := by kernel_rfl
theorem sub_map : isSubtype (.type "map") (.type "map") = pure true := by rw [isSubtype_type]; kernel_rfl
theorem type_map_type : typeOf (.type "map") = pure (.type "type") := by first | rfl | kernel_rfl

abbrev IsMap (h : Heap) (mp TI : Addr) (f : Value) : Prop :=
  h.get? mp = some { cls := .type "map", dict := none, data := .fields #[.ref TI, f], slots := #[] }
abbrev IsOne (h : Heap) (T : Addr) (a : Value) : Prop := h.get? T = some { cls := .type "tuple", data := .seq #[a] }

abbrev mapH1 (h : Heap) (t : Addr) : Heap := h.push { cls := .type "tuple_iterator", data := .fields #[.ref t, .int 0 0] }
abbrev mapH2 (h : Heap) (t : Addr) : Heap := (mapH1 h t).push { cls := .type "tuple", data := .seq #[.ref h.objs.size] }
abbrev mapH3 (h : Heap) (f : Value) (t : Addr) : Heap := (mapH2 h t).push { cls := .type "map", data := .fields #[.ref (mapH1 h t).objs.size, f] }

theorem meets_map_new (f : Value) (t : Addr) (xs : Array Value) :
    Meets (Builtin.«map.__new__» ⟨[.type "map", f, .ref t], []⟩) (fun _ R s => s.heap.IsTuple t xs ∧
      R (.ok (.ret (.ref (mapH2 s.heap t).objs.size))) { s with heap := mapH3 s.heap f t }) :=
  .of_wp fun prog w A R s h => by
    obtain ⟨hp, g, d, tk, os⟩ := s; obtain ⟨hl, h⟩ := h
    have hsub := sub_map
    have hL : Heap.IsTuple (Shared.heap ⟨hp, g, d, tk, os⟩) t xs := hl
    wp_walk using wpAny_pyIter_tuple hL
    exact ⟨_, rfl, h⟩

section
variable {prog : Program} {w : World} {A : Around} {E : Value → Shared → Prop} {s : Shared}

theorem mapZ (h : Heap) (f : Value) (t : Addr) : (mapH1 h t).objs.size = h.objs.size + 1 ∧ (mapH2 h t).objs.size = h.objs.size + 2 ∧ (mapH3 h f t).objs.size = h.objs.size + 3 := by
  have z1 : (mapH1 h t).objs.size = h.objs.size + 1 := Heap.size_push ..
  have z2 : (mapH2 h t).objs.size = h.objs.size + 2 := by rw [Heap.size_push, z1]
  exact ⟨z1, z2, by rw [Heap.size_push, z2]⟩

theorem call_map {f : Value} {t : Addr} {xs : Array Value} {Q : Value → Shared → Prop} (ht : s.heap.IsTuple t xs)
    (h : ∀ h', IsMap h' (s.heap.objs.size + 2) (s.heap.objs.size + 1) f → IsOne h' (s.heap.objs.size + 1) (.ref s.heap.objs.size) → h'.IsTupleIter s.heap.objs.size t 0 → h'.objs.size = s.heap.objs.size + 3 →
      (∀ c o, s.heap.get? c = some o → h'.get? c = some o) → Q (.ref (s.heap.objs.size + 2)) { s with heap := h' }) :
    wpAny (model prog w) A (call (.type "map") [f, .ref t]) Q E s := by
  obtain ⟨z1, z2, z3⟩ := mapZ s.heap f t
  refine callType_new called_map (by decide) (typeCall_map_2 _ _) (newCall_map_2 _ _) (fun obj => F.args_object_init_3 obj _ _) entry_map_new
    (meets_map_new f t xs) ⟨ht, ?_⟩
  have g3 : (mapH3 s.heap f t).get? (mapH2 s.heap t).objs.size = some _ := Heap.get?_push_size _ rfl
  have g2 : (mapH3 s.heap f t).get? (mapH1 s.heap t).objs.size = some _ := Heap.get?_push_of_some _ (Heap.get?_push_size _ rfl)
  have g1 : (mapH3 s.heap f t).get? s.heap.objs.size = some _ := Heap.get?_push_of_some _ (Heap.get?_push_of_some _ (Heap.get?_push_size _ rfl))
  show _ ∧ _
  rw [z2, z1] at g3
  rw [z1] at g2
  rw [z2]
  exact ⟨⟨_, g3, rfl⟩, h _ g3 g2 ⟨_, g1, rfl, rfl⟩ z3 fun c o x => Heap.get?_push_of_some _ (Heap.get?_push_of_some _ (Heap.get?_push_of_some _ x))⟩

theorem pyIter_map {mp TI : Addr} {f : Value} {Q : Value → Shared → Prop} (hz : IsMap s.heap mp TI f) (h : Q (.ref mp) s) : wpAny (model prog w) A (pyIter (.ref mp)) Q E s := by
  have hT : s.TypeIs (.ref mp) "map" := ⟨_, hz, rfl⟩
  refine wpAny_pyIter_slot hT slot_map_iter (wpAny_call_entry slot_map_iter hT entry_map_iter ?_ (args_map_iter_1 _))
  show wpAny _ _ (ret (.ref mp)) _ _ s
  exact wpAny_pure ⟨_, rfl, "map", _, hT, slot_map_next.lookup, h⟩

theorem nextOf_tuple_item {it t : Addr} {i : Nat} {items} {x : Value} {Q : Value → Shared → Prop} (hit : s.heap.IsTupleIter it t i)
    (ht : s.heap.IsTuple t items) (hx : items[i]? = some x)
    (hQ : ∀ h', h'.IsTupleIter it t (i + 1) → Heap.SameBut it s.heap h' → Q x { s with heap := h' }) :
    wpAny (model prog w) A (Builtin.SmallTypes.nextOf (.ref it)) Q E s := by
  obtain ⟨o, ho, hc, hd⟩ := id hit
  obtain ⟨ol, hol, _, nl, hdl⟩ := ht
  unfold Builtin.SmallTypes.nextOf
  refine wpAny_bind (wpAny_callSpecial?_slot (name := Str.ofString "__next__") hit.typeIs F.slot_tuple_iterator_next
    (wpAny_call_entry F.slot_tuple_iterator_next hit.typeIs F.entry_tuple_iterator_next ?_ (F.args_tuple_iterator_next_1 _)))
  show wpAny _ _ (field (.ref it) 0 >>= _) _ _ s
  refine wpAny_bind (wpAny_field ho hd (x := .ref t) rfl ?_)
  show wpAny _ _ (if (Value.ref t == Value.none) = true then _ else _) _ _ s
  rw [if_neg (show ¬ ((Value.ref t == Value.none) = true) from Bool.false_ne_true)]
  show wpAny _ _ (field (.ref it) 1 >>= _) _ _ s
  refine wpAny_bind (wpAny_field ho hd (x := .int i 0) rfl ?_)
  show wpAny _ _ (seqItems? (.ref t) >>= _) _ _ s
  refine wpAny_bind (wpAny_seqItems hol hdl ?_)
  simp only [Int.toNat_natCast, hx]
  refine wpAny_bind (wpAny_setField ho hd (by simp) (wpAny_pure ⟨x, rfl, wpAny_pure (hQ _ ?_ (Heap.SameBut.update ..))⟩))
  exact ⟨_, Heap.get?_update_self _ ho (Obj.isFreed_of_fields (Obj.data_mapFields hd _)), (Obj.cls_mapFields ..).trans hc, by
    rw [Obj.data_mapFields hd]; simp [rawInt]⟩

theorem nextOf_tuple_end {it t : Addr} {i : Nat} {items} {Q : Value → Shared → Prop} (hh : A.handled = none)
    (hit : s.heap.IsTupleIter it t i) (ht : s.heap.IsTuple t items) (hx : items[i]? = none)
    (hE : ∀ h' e, Heap.ExtBut it s.heap h' → (∃ o, h'.get? e = some o ∧ o.cls = .type "StopIteration") → E (.ref e) { s with heap := h' }) :
    wpAny (model prog w) A (Builtin.SmallTypes.nextOf (.ref it)) Q E s := by
  obtain ⟨o, ho, hc, hd⟩ := id hit
  obtain ⟨ol, hol, _, nl, hdl⟩ := ht
  unfold Builtin.SmallTypes.nextOf
  refine wpAny_bind (wpAny_callSpecial?_slot (name := Str.ofString "__next__") hit.typeIs F.slot_tuple_iterator_next
    (wpAny_call_entry F.slot_tuple_iterator_next hit.typeIs F.entry_tuple_iterator_next ?_ (F.args_tuple_iterator_next_1 _)))
  show wpAny _ _ (field (.ref it) 0 >>= _) _ _ s
  refine wpAny_bind (wpAny_field ho hd (x := .ref t) rfl ?_)
  show wpAny _ _ (if (Value.ref t == Value.none) = true then _ else _) _ _ s
  rw [if_neg (show ¬ ((Value.ref t == Value.none) = true) from Bool.false_ne_true)]
  show wpAny _ _ (field (.ref it) 1 >>= _) _ _ s
  refine wpAny_bind (wpAny_field ho hd (x := .int i 0) rfl ?_)
  show wpAny _ _ (seqItems? (.ref t) >>= _) _ _ s
  refine wpAny_bind (wpAny_seqItems hol hdl ?_)
  simp only [Int.toNat_natCast, hx]
  refine wpAny_bind (wpAny_rule (wpAny_bind (wpAny_setField ho hd (by simp) ?_)))
  show wpAny _ _ (newExc (.type "StopIteration") [] >>= _) _ _ _
  refine wpAny_bind ?_
  simp only [newExc, newTuple]
  refine wpAny_bind (wpAny_newObj_type ?_ (by size_fits))
  refine wpAny_bind (m := firstArgMember _ _) (wpAny_of_eq (a := Value.none) (by first | rfl | (simp only [firstArgMember]; rfl)) ?_)
  refine wpAny_newObj_type ?_ (by size_fits)
  simp only [raiseNew]
  refine wpAny_bind (wpAny_handled ?_)
  first | rw [show A.in1.handled = none from hh] | rw [hh]
  refine wpAny_bind (wpAny_pure (wpAny_throw ?_))
  exact hE _ _ (((Heap.SameBut.update ..).extBut.push _).push _) ⟨_, Heap.get?_push_size _ rfl, rfl⟩

end
end Mine
-- EdB
namespace Mine
section
variable {prog : Program} {w : World} {A : Around} {E : Value → Shared → Prop} {s : Shared}
theorem pyNext_map_item {mp TI it t : Addr} {f x : Value} {i : Nat} {xs : Array Value} {Q : Option Value → Shared → Prop} (hm : IsMap s.heap mp TI f) (hT : IsOne s.heap TI (.ref it)) (hne : mp ≠ it)
    (hit : s.heap.IsTupleIter it t i) (ht : s.heap.IsTuple t xs) (hx : xs[i]? = some x)
    (h : ∀ h₁, h₁.IsTupleIter it t (i + 1) → Heap.SameBut it s.heap h₁ → ∀ E', wpAny (model prog w) A.in1 (call f [x]) (fun r s' => Q (some r) s') E' { s with heap := h₁ }) :
    wpAny (model prog w) A (pyNext (.ref mp)) Q E s := by
  have hTy : s.TypeIs (.ref mp) "map" := ⟨_, hm, rfl⟩
  unfold pyNext
  refine wpAny_bind (wpAny_attempt (wpAny_callSpecial?_slot (name := Str.ofString "__next__") hTy slot_map_next
    (wpAny_call_entry slot_map_next hTy entry_map_next ?_ (args_map_next_1 _))))
  show wpAny _ _ (field (.ref mp) 0 >>= _) _ _ s
  refine wpAny_bind (wpAny_field hm rfl (x := .ref TI) rfl ?_)
  show wpAny _ _ (seqItems? (.ref TI) >>= _) _ _ s
  refine wpAny_bind (wpAny_seqItems hT rfl ?_)
  simp only [List.forIn_cons, List.forIn_nil, ← Array.forIn_toList]
  refine wpAny_bind (wpAny_bind (wpAny_bind (wpAny_holding (nextOf_tuple_item hit ht hx fun h₁ hit₁ hs₁ => ?_))))
  have hm₁ : IsMap h₁ mp TI f := hs₁.extBut _ _ hne hm
  refine wpAny_pure (wpAny_pure ?_)
  refine wpAny_bind (wpAny_field hm₁ rfl (x := f) rfl ?_)
  refine wpAny_bind (wpAny_holding (wpAny_mono (h h₁ hit₁ hs₁ _) (fun r s' hr => ?_) fun _ _ e => e))
  exact wpAny_bind (wpAny_letGo (wpAny_pure ⟨r, rfl, wpAny_pure hr⟩))

theorem pyNext_map_end {mp TI it t : Addr} {f : Value} {i : Nat} {xs : Array Value} {Q : Option Value → Shared → Prop} (hh : A.handled = none) (hm : IsMap s.heap mp TI f) (hT : IsOne s.heap TI (.ref it))
    (hit : s.heap.IsTupleIter it t i) (ht : s.heap.IsTuple t xs) (hx : xs[i]? = none)
    (hQ : ∀ h', Heap.ExtBut it s.heap h' → Q none { s with heap := h' }) : wpAny (model prog w) A (pyNext (.ref mp)) Q E s := by
  have hTy : s.TypeIs (.ref mp) "map" := ⟨_, hm, rfl⟩
  unfold pyNext
  refine wpAny_bind (wpAny_attempt (wpAny_callSpecial?_slot (name := Str.ofString "__next__") hTy slot_map_next
    (wpAny_call_entry slot_map_next hTy entry_map_next ?_ (args_map_next_1 _))))
  show wpAny _ _ (field (.ref mp) 0 >>= _) _ _ s
  refine wpAny_bind (wpAny_field hm rfl (x := .ref TI) rfl ?_)
  show wpAny _ _ (seqItems? (.ref TI) >>= _) _ _ s
  refine wpAny_bind (wpAny_seqItems hT rfl ?_)
  simp only [List.forIn_cons, List.forIn_nil, ← Array.forIn_toList]
  refine wpAny_bind (wpAny_bind (wpAny_bind (wpAny_holding (nextOf_tuple_end hh hit ht hx fun h' e hs' he => ?_))))
  obtain ⟨o, ho, hc⟩ := he
  refine wpAny_bind (wpAny_isInstance (T := "StopIteration") (b := true) ⟨o, ho, hc⟩ isSubtype_stop ?_)
  exact wpAny_pure (hQ _ hs')

/-- what a map over a tuple walks: the function is quiet (it makes objects, it changes none) -/
theorem Walks_map (hh : A.handled = none) {mp TI it t : Addr} {f : Value} {xs : Array Value} {P : Nat → Value → Prop} {H : Heap} (hm : IsMap H mp TI f) (hT : IsOne H TI (.ref it)) (ht : H.IsTuple t xs) (hit : it < H.objs.size)
    (hne : mp ≠ it) (hTI : TI ≠ it) (htit : t ≠ it)
    (hf : ∀ i x (s₁ : Shared) E', xs[i]? = some x → (∀ b o, b ≠ it → H.get? b = some o → s₁.heap.get? b = some o) → wpAny (model prog w) A.in1 (call f [x]) (fun r s₂ => P i r ∧ Keeps s₁ s₂) E' s₁) :
    Walks prog w A mp (List.range H.objs.size) [it] xs.size P (fun i h => (∀ b o, b ≠ it → H.get? b = some o → h.get? b = some o) ∧ h.IsTupleIter it t i) where
  sub := fun b hb => by rw [List.mem_singleton.mp hb]; exact List.mem_range.mpr hit
  frame := fun i h h' st hk => ⟨fun b o hb e => hk b (List.mem_range.mpr (Heap.lt_size e)) o (st.1 b o hb e), st.2.at fun o e => hk it (List.mem_range.mpr hit) o e⟩
  item := fun i s Q E hi st hQ => by
    have hx : xs[i]? = some xs[i] := by simp [hi]
    refine pyNext_map_item (st.1 _ _ hne hm) (st.1 _ _ hTI hT) hne st.2 (ht.at fun o e => st.1 _ o htit e) hx fun h₁ hit₁ hs₁ E' => ?_
    refine wpAny_mono (hf i xs[i] { s with heap := h₁ } E' hx fun b o hb e => hs₁.extBut b o hb (st.1 b o hb e)) (fun r s₂ hr => ?_) fun _ _ e => e
    obtain ⟨hP, h₂, tk, rfl, hk⟩ := hr
    exact hQ r h₂ tk hP ⟨fun b o hb e => hk b o (hs₁.extBut b o hb (st.1 b o hb e)), hit₁.at fun o e => hk it o e⟩ fun b o hb e => hk b o (hs₁.extBut b o (fun q => hb (by simp [q])) e)
  done := fun s Q E st hQ => pyNext_map_end hh (st.1 _ _ hne hm) (st.1 _ _ hTI hT) st.2 (ht.at fun o e => st.1 _ o htit e) (by simp) fun h' he => hQ h' s.toks fun b o hb e => he b o (fun q => hb (by simp [q])) e
  self := fun i s Q E st hQ => pyIter_map (st.1 _ _ hne hm) hQ
end
end Mine
-- EdC
namespace Mine
/-- the texts met so far, and their number -/
def memS (val : Nat → Str) : Nat → Str → Bool
  | 0, _ => false
  | i + 1, k => memS val i k || decide (k = val i)
def cntS (val : Nat → Str) : Nat → Nat
  | 0 => 0
  | i + 1 => if memS val i (val i) then cntS val i else cntS val i + 1
theorem cntS_le (val : Nat → Str) : ∀ i, cntS val i ≤ i
  | 0 => Nat.le_refl _
  | i + 1 => by have := cntS_le val i; unfold cntS; split <;> omega
section
variable {prog : Program} {w : World} {A : Around} {E : Value → Shared → Prop} {s : Shared}

theorem code_set_loop_strs {R : Result → Shared → Prop} {I : Addr} {fp wr : List Addr} {n : Nat} {P : Nat → Value → Prop} {St : Nat → Heap → Prop} (W : Walks prog w A.in1 I fp wr n P St) (S : Addr) (hSf : S ∉ fp)
    (val : Nat → Str) (hval : ∀ i v, P i v → ∃ t, v = .str (val i) t) (hb : n + 1 < scanBound) :
    ∀ (k i : Nat) (s : Shared), n - i = k → i ≤ n → St i s.heap → s.heap.SetOf (strKind prog w) S (memS val i) (cntS val i) →
      (∀ h' tk, (∀ b o, b ≠ S → b ∉ wr → s.heap.get? b = some o → h'.get? b = some o) → h'.SetOf (strKind prog w) S (memS val n) (cntS val n) → R (.ok (.ret .none)) { s with heap := h', toks := tk }) →
      codeAny (model prog w) A (.builtin "set.update.loop" ⟨[.ref S, .ref I], []⟩) R s := by
  have hSw : S ∉ wr := fun h => hSf (W.sub _ h)
  intro k
  induction k with
  | zero =>
    intro i s hk hi hst hS hR
    have hin : i = n := by omega
    subst hin
    refine codeAny_builtin PyProof.Rows.F.entry_set_update_loop ?_
    rw [Around.under_plainId PyProof.Rows.F.plain_set_update_loop _]
    show wpAny _ A.in1 (pyNext (.ref I) >>= _) _ _ s
    refine wpAny_bind (W.done s _ _ hst fun h' tk hm => ?_)
    show wpAny _ A.in1 (ret Value.none) _ _ _
    exact wpAny_pure (hR h' tk (fun b o _ hbw e => hm b o hbw e) (by
      obtain ⟨o, es, ep, t, ho, rest⟩ := hS
      exact ⟨o, es, ep, t, hm S _ hSw ho, rest⟩))
  | succ k ih =>
    intro i s hk hi hst hS hR
    have hlt : i < n := by omega
    refine codeAny_builtin PyProof.Rows.F.entry_set_update_loop ?_
    rw [Around.under_plainId PyProof.Rows.F.plain_set_update_loop _]
    show wpAny _ A.in1 (pyNext (.ref I) >>= _) _ _ s
    refine wpAny_bind (W.item i s _ _ hlt hst fun v h₁ tk₁ hP hst' hm => ?_)
    obtain ⟨t, rfl⟩ := hval i v hP
    have hS' : h₁.SetOf (strKind prog w) S (memS val i) (cntS val i) := by
      obtain ⟨o, es, ep, tb, ho, rest⟩ := hS
      exact ⟨o, es, ep, tb, hm S _ hSw ho, rest⟩
    show wpAny _ A.in1 (holding [Value.str (val i) t] (setAdd S (.str (val i) t)) >>= _) _ _ _
    refine wpAny_bind (wpAny_holding ?_)
    unfold setAdd
    refine wpAny_holding ?_
    refine wpAny_bind ((strKind prog w).pyHash (k := val i) (strKind_is _ _ _ _) ?_)
    have hroom : cntS val i + 1 < scanBound := by have := cntS_le val i; omega
    refine wpAny_setAddHashed_of (knd := strKind prog w) (s := { s with heap := h₁, toks := tk₁ + 1 }) (strKind_is _ _ _ _) rfl hS' hroom fun h' hsb hS2 => ?_
    refine wpAny_pure ⟨plainId_quiet PyProof.Rows.F.plain_set_update_loop _, ih (i + 1) _ (by omega) hlt (W.frame _ h₁ _ hst' fun b hb o e => ?_) hS2 fun h'' tk'' hm'' hS'' => ?_⟩
    · exact (hsb.2 b (fun h : b = S => hSf (by rw [← h]; exact hb))).trans e
    · refine hR h'' tk'' (fun b o hbS hbw e => hm'' b o hbS hbw ((hsb.2 b hbS).trans (hm b o hbw e))) hS''

set_option maxHeartbeats 3200000 in
theorem call_set_tuple {l : Addr} {items : Array Value} {val : Nat → Str} {Q : Value → Shared → Prop}
    (hh : A.handled = none) (hl : s.heap.IsTuple l items) (hval : ∀ (i : Nat) (v : Value), items[i]? = some v → ∃ t, v = Value.str (val i) t) (hb : items.size + 1 < scanBound)
    (h : ∀ (h' : Heap) (tk : Nat), h'.SetOf (strKind prog w) s.heap.objs.size (memS val items.size) (cntS val items.size) →
      (∀ b o, s.heap.get? b = some o → h'.get? b = some o) → Q (.ref s.heap.objs.size) { s with heap := h', toks := tk }) :
    wpAny (model prog w) A (call (.type "set") [.ref l]) Q E s := by
  obtain ⟨c, tl, hmro⟩ := F.called_set.mro
  have hmade := F.called_set.made
  have hsub := F.called_set.sub
  refine wpAny_call (codeAny_of_tree ?_)
  show wpAny _ _ (callAny (.type "set") _) _ _ _
  refine wpAny_pure ⟨Code.quiet_builtin _ (by decide +kernel), codeAny_builtin F.entry_type_call ?_⟩
  rw [Around.under_plain (weight_type_call_type "set" [.ref l] []) rfl]
  have h1 := F.called_set.notType
  have h2 := F.called_set.canCreate
  have hct := F.typeCall_set_1 (.ref l)
  repeat (any_goals (first | assumption | wp_step))
  refine codeAny_mono (code_set_new_1 (.ref l) (E := E) (Q₁ := fun obj s₁ => ∃ led : Bool, obj = .ref s.heap.objs.size ∧ s₁ = { s with heap := s.heap.push { cls := .type "set", dict := none, data := .set #[] 0 (.fresh 0 0 led) } }) fun led => ⟨led, rfl, rfl⟩) fun r s₁ hr => ?_
  cases r with
  | error e => exact hr
  | ok fl =>
    cases fl with
    | ret obj =>
      obtain ⟨led, rfl, rfl⟩ := hr
      have hS : (s.heap.push { cls := .type "set", dict := none, data := .set #[] 0 (.fresh 0 0 led) }).get? s.heap.objs.size = some { cls := .type "set", dict := none, data := .set #[] 0 (.fresh 0 0 led) } := Heap.get?_push_size _ rfl
      have hT : Shared.TypeIs { s with heap := s.heap.push { cls := .type "set", dict := none, data := .set #[] 0 (.fresh 0 0 led) } } (.ref s.heap.objs.size) "set" := ⟨_, hS, rfl⟩
      have hli := F.called_set.init.lookup
      have hbi := F.called_set.init.bind (.ref s.heap.objs.size)
      repeat (any_goals (first | assumption | wp_step))
      refine codeAny_mono (codeAny_call_builtin (R := wants (fun r s₂ => r = .none ∧ ∃ h' tk, s₂ = { s with heap := h', toks := tk } ∧
          h'.SetOf (strKind prog w) s.heap.objs.size (memS val items.size) (cntS val items.size) ∧
          (∀ b o, s.heap.get? b = some o → h'.get? b = some o)) E) F.called_set.init.plain F.entry_set_init (check_set_init_1 hT ?_)) fun r₂ s₂ hr₂ => ?_
      · obtain ⟨ol, hol, hcl, nl, hdl⟩ := hl
        obtain ⟨ocls, odict, odata, oslots⟩ := ol
        simp only at hcl hdl
        subst hcl; subst hdl
        have hol' : (s.heap.push { cls := .type "set", dict := none, data := .set #[] 0 (.fresh 0 0 led) }).get? l = some { cls := .type "tuple", dict := odict, data := .seq items nl, slots := oslots } := Heap.get?_push_of_some _ hol
        have hsls := F.sub_tuple_set
        have hslf := F.sub_tuple_frozenset
        have hne : (Value.type "tuple" == Value.type "dict") = false := by decide
        have hl1 : (s.heap.push { cls := .type "set", dict := none, data := .set #[] 0 (.fresh 0 0 led) }).IsTuple l items := ⟨_, hol', rfl, nl, rfl⟩
        unfold Builtin.«set.__init__» noKeywords Builtin.Frozenset.updateFrom
        generalize hPI : pyIter = PI
        wp_walk
        subst hPI
        refine wpAny_pyIter_tuple hl1 ?_
        refine wpAny_bind (wpAny_runValue ?_)
        have hlS : l < s.heap.objs.size := Heap.lt_size hol
        have hh3 : A.in1.in1.in1.handled = none := by simp [hh]
        have hneI : l ≠ (s.heap.push { cls := .type "set", dict := none, data := .set #[] 0 (.fresh 0 0 led) }).objs.size := by
          rw [Heap.size_push]; exact Nat.ne_of_lt (Nat.lt_succ_of_lt hlS)
        have hSf : s.heap.objs.size ∉ [(s.heap.push { cls := .type "set", dict := none, data := .set #[] 0 (.fresh 0 0 led) }).objs.size, l] := by
          rw [Heap.size_push]; simp only [List.mem_cons, List.mem_singleton, List.not_mem_nil, or_false, not_or]
          exact ⟨Nat.ne_of_lt (Nat.lt_succ_self _), Nat.ne_of_gt hlS⟩
        refine code_set_loop_strs (Walks.tuple hh3 _ l hneI items) s.heap.objs.size
          hSf val hval hb (items.size - 0) 0 _ (by omega) (Nat.zero_le _)
          ⟨⟨_, Heap.get?_push_size _ rfl, rfl, rfl⟩, (hl1.push _)⟩ ?hS0 ?hR
        case hS0 =>
          have hget : ((s.heap.push { cls := .type "set", dict := none, data := .set #[] 0 (.fresh 0 0 led) }).push { cls := .type "tuple_iterator", data := .fields #[.ref l, .int 0 0] }).get? s.heap.objs.size
              = some { cls := .type "set", dict := none, data := .set #[] 0 (.fresh 0 0 led) } := Heap.get?_push_of_some _ hS
          exact PyProof.Rows.SetOf_congr ((PyProof.Rows.setObjOf_fresh (knd := strKind prog w) led).setOf hget (by unfold scanBound; omega)) (fun _ => rfl) rfl
        case hR =>
          intro h' tk' hm hS'
          show wpAny _ _ _ _ _ _
          refine wpAny_pure ?_
          show wpAny _ _ (ret Value.none) _ _ _
          refine wpAny_pure ⟨rfl, h', tk', rfl, hS', fun b o e => ?_⟩
          have hb0 : b < s.heap.objs.size := Heap.lt_size e
          have hb1 : b ≠ s.heap.objs.size := Nat.ne_of_lt hb0
          have hb2 : b ≠ (s.heap.push { cls := .type "set", dict := none, data := .set #[] 0 (.fresh 0 0 led) }).objs.size := by
            rw [Heap.size_push]; exact Nat.ne_of_lt (Nat.lt_succ_of_lt hb0)
          exact hm b o hb1 (by simp only [List.mem_singleton]; exact hb2) (Heap.get?_push_of_some _ (Heap.get?_push_of_some _ e))
      · cases r₂ with
        | error e => exact hr₂
        | ok fl₂ =>
          cases fl₂ with
          | ret r =>
            obtain ⟨rfl, h', tk, rfl, hS', hk'⟩ := hr₂
            repeat (any_goals (first | assumption | wp_step))
            exact h _ _ hS' hk'
          | _ => exact hr₂.elim
    | _ => exact hr.elim
end
end Mine
-- EdD
namespace Mine
section
variable {prog : Program} {w : World} {A : Around} {E : Value → Shared → Prop} {s : Shared} {h₀ : Heap} {L : Addr} {m : Str → Option Value} {news : List (Addr × Obj)} {Q : Value → Shared → Prop}

theorem fr_grown {h' : Heap} (F : Fr h₀ L s.heap m) (hk : ∀ b o, s.heap.get? b = some o → h'.get? b = some o) : Fr h₀ L h' m := by
  obtain ⟨oL, es, ep, hL, r⟩ := F.ns
  exact ⟨⟨oL, es, ep, hk _ _ hL, r⟩, fun b o e => hk _ _ (F.keep b o e), F.above⟩
theorem news_grown {h' : Heap} (N : News h₀ L s.heap news) (hk : ∀ b o, s.heap.get? b = some o → h'.get? b = some o) : News h₀ L h' news := fun p hp => ⟨hk _ _ (N p hp).1, (N p hp).2⟩
theorem fresh_off (F : Fr h₀ L s.heap m) {b : Addr} (hb : s.heap.objs.size ≤ b) : b ≠ L ∧ h₀.get? b = none := by
  have hLs : L < s.heap.objs.size := F.ns.lt
  refine ⟨fun q => absurd hLs (Nat.not_lt.mpr (q ▸ hb)), ?_⟩
  cases e : h₀.get? b with
  | none => rfl
  | some o => exact absurd (Heap.lt_size (F.keep _ _ e)) (Nat.not_lt.mpr hb)

theorem set_K {l : Addr} {a b : Str} {ta tb : Tok} (F : Fr h₀ L s.heap m) (N : News h₀ L s.heap news) (hm : (l, ({ cls := .type "tuple", data := .seq #[.str a ta, .str b tb] } : Obj)) ∈ news) (hh : A.handled = none)
    (h : ∀ h' tk o, Fr h₀ L h' m → News h₀ L h' ((s.heap.objs.size, o) :: news) → (∀ p ∈ news, p.1 < s.heap.objs.size) → o.SetObjOf (strKind prog w) (memS (fun i => if i = 0 then a else b) 2) (if a = b then 1 else 2) → Q (.ref s.heap.objs.size) { s with heap := h', toks := tk }) :
    wpAny (model prog w) A (call (.type "set") [.ref l]) Q E s := by
  refine call_set_tuple (items := #[.str a ta, .str b tb]) (val := fun i => if i = 0 then a else b) hh ⟨_, (N _ hm).1, rfl, _, rfl⟩ (fun i v e => ?_) (show 2 + 1 < scanBound by decide) fun h' tk hS hk => ?_
  · match i with
    | 0 => simp at e; exact ⟨ta, by simpa using e.symm⟩
    | 1 => simp at e; exact ⟨tb, by simpa using e.symm⟩
    | i + 2 => simp at e
  · obtain ⟨o, ho, hso⟩ := hS.objOf
    refine h h' tk o (fr_grown F hk) (fun p hp => ?_) (fun p hp => Heap.lt_size (N p hp).1) ?_
    · rcases List.mem_cons.mp hp with rfl | hp
      · exact ⟨ho, fresh_off F (Nat.le_refl _)⟩
      · exact news_grown N hk p hp
    · have hn : cntS (fun i => if i = 0 then a else b) (#[Value.str a ta, Value.str b tb] : Array Value).size = if a = b then 1 else 2 := by
        show cntS _ 2 = _
        by_cases e : a = b
        · simp [cntS, memS, e]
        · simp [cntS, memS, e, Ne.symm e]
      rw [hn] at hso
      exact hso

theorem len_setK {S : Addr} {o : Obj} {mem : Str → Bool} {n : Nat} (N : News h₀ L s.heap news) (hm : (S, o) ∈ news) (hso : o.SetObjOf (strKind prog w) mem n) (hn : n < scanBound)
    (h : ∀ t tk, Q (.int n t) { s with toks := tk }) : wpAny (model prog w) A (call (.builtin "len") [.ref S]) Q E s := by
  obtain ⟨hex, es, ep, t, hd, hel, hmem, hsz, hf⟩ := hso
  have hb : es.size < scanBound := by rw [hsz]; exact hn
  refine call_len_set (N _ hm).1 hex hd hf (by unfold scanBound at hb; omega) ?_
  rw [hsz]
  exact h _ _
end
end Mine
-- EdE
namespace Mine
theorem fresh_EdE : True := by (w_top off; exact trivial)
abbrev Arnd (dp un : Nat) (gd : Option (List Code)) (env : Env) (outer : List Env) : Around := { handled := none, depth := dp, frames := some (env :: outer), guards := gd, units := un }
local macro_rules | `(tactic| k_room) => `(tactic| ktr_room)
local macro_rules | `(tactic| walk_at "MY rest") => `(tactic| (
  refine' kp_rest ?k1 ?k2 ?k3 ?k4 ?k5 ?kA ?kF ?kK ?k6 ?k7 ?k8 ?kV ?kP ?kG ?kB ?_ ?c2 ?c3 ?c4 ?c5
  (case kA => exact rfl)
  (case kF => first | exact rfl | assumption)
  (case kK => first | exact rfl | assumption)
  (case k1 => k_asm)
  (case k2 => k_asm)
  (case k3 => k_asm)
  (case k4 => k_asm)
  (case k5 => k_asm)
  (case k6 => k_is)
  (case k7 => k_is)
  (case k8 => k_room)
  (case kV => kl_lit)
  (case kP => exact rfl)
  (case kG => exact fun _ => rfl)
  (case kB => exact fun _ => locs rfl)
  (case c5 => decide)
  (case c2 => exact rfl)
  (case c3 => exact rfl)
  (case c4 => exact rfl)
  k_whole
  intro D' g' L' h' l1 FG' F' N' B' X' T'
  (try k_lt l1); (try dsimp only); (try k_lift B'); (try k_fold)))
local macro_rules | `(tactic| walk_at "MY plain") => `(tactic| (
  refine' code_def ?k1 ?k2 ?k3 ?k4 ?k5 ?kA ?kF ?kK ?k6 ?k7 ?k8 ?k9 ?kB ?_ ?c2 ?c3 ?c4 ?c5
  (case kA => exact rfl)
  (case kF => first | exact rfl | assumption)
  (case kK => first | exact rfl | assumption)
  (case k1 => k_asm)
  (case k2 => k_asm)
  (case k3 => k_asm)
  (case k4 => k_asm)
  (case k5 => k_asm)
  (case k6 => k_is)
  (case k7 => k_is)
  (case k8 => k_room)
  (case k9 => first | exact BindsTo.of_eq rfl | exact binds_K (by k_in) rfl (by k_is) rfl rfl rfl)
  (case c5 => decide)
  (case kB => exact locs rfl)
  (case c2 => exact rfl)
  (case c3 => exact rfl)
  (case c4 => exact rfl)
  k_whole
  intro g' L' h' FG' F' N' B' X' T'
  (try dsimp only); (try k_lift B'); (try k_fold)))
local macro_rules | `(tactic| walk_at "call type:set") => `(tactic| (k_here; k_dflt (refine' set_K ?kF ?kN ?kM ?kH ?_; (case kF => k_asm); (case kN => k_asm); (case kM => k_mem); (case kH => exact rfl); k_whole); intro h' tk' o' F' N' l1 hso'; (try k_lt l1); (try k_sweep)))
local macro_rules | `(tactic| walk_at "call builtin:len") => `(tactic| (k_here; (with_reducible show wpAny _ _ (call (Value.builtin _) [Value.ref _]) _ _ _); k_dflt (refine' len_setK ?kN ?kM ?kS ?kB ?_; (case kN => k_asm); (case kM => k_mem); (case kS => assumption); (case kB => (split <;> decide)); k_whole); intro t' tk'; (try dsimp only)))
section
variable {w : World} {p : Program} {loose : List Str} {mean : ExcName → Option Value} {mg mb : Str → Option Value} {dp un : Nat} {gd : Option (List Code)} {env : Env} {outer : List Env} {A₀ : Around} {base h₀ : Heap} {L : Addr} {m : Str → Option Value} {news : List (Addr × Obj)} {s : Shared} {R : Result → Shared → Prop}
theorem ident_c (B : Below A₀ base outer h₀) (F : Fr h₀ L s.heap m) (X : (hd.heap_39 w.params).In h₀) (N : News h₀ L s.heap news) (T : Top p loose mean mg mb h₀) (hf : env.frame = some L) (hke : env.scope.kind = .function) (hdp : dp + 8 < recursionLimit) (hun : un + 64 < cLine) {a b : Str} {ta tb : Tok}
  (hR : ∀ h' tk', Fr h₀ L h' m → News h₀ L h' news → R (.ok (.ret (.bool (decide (a = b))))) {s with heap := h', toks := tk'}) : codeAny (model PySem.Challenge.rw_bs0041_01.row.prog w) (Arnd dp un gd env outer) (.call (.ref 95) ⟨[.str a ta, .str b tb], []⟩) R s := by
  revert X; k_fill; intro X
  walk_at "MY rest"
  k_steps
  with_reducible rename Fr h₀ _ _ _ => kF
  with_reducible rename News h₀ _ _ _ => kN
  have e : (((if a = b then 1 else 2 : Nat) : Int) == 1) = decide (a = b) := by split <;> simp_all
  rw [e]
  exact hR _ _ kF (fun p hp => kN p (.tail _ (.tail _ hp)))
end
end Mine
-- EdF
namespace Mine
/-- the lambda's code object, as far as it is asked -/
def IsCode (o : Obj) : Prop := ∃ vs t, o.data = .fields vs ∧ vs[1]? = some (Value.str (Str.ofString "Editex.r_cost.<locals>.<lambda>") t)
/-- r_cost's table of codes: nothing yet, the first lambda's, both -/
inductive TS : List (Addr × Obj) → Prop
  | t0 : TS [(172, tabObj #[])]
  | t1 {c1 : Addr} {o1 : Obj} : IsCode o1 → TS [(172, tabObj #[rawInt 92, rawInt 19, .ref c1]), (c1, o1)]
  | t2 {c1 : Addr} {o1 : Obj} {c2 : Addr} {o2 : Obj} : IsCode o1 → IsCode o2 → TS [(172, tabObj #[rawInt 92, rawInt 19, .ref c1, rawInt 95, rawInt 23, .ref c2]), (c1, o1), (c2, o2)]
inductive TS1 : List (Addr × Obj) → Prop
  | t1 {c1 : Addr} {o1 : Obj} : IsCode o1 → TS1 [(172, tabObj #[rawInt 92, rawInt 19, .ref c1]), (c1, o1)]
  | t2 {c1 : Addr} {o1 : Obj} {c2 : Addr} {o2 : Obj} : IsCode o1 → IsCode o2 → TS1 [(172, tabObj #[rawInt 92, rawInt 19, .ref c1, rawInt 95, rawInt 23, .ref c2]), (c1, o1), (c2, o2)]
theorem TS1.ts {l : List (Addr × Obj)} (h : TS1 l) : TS l := by
  cases h with
  | t1 a => exact .t1 a
  | t2 a b => exact .t2 a b

/-- a ledger with a hole for the table's part -/
structure Hole (g : List (Addr × Obj) → List (Addr × Obj)) : Prop where
  out : ∀ T p, p ∈ g T → p ∈ T ∨ p ∈ g []
  inT : ∀ T p, p ∈ T → p ∈ g T
  inR : ∀ T p, p ∈ g [] → p ∈ g T
theorem Hole.base (own : List (Addr × Obj)) : Hole (fun T => T ++ own) := ⟨fun _ _ h => (List.mem_append.mp h).imp id fun h => h, fun _ _ h => List.mem_append.mpr (.inl h), fun _ _ h => List.mem_append.mpr (.inr h)⟩
theorem TS.lt {Tl own : List (Addr × Obj)} {D : Addr} (h : TS Tl) (l : AllLt D (Tl ++ own)) : 172 < D := by
  cases h with
  | t0 => exact l.1
  | t1 _ => exact l.1
  | t2 _ _ => exact l.1
theorem Hole.cons {g : List (Addr × Obj) → List (Addr × Obj)} (h : Hole g) (q : Addr × Obj) : Hole (fun T => q :: g T) :=
  ⟨fun T p hp => (List.mem_cons.mp hp).elim (fun e => .inr (e ▸ .head _)) fun hp => (h.out T p hp).imp id (.tail _), fun T p hp => .tail _ (h.inT T p hp), fun T p hp => (List.mem_cons.mp hp).elim (fun e => e ▸ .head _) fun hp => .tail _ (h.inR T p hp)⟩

section
variable {M : Model} {A : Around} {E : Value → Shared → Prop} {s : Shared} {h₀ : Heap} {L a : Addr} {m mg mb : Str → Option Value} {cn : Str} {cs : Scope} {cl : List (Str × Addr)} {g : List (Addr × Obj) → List (Addr × Obj)} {Tl : List (Addr × Obj)}
  {p : Program} {loose : List Str} {mean : ExcName → Option Value} {name : Str} {params : Arguments} {body : Expr} {scope : Scope} {pos : Pos} {firstLine : Nat} {clos : List (Str × Addr)} {Q : Value → Shared → Prop}
abbrev lamQ : Str := Str.ofString "Editex.r_cost.<locals>.<lambda>"
theorem lam_new {ps : Array Value} {cs0 : List (Addr × Obj)} (F : Fr h₀ L s.heap m) (N : News h₀ L s.heap (g ((172, tabObj ps) :: cs0))) (hg : Hole g) (T : Top p loose mean mg mb h₀) (C : CodeHd h₀ 176 172)
    (off : ∀ p ∈ g [], p.1 ≠ 172) (offc : ∀ p ∈ cs0, p.1 ≠ 172) (ht : TriplesOk ps.toList) (hnf : codeAmong pos ps.toList = none) (hcl : closureFor scope (envX cn cs L a (.ref 176) cl) = pure clos)
    (h : ∀ f c' oc ctv h' tk, Fr h₀ L h' m → News h₀ L h' ((f, kla_obj name lamQ params body scope clos ((mg "__name__").getD .none) c' ctv) :: g ((172, tabObj (ps ++ #[rawInt pos.line, rawInt pos.col, .ref c'])) :: (cs0 ++ [(c', oc)]))) →
      IsCode oc → (∀ q ∈ g ((172, tabObj ps) :: cs0), q.1 < f) → Q (.ref f) { s with heap := h', toks := tk }) :
    wpAny M A (makeFunction name lamQ params (.expr body) scope (envX cn cs L a (.ref 176) cl) [] [] [] pos firstLine) Q E s := by
  have N' : News h₀ L s.heap ((172, tabObj ps) :: (cs0 ++ g [])) := fun p hp => by
    rcases List.mem_cons.mp hp with rfl | hp
    · exact N _ (hg.inT _ _ (.head _))
    · rcases List.mem_append.mp hp with hp | hp
      · exact N _ (hg.inT _ _ (.tail _ hp))
      · exact N _ (hg.inR _ _ hp)
  have U : UpdF 172 (tabObj ps) ((172, tabObj ps) :: (cs0 ++ g [])) (fun o' => (172, o') :: (cs0 ++ g [])) := .head fun p hp => (List.mem_append.mp hp).elim (offc p) (off p)
  refine kla_nest F N' T C rfl U ht hnf hcl fun f c' oc vs t ctv h' tk F' N'' hd hv l1 l2 => h f c' oc ctv h' tk F' (fun p hp => ?_) ⟨vs, t, hd, hv⟩ (fun q hq => ?_)
  · rcases List.mem_cons.mp hp with rfl | hp
    · exact N'' _ (.head _)
    · rcases hg.out _ _ hp with hp | hp
      · rcases List.mem_cons.mp hp with rfl | hp
        · exact N'' _ (.tail _ (.tail _ (.head _)))
        · rcases List.mem_append.mp hp with hp | hp
          · exact N'' _ (.tail _ (.tail _ (.tail _ (List.mem_append.mpr (.inl hp)))))
          · rw [List.mem_singleton.mp hp]; exact N'' _ (.tail _ (.head _))
      · exact N'' _ (.tail _ (.tail _ (.tail _ (List.mem_append.mpr (.inr hp)))))
  · refine Nat.lt_trans (l1 q ?_) l2
    rcases hg.out _ _ hq with hq | hq
    · exact (List.mem_cons.mp hq).elim (fun e => e ▸ .head _) fun hq => .tail _ (List.mem_append.mpr (.inl hq))
    · exact .tail _ (List.mem_append.mpr (.inr hq))

theorem lam_old {ps : Array Value} {cs0 : List (Addr × Obj)} {c' : Addr} (F : Fr h₀ L s.heap m) (N : News h₀ L s.heap (g ((172, tabObj ps) :: cs0))) (hg : Hole g) (T : Top p loose mean mg mb h₀) (C : CodeHd h₀ 176 172)
    (ht : TriplesOk ps.toList) (hf : codeAmong pos ps.toList = some (.ref c')) (hcl : closureFor scope (envX cn cs L a (.ref 176) cl) = pure clos)
    (h : ∀ f ctv h' tk, Fr h₀ L h' m → News h₀ L h' ((f, kla_obj name lamQ params body scope clos ((mg "__name__").getD .none) c' ctv) :: g ((172, tabObj ps) :: cs0)) →
      (∀ q ∈ g ((172, tabObj ps) :: cs0), q.1 < f) → Q (.ref f) { s with heap := h', toks := tk }) :
    wpAny M A (makeFunction name lamQ params (.expr body) scope (envX cn cs L a (.ref 176) cl) [] [] [] pos firstLine) Q E s :=
  kla_hit F N T C rfl (hg.inT _ _ (.head _)) ht hf hcl h

theorem lam_TS1 (ts : TS Tl) (F : Fr h₀ L s.heap m) (N : News h₀ L s.heap (g Tl)) (hg : Hole g) (T : Top p loose mean mg mb h₀) (C : CodeHd h₀ 176 172)
    (off : ∀ p ∈ g [], p.1 ≠ 172) {qual : Str} (hq : qual = lamQ) (e1 : pos.line = 92) (e2 : pos.col = 19) (hcl : closureFor scope (envX cn cs L a (.ref 176) cl) = pure clos)
    (h : ∀ f c' oc ctv h' tk Tl', Fr h₀ L h' m → News h₀ L h' ((f, kla_obj name lamQ params body scope clos ((mg "__name__").getD .none) c' ctv) :: g Tl') → TS1 Tl' → (c', oc) ∈ Tl' → IsCode oc →
      (∀ q ∈ g [], q.1 < f) → Q (.ref f) { s with heap := h', toks := tk }) :
    wpAny M A (makeFunction name qual params (.expr body) scope (envX cn cs L a (.ref 176) cl) [] [] [] pos firstLine) Q E s := by
  subst hq
  obtain ⟨pl, pc, p3, p4⟩ := pos
  dsimp only at e1 e2
  subst e1 e2
  cases ts with
  | t0 => exact lam_new (cs0 := []) F N hg T C off (fun _ h => nomatch h) trivial rfl hcl fun f c' oc ctv h' tk F' N' hc l => h f c' oc ctv h' tk _ F' N' (.t1 hc) (.tail _ (.head _)) hc fun q hq => l q (hg.inR _ _ hq)
  | t1 i1 => exact lam_old F N hg T C (by simp [TriplesOk, rawInt]) (by simp [codeAmong, rawInt]) hcl fun f ctv h' tk F' N' l => h f _ _ ctv h' tk _ F' N' (.t1 i1) (.tail _ (.head _)) i1 fun q hq => l q (hg.inR _ _ hq)
  | t2 i1 i2 => exact lam_old F N hg T C (by simp [TriplesOk, rawInt]) (by simp [codeAmong, rawInt]) hcl fun f ctv h' tk F' N' l => h f _ _ ctv h' tk _ F' N' (.t2 i1 i2) (.tail _ (.head _)) i1 fun q hq => l q (hg.inR _ _ hq)

theorem lam_TS2 (ts : TS1 Tl) (F : Fr h₀ L s.heap m) (N : News h₀ L s.heap (g Tl)) (hg : Hole g) (T : Top p loose mean mg mb h₀) (C : CodeHd h₀ 176 172)
    (off : ∀ p ∈ g [], p.1 ≠ 172) {qual : Str} (hq : qual = lamQ) (e1 : pos.line = 95) (e2 : pos.col = 23) (hcl : closureFor scope (envX cn cs L a (.ref 176) cl) = pure clos)
    (h : ∀ f c' oc ctv h' tk Tl', Fr h₀ L h' m → News h₀ L h' ((f, kla_obj name lamQ params body scope clos ((mg "__name__").getD .none) c' ctv) :: g Tl') → TS1 Tl' → (c', oc) ∈ Tl' → IsCode oc →
      (∀ q ∈ g [], q.1 < f) → Q (.ref f) { s with heap := h', toks := tk }) :
    wpAny M A (makeFunction name qual params (.expr body) scope (envX cn cs L a (.ref 176) cl) [] [] [] pos firstLine) Q E s := by
  subst hq
  obtain ⟨pl, pc, p3, p4⟩ := pos
  dsimp only at e1 e2
  subst e1 e2
  cases ts with
  | @t1 c1 o1 i1 =>
    refine lam_new (cs0 := [(c1, o1)]) F N hg T C off (fun q hq => ?_) (by simp [TriplesOk, rawInt]) (by simp [codeAmong, rawInt]) hcl fun f c' oc ctv h' tk F' N' hc l => h f c' oc ctv h' tk _ F' N' (.t2 i1 hc) (.tail _ (.tail _ (.head _))) hc fun q hq => l q (hg.inR _ _ hq)
    intro e
    rw [List.mem_singleton.mp hq] at e
    have e' : c1 = 172 := e
    have h1 := (N _ (hg.inT _ _ (.head _))).1
    have h2 := (N _ (hg.inT _ _ (.tail _ (.head _)))).1
    obtain ⟨vs, t, hd, hv⟩ := i1
    dsimp only at h1 h2
    rw [e', h1] at h2
    cases h2
    cases hd
    simp [rawInt] at hv
  | t2 i1 i2 => exact lam_old F N hg T C (by simp [TriplesOk, rawInt]) (by simp [codeAmong, rawInt]) hcl fun f ctv h' tk F' N' l => h f _ _ ctv h' tk _ F' N' (.t2 i1 i2) (.tail _ (.tail _ (.head _))) i2 fun q hq => l q (hg.inR _ _ hq)

inductive Split (Tl own : List (Addr × Obj)) : List (Addr × Obj) → List (Addr × Obj) → Prop
  | base : Split Tl own [] (Tl ++ own)
  | cons {q : Addr × Obj} {pre l : List (Addr × Obj)} : Split Tl own pre l → Split Tl own (q :: pre) (q :: l)
theorem Split.eq {Tl own pre l : List (Addr × Obj)} (h : Split Tl own pre l) : l = pre ++ (Tl ++ own) := by
  induction h with
  | base => rfl
  | cons _ ih => rw [ih]; rfl
theorem Hole.of (own : List (Addr × Obj)) : ∀ pre : List (Addr × Obj), Hole (fun T => pre ++ (T ++ own))
  | [] => Hole.base own
  | q :: pre => (Hole.of own pre).cons q
section
variable {news own pre : List (Addr × Obj)}
theorem lam_S1 (ts : TS Tl) (F : Fr h₀ L s.heap m) (N : News h₀ L s.heap news) (S : Split Tl own pre news) (T : Top p loose mean mg mb h₀) (C : CodeHd h₀ 176 172)
    (off : ∀ p ∈ pre, p.1 ≠ 172) (offo : ∀ p ∈ own, p.1 ≠ 172) {qual : Str} (hq : qual = lamQ) (e1 : pos.line = 92) (e2 : pos.col = 19) (hcl : closureFor scope (envX cn cs L a (.ref 176) cl) = pure clos)
    (h : ∀ f c' oc ctv h' tk Tl', Fr h₀ L h' m → News h₀ L h' ((f, kla_obj name lamQ params body scope clos ((mg "__name__").getD .none) c' ctv) :: (pre ++ (Tl' ++ own))) → TS1 Tl' → (c', oc) ∈ Tl' → IsCode oc →
      (∀ q ∈ pre, q.1 < f) → Q (.ref f) { s with heap := h', toks := tk }) :
    wpAny M A (makeFunction name qual params (.expr body) scope (envX cn cs L a (.ref 176) cl) [] [] [] pos firstLine) Q E s :=
  lam_TS1 (g := fun T => pre ++ (T ++ own)) ts F (S.eq ▸ N) (Hole.of own pre) T C (fun q hq => (List.mem_append.mp hq).elim (off q) fun hq => offo q hq) hq e1 e2 hcl
    fun f c' oc ctv h' tk Tl' F' N' t1 hm hc l => h f c' oc ctv h' tk Tl' F' N' t1 hm hc fun q hq => l q (List.mem_append.mpr (.inl hq))
theorem lam_S2 (ts : TS1 Tl) (F : Fr h₀ L s.heap m) (N : News h₀ L s.heap news) (S : Split Tl own pre news) (T : Top p loose mean mg mb h₀) (C : CodeHd h₀ 176 172)
    (off : ∀ p ∈ pre, p.1 ≠ 172) (offo : ∀ p ∈ own, p.1 ≠ 172) {qual : Str} (hq : qual = lamQ) (e1 : pos.line = 95) (e2 : pos.col = 23) (hcl : closureFor scope (envX cn cs L a (.ref 176) cl) = pure clos)
    (h : ∀ f c' oc ctv h' tk Tl', Fr h₀ L h' m → News h₀ L h' ((f, kla_obj name lamQ params body scope clos ((mg "__name__").getD .none) c' ctv) :: (pre ++ (Tl' ++ own))) → TS1 Tl' → (c', oc) ∈ Tl' → IsCode oc →
      (∀ q ∈ pre, q.1 < f) → Q (.ref f) { s with heap := h', toks := tk }) :
    wpAny M A (makeFunction name qual params (.expr body) scope (envX cn cs L a (.ref 176) cl) [] [] [] pos firstLine) Q E s :=
  lam_TS2 (g := fun T => pre ++ (T ++ own)) ts F (S.eq ▸ N) (Hole.of own pre) T C (fun q hq => (List.mem_append.mp hq).elim (off q) fun hq => offo q hq) hq e1 e2 hcl
    fun f c' oc ctv h' tk Tl' F' N' t1 hm hc l => h f c' oc ctv h' tk Tl' F' N' t1 hm hc fun q hq => l q (List.mem_append.mpr (.inl hq))
end
end
end Mine
-- EdG
namespace Mine
abbrev mapO (TI : Addr) (f : Value) : Obj := { cls := .type "map", dict := none, data := .fields #[.ref TI, f], slots := #[] }
abbrev oneO (a : Value) : Obj := { cls := .type "tuple", data := .seq #[a] }
abbrev tupO (its : List Value) : Obj := { cls := .type "tuple", data := .seq its.toArray }

section
variable {prog : Program} {w : World} {A : Around} {E : Value → Shared → Prop} {s : Shared} {h₀ : Heap} {L : Addr} {m : Str → Option Value} {news : List (Addr × Obj)} {Q : Value → Shared → Prop}

/-- what is known of a map made over a tuple -/
structure MapAt (h : Heap) (mp it t : Addr) (f : Value) (its : List Value) : Prop where
  tup : h.IsTuple t its.toArray
  iter : h.IsTupleIter it t 0
  one : ∃ TI, IsOne h TI (.ref it) ∧ IsMap h mp TI f ∧ TI ≠ it
  ne1 : mp ≠ it
  ne2 : t ≠ it
theorem MapAt.keeps {h h' : Heap} {mp it t : Addr} {f : Value} {its : List Value} (X : MapAt h mp it t f its) (hk : ∀ b o, h.get? b = some o → h'.get? b = some o) : MapAt h' mp it t f its :=
  let ⟨TI, a, b, c⟩ := X.one
  ⟨X.tup.at fun o e => hk _ o e, X.iter.at fun o e => hk _ o e, ⟨TI, hk _ _ a, hk _ _ b, c⟩, X.ne1, X.ne2⟩

/-- map(f, t) over a tuple of the ledger: the ledger stays, the map is above it -/
theorem map_K {f : Value} {t : Addr} {o : Obj} {its : List Value} {n : Nat} (F : Fr h₀ L s.heap m) (N : News h₀ L s.heap news) (hm : (t, o) ∈ news) (hc : o.cls = .type "tuple") (hd : o.data = .seq its.toArray n)
    (h : ∀ h' mp it, Fr h₀ L h' m → News h₀ L h' news → MapAt h' mp it t f its → (∀ p ∈ news, p.1 < it) → L < it → h₀.objs.size ≤ it → Q (.ref mp) { s with heap := h' }) :
    wpAny (model prog w) A (call (.type "map") [f, .ref t]) Q E s := by
  have ht : s.heap.IsTuple t its.toArray := ⟨o, (N _ hm).1, hc, n, hd⟩
  have hlt : t < s.heap.objs.size := Heap.lt_size (N _ hm).1
  exact call_map ht fun h' h1 h2 h3 h4 hk => h h' _ _ (fr_grown F hk) (news_grown N hk) ⟨ht.at fun o e => hk _ o e, h3, ⟨_, h2, h1, Nat.ne_of_gt (Nat.lt_succ_self _)⟩, Nat.ne_of_gt (Nat.lt_succ_of_lt (Nat.lt_succ_self _)), Nat.ne_of_lt hlt⟩ (fun p hp => Heap.lt_size (N p hp).1) F.ns.lt (Nat.le_trans F.above (Nat.le_of_lt F.ns.lt))

theorem any_K {mp it t : Addr} {f : Value} {its : List Value} (q : Nat → Bool) (hh : A.handled = none) (F : Fr h₀ L s.heap m) (N : News h₀ L s.heap news) (X : MapAt s.heap mp it t f its) (hlt : ∀ p ∈ news, p.1 < it) (hL : L < it) (h0 : h₀.objs.size ≤ it)
    (hf : ∀ i x (s₁ : Shared) E', its[i]? = some x → (∀ b o, b ≠ it → s.heap.get? b = some o → s₁.heap.get? b = some o) → wpAny (model prog w) A.in1.in1 (call f [x]) (fun r s₂ => r = .bool (q i) ∧ Keeps s₁ s₂) E' s₁)
    (h : ∀ h' tk, Fr h₀ L h' m → News h₀ L h' news → Q (.bool ((List.range its.length).any q)) { s with heap := h', toks := tk }) :
    wpAny (model prog w) A (call (.builtin "any") [.ref mp]) Q E s := by
  obtain ⟨TI, x2, x1, x3⟩ := X.one
  have hsz : its.toArray.size = its.length := List.size_toArray
  have hit : it < s.heap.objs.size := by obtain ⟨o, e, _⟩ := X.iter; exact Heap.lt_size e
  have W := Walks_map (prog := prog) (w := w) (A := A.in1) (P := fun i r => r = .bool (q i)) hh x1 x2 X.tup hit X.ne1 x3 X.ne2 fun i x s₁ E' hx hk => hf i x s₁ E' (by simpa using hx) hk
  refine call_any_walk (pyIter_map x1 ⟨mp, _, _, _, _, _, q, rfl, W, ⟨fun b o _ e => e, X.iter⟩, ?_, fun h' tk hk => ?_⟩)
  · rintro i v s' Q' E' rfl hQ
    exact wpAny_truthy_bool hQ
  · rw [hsz]
    refine h h' tk ⟨F.ns.at' fun o e => hk _ o (fun q => by rw [List.mem_singleton.mp q] at hL; exact Nat.lt_irrefl _ hL) e, fun b o e => hk b o (fun q => ?_) (F.keep b o e), F.above⟩ fun p hp => ⟨hk _ _ (fun q => ?_) (N p hp).1, (N p hp).2⟩
    · have := Heap.lt_size e
      rw [List.mem_singleton.mp q] at this
      exact absurd this (Nat.not_lt.mpr h0)
    · have := hlt p hp
      rw [List.mem_singleton.mp q] at this
      exact Nat.lt_irrefl _ this

theorem all_K {mp it t : Addr} {f : Value} {its : List Value} (q : Nat → Bool) (hh : A.handled = none) (F : Fr h₀ L s.heap m) (N : News h₀ L s.heap news) (X : MapAt s.heap mp it t f its) (hlt : ∀ p ∈ news, p.1 < it) (hL : L < it) (h0 : h₀.objs.size ≤ it)
    (hf : ∀ i x (s₁ : Shared) E', its[i]? = some x → (∀ b o, b ≠ it → s.heap.get? b = some o → s₁.heap.get? b = some o) → wpAny (model prog w) A.in1.in1 (call f [x]) (fun r s₂ => r = .bool (q i) ∧ Keeps s₁ s₂) E' s₁)
    (h : ∀ h' tk, Fr h₀ L h' m → News h₀ L h' news → Q (.bool ((List.range its.length).all q)) { s with heap := h', toks := tk }) :
    wpAny (model prog w) A (call (.builtin "all") [.ref mp]) Q E s := by
  obtain ⟨TI, x2, x1, x3⟩ := X.one
  have hsz : its.toArray.size = its.length := List.size_toArray
  have hit : it < s.heap.objs.size := by obtain ⟨o, e, _⟩ := X.iter; exact Heap.lt_size e
  have W := Walks_map (prog := prog) (w := w) (A := A.in1) (P := fun i r => r = .bool (q i)) hh x1 x2 X.tup hit X.ne1 x3 X.ne2 fun i x s₁ E' hx hk => hf i x s₁ E' (by simpa using hx) hk
  refine call_all_walk (pyIter_map x1 ⟨mp, _, _, _, _, _, q, rfl, W, ⟨fun b o _ e => e, X.iter⟩, ?_, fun h' tk hk => ?_⟩)
  · rintro i v s' Q' E' rfl hQ
    exact wpAny_truthy_bool hQ
  · rw [hsz]
    refine h h' tk ⟨F.ns.at' fun o e => hk _ o (fun q => by rw [List.mem_singleton.mp q] at hL; exact Nat.lt_irrefl _ hL) e, fun b o e => hk b o (fun q => ?_) (F.keep b o e), F.above⟩ fun p hp => ⟨hk _ _ (fun q => ?_) (N p hp).1, (N p hp).2⟩
    · have := Heap.lt_size e
      rw [List.mem_singleton.mp q] at this
      exact absurd this (Nat.not_lt.mpr h0)
    · have := hlt p hp
      rw [List.mem_singleton.mp q] at this
      exact Nat.lt_irrefl _ this

theorem max_K {mp it t : Addr} {f : Value} {its : List Value} (val : Nat → Int) (hh : A.handled = none) (F : Fr h₀ L s.heap m) (N : News h₀ L s.heap news) (X : MapAt s.heap mp it t f its) (hlt : ∀ p ∈ news, p.1 < it) (hL : L < it) (h0 : h₀.objs.size ≤ it) (hn : 0 < its.length)
    (hf : ∀ i x (s₁ : Shared) E', its[i]? = some x → (∀ b o, b ≠ it → s.heap.get? b = some o → s₁.heap.get? b = some o) → wpAny (model prog w) A.in1.in1 (call f [x]) (fun r s₂ => (∃ t, r = .int (val i) t) ∧ Keeps s₁ s₂) E' s₁)
    (h : ∀ h' tk j t', Fr h₀ L h' m → News h₀ L h' news → j < its.length → (∀ i, i < its.length → val i ≤ val j) → Q (.int (val j) t') { s with heap := h', toks := tk }) :
    wpAny (model prog w) A (call (.builtin "max") [.ref mp]) Q E s := by
  obtain ⟨TI, x2, x1, x3⟩ := X.one
  have hsz : its.toArray.size = its.length := List.size_toArray
  have hit : it < s.heap.objs.size := by obtain ⟨o, e, _⟩ := X.iter; exact Heap.lt_size e
  have W := Walks_map (prog := prog) (w := w) (A := A.in1) (P := fun i r => ∃ t, r = .int (val i) t) hh x1 x2 X.tup hit X.ne1 x3 X.ne2 fun i x s₁ E' hx hk => hf i x s₁ E' (by simpa using hx) hk
  refine call_max_walk (pyIter_map x1 ⟨mp, _, _, _, _, _, _, rfl, W, ⟨fun b o _ e => e, X.iter⟩, fun b hb => List.mem_range.mp hb, by rw [hsz]; exact hn, CmpOf.ints_gt val fun i v hv => hv, fun v h' tk hv hk => ?_⟩)
  obtain ⟨t', rfl⟩ := hv
  have hb := argBest_gt val (its.toArray.size - 1)
  refine h h' tk _ t' ⟨F.ns.at' fun o e => hk _ o (fun q => by rw [List.mem_singleton.mp q] at hL; exact Nat.lt_irrefl _ hL) e, fun b o e => hk b o (fun q => ?_) (F.keep b o e), F.above⟩ (fun p hp => ⟨hk _ _ (fun q => ?_) (N p hp).1, (N p hp).2⟩) (by omega) fun i hi => hb.2 i (by omega)
  · have := Heap.lt_size e
    rw [List.mem_singleton.mp q] at this
    exact absurd this (Nat.not_lt.mpr h0)
  · have := hlt p hp
    rw [List.mem_singleton.mp q] at this
    exact Nat.lt_irrefl _ this
end

section
variable {prog : Program} {w : World} {A A₀ : Around} {s : Shared} {K : Frag} {L : Addr} {h₀ base : Heap} {m mg mb : Str → Option Value} {news : List (Addr × Obj)} {p : Program} {loose : List Str} {mean : ExcName → Option Value}

/-- a lambda is called; its frame stands over the whole heap -/
theorem lam_code {E : Value → Shared → Prop} {Q : Value → Shared → Prop} {name qual : Str} {params : Arguments} {body : Expr} {scope : Scope} {cl : List (Str × Addr)} {pm ctv : Value} {c' : Addr} {f : Addr} {vs : List Value} {binds : List (Str × Value)}
    (ho : s.heap.get? f = some (kla_obj name qual params body scope cl pm c' ctv)) (hcd : s.heap.CodeRec (.ref c') qual) (hlim : s.heap.NoLimit) (hroom : A.depth < recursionLimit)
    (hbind : bindArgs (kla_fn name qual params body scope cl pm (.ref c') ctv) ⟨vs, []⟩ = pure binds) (hloc : ∀ y ∈ binds, scope.names.lookup y.1 = some .local)
    (h : ∀ L' h₁, Fr s.heap L' h₁ (fun y => binds.reverse.lookup y) → News s.heap L' h₁ [] → (∀ b o, s.heap.get? b = some o → h₁.get? b = some o) →
      wpAny (model prog w) (A.deeper (envX qual scope L' f (.ref c') cl)) (eval body (envX qual scope L' f (.ref c') cl)) (fun v s' => Q v s') (fun _ _ => False) { s with heap := h₁, toks := s.toks + binds.length })
    (hco : scope.isCoroutine = false) (hgen : scope.isGenerator = false) (hk : scope.kind = .function)
    (hcell : ∀ x ∈ scope.names, x.2 ≠ .cell) : wpAny (model prog w) A (call (.ref f) vs) Q E s := by
  refine wpAny_call (kla_callFunE hroom ho rfl hco hgen rfl hcd ?_)
  rw [hbind]
  refine wpAny_pure (wpAny_newFunctionEnv hcell hloc (fun h₁ hns hsb => ⟨hlim.fresh _ hsb, ?_⟩) hk)
  show codeAny _ _ (.expr body (envX qual scope s.heap.objs.size f (.ref c') cl)) _ _
  have hk₁ : ∀ b o, s.heap.get? b = some o → h₁.get? b = some o := fun b o e => hsb.extBut b o (Nat.ne_of_lt (Heap.lt_size e)) (Heap.get?_push_of_some _ e)
  exact kla_codeExpr (wpAny_mono (h s.heap.objs.size h₁ ⟨hns, hk₁, Nat.le_refl _⟩ News.nil hk₁) (fun _ _ x => x) fun _ _ x => x.elim)

/-- a def with a rest and with cells -/
theorem kpc_rest {env : Env} {outer : List Env} {R : Result → Shared → Prop} {name qual : Str} {params : Arguments} {body : List Stmt} {scope : Scope} {dV kV doc pm cdv ct oc : Value} {an od : Option Addr} {osl : Array (Option Value)} {f : Addr} {args : Args} {vs : List Value} {g₁ : Addr → Option (List (Str × Value))} {binds : Addr → List (Str × Value)}
    (B : Below A₀ base outer h₀) (F : Fr h₀ L s.heap m) (X₀ : K.In h₀) (N : News h₀ L s.heap news) (T : Top p loose mean mg mb h₀) (hA : A.frames = some (env :: outer)) (hf : env.frame = some L) (hke : env.scope.kind = .function)
    (ho : K.lookup f = some ⟨oc, od, .func (fnOf name qual params body scope dV kV doc pm an cdv ct), osl⟩) (hcd : codeIn K cdv qual = true) (hroom : A.depth < recursionLimit)
    (hv : args.pos.drop (params.posonlyargs.length + params.args.length) = vs)
    (hp : peek1 K ⟨prog, w.params⟩ (bindArgs (fnOf name qual params body scope dV kV doc pm an cdv ct) args) = some (tupO vs, g₁))
    (hg : ∀ D, g₁ D = some (binds D)) (hkind : ∀ D, ((binds D).all fun y => scope.names.lookup y.1 == some .local || scope.names.lookup y.1 == some .cell) = true)
    (hnd : ((cellsFrom 0 scope.names []).map (·.1)).Nodup)
    (h : ∀ D g L' h₁ tk cells, (∀ p ∈ news, p.1 < D) → D < L' → Fr h₀ L g m → Fr g L' h₁ (bindL (envOfC qual scope L' f cdv).kindOf (binds D) fun _ => none) → News g L' h₁ (cells ++ ((D, tupO vs) :: news)) →
      CellsAre (bindC (envOfC qual scope L' f cdv).kindOf (binds D) fun _ => none) (cellsFrom (L' + 1) scope.names []) cells → Below A base (env :: outer) g → K.In g → Top p loose mean mg mb g →
      wpAny (model prog w) (A.deeper (envOfC qual scope L' f cdv)) (execs body (envOfC qual scope L' f cdv))
        (fun fl s' => LeaveK h₀ L m g R (match fl with | .ret v => v | _ => .none) s')
        (fun e s' => wpAny (model prog w) (A.deeper (envOfC qual scope L' f cdv)) (leaving (envOfC qual scope L' f cdv) e) (fun _ s'' => R (.error e) s'') (fun e' s'' => R (.error e') s'') s')
        { s with heap := h₁, toks := tk })
    (hco : scope.isCoroutine = false) (hgen : scope.isGenerator = false) (hk : scope.kind = .function) : codeAny (model prog w) A (.call (.ref f) args) R s := by
  have _ := hv
  refine codeAny_call_function (fd := fnOf name qual params body scope dV kV doc pm an cdv ct) (body := body) hroom ((X₀.keeps F.keep) _ _ ho) rfl hco hgen rfl (codeRec_of (X₀.keeps F.keep) hcd) ?_
  refine wp_of_peek1 (o := tupO vs) F N (X₀.keeps F.keep) rfl (r := binds) (fun D h' F' N' l => ?_) _ g₁ hp hg
  obtain ⟨FG, BG, st, lv⟩ := groundX (R := R) (s := { s with heap := h' }) B F' N' hA hf hke
  refine wpAny_newFunctionEnv_cells hk (kindsX (hkind D) _) fun env' he s' x => ?_
  subst he
  refine ⟨(T.nolimit.keeps F'.keep).keeps x.toInCall.keep, codeAny_func ?_⟩
  obtain ⟨h₁, tk, rfl, _⟩ := x.done
  have hk₁ := x.toInCall.keep
  obtain ⟨cells, NC, Y⟩ := Cl.news (h₀ := h') (Nat.le_refl _) fun n c hm => ⟨x.cell n c (lookup_of_mem_nodup (cellsFrom_names scope.names 0 (h'.objs.size + 1) [] [] rfl ▸ hnd) hm), x.above n c hm⟩
  have hDL : D < h'.objs.size := Heap.lt_size (N' _ (.head _)).1
  refine wpAny_mono (h D _ h'.objs.size h₁ tk cells l hDL FG ⟨x.toInCall.ns, fun b o e => hk₁ b o (of_hideAll _ e), Nat.le_of_eq (hideAll_size _ _)⟩ (fun p hp => ?_) Y BG (X₀.keeps st) (T.keeps st)) (fun fl s' hl => lv _ _ hl) fun _ _ y => y
  rcases List.mem_append.mp hp with hp | hp
  · refine ⟨(NC p hp).1, (NC p hp).2.1, ?_⟩
    cases q : (hideAll h' (((D, tupO vs) :: news).map (·.1))).get? p.1 with
    | none => rfl
    | some o => have := of_hideAll _ q; rw [(NC p hp).2.2] at this; cases this
  · exact ⟨hk₁ _ _ (N' p hp).1, Nat.ne_of_lt (Heap.lt_size (N' p hp).1), hideAll_none _ (List.mem_map_of_mem hp)⟩
end
end Mine
-- EdH
namespace Mine
theorem fresh_EdH : True := by (w_top off; exact trivial)
local macro_rules | `(tactic| k_room) => `(tactic| ktr_room)
local macro_rules | `(tactic| walk_at "MY rest") => `(tactic| (
  refine' kp_rest ?k1 ?k2 ?k3 ?k4 ?k5 ?kA ?kF ?kK ?k6 ?k7 ?k8 ?kV ?kP ?kG ?kB ?_ ?c2 ?c3 ?c4 ?c5
  (case kA => exact rfl)
  (case kF => first | exact rfl | assumption)
  (case kK => first | exact rfl | assumption)
  (case k1 => k_asm)
  (case k2 => k_asm)
  (case k3 => k_asm)
  (case k4 => k_asm)
  (case k5 => k_asm)
  (case k6 => k_is)
  (case k7 => k_is)
  (case k8 => k_room)
  (case kV => kl_lit)
  (case kP => exact rfl)
  (case kG => exact fun _ => rfl)
  (case kB => exact fun _ => locs rfl)
  (case c5 => decide)
  (case c2 => exact rfl)
  (case c3 => exact rfl)
  (case c4 => exact rfl)
  k_whole
  intro D' g' L' h' l1 FG' F' N' B' X' T'
  (try k_lt l1); (try dsimp only); (try k_lift B'); (try k_fold)))
local macro_rules | `(tactic| walk_at "MY plain") => `(tactic| (
  refine' code_def ?k1 ?k2 ?k3 ?k4 ?k5 ?kA ?kF ?kK ?k6 ?k7 ?k8 ?k9 ?kB ?_ ?c2 ?c3 ?c4 ?c5
  (case kA => exact rfl)
  (case kF => first | exact rfl | assumption)
  (case kK => first | exact rfl | assumption)
  (case k1 => k_asm)
  (case k2 => k_asm)
  (case k3 => k_asm)
  (case k4 => k_asm)
  (case k5 => k_asm)
  (case k6 => k_is)
  (case k7 => k_is)
  (case k8 => k_room)
  (case k9 => first | exact BindsTo.of_eq rfl | exact binds_K (by k_in) rfl (by k_is) rfl rfl rfl)
  (case c5 => decide)
  (case kB => exact locs rfl)
  (case c2 => exact rfl)
  (case c3 => exact rfl)
  (case c4 => exact rfl)
  k_whole
  intro g' L' h' FG' F' N' B' X' T'
  (try dsimp only); (try k_lift B'); (try k_fold)))

abbrev gText : Str := Str.ofString "AEIOUYBPCKQDTLRMNGJFPVSXZCSZ"
/-- the dict of an Editex object -/
abbrev edD (P : Params) (c0 c1 c2 : Int) (lo ex : Bool) (k1 k2 k3 k4 k5 k6 v1 v2 v3 v6 : Tok) : List DictEntry :=
  [⟨PyData.keyHash P (Str.ofString "match_cost"), .str (Str.ofString "match_cost") k1, .int c0 v1⟩, ⟨PyData.keyHash P (Str.ofString "group_cost"), .str (Str.ofString "group_cost") k2, .int c1 v2⟩,
   ⟨PyData.keyHash P (Str.ofString "mismatch_cost"), .str (Str.ofString "mismatch_cost") k3, .int c2 v3⟩, ⟨PyData.keyHash P (Str.ofString "local"), .str (Str.ofString "local") k4, .bool lo⟩,
   ⟨PyData.keyHash P (Str.ofString "external"), .str (Str.ofString "external") k5, .bool ex⟩, ⟨PyData.keyHash P (Str.ofString "grouped"), .str (Str.ofString "grouped") k6, .str gText v6⟩]
/-- «a in g» -/
abbrev sIn (g a : Str) : Bool := !(Builtin.Str.occurrences g a 0 g.length 1).isEmpty
abbrev parX (pp : Pos) : Arguments := ⟨[], [⟨Str.ofString "x", none, pp⟩], none, [], [], none, []⟩
abbrev scX (y : Str) : Scope := ⟨.function, [(Str.ofString "x", .local), (y, .free)], false, false, []⟩
theorem name_heap {M : Model} {A : Around} {E : Value → Shared → Prop} {s : Shared} {L a : Addr} {cn : Str} {cs : Scope} {ccd : Value} {cl : List (Str × Addr)} {x : Str} {pos : Pos} {v : Value} {Q : Value → Shared → Prop} {c : Addr}
    (hc : cl.lookup x = some c) (hv : s.heap.IsCell c (some v)) (h : Q v s)
    (hk : cs.kind = .function := by rfl) (hx : (envX cn cs L a ccd cl).kindOf x = some .free := by rfl) (hb : (x == ("__debug__" : Str)) = false := by decide) (hn : (x == ("__classdict__" : Str)) = false := by decide) :
    wpAny M A (eval (.Name x pos) (envX cn cs L a ccd cl)) Q E s := wpAny_Name (wpAny_loadName_free hk hx hc hv h hn) hb
section
variable {w : World} {p : Program} {loose : List Str} {mean : ExcName → Option Value} {mg mb : Str → Option Value} {A : Around} {E : Value → Shared → Prop} {s : Shared} {g : Heap} {f cs x dx c' : Addr} {nm : Str} {pm ctv : Value} {pp p1 p2 p3 p4 : Pos} {c0 c1 c2 : Int} {lo ex : Bool} {k1 k2 k3 k4 k5 k6 v1 v2 v3 v6 : Tok} {n : Nat} {a : Str} {ta : Tok}
local macro_rules | `(tactic| k_inst) => `(tactic| assumption)
local macro_rules | `(tactic| walk_at "eval Name") => `(tactic| (k_here; k_dflt (refine' name_heap ?c ?v ?_ ?a ?b; (case a => rfl); (case b => rfl); (case c => rfl); (case v => assumption); k_whole)))
theorem lam1_quiet (hroom : A.depth < recursionLimit) (X : (hd.heap_39 w.params).In g) (T : Top p loose mean mg mb g) (gs : ∀ b o, g.get? b = some o → s.heap.get? b = some o)
    (ho : s.heap.get? f = some (kla_obj nm lamQ (parX pp) (.Compare (.Name (Str.ofString "x") p1) [.NotIn] [.Attribute (.Name (Str.ofString "self") p2) (Str.ofString "grouped") p3] p4) (scX (Str.ofString "self")) [(Str.ofString "self", cs)] pm c' ctv))
    (hc : s.heap.CodeRec (.ref c') lamQ) (hcs : s.heap.IsCell cs (some (.ref x))) (hx : s.heap.get? x = some (instObj 192 dx)) (hdx : s.heap.get? dx = some (dictOf (edD w.params c0 c1 c2 lo ex k1 k2 k3 k4 k5 k6 v1 v2 v3 v6) n)) :
    wpAny (model PySem.Challenge.rw_bs0041_01.row.prog w) A (call (.ref f) [.str a ta]) (fun r s₂ => r = .bool (!sIn gText a) ∧ Keeps s s₂) E s := by
  revert X; k_fill; intro X
  refine lam_code ho hc (T.nolimit.keeps gs) hroom (binds := [(Str.ofString "x", .str a ta)]) rfl (locs rfl) (fun L' h₁ F' N' hk => ?_) rfl rfl rfl (by decide)
  have hI : InstAt h₁ x (instObj 192 dx) 192 (some (dictOf (edD w.params c0 c1 c2 lo ex k1 k2 k3 k4 k5 k6 v1 v2 v3 v6) n)) := ⟨hk _ _ hx, rfl, rfl, hk _ _ hdx⟩
  have hcs' : h₁.IsCell cs (some (.ref x)) := hcs.keeps hk
  have X' := X.keeps gs
  have T' := T.keeps gs
  clear hcs ho hc hx hdx X T
  k_steps
  all_goals first | exact ⟨h₁, _, rfl, hk⟩ | exact rfl
theorem lam2_quiet {grp : Str} {tg : Tok} (hroom : A.depth < recursionLimit) (X : (hd.heap_39 w.params).In g) (T : Top p loose mean mg mb g) (gs : ∀ b o, g.get? b = some o → s.heap.get? b = some o)
    (ho : s.heap.get? f = some (kla_obj nm lamQ (parX pp) (.Compare (.Name (Str.ofString "x") p1) [.In] [.Name (Str.ofString "group") p2] p4) (scX (Str.ofString "group")) [(Str.ofString "group", cs)] pm c' ctv))
    (hc : s.heap.CodeRec (.ref c') lamQ) (hcs : s.heap.IsCell cs (some (.str grp tg))) :
    wpAny (model PySem.Challenge.rw_bs0041_01.row.prog w) A (call (.ref f) [.str a ta]) (fun r s₂ => r = .bool (sIn grp a) ∧ Keeps s s₂) E s := by
  revert X; k_fill; intro X
  refine lam_code ho hc (T.nolimit.keeps gs) hroom (binds := [(Str.ofString "x", .str a ta)]) rfl (locs rfl) (fun L' h₁ F' N' hk => ?_) rfl rfl rfl (by decide)
  have hcs' : h₁.IsCell cs (some (.str grp tg)) := hcs.keeps hk
  have X' := X.keeps gs
  have T' := T.keeps gs
  clear hcs ho hc X T
  k_steps
  all_goals first | exact ⟨h₁, _, rfl, hk⟩ | exact rfl
end
end Mine
-- EdI
namespace Mine
section
variable {M : Model} {A : Around} {E : Value → Shared → Prop} {s : Shared} {env : Env}
/-- o.name(*args): the attribute is read, then called -/
theorem starMethod {o : Expr} {name : Str} {apos pos p1 : Pos} {e : Expr} {Q : Value → Shared → Prop}
    (h : wpAny M A (eval o env) (fun ov s₁ => wpAny M A (getAttr ov name true) (fun f s₂ => wpAny M A (callWith pos f [] (backTo pos (starEach [.Starred e p1] env)) []) Q E s₂) E s₁) E s)
    (he : eval (.Call (.Attribute o name apos) [.Starred e p1] [] pos) env = (do
      let ov ← eval o env
      standAt apos.atName
      let (f, first) ← holding [ov] (do pure (← getAttr ov name true, []))
      let cp ← (pure pos : Sem Pos)
      callWith cp f first (backTo pos (starEach [.Starred e p1] env)) []) := by rfl) :
    wpAny M A (eval (.Call (.Attribute o name apos) [.Starred e p1] [] pos) env) Q E s := by
  rw [he]
  refine wpAny_bind (wpAny_mono h (fun ov s₁ h₁ => wpAny_bind (wpAny_standAt (wpAny_bind (wpAny_holding (wpAny_bind (wpAny_mono h₁ (fun f s₂ h₂ => ?_) fun _ _ x => x)))))) fun _ _ x => x)
  exact wpAny_pure (wpAny_bind (wpAny_pure h₂))
end
section
open PySem.W
variable {prog : Program} {w : World} {A : Around} {E : Value → Shared → Prop} {s : Shared} {K : Frag} {x C p L : Addr} {ox : Obj} {name : Str} {expr : Bool} {h₀ : Heap} {m : Str → Option Value} {es : List DictEntry} {n : Nat} {fv : Value} {rest : List Value} {Q : Value → Shared → Prop}
/-- a static method, read off an object -/
theorem get_sm (F : Fr h₀ L s.heap m) (X₀ : K.In h₀) (I : InstAt s.heap x ox C (some (dictOf es n))) (hg : plainGet K C name = true) (hh : hasDictIn K C = true) (ha : findIn K (.ref C) name = some (some (.ref p)))
    (hgf : specialIn K (.ref p) "__get__" = some (some (.builtin "staticmethod.__get__"))) (hts : takesIn K (.ref p) = some false) (hc : copiedNames.contains name = false) (hl : getL name es = some none) (hp : recIn K p "staticmethod" = some (fv :: rest)) (hv : handedIn fv = true)
    (h : Q fv { s with toks := s.toks + 1 }) : wpAny (model prog w) A (getAttr (.ref x) name expr) Q E s :=
  get_bind (X₀.keeps F.keep) I (plainGet_of hg).1 (findObj_fn hh ha hgf hts hc (by show lookIn name (dictOf es n) = _; rw [lookIn_dict, hl])) (plainGet_of hg).2
    (wpAny_call (sm_get (s := { s with toks := s.toks + 1 }) (X₀.keeps F.keep) hp (handed_on hv h)))
end
end Mine
-- EdJ
namespace Mine
section
variable {w : World} {p : Program} {loose : List Str} {mean : ExcName → Option Value} {mg mb : Str → Option Value} {A : Around} {E : Value → Shared → Prop} {s : Shared} {h₀ : Heap} {L : Addr} {m : Str → Option Value} {news : List (Addr × Obj)} {Q : Value → Shared → Prop}
  {f cs x dx c' mp it D : Addr} {oc ocl : Obj} {nm : Str} {pm ctv : Value} {pp p1 p2 p3 p4 : Pos} {c0 c1 c2 : Int} {lo ex : Bool} {k1 k2 k3 k4 k5 k6 v1 v2 v3 v6 : Tok} {n : Nat} {a b : Str} {ta tb : Tok}

theorem any_lam1 (hh : A.handled = none) (hroom : A.depth < recursionLimit) (F : Fr h₀ L s.heap m) (N : News h₀ L s.heap news) (X₀ : (hd.heap_39 w.params).In h₀) (T : Top p loose mean mg mb h₀)
    (X : MapAt s.heap mp it D (.ref f) [.str a ta, .str b tb]) (hlt : ∀ p ∈ news, p.1 < it) (hL : L < it) (h0 : h₀.objs.size ≤ it)
    (ho : (f, kla_obj nm lamQ (parX pp) (.Compare (.Name (Str.ofString "x") p1) [.NotIn] [.Attribute (.Name (Str.ofString "self") p2) (Str.ofString "grouped") p3] p4) (scX (Str.ofString "self")) [(Str.ofString "self", cs)] pm c' ctv) ∈ news)
    (hoc : (c', oc) ∈ news) (hc : IsCode oc) (hcs : (cs, ocl) ∈ news) (hcd : ocl.data = .cell (some (.ref x))) (hx : (x, instObj 192 dx) ∈ news) (hdx : (dx, dictOf (edD w.params c0 c1 c2 lo ex k1 k2 k3 k4 k5 k6 v1 v2 v3 v6) n) ∈ news)
    (h : ∀ h' tk, Fr h₀ L h' m → News h₀ L h' news → Q (.bool (!sIn gText a || !sIn gText b)) { s with heap := h', toks := tk }) :
    wpAny (model PySem.Challenge.rw_bs0041_01.row.prog w) A (call (.builtin "any") [.ref mp]) Q E s := by
  refine any_K (fun i => !sIn gText (if i = 0 then a else b)) hh F N X hlt hL h0 (fun i v s₁ E' hv hk => ?_) fun h' tk F' N' => ?_
  · have up : ∀ q ∈ news, s₁.heap.get? q.1 = some q.2 := fun q hq => hk _ _ (Nat.ne_of_lt (hlt q hq)) (N q hq).1
    have gs : ∀ b o, h₀.get? b = some o → s₁.heap.get? b = some o := fun b o e => hk b o (Nat.ne_of_lt (Nat.lt_of_lt_of_le (Heap.lt_size e) h0)) (F.keep b o e)
    obtain ⟨vs, t, hd, hq⟩ := hc
    have hv' : ∃ tt, v = .str (if i = 0 then a else b) tt := by
      match i with
      | 0 => simp at hv; exact ⟨ta, by simpa using hv.symm⟩
      | 1 => simp at hv; exact ⟨tb, by simpa using hv.symm⟩
      | i + 2 => simp at hv
    obtain ⟨tt, rfl⟩ := hv'
    exact lam1_quiet (A := A.in1.in1) hroom X₀ T gs (up _ ho) ⟨c', oc, vs, t, rfl, up _ hoc, hd, hq⟩ ⟨ocl, up _ hcs, hcd⟩ (up _ hx) (up _ hdx)
  · have := h h' tk F' N'
    simpa [List.range_succ] using this

theorem all_lam2 {grp : Str} {tg : Tok} (hh : A.handled = none) (hroom : A.depth < recursionLimit) (F : Fr h₀ L s.heap m) (N : News h₀ L s.heap news) (X₀ : (hd.heap_39 w.params).In h₀) (T : Top p loose mean mg mb h₀)
    (X : MapAt s.heap mp it D (.ref f) [.str a ta, .str b tb]) (hlt : ∀ p ∈ news, p.1 < it) (hL : L < it) (h0 : h₀.objs.size ≤ it)
    (ho : (f, kla_obj nm lamQ (parX pp) (.Compare (.Name (Str.ofString "x") p1) [.In] [.Name (Str.ofString "group") p2] p4) (scX (Str.ofString "group")) [(Str.ofString "group", cs)] pm c' ctv) ∈ news)
    (hoc : (c', oc) ∈ news) (hc : IsCode oc) (hcs : (cs, ocl) ∈ news) (hcd : ocl.data = .cell (some (.str grp tg)))
    (h : ∀ h' tk, Fr h₀ L h' m → News h₀ L h' news → Q (.bool (sIn grp a && sIn grp b)) { s with heap := h', toks := tk }) :
    wpAny (model PySem.Challenge.rw_bs0041_01.row.prog w) A (call (.builtin "all") [.ref mp]) Q E s := by
  refine all_K (fun i => sIn grp (if i = 0 then a else b)) hh F N X hlt hL h0 (fun i v s₁ E' hv hk => ?_) fun h' tk F' N' => ?_
  · have up : ∀ q ∈ news, s₁.heap.get? q.1 = some q.2 := fun q hq => hk _ _ (Nat.ne_of_lt (hlt q hq)) (N q hq).1
    have gs : ∀ b o, h₀.get? b = some o → s₁.heap.get? b = some o := fun b o e => hk b o (Nat.ne_of_lt (Nat.lt_of_lt_of_le (Heap.lt_size e) h0)) (F.keep b o e)
    obtain ⟨vs, t, hd, hq⟩ := hc
    have hv' : ∃ tt, v = .str (if i = 0 then a else b) tt := by
      match i with
      | 0 => simp at hv; exact ⟨ta, by simpa using hv.symm⟩
      | 1 => simp at hv; exact ⟨tb, by simpa using hv.symm⟩
      | i + 2 => simp at hv
    obtain ⟨tt, rfl⟩ := hv'
    exact lam2_quiet (A := A.in1.in1) hroom X₀ T gs (up _ ho) ⟨c', oc, vs, t, rfl, up _ hoc, hd, hq⟩ ⟨ocl, up _ hcs, hcd⟩
  · have := h h' tk F' N'
    simpa [List.range_succ] using this
end
end Mine
-- EdK
namespace Mine
section
variable {prog : Program} {w : World} {A : Around} {s : Shared} {env : Env}
/-- a loop over a walk: what holds at each turn is the caller's -/
theorem loopW {R : Result → Shared → Prop} {target : Expr} {body : List Stmt} {I : Addr} {fp wr : List Addr} {n : Nat} {P : Nat → Value → Prop} {St : Nat → Heap → Prop} (W : Walks prog w A I fp wr n P St) (J : Nat → Shared → Prop)
    (hst : St 0 s.heap) (h0 : J 0 s)
    (hJ : ∀ i s' h₁ tk₁, J i s' → St i s'.heap → (∀ b o, b ∉ wr → s'.heap.get? b = some o → h₁.get? b = some o) → J i { s' with heap := h₁, toks := tk₁ })
    (step : ∀ i v s₁ E', i < n → P i v → St (i + 1) s₁.heap → J i s₁ → wpAny (model prog w) A (assign target env v) (fun _ s₂ => wpAny (model prog w) A (execs body env) (fun f s₃ => match f with
      | .next | .cont => J (i + 1) s₃ ∧ St (i + 1) s₃.heap
      | .brk => R (.ok .next) s₃
      | .ret v => R (.ok (.ret v)) s₃) E' s₂) E' s₁)
    (done : ∀ s', J n s' → R (.ok .next) s') (ht : ∀ v, letOwnedTupleGo target (.ref I) v = pure () := by intro _; rfl) :
    codeAny (model prog w) A (.forLoop target (.ref I) body [] env) R s := by
  refine codeAny_forLoop (fun k s' => ∃ i, St i s'.heap ∧ J i s' ∧ i ≤ n ∧ k = n + 1 - i) ?_ (n + 1) ⟨0, hst, h0, Nat.zero_le _, rfl⟩ ht
  rintro k s' ⟨i, hst', hJ', hi, rfl⟩
  by_cases hlt : i < n
  · refine W.item i _ _ _ hlt hst' fun v h₁ tk₁ hP hst₁ hk₁ => ?_
    refine wpAny_mono (step i v _ _ hlt hP hst₁ (hJ i s' h₁ tk₁ hJ' hst' hk₁)) (fun _ s₂ h₂ => wpAny_mono h₂ (fun f s₃ h₃ => ?_) fun _ _ e => e) fun _ _ e => e
    cases f with
    | next => exact ⟨n + 1 - (i + 1), by omega, i + 1, h₃.2, h₃.1, hlt, rfl⟩
    | cont => exact ⟨n + 1 - (i + 1), by omega, i + 1, h₃.2, h₃.1, hlt, rfl⟩
    | brk => exact h₃
    | ret v => exact h₃
  · have hin : i = n := by omega
    subst hin
    exact W.done _ _ _ hst' fun h₁ tk₁ hk₁ => wpAny_execs_nil (done _ (hJ i s' h₁ tk₁ hJ' hst' hk₁))

/-- a for statement over a tuple -/
theorem For_tup {Q : Flow → Shared → Prop} {E : Value → Shared → Prop} {target iter : Expr} {body : List Stmt} {pos : Pos} {items : List Value} (hh : A.handled = none)
    (h : wpAny (model prog w) A (eval iter env) (fun xv s₁ => ∃ t, xv = .ref t ∧ s₁.heap.IsTuple t items.toArray ∧ ∃ J : Nat → Shared → Prop,
      (∀ i s' h₁ tk₁, J i s' → (∀ b o, b ≠ s₁.heap.objs.size → s'.heap.get? b = some o → h₁.get? b = some o) → J i { s' with heap := h₁, toks := tk₁ }) ∧
      (∀ h' tk, (∀ b o, s₁.heap.get? b = some o → h'.get? b = some o) → h'.objs.size = s₁.heap.objs.size + 1 → J 0 { s₁ with heap := h', toks := tk }) ∧
      (∀ i v s₂ E', items[i]? = some v → s₂.heap.IsTupleIter s₁.heap.objs.size t (i + 1) → J i s₂ → wpAny (model prog w) A (assign target env v) (fun _ s₃ => wpAny (model prog w) A (execs body env) (fun f s₄ => match f with
        | .next | .cont => J (i + 1) s₄ ∧ s₄.heap.IsTupleIter s₁.heap.objs.size t (i + 1) ∧ s₄.heap.IsTuple t items.toArray
        | .brk => Q .next s₄
        | .ret v => Q (.ret v) s₄) E' s₃) E' s₂) ∧
      ∀ s', J items.length s' → Q .next s') E s)
    (hs : ∀ x, foldedSetIterable iter env x = pure x := by intro _; rfl) (ht : ∀ I v, letOwnedTupleGo target (.ref I) v = pure () := by intro _ _; rfl) :
    wpAny (model prog w) A (exec (.For target iter body [] pos) env) Q E s := by
  refine wpAny_For (wpAny_mono h (fun xv s₁ h₁ => ?_) fun _ _ e => e) hs
  obtain ⟨t, rfl, hT, J, hJ, h0, step, done⟩ := h₁
  refine wpAny_pyIter_tuple hT ?_
  have hlt : t ≠ s₁.heap.objs.size := by obtain ⟨o, e, _⟩ := hT; exact Nat.ne_of_lt (Heap.lt_size e)
  have hup : ∀ b o, s₁.heap.get? b = some o → (s₁.heap.push { cls := .type "tuple_iterator", data := .fields #[.ref t, .int 0 0] }).get? b = some o := fun b o e => Heap.get?_push_of_some _ e
  have W := Walks.tuple (prog := prog) (w := w) (A := A) hh s₁.heap.objs.size t hlt items.toArray
  refine loopW (R := fun r s' => match r with | .ok f => Q f s' | .error e => cameBackBy (model prog w) A env E e s') W J ⟨?_, hT.at fun o e => hup _ o e⟩ (h0 _ _ hup (Heap.size_push ..)) (fun i s' h₁ tk₁ hj _ hk => hJ i s' h₁ tk₁ hj fun b o hb e => hk b o (by simpa using hb) e) (fun i v s₂ E' hi hv hst hj => step i v s₂ E' (by simpa using hv) hst.1 hj) (fun s' hj => done s' (by simpa using hj)) (ht _)
  exact ⟨_, Heap.get?_push_size _ rfl, rfl, rfl⟩
end
end Mine
-- EdL
namespace Mine
/-- where one turn of the loop over the groups ends -/
inductive GPost (c : Bool) (g : Heap) (L : Addr) (m : Str → Option Value) (s : Shared) (I : Addr) (oI : Obj) (cg : Addr) (pre own : List (Addr × Obj)) (Q : Flow → Shared → Prop) : Flow → Shared → Prop
  | next {h' : Heap} {tk : Nat} {Tl'' : List (Addr × Obj)} {og'' : Obj} : c = false → TS1 Tl'' → (∃ v, og''.data = .cell v) → Fr g L h' m → News g L h' ((I, oI) :: (cg, og'') :: (pre ++ (Tl'' ++ own))) → GPost c g L m s I oI cg pre own Q .next { s with heap := h', toks := tk }
  | ret {v : Value} {s' : Shared} : c = true → Q (.ret v) s' → GPost c g L m s I oI cg pre own Q (.ret v) s'
section
variable {prog : Program} {w : World} {A : Around} {s : Shared} {env : Env} {g : Heap} {L cg t : Addr} {og : Obj} {pre own Tl : List (Addr × Obj)} {m : Str → Option Value} {items : List Value} {L0 : List Str}
/-- the loop over the groups: the target is a cell -/
theorem For_groups {Q : Flow → Shared → Prop} {E : Value → Shared → Prop} {x : Str} {px : Pos} {iter : Expr} {body : List Stmt} {pos : Pos} (c : Str → Bool) (hks : env.scope.kind = .function) (hkx : env.kindOf x = some .cell) (hcx : env.cells.lookup x = some cg) (hpre : ∀ p ∈ pre, p.1 ≠ cg) (hown : ∀ p ∈ own, p.1 ≠ cg) (hh : A.handled = none)
    (F : Fr g L s.heap m) (N : News g L s.heap ((cg, og) :: (pre ++ (Tl ++ own)))) (ts : TS1 Tl) (hog : ∃ v, og.data = .cell v) (h172 : 172 < g.objs.size)
    (hI : ∀ v ∈ items, ∃ grp tg, v = .str grp tg ∧ grp ∈ L0) (hC : ∀ grp ∈ L0, ∃ tg, Value.str grp tg ∈ items)
    (hev : wpAny (model prog w) A (eval iter env) (fun xv s₁ => xv = .ref t ∧ g.IsTuple t items.toArray ∧ ∃ tk, s₁ = { s with toks := tk }) E s)
    (step : ∀ grp tg og' I oI Tl' h₁ tk₁ E', grp ∈ L0 → I ≠ 172 → og'.data = .cell (some (.str grp tg)) → TS1 Tl' → Fr g L h₁ m → News g L h₁ ((I, oI) :: (cg, og') :: (pre ++ (Tl' ++ own))) →
      wpAny (model prog w) A (execs body env) (GPost (c grp) g L m s I oI cg pre own Q) E' { s with heap := h₁, toks := tk₁ })
    (done : ∀ h' tk Tl' og', TS1 Tl' → Fr g L h' m → News g L h' ((cg, og') :: (pre ++ (Tl' ++ own))) → (∀ grp ∈ L0, c grp = false) → Q .next { s with heap := h', toks := tk })
    (hs : ∀ x, foldedSetIterable iter env x = pure x := by intro _; rfl) :
    wpAny (model prog w) A (exec (.For (.Name x px) iter body [] pos) env) Q E s := by
  refine For_tup (items := items) hh (wpAny_mono hev (fun xv s₁ hx => ?_) fun _ _ e => e) hs (by intro _ _; rfl)
  obtain ⟨rfl, hT, tk0, rfl⟩ := hx
  have hg0 : g.objs.size < s.heap.objs.size := Nat.lt_of_le_of_lt F.above F.ns.lt
  have hLI : L < s.heap.objs.size := F.ns.lt
  refine ⟨t, rfl, hT.at fun o e => F.keep _ o e, fun i s' => ∃ h' tk Tl' og', s' = { s with heap := h', toks := tk } ∧ TS1 Tl' ∧ (∃ v, og'.data = .cell v) ∧ Fr g L h' m ∧ News g L h' ((cg, og') :: (pre ++ (Tl' ++ own))) ∧ (∀ p ∈ (cg, og') :: (pre ++ (Tl' ++ own)), p.1 ≠ s.heap.objs.size) ∧ ∀ j grp tg, j < i → items[j]? = some (.str grp tg) → c grp = false, ?_, ?_, ?_, ?_⟩
  · rintro i s' h₁ tk₁ ⟨h', tk, Tl', og', rfl, a1, a2, a3, a4, a5, a6⟩ hk
    refine ⟨h₁, tk₁, Tl', og', rfl, a1, a2, ⟨a3.ns.at' fun o e => hk _ o (Nat.ne_of_lt hLI) e, fun b o e => hk b o (Nat.ne_of_lt (Nat.lt_trans (Heap.lt_size e) hg0)) (a3.keep b o e), a3.above⟩, fun p hp => ⟨hk _ _ (a5 p hp) (a4 p hp).1, (a4 p hp).2⟩, a5, a6⟩
  · intro h' tk hk hz
    exact ⟨h', tk, Tl, og, rfl, ts, hog, fr_grown F hk, news_grown N hk, fun p hp => Nat.ne_of_lt (Heap.lt_size (N p hp).1), fun j _ _ hj => absurd hj (Nat.not_lt_zero _)⟩
  · rintro i v s₂ E' hv hit ⟨h', tk, Tl', og', rfl, a1, a2, a3, a4, a5, a6⟩
    obtain ⟨grp, tg, rfl, hgrp⟩ := hI v (List.mem_of_getElem? hv)
    obtain ⟨oI, hoI, hcI, hdI⟩ := hit
    have NI : News g L h' ((s.heap.objs.size, oI) :: (cg, og') :: (pre ++ (Tl' ++ own))) := fun p hp => by
      rcases List.mem_cons.mp hp with rfl | hp
      · refine ⟨hoI, Nat.ne_of_gt hLI, ?_⟩
        cases q : g.get? s.heap.objs.size with
        | none => rfl
        | some o => exact absurd (Nat.lt_trans (Heap.lt_size q) hg0) (Nat.lt_irrefl _)
      · exact a4 p hp
    obtain ⟨vog, a2⟩ := a2
    have hcg := a4 _ (.head _)
    refine wpAny_assign_Name (wpAny_storeName_cell hks hkx hcx ⟨og', hcg.1, a2⟩ fun h₂ hv₂ hs₂ => ?_)
    obtain ⟨o₂, ho₂, hd₂⟩ := hv₂
    have tl : ∀ p ∈ Tl', p.1 ≠ cg := fun p hp e => by
      have q1 := (a4 p (.tail _ (List.mem_append.mpr (.inr (List.mem_append.mpr (.inl hp)))))).1
      have q2 := hcg.1
      dsimp only at q2
      rw [e, q2] at q1
      have q1 := Option.some.inj q1
      rw [q1] at a2
      cases a1 with
      | t1 x1 =>
        obtain ⟨vs1, t1', y1, z1⟩ := x1
        simp only [List.mem_cons, List.not_mem_nil, or_false] at hp
        rcases hp with rfl | rfl
        · simp at a2
        · rw [y1] at a2; cases a2
      | t2 x1 x2 =>
        obtain ⟨vs1, t1', y1, z1⟩ := x1
        obtain ⟨vs2, t2', y2, z2⟩ := x2
        simp only [List.mem_cons, List.not_mem_nil, or_false] at hp
        rcases hp with rfl | rfl | rfl
        · simp at a2
        · rw [y1] at a2; cases a2
        · rw [y2] at a2; cases a2
    have NI₂ : News g L h₂ ((s.heap.objs.size, oI) :: (cg, o₂) :: (pre ++ (Tl' ++ own))) := fun p hp => by
      rcases List.mem_cons.mp hp with rfl | hp
      · exact ⟨hs₂.extBut _ _ (fun q => a5 (cg, og') (.head _) q.symm) (NI _ (.head _)).1, (NI _ (.head _)).2⟩
      · rcases List.mem_cons.mp hp with rfl | hp
        · exact ⟨ho₂, hcg.2⟩
        · refine ⟨hs₂.extBut _ _ ?_ (NI p (.tail _ (.tail _ hp))).1, (NI p (.tail _ (.tail _ hp))).2⟩
          rcases List.mem_append.mp hp with hp | hp
          · exact hpre p hp
          · exact (List.mem_append.mp hp).elim (tl p) (hown p)
    have F₂ : Fr g L h₂ m := ⟨a3.ns.sameBut hs₂ (Ne.symm hcg.2.1), fun b ob e => (hs₂.2 b (fun q => by rw [q, hcg.2.2] at e; cases e)).trans (a3.keep b ob e), a3.above⟩
    refine wpAny_mono (step grp tg o₂ _ oI Tl' h₂ tk E' hgrp (Nat.ne_of_gt (Nat.lt_trans h172 hg0)) hd₂ a1 F₂ NI₂) (fun f s₄ h₄ => ?_) fun _ _ e => e
    cases f with
    | ret v => cases h₄ with | ret _ h => exact h
    | brk => cases h₄
    | cont => cases h₄
    | next =>
      obtain ⟨hc, h'', tk'', Tl'', og'', rfl, b1, b2, b3, b4⟩ : c grp = false ∧ ∃ h' tk Tl'' og'', s₄ = { s with heap := h', toks := tk } ∧ TS1 Tl'' ∧ (∃ v, og''.data = .cell v) ∧ Fr g L h' m ∧ News g L h' ((s.heap.objs.size, oI) :: (cg, og'') :: (pre ++ (Tl'' ++ own))) := by
        cases h₄ with | next a b c d e => exact ⟨a, _, _, _, _, rfl, b, c, d, e⟩
      refine ⟨⟨h'', tk'', Tl'', og'', rfl, b1, b2, b3, fun p hp => b4 p (.tail _ hp), fun p hp e => ?_, ?_⟩, ⟨oI, (b4 _ (.head _)).1, hcI, hdI⟩, hT.at fun o e => b3.keep _ o e⟩
      · have q1 := (b4 p (.tail _ hp)).1
        have q2 := (b4 _ (.head _)).1
        rcases List.mem_cons.mp hp with rfl | hp'
        · dsimp only at e q1 q2
          rw [e, q2] at q1
          cases q1
          obtain ⟨v, b2⟩ := b2
          rw [hdI] at b2
          cases b2
        · rcases List.mem_append.mp hp' with hp' | hp'
          · exact a5 p (.tail _ (List.mem_append.mpr (.inl hp'))) e
          · rcases List.mem_append.mp hp' with hp' | hp'
            · have e1 : h''.get? p.1 = some p.2 := q1
              dsimp only at q2
              rw [e, q2] at e1
              have e1 := Option.some.inj e1
              have hd : p.2.data ≠ .fields #[.ref t, .int (i + 1 : Nat) 0] ∨ p.2.cls ≠ .type "tuple_iterator" := by
                cases b1 with
                | t1 x1 =>
                  obtain ⟨vs1, t1', y1, z1⟩ := x1
                  simp only [List.mem_cons, List.not_mem_nil, or_false] at hp'
                  rcases hp' with rfl | rfl
                  · exact .inl (by simp)
                  · refine .inl fun q => ?_
                    rw [y1] at q
                    cases q
                    simp at z1
                | t2 x1 x2 =>
                  obtain ⟨vs1, t1', y1, z1⟩ := x1
                  obtain ⟨vs2, t2', y2, z2⟩ := x2
                  simp only [List.mem_cons, List.not_mem_nil, or_false] at hp'
                  rcases hp' with rfl | rfl | rfl
                  · exact .inl (by simp)
                  · refine .inl fun q => ?_
                    rw [y1] at q
                    cases q
                    simp at z1
                  · refine .inl fun q => ?_
                    rw [y2] at q
                    cases q
                    simp at z2
              rw [← e1] at hd
              exact hd.elim (fun q => q hdI) fun q => q hcI
            · exact a5 p (.tail _ (List.mem_append.mpr (.inr (List.mem_append.mpr (.inr hp'))))) e
      · intro j grp' tg' hj hv'
        rcases Nat.lt_succ_iff_lt_or_eq.mp hj with hj | rfl
        · exact a6 j grp' tg' hj hv'
        · rw [hv] at hv'
          cases hv'
          exact hc
  · rintro s' ⟨h', tk, Tl', og', rfl, a1, a2, a3, a4, a5, a6⟩
    refine done h' tk Tl' og' a1 a3 a4 fun grp hgrp => ?_
    obtain ⟨tg, hm⟩ := hC grp hgrp
    obtain ⟨j, hj⟩ := List.mem_iff_getElem?.mp hm
    exact a6 j grp tg (List.getElem?_eq_some_iff.mp hj).1 hj
end
end Mine
-- EdM
namespace Mine
abbrev groupsL : List Str := [Str.ofString "AEIOUY", Str.ofString "BP", Str.ofString "CKQ", Str.ofString "DT", Str.ofString "LR", Str.ofString "MN", Str.ofString "GJ", Str.ofString "FPV", Str.ofString "SXZ", Str.ofString "CSZ"]
theorem grp_tup {P : Params} {g : Heap} (X : (hd.heap_39 P).In g) : ∃ items : List Value, g.IsTuple 155 items.toArray ∧ (∀ v ∈ items, ∃ grp tg, v = .str grp tg ∧ grp ∈ groupsL) ∧ (∀ grp ∈ groupsL, ∃ tg, Value.str grp tg ∈ items) := by
  have hdummy := Eq.refl PySem.Challenge.rw_bs0041_01
  revert X hdummy; k_fill; intro X _
  have aux : ∀ {l : List Value} {n : Nat} {dd : Option Addr} {sl : Array (Option Value)}, (hd.heap_39 P).lookup 155 = some ⟨.type "tuple", dd, .seq l.toArray n, sl⟩ → ((∀ v ∈ l, ∃ grp tg, v = .str grp tg ∧ grp ∈ groupsL) ∧ (∀ grp ∈ groupsL, ∃ tg, Value.str grp tg ∈ l)) → ∃ items : List Value, g.IsTuple 155 items.toArray ∧ (∀ v ∈ items, ∃ grp tg, v = .str grp tg ∧ grp ∈ groupsL) ∧ (∀ grp ∈ groupsL, ∃ tg, Value.str grp tg ∈ items) :=
    fun h q => ⟨_, ⟨_, X _ _ h, rfl, _, rfl⟩, q⟩
  refine' aux ?a ?b
  case a => k_is
  case b =>
    simp only [groupsL, List.forall_mem_cons, List.not_mem_nil, false_implies, implies_true, and_true]
    exact ⟨⟨⟨_, _, rfl, .head _⟩, ⟨_, _, rfl, .tail _ (.head _)⟩, ⟨_, _, rfl, .tail _ (.tail _ (.head _))⟩, ⟨_, _, rfl, .tail _ (.tail _ (.tail _ (.head _)))⟩, ⟨_, _, rfl, .tail _ (.tail _ (.tail _ (.tail _ (.head _))))⟩, ⟨_, _, rfl, .tail _ (.tail _ (.tail _ (.tail _ (.tail _ (.head _)))))⟩,
      ⟨_, _, rfl, .tail _ (.tail _ (.tail _ (.tail _ (.tail _ (.tail _ (.head _))))))⟩, ⟨_, _, rfl, .tail _ (.tail _ (.tail _ (.tail _ (.tail _ (.tail _ (.tail _ (.head _)))))))⟩, ⟨_, _, rfl, .tail _ (.tail _ (.tail _ (.tail _ (.tail _ (.tail _ (.tail _ (.tail _ (.head _))))))))⟩, ⟨_, _, rfl, .tail _ (.tail _ (.tail _ (.tail _ (.tail _ (.tail _ (.tail _ (.tail _ (.tail _ (.head _)))))))))⟩⟩,
      ⟨_, .head _⟩, ⟨_, .tail _ (.head _)⟩, ⟨_, .tail _ (.tail _ (.head _))⟩, ⟨_, .tail _ (.tail _ (.tail _ (.head _)))⟩, ⟨_, .tail _ (.tail _ (.tail _ (.tail _ (.head _))))⟩, ⟨_, .tail _ (.tail _ (.tail _ (.tail _ (.tail _ (.head _)))))⟩,
      ⟨_, .tail _ (.tail _ (.tail _ (.tail _ (.tail _ (.tail _ (.head _))))))⟩, ⟨_, .tail _ (.tail _ (.tail _ (.tail _ (.tail _ (.tail _ (.tail _ (.head _)))))))⟩, ⟨_, .tail _ (.tail _ (.tail _ (.tail _ (.tail _ (.tail _ (.tail _ (.tail _ (.head _))))))))⟩, ⟨_, .tail _ (.tail _ (.tail _ (.tail _ (.tail _ (.tail _ (.tail _ (.tail _ (.tail _ (.head _)))))))))⟩⟩
theorem allLt_mem {d : Nat} {l : List (Addr × Obj)} (h : AllLt d l) : ∀ p ∈ l, @LT.lt Nat _ p.1 d := ktn_ltOf h
end Mine
-- EdR
namespace Mine
theorem fresh_EdR : True := by (w_top off; exact trivial)
local macro_rules | `(tactic| k_room) => `(tactic| ktr_room)
local macro_rules | `(tactic| walk_at "MY rest") => `(tactic| (
  refine' kp_rest ?k1 ?k2 ?k3 ?k4 ?k5 ?kA ?kF ?kK ?k6 ?k7 ?k8 ?kV ?kP ?kG ?kB ?_ ?c2 ?c3 ?c4 ?c5
  (case kA => exact rfl)
  (case kF => first | exact rfl | assumption)
  (case kK => first | exact rfl | assumption)
  (case k1 => k_asm)
  (case k2 => k_asm)
  (case k3 => k_asm)
  (case k4 => k_asm)
  (case k5 => k_asm)
  (case k6 => k_is)
  (case k7 => k_is)
  (case k8 => k_room)
  (case kV => kl_lit)
  (case kP => exact rfl)
  (case kG => exact fun _ => rfl)
  (case kB => exact fun _ => locs rfl)
  (case c5 => decide)
  (case c2 => exact rfl)
  (case c3 => exact rfl)
  (case c4 => exact rfl)
  k_whole
  intro D' g' L' h' l1 FG' F' N' B' X' T'
  (try k_lt l1); (try dsimp only); (try k_lift B'); (try k_fold)))
local macro_rules | `(tactic| walk_at "MY plain") => `(tactic| (
  refine' code_def ?k1 ?k2 ?k3 ?k4 ?k5 ?kA ?kF ?kK ?k6 ?k7 ?k8 ?k9 ?kB ?_ ?c2 ?c3 ?c4 ?c5
  (case kA => exact rfl)
  (case kF => first | exact rfl | assumption)
  (case kK => first | exact rfl | assumption)
  (case k1 => k_asm)
  (case k2 => k_asm)
  (case k3 => k_asm)
  (case k4 => k_asm)
  (case k5 => k_asm)
  (case k6 => k_is)
  (case k7 => k_is)
  (case k8 => k_room)
  (case k9 => first | exact BindsTo.of_eq rfl | exact binds_K (by k_in) rfl (by k_is) rfl rfl rfl)
  (case c5 => decide)
  (case kB => exact locs rfl)
  (case c2 => exact rfl)
  (case c3 => exact rfl)
  (case c4 => exact rfl)
  k_whole
  intro g' L' h' FG' F' N' B' X' T'
  (try dsimp only); (try k_lift B'); (try k_fold)))
local macro_rules | `(tactic| walk_at "getAttr ref") => `(tactic| (k_here; (with_reducible show wpAny _ _ (getAttr (Value.ref _) (PySem.Str.ofString "_ident") _) _ _ _); k_dflt (refine' get_sm ?k1 ?k2 ?k3 ?k4 ?k5 ?k6 ?k7 ?k8 ?k9 ?k10 ?k11 ?k12 ?_; (case k3 => k_inst); (case k1 => k_asm); (case k2 => k_asm); (case k6 => k_is); (case k4 => k_is); (case k5 => k_is); (case k7 => k_is); (case k8 => k_is); (case k9 => decide +kernel); (case k10 => k_get); (case k11 => k_is); (case k12 => k_handed); k_whole)))
local macro_rules | `(tactic| walk_at "eval Call Attribute") => `(tactic| (k_here; (with_reducible show wpAny _ _ (eval (Expr.Call (Expr.Attribute (Expr.Name _ _) _ _) [Expr.Starred _ _] [] _) _) _ _ _); refine starMethod ?_))
local macro_rules | `(tactic| walk_at "MY restC") => `(tactic| (
  refine' kpc_rest ?k1 ?k2 ?k3 ?k4 ?k5 ?kA ?kF ?kK ?k6 ?k7 ?k8 ?kV ?kP ?kG ?kB ?kD ?_ ?c2 ?c3 ?c4
  (case kA => exact rfl)
  (case kF => first | exact rfl | assumption)
  (case kK => first | exact rfl | assumption)
  (case k1 => k_asm)
  (case k2 => k_asm)
  (case k3 => k_asm)
  (case k4 => k_asm)
  (case k5 => k_asm)
  (case k6 => k_is)
  (case k7 => k_is)
  (case k8 => k_room)
  (case kV => kl_lit)
  (case kP => exact rfl)
  (case kG => exact fun _ => rfl)
  (case kB => exact fun _ => rfl)
  (case kD => decide +kernel)
  (case c2 => exact rfl)
  (case c3 => exact rfl)
  (case c4 => exact rfl)
  k_whole
  intro D' g' L' h' tk' cells' l1 l2 FG' F' N' Y' B' X' T'
  (try k_lt l1); (try k_lt2 l2); k_cells Y'; (try simp only [List.cons_append, List.nil_append] at N'); (try dsimp only); (try k_lift B'); (try k_fold)))
local macro_rules | `(tactic| walk_at "call ref") => `(tactic| (k_here; (with_reducible show wpAny _ _ (call (Value.ref 95) _) _ _ _); k_dflt (refine wpAny_call ?_; refine' ident_c ?k1 ?k2 ?k3 ?k4 ?k5 ?k6 ?k7 ?k8 ?k9 ?_; (case k1 => k_asm); (case k2 => k_asm); (case k3 => k_asm); (case k4 => k_asm); (case k5 => k_asm); (case k6 => first | exact rfl | assumption); (case k7 => first | exact rfl | assumption); (case k8 => (dsimp only [Arnd, Around.deeper] at *; omega)); (case k9 => (dsimp only [Arnd, Around.deeper] at *; omega)); k_whole); intro h' tk' F' N'; (try dsimp only); (try k_sweep)))
local macro_rules | `(tactic| walk_at "MY memT") => `(tactic| (first | (refine List.mem_append_left _ ?_; assumption) | (refine List.Mem.tail _ ?_; walk_at "MY memT")))
local macro_rules | `(tactic| walk_at "MY split") => `(tactic| (first | exact Split.base | (refine' Split.cons ?sp; (case sp => walk_at "MY split"))))
local macro_rules | `(tactic| walk_at "MY off") => `(tactic| ((try dsimp only); simp only [List.forall_mem_cons, List.not_mem_nil, false_implies, implies_true, and_true]; (repeat' (refine And.intro ?_ ?_)); all_goals (first | assumption | (refine neN ?_; (try dsimp only); omega))))
local macro_rules | `(tactic| walk_at "eval Lambda") => `(tactic| (k_here; k_dflt (refine' kla_eval ?d0 ?_; (case d0 => exact rfl)); (first
  | (k_dflt (refine' lam_S1 ?ts ?F ?N ?hg ?T ?C ?off ?offo ?hq ?e1 ?e2 ?hcl ?_; (case ts => assumption); (case F => k_asm); (case N => k_asm); (case hg => walk_at "MY split"); (case T => k_asm); (case C => assumption); (case off => walk_at "MY off"); (case offo => assumption); (case hq => first | rfl | with_unfolding_all rfl); (case e1 => rfl); (case e2 => rfl); (case hcl => exact rfl); k_whole); intro f' c' oc' ct' h' tk' Tl' F' N' ts' hm' hc' l1'; (try simp only [List.cons_append, List.nil_append] at N'))
  | (k_dflt (refine' lam_S2 ?ts ?F ?N ?hg ?T ?C ?off ?offo ?hq ?e1 ?e2 ?hcl ?_; (case ts => assumption); (case F => k_asm); (case N => k_asm); (case hg => walk_at "MY split"); (case T => k_asm); (case C => assumption); (case off => walk_at "MY off"); (case offo => assumption); (case hq => first | rfl | with_unfolding_all rfl); (case e1 => rfl); (case e2 => rfl); (case hcl => exact rfl); k_whole); intro f' c' oc' ct' h' tk' Tl' F' N' ts' hm' hc' l1'; (try simp only [List.cons_append, List.nil_append] at N')))))
local macro_rules | `(tactic| walk_at "call type:map") => `(tactic| (k_here; k_dflt (refine' map_K ?F ?N ?m ?c ?d ?_; (case F => k_asm); (case N => k_asm); (case m => k_mem); (case c => exact rfl); (case d => exact rfl); k_whole); intro h' mp' it' F' N' hX' hlt' hL' h0'; (try dsimp only)))
local macro_rules | `(tactic| walk_at "call builtin:any") => `(tactic| (k_here; k_dflt (refine' any_lam1 ?hh ?room ?F ?N ?X ?T ?M ?lt ?L ?h0 ?ho ?hoc ?hc ?hcs ?hcd ?hx ?hdx ?_; (case hh => exact rfl); (case room => (dsimp only [Arnd, Around.deeper] at *; omega)); (case F => k_asm); (case N => k_asm); (case X => k_asm); (case T => k_asm); (case M => assumption); (case lt => assumption); (case L => assumption); (case h0 => assumption); (case ho => k_mem); (case hoc => walk_at "MY memT"); (case hc => assumption); (case hcs => k_mem); (case hcd => assumption); (case hx => k_mem); (case hdx => k_mem); k_whole); intro h' tk' F' N'; (try dsimp only)))
local macro_rules | `(tactic| walk_at "call builtin:all") => `(tactic| (k_here; k_dflt (refine' all_lam2 ?hh ?room ?F ?N ?X ?T ?M ?lt ?L ?h0 ?ho ?hoc ?hc ?hcs ?hcd ?_; (case hh => exact rfl); (case room => (dsimp only [Arnd, Around.deeper] at *; omega)); (case F => k_asm); (case N => k_asm); (case X => k_asm); (case T => k_asm); (case M => assumption); (case lt => assumption); (case L => assumption); (case h0 => assumption); (case ho => k_mem); (case hoc => walk_at "MY memT"); (case hc => assumption); (case hcs => k_mem); (case hcd => assumption); k_whole); intro h' tk' F' N'; (try dsimp only)))
local macro_rules | `(tactic| walk_at "MY sub") => `(tactic| (first | assumption | (refine List.Mem.tail _ ?_; walk_at "MY sub")))
local macro_rules | `(tactic| walk_at "MY fin") => `(tactic| (with_reducible rename Fr h₀ _ _ _ => kF; with_reducible rename News h₀ _ _ _ => kN))

def rcv (c0 c1 c2 : Int) (a b : Str) : Int := if a = b then c0 else if (!sIn gText a || !sIn gText b) = true then c2 else if (groupsL.any fun g => sIn g a && sIn g b) = true then c1 else c2
section
variable {w : World} {p : Program} {loose : List Str} {mean : ExcName → Option Value} {mg mb : Str → Option Value} {dp un : Nat} {gd : Option (List Code)} {env : Env} {outer : List Env} {A₀ : Around} {base h₀ : Heap} {L : Addr} {m : Str → Option Value} {news : List (Addr × Obj)} {s : Shared} {R : Result → Shared → Prop}
variable {x dx : Addr} {c0 c1 c2 : Int} {lo ex : Bool} {k1 k2 k3 k4 k5 k6 v1 v2 v3 v6 : Tok} {n : Nat} {own Tl : List (Addr × Obj)}
theorem r_cost_c (B : Below A₀ base outer h₀) (F : Fr h₀ L s.heap m) (X : (hd.heap_39 w.params).In h₀) (N : News h₀ L s.heap ((x, instObj 192 dx) :: (dx, (dictOf (edD w.params c0 c1 c2 lo ex k1 k2 k3 k4 k5 k6 v1 v2 v3 v6) n)) :: (Tl ++ own))) (T : Top p loose mean mg mb h₀) (hf : env.frame = some L) (hke : env.scope.kind = .function) (C : CodeHd h₀ 176 172) (ts : TS Tl) (offo : ∀ p ∈ own, p.1 ≠ 172) (offx : x ≠ 172) (offd : dx ≠ 172) (hdp : dp + 20 < recursionLimit) (hun : un + 128 < cLine) {a b : Str} {ta tb : Tok}
  (hR : ∀ h' tk' t' Tl', Fr h₀ L h' m → News h₀ L h' ((x, instObj 192 dx) :: (dx, (dictOf (edD w.params c0 c1 c2 lo ex k1 k2 k3 k4 k5 k6 v1 v2 v3 v6) n)) :: (Tl' ++ own)) → TS Tl' → R (.ok (.ret (.int (rcv c0 c1 c2 a b) t'))) {s with heap := h', toks := tk'}) : codeAny (model PySem.Challenge.rw_bs0041_01.row.prog w) (Arnd dp un gd env outer) (.call (.ref 177) ⟨[.ref x, .str a ta, .str b tb], []⟩) R s := by
  revert X; k_fill; intro X
  walk_at "MY restC"
  with_reducible rename Fr h₀ _ _ _ => FG
  with_reducible rename Obj.data _ = Data.cell _ => hd2
  have hd2' : _ = Data.cell (some (.ref x)) := hd2
  clear hd2
  have C' := C.keeps FG.keep
  obtain ⟨_, _, hAll⟩ : _ < _ ∧ _ < _ ∧ AllLt _ (Tl ++ own) := by assumption
  have h172 := ltN (TS.lt ts hAll)
  k_steps
  · with_reducible rename Fr h₀ _ _ _ => kF
    with_reducible rename News h₀ _ _ _ => kN
    have e : rcv c0 c1 c2 a b = c0 := by unfold rcv; first | rw [if_pos ‹a = b›] | rw [if_pos rfl]
    rw [← e]
    exact hR _ _ _ _ kF (fun p hp => kN p (by walk_at "MY sub")) ts
  · with_reducible rename Fr h₀ _ _ _ => kF
    with_reducible rename News h₀ _ _ _ => kN
    have e : rcv c0 c1 c2 a b = c2 := by unfold rcv; rw [if_neg ‹¬ a = b›, if_pos (by assumption)]
    rw [← e]
    exact hR _ _ _ _ kF (fun p hp => kN p (by walk_at "MY sub")) (TS1.ts (by assumption))
  · with_reducible rename Fr _ _ _ _ => FL
    with_reducible rename News _ _ _ _ => NL
    obtain ⟨gits, hgT, hgI, hgC⟩ := grp_tup (by assumption : (hd.heap_39 w.params).In _)
    have NL2 := fun p hp => NL p (.tail _ hp)
    refine' For_groups (t := 155) (items := gits) (L0 := groupsL) (pre := [_, _, _, _]) (Tl := ?Tl) (own := own) (fun grp => sIn grp a && sIn grp b) rfl rfl rfl ?hpre ?hown (by exact rfl) FL NL2 (by assumption) ⟨_, by assumption⟩ ?h172 ?hI ?hC ?hev ?step ?done
    case hpre => walk_at "MY off"
    case hown => exact fun p hp => neN (Nat.ne_of_lt (by have := allLt_mem hAll p (List.mem_append_right _ hp); omega))
    case hev =>
      k_steps
      all_goals first | exact hgT | exact rfl | exact ⟨_, rfl⟩ | exact ⟨rfl, hgT, _, rfl⟩ | trace_state
    case hI => exact hgI
    case hC => exact hgC
    case h172 => obtain ⟨_, _, _, _, _, _, _, _, _, q, _⟩ := C'; exact Nat.lt_trans (by decide) (Heap.lt_size q)
    case step =>
      clear FL NL NL2
      intro grp tg og' I oI Tl' h₁ tk₁ E' hgrp hI172 hog' ts1 F1 N1
      simp only [List.cons_append, List.nil_append] at N1
      k_steps
      · refine .ret (by assumption) ?_
        k_steps
        with_reducible rename Fr h₀ _ _ _ => kF
        with_reducible rename News h₀ _ _ _ => kN
        have e : rcv c0 c1 c2 a b = c1 := by unfold rcv; rw [if_neg ‹¬ a = b›, if_neg (by rw [‹(!sIn gText a || !sIn gText b) = false›]; decide), if_pos (List.any_eq_true.mpr ⟨grp, hgrp, by assumption⟩)]
        rw [← e]
        exact hR _ _ _ _ kF (fun p hp => kN p (by walk_at "MY sub")) (TS1.ts (by assumption))
      · with_reducible rename Fr _ _ _ _ => F2
        with_reducible rename News _ _ _ _ => N2
        exact .next (by assumption) (by assumption) ⟨_, by assumption⟩ F2 (fun p hp => N2 p (.tail _ hp))
    case done =>
      clear FL NL NL2
      intro h' tk Tl' og' ts1 F1 N1 hgf
      simp only [List.cons_append, List.nil_append] at N1
      k_steps
      with_reducible rename Fr h₀ _ _ _ => kF
      with_reducible rename News h₀ _ _ _ => kN
      have e : rcv c0 c1 c2 a b = c2 := by unfold rcv; rw [if_neg ‹¬ a = b›, if_neg (by rw [‹(!sIn gText a || !sIn gText b) = false›]; decide), if_neg (by rw [List.any_eq_false.mpr fun g hg => by rw [hgf g hg]; decide]; decide)]
      rw [← e]
      exact hR _ _ _ _ kF (fun p hp => kN p (by walk_at "MY sub")) (TS1.ts ts1)
end
end Mine
-- EdS
namespace Mine
theorem fresh_EdS : True := by (w_top off; exact trivial)
local macro_rules | `(tactic| k_room) => `(tactic| ktr_room)
local macro_rules | `(tactic| walk_at "MY rest") => `(tactic| (
  refine' kp_rest ?k1 ?k2 ?k3 ?k4 ?k5 ?kA ?kF ?kK ?k6 ?k7 ?k8 ?kV ?kP ?kG ?kB ?_ ?c2 ?c3 ?c4 ?c5
  (case kA => exact rfl)
  (case kF => first | exact rfl | assumption)
  (case kK => first | exact rfl | assumption)
  (case k1 => k_asm)
  (case k2 => k_asm)
  (case k3 => k_asm)
  (case k4 => k_asm)
  (case k5 => k_asm)
  (case k6 => k_is)
  (case k7 => k_is)
  (case k8 => k_room)
  (case kV => kl_lit)
  (case kP => exact rfl)
  (case kG => exact fun _ => rfl)
  (case kB => exact fun _ => locs rfl)
  (case c5 => decide)
  (case c2 => exact rfl)
  (case c3 => exact rfl)
  (case c4 => exact rfl)
  k_whole
  intro D' g' L' h' l1 FG' F' N' B' X' T'
  (try k_lt l1); (try dsimp only); (try k_lift B'); (try k_fold)))
local macro_rules | `(tactic| walk_at "MY plain") => `(tactic| (
  refine' code_def ?k1 ?k2 ?k3 ?k4 ?k5 ?kA ?kF ?kK ?k6 ?k7 ?k8 ?k9 ?kB ?_ ?c2 ?c3 ?c4 ?c5
  (case kA => exact rfl)
  (case kF => first | exact rfl | assumption)
  (case kK => first | exact rfl | assumption)
  (case k1 => k_asm)
  (case k2 => k_asm)
  (case k3 => k_asm)
  (case k4 => k_asm)
  (case k5 => k_asm)
  (case k6 => k_is)
  (case k7 => k_is)
  (case k8 => k_room)
  (case k9 => first | exact BindsTo.of_eq rfl | exact binds_K (by k_in) rfl (by k_is) rfl rfl rfl)
  (case c5 => decide)
  (case kB => exact locs rfl)
  (case c2 => exact rfl)
  (case c3 => exact rfl)
  (case c4 => exact rfl)
  k_whole
  intro g' L' h' FG' F' N' B' X' T'
  (try dsimp only); (try k_lift B'); (try k_fold)))
local macro_rules | `(tactic| walk_at "getAttr ref") => `(tactic| (k_here; (with_reducible show wpAny _ _ (getAttr (Value.ref _) (PySem.Str.ofString "_ident") _) _ _ _); k_dflt (refine' get_sm ?k1 ?k2 ?k3 ?k4 ?k5 ?k6 ?k7 ?k8 ?k9 ?k10 ?k11 ?k12 ?_; (case k3 => k_inst); (case k1 => k_asm); (case k2 => k_asm); (case k6 => k_is); (case k4 => k_is); (case k5 => k_is); (case k7 => k_is); (case k8 => k_is); (case k9 => decide +kernel); (case k10 => k_get); (case k11 => k_is); (case k12 => k_handed); k_whole)))
local macro_rules | `(tactic| walk_at "eval Call Attribute") => `(tactic| (k_here; (with_reducible show wpAny _ _ (eval (Expr.Call (Expr.Attribute (Expr.Name _ _) _ _) [Expr.Starred _ _] [] _) _) _ _ _); refine starMethod ?_))
local macro_rules | `(tactic| walk_at "MY restC") => `(tactic| (
  refine' kpc_rest ?k1 ?k2 ?k3 ?k4 ?k5 ?kA ?kF ?kK ?k6 ?k7 ?k8 ?kV ?kP ?kG ?kB ?kD ?_ ?c2 ?c3 ?c4
  (case kA => exact rfl)
  (case kF => first | exact rfl | assumption)
  (case kK => first | exact rfl | assumption)
  (case k1 => k_asm)
  (case k2 => k_asm)
  (case k3 => k_asm)
  (case k4 => k_asm)
  (case k5 => k_asm)
  (case k6 => k_is)
  (case k7 => k_is)
  (case k8 => k_room)
  (case kV => kl_lit)
  (case kP => exact rfl)
  (case kG => exact fun _ => rfl)
  (case kB => exact fun _ => rfl)
  (case kD => decide +kernel)
  (case c2 => exact rfl)
  (case c3 => exact rfl)
  (case c4 => exact rfl)
  k_whole
  intro D' g' L' h' tk' cells' l1 l2 FG' F' N' Y' B' X' T'
  (try k_lt l1); (try k_lt2 l2); k_cells Y'; (try simp only [List.cons_append, List.nil_append] at N'); (try dsimp only); (try k_lift B'); (try k_fold)))
local macro_rules | `(tactic| walk_at "call ref") => `(tactic| (k_here; (with_reducible show wpAny _ _ (call (Value.ref 95) _) _ _ _); k_dflt (refine wpAny_call ?_; refine' ident_c ?k1 ?k2 ?k3 ?k4 ?k5 ?k6 ?k7 ?k8 ?k9 ?_; (case k1 => k_asm); (case k2 => k_asm); (case k3 => k_asm); (case k4 => k_asm); (case k5 => k_asm); (case k6 => first | exact rfl | assumption); (case k7 => first | exact rfl | assumption); (case k8 => (dsimp only [Arnd, Around.deeper] at *; omega)); (case k9 => (dsimp only [Arnd, Around.deeper] at *; omega)); k_whole); intro h' tk' F' N'; (try dsimp only); (try k_sweep)))
local macro_rules | `(tactic| walk_at "MY memT") => `(tactic| (first | (refine List.mem_append_left _ ?_; assumption) | (refine List.Mem.tail _ ?_; walk_at "MY memT")))
local macro_rules | `(tactic| walk_at "MY split") => `(tactic| (first | exact Split.base | (refine' Split.cons ?sp; (case sp => walk_at "MY split"))))
local macro_rules | `(tactic| walk_at "MY off") => `(tactic| ((try dsimp only); simp only [List.forall_mem_cons, List.not_mem_nil, false_implies, implies_true, and_true]; (repeat' (refine And.intro ?_ ?_)); all_goals (first | assumption | (refine neN ?_; (try dsimp only); omega))))
local macro_rules | `(tactic| walk_at "eval Lambda") => `(tactic| (k_here; k_dflt (refine' kla_eval ?d0 ?_; (case d0 => exact rfl)); (first
  | (k_dflt (refine' lam_S1 ?ts ?F ?N ?hg ?T ?C ?off ?offo ?hq ?e1 ?e2 ?hcl ?_; (case ts => assumption); (case F => k_asm); (case N => k_asm); (case hg => walk_at "MY split"); (case T => k_asm); (case C => assumption); (case off => walk_at "MY off"); (case offo => assumption); (case hq => first | rfl | with_unfolding_all rfl); (case e1 => rfl); (case e2 => rfl); (case hcl => exact rfl); k_whole); intro f' c' oc' ct' h' tk' Tl' F' N' ts' hm' hc' l1'; (try simp only [List.cons_append, List.nil_append] at N'))
  | (k_dflt (refine' lam_S2 ?ts ?F ?N ?hg ?T ?C ?off ?offo ?hq ?e1 ?e2 ?hcl ?_; (case ts => assumption); (case F => k_asm); (case N => k_asm); (case hg => walk_at "MY split"); (case T => k_asm); (case C => assumption); (case off => walk_at "MY off"); (case offo => assumption); (case hq => first | rfl | with_unfolding_all rfl); (case e1 => rfl); (case e2 => rfl); (case hcl => exact rfl); k_whole); intro f' c' oc' ct' h' tk' Tl' F' N' ts' hm' hc' l1'; (try simp only [List.cons_append, List.nil_append] at N')))))
local macro_rules | `(tactic| walk_at "call type:map") => `(tactic| (k_here; k_dflt (refine' map_K ?F ?N ?m ?c ?d ?_; (case F => k_asm); (case N => k_asm); (case m => k_mem); (case c => exact rfl); (case d => exact rfl); k_whole); intro h' mp' it' F' N' hX' hlt' hL' h0'; (try dsimp only)))
local macro_rules | `(tactic| walk_at "call builtin:any") => `(tactic| (k_here; k_dflt (refine' any_lam1 ?hh ?room ?F ?N ?X ?T ?M ?lt ?L ?h0 ?ho ?hoc ?hc ?hcs ?hcd ?hx ?hdx ?_; (case hh => exact rfl); (case room => (dsimp only [Arnd, Around.deeper] at *; omega)); (case F => k_asm); (case N => k_asm); (case X => k_asm); (case T => k_asm); (case M => assumption); (case lt => assumption); (case L => assumption); (case h0 => assumption); (case ho => k_mem); (case hoc => walk_at "MY memT"); (case hc => assumption); (case hcs => k_mem); (case hcd => assumption); (case hx => k_mem); (case hdx => k_mem); k_whole); intro h' tk' F' N'; (try dsimp only)))
local macro_rules | `(tactic| walk_at "call builtin:all") => `(tactic| (k_here; k_dflt (refine' all_lam2 ?hh ?room ?F ?N ?X ?T ?M ?lt ?L ?h0 ?ho ?hoc ?hc ?hcs ?hcd ?_; (case hh => exact rfl); (case room => (dsimp only [Arnd, Around.deeper] at *; omega)); (case F => k_asm); (case N => k_asm); (case X => k_asm); (case T => k_asm); (case M => assumption); (case lt => assumption); (case L => assumption); (case h0 => assumption); (case ho => k_mem); (case hoc => walk_at "MY memT"); (case hc => assumption); (case hcs => k_mem); (case hcd => assumption); k_whole); intro h' tk' F' N'; (try dsimp only)))
local macro_rules | `(tactic| walk_at "MY sub") => `(tactic| (first | assumption | (refine List.Mem.tail _ ?_; walk_at "MY sub")))
local macro_rules | `(tactic| walk_at "MY fin") => `(tactic| (with_reducible rename Fr h₀ _ _ _ => kF; with_reducible rename News h₀ _ _ _ => kN))
section
variable {w : World} {p : Program} {loose : List Str} {mean : ExcName → Option Value} {mg mb : Str → Option Value} {dp un : Nat} {gd : Option (List Code)} {env : Env} {outer : List Env} {A₀ : Around} {base h₀ : Heap} {L : Addr} {m : Str → Option Value} {news : List (Addr × Obj)} {s : Shared} {R : Result → Shared → Prop}
variable {x dx : Addr} {c0 c1 c2 : Int} {lo ex : Bool} {k1 k2 k3 k4 k5 k6 v1 v2 v3 v6 : Tok} {n : Nat} {own Tl : List (Addr × Obj)} {led pre : List (Addr × Obj)}
theorem callWith_SM {M : Model} {A : Around} {E : Value → Shared → Prop} {K : Frag} {env : Env} {pos p : Pos} {first : List Value} {Q : Value → Shared → Prop} {e : Expr} {news : List (Addr × Obj)} {q g : Addr} {self : Value} (_X : K.In h₀) (_N : News h₀ L s.heap news) (_q : (q, methodObj (.ref g) self) ∈ news) (hf : fnIn K g = true)
    (h : wpAny M A (eval e env) (fun v s₁ => StarOf M A E v (fun vs s₂ => MethP K q g self s₂.heap ∧ wpAny M A (call (.ref q) (first ++ vs)) Q E s₂) s₁) E s)
    (he : starEach [.Starred e p] env = [(true, eval e env)] := by rfl) :
    wpAny M A (callWith pos (.ref q) first (backTo pos (starEach [.Starred e p] env)) []) Q E s := by
  rw [he]
  exact ks_call rfl (keeps_M hf) (ks_lone h)
local macro_rules | `(tactic| walk_at "callWith ref") => `(tactic| (k_here; (with_reducible show wpAny _ _ (callWith _ (Value.ref _) _ (backTo _ (starEach [Expr.Starred _ _] _)) []) _ _ _); k_dflt (refine' callWith_SM ?k1 ?k2 ?k3 ?k4 ?_; (case k1 => k_asm); (case k2 => k_asm); (case k3 => k_mem); (case k4 => k_is); k_whole)))
theorem News.toC {h : Heap} (N : News h₀ L h led) (S : Split Tl own pre led) {px pd : Addr × Obj} (hx : px ∈ pre) (hd : pd ∈ pre) : News h₀ L h (px :: pd :: (Tl ++ (pre ++ own))) := by
  rw [S.eq] at N
  intro q hq
  rcases List.mem_cons.mp hq with rfl | hq
  · exact N _ (List.mem_append.mpr (.inl hx))
  · rcases List.mem_cons.mp hq with rfl | hq
    · exact N _ (List.mem_append.mpr (.inl hd))
    · rcases List.mem_append.mp hq with hq | hq
      · exact N _ (List.mem_append.mpr (.inr (List.mem_append.mpr (.inl hq))))
      · rcases List.mem_append.mp hq with hq | hq
        · exact N _ (List.mem_append.mpr (.inl hq))
        · exact N _ (List.mem_append.mpr (.inr (List.mem_append.mpr (.inr hq))))
theorem News.ofC {h : Heap} {px pd : Addr × Obj} (N : News h₀ L h (px :: pd :: (Tl ++ (pre ++ own)))) : News h₀ L h (pre ++ (Tl ++ own)) := by
  intro q hq
  rcases List.mem_append.mp hq with hq | hq
  · exact N _ (.tail _ (.tail _ (List.mem_append.mpr (.inr (List.mem_append.mpr (.inl hq))))))
  · rcases List.mem_append.mp hq with hq | hq
    · exact N _ (.tail _ (.tail _ (List.mem_append.mpr (.inl hq))))
    · exact N _ (.tail _ (.tail _ (List.mem_append.mpr (.inr (List.mem_append.mpr (.inr hq))))))
theorem off_both (off : ∀ p ∈ pre, p.1 ≠ 172) (offo : ∀ p ∈ own, p.1 ≠ 172) : ∀ p ∈ pre ++ own, p.1 ≠ 172 := fun q hq => (List.mem_append.mp hq).elim (off q) (offo q)
theorem r_cost_s (B : Below A₀ base outer h₀) (F : Fr h₀ L s.heap m) (X : (hd.heap_39 w.params).In h₀) (T : Top p loose mean mg mb h₀) (hf : env.frame = some L) (hke : env.scope.kind = .function) (ts : TS Tl) (N : News h₀ L s.heap led) (S : Split Tl own pre led) (hx : (x, instObj 192 dx) ∈ pre) (hdx : (dx, (dictOf (edD w.params c0 c1 c2 lo ex k1 k2 k3 k4 k5 k6 v1 v2 v3 v6) n)) ∈ pre) (off : ∀ p ∈ pre, p.1 ≠ 172) (offo : ∀ p ∈ own, p.1 ≠ 172) (C : CodeHd h₀ 176 172) (hdp : dp + 20 < recursionLimit) (hun : un + 128 < cLine) {a b : Str} {ta tb : Tok}
  (hR : ∀ h' tk' t' Tl', Fr h₀ L h' m → News h₀ L h' (pre ++ (Tl' ++ own)) → TS Tl' → R (.ok (.ret (.int (rcv c0 c1 c2 a b) t'))) {s with heap := h', toks := tk'}) : codeAny (model PySem.Challenge.rw_bs0041_01.row.prog w) (Arnd dp un gd env outer) (.call (.ref 177) ⟨[.ref x, .str a ta, .str b tb], []⟩) R s :=
  r_cost_c B F X (News.toC N S hx hdx) T hf hke C ts (off_both off offo) (off _ hx) (off _ hdx) hdp hun fun h' tk' t' Tl' F' N' ts' => hR h' tk' t' Tl' F' (News.ofC N') ts'
def stv (c0 c1 c2 : Int) (a b : Str) : Int := if a ≠ b ∧ sIn (Str.ofString "HW") a = true then c1 else rcv c0 c1 c2 a b
local macro_rules | `(tactic| walk_at "call ref") => `(tactic| (k_here; (with_reducible show wpAny _ _ (call (Value.ref _) _) _ _ _); k_dflt (refine' call_meth ?Nm ?q ?_; (case Nm => k_asm); (case q => k_mem); (try dsimp only); refine' r_cost_s ?B ?F ?X ?T ?hf ?hke ?ts ?N ?S ?hx ?hdx ?off ?offo ?C ?hdp ?hun ?_; (case B => k_asm); (case F => k_asm); (case X => k_asm); (case T => k_asm); (case hf => first | exact rfl | assumption); (case hke => first | exact rfl | assumption); (case ts => first | assumption | exact TS1.ts (by assumption)); (case N => k_asm); (case S => walk_at "MY split"); (case hx => k_mem); (case hdx => k_mem); (case off => walk_at "MY off"); (case offo => assumption); (case C => assumption); (case hdp => (dsimp only [Arnd, Around.deeper] at *; omega)); (case hun => (dsimp only [Arnd, Around.deeper] at *; omega)); k_whole); intro h' tk' t' Tl' F' N' ts'; (try simp only [List.cons_append, List.nil_append] at N'); (try dsimp only)))

theorem d_cost_c (B : Below A₀ base outer h₀) (F : Fr h₀ L s.heap m) (X : (hd.heap_39 w.params).In h₀) (N : News h₀ L s.heap ((x, instObj 192 dx) :: (dx, (dictOf (edD w.params c0 c1 c2 lo ex k1 k2 k3 k4 k5 k6 v1 v2 v3 v6) n)) :: (Tl ++ own))) (T : Top p loose mean mg mb h₀) (hf : env.frame = some L) (hke : env.scope.kind = .function) (C : CodeHd h₀ 176 172) (ts : TS Tl) (offo : ∀ p ∈ own, p.1 ≠ 172) (offx : x ≠ 172) (offd : dx ≠ 172) (hdp : dp + 30 < recursionLimit) (hun : un + 256 < cLine) {a b : Str} {ta tb : Tok}
  (hR : ∀ h' tk' t' Tl', Fr h₀ L h' m → News h₀ L h' ((x, instObj 192 dx) :: (dx, (dictOf (edD w.params c0 c1 c2 lo ex k1 k2 k3 k4 k5 k6 v1 v2 v3 v6) n)) :: (Tl' ++ own)) → TS Tl' → R (.ok (.ret (.int (stv c0 c1 c2 a b) t'))) {s with heap := h', toks := tk'}) : codeAny (model PySem.Challenge.rw_bs0041_01.row.prog w) (Arnd dp un gd env outer) (.call (.ref 184) ⟨[.ref x, .str a ta, .str b tb], []⟩) R s := by
  revert X; k_fill; intro X
  walk_at "MY rest"
  with_reducible rename Fr h₀ _ _ _ => FG
  have C' := C.keeps FG.keep
  obtain ⟨_, _, hAll⟩ : _ < _ ∧ _ < _ ∧ AllLt _ (Tl ++ own) := by assumption
  have h172 := ltN (TS.lt ts hAll)
  k_steps
  · with_reducible rename Fr h₀ _ _ _ => kF
    with_reducible rename News h₀ _ _ _ => kN
    have e : stv c0 c1 c2 a b = rcv c0 c1 c2 a b := by unfold stv; rw [if_neg (fun h => h.1 ‹a = b›)]
    rw [← e]
    exact hR _ _ _ _ kF (fun p hp => kN p (by walk_at "MY sub")) (by assumption)
  · with_reducible rename Fr h₀ _ _ _ => kF
    with_reducible rename News h₀ _ _ _ => kN
    have e : stv c0 c1 c2 a b = rcv c0 c1 c2 a b := by unfold stv; rw [if_neg (fun h => by have h2 := h.2; unfold sIn at h2; rw [‹(Builtin.Str.occurrences _ a 0 _ 1).isEmpty = true›] at h2; cases h2)]
    rw [← e]
    exact hR _ _ _ _ kF (fun p hp => kN p (by walk_at "MY sub")) (by assumption)
  · with_reducible rename Fr h₀ _ _ _ => kF
    with_reducible rename News h₀ _ _ _ => kN
    have e : stv c0 c1 c2 a b = c1 := by unfold stv; rw [if_pos ⟨‹¬ a = b›, by unfold sIn; rw [‹(Builtin.Str.occurrences _ a 0 _ 1).isEmpty = false›]; rfl⟩]
    rw [← e]
    exact hR _ _ _ _ kF (fun p hp => kN p (by walk_at "MY sub")) ts
theorem d_cost_s (B : Below A₀ base outer h₀) (F : Fr h₀ L s.heap m) (X : (hd.heap_39 w.params).In h₀) (T : Top p loose mean mg mb h₀) (hf : env.frame = some L) (hke : env.scope.kind = .function) (ts : TS Tl) (N : News h₀ L s.heap led) (S : Split Tl own pre led) (hx : (x, instObj 192 dx) ∈ pre) (hdx : (dx, (dictOf (edD w.params c0 c1 c2 lo ex k1 k2 k3 k4 k5 k6 v1 v2 v3 v6) n)) ∈ pre) (off : ∀ p ∈ pre, p.1 ≠ 172) (offo : ∀ p ∈ own, p.1 ≠ 172) (C : CodeHd h₀ 176 172) (hdp : dp + 30 < recursionLimit) (hun : un + 256 < cLine) {a b : Str} {ta tb : Tok}
  (hR : ∀ h' tk' t' Tl', Fr h₀ L h' m → News h₀ L h' (pre ++ (Tl' ++ own)) → TS Tl' → R (.ok (.ret (.int (stv c0 c1 c2 a b) t'))) {s with heap := h', toks := tk'}) : codeAny (model PySem.Challenge.rw_bs0041_01.row.prog w) (Arnd dp un gd env outer) (.call (.ref 184) ⟨[.ref x, .str a ta, .str b tb], []⟩) R s :=
  d_cost_c B F X (News.toC N S hx hdx) T hf hke C ts (off_both off offo) (off _ hx) (off _ hdx) hdp hun fun h' tk' t' Tl' F' N' ts' => hR h' tk' t' Tl' F' (News.ofC N') ts'
end
end Mine
-- EdT
namespace Mine
local macro_rules | `(tactic| walk_at "MY pad") => `(tactic| skip)
theorem fresh_EdT : True := by (w_top off; exact trivial)
local macro_rules | `(tactic| k_room) => `(tactic| ktr_room)
local macro_rules | `(tactic| walk_at "MY rest") => `(tactic| (
  refine' kp_rest ?k1 ?k2 ?k3 ?k4 ?k5 ?kA ?kF ?kK ?k6 ?k7 ?k8 ?kV ?kP ?kG ?kB ?_ ?c2 ?c3 ?c4 ?c5
  (case kA => exact rfl)
  (case kF => first | exact rfl | assumption)
  (case kK => first | exact rfl | assumption)
  (case k1 => k_asm)
  (case k2 => k_asm)
  (case k3 => k_asm)
  (case k4 => k_asm)
  (case k5 => k_asm)
  (case k6 => k_is)
  (case k7 => k_is)
  (case k8 => k_room)
  (case kV => kl_lit)
  (case kP => exact rfl)
  (case kG => exact fun _ => rfl)
  (case kB => exact fun _ => locs rfl)
  (case c5 => decide)
  (case c2 => exact rfl)
  (case c3 => exact rfl)
  (case c4 => exact rfl)
  k_whole
  intro D' g' L' h' l1 FG' F' N' B' X' T'
  (try k_lt l1); (try dsimp only); (try k_lift B'); (try k_fold)))
local macro_rules | `(tactic| walk_at "MY plain") => `(tactic| (
  refine' code_def ?k1 ?k2 ?k3 ?k4 ?k5 ?kA ?kF ?kK ?k6 ?k7 ?k8 ?k9 ?kB ?_ ?c2 ?c3 ?c4 ?c5
  (case kA => exact rfl)
  (case kF => first | exact rfl | assumption)
  (case kK => first | exact rfl | assumption)
  (case k1 => k_asm)
  (case k2 => k_asm)
  (case k3 => k_asm)
  (case k4 => k_asm)
  (case k5 => k_asm)
  (case k6 => k_is)
  (case k7 => k_is)
  (case k8 => k_room)
  (case k9 => first | exact BindsTo.of_eq rfl | exact binds_K (by k_in) rfl (by k_is) rfl rfl rfl)
  (case c5 => decide)
  (case kB => exact locs rfl)
  (case c2 => exact rfl)
  (case c3 => exact rfl)
  (case c4 => exact rfl)
  k_whole
  intro g' L' h' FG' F' N' B' X' T'
  (try dsimp only); (try k_lift B'); (try k_fold)))
local macro_rules | `(tactic| walk_at "getAttr ref") => `(tactic| (k_here; (with_reducible show wpAny _ _ (getAttr (Value.ref _) (PySem.Str.ofString "_ident") _) _ _ _); k_dflt (refine' get_sm ?k1 ?k2 ?k3 ?k4 ?k5 ?k6 ?k7 ?k8 ?k9 ?k10 ?k11 ?k12 ?_; (case k3 => k_inst); (case k1 => k_asm); (case k2 => k_asm); (case k6 => k_is); (case k4 => k_is); (case k5 => k_is); (case k7 => k_is); (case k8 => k_is); (case k9 => decide +kernel); (case k10 => k_get); (case k11 => k_is); (case k12 => k_handed); k_whole)))
local macro_rules | `(tactic| walk_at "eval Call Attribute") => `(tactic| (k_here; (with_reducible show wpAny _ _ (eval (Expr.Call (Expr.Attribute (Expr.Name _ _) _ _) [Expr.Starred _ _] [] _) _) _ _ _); refine starMethod ?_))
local macro_rules | `(tactic| walk_at "MY restC") => `(tactic| (
  refine' kpc_rest ?k1 ?k2 ?k3 ?k4 ?k5 ?kA ?kF ?kK ?k6 ?k7 ?k8 ?kV ?kP ?kG ?kB ?kD ?_ ?c2 ?c3 ?c4
  (case kA => exact rfl)
  (case kF => first | exact rfl | assumption)
  (case kK => first | exact rfl | assumption)
  (case k1 => k_asm)
  (case k2 => k_asm)
  (case k3 => k_asm)
  (case k4 => k_asm)
  (case k5 => k_asm)
  (case k6 => k_is)
  (case k7 => k_is)
  (case k8 => k_room)
  (case kV => kl_lit)
  (case kP => exact rfl)
  (case kG => exact fun _ => rfl)
  (case kB => exact fun _ => rfl)
  (case kD => decide +kernel)
  (case c2 => exact rfl)
  (case c3 => exact rfl)
  (case c4 => exact rfl)
  k_whole
  intro D' g' L' h' tk' cells' l1 l2 FG' F' N' Y' B' X' T'
  (try k_lt l1); (try k_lt2 l2); k_cells Y'; (try simp only [List.cons_append, List.nil_append] at N'); (try dsimp only); (try k_lift B'); (try k_fold)))
local macro_rules | `(tactic| walk_at "call ref") => `(tactic| (k_here; (with_reducible show wpAny _ _ (call (Value.ref 95) _) _ _ _); k_dflt (refine wpAny_call ?_; refine' ident_c ?k1 ?k2 ?k3 ?k4 ?k5 ?k6 ?k7 ?k8 ?k9 ?_; (case k1 => k_asm); (case k2 => k_asm); (case k3 => k_asm); (case k4 => k_asm); (case k5 => k_asm); (case k6 => first | exact rfl | assumption); (case k7 => first | exact rfl | assumption); (case k8 => (dsimp only [Arnd, Around.deeper] at *; omega)); (case k9 => (dsimp only [Arnd, Around.deeper] at *; omega)); k_whole); intro h' tk' F' N'; (try dsimp only); (try k_sweep)))
local macro_rules | `(tactic| walk_at "MY memT") => `(tactic| (first | (refine List.mem_append_left _ ?_; assumption) | (refine List.Mem.tail _ ?_; walk_at "MY memT")))
local macro_rules | `(tactic| walk_at "MY split") => `(tactic| (first | exact Split.base | (refine' Split.cons ?sp; (case sp => walk_at "MY split"))))
local macro_rules | `(tactic| walk_at "MY off") => `(tactic| ((try dsimp only); simp only [List.forall_mem_cons, List.not_mem_nil, false_implies, implies_true, and_true]; (repeat' (refine And.intro ?_ ?_)); all_goals (first | assumption | (refine neN ?_; (try dsimp only); omega))))
local macro_rules | `(tactic| walk_at "eval Lambda") => `(tactic| (k_here; k_dflt (refine' kla_eval ?d0 ?_; (case d0 => exact rfl)); (first
  | (k_dflt (refine' lam_S1 ?ts ?F ?N ?hg ?T ?C ?off ?offo ?hq ?e1 ?e2 ?hcl ?_; (case ts => assumption); (case F => k_asm); (case N => k_asm); (case hg => walk_at "MY split"); (case T => k_asm); (case C => assumption); (case off => walk_at "MY off"); (case offo => assumption); (case hq => first | rfl | with_unfolding_all rfl); (case e1 => rfl); (case e2 => rfl); (case hcl => exact rfl); k_whole); intro f' c' oc' ct' h' tk' Tl' F' N' ts' hm' hc' l1'; (try simp only [List.cons_append, List.nil_append] at N'))
  | (k_dflt (refine' lam_S2 ?ts ?F ?N ?hg ?T ?C ?off ?offo ?hq ?e1 ?e2 ?hcl ?_; (case ts => assumption); (case F => k_asm); (case N => k_asm); (case hg => walk_at "MY split"); (case T => k_asm); (case C => assumption); (case off => walk_at "MY off"); (case offo => assumption); (case hq => first | rfl | with_unfolding_all rfl); (case e1 => rfl); (case e2 => rfl); (case hcl => exact rfl); k_whole); intro f' c' oc' ct' h' tk' Tl' F' N' ts' hm' hc' l1'; (try simp only [List.cons_append, List.nil_append] at N')))))
local macro_rules | `(tactic| walk_at "call type:map") => `(tactic| (k_here; k_dflt (refine' map_K ?F ?N ?m ?c ?d ?_; (case F => k_asm); (case N => k_asm); (case m => k_mem); (case c => exact rfl); (case d => exact rfl); k_whole); intro h' mp' it' F' N' hX' hlt' hL' h0'; (try dsimp only)))
local macro_rules | `(tactic| walk_at "call builtin:any") => `(tactic| (k_here; k_dflt (refine' any_lam1 ?hh ?room ?F ?N ?X ?T ?M ?lt ?L ?h0 ?ho ?hoc ?hc ?hcs ?hcd ?hx ?hdx ?_; (case hh => exact rfl); (case room => (dsimp only [Arnd, Around.deeper] at *; omega)); (case F => k_asm); (case N => k_asm); (case X => k_asm); (case T => k_asm); (case M => assumption); (case lt => assumption); (case L => assumption); (case h0 => assumption); (case ho => k_mem); (case hoc => walk_at "MY memT"); (case hc => assumption); (case hcs => k_mem); (case hcd => assumption); (case hx => k_mem); (case hdx => k_mem); k_whole); intro h' tk' F' N'; (try dsimp only)))
local macro_rules | `(tactic| walk_at "call builtin:all") => `(tactic| (k_here; k_dflt (refine' all_lam2 ?hh ?room ?F ?N ?X ?T ?M ?lt ?L ?h0 ?ho ?hoc ?hc ?hcs ?hcd ?_; (case hh => exact rfl); (case room => (dsimp only [Arnd, Around.deeper] at *; omega)); (case F => k_asm); (case N => k_asm); (case X => k_asm); (case T => k_asm); (case M => assumption); (case lt => assumption); (case L => assumption); (case h0 => assumption); (case ho => k_mem); (case hoc => walk_at "MY memT"); (case hc => assumption); (case hcs => k_mem); (case hcd => assumption); k_whole); intro h' tk' F' N'; (try dsimp only)))
local macro_rules | `(tactic| walk_at "MY sub") => `(tactic| (first | assumption | (refine List.Mem.tail _ ?_; walk_at "MY sub")))
local macro_rules | `(tactic| walk_at "MY fin") => `(tactic| (with_reducible rename Fr h₀ _ _ _ => kF; with_reducible rename News h₀ _ _ _ => kN))
local macro_rules | `(tactic| walk_at "callWith ref") => `(tactic| (k_here; (with_reducible show wpAny _ _ (callWith _ (Value.ref _) _ (backTo _ (starEach [Expr.Starred _ _] _)) []) _ _ _); k_dflt (refine' callWith_SM ?k1 ?k2 ?k3 ?k4 ?_; (case k1 => k_asm); (case k2 => k_asm); (case k3 => k_mem); (case k4 => k_is); k_whole)))
section
variable {w : World} {p : Program} {loose : List Str} {mean : ExcName → Option Value} {mg mb : Str → Option Value} {dp un : Nat} {gd : Option (List Code)} {env : Env} {outer : List Env} {A₀ : Around} {base h₀ : Heap} {L : Addr} {m : Str → Option Value} {news : List (Addr × Obj)} {s : Shared} {R : Result → Shared → Prop}
variable {x dx : Addr} {c0 c1 c2 : Int} {lo ex : Bool} {k1 k2 k3 k4 k5 k6 v1 v2 v3 v6 : Tok} {n : Nat} {own Tl : List (Addr × Obj)} {led pre : List (Addr × Obj)}
theorem max_len2 {prog : Program} {A : Around} {E : Value → Shared → Prop} {Q : Value → Shared → Prop} {mp it D : Addr} {a b : Str} {ta tb : Tok} (hh : A.handled = none) (F : Fr h₀ L s.heap m) (N : News h₀ L s.heap news)
    (X : MapAt s.heap mp it D (.builtin "len") [.str a ta, .str b tb]) (hlt : ∀ p ∈ news, p.1 < it) (hL : L < it) (h0 : h₀.objs.size ≤ it) (ha : a.length ≤ 8) (hb : b.length ≤ 8)
    (h : ∀ h' tk t', Fr h₀ L h' m → News h₀ L h' news → Q (.int (max a.length b.length : Nat) t') { s with heap := h', toks := tk }) :
    wpAny (model prog w) A (call (.builtin "max") [.ref mp]) Q E s := by
  refine max_K (fun i => ((if i = 0 then a.length else b.length : Nat) : Int)) hh F N X hlt hL h0 (by simp) (fun i v s₁ E' hv hk => ?_) fun h' tk j t' F' N' hj hm => ?_
  · have hv' : ∃ c tt, v = .str c tt ∧ c.length = (if i = 0 then a.length else b.length : Nat) ∧ c.length ≤ 8 := by
      match i with
      | 0 => simp at hv; exact ⟨a, ta, hv.symm, rfl, ha⟩
      | 1 => simp at hv; exact ⟨b, tb, hv.symm, rfl, hb⟩
      | i + 2 => simp at hv
    obtain ⟨c, tt, rfl, hc, hc8⟩ := hv'
    refine SBL.len (by omega) ⟨⟨_, by rw [hc]⟩, s₁.heap, _, rfl, fun _ _ e => e⟩
  · have h1 := hm 0 (by simp)
    have h2 := hm 1 (by simp)
    have hj2 : j < 2 := hj
    have e : (if j = 0 then a.length else b.length : Nat) = max a.length b.length := by
      rcases Nat.lt_succ_iff_lt_or_eq.mp hj2 with h | h
      · have : j = 0 := by omega
        subst this
        simp at h1 h2 ⊢
        omega
      · subst h
        simp at h1 h2 ⊢
        omega
    have := h h' tk t' F' N'
    rw [← e] at this
    exact this
local macro_rules | `(tactic| walk_at "call builtin:max") => `(tactic| (k_here; k_dflt (refine' max_len2 ?hh ?F ?N ?M ?lt ?L ?h0 ?ha ?hb ?_; (case hh => exact rfl); (case F => k_asm); (case N => k_asm); (case M => assumption); (case lt => assumption); (case L => assumption); (case h0 => assumption); (case ha => assumption); (case hb => assumption); k_whole); intro h' tk' t' F' N'; (try dsimp only)))
theorem maximum_c (B : Below A₀ base outer h₀) (F : Fr h₀ L s.heap m) (X : (hd.heap_39 w.params).In h₀) (N : News h₀ L s.heap ((x, instObj 192 dx) :: (dx, (dictOf (edD w.params c0 c1 c2 lo ex k1 k2 k3 k4 k5 k6 v1 v2 v3 v6) n)) :: own)) (T : Top p loose mean mg mb h₀) (hf : env.frame = some L) (hke : env.scope.kind = .function) (hdp : dp + 8 < recursionLimit) (hun : un + 64 < cLine) (hc2 : 0 ≤ c2 ∧ c2 ≤ 8) {a b : Str} {ta tb : Tok} (ha : a.length ≤ 8) (hb : b.length ≤ 8)
  (hR : ∀ h' tk' t', Fr h₀ L h' m → News h₀ L h' ((x, instObj 192 dx) :: (dx, (dictOf (edD w.params c0 c1 c2 lo ex k1 k2 k3 k4 k5 k6 v1 v2 v3 v6) n)) :: own) → R (.ok (.ret (.int ((max a.length b.length : Nat) * c2) t'))) {s with heap := h', toks := tk'}) : codeAny (model PySem.Challenge.rw_bs0041_01.row.prog w) (Arnd dp un gd env outer) (.call (.ref 170) ⟨[.ref x, .str a ta, .str b tb], []⟩) R s := by
  revert X; k_fill; intro X
  walk_at "MY rest"
  k_steps
  with_reducible rename Fr h₀ _ _ _ => kF
  with_reducible rename News h₀ _ _ _ => kN
  exact hR _ _ _ kF (fun p hp => kN p (by walk_at "MY sub"))
theorem News.toM {h : Heap} (N : News h₀ L h led) {px pd : Addr × Obj} (hx : px ∈ led) (hd : pd ∈ led) : News h₀ L h (px :: pd :: led) := by
  intro q hq
  rcases List.mem_cons.mp hq with rfl | hq
  · exact N _ hx
  · rcases List.mem_cons.mp hq with rfl | hq
    · exact N _ hd
    · exact N _ hq
theorem maximum_m (B : Below A₀ base outer h₀) (F : Fr h₀ L s.heap m) (X : (hd.heap_39 w.params).In h₀) (T : Top p loose mean mg mb h₀) (hf : env.frame = some L) (hke : env.scope.kind = .function) (N : News h₀ L s.heap led) (hx : (x, instObj 192 dx) ∈ led) (hdx : (dx, (dictOf (edD w.params c0 c1 c2 lo ex k1 k2 k3 k4 k5 k6 v1 v2 v3 v6) n)) ∈ led) (hdp : dp + 8 < recursionLimit) (hun : un + 64 < cLine) (hc2 : 0 ≤ c2 ∧ c2 ≤ 8) {a b : Str} {ta tb : Tok} (ha : a.length ≤ 8) (hb : b.length ≤ 8)
  (hR : ∀ h' tk' t', Fr h₀ L h' m → News h₀ L h' led → R (.ok (.ret (.int ((max a.length b.length : Nat) * c2) t'))) {s with heap := h', toks := tk'}) : codeAny (model PySem.Challenge.rw_bs0041_01.row.prog w) (Arnd dp un gd env outer) (.call (.ref 170) ⟨[.ref x, .str a ta, .str b tb], []⟩) R s :=
  maximum_c B F X (News.toM N hx hdx) T hf hke hdp hun hc2 ha hb fun h' tk' t' F' N' => hR h' tk' t' F' fun q hq => N' q (.tail _ (.tail _ hq))
end
end Mine
-- EdU
namespace Mine
local macro_rules | `(tactic| walk_at "MY pad") => `(tactic| skip)
theorem fresh_EdU : True := by (w_top off; exact trivial)
local macro_rules | `(tactic| k_room) => `(tactic| ktr_room)
local macro_rules | `(tactic| walk_at "MY rest") => `(tactic| (
  refine' kp_rest ?k1 ?k2 ?k3 ?k4 ?k5 ?kA ?kF ?kK ?k6 ?k7 ?k8 ?kV ?kP ?kG ?kB ?_ ?c2 ?c3 ?c4 ?c5
  (case kA => exact rfl)
  (case kF => first | exact rfl | assumption)
  (case kK => first | exact rfl | assumption)
  (case k1 => k_asm)
  (case k2 => k_asm)
  (case k3 => k_asm)
  (case k4 => k_asm)
  (case k5 => k_asm)
  (case k6 => k_is)
  (case k7 => k_is)
  (case k8 => k_room)
  (case kV => kl_lit)
  (case kP => exact rfl)
  (case kG => exact fun _ => rfl)
  (case kB => exact fun _ => locs rfl)
  (case c5 => decide)
  (case c2 => exact rfl)
  (case c3 => exact rfl)
  (case c4 => exact rfl)
  k_whole
  intro D' g' L' h' l1 FG' F' N' B' X' T'
  (try k_lt l1); (try dsimp only); (try k_lift B'); (try k_fold)))
local macro_rules | `(tactic| walk_at "MY plain") => `(tactic| (
  refine' code_def ?k1 ?k2 ?k3 ?k4 ?k5 ?kA ?kF ?kK ?k6 ?k7 ?k8 ?k9 ?kB ?_ ?c2 ?c3 ?c4 ?c5
  (case kA => exact rfl)
  (case kF => first | exact rfl | assumption)
  (case kK => first | exact rfl | assumption)
  (case k1 => k_asm)
  (case k2 => k_asm)
  (case k3 => k_asm)
  (case k4 => k_asm)
  (case k5 => k_asm)
  (case k6 => k_is)
  (case k7 => k_is)
  (case k8 => k_room)
  (case k9 => first | exact BindsTo.of_eq rfl | exact binds_K (by k_in) rfl (by k_is) rfl rfl rfl)
  (case c5 => decide)
  (case kB => exact locs rfl)
  (case c2 => exact rfl)
  (case c3 => exact rfl)
  (case c4 => exact rfl)
  k_whole
  intro g' L' h' FG' F' N' B' X' T'
  (try dsimp only); (try k_lift B'); (try k_fold)))
local macro_rules | `(tactic| walk_at "getAttr ref") => `(tactic| (k_here; (with_reducible show wpAny _ _ (getAttr (Value.ref _) (PySem.Str.ofString "_ident") _) _ _ _); k_dflt (refine' get_sm ?k1 ?k2 ?k3 ?k4 ?k5 ?k6 ?k7 ?k8 ?k9 ?k10 ?k11 ?k12 ?_; (case k3 => k_inst); (case k1 => k_asm); (case k2 => k_asm); (case k6 => k_is); (case k4 => k_is); (case k5 => k_is); (case k7 => k_is); (case k8 => k_is); (case k9 => decide +kernel); (case k10 => k_get); (case k11 => k_is); (case k12 => k_handed); k_whole)))
local macro_rules | `(tactic| walk_at "eval Call Attribute") => `(tactic| (k_here; (with_reducible show wpAny _ _ (eval (Expr.Call (Expr.Attribute (Expr.Name _ _) _ _) [Expr.Starred _ _] [] _) _) _ _ _); refine starMethod ?_))
local macro_rules | `(tactic| walk_at "MY restC") => `(tactic| (
  refine' kpc_rest ?k1 ?k2 ?k3 ?k4 ?k5 ?kA ?kF ?kK ?k6 ?k7 ?k8 ?kV ?kP ?kG ?kB ?kD ?_ ?c2 ?c3 ?c4
  (case kA => exact rfl)
  (case kF => first | exact rfl | assumption)
  (case kK => first | exact rfl | assumption)
  (case k1 => k_asm)
  (case k2 => k_asm)
  (case k3 => k_asm)
  (case k4 => k_asm)
  (case k5 => k_asm)
  (case k6 => k_is)
  (case k7 => k_is)
  (case k8 => k_room)
  (case kV => kl_lit)
  (case kP => exact rfl)
  (case kG => exact fun _ => rfl)
  (case kB => exact fun _ => rfl)
  (case kD => decide +kernel)
  (case c2 => exact rfl)
  (case c3 => exact rfl)
  (case c4 => exact rfl)
  k_whole
  intro D' g' L' h' tk' cells' l1 l2 FG' F' N' Y' B' X' T'
  (try k_lt l1); (try k_lt2 l2); k_cells Y'; (try simp only [List.cons_append, List.nil_append] at N'); (try dsimp only); (try k_lift B'); (try k_fold)))
local macro_rules | `(tactic| walk_at "call ref") => `(tactic| (k_here; (with_reducible show wpAny _ _ (call (Value.ref 95) _) _ _ _); k_dflt (refine wpAny_call ?_; refine' ident_c ?k1 ?k2 ?k3 ?k4 ?k5 ?k6 ?k7 ?k8 ?k9 ?_; (case k1 => k_asm); (case k2 => k_asm); (case k3 => k_asm); (case k4 => k_asm); (case k5 => k_asm); (case k6 => first | exact rfl | assumption); (case k7 => first | exact rfl | assumption); (case k8 => (dsimp only [Arnd, Around.deeper] at *; omega)); (case k9 => (dsimp only [Arnd, Around.deeper] at *; omega)); k_whole); intro h' tk' F' N'; (try dsimp only); (try k_sweep)))
local macro_rules | `(tactic| walk_at "MY memT") => `(tactic| (first | (refine List.mem_append_left _ ?_; assumption) | (refine List.Mem.tail _ ?_; walk_at "MY memT")))
local macro_rules | `(tactic| walk_at "MY split") => `(tactic| (first | exact Split.base | (refine' Split.cons ?sp; (case sp => walk_at "MY split"))))
local macro_rules | `(tactic| walk_at "MY off") => `(tactic| ((try dsimp only); simp only [List.forall_mem_cons, List.not_mem_nil, false_implies, implies_true, and_true]; (repeat' (refine And.intro ?_ ?_)); all_goals (first | assumption | (refine neN ?_; (try dsimp only); omega))))
local macro_rules | `(tactic| walk_at "eval Lambda") => `(tactic| (k_here; k_dflt (refine' kla_eval ?d0 ?_; (case d0 => exact rfl)); (first
  | (k_dflt (refine' lam_S1 ?ts ?F ?N ?hg ?T ?C ?off ?offo ?hq ?e1 ?e2 ?hcl ?_; (case ts => assumption); (case F => k_asm); (case N => k_asm); (case hg => walk_at "MY split"); (case T => k_asm); (case C => assumption); (case off => walk_at "MY off"); (case offo => assumption); (case hq => first | rfl | with_unfolding_all rfl); (case e1 => rfl); (case e2 => rfl); (case hcl => exact rfl); k_whole); intro f' c' oc' ct' h' tk' Tl' F' N' ts' hm' hc' l1'; (try simp only [List.cons_append, List.nil_append] at N'))
  | (k_dflt (refine' lam_S2 ?ts ?F ?N ?hg ?T ?C ?off ?offo ?hq ?e1 ?e2 ?hcl ?_; (case ts => assumption); (case F => k_asm); (case N => k_asm); (case hg => walk_at "MY split"); (case T => k_asm); (case C => assumption); (case off => walk_at "MY off"); (case offo => assumption); (case hq => first | rfl | with_unfolding_all rfl); (case e1 => rfl); (case e2 => rfl); (case hcl => exact rfl); k_whole); intro f' c' oc' ct' h' tk' Tl' F' N' ts' hm' hc' l1'; (try simp only [List.cons_append, List.nil_append] at N')))))
local macro_rules | `(tactic| walk_at "call type:map") => `(tactic| (k_here; k_dflt (refine' map_K ?F ?N ?m ?c ?d ?_; (case F => k_asm); (case N => k_asm); (case m => k_mem); (case c => exact rfl); (case d => exact rfl); k_whole); intro h' mp' it' F' N' hX' hlt' hL' h0'; (try dsimp only)))
local macro_rules | `(tactic| walk_at "call builtin:any") => `(tactic| (k_here; k_dflt (refine' any_lam1 ?hh ?room ?F ?N ?X ?T ?M ?lt ?L ?h0 ?ho ?hoc ?hc ?hcs ?hcd ?hx ?hdx ?_; (case hh => exact rfl); (case room => (dsimp only [Arnd, Around.deeper] at *; omega)); (case F => k_asm); (case N => k_asm); (case X => k_asm); (case T => k_asm); (case M => assumption); (case lt => assumption); (case L => assumption); (case h0 => assumption); (case ho => k_mem); (case hoc => walk_at "MY memT"); (case hc => assumption); (case hcs => k_mem); (case hcd => assumption); (case hx => k_mem); (case hdx => k_mem); k_whole); intro h' tk' F' N'; (try dsimp only)))
local macro_rules | `(tactic| walk_at "call builtin:all") => `(tactic| (k_here; k_dflt (refine' all_lam2 ?hh ?room ?F ?N ?X ?T ?M ?lt ?L ?h0 ?ho ?hoc ?hc ?hcs ?hcd ?_; (case hh => exact rfl); (case room => (dsimp only [Arnd, Around.deeper] at *; omega)); (case F => k_asm); (case N => k_asm); (case X => k_asm); (case T => k_asm); (case M => assumption); (case lt => assumption); (case L => assumption); (case h0 => assumption); (case ho => k_mem); (case hoc => walk_at "MY memT"); (case hc => assumption); (case hcs => k_mem); (case hcd => assumption); k_whole); intro h' tk' F' N'; (try dsimp only)))
local macro_rules | `(tactic| walk_at "MY sub") => `(tactic| (first | assumption | (refine List.Mem.tail _ ?_; walk_at "MY sub")))
local macro_rules | `(tactic| walk_at "MY fin") => `(tactic| (with_reducible rename Fr h₀ _ _ _ => kF; with_reducible rename News h₀ _ _ _ => kN))
local macro_rules | `(tactic| walk_at "callWith ref") => `(tactic| (k_here; (with_reducible show wpAny _ _ (callWith _ (Value.ref _) _ (backTo _ (starEach [Expr.Starred _ _] _)) []) _ _ _); k_dflt (refine' callWith_SM ?k1 ?k2 ?k3 ?k4 ?_; (case k1 => k_asm); (case k2 => k_asm); (case k3 => k_mem); (case k4 => k_is); k_whole)))
local macro_rules | `(tactic| walk_at "call ref") => `(tactic| (k_here; (with_reducible show wpAny _ _ (call (Value.ref _) _) _ _ _); k_dflt (refine' call_meth ?Nm ?q ?_; (case Nm => k_asm); (case q => k_mem); (try dsimp only); refine' maximum_m ?B ?F ?X ?T ?hf ?hke ?N ?hx ?hdx ?hdp ?hun ?hc2 ?ha ?hb ?_; (case B => k_asm); (case F => k_asm); (case X => k_asm); (case T => k_asm); (case hf => first | exact rfl | assumption); (case hke => first | exact rfl | assumption); (case N => k_asm); (case hx => k_mem); (case hdx => k_mem); (case hdp => (dsimp only [Arnd, Around.deeper] at *; omega)); (case hun => (dsimp only [Arnd, Around.deeper] at *; omega)); (case hc2 => assumption); (case ha => assumption); (case hb => assumption); k_whole); intro h' tk' t' F' N'; (try simp only [List.cons_append, List.nil_append] at N'); (try dsimp only)))
section
variable {w : World} {p : Program} {loose : List Str} {mean : ExcName → Option Value} {mg mb : Str → Option Value} {dp un : Nat} {gd : Option (List Code)} {env : Env} {outer : List Env} {A₀ : Around} {base h₀ : Heap} {L : Addr} {m : Str → Option Value} {news : List (Addr × Obj)} {s : Shared} {R : Result → Shared → Prop}
variable {x dx : Addr} {c0 c1 c2 : Int} {lo ex : Bool} {k1 k2 k3 k4 k5 k6 v1 v2 v3 v6 : Tok} {n : Nat} {own Tl : List (Addr × Obj)} {led pre : List (Addr × Obj)}
theorem all_loopT {prog : Program} {A : Around} {I : Addr} {fp wr : List Addr} {k0 : Nat} {P : Nat → Value → Prop} {St : Nat → Heap → Prop} (W : Walks prog w A.in1 I fp wr k0 P St) (tr : Nat → Bool)
    (htr : ∀ i v (s : Shared) (Q : Bool → Shared → Prop) (E : Value → Shared → Prop), P i v → (∀ tk, Q (tr i) { s with toks := tk }) → wpAny (model prog w) A.in1 (truthy v) Q E s) : ∀ (k i : Nat) (s : Shared), k0 - i = k → i ≤ k0 → St i s.heap →
    (∀ h' tk, (∀ b o, b ∉ wr → s.heap.get? b = some o → h'.get? b = some o) → R (.ok (.ret (.bool (((List.range k0).drop i).all tr)))) { s with heap := h', toks := tk }) →
    codeAny (model prog w) A (.builtin "all.loop" ⟨[.ref I], []⟩) R s := by
  intro k
  induction k with
  | zero =>
    intro i s hk hi hst hR
    have hin : i = k0 := by omega
    subst hin
    refine codeAny_builtin F.entry_all_loop ?_
    rw [Around.under_plainId F.plain_all_loop _]
    show wpAny _ A.in1 (pyNext (.ref I) >>= _) _ _ s
    refine wpAny_bind (W.done s _ _ hst fun h' tk hk' => ?_)
    refine wpAny_bind (wpAny_rule (wpAny_pure ?_))
    have := hR h' tk hk'
    rw [List.drop_of_length_le (by simp)] at this
    exact this
  | succ k ih =>
    intro i s hk hi hst hR
    have hlt : i < k0 := by omega
    have hd : (List.range k0).drop i = i :: (List.range k0).drop (i + 1) := by
      rw [List.drop_eq_getElem_cons (by simpa using hlt)]; simp
    refine codeAny_builtin F.entry_all_loop ?_
    rw [Around.under_plainId F.plain_all_loop _]
    show wpAny _ A.in1 (pyNext (.ref I) >>= _) _ _ s
    refine wpAny_bind (W.item i s _ _ hlt hst fun v h' tk hP hst' hk' => ?_)
    refine wpAny_bind (wpAny_holding (htr i v _ _ _ hP fun tk1 => ?_))
    refine wpAny_bind (wpAny_letGo ?_)
    cases hb : tr i with
    | true =>
      simp only [if_true]
      refine wpAny_pure ⟨plainId_quiet F.plain_all_loop _, ih (i + 1) _ (by omega) hlt hst' fun h'' tk'' hk'' => ?_⟩
      have := hR h'' tk'' fun b o hbw e => hk'' b o hbw (hk' b o hbw e)
      rw [hd, List.all_cons, hb, Bool.true_and] at this
      exact this
    | false =>
      simp only [Bool.false_eq_true, if_false]
      refine wpAny_bind (wpAny_rule (wpAny_pure ?_))
      have := hR h' tk1 hk'
      rw [hd, List.all_cons, hb, Bool.false_and] at this
      exact this
theorem call_all_walkT {prog : Program} {A : Around} {E : Value → Shared → Prop} {x : Value} {Q : Value → Shared → Prop}
    (h : wpAny (model prog w) A.in1 (pyIter x) (fun it s₂ => ∃ I fp wr n P St tr, it = .ref I ∧ Walks prog w A.in1 I fp wr n P St ∧ St 0 s₂.heap ∧ (∀ i v (s : Shared) (Q : Bool → Shared → Prop) (E : Value → Shared → Prop), P i v → (∀ tk, Q (tr i) { s with toks := tk }) → wpAny (model prog w) A.in1 (truthy v) Q E s) ∧
      ∀ h' tk, (∀ b o, b ∉ wr → s₂.heap.get? b = some o → h'.get? b = some o) → Q (.bool ((List.range n).all tr)) { s₂ with heap := h', toks := tk }) E s) :
    wpAny (model prog w) A (call (.builtin "all") [x]) Q E s := by
  refine call_function_tree F.kind_all F.plain_all F.entry_all (F.args_all1 _) ?_
  unfold Builtin.«all»
  refine wpAny_bind (m := oneArg "all" _) (wpAny_pure ?_)
  refine wpAny_bind (wpAny_mono h (fun it s₂ h₂ => ?_) fun _ _ e => e)
  obtain ⟨I, fp, wr, n, P, St, tr, rfl, W, hst, htr, hQ⟩ := h₂
  exact wpAny_pure ⟨plainId_quiet F.plain_all_loop _, all_loopT W tr htr n 0 s₂ rfl (Nat.zero_le _) hst fun h' tk hk => by simpa using hQ h' tk hk⟩
theorem all_two {prog : Program} {A : Around} {E : Value → Shared → Prop} {Q : Value → Shared → Prop} {D : Addr} {a b : Str} {ta tb : Tok} (hh : A.handled = none) (F : Fr h₀ L s.heap m) (N : News h₀ L s.heap news)
    (hm : (D, tupO [.str a ta, .str b tb]) ∈ news) (ha : a.length ≤ 8) (hb : b.length ≤ 8)
    (h : ∀ h' tk, Fr h₀ L h' m → News h₀ L h' news → Q (.bool ((a.length : Int) != 0 && (b.length : Int) != 0)) { s with heap := h', toks := tk }) :
    wpAny (model prog w) A (call (.builtin "all") [.ref D]) Q E s := by
  have ht : s.heap.IsTuple D #[.str a ta, .str b tb] := ⟨_, (N _ hm).1, rfl, _, rfl⟩
  have hup : ∀ b' o, s.heap.get? b' = some o → (s.heap.push { cls := .type "tuple_iterator", data := .fields #[.ref D, .int 0 0] }).get? b' = some o := fun b' o e => Heap.get?_push_of_some _ e
  have hne : D ≠ s.heap.objs.size := Nat.ne_of_lt (Heap.lt_size (N _ hm).1)
  have W := Walks.tuple (prog := prog) (w := w) (A := A.in1) hh s.heap.objs.size D hne #[.str a ta, .str b tb]
  refine call_all_walkT (wpAny_pyIter_tuple ht ⟨s.heap.objs.size, _, _, _, _, _, (fun i => ((if i = 0 then a.length else b.length : Nat) : Int) != 0), rfl, W, ⟨⟨_, Heap.get?_push_size _ rfl, rfl, rfl⟩, ht.at fun o e => hup _ o e⟩, ?_, fun h' tk hk => ?_⟩)
  · intro i v s' Q' E' hv hQ
    have hv' : ∃ c tt, v = .str c tt ∧ c.length = (if i = 0 then a.length else b.length : Nat) ∧ c.length ≤ 8 := by
      match i with
      | 0 => simp at hv; exact ⟨a, ta, hv.symm, rfl, ha⟩
      | 1 => simp at hv; exact ⟨b, tb, hv.symm, rfl, hb⟩
      | i + 2 => simp at hv
    obtain ⟨c, tt, rfl, hc, hc8⟩ := hv'
    refine SBL.truthy (by omega) ?_
    rw [hc]
    exact hQ _
  · have hk' : ∀ b' o, s.heap.get? b' = some o → h'.get? b' = some o := fun b' o e => hk b' o (by intro q; rw [List.mem_singleton.mp q] at e; exact absurd (Heap.lt_size e) (Nat.lt_irrefl _)) (hup _ _ e)
    have := h h' tk (fr_grown F hk') (news_grown N hk')
    simpa [List.range_succ] using this
local macro_rules | `(tactic| walk_at "call builtin:all") => `(tactic| (k_here; k_dflt (refine' all_two ?hh ?F ?N ?M ?ha ?hb ?_; (case hh => exact rfl); (case F => k_asm); (case N => k_asm); (case M => k_mem); (case ha => assumption); (case hb => assumption); k_whole); intro h' tk' F' N'; (try dsimp only)))
theorem quick_c (B : Below A₀ base outer h₀) (F : Fr h₀ L s.heap m) (X : (hd.heap_39 w.params).In h₀) (N : News h₀ L s.heap ((x, instObj 192 dx) :: (dx, (dictOf (edD w.params c0 c1 c2 lo ex k1 k2 k3 k4 k5 k6 v1 v2 v3 v6) n)) :: own)) (T : Top p loose mean mg mb h₀) (hf : env.frame = some L) (hke : env.scope.kind = .function) (hdp : dp + 20 < recursionLimit) (hun : un + 128 < cLine) (hc2 : 0 ≤ c2 ∧ c2 ≤ 8) {a b : Str} {ta tb : Tok} (ha : a.length ≤ 8) (hb : b.length ≤ 8)
  (hR0 : ∀ h' tk' t', Fr h₀ L h' m → News h₀ L h' ((x, instObj 192 dx) :: (dx, (dictOf (edD w.params c0 c1 c2 lo ex k1 k2 k3 k4 k5 k6 v1 v2 v3 v6) n)) :: own) → a = b → R (.ok (.ret (.int 0 t'))) {s with heap := h', toks := tk'})
  (hR1 : ∀ h' tk' t', Fr h₀ L h' m → News h₀ L h' ((x, instObj 192 dx) :: (dx, (dictOf (edD w.params c0 c1 c2 lo ex k1 k2 k3 k4 k5 k6 v1 v2 v3 v6) n)) :: own) → a ≠ b → (a.length = 0 ∨ b.length = 0) → R (.ok (.ret (.int ((max a.length b.length : Nat) * c2) t'))) {s with heap := h', toks := tk'})
  (hR2 : ∀ h' tk', Fr h₀ L h' m → News h₀ L h' ((x, instObj 192 dx) :: (dx, (dictOf (edD w.params c0 c1 c2 lo ex k1 k2 k3 k4 k5 k6 v1 v2 v3 v6) n)) :: own) → a ≠ b → a.length ≠ 0 → b.length ≠ 0 → R (.ok (.ret .none)) {s with heap := h', toks := tk'}) : codeAny (model PySem.Challenge.rw_bs0041_01.row.prog w) (Arnd dp un gd env outer) (.call (.ref 88) ⟨[.ref x, .str a ta, .str b tb], []⟩) R s := by
  revert X; k_fill; intro X
  walk_at "MY rest"
  k_steps
  · with_reducible rename Fr h₀ _ _ _ => kF
    with_reducible rename News h₀ _ _ _ => kN
    exact hR0 _ _ _ kF (fun p hp => kN p (by walk_at "MY sub")) ‹a = b›
  · with_reducible rename Fr h₀ _ _ _ => kF
    with_reducible rename News h₀ _ _ _ => kN
    have e : ((a.length : Int) != 0 && (b.length : Int) != 0) = true := by assumption
    simp only [Bool.and_eq_true, bne_iff_ne, ne_eq] at e
    exact hR2 _ _ kF (fun p hp => kN p (by walk_at "MY sub")) ‹¬ a = b› (by omega) (by omega)
  · with_reducible rename Fr h₀ _ _ _ => kF
    with_reducible rename News h₀ _ _ _ => kN
    have e : ((a.length : Int) != 0 && (b.length : Int) != 0) = false := by assumption
    refine hR1 _ _ _ kF (fun p hp => kN p (by walk_at "MY sub")) ‹¬ a = b› ?_
    by_cases h1 : a.length = 0
    · exact .inl h1
    · by_cases h2 : b.length = 0
      · exact .inr h2
      · exfalso
        have e1 : ((a.length : Int) != 0) = true := by rw [bne_iff_ne]; omega
        have e2 : ((b.length : Int) != 0) = true := by rw [bne_iff_ne]; omega
        rw [e1, e2] at e
        cases e
theorem quick_m (B : Below A₀ base outer h₀) (F : Fr h₀ L s.heap m) (X : (hd.heap_39 w.params).In h₀) (T : Top p loose mean mg mb h₀) (hf : env.frame = some L) (hke : env.scope.kind = .function) (N : News h₀ L s.heap led) (hx : (x, instObj 192 dx) ∈ led) (hdx : (dx, (dictOf (edD w.params c0 c1 c2 lo ex k1 k2 k3 k4 k5 k6 v1 v2 v3 v6) n)) ∈ led) (hdp : dp + 20 < recursionLimit) (hun : un + 128 < cLine) (hc2 : 0 ≤ c2 ∧ c2 ≤ 8) {a b : Str} {ta tb : Tok} (ha : a.length ≤ 8) (hb : b.length ≤ 8)
  (hR0 : ∀ h' tk' t', Fr h₀ L h' m → News h₀ L h' led → a = b → R (.ok (.ret (.int 0 t'))) {s with heap := h', toks := tk'})
  (hR1 : ∀ h' tk' t', Fr h₀ L h' m → News h₀ L h' led → a ≠ b → (a.length = 0 ∨ b.length = 0) → R (.ok (.ret (.int ((max a.length b.length : Nat) * c2) t'))) {s with heap := h', toks := tk'})
  (hR2 : ∀ h' tk', Fr h₀ L h' m → News h₀ L h' led → a ≠ b → a.length ≠ 0 → b.length ≠ 0 → R (.ok (.ret .none)) {s with heap := h', toks := tk'}) : codeAny (model PySem.Challenge.rw_bs0041_01.row.prog w) (Arnd dp un gd env outer) (.call (.ref 88) ⟨[.ref x, .str a ta, .str b tb], []⟩) R s :=
  quick_c B F X (News.toM N hx hdx) T hf hke hdp hun hc2 ha hb (fun h' tk' t' F' N' => hR0 h' tk' t' F' fun q hq => N' q (.tail _ (.tail _ hq))) (fun h' tk' t' F' N' => hR1 h' tk' t' F' fun q hq => N' q (.tail _ (.tail _ hq))) fun h' tk' F' N' => hR2 h' tk' F' fun q hq => N' q (.tail _ (.tail _ hq))
end
end Mine
-- EdW
namespace Mine
/-- a list of ints -/
def RowObj (o : Obj) (N2 : Nat) (f : Nat → Int) : Prop := o.cls = .type "list" ∧ ∃ (vs : List Value) (n : Nat), o.data = .seq vs.toArray n ∧ vs.length = N2 ∧ ∀ j, j < N2 → ∃ t, vs[j]? = some (.int (f j) t)
/-- a list of lists of ints, its objects in the ledger -/
structure MatL (lo : Addr) (M : Addr) (rs : List Addr) (own : List (Addr × Obj)) (N1 N2 : Nat) (V : Nat → Nat → Int) : Prop where
  len : rs.length = N1
  outer : ∃ o, (M, o) ∈ own ∧ o.cls = .type "list" ∧ ∃ n, o.data = .seq (rs.map Value.ref).toArray n
  rows : ∀ (i : Nat) (r : Addr), rs[i]? = some r → ∃ o, (r, o) ∈ own ∧ RowObj o N2 (V i)
  nodup : ∀ (i j : Nat) (r : Addr), rs[i]? = some r → rs[j]? = some r → i = j
  apart : ∀ r ∈ rs, r ≠ M
  low : ∀ r ∈ rs, @LT.lt Nat _ lo r
  off : ∀ q ∈ own, q.1 ≠ 172
def upd2 (V : Nat → Nat → Int) (i j : Nat) (v : Int) : Nat → Nat → Int := fun p q => if p = i ∧ q = j then v else V p q
section
variable {prog : Program} {w : World} {A : Around} {E : Value → Shared → Prop} {s : Shared} {h₀ : Heap} {L : Addr} {m : Str → Option Value} {lo M : Addr} {rs : List Addr} {led pre Tl a own : List (Addr × Obj)} {N1 N2 : Nat} {V : Nat → Nat → Int} {k j : Int} {u : Tok}
theorem MatL.at (H : MatL lo M rs own N1 N2 V) {i : Nat} (hi : i < N1) : rs[i]? = some (rs.getD i 0) := by
  have : i < rs.length := by rw [H.len]; exact hi
  rw [List.getD_eq_getElem?_getD, List.getElem?_eq_getElem this]; rfl
theorem mat_row {value slice : Expr} {Q : Value → Shared → Prop} (N : News h₀ L s.heap led) (H : MatL lo M rs own N1 N2 V) (hsub : ∀ q ∈ own, q ∈ led) (h0 : 0 ≤ k) (h1 : k < N1) (hN : N1 ≤ 64) (h : Q (.ref (rs.getD k.toNat 0)) s)
    (hs : subscripted slice false (.ref M) (.int k u) = operate [.ref M, .int k u] (getItem (.ref M) (.int k u)) := by with_unfolding_all rfl) (hg : ∀ r, letTemporaryGo value (.ref M) r = pure () := by intro _; with_unfolding_all rfl) :
    wpAny (model prog w) A (subscriptTail value slice (.ref M) (.int k u)) Q E s := by
  obtain ⟨o, hm, hc, n, hd⟩ := H.outer
  have hl : s.heap.IsList M (rs.map Value.ref).toArray := ⟨o, (N _ (hsub _ hm)).1, hc, n, hd⟩
  refine item_listL hl h0 (by omega) ?_ h hs hg
  rw [List.getElem?_map, H.at (by omega)]; rfl
theorem mat_getRow {Q : Value → Shared → Prop} (N : News h₀ L s.heap led) (H : MatL lo M rs own N1 N2 V) (hsub : ∀ q ∈ own, q ∈ led) (h0 : 0 ≤ k) (h1 : k < N1) (hN : N1 ≤ 64) (h : Q (.ref (rs.getD k.toNat 0)) s) :
    wpAny (model prog w) A (getItem (.ref M) (.int k u)) Q E s := by
  obtain ⟨o, hm, hc, n, hd⟩ := H.outer
  have hl : s.heap.IsList M (rs.map Value.ref).toArray := ⟨o, (N _ (hsub _ hm)).1, hc, n, hd⟩
  refine wpAny_getItem_list hl h0 (by omega) ?_ h
  rw [List.getElem?_toArray, List.getElem?_map, H.at (by omega)]; rfl
theorem mat_cell {value slice : Expr} {Q : Value → Shared → Prop} {i : Nat} (N : News h₀ L s.heap led) (H : MatL lo M rs own N1 N2 V) (hsub : ∀ q ∈ own, q ∈ led) (hi : i < N1) (h0 : 0 ≤ j) (h1 : j < N2) (hN : N2 ≤ 64) (h : ∀ t, Q (.int (V i j.toNat) t) s)
    (hs : subscripted slice false (.ref (rs.getD i 0)) (.int j u) = operate [.ref (rs.getD i 0), .int j u] (getItem (.ref (rs.getD i 0)) (.int j u)) := by with_unfolding_all rfl) (hg : ∀ r, letTemporaryGo value (.ref (rs.getD i 0)) r = pure () := by intro _; with_unfolding_all rfl) :
    wpAny (model prog w) A (subscriptTail value slice (.ref (rs.getD i 0)) (.int j u)) Q E s := by
  obtain ⟨o, hm, hc, vs, n, hd, hz, hv⟩ := H.rows i _ (H.at hi)
  have hl : s.heap.IsList (rs.getD i 0) vs.toArray := ⟨o, (N _ (hsub _ hm)).1, hc, n, hd⟩
  obtain ⟨t, ht⟩ := hv j.toNat (by omega)
  exact item_listL hl h0 (by omega) ht (h t) hs hg
theorem mat_set {Q : Unit → Shared → Prop} {i : Nat} {v : Int} {tv : Tok} (ts : TS Tl) (F : Fr h₀ L s.heap m) (N : News h₀ L s.heap led) (S : Split Tl (a ++ own) pre led) (H : MatL lo M rs own N1 N2 V)
    (hpre : ∀ p ∈ pre, ∀ r ∈ rs, p.1 ≠ r) (ha : ∀ p ∈ a, ∀ r ∈ rs, p.1 ≠ r) (hi : i < N1) (h0 : 0 ≤ j) (h1 : j < N2) (hN : N2 ≤ 64)
    (h : ∀ h' own', Fr h₀ L h' m → News h₀ L h' (pre ++ (Tl ++ (a ++ own'))) → MatL lo M rs own' N1 N2 (upd2 V i j.toNat v) → own'.map (·.1) = own.map (·.1) → Q () { s with heap := h' }) :
    wpAny (model prog w) A (setItem (.ref (rs.getD i 0)) (.int j u) (.int v tv)) Q E s := by
  rw [S.eq] at N
  have hri := H.at hi
  have hmem : rs.getD i 0 ∈ rs := List.mem_of_getElem? hri
  obtain ⟨o, hm, hc, vs, n, hd, hz, hv⟩ := H.rows i _ hri
  generalize hr : rs.getD i 0 = r at *
  have hN0 := N _ (List.mem_append.mpr (.inr (List.mem_append.mpr (.inr (List.mem_append.mpr (.inr hm))))))
  have hl : s.heap.IsList r vs.toArray := ⟨o, hN0.1, hc, n, hd⟩
  refine wpAny_setItem_list hl h0 (by omega) (by simp; omega) fun h' hl' hs' => ?_
  obtain ⟨o', ho', hc', n', hd'⟩ := hl'
  have tl : ∀ p ∈ Tl, p.1 ≠ r := fun p hp e => by
    have q1 := (N p (List.mem_append.mpr (.inr (List.mem_append.mpr (.inl hp))))).1
    have q2 := hN0.1
    dsimp only at q2
    rw [e, q2] at q1
    have q1 := Option.some.inj q1
    rw [q1] at hd
    cases ts with
    | t0 =>
      simp only [List.mem_cons, List.not_mem_nil, or_false] at hp
      subst hp
      simp at hd
    | t1 x1 =>
      obtain ⟨vs1, t1', y1, z1⟩ := x1
      simp only [List.mem_cons, List.not_mem_nil, or_false] at hp
      rcases hp with rfl | rfl
      · simp at hd
      · rw [y1] at hd; cases hd
    | t2 x1 x2 =>
      obtain ⟨vs1, t1', y1, z1⟩ := x1
      obtain ⟨vs2, t2', y2, z2⟩ := x2
      simp only [List.mem_cons, List.not_mem_nil, or_false] at hp
      rcases hp with rfl | rfl | rfl
      · simp at hd
      · rw [y1] at hd; cases hd
      · rw [y2] at hd; cases hd
  let f : Addr × Obj → Addr × Obj := fun q => if q.1 = r then (r, o') else q
  have hf1 : ∀ q, (f q).1 = q.1 := fun q => by show (if q.1 = r then (r, o') else q).1 = q.1; split <;> simp_all
  have hfne : ∀ q, q.1 ≠ r → f q = q := fun q hq => if_neg hq
  have hmm : ∀ q ∈ own, q.1 ≠ r → q ∈ own.map f := fun q hq e => List.mem_map.mpr ⟨q, hq, hfne q e⟩
  refine h h' (own.map f) ⟨F.ns.sameBut hs' (Ne.symm hN0.2.1), fun b ob e => (hs'.2 b (fun q => by rw [q] at e; have := hN0.2.2; dsimp only at this; rw [this] at e; cases e)).trans (F.keep b ob e), F.above⟩ (fun p hp => ?_) ⟨H.len, ?_, ?_, H.nodup, H.apart, H.low, ?_⟩ ?_
  · have keep : p.1 ≠ r → p ∈ pre ++ (Tl ++ (a ++ own)) → h'.get? p.1 = some p.2 ∧ p.1 ≠ L ∧ h₀.get? p.1 = none := fun e hq => ⟨hs'.extBut _ _ e (N p hq).1, (N p hq).2⟩
    rcases List.mem_append.mp hp with hp | hp
    · exact keep (hpre p hp r hmem) (List.mem_append.mpr (.inl hp))
    · rcases List.mem_append.mp hp with hp | hp
      · exact keep (tl p hp) (List.mem_append.mpr (.inr (List.mem_append.mpr (.inl hp))))
      · rcases List.mem_append.mp hp with hp | hp
        · exact keep (ha p hp r hmem) (List.mem_append.mpr (.inr (List.mem_append.mpr (.inr (List.mem_append.mpr (.inl hp))))))
        · obtain ⟨q, hq, rfl⟩ := List.mem_map.mp hp
          by_cases e : q.1 = r
          · rw [show f q = (r, o') from if_pos e]
            exact ⟨ho', hN0.2⟩
          · rw [hfne q e]
            exact ⟨hs'.extBut _ _ e (N q (List.mem_append.mpr (.inr (List.mem_append.mpr (.inr (List.mem_append.mpr (.inr hq))))))).1, (N q (List.mem_append.mpr (.inr (List.mem_append.mpr (.inr (List.mem_append.mpr (.inr hq))))))).2⟩
  · obtain ⟨oM, hM, r2⟩ := H.outer
    exact ⟨oM, hmm _ hM (fun e => H.apart r hmem e.symm), r2⟩
  · intro i' r' hr'
    by_cases e : i' = i
    · subst e
      rw [hri] at hr'
      cases hr'
      refine ⟨o', List.mem_map.mpr ⟨_, hm, if_pos rfl⟩, hc', (vs.set j.toNat (.int v tv)), n', by rw [hd']; simp, by simpa using hz, fun q hq => ?_⟩
      unfold upd2
      by_cases e2 : q = j.toNat
      · subst e2
        rw [if_pos ⟨rfl, rfl⟩]
        exact ⟨tv, List.getElem?_set_self (by omega)⟩
      · rw [if_neg (fun z => e2 z.2)]
        obtain ⟨t, ht⟩ := hv q hq
        exact ⟨t, by rw [List.getElem?_set_ne (Ne.symm e2)]; exact ht⟩
    · obtain ⟨o2, hm2, hc2, vs2, n2, hd2, hz2, hv2⟩ := H.rows i' r' hr'
      refine ⟨o2, hmm _ hm2 (fun z => e (H.nodup i' i r (by dsimp only at z; rw [← z]; exact hr') hri)), hc2, vs2, n2, hd2, hz2, fun q hq => ?_⟩
      unfold upd2
      rw [if_neg (fun z => e z.1)]
      exact hv2 q hq
  · intro q hq
    obtain ⟨q', hq', rfl⟩ := List.mem_map.mp hq
    rw [hf1]
    exact H.off q' hq'
  · rw [List.map_map]
    exact List.map_congr_left fun q _ => hf1 q
end
end Mine
-- EdX
namespace Mine
section
variable {prog : Program} {w : World} {A : Around} {s : Shared} {h₀ : Heap} {L : Addr} {m : Str → Option Value} {lo : Addr} {N1 N2 : Nat} {env : Env} {elt : Expr} {x y : Str} {scope : Scope} {cl : List (Str × Addr)} {led0 : List (Addr × Obj)} {S : List (Addr × Obj) → Prop} {P : Nat → Value → Prop} {Q : Flow → Shared → Prop}
/-- a comprehension whose element makes a new row of noughts -/
theorem comp_zero (hS : ∀ l, S l)
    (hel : ∀ I oI C oC D ys m₂ h tk led E', LCg.NsObj oC m₂ → Fr h₀ L h m → News h₀ L h ((I, oI) :: (C, oC) :: (D, LCg.lst ys) :: led) → (∀ q ∈ led0, q ∈ led) →
      wpAny (model prog w) A (eval elt (compEnvC scope cl C env)) (fun yv s₂ => ∃ r o h' tk', yv = .ref r ∧ s₂ = { s with heap := h', toks := tk' } ∧ Fr h₀ L h' m ∧ RowObj o N2 (fun _ => 0) ∧
        News h₀ L h' ((r, o) :: (I, oI) :: (C, oC) :: (D, LCg.lst ys) :: led) ∧ ∀ p ∈ (I, oI) :: (C, oC) :: (D, LCg.lst ys) :: led, p.1 < r) E' { s with heap := h, toks := tk })
    (hlo : ∃ q ∈ led0, q.1 = lo) (h172 : @LE.le Nat _ 172 lo) (h172l : ∃ o, (172, o) ∈ led0 ∧ o.cls ≠ .type "list")
    (fin : ∀ D h tk rs own, Fr h₀ L h (fun z => if z = y then some (.ref D) else m z) → News h₀ L h (own ++ led0) → MatL lo D rs own N1 N2 (fun _ _ => 0) → Q .next { s with heap := h, toks := tk }) (g : Heap) :
    LCg.CompRest prog w A h₀ L m env elt x scope cl { s with heap := g } S P (LCg.FinA h₀ L m { s with heap := g } y Q) N1 0 [] led0 := by
  have main : ∀ k i ys news (rl : List (Addr × Obj)), i + k = N1 → ys = rl.map (fun q => Value.ref q.1) → rl.length = i → (∀ q ∈ rl, q ∈ news ∧ RowObj q.2 N2 (fun _ => 0) ∧ @LT.lt Nat _ lo q.1) → (∀ (a b : Nat) q1 q2, rl[a]? = some q1 → rl[b]? = some q2 → q1.1 = q2.1 → a = b) → (∀ q ∈ led0, q ∈ news) →
      LCg.CompRest prog w A h₀ L m env elt x scope cl { s with heap := g } S P (LCg.FinA h₀ L m { s with heap := g } y Q) k i ys news := by
    intro k
    induction k with
    | zero =>
      intro i ys news rl hi hys hlen hrl hnd hsub
      refine LCg.CompRest.zero fun D h tk F N off => ?_
      have offm : ∀ p ∈ news, p.1 ≠ D := by
        have : ∀ (l : List (Addr × Obj)), LCg.Off1 D l → ∀ p ∈ l, p.1 ≠ D := by
          intro l
          induction l with
          | nil => intro _ p hp; cases hp
          | cons a l ih =>
            intro hl p hp
            rcases List.mem_cons.mp hp with rfl | hp
            · exact hl.1
            · exact ih hl.2 p hp
        exact this news off
      refine fin D h tk (rl.map (·.1)) ((D, LCg.lst ys) :: rl) F (fun p hp => ?_) ⟨?_, ⟨_, .head _, rfl, _, by rw [List.map_map, hys]; rfl⟩, ?_, ?_, ?_, ?_, ?_⟩
      · rcases List.mem_append.mp hp with hp | hp
        · rcases List.mem_cons.mp hp with rfl | hp
          · exact N _ (.head _)
          · exact N _ (.tail _ (hrl p hp).1)
        · exact N _ (.tail _ (hsub p hp))
      · rw [List.length_map, hlen]; omega
      · intro i' r hr
        rw [List.getElem?_map] at hr
        cases hq : rl[i']? with
        | none => rw [hq] at hr; cases hr
        | some q =>
          rw [hq] at hr
          cases hr
          have := List.mem_of_getElem? hq
          exact ⟨q.2, .tail _ this, (hrl q this).2.1⟩
      · intro a b r ha hb
        rw [List.getElem?_map] at ha hb
        cases hq : rl[a]? with
        | none => rw [hq] at ha; cases ha
        | some q =>
          cases hq2 : rl[b]? with
          | none => rw [hq2] at hb; cases hb
          | some q2 =>
            rw [hq] at ha
            rw [hq2] at hb
            cases ha
            exact hnd a b q q2 hq hq2 (by simpa using hb.symm)
      · intro r hr
        obtain ⟨q, hq, rfl⟩ := List.mem_map.mp hr
        exact offm q (hrl q hq).1
      · intro r hr
        obtain ⟨q, hq, rfl⟩ := List.mem_map.mp hr
        exact (hrl q hq).2.2
      · intro q hq
        obtain ⟨ql, hql, hle⟩ := hlo
        rcases List.mem_cons.mp hq with rfl | hq
        · intro e
          obtain ⟨o2, ho2, hc2⟩ := h172l
          have h1 := (N _ (.head _)).1
          have h2 := (N _ (.tail _ (hsub _ ho2))).1
          dsimp only at e h1 h2
          rw [e, h2] at h1
          cases h1
          exact hc2 rfl
        · have h1 := (hrl q hq).2.2
          exact neN (by have h1' := ltN h1; omega)
    | succ k ih =>
      intro i ys news rl hi hys hlen hrl hnd hsub
      refine LCg.CompRest.succ fun v I oI C oC D m₂ h tk E' hP hC hm2 F N off hne => ?_
      refine wpAny_mono (hel I oI C oC D ys m₂ h tk news E' hC F N hsub) (fun yv s₂ h₂ => ?_) fun _ _ e => e
      obtain ⟨r, o, h', tk', rfl, rfl, F', hro, N', hlt⟩ := h₂
      refine ⟨h', tk', (r, o) :: news, rfl, F', fun p hp => N' p ?_, LCg.Off3.of fun p hp => ?_, hS _, ?_⟩
      · rcases List.mem_cons.mp hp with rfl | hp
        · exact .tail _ (.head _)
        · rcases List.mem_cons.mp hp with rfl | hp
          · exact .tail _ (.tail _ (.head _))
          · rcases List.mem_cons.mp hp with rfl | hp
            · exact .tail _ (.tail _ (.tail _ (.head _)))
            · rcases List.mem_cons.mp hp with rfl | hp
              · exact .head _
              · exact .tail _ (.tail _ (.tail _ (.tail _ hp)))
      · rcases List.mem_cons.mp hp with rfl | hp
        · exact ⟨Ne.symm (Nat.ne_of_lt (hlt (I, oI) (.head _))), Ne.symm (Nat.ne_of_lt (hlt (C, oC) (.tail _ (.head _)))), Ne.symm (Nat.ne_of_lt (hlt (D, LCg.lst ys) (.tail _ (.tail _ (.head _)))))⟩
        · exact off.mem p hp
      · have hr : ∀ q ∈ news, q.1 < r := fun q hq => hlt q (.tail _ (.tail _ (.tail _ hq)))
        refine ih (i + 1) (ys ++ [.ref r]) ((r, o) :: news) (rl ++ [(r, o)]) (by omega) (by rw [hys, List.map_append]; rfl) (by rw [List.length_append, hlen]; rfl) (fun q hq => ?_) (fun a b q1 q2 ha hb e => ?_) fun q hq => .tail _ (hsub q hq)
        · rcases List.mem_append.mp hq with hq | hq
          · exact ⟨.tail _ (hrl q hq).1, (hrl q hq).2⟩
          · rw [List.mem_singleton.mp hq]
            obtain ⟨ql, hql, hle⟩ := hlo
            exact ⟨.head _, hro, hle ▸ hr ql (hsub ql hql)⟩
        · have hl : ∀ (c : Nat) q, (rl ++ [(r, o)])[c]? = some q → (c < rl.length ∧ rl[c]? = some q) ∨ (c = rl.length ∧ q = (r, o)) := fun c q hc => by
            by_cases h1 : c < rl.length
            · rw [List.getElem?_append_left h1] at hc
              exact .inl ⟨h1, hc⟩
            · by_cases h2 : c = rl.length
              · subst h2
                simp at hc
                exact .inr ⟨rfl, hc.symm⟩
              · rw [List.getElem?_eq_none (by rw [List.length_append, List.length_singleton]; omega)] at hc
                cases hc
          rcases hl a q1 ha with ⟨a1, a2⟩ | ⟨a1, a2⟩ <;> rcases hl b q2 hb with ⟨b1, b2⟩ | ⟨b1, b2⟩
          · exact hnd a b q1 q2 a2 b2 e
          · exfalso
            subst b2
            exact Nat.ne_of_lt (hr q1 (hrl q1 (List.mem_of_getElem? a2)).1) e
          · exfalso
            subst a2
            exact Nat.ne_of_lt (hr q2 (hrl q2 (List.mem_of_getElem? b2)).1) e.symm
          · rw [a1, b1]
  exact main N1 0 [] led0 [] (by omega) rfl rfl (fun q hq => nomatch hq) (fun a b q1 q2 ha => by simp at ha) fun q hq => hq
end
end Mine
-- EdY
namespace Mine
section
variable {prog : Program} {w : World} {A : Around} {E : Value → Shared → Prop} {s : Shared} {h₀ : Heap} {L : Addr} {m : Str → Option Value} {N2 : Nat} {env : Env} {cnt : Expr} {p1 p2 p3 : Pos} {k : Nat} {all : List (Addr × Obj)}
theorem row_elt (F : Fr h₀ L s.heap m) (N : News h₀ L s.heap all) (hN2 : N2 ≤ 64)
    (hcnt : ∀ s₁ : Shared, (∀ b o, s.heap.get? b = some o → s₁.heap.get? b = some o) → wpAny (model prog w) A (eval cnt env) (fun v s₂ => ∃ t tk, v = .int (N2 : Int) t ∧ s₂ = { s₁ with toks := tk }) E s₁) :
    wpAny (model prog w) A (eval (.BinOp (.List [.Constant (.int 0) k p1] p2) .Mult cnt p3) env) (fun yv s₂ => ∃ r o h' tk', yv = .ref r ∧ s₂ = { s with heap := h', toks := tk' } ∧ Fr h₀ L h' m ∧ RowObj o N2 (fun _ => 0) ∧
      News h₀ L h' ((r, o) :: all) ∧ ∀ p ∈ all, p.1 < r) E s := by
  refine wpAny_BinOp (List_ (spliced_more (wpAny_Constant_int (spliced_none ?_))))
  refine newList_NK F N (fun h' F' N' hkk => ?_) (by show 1 ≤ sizeLine; decide)
  refine wpAny_mono (hcnt _ fun b o e => ?_) (fun v s₂ h₂ => ?_) fun _ _ e => e
  · exact hkk b o e
  obtain ⟨t, tk, rfl, rfl⟩ := h₂
  refine KMa.mul (vs := [.int 0 s.toks]) F' N' (⟨_, (N' _ (.head _)).1, rfl, _, rfl⟩) (by omega) (by omega) (by simp; omega) rfl fun D h'' F'' N'' hlt2 => ?_
  refine ⟨D, listOf (List.replicate (N2 : Int).toNat [.int 0 s.toks]).flatten.toArray 0, h'', _, rfl, rfl, F'', ⟨rfl, _, _, rfl, ?_, fun j hj => ⟨s.toks, ?_⟩⟩, fun p hp => ?_, fun p hp => hlt2 p (.tail _ hp)⟩
  · simp
  · rw [lm_rep_flat_one_get _ (by simpa using hj)]
  · rcases List.mem_cons.mp hp with rfl | hp
    · exact N'' _ (.head _)
    · exact N'' _ (.tail _ (.tail _ hp))
end
end Mine
-- EdZ
namespace Mine
section
variable {prog : Program} {w : World} {A : Around} {s : Shared} {env : Env} {h₀ : Heap} {L : Addr}
/-- o.name(args), the name's last line being the call's -/
theorem MethodCallL {M : Model} {E : Value → Shared → Prop} {o : Expr} {name : Str} {apos pos : Pos} {args : List Expr} {Q : Value → Shared → Prop} (hl : apos.endLine = pos.line)
    (h : wpAny M A (eval o env) (fun ov s₁ => wpAny M A (getMethod ov name (do return (← importBound o env).getD true)) (fun fx s₂ => wpAny M A (callWith pos fx.1 fx.2 (backTo pos (starEach args env)) []) Q E s₂) E s₁) E s)
    (hf : methodCallForm (args.length + ([] : List Keyword).length) (backTo pos (starEach args env)) (backToKw pos (keywordEach [] env)) = true := by rfl) (hb : attributeBase o name env (eval o env) = eval o env := by rfl) (hk : backToKw pos (keywordEach [] env) = [] := by rfl) :
    wpAny M A (eval (.Call (.Attribute o name apos) args [] pos) env) Q E s := by
  have e : eval (.Call (.Attribute o name apos) args [] pos) env = (do
      let ov ← attributeBase o name env (eval o env)
      standAt apos.atName
      methodCall o name apos pos env ov (args.length + ([] : List Keyword).length) (backTo pos (starEach args env)) (backToKw pos (keywordEach [] env))) := by rw [eval]
  rw [e, hb]
  refine wpAny_bind (wpAny_mono h (fun ov s₁ h₁ => wpAny_bind (wpAny_standAt ?_)) fun _ _ x => x)
  unfold methodCall
  rw [hf]
  unfold calleeOf methodCallPos
  refine wpAny_bind (wpAny_holding ?_)
  rw [if_pos rfl]
  refine wpAny_mono h₁ (fun fx s₂ h₂ => ?_) fun _ _ x => x
  rw [if_pos (by rw [hl]; simp)]
  refine wpAny_bind (wpAny_pure ?_)
  rw [hk]
  exact h₂
/-- an iterator whose turns bind the target's names -/
structure Turns (prog : Program) (w : World) (A : Around) (env : Env) (h₀ : Heap) (L : Addr) (target : Expr) (it : Value) (fp : List Addr) (n : Nat) (St : Nat → Heap → Prop) (U : Nat → (Str → Option Value) → (Str → Option Value) → Prop) : Prop where
  frame : ∀ i h h', St i h → (∀ b ∈ fp, ∀ o, h.get? b = some o → h'.get? b = some o) → St i h'
  live : ∀ i h, St i h → ∀ b ∈ fp, ∃ o, h.get? b = some o ∧ ¬ IsCode o
  next : ∀ i (s : Shared) (m₁ : Str → Option Value) (Q : Shared → Prop) (E : Value → Shared → Prop), i < n → St i s.heap → Fr h₀ L s.heap m₁ →
    (∀ h₁ tk₁ m₂, U i m₁ m₂ → St (i + 1) h₁ → Fr h₀ L h₁ m₂ → (∀ b o, b ≠ L → b ∉ fp → s.heap.get? b = some o → h₁.get? b = some o) → Q { s with heap := h₁, toks := tk₁ }) →
    wpAny (model prog w) A (pyNext it) (fun r s₂ => match r with
      | none => False
      | some v => wpAny (model prog w) A (letOwnedTupleGo target it v) (fun _ s₃ => wpAny (model prog w) A (assign target env v) (fun _ s₄ => Q s₄) E s₃) E s₂) E s
  fin : ∀ (s : Shared) (Q : Option Value → Shared → Prop) (E : Value → Shared → Prop), St n s.heap → (∀ h' tk, (∀ b o, b ∉ fp → s.heap.get? b = some o → h'.get? b = some o) → Q none { s with heap := h', toks := tk }) → wpAny (model prog w) A (pyNext it) Q E s

/-- where one turn of a loop over the table ends -/
inductive MPost (h₀ : Heap) (L : Addr) (s : Shared) (pre a mat0 : List (Addr × Obj)) (J : (Str → Option Value) → List (Addr × Obj) → Prop) : Flow → Shared → Prop
  | next {h' : Heap} {tk : Nat} {m₂ : Str → Option Value} {Tl₂ mat₂ : List (Addr × Obj)} : TS Tl₂ → Fr h₀ L h' m₂ → News h₀ L h' (pre ++ (Tl₂ ++ (a ++ mat₂))) → mat₂.map (·.1) = mat0.map (·.1) → J m₂ mat₂ → MPost h₀ L s pre a mat0 J .next { s with heap := h', toks := tk }

theorem loop_mat {R : Result → Shared → Prop} {target : Expr} {body : List Stmt} {it : Value} {fp : List Addr} {n : Nat} {St : Nat → Heap → Prop} {U : Nat → (Str → Option Value) → (Str → Option Value) → Prop} {pre Tl a mat : List (Addr × Obj)} {m : Str → Option Value}
    (W : Turns prog w A env h₀ L target it fp n St U) (hfp : ∀ b ∈ fp, h₀.get? b = none) (hL : L ∉ fp) (h172 : 172 ∉ fp) (hpre : ∀ p ∈ pre, p.1 ∉ fp) (ha : ∀ p ∈ a, p.1 ∉ fp) (hmat : ∀ p ∈ mat, p.1 ∉ fp)
    (ts : TS Tl) (F : Fr h₀ L s.heap m) (N : News h₀ L s.heap (pre ++ (Tl ++ (a ++ mat)))) (hst : St 0 s.heap)
    (J : Nat → (Str → Option Value) → List (Addr × Obj) → Prop) (h0 : J 0 m mat)
    (step : ∀ i m₁ m₂ mat₁ Tl₁ h₁ tk₁ its E', i < n → U i m₁ m₂ → J i m₁ mat₁ → TS Tl₁ → (∀ p ∈ its, p.1 ∈ fp) → mat₁.map (·.1) = mat.map (·.1) → Fr h₀ L h₁ m₂ → News h₀ L h₁ (pre ++ (Tl₁ ++ ((its ++ a) ++ mat₁))) →
      wpAny (model prog w) A (execs body env) (MPost h₀ L s pre (its ++ a) mat (J (i + 1))) E' { s with heap := h₁, toks := tk₁ })
    (done : ∀ h' tk m' Tl' mat', TS Tl' → Fr h₀ L h' m' → News h₀ L h' (pre ++ (Tl' ++ (a ++ mat'))) → mat'.map (·.1) = mat.map (·.1) → J n m' mat' → R (.ok .next) { s with heap := h', toks := tk }) :
    codeAny (model prog w) A (.forLoop target it body [] env) R s := by
  refine codeAny_forLoop_any (fun k s' => ∃ i h' tk m' Tl' mat', s' = { s with heap := h', toks := tk } ∧ St i h' ∧ TS Tl' ∧ Fr h₀ L h' m' ∧ News h₀ L h' (pre ++ (Tl' ++ (a ++ mat'))) ∧ mat'.map (·.1) = mat.map (·.1) ∧ J i m' mat' ∧ i ≤ n ∧ k = n + 1 - i) ?_ (n + 1)
    ⟨0, s.heap, s.toks, m, Tl, mat, rfl, hst, ts, F, N, rfl, h0, Nat.zero_le _, rfl⟩
  rintro k s' ⟨i, H, tk, m', Tl', mat', rfl, hst', ts', F', N', hm', hJ, hi, rfl⟩
  have tlOff : ∀ p ∈ Tl', p.1 ∉ fp := fun p hp hb => by
    obtain ⟨o, ho, hno⟩ := W.live _ _ hst' _ hb
    have q1 := (N' p (List.mem_append.mpr (.inr (List.mem_append.mpr (.inl hp))))).1
    rw [ho] at q1
    have q1 := Option.some.inj q1
    cases ts' with
    | t0 =>
      simp only [List.mem_cons, List.not_mem_nil, or_false] at hp
      subst hp
      exact h172 hb
    | t1 x1 =>
      simp only [List.mem_cons, List.not_mem_nil, or_false] at hp
      rcases hp with rfl | rfl
      · exact h172 hb
      · exact hno (q1 ▸ x1)
    | t2 x1 x2 =>
      simp only [List.mem_cons, List.not_mem_nil, or_false] at hp
      rcases hp with rfl | rfl | rfl
      · exact h172 hb
      · exact hno (q1 ▸ x1)
      · exact hno (q1 ▸ x2)
  have matOff : ∀ p ∈ mat', p.1 ∉ fp := fun p hp => by
    have : p.1 ∈ mat'.map (·.1) := List.mem_map_of_mem hp
    rw [hm'] at this
    obtain ⟨q, hq, e⟩ := List.mem_map.mp this
    exact e ▸ hmat q hq
  have allOff : ∀ p ∈ pre ++ (Tl' ++ (a ++ mat')), p.1 ∉ fp := fun p hp => by
    rcases List.mem_append.mp hp with hp | hp
    · exact hpre p hp
    · rcases List.mem_append.mp hp with hp | hp
      · exact tlOff p hp
      · exact (List.mem_append.mp hp).elim (ha p) (matOff p)
  by_cases hlt : i < n
  · refine wpAny_mono (W.next i _ m' (fun s₄ => wpAny (model prog w) A (execs body env) (fun f s₃ => match f with
      | .next | .cont => ∃ m_1, m_1 < n + 1 - i ∧ ∃ i h' tk m' Tl' mat', s₃ = { s with heap := h', toks := tk } ∧ St i h' ∧ TS Tl' ∧ Fr h₀ L h' m' ∧ News h₀ L h' (pre ++ (Tl' ++ (a ++ mat'))) ∧ mat'.map (·.1) = mat.map (·.1) ∧ J i m' mat' ∧ i ≤ n ∧ m_1 = n + 1 - i
      | .brk => R (.ok .next) s₃
      | .ret v => R (.ok (.ret v)) s₃) (notedBy (model prog w) A env fun e s' => R (.error e) s') s₄) _ hlt hst' F' fun h₁ tk₁ m₂ hU hst₁ F₁ hk₁ => ?_) (fun r s₂ h₂ => ?_) fun _ _ e => e
    · have hk' : ∀ p ∈ pre ++ (Tl' ++ (a ++ mat')), h₁.get? p.1 = some p.2 := fun p hp => hk₁ _ _ (N' p hp).2.1 (allOff p hp) (N' p hp).1
      have Nown : News h₀ L h₁ (ownOf h₀ fp h₁) := news_ownOf hL
      have N₁ : News h₀ L h₁ (pre ++ (Tl' ++ ((ownOf h₀ fp h₁ ++ a) ++ mat'))) := fun p hp => by
        have old : p ∈ pre ++ (Tl' ++ (a ++ mat')) → h₁.get? p.1 = some p.2 ∧ p.1 ≠ L ∧ h₀.get? p.1 = none := fun q => ⟨hk' p q, (N' p q).2⟩
        rcases List.mem_append.mp hp with hp | hp
        · exact old (List.mem_append.mpr (.inl hp))
        · rcases List.mem_append.mp hp with hp | hp
          · exact old (List.mem_append.mpr (.inr (List.mem_append.mpr (.inl hp))))
          · rcases List.mem_append.mp hp with hp | hp
            · rcases List.mem_append.mp hp with hp | hp
              · exact Nown p hp
              · exact old (List.mem_append.mpr (.inr (List.mem_append.mpr (.inr (List.mem_append.mpr (.inl hp))))))
            · exact old (List.mem_append.mpr (.inr (List.mem_append.mpr (.inr (List.mem_append.mpr (.inr hp))))))
      refine wpAny_mono (step i m' m₂ mat' Tl' h₁ tk₁ _ _ hlt hU hJ ts' ownOf_sub hm' F₁ N₁) (fun f s₃ h₃ => ?_) fun _ _ e => e
      cases h₃ with
      | @next h' tk m₃ Tl₂ mat₂ a1 a2 a3 a4 a5 =>
        refine ⟨n + 1 - (i + 1), by omega, i + 1, h', tk, m₃, Tl₂, mat₂, rfl, W.frame _ _ _ hst₁ fun b hb o e => ?_, a1, a2, fun p hp => a3 p ?_, a4, a5, hlt, rfl⟩
        · exact (a3 (b, o) (List.mem_append.mpr (.inr (List.mem_append.mpr (.inr (List.mem_append.mpr (.inl (List.mem_append.mpr (.inl (mem_ownOf hb (hfp b hb) e)))))))))).1
        · rcases List.mem_append.mp hp with hp | hp
          · exact List.mem_append.mpr (.inl hp)
          · rcases List.mem_append.mp hp with hp | hp
            · exact List.mem_append.mpr (.inr (List.mem_append.mpr (.inl hp)))
            · rcases List.mem_append.mp hp with hp | hp
              · exact List.mem_append.mpr (.inr (List.mem_append.mpr (.inr (List.mem_append.mpr (.inl (List.mem_append.mpr (.inr hp)))))))
              · exact List.mem_append.mpr (.inr (List.mem_append.mpr (.inr (List.mem_append.mpr (.inr hp)))))
    · cases r with
      | none => exact h₂.elim
      | some v => exact h₂
  · have hin : i = n := by omega
    subst hin
    refine W.fin _ _ _ hst' fun h₁ tk₁ hk₁ => wpAny_execs_nil ?_
    have keepL : ∀ o, H.get? L = some o → h₁.get? L = some o := fun o e => hk₁ _ _ hL e
    exact done h₁ tk₁ m' Tl' mat' ts' ⟨F'.ns.at' keepL, fun b o e => hk₁ b o (fun hb => by rw [hfp b hb] at e; cases e) (F'.keep b o e), F'.above⟩ (fun p hp => ⟨hk₁ _ _ (allOff p hp) (N' p hp).1, (N' p hp).2⟩) hm' hJ

/-- the turns of a range -/
theorem Turns.range {x : Str} {px : Pos} {I : Addr} (hh : A.handled = none) (hx : env.kindOf x = some .local) (hLe : env.locals = L) (hp : (env.scope.kind == .class || (env.scope.kind == .module && env.locals != env.globals)) = false) (hI : h₀.get? I = none) (hLI : L ≠ I) (a : Int) (n : Nat) :
    Turns prog w A env h₀ L (.Name x px) (.ref I) [I] n (fun i h => IsRangeIter h I (a + (i : Nat) * 1) ((n : Int) - (i : Nat)) 1) (fun i m₁ m₂ => ∃ t, m₂ = fun y => if y = x then some (.int (a + i) t) else m₁ y) where
  frame := (LCg.range_walks (prog := prog) (w := w) hh a n).frame
  live := fun i h st b hb => by
    rw [List.mem_singleton.mp hb]
    refine ⟨_, st, ?_⟩
    rintro ⟨vs, t, e1, e2⟩
    cases e1
    simp [rawInt] at e2
  next := fun i s m₁ Q E hi hst F hQ => by
    refine (LCg.range_walks (prog := prog) (w := w) hh a n).item i s _ E hi hst fun v h' tk hv hst' hk => ?_
    obtain ⟨t, rfl⟩ := hv
    have F' : Fr h₀ L h' m₁ := ⟨F.ns.at' fun o e => hk _ o (by simpa using hLI) e, fun b o e => hk b o (fun hb => by rw [List.mem_singleton.mp hb, hI] at e; cases e) (F.keep b o e), F.above⟩
    refine wpAny_of_eq (show letOwnedTupleGo (.Name x px) (.ref I) (.int (a + i) t) = pure () from rfl) (wpAny_assign_Name (wpAny_storeName_local hx (by rw [hLe]; exact F'.ns) (fun h₂ hn₂ hs₂ => ?_) hp))
    rw [hLe] at hn₂ hs₂
    exact hQ h₂ _ _ ⟨t, rfl⟩ ((LCg.range_walks (prog := prog) (w := w) hh a n).frame _ _ _ hst' fun b hb o e => hs₂.extBut _ _ (fun q => hLI (by rw [List.mem_singleton.mp hb] at q; exact q.symm)) e) (F'.set hn₂ hs₂) fun b o hbL hb e => hs₂.extBut _ _ hbL (hk b o hb e)
  fin := fun s Q E hst hQ => (LCg.range_walks (prog := prog) (w := w) hh a n).done s Q E hst hQ
theorem TS.mem172 {Tl : List (Addr × Obj)} (ts : TS Tl) : ∃ o, (172, o) ∈ Tl ∧ o.cls ≠ .type "list" := by
  cases ts with
  | t0 => exact ⟨_, .head _, by simp⟩
  | t1 _ => exact ⟨_, .head _, by simp⟩
  | t2 _ _ => exact ⟨_, .head _, by simp⟩
/-- the loop over a range, its table in the ledger -/
theorem range_mat {R : Result → Shared → Prop} {E : Value → Shared → Prop} {x : Str} {px : Pos} {body : List Stmt} {r : Addr} {b c : Int} {t u v : Tok} {n : Nat} {pre Tl a mat : List (Addr × Obj)} {m : Str → Option Value} (hh : A.handled = none) (hx : env.kindOf x = some .local) (hLe : env.locals = L) (hp : (env.scope.kind == .class || (env.scope.kind == .module && env.locals != env.globals)) = false)
    (ts : TS Tl) (F : Fr h₀ L s.heap m) (N : News h₀ L s.heap (pre ++ (Tl ++ (a ++ mat)))) (hrg : IsRange s.heap r c b 1 t u v) (hb : b = c + n) (hc : 0 ≤ c ∧ c ≤ 2) (hn : n ≤ 256)
    (J : Nat → (Str → Option Value) → List (Addr × Obj) → Prop) (h0 : J 0 m mat)
    (step : ∀ i m₁ tv mat₁ Tl₁ h₁ tk₁ its E', i < n → J i m₁ mat₁ → TS Tl₁ → (∀ p ∈ its, p.1 ≠ 172) → (∀ p ∈ its, ∀ q ∈ mat, p.1 ≠ q.1) → mat₁.map (·.1) = mat.map (·.1) → Fr h₀ L h₁ (fun y => if y = x then some (.int (c + i) tv) else m₁ y) → News h₀ L h₁ (pre ++ (Tl₁ ++ ((its ++ a) ++ mat₁))) →
      wpAny (model prog w) A (execs body env) (MPost h₀ L s pre (its ++ a) mat (J (i + 1))) E' { s with heap := h₁, toks := tk₁ })
    (done : ∀ h' tk m' Tl' mat', TS Tl' → Fr h₀ L h' m' → News h₀ L h' (pre ++ (Tl' ++ (a ++ mat'))) → mat'.map (·.1) = mat.map (·.1) → J n m' mat' → R (.ok .next) { s with heap := h', toks := tk }) :
    wpAny (model prog w) A (pyIter (.ref r)) (fun it s₂ => codeAny (model prog w) A (.forLoop (.Name x px) it body [] env) R s₂) E s := by
  refine wpAny_pyIter_range hrg (small_one (by omega) (by omega) (by omega) (by omega)) ?_
  have hsz : Builtin.Range.rangeSize c b 1 = (n : Int) := by
    unfold Builtin.Range.rangeSize
    rw [if_pos (by decide)]
    split <;> omega
  have up : ∀ b' o, s.heap.get? b' = some o → (s.heap.push { cls := .type "range_iterator", data := .fields #[rawInt c, rawInt (Builtin.Range.rangeSize c b 1), rawInt 1] }).get? b' = some o := fun b' o e => Heap.get?_push_of_some _ e
  have lt : ∀ p ∈ pre ++ (Tl ++ (a ++ mat)), p.1 ≠ s.heap.objs.size := fun p hp => Nat.ne_of_lt (Heap.lt_size (N p hp).1)
  have h172 : (172 : Addr) ≠ s.heap.objs.size := by
    obtain ⟨o, ho, _⟩ := ts.mem172
    exact lt _ (List.mem_append.mpr (.inr (List.mem_append.mpr (.inl ho))))
  have W := Turns.range (prog := prog) (w := w) (px := px) hh hx hLe hp (next_is_new F) (Nat.ne_of_lt F.ns.lt) c n
  refine loop_mat (s := { s with heap := _ }) W (fun b' hb' => by rw [List.mem_singleton.mp hb']; exact next_is_new F) (fun q => Nat.ne_of_lt F.ns.lt (List.mem_singleton.mp q)) (fun q => h172 (List.mem_singleton.mp q)) (fun p hp q => lt p (List.mem_append.mpr (.inl hp)) (List.mem_singleton.mp q))
    (fun p hp q => lt p (List.mem_append.mpr (.inr (List.mem_append.mpr (.inr (List.mem_append.mpr (.inl hp)))))) (List.mem_singleton.mp q)) (fun p hp q => lt p (List.mem_append.mpr (.inr (List.mem_append.mpr (.inr (List.mem_append.mpr (.inr hp)))))) (List.mem_singleton.mp q))
    ts (F.keeps up) (N.grown up) ?_ J h0 (fun i m₁ m₂ mat₁ Tl₁ h₁ tk₁ its E' hi hU hJ ts₁ hits hm F₁ N₁ => ?_) done
  · show IsRangeIter _ _ _ _ _
    rw [hsz]
    simpa using Heap.get?_push_size _ rfl
  · obtain ⟨tv, rfl⟩ := hU
    refine wpAny_mono (step i m₁ tv mat₁ Tl₁ h₁ tk₁ its E' hi hJ ts₁ (fun p hp q => h172 (by rw [← q]; exact List.mem_singleton.mp (hits p hp))) (fun p hp q hq e => lt q (List.mem_append.mpr (.inr (List.mem_append.mpr (.inr (List.mem_append.mpr (.inr hq)))))) (by rw [← e]; exact List.mem_singleton.mp (hits p hp))) hm F₁ N₁) (fun f s' h' => ?_) fun _ _ e => e
    cases h' with | next a1 a2 a3 a4 a5 => exact .next a1 a2 a3 a4 a5
end
end Mine
-- EdN
namespace Mine
theorem fresh_EdN : True := by (w_top off; exact trivial)
abbrev scCall : Scope := { kind := .function, names := [((Str.ofString "self"), .local), ((Str.ofString "s1"), .local), ((Str.ofString "s2"), .local), ((Str.ofString "result"), .local), ((Str.ofString "max_length"), .local), ((Str.ofString "len_s1"), .local), ((Str.ofString "len_s2"), .cell), ((Str.ofString "d_mat"), .local), ((Str.ofString "i"), .local), ((Str.ofString "j"), .local), ((Str.ofString "cs1_prev"), .local), ((Str.ofString "cs1_curr"), .local), ((Str.ofString "cs2_prev"), .local), ((Str.ofString "cs2_curr"), .local), ((Str.ofString "distance"), .local), ((Str.ofString "len"), .globalImplicit), ((Str.ofString "range"), .globalImplicit), ((Str.ofString "enumerate"), .globalImplicit), ((Str.ofString "zip"), .globalImplicit), ((Str.ofString "min"), .globalImplicit)], isGenerator := false, isCoroutine := false, more := [(Str.ofString "fast", .str (Str.ofString "self")), (Str.ofString "fast", .str (Str.ofString "s1")), (Str.ofString "fast", .str (Str.ofString "s2")), (Str.ofString "fast", .str (Str.ofString "result")), (Str.ofString "fast", .str (Str.ofString "max_length")), (Str.ofString "fast", .str (Str.ofString "len_s1")), (Str.ofString "fast", .str (Str.ofString "len_s2")), (Str.ofString "fast", .str (Str.ofString "_")), (Str.ofString "fast", .str (Str.ofString "d_mat")), (Str.ofString "fast", .str (Str.ofString "i")), (Str.ofString "fast", .str (Str.ofString "j")), (Str.ofString "fast", .str (Str.ofString "cs1_prev")), (Str.ofString "fast", .str (Str.ofString "cs1_curr")), (Str.ofString "fast", .str (Str.ofString "cs2_prev")), (Str.ofString "fast", .str (Str.ofString "cs2_curr")), (Str.ofString "fast", .str (Str.ofString "distance"))] }
abbrev callEnv (L : Addr) : Env := envOfC (Str.ofString "Editex.__call__") scCall L 189 (.ref 188)
def tab (f1 f2 : Nat → Int) (g : Nat → Nat → Int) (lc : Bool) : Nat → Nat → Int
  | 0, 0 => 0
  | i + 1, 0 => if lc = true then 0 else tab f1 f2 g lc i 0 + f1 (i + 1)
  | 0, j + 1 => tab f1 f2 g lc 0 j + f2 (j + 1)
  | i + 1, j + 1 => min (min (tab f1 f2 g lc i (j + 1) + f1 (i + 1)) (tab f1 f2 g lc (i + 1) j + f2 (j + 1))) (tab f1 f2 g lc i j + g (i + 1) (j + 1))
def fst (c0 c1 c2 : Int) (U : Str) (i : Nat) : Int := stv c0 c1 c2 (Txt.item U ((i : Int) - 1)) (Txt.item U (i : Int))
def gst (c0 c1 c2 : Int) (U1 U2 : Str) (i j : Nat) : Int := rcv c0 c1 c2 (Txt.item U1 (i : Int)) (Txt.item U2 (j : Int))
local macro_rules | `(tactic| k_room) => `(tactic| ktr_room)
local macro_rules | `(tactic| walk_at "MY rest") => `(tactic| (
  refine' kp_rest ?k1 ?k2 ?k3 ?k4 ?k5 ?kA ?kF ?kK ?k6 ?k7 ?k8 ?kV ?kP ?kG ?kB ?_ ?c2 ?c3 ?c4 ?c5
  (case kA => exact rfl)
  (case kF => first | exact rfl | assumption)
  (case kK => first | exact rfl | assumption)
  (case k1 => k_asm)
  (case k2 => k_asm)
  (case k3 => k_asm)
  (case k4 => k_asm)
  (case k5 => k_asm)
  (case k6 => k_is)
  (case k7 => k_is)
  (case k8 => k_room)
  (case kV => kl_lit)
  (case kP => exact rfl)
  (case kG => exact fun _ => rfl)
  (case kB => exact fun _ => locs rfl)
  (case c5 => decide)
  (case c2 => exact rfl)
  (case c3 => exact rfl)
  (case c4 => exact rfl)
  k_whole
  intro D' g' L' h' l1 FG' F' N' B' X' T'
  (try k_lt l1); (try dsimp only); (try k_lift B'); (try k_fold)))
local macro_rules | `(tactic| walk_at "MY plain") => `(tactic| (
  refine' code_def ?k1 ?k2 ?k3 ?k4 ?k5 ?kA ?kF ?kK ?k6 ?k7 ?k8 ?k9 ?kB ?_ ?c2 ?c3 ?c4 ?c5
  (case kA => exact rfl)
  (case kF => first | exact rfl | assumption)
  (case kK => first | exact rfl | assumption)
  (case k1 => k_asm)
  (case k2 => k_asm)
  (case k3 => k_asm)
  (case k4 => k_asm)
  (case k5 => k_asm)
  (case k6 => k_is)
  (case k7 => k_is)
  (case k8 => k_room)
  (case k9 => first | exact BindsTo.of_eq rfl | exact binds_K (by k_in) rfl (by k_is) rfl rfl rfl)
  (case c5 => decide)
  (case kB => exact locs rfl)
  (case c2 => exact rfl)
  (case c3 => exact rfl)
  (case c4 => exact rfl)
  k_whole
  intro g' L' h' FG' F' N' B' X' T'
  (try dsimp only); (try k_lift B'); (try k_fold)))
local macro_rules | `(tactic| walk_at "getAttr ref") => `(tactic| (k_here; (with_reducible show wpAny _ _ (getAttr (Value.ref _) (PySem.Str.ofString "_ident") _) _ _ _); k_dflt (refine' get_sm ?k1 ?k2 ?k3 ?k4 ?k5 ?k6 ?k7 ?k8 ?k9 ?k10 ?k11 ?k12 ?_; (case k3 => k_inst); (case k1 => k_asm); (case k2 => k_asm); (case k6 => k_is); (case k4 => k_is); (case k5 => k_is); (case k7 => k_is); (case k8 => k_is); (case k9 => decide +kernel); (case k10 => k_get); (case k11 => k_is); (case k12 => k_handed); k_whole)))
local macro_rules | `(tactic| walk_at "eval Call Attribute") => `(tactic| (k_here; (with_reducible show wpAny _ _ (eval (Expr.Call (Expr.Attribute (Expr.Name _ _) _ _) [Expr.Starred _ _] [] _) _) _ _ _); refine starMethod ?_))
local macro_rules | `(tactic| walk_at "MY restC") => `(tactic| (
  refine' kpc_rest ?k1 ?k2 ?k3 ?k4 ?k5 ?kA ?kF ?kK ?k6 ?k7 ?k8 ?kV ?kP ?kG ?kB ?kD ?_ ?c2 ?c3 ?c4
  (case kA => exact rfl)
  (case kF => first | exact rfl | assumption)
  (case kK => first | exact rfl | assumption)
  (case k1 => k_asm)
  (case k2 => k_asm)
  (case k3 => k_asm)
  (case k4 => k_asm)
  (case k5 => k_asm)
  (case k6 => k_is)
  (case k7 => k_is)
  (case k8 => k_room)
  (case kV => kl_lit)
  (case kP => exact rfl)
  (case kG => exact fun _ => rfl)
  (case kB => exact fun _ => rfl)
  (case kD => decide +kernel)
  (case c2 => exact rfl)
  (case c3 => exact rfl)
  (case c4 => exact rfl)
  k_whole
  intro D' g' L' h' tk' cells' l1 l2 FG' F' N' Y' B' X' T'
  (try k_lt l1); (try k_lt2 l2); k_cells Y'; (try simp only [List.cons_append, List.nil_append] at N'); (try dsimp only); (try k_lift B'); (try k_fold)))
local macro_rules | `(tactic| walk_at "call ref") => `(tactic| (k_here; (with_reducible show wpAny _ _ (call (Value.ref 95) _) _ _ _); k_dflt (refine wpAny_call ?_; refine' ident_c ?k1 ?k2 ?k3 ?k4 ?k5 ?k6 ?k7 ?k8 ?k9 ?_; (case k1 => k_asm); (case k2 => k_asm); (case k3 => k_asm); (case k4 => k_asm); (case k5 => k_asm); (case k6 => first | exact rfl | assumption); (case k7 => first | exact rfl | assumption); (case k8 => (dsimp only [Arnd, Around.deeper] at *; omega)); (case k9 => (dsimp only [Arnd, Around.deeper] at *; omega)); k_whole); intro h' tk' F' N'; (try dsimp only); (try k_sweep)))
local macro_rules | `(tactic| walk_at "MY memT") => `(tactic| (first | (refine List.mem_append_left _ ?_; assumption) | (refine List.Mem.tail _ ?_; walk_at "MY memT")))
local macro_rules | `(tactic| walk_at "MY split") => `(tactic| (first | exact Split.base | (refine' Split.cons ?sp; (case sp => walk_at "MY split"))))
local macro_rules | `(tactic| walk_at "MY off") => `(tactic| ((try dsimp only); simp only [List.forall_mem_cons, List.not_mem_nil, false_implies, implies_true, and_true]; (repeat' (refine And.intro ?_ ?_)); all_goals (first | assumption | (refine neN ?_; (try dsimp only); omega))))
local macro_rules | `(tactic| walk_at "eval Lambda") => `(tactic| (k_here; k_dflt (refine' kla_eval ?d0 ?_; (case d0 => exact rfl)); (first
  | (k_dflt (refine' lam_S1 ?ts ?F ?N ?hg ?T ?C ?off ?offo ?hq ?e1 ?e2 ?hcl ?_; (case ts => assumption); (case F => k_asm); (case N => k_asm); (case hg => walk_at "MY split"); (case T => k_asm); (case C => assumption); (case off => walk_at "MY off"); (case offo => assumption); (case hq => first | rfl | with_unfolding_all rfl); (case e1 => rfl); (case e2 => rfl); (case hcl => exact rfl); k_whole); intro f' c' oc' ct' h' tk' Tl' F' N' ts' hm' hc' l1'; (try simp only [List.cons_append, List.nil_append] at N'))
  | (k_dflt (refine' lam_S2 ?ts ?F ?N ?hg ?T ?C ?off ?offo ?hq ?e1 ?e2 ?hcl ?_; (case ts => assumption); (case F => k_asm); (case N => k_asm); (case hg => walk_at "MY split"); (case T => k_asm); (case C => assumption); (case off => walk_at "MY off"); (case offo => assumption); (case hq => first | rfl | with_unfolding_all rfl); (case e1 => rfl); (case e2 => rfl); (case hcl => exact rfl); k_whole); intro f' c' oc' ct' h' tk' Tl' F' N' ts' hm' hc' l1'; (try simp only [List.cons_append, List.nil_append] at N')))))
local macro_rules | `(tactic| walk_at "call type:map") => `(tactic| (k_here; k_dflt (refine' map_K ?F ?N ?m ?c ?d ?_; (case F => k_asm); (case N => k_asm); (case m => k_mem); (case c => exact rfl); (case d => exact rfl); k_whole); intro h' mp' it' F' N' hX' hlt' hL' h0'; (try dsimp only)))
local macro_rules | `(tactic| walk_at "call builtin:any") => `(tactic| (k_here; k_dflt (refine' any_lam1 ?hh ?room ?F ?N ?X ?T ?M ?lt ?L ?h0 ?ho ?hoc ?hc ?hcs ?hcd ?hx ?hdx ?_; (case hh => exact rfl); (case room => (dsimp only [Arnd, Around.deeper] at *; omega)); (case F => k_asm); (case N => k_asm); (case X => k_asm); (case T => k_asm); (case M => assumption); (case lt => assumption); (case L => assumption); (case h0 => assumption); (case ho => k_mem); (case hoc => walk_at "MY memT"); (case hc => assumption); (case hcs => k_mem); (case hcd => assumption); (case hx => k_mem); (case hdx => k_mem); k_whole); intro h' tk' F' N'; (try dsimp only)))
local macro_rules | `(tactic| walk_at "call builtin:all") => `(tactic| (k_here; k_dflt (refine' all_lam2 ?hh ?room ?F ?N ?X ?T ?M ?lt ?L ?h0 ?ho ?hoc ?hc ?hcs ?hcd ?_; (case hh => exact rfl); (case room => (dsimp only [Arnd, Around.deeper] at *; omega)); (case F => k_asm); (case N => k_asm); (case X => k_asm); (case T => k_asm); (case M => assumption); (case lt => assumption); (case L => assumption); (case h0 => assumption); (case ho => k_mem); (case hoc => walk_at "MY memT"); (case hc => assumption); (case hcs => k_mem); (case hcd => assumption); k_whole); intro h' tk' F' N'; (try dsimp only)))
local macro_rules | `(tactic| walk_at "MY sub") => `(tactic| (first | assumption | (refine List.Mem.tail _ ?_; walk_at "MY sub")))
local macro_rules | `(tactic| walk_at "MY fin") => `(tactic| (with_reducible rename Fr h₀ _ _ _ => kF; with_reducible rename News h₀ _ _ _ => kN))
local macro_rules | `(tactic| walk_at "callWith ref") => `(tactic| (k_here; (with_reducible show wpAny _ _ (callWith _ (Value.ref _) _ (backTo _ (starEach [Expr.Starred _ _] _)) []) _ _ _); k_dflt (refine' callWith_SM ?k1 ?k2 ?k3 ?k4 ?_; (case k1 => k_asm); (case k2 => k_asm); (case k3 => k_mem); (case k4 => k_is); k_whole)))
local macro_rules | `(tactic| walk_at "MY plainC") => `(tactic| (refine' code_defC ?k1 ?k2 ?k3 ?k4 ?k5 ?kA ?kF ?kK ?k6 ?k7 ?k8 ?k9 ?kB ?kD ?_ ?c2 ?c3 ?c4; (case kA => exact rfl); (case kF => first | exact rfl | assumption); (case kK => first | exact rfl | assumption); (case k1 => k_asm); (case k2 => k_asm); (case k3 => k_asm); (case k4 => k_asm); (case k5 => k_asm); (case k6 => k_is); (case k7 => k_is); (case k8 => k_room); (case k9 => first | exact BindsTo.of_eq rfl | exact binds_K (by k_in) rfl (by k_is) rfl rfl rfl); (case kB => exact rfl); (case kD => decide +kernel); (case c2 => exact rfl); (case c3 => exact rfl); (case c4 => exact rfl); k_whole; intro g' L' h' tk' cells' FG' F' N' Y' B' X' T' l1; (try k_lt l1); k_cells Y'; (try simp only [List.cons_append, List.nil_append] at N'); (try dsimp only); (try k_lift B'); (try k_fold)))
local macro_rules | `(tactic| walk_at "MY memO") => `(tactic| (first | exact List.mem_append.mpr (.inr (List.mem_append.mpr (.inr (by assumption)))) | (refine List.Mem.tail _ ?_; walk_at "MY memO")))
local macro_rules | `(tactic| walk_at "subscriptTail") => `(tactic| (k_here; (with_reducible show wpAny _ _ (subscriptTail _ _ (Value.ref _) (Value.int _ _)) _ _ _); k_dflt (refine' mat_row ?N ?H ?sub ?h0 ?h1 ?hN ?_; (case H => assumption); (case N => k_asm); (case sub => (intro q hq; walk_at "MY memO")); (case h0 => omega); (case h1 => omega); (case hN => omega); k_whole); (try dsimp only)))
local macro_rules | `(tactic| walk_at "getItem ref") => `(tactic| (k_here; (with_reducible show wpAny _ _ (getItem (Value.ref _) (Value.int _ _)) _ _ _); k_dflt (refine' mat_getRow ?N ?H ?sub ?h0 ?h1 ?hN ?_; (case H => assumption); (case N => k_asm); (case sub => (intro q hq; walk_at "MY memO")); (case h0 => omega); (case h1 => omega); (case hN => omega); k_whole); (try dsimp only)))
local macro_rules | `(tactic| walk_at "subscriptTail") => `(tactic| (k_here; (with_reducible show wpAny _ _ (subscriptTail _ _ (Value.ref (List.getD _ _ _)) (Value.int _ _)) _ _ _); k_dflt (refine' mat_cell ?N ?H ?sub ?hi ?h0 ?h1 ?hN ?_; (case H => assumption); (case N => k_asm); (case sub => (intro q hq; walk_at "MY memO")); (case hi => omega); (case h0 => omega); (case h1 => omega); (case hN => omega); k_whole); intro t'; (try dsimp only)))
local macro_rules | `(tactic| walk_at "setItem ref int") => `(tactic| (k_here; (with_reducible show wpAny _ _ (setItem (Value.ref (List.getD _ _ _)) (Value.int _ _) (Value.int _ _)) _ _ _); k_dflt (refine' mat_set ?ts ?F ?N ?S ?H ?hpre ?ha ?hi ?h0 ?h1 ?hN ?_; (case H => assumption); (case ts => assumption); (case F => k_asm); (case N => k_asm); (case S => walk_at "MY split"); (case hpre => assumption); (case ha => assumption); (case hi => omega); (case h0 => omega); (case h1 => omega); (case hN => omega); k_whole); intro h' own' F' N' H' hm'; (try simp only [List.cons_append, List.nil_append] at N'); (try dsimp only)))
local macro_rules | `(tactic| walk_at "MY look") => `(tactic| (first | rfl | assumption | (refine Eq.trans (if_neg (by decide)) ?_; walk_at "MY look")))
local macro_rules | `(tactic| walk_at "eval Name") => `(tactic| (k_here; k_dflt (refine' nameX_L ?F ?v ?_ ?a ?b; (case F => k_asm); (case a => rfl); (case b => rfl); (case v => ((try dsimp only); walk_at "MY look")); k_whole)))
local macro_rules | `(tactic| walk_at "eval Call Attribute") => `(tactic| (k_here; k_dflt (refine' MethodCallL ?hl ?_; (case hl => assumption))))
local macro_rules | `(tactic| walk_at "call ref") => `(tactic| (k_here; (with_reducible show wpAny _ _ (call (Value.ref 184) _) _ _ _); k_dflt (refine wpAny_call ?_; refine' d_cost_s ?B ?F ?X ?T ?hf ?hke ?ts ?N ?S ?hx ?hdx ?off ?offo ?C ?hdp ?hun ?_; (case B => k_asm); (case F => k_asm); (case X => k_asm); (case T => k_asm); (case hf => first | exact rfl | assumption); (case hke => first | exact rfl | assumption); (case ts => first | assumption | exact TS1.ts (by assumption)); (case N => k_asm); (case S => walk_at "MY split"); (case hx => k_mem); (case hdx => k_mem); (case off => walk_at "MY off"); (case offo => first | assumption | exact off_both (by assumption) (MatL.off (by assumption))); (case C => assumption); (case hdp => (dsimp only [Arnd, Around.deeper] at *; omega)); (case hun => (dsimp only [Arnd, Around.deeper] at *; omega)); k_whole); intro h' tk' t' Tl' F' N' ts'; (try simp only [List.cons_append, List.nil_append] at N'); (try dsimp only)))
section
variable {w : World} {p : Program} {loose : List Str} {mean : ExcName → Option Value} {mg mb : Str → Option Value} {dp un : Nat} {gd : Option (List Code)} {env : Env} {outer : List Env} {A₀ : Around} {base h₀ : Heap} {L : Addr} {m : Str → Option Value} {news : List (Addr × Obj)} {s : Shared} {R : Result → Shared → Prop}
variable {x dx : Addr} {c0 c1 c2 : Int} {lo ex : Bool} {k1 k2 k3 k4 k5 k6 v1 v2 v3 v6 : Tok} {n : Nat} {own Tl : List (Addr × Obj)} {lc lw M : Addr} {oc : Obj} {rs : List Addr} {a mat : List (Addr × Obj)} {N2 n1 : Nat} {V : Nat → Nat → Int} {U1 : Str} {tu1 tl1 : Tok} {Q : Flow → Shared → Prop} {E : Value → Shared → Prop} {q1 q2 q3 q4 q5 q6 q7 q8 q9 q10 q11 q12 q13 q14 q15 q16 q17 q18 q19 q20 q21 q22 q23 q24 q25 q26 q27 q28 q29 q30 q31 q32 q33 : Pos}
theorem col_loop (B : Below (Arnd dp un gd env outer) base (env :: outer) h₀) (X : (hd.heap_39 w.params).In h₀) (T : Top p loose mean mg mb h₀) (C : CodeHd h₀ 176 172) (hqq29 : q29.endLine = q30.line) (F : Fr h₀ L s.heap m) (N : News h₀ L s.heap ((lc, oc) :: (x, instObj 192 dx) :: (dx, (dictOf (edD w.params c0 c1 c2 lo ex k1 k2 k3 k4 k5 k6 v1 v2 v3 v6) n)) :: (Tl ++ (a ++ mat)))) (ts : TS Tl) (H : MatL lw M rs mat (n1 + 1) (N2 + 1) V)
  (hself : m (Str.ofString "self") = some (.ref x)) (hs1 : m (Str.ofString "s1") = some (.str U1 tu1)) (hdm : m (Str.ofString "d_mat") = some (.ref M)) (hl1 : m (Str.ofString "len_s1") = some (.int (n1 : Int) tl1)) (hU : U1.length = n1 + 1) (hn1 : n1 ≤ 8) (hN2 : N2 ≤ 8)
  (hpre : ∀ p ∈ [(lc, oc), (x, instObj 192 dx), (dx, (dictOf (edD w.params c0 c1 c2 lo ex k1 k2 k3 k4 k5 k6 v1 v2 v3 v6) n))], ∀ r ∈ rs, p.1 ≠ r) (ha : ∀ p ∈ a, ∀ r ∈ rs, p.1 ≠ r) (offa : ∀ p ∈ a, p.1 ≠ 172) (offl : lc ≠ 172) (offx : x ≠ 172) (offd : dx ≠ 172) (hdp : dp + 40 < recursionLimit) (hun : un + 512 < cLine) (hV : V 0 0 = 0)
  (hQ : ∀ h' tk' vi Tl' mat' V', TS Tl' → Fr h₀ L h' (fun y => if y = Str.ofString "i" then vi else m y) → News h₀ L h' ((lc, oc) :: (x, instObj 192 dx) :: (dx, (dictOf (edD w.params c0 c1 c2 lo ex k1 k2 k3 k4 k5 k6 v1 v2 v3 v6) n)) :: (Tl' ++ (a ++ mat'))) → MatL lw M rs mat' (n1 + 1) (N2 + 1) V' → V' 0 0 = 0 → (∀ i, i < n1 → V' (i + 1) 0 = V' i 0 + fst c0 c1 c2 U1 (i + 1)) → (∀ p q, q ≠ 0 → V' p q = V p q) → Q .next { s with heap := h', toks := tk' }) :
  wpAny (model PySem.Challenge.rw_bs0041_01.row.prog w) ((Arnd dp un gd env outer).deeper (callEnv L)) (exec (.For (.Name (Str.ofString "i") q1) (.Call (.Name (Str.ofString "range") q2) [(.Constant (.int 1) 0 q3), (.BinOp (.Name (Str.ofString "len_s1") q4) .Add (.Constant (.int 1) 0 q5) q6)] [] q7) [(.Assign [(.Subscript (.Subscript (.Name (Str.ofString "d_mat") q8) (.Name (Str.ofString "i") q9) q10) (.Constant (.int 0) 0 q11) q12)] (.BinOp (.Subscript (.Subscript (.Name (Str.ofString "d_mat") q13) (.BinOp (.Name (Str.ofString "i") q14) .Sub (.Constant (.int 1) 0 q15) q16) q17) (.Constant (.int 0) 0 q18) q19) .Add (.Call (.Attribute (.Name (Str.ofString "self") q20) (Str.ofString "d_cost") q29) [(.Subscript (.Name (Str.ofString "s1") q21) (.BinOp (.Name (Str.ofString "i") q22) .Sub (.Constant (.int 1) 0 q23) q24) q25), (.Subscript (.Name (Str.ofString "s1") q26) (.Name (Str.ofString "i") q27) q28)] [] q30) q31) q32)] [] q33) (callEnv L)) Q E s := by
  revert X; k_fill; intro X
  refine wpAny_For ?_
  k_steps
  with_reducible rename Fr _ _ _ _ => FL
  with_reducible rename News _ _ _ _ => NL
  with_reducible rename IsRange _ _ _ _ _ _ _ _ => hrg
  refine range_mat (L := L) (n := n1) (pre := [(lc, oc), (x, instObj 192 dx), (dx, (dictOf (edD w.params c0 c1 c2 lo ex k1 k2 k3 k4 k5 k6 v1 v2 v3 v6) n))]) (a := a) (mat := mat) rfl rfl rfl rfl ts FL NL hrg (by omega) (by omega) (by omega) (fun i m₁ mat₁ => ∃ vi V₁, m₁ = (fun y => if y = Str.ofString "i" then vi else m y) ∧ MatL lw M rs mat₁ (n1 + 1) (N2 + 1) V₁ ∧ V₁ 0 0 = 0 ∧ (∀ k, k < i → V₁ (k + 1) 0 = V₁ k 0 + fst c0 c1 c2 U1 (k + 1)) ∧ (∀ p q, q ≠ 0 → V₁ p q = V p q)) ?h0 ?step ?done
  case h0 => exact ⟨m (Str.ofString "i"), V, by funext y; split <;> simp_all, H, hV, fun k hk => absurd hk (Nat.not_lt_zero _), fun _ _ _ => rfl⟩
  case done =>
    rintro h' tk m' Tl' mat' ts' F' N' hm' ⟨vi, V₁, rfl, H', h00, hk, hq⟩
    exact hQ h' tk vi Tl' mat' V₁ ts' F' N' H' h00 hk hq
  case step =>
    rintro i m₁ tv mat₁ Tl₁ h₁ tk₁ its E' hi ⟨vi, V₁, rfl, H₁, h00, hk, hq⟩ ts₁ hits hitm hmm F₁ N₁
    have hita : ∀ p ∈ its ++ a, p.1 ≠ 172 := off_both hits offa
    have hitr : ∀ p ∈ its ++ a, ∀ r ∈ rs, p.1 ≠ r := fun p hp r hr => (List.mem_append.mp hp).elim (fun hp => by
      obtain ⟨k, hk⟩ := List.mem_iff_getElem?.mp hr
      obtain ⟨o, ho, _⟩ := H.rows k r hk
      exact hitm p hp _ ho) fun hp => ha p hp r hr
    clear FL NL hrg H
    simp only [List.cons_append, List.nil_append] at N₁
    k_steps
    with_reducible rename Fr h₀ _ _ _ => FF
    with_reducible rename News h₀ _ _ _ => NN
    with_reducible rename MatL _ _ _ _ _ _ _ => HH
    with_reducible rename List.map _ _ = List.map _ _ => hmap
    have e1 : ((1 : Int) + (i : Int)).toNat = i + 1 := by omega
    have e2 : ((1 : Int) + (i : Int) - 1).toNat = i := by omega
    have e3 : fst c0 c1 c2 U1 (i + 1) = stv c0 c1 c2 (Txt.item U1 (1 + (i : Int) - 1)) (Txt.item U1 (1 + (i : Int))) := by
      unfold fst
      rw [show ((i + 1 : Nat) : Int) = 1 + (i : Int) by omega]
    refine .next (by assumption) FF NN (hmap.trans hmm) ⟨some (.int (1 + (i : Int)) tv), _, ?_, HH, ?_, ?_, ?_⟩
    · funext y; dsimp only; split <;> rfl
    · unfold upd2; rw [e1, if_neg (by omega)]; exact h00
    · intro k hk'
      rw [e1, e2, ← e3]
      unfold upd2
      by_cases e : k = i
      · subst e
        rw [if_pos ⟨rfl, rfl⟩, if_neg (by omega)]
        rfl
      · rw [if_neg (by omega), if_neg (by omega)]
        exact hk k (by omega)
    · intro p q hq'
      unfold upd2
      rw [if_neg (fun z => hq' (z.2.trans rfl))]
      exact hq p q hq'
end
end Mine
-- EdO
namespace Mine
local macro_rules | `(tactic| walk_at "MY pad") => `(tactic| skip)
theorem fresh_EdO : True := by (w_top off; exact trivial)
local macro_rules | `(tactic| k_room) => `(tactic| ktr_room)
local macro_rules | `(tactic| walk_at "MY rest") => `(tactic| (
  refine' kp_rest ?k1 ?k2 ?k3 ?k4 ?k5 ?kA ?kF ?kK ?k6 ?k7 ?k8 ?kV ?kP ?kG ?kB ?_ ?c2 ?c3 ?c4 ?c5
  (case kA => exact rfl)
  (case kF => first | exact rfl | assumption)
  (case kK => first | exact rfl | assumption)
  (case k1 => k_asm)
  (case k2 => k_asm)
  (case k3 => k_asm)
  (case k4 => k_asm)
  (case k5 => k_asm)
  (case k6 => k_is)
  (case k7 => k_is)
  (case k8 => k_room)
  (case kV => kl_lit)
  (case kP => exact rfl)
  (case kG => exact fun _ => rfl)
  (case kB => exact fun _ => locs rfl)
  (case c5 => decide)
  (case c2 => exact rfl)
  (case c3 => exact rfl)
  (case c4 => exact rfl)
  k_whole
  intro D' g' L' h' l1 FG' F' N' B' X' T'
  (try k_lt l1); (try dsimp only); (try k_lift B'); (try k_fold)))
local macro_rules | `(tactic| walk_at "MY plain") => `(tactic| (
  refine' code_def ?k1 ?k2 ?k3 ?k4 ?k5 ?kA ?kF ?kK ?k6 ?k7 ?k8 ?k9 ?kB ?_ ?c2 ?c3 ?c4 ?c5
  (case kA => exact rfl)
  (case kF => first | exact rfl | assumption)
  (case kK => first | exact rfl | assumption)
  (case k1 => k_asm)
  (case k2 => k_asm)
  (case k3 => k_asm)
  (case k4 => k_asm)
  (case k5 => k_asm)
  (case k6 => k_is)
  (case k7 => k_is)
  (case k8 => k_room)
  (case k9 => first | exact BindsTo.of_eq rfl | exact binds_K (by k_in) rfl (by k_is) rfl rfl rfl)
  (case c5 => decide)
  (case kB => exact locs rfl)
  (case c2 => exact rfl)
  (case c3 => exact rfl)
  (case c4 => exact rfl)
  k_whole
  intro g' L' h' FG' F' N' B' X' T'
  (try dsimp only); (try k_lift B'); (try k_fold)))
local macro_rules | `(tactic| walk_at "getAttr ref") => `(tactic| (k_here; (with_reducible show wpAny _ _ (getAttr (Value.ref _) (PySem.Str.ofString "_ident") _) _ _ _); k_dflt (refine' get_sm ?k1 ?k2 ?k3 ?k4 ?k5 ?k6 ?k7 ?k8 ?k9 ?k10 ?k11 ?k12 ?_; (case k3 => k_inst); (case k1 => k_asm); (case k2 => k_asm); (case k6 => k_is); (case k4 => k_is); (case k5 => k_is); (case k7 => k_is); (case k8 => k_is); (case k9 => decide +kernel); (case k10 => k_get); (case k11 => k_is); (case k12 => k_handed); k_whole)))
local macro_rules | `(tactic| walk_at "eval Call Attribute") => `(tactic| (k_here; (with_reducible show wpAny _ _ (eval (Expr.Call (Expr.Attribute (Expr.Name _ _) _ _) [Expr.Starred _ _] [] _) _) _ _ _); refine starMethod ?_))
local macro_rules | `(tactic| walk_at "MY restC") => `(tactic| (
  refine' kpc_rest ?k1 ?k2 ?k3 ?k4 ?k5 ?kA ?kF ?kK ?k6 ?k7 ?k8 ?kV ?kP ?kG ?kB ?kD ?_ ?c2 ?c3 ?c4
  (case kA => exact rfl)
  (case kF => first | exact rfl | assumption)
  (case kK => first | exact rfl | assumption)
  (case k1 => k_asm)
  (case k2 => k_asm)
  (case k3 => k_asm)
  (case k4 => k_asm)
  (case k5 => k_asm)
  (case k6 => k_is)
  (case k7 => k_is)
  (case k8 => k_room)
  (case kV => kl_lit)
  (case kP => exact rfl)
  (case kG => exact fun _ => rfl)
  (case kB => exact fun _ => rfl)
  (case kD => decide +kernel)
  (case c2 => exact rfl)
  (case c3 => exact rfl)
  (case c4 => exact rfl)
  k_whole
  intro D' g' L' h' tk' cells' l1 l2 FG' F' N' Y' B' X' T'
  (try k_lt l1); (try k_lt2 l2); k_cells Y'; (try simp only [List.cons_append, List.nil_append] at N'); (try dsimp only); (try k_lift B'); (try k_fold)))
local macro_rules | `(tactic| walk_at "call ref") => `(tactic| (k_here; (with_reducible show wpAny _ _ (call (Value.ref 95) _) _ _ _); k_dflt (refine wpAny_call ?_; refine' ident_c ?k1 ?k2 ?k3 ?k4 ?k5 ?k6 ?k7 ?k8 ?k9 ?_; (case k1 => k_asm); (case k2 => k_asm); (case k3 => k_asm); (case k4 => k_asm); (case k5 => k_asm); (case k6 => first | exact rfl | assumption); (case k7 => first | exact rfl | assumption); (case k8 => (dsimp only [Arnd, Around.deeper] at *; omega)); (case k9 => (dsimp only [Arnd, Around.deeper] at *; omega)); k_whole); intro h' tk' F' N'; (try dsimp only); (try k_sweep)))
local macro_rules | `(tactic| walk_at "MY memT") => `(tactic| (first | (refine List.mem_append_left _ ?_; assumption) | (refine List.Mem.tail _ ?_; walk_at "MY memT")))
local macro_rules | `(tactic| walk_at "MY split") => `(tactic| (first | exact Split.base | (refine' Split.cons ?sp; (case sp => walk_at "MY split"))))
local macro_rules | `(tactic| walk_at "MY off") => `(tactic| ((try dsimp only); simp only [List.forall_mem_cons, List.not_mem_nil, false_implies, implies_true, and_true]; (repeat' (refine And.intro ?_ ?_)); all_goals (first | assumption | (refine neN ?_; (try dsimp only); omega))))
local macro_rules | `(tactic| walk_at "eval Lambda") => `(tactic| (k_here; k_dflt (refine' kla_eval ?d0 ?_; (case d0 => exact rfl)); (first
  | (k_dflt (refine' lam_S1 ?ts ?F ?N ?hg ?T ?C ?off ?offo ?hq ?e1 ?e2 ?hcl ?_; (case ts => assumption); (case F => k_asm); (case N => k_asm); (case hg => walk_at "MY split"); (case T => k_asm); (case C => assumption); (case off => walk_at "MY off"); (case offo => assumption); (case hq => first | rfl | with_unfolding_all rfl); (case e1 => rfl); (case e2 => rfl); (case hcl => exact rfl); k_whole); intro f' c' oc' ct' h' tk' Tl' F' N' ts' hm' hc' l1'; (try simp only [List.cons_append, List.nil_append] at N'))
  | (k_dflt (refine' lam_S2 ?ts ?F ?N ?hg ?T ?C ?off ?offo ?hq ?e1 ?e2 ?hcl ?_; (case ts => assumption); (case F => k_asm); (case N => k_asm); (case hg => walk_at "MY split"); (case T => k_asm); (case C => assumption); (case off => walk_at "MY off"); (case offo => assumption); (case hq => first | rfl | with_unfolding_all rfl); (case e1 => rfl); (case e2 => rfl); (case hcl => exact rfl); k_whole); intro f' c' oc' ct' h' tk' Tl' F' N' ts' hm' hc' l1'; (try simp only [List.cons_append, List.nil_append] at N')))))
local macro_rules | `(tactic| walk_at "call type:map") => `(tactic| (k_here; k_dflt (refine' map_K ?F ?N ?m ?c ?d ?_; (case F => k_asm); (case N => k_asm); (case m => k_mem); (case c => exact rfl); (case d => exact rfl); k_whole); intro h' mp' it' F' N' hX' hlt' hL' h0'; (try dsimp only)))
local macro_rules | `(tactic| walk_at "call builtin:any") => `(tactic| (k_here; k_dflt (refine' any_lam1 ?hh ?room ?F ?N ?X ?T ?M ?lt ?L ?h0 ?ho ?hoc ?hc ?hcs ?hcd ?hx ?hdx ?_; (case hh => exact rfl); (case room => (dsimp only [Arnd, Around.deeper] at *; omega)); (case F => k_asm); (case N => k_asm); (case X => k_asm); (case T => k_asm); (case M => assumption); (case lt => assumption); (case L => assumption); (case h0 => assumption); (case ho => k_mem); (case hoc => walk_at "MY memT"); (case hc => assumption); (case hcs => k_mem); (case hcd => assumption); (case hx => k_mem); (case hdx => k_mem); k_whole); intro h' tk' F' N'; (try dsimp only)))
local macro_rules | `(tactic| walk_at "call builtin:all") => `(tactic| (k_here; k_dflt (refine' all_lam2 ?hh ?room ?F ?N ?X ?T ?M ?lt ?L ?h0 ?ho ?hoc ?hc ?hcs ?hcd ?_; (case hh => exact rfl); (case room => (dsimp only [Arnd, Around.deeper] at *; omega)); (case F => k_asm); (case N => k_asm); (case X => k_asm); (case T => k_asm); (case M => assumption); (case lt => assumption); (case L => assumption); (case h0 => assumption); (case ho => k_mem); (case hoc => walk_at "MY memT"); (case hc => assumption); (case hcs => k_mem); (case hcd => assumption); k_whole); intro h' tk' F' N'; (try dsimp only)))
local macro_rules | `(tactic| walk_at "MY sub") => `(tactic| (first | assumption | (refine List.Mem.tail _ ?_; walk_at "MY sub")))
local macro_rules | `(tactic| walk_at "MY fin") => `(tactic| (with_reducible rename Fr h₀ _ _ _ => kF; with_reducible rename News h₀ _ _ _ => kN))
local macro_rules | `(tactic| walk_at "callWith ref") => `(tactic| (k_here; (with_reducible show wpAny _ _ (callWith _ (Value.ref _) _ (backTo _ (starEach [Expr.Starred _ _] _)) []) _ _ _); k_dflt (refine' callWith_SM ?k1 ?k2 ?k3 ?k4 ?_; (case k1 => k_asm); (case k2 => k_asm); (case k3 => k_mem); (case k4 => k_is); k_whole)))
local macro_rules | `(tactic| walk_at "MY plainC") => `(tactic| (refine' code_defC ?k1 ?k2 ?k3 ?k4 ?k5 ?kA ?kF ?kK ?k6 ?k7 ?k8 ?k9 ?kB ?kD ?_ ?c2 ?c3 ?c4; (case kA => exact rfl); (case kF => first | exact rfl | assumption); (case kK => first | exact rfl | assumption); (case k1 => k_asm); (case k2 => k_asm); (case k3 => k_asm); (case k4 => k_asm); (case k5 => k_asm); (case k6 => k_is); (case k7 => k_is); (case k8 => k_room); (case k9 => first | exact BindsTo.of_eq rfl | exact binds_K (by k_in) rfl (by k_is) rfl rfl rfl); (case kB => exact rfl); (case kD => decide +kernel); (case c2 => exact rfl); (case c3 => exact rfl); (case c4 => exact rfl); k_whole; intro g' L' h' tk' cells' FG' F' N' Y' B' X' T' l1; (try k_lt l1); k_cells Y'; (try simp only [List.cons_append, List.nil_append] at N'); (try dsimp only); (try k_lift B'); (try k_fold)))
local macro_rules | `(tactic| walk_at "MY memO") => `(tactic| (first | exact List.mem_append.mpr (.inr (List.mem_append.mpr (.inr (by assumption)))) | (refine List.Mem.tail _ ?_; walk_at "MY memO")))
local macro_rules | `(tactic| walk_at "subscriptTail") => `(tactic| (k_here; (with_reducible show wpAny _ _ (subscriptTail _ _ (Value.ref _) (Value.int _ _)) _ _ _); k_dflt (refine' mat_row ?N ?H ?sub ?h0 ?h1 ?hN ?_; (case H => assumption); (case N => k_asm); (case sub => (intro q hq; walk_at "MY memO")); (case h0 => omega); (case h1 => omega); (case hN => omega); k_whole); (try dsimp only)))
local macro_rules | `(tactic| walk_at "getItem ref") => `(tactic| (k_here; (with_reducible show wpAny _ _ (getItem (Value.ref _) (Value.int _ _)) _ _ _); k_dflt (refine' mat_getRow ?N ?H ?sub ?h0 ?h1 ?hN ?_; (case H => assumption); (case N => k_asm); (case sub => (intro q hq; walk_at "MY memO")); (case h0 => omega); (case h1 => omega); (case hN => omega); k_whole); (try dsimp only)))
local macro_rules | `(tactic| walk_at "subscriptTail") => `(tactic| (k_here; (with_reducible show wpAny _ _ (subscriptTail _ _ (Value.ref (List.getD _ _ _)) (Value.int _ _)) _ _ _); k_dflt (refine' mat_cell ?N ?H ?sub ?hi ?h0 ?h1 ?hN ?_; (case H => assumption); (case N => k_asm); (case sub => (intro q hq; walk_at "MY memO")); (case hi => omega); (case h0 => omega); (case h1 => omega); (case hN => omega); k_whole); intro t'; (try dsimp only)))
local macro_rules | `(tactic| walk_at "setItem ref int") => `(tactic| (k_here; (with_reducible show wpAny _ _ (setItem (Value.ref (List.getD _ _ _)) (Value.int _ _) (Value.int _ _)) _ _ _); k_dflt (refine' mat_set ?ts ?F ?N ?S ?H ?hpre ?ha ?hi ?h0 ?h1 ?hN ?_; (case H => assumption); (case ts => assumption); (case F => k_asm); (case N => k_asm); (case S => walk_at "MY split"); (case hpre => assumption); (case ha => assumption); (case hi => omega); (case h0 => omega); (case h1 => omega); (case hN => omega); k_whole); intro h' own' F' N' H' hm'; (try simp only [List.cons_append, List.nil_append] at N'); (try dsimp only)))
local macro_rules | `(tactic| walk_at "MY look") => `(tactic| (first | rfl | assumption | (refine Eq.trans (if_neg (by decide)) ?_; walk_at "MY look")))
local macro_rules | `(tactic| walk_at "eval Name") => `(tactic| (k_here; k_dflt (refine' nameX_L ?F ?v ?_ ?a ?b; (case F => k_asm); (case a => rfl); (case b => rfl); (case v => ((try dsimp only); walk_at "MY look")); k_whole)))
local macro_rules | `(tactic| walk_at "eval Call Attribute") => `(tactic| (k_here; k_dflt (refine' MethodCallL ?hl ?_; (case hl => assumption))))
local macro_rules | `(tactic| walk_at "call ref") => `(tactic| (k_here; (with_reducible show wpAny _ _ (call (Value.ref 184) _) _ _ _); k_dflt (refine wpAny_call ?_; refine' d_cost_s ?B ?F ?X ?T ?hf ?hke ?ts ?N ?S ?hx ?hdx ?off ?offo ?C ?hdp ?hun ?_; (case B => k_asm); (case F => k_asm); (case X => k_asm); (case T => k_asm); (case hf => first | exact rfl | assumption); (case hke => first | exact rfl | assumption); (case ts => first | assumption | exact TS1.ts (by assumption)); (case N => k_asm); (case S => walk_at "MY split"); (case hx => k_mem); (case hdx => k_mem); (case off => walk_at "MY off"); (case offo => first | assumption | exact off_both (by assumption) (MatL.off (by assumption))); (case C => assumption); (case hdp => (dsimp only [Arnd, Around.deeper] at *; omega)); (case hun => (dsimp only [Arnd, Around.deeper] at *; omega)); k_whole); intro h' tk' t' Tl' F' N' ts'; (try simp only [List.cons_append, List.nil_append] at N'); (try dsimp only)))
section
variable {w : World} {p : Program} {loose : List Str} {mean : ExcName → Option Value} {mg mb : Str → Option Value} {dp un : Nat} {gd : Option (List Code)} {env : Env} {outer : List Env} {A₀ : Around} {base h₀ : Heap} {L : Addr} {m : Str → Option Value} {news : List (Addr × Obj)} {s : Shared} {R : Result → Shared → Prop}
variable {x dx : Addr} {c0 c1 c2 : Int} {lo ex : Bool} {k1 k2 k3 k4 k5 k6 v1 v2 v3 v6 : Tok} {n : Nat} {own Tl : List (Addr × Obj)} {lw M : Addr} {oc : Obj} {rs : List Addr} {a mat : List (Addr × Obj)} {N2 n1 : Nat} {V : Nat → Nat → Int} {U2 : Str} {tu2 tl2 : Tok} {Q : Flow → Shared → Prop} {E : Value → Shared → Prop} {q1 q2 q3 q4 q5 q6 q7 q8 q9 q10 q11 q12 q13 q14 q15 q16 q17 q18 q19 q20 q21 q22 q23 q24 q25 q26 q27 q28 q29 q30 q31 q32 q33 : Pos}
theorem row_loop (B : Below (Arnd dp un gd env outer) base (env :: outer) h₀) (X : (hd.heap_39 w.params).In h₀) (T : Top p loose mean mg mb h₀) (C : CodeHd h₀ 176 172) (hqq29 : q29.endLine = q30.line) (F : Fr h₀ L s.heap m) (N : News h₀ L s.heap ((L + 1, oc) :: (x, instObj 192 dx) :: (dx, (dictOf (edD w.params c0 c1 c2 lo ex k1 k2 k3 k4 k5 k6 v1 v2 v3 v6) n)) :: (Tl ++ (a ++ mat)))) (ts : TS Tl) (H : MatL lw M rs mat (n1 + 1) (N2 + 1) V)
  (hself : m (Str.ofString "self") = some (.ref x)) (hs2 : m (Str.ofString "s2") = some (.str U2 tu2)) (hdm : m (Str.ofString "d_mat") = some (.ref M)) (hoc : oc.data = .cell (some (.int (N2 : Int) tl2))) (hU : U2.length = N2 + 1) (hn1 : n1 ≤ 8) (hN2 : N2 ≤ 8)
  (hpre : ∀ p ∈ [(L + 1, oc), (x, instObj 192 dx), (dx, (dictOf (edD w.params c0 c1 c2 lo ex k1 k2 k3 k4 k5 k6 v1 v2 v3 v6) n))], ∀ r ∈ rs, p.1 ≠ r) (ha : ∀ p ∈ a, ∀ r ∈ rs, p.1 ≠ r) (offa : ∀ p ∈ a, p.1 ≠ 172) (offl : L + 1 ≠ 172) (offx : x ≠ 172) (offd : dx ≠ 172) (hdp : dp + 40 < recursionLimit) (hun : un + 512 < cLine)
  (hQ : ∀ h' tk' vi Tl' mat' V', TS Tl' → Fr h₀ L h' (fun y => if y = Str.ofString "j" then vi else m y) → News h₀ L h' ((L + 1, oc) :: (x, instObj 192 dx) :: (dx, (dictOf (edD w.params c0 c1 c2 lo ex k1 k2 k3 k4 k5 k6 v1 v2 v3 v6) n)) :: (Tl' ++ (a ++ mat'))) → MatL lw M rs mat' (n1 + 1) (N2 + 1) V' → (∀ j, j < N2 → V' 0 (j + 1) = V' 0 j + fst c0 c1 c2 U2 (j + 1)) → (∀ p q, p ≠ 0 ∨ q = 0 → V' p q = V p q) → Q .next { s with heap := h', toks := tk' }) :
  wpAny (model PySem.Challenge.rw_bs0041_01.row.prog w) ((Arnd dp un gd env outer).deeper (callEnv L)) (exec (.For (.Name (Str.ofString "j") q1) (.Call (.Name (Str.ofString "range") q2) [(.Constant (.int 1) 0 q3), (.BinOp (.Name (Str.ofString "len_s2") q4) .Add (.Constant (.int 1) 0 q5) q6)] [] q7) [(.Assign [(.Subscript (.Subscript (.Name (Str.ofString "d_mat") q8) (.Constant (.int 0) 0 q9) q10) (.Name (Str.ofString "j") q11) q12)] (.BinOp (.Subscript (.Subscript (.Name (Str.ofString "d_mat") q13) (.Constant (.int 0) 0 q14) q15) (.BinOp (.Name (Str.ofString "j") q16) .Sub (.Constant (.int 1) 0 q17) q18) q19) .Add (.Call (.Attribute (.Name (Str.ofString "self") q20) (Str.ofString "d_cost") q29) [(.Subscript (.Name (Str.ofString "s2") q21) (.BinOp (.Name (Str.ofString "j") q22) .Sub (.Constant (.int 1) 0 q23) q24) q25), (.Subscript (.Name (Str.ofString "s2") q26) (.Name (Str.ofString "j") q27) q28)] [] q30) q31) q32)] [] q33) (callEnv L)) Q E s := by
  revert X; k_fill; intro X
  refine wpAny_For ?_
  k_steps
  with_reducible rename Fr _ _ _ _ => FL
  with_reducible rename News _ _ _ _ => NL
  with_reducible rename IsRange _ _ _ _ _ _ _ _ => hrg
  refine range_mat (L := L) (n := N2) (pre := [(L + 1, oc), (x, instObj 192 dx), (dx, (dictOf (edD w.params c0 c1 c2 lo ex k1 k2 k3 k4 k5 k6 v1 v2 v3 v6) n))]) (a := a) (mat := mat) rfl rfl rfl rfl ts FL NL hrg (by omega) (by omega) (by omega) (fun i m₁ mat₁ => ∃ vi V₁, m₁ = (fun y => if y = Str.ofString "j" then vi else m y) ∧ MatL lw M rs mat₁ (n1 + 1) (N2 + 1) V₁ ∧ (∀ k, k < i → V₁ 0 (k + 1) = V₁ 0 k + fst c0 c1 c2 U2 (k + 1)) ∧ (∀ p q, p ≠ 0 ∨ q = 0 → V₁ p q = V p q)) ?h0 ?step ?done
  case h0 => exact ⟨m (Str.ofString "j"), V, by funext y; split <;> simp_all, H, fun k hk => absurd hk (Nat.not_lt_zero _), fun _ _ _ => rfl⟩
  case done =>
    rintro h' tk m' Tl' mat' ts' F' N' hm' ⟨vi, V₁, rfl, H', hk, hq⟩
    exact hQ h' tk vi Tl' mat' V₁ ts' F' N' H' hk hq
  case step =>
    rintro i m₁ tv mat₁ Tl₁ h₁ tk₁ its E' hi ⟨vi, V₁, rfl, H₁, hk, hq⟩ ts₁ hits hitm hmm F₁ N₁
    have hita : ∀ p ∈ its ++ a, p.1 ≠ 172 := off_both hits offa
    have hitr : ∀ p ∈ its ++ a, ∀ r ∈ rs, p.1 ≠ r := fun p hp r hr => (List.mem_append.mp hp).elim (fun hp => by
      obtain ⟨k, hk⟩ := List.mem_iff_getElem?.mp hr
      obtain ⟨o, ho, _⟩ := H.rows k r hk
      exact hitm p hp _ ho) fun hp => ha p hp r hr
    clear FL NL hrg H
    simp only [List.cons_append, List.nil_append] at N₁
    k_steps
    with_reducible rename Fr h₀ _ _ _ => FF
    with_reducible rename News h₀ _ _ _ => NN
    with_reducible rename MatL _ _ _ _ _ _ _ => HH
    with_reducible rename List.map _ _ = List.map _ _ => hmap
    have e1 : ((1 : Int) + (i : Int)).toNat = i + 1 := by omega
    have e2 : ((1 : Int) + (i : Int) - 1).toNat = i := by omega
    have e3 : fst c0 c1 c2 U2 (i + 1) = stv c0 c1 c2 (Txt.item U2 (1 + (i : Int) - 1)) (Txt.item U2 (1 + (i : Int))) := by
      unfold fst
      rw [show ((i + 1 : Nat) : Int) = 1 + (i : Int) by omega]
    refine .next (by assumption) FF NN (hmap.trans hmm) ⟨some (.int (1 + (i : Int)) tv), _, ?_, HH, ?_, ?_⟩
    · funext y; dsimp only; split <;> rfl
    · intro k hk'
      rw [e1, e2, ← e3]
      unfold upd2
      by_cases e : k = i
      · subst e
        rw [if_pos ⟨rfl, rfl⟩, if_neg (by omega)]
        rfl
      · rw [if_neg (by omega), if_neg (by omega)]
        exact hk k (by omega)
    · intro p q hq'
      unfold upd2
      rw [if_neg (fun z => by have z1 := z.1; have z2 := z.2; rw [e1] at z2; rcases hq' with h | h; exact h (z1.trans rfl); omega)]
      exact hq p q hq'
end
end Mine
-- EdP
namespace Mine
theorem wpAny_loadIfAlive {M : Model} {A : Around} {E : Value → Shared → Prop} {s : Shared} {a : Addr} {Q : Option Obj → Shared → Prop} (h : Q (s.heap.get? a) s) : wpAny M A (loadIfAlive a) Q E s := fun Γ p _ => by
  show Sem.wp M Γ (.loadIfAlive a .pure) _ _ p s
  rw [Sem.wp_loadIfAlive]
  exact h
theorem sit_at {h h' : Heap} {it : Addr} {T : String} {x : Str} {t : Tok} {i : Nat} (S : h.IsStrIter it T x t i) (e : ∀ o, h.get? it = some o → h'.get? it = some o) : h'.IsStrIter it T x t i := let ⟨o, ho, r⟩ := S; ⟨o, e _ ho, r⟩
theorem sit_sb {h h' : Heap} {it b : Addr} {T : String} {x : Str} {t : Tok} {i : Nat} (S : h.IsStrIter it T x t i) (hs : Heap.SameBut b h h') (hne : it ≠ b) : h'.IsStrIter it T x t i := sit_at S fun o e => hs.extBut _ _ hne e
abbrev zipO (f0 : Value) (b : Bool) (TI TO : Addr) : Obj := { cls := .type "zip", dict := none, data := .fields #[f0, .bool b, .bool false, .ref TI, .ref TO], slots := #[] }
structure Ap5 (z TI TO i1 i2 : Addr) : Prop where
  TIz : TI ≠ z
  TOz : TO ≠ z
  i1z : i1 ≠ z
  i2z : i2 ≠ z
  TITO : TI ≠ TO
  TIi1 : TI ≠ i1
  TIi2 : TI ≠ i2
  TOi1 : TO ≠ i1
  TOi2 : TO ≠ i2
  i12 : i1 ≠ i2
/-- a zip over two ascii strs -/
structure ZipSt (h : Heap) (z TI TO i1 i2 : Addr) (x1 x2 : Str) (t1 t2 : Tok) (k1 k2 : Nat) : Prop where
  zip : ∃ f0 b, (f0 = .none ∨ ∃ a, f0 = rawInt a) ∧ h.get? z = some (zipO f0 b TI TO)
  ti : IsPair h TI (.ref i1) (.ref i2)
  to : ∃ a b, IsPair h TO a b
  it1 : h.IsStrIter i1 "str_ascii_iterator" x1 t1 k1
  it2 : h.IsStrIter i2 "str_ascii_iterator" x2 t2 k2
theorem ZipSt.at {h h' : Heap} {z TI TO i1 i2 : Addr} {x1 x2 : Str} {t1 t2 : Tok} {k1 k2 : Nat} (S : ZipSt h z TI TO i1 i2 x1 x2 t1 t2 k1 k2) (hk : ∀ b, b = z ∨ b = TI ∨ b = TO ∨ b = i1 ∨ b = i2 → ∀ o, h.get? b = some o → h'.get? b = some o) : ZipSt h' z TI TO i1 i2 x1 x2 t1 t2 k1 k2 := by
  obtain ⟨⟨f0, b, hf, hz⟩, hti, ⟨a, c, hto⟩, h1, h2⟩ := S
  exact ⟨⟨f0, b, hf, hk z (.inl rfl) _ hz⟩, hk TI (.inr (.inl rfl)) _ hti, ⟨a, c, hk TO (.inr (.inr (.inl rfl))) _ hto⟩, sit_at h1 fun o e => hk i1 (.inr (.inr (.inr (.inl rfl)))) o e, sit_at h2 fun o e => hk i2 (.inr (.inr (.inr (.inr rfl)))) o e⟩
section
variable {prog : Program} {w : World} {A : Around} {E : Value → Shared → Prop} {s : Shared} {z TI TO i1 i2 : Addr} {x1 x2 : Str} {t1 t2 : Tok} {k1 k2 : Nat}
theorem owned_free {f0 : Value} {b : Bool} {Q : Bool → Shared → Prop} (hf : f0 = .none ∨ ∃ a, f0 = rawInt a) (hz : s.heap.get? z = some (zipO f0 b TI TO)) (hQ1 : Q true s)
    (hQ2 : ∀ h' b', h'.get? z = some (zipO f0 b' TI TO) → (∀ c o, c ≠ z → s.heap.get? c = some o → h'.get? c = some o) → h'.objs.size = s.heap.objs.size → Q false { s with heap := h' }) :
    wpAny (model prog w) A (Builtin.SmallTypes.ownedTupleIsFree (.ref z)) Q E s := by
  unfold Builtin.SmallTypes.ownedTupleIsFree
  refine wpAny_bind (wpAny_field hz rfl (x := f0) rfl ?_)
  rcases hf with rfl | ⟨ad, rfl⟩
  · exact wpAny_pure hQ1
  · show wpAny _ _ (loadIfAlive ad.toNat >>= _) _ _ _
    refine wpAny_bind (wpAny_loadIfAlive ?_)
    cases hl : s.heap.get? ad.toNat with
    | none =>
      simp only [Option.isNone_none, if_true]
      exact wpAny_pure hQ1
    | some o =>
      simp only [Option.isNone_some, Bool.false_eq_true, if_false]
      refine wpAny_bind (wpAny_field hz rfl (x := .bool b) rfl ?_)
      cases b with
      | true => exact wpAny_pure (hQ2 s.heap true hz (fun _ _ _ e => e) rfl)
      | false => exact wpAny_bind (wpAny_setField_rec hz (by simp) fun h₁ hz₁ hs₁ => wpAny_pure (hQ2 h₁ true hz₁ (fun c o hc e => hs₁.extBut _ _ hc e) hs₁.1))
theorem zip_str_item {c1 c2 : Nat} {Q : Value → Shared → Prop} (D : Ap5 z TI TO i1 i2) (S : ZipSt s.heap z TI TO i1 i2 x1 x2 t1 t2 k1 k2) (hx : x1.cps[k1]? = some c1) (hy : x2.cps[k2]? = some c2)
    (hQ : ∀ h' tk u1 u2, ZipSt h' z TI TO i1 i2 x1 x2 t1 t2 (k1 + 1) (k2 + 1) → IsPair h' s.heap.objs.size (.str ⟨#[c1]⟩ u1) (.str ⟨#[c2]⟩ u2) → h'.objs.size = s.heap.objs.size + 1 →
      (∀ c o, c ≠ z → c ≠ TO → c ≠ i1 → c ≠ i2 → s.heap.get? c = some o → h'.get? c = some o) → Q (.ref s.heap.objs.size) { s with heap := h', toks := tk }) :
    wpAny (model prog w) A (Builtin.«zip.__next__» ⟨[.ref z], []⟩) (fun fin s' => ∃ v, fin = .done (.ret v) ∧ Q v s') E s := by
  obtain ⟨⟨f0, b, hf, hz⟩, hTI, ⟨a, c, hTO⟩, h1, h2⟩ := S
  show wpAny _ _ (field (.ref z) 2 >>= _) _ _ _
  refine wpAny_bind (wpAny_field hz rfl (x := .bool false) rfl ?_)
  show wpAny _ _ (field (.ref z) 3 >>= _) _ _ _
  refine wpAny_bind (wpAny_field hz rfl (x := .ref TI) rfl ?_)
  refine wpAny_bind (wpAny_seqItems hTI rfl ?_)
  show wpAny _ _ (Builtin.SmallTypes.ownedTupleIsFree (.ref z) >>= _) _ _ _
  refine wpAny_bind (owned_free hf hz ?_ fun h₀ b' hz₀ hs₀ hn₀ => ?_)
  · simp only [if_true]
    refine wpAny_bind (wpAny_rule ?_)
    refine wpAny_bind (wpAny_field hz rfl (x := .ref TO) rfl ?_)
    refine wpAny_bind (wpAny_setField_rec hz (by simp) fun h₁ hz₁ hs₁ => ?_)
    replace hz₁ : h₁.get? z = some (zipO .ellipsis b TI TO) := hz₁
    refine wpAny_bind ?_
    simp only [List.zipIdx_cons, List.zipIdx_nil, List.forIn_cons, List.forIn_nil]
    refine wpAny_bind (wpAny_bind (wpAny_onRaise ?_))
    show wpAny _ _ (Builtin.SmallTypes.nextOf (.ref i1) >>= _) _ _ _
    refine wpAny_bind (wpAny_nextOf_ascii_item (sit_sb h1 hs₁ D.i1z) hx fun h₂ h1₂ hs₂ => wpAny_pure ?_)
    have hTO₂ : IsPair h₂ TO a c := hs₂.extBut _ _ D.TOi1 (hs₁.extBut _ _ D.TOz hTO)
    refine wpAny_bind (wpAny_seqItems hTO₂ rfl ?_)
    refine wpAny_bind (wpAny_updateSeq_pair hTO₂ fun h₃ hTO₃ hs₃ => ?_)
    refine wpAny_bind (wpAny_letGo (wpAny_pure ?_))
    refine wpAny_bind (wpAny_bind (wpAny_onRaise ?_))
    show wpAny _ _ (Builtin.SmallTypes.nextOf (.ref i2) >>= _) _ _ _
    refine wpAny_bind (wpAny_nextOf_ascii_item (sit_sb (sit_sb (sit_sb h2 hs₁ D.i2z) hs₂ D.i12.symm) hs₃ D.TOi2.symm) hy fun h₄ h2₄ hs₄ => wpAny_pure ?_)
    replace hTO₃ : IsPair h₃ TO (.str ⟨#[c1]⟩ s.toks) c := hTO₃
    have hTO₄ : IsPair h₄ TO (.str ⟨#[c1]⟩ s.toks) c := hs₄.extBut _ _ D.TOi2 hTO₃
    refine wpAny_bind (wpAny_seqItems hTO₄ rfl ?_)
    refine wpAny_bind (wpAny_updateSeq_pair hTO₄ fun h₅ hTO₅ hs₅ => ?_)
    replace hTO₅ : IsPair h₅ TO (.str ⟨#[c1]⟩ s.toks) (.str ⟨#[c2]⟩ (s.toks + 1)) := hTO₅
    refine wpAny_bind (wpAny_letGo (wpAny_pure (wpAny_pure ?_)))
    refine wpAny_bind (wpAny_seqItems hTO₅ rfl ?_)
    refine wpAny_bind (wpAny_newTuple ?_)
    have hsz : h₅.objs.size = s.heap.objs.size := by rw [hs₅.1, hs₄.1, hs₃.1, hs₂.1, hs₁.1]
    have hz₅ : h₅.get? z = some (zipO .ellipsis b TI TO) := hs₅.extBut _ _ D.TOz.symm (hs₄.extBut _ _ D.i2z.symm (hs₃.extBut _ _ D.TOz.symm (hs₂.extBut _ _ D.i1z.symm hz₁)))
    have hk₅ : ∀ c o, c ≠ z → c ≠ TO → c ≠ i1 → c ≠ i2 → s.heap.get? c = some o → h₅.get? c = some o := fun c o c1 c2 c3 c4 e =>
      hs₅.extBut _ _ c2 (hs₄.extBut _ _ c4 (hs₃.extBut _ _ c2 (hs₂.extBut _ _ c3 (hs₁.extBut _ _ c1 e))))
    have h1₅ := sit_sb (sit_sb (sit_sb h1₂ hs₃ D.TOi1.symm) hs₄ D.i12) hs₅ D.TOi1.symm
    have h2₅ := sit_sb h2₄ hs₅ D.TOi2.symm
    have hzlt : z < h₅.objs.size := Heap.lt_size hz₅
    show wpAny _ _ (Builtin.SmallTypes.ownedTupleHandOut (.ref z) (.ref h₅.objs.size) >>= _) _ _ _
    refine wpAny_bind ?_
    unfold Builtin.SmallTypes.ownedTupleHandOut
    have hz₆ : (h₅.push { cls := .type "tuple", data := .seq #[Value.str ⟨#[c1]⟩ s.toks, Value.str ⟨#[c2]⟩ (s.toks + 1)] }).get? z = some (zipO .ellipsis b TI TO) := Heap.get?_push_of_some _ hz₅
    have hT₆ : IsPair (h₅.push { cls := .type "tuple", data := .seq #[Value.str ⟨#[c1]⟩ s.toks, Value.str ⟨#[c2]⟩ (s.toks + 1)] }) h₅.objs.size (.str ⟨#[c1]⟩ s.toks) (.str ⟨#[c2]⟩ (s.toks + 1)) := Heap.get?_push_size _ rfl
    refine wpAny_bind (wpAny_setField_rec hz₆ (by simp) fun h₇ hz₇ hs₇ => ?_)
    replace hs₇ : Heap.SameBut z (h₅.push { cls := .type "tuple", data := .seq #[Value.str ⟨#[c1]⟩ s.toks, Value.str ⟨#[c2]⟩ (s.toks + 1)] }) h₇ := hs₇
    refine wpAny_setField_rec hz₇ (by simp) fun h₈ hz₈ hs₈ => ?_
    have up : ∀ c o, c ≠ z → h₅.get? c = some o → h₈.get? c = some o := fun c o c1 e => hs₈.extBut _ _ c1 (hs₇.extBut _ _ c1 (Heap.get?_push_of_some _ e))
    refine wpAny_pure ⟨_, rfl, ?_⟩
    show Q (.ref h₅.objs.size) { s with heap := h₈, toks := s.toks + 1 + 1 }
    have hT₈ : IsPair h₈ h₅.objs.size (.str ⟨#[c1]⟩ s.toks) (.str ⟨#[c2]⟩ (s.toks + 1)) := hs₈.extBut _ _ (Nat.ne_of_gt hzlt) (hs₇.extBut _ _ (Nat.ne_of_gt hzlt) hT₆)
    have hz8 : h₈.objs.size = h₅.objs.size + 1 := by rw [hs₈.1, hs₇.1, Heap.size_push]
    rw [hsz] at hT₈ hz8 ⊢
    exact hQ h₈ _ _ _ ⟨⟨_, _, .inr ⟨h₅.objs.size, rfl⟩, hz₈⟩, up _ _ D.TIz (hk₅ _ _ D.TIz D.TITO D.TIi1 D.TIi2 hTI), ⟨_, _, up _ _ D.TOz hTO₅⟩, sit_at h1₅ fun o e => up _ o D.i1z e, sit_at h2₅ fun o e => up _ o D.i2z e⟩ hT₈ hz8 fun c o c1 c2 c3 c4 e => up c o c1 (hk₅ c o c1 c2 c3 c4 e)
  · simp only [Bool.false_eq_true, if_false]
    have h1₀ := sit_at h1 fun o e => hs₀ _ o D.i1z e
    have h2₀ := sit_at h2 fun o e => hs₀ _ o D.i2z e
    rw [← Array.forIn_toList]
    simp only [List.forIn_cons, List.forIn_nil]
    refine wpAny_bind (wpAny_bind (wpAny_bind (wpAny_holding ?_)))
    show wpAny _ _ (Builtin.SmallTypes.nextOf (.ref i1) >>= _) _ _ _
    refine wpAny_bind (wpAny_nextOf_ascii_item h1₀ hx fun h₂ h1₂ hs₂ => wpAny_pure ?_)
    refine wpAny_pure (wpAny_bind (wpAny_bind (wpAny_holding ?_)))
    show wpAny _ _ (Builtin.SmallTypes.nextOf (.ref i2) >>= _) _ _ _
    refine wpAny_bind (wpAny_nextOf_ascii_item (sit_sb h2₀ hs₂ D.i12.symm) hy fun h₄ h2₄ hs₄ => wpAny_pure ?_)
    refine wpAny_pure (wpAny_pure ?_)
    refine wpAny_bind (wpAny_newTuple ?_ (hsz := by show 2 ≤ sizeLine; decide))
    have hsz : h₄.objs.size = s.heap.objs.size := by rw [hs₄.1, hs₂.1, hn₀]
    have up : ∀ c o, c ≠ i1 → c ≠ i2 → h₀.get? c = some o → (h₄.push { cls := .type "tuple", data := .seq #[Value.str ⟨#[c1]⟩ s.toks, Value.str ⟨#[c2]⟩ (s.toks + 1)] }).get? c = some o := fun c o n1 n2 e => Heap.get?_push_of_some _ (hs₄.extBut _ _ n2 (hs₂.extBut _ _ n1 e))
    refine wpAny_pure ⟨_, rfl, ?_⟩
    show Q (.ref h₄.objs.size) { s with heap := h₄.push { cls := .type "tuple", data := .seq #[Value.str ⟨#[c1]⟩ s.toks, Value.str ⟨#[c2]⟩ (s.toks + 1)] }, toks := s.toks + 1 + 1 }
    have hT : IsPair (h₄.push { cls := .type "tuple", data := .seq #[Value.str ⟨#[c1]⟩ s.toks, Value.str ⟨#[c2]⟩ (s.toks + 1)] }) h₄.objs.size (.str ⟨#[c1]⟩ s.toks) (.str ⟨#[c2]⟩ (s.toks + 1)) := Heap.get?_push_size _ rfl
    have hz8 : (h₄.push { cls := .type "tuple", data := .seq #[Value.str ⟨#[c1]⟩ s.toks, Value.str ⟨#[c2]⟩ (s.toks + 1)] }).objs.size = h₄.objs.size + 1 := Heap.size_push ..
    rw [hsz] at hT hz8 ⊢
    exact hQ _ _ _ _ ⟨⟨f0, b', hf, up _ _ D.i1z.symm D.i2z.symm hz₀⟩, up _ _ D.TIi1 D.TIi2 (hs₀ _ _ D.TIz hTI), ⟨a, c, up _ _ D.TOi1 D.TOi2 (hs₀ _ _ D.TOz hTO)⟩, sit_at (sit_sb h1₂ hs₄ D.i12) fun o e => Heap.get?_push_of_some _ e, sit_at h2₄ fun o e => Heap.get?_push_of_some _ e⟩ hT hz8
      fun c o n1 n2 n3 n4 e => up c o n3 n4 (hs₀ c o n1 e)
theorem zip_str_end {c1 : Nat} {Q : PySem.Fin → Shared → Prop} (hh : A.handled = none) (D : Ap5 z TI TO i1 i2) (S : ZipSt s.heap z TI TO i1 i2 x1 x2 t1 t2 k1 k2) (hx : x1.cps[k1]? = some c1) (hy : x2.cps[k2]? = none)
    (hE : ∀ h' tk e, (∀ c o, c ≠ z → c ≠ TO → c ≠ i1 → c ≠ i2 → s.heap.get? c = some o → h'.get? c = some o) → (∃ o, h'.get? e = some o ∧ o.cls = .type "StopIteration") → E (.ref e) { s with heap := h', toks := tk }) :
    wpAny (model prog w) A (Builtin.«zip.__next__» ⟨[.ref z], []⟩) Q E s := by
  obtain ⟨⟨f0, b, hf, hz⟩, hTI, ⟨a, c, hTO⟩, h1, h2⟩ := S
  show wpAny _ _ (field (.ref z) 2 >>= _) _ _ _
  refine wpAny_bind (wpAny_field hz rfl (x := .bool false) rfl ?_)
  show wpAny _ _ (field (.ref z) 3 >>= _) _ _ _
  refine wpAny_bind (wpAny_field hz rfl (x := .ref TI) rfl ?_)
  refine wpAny_bind (wpAny_seqItems hTI rfl ?_)
  show wpAny _ _ (Builtin.SmallTypes.ownedTupleIsFree (.ref z) >>= _) _ _ _
  refine wpAny_bind (owned_free hf hz ?_ fun h₀ b' hz₀ hs₀ hn₀ => ?_)
  · simp only [if_true]
    refine wpAny_bind (wpAny_rule ?_)
    refine wpAny_bind (wpAny_field hz rfl (x := .ref TO) rfl ?_)
    refine wpAny_bind (wpAny_setField_rec hz (by simp) fun h₁ hz₁ hs₁ => ?_)
    replace hz₁ : h₁.get? z = some (zipO .ellipsis b TI TO) := hz₁
    refine wpAny_bind ?_
    simp only [List.zipIdx_cons, List.zipIdx_nil, List.forIn_cons, List.forIn_nil]
    refine wpAny_bind (wpAny_bind (wpAny_onRaise ?_))
    show wpAny _ _ (Builtin.SmallTypes.nextOf (.ref i1) >>= _) _ _ _
    refine wpAny_bind (wpAny_nextOf_ascii_item (sit_sb h1 hs₁ D.i1z) hx fun h₂ h1₂ hs₂ => wpAny_pure ?_)
    have hTO₂ : IsPair h₂ TO a c := hs₂.extBut _ _ D.TOi1 (hs₁.extBut _ _ D.TOz hTO)
    refine wpAny_bind (wpAny_seqItems hTO₂ rfl ?_)
    refine wpAny_bind (wpAny_updateSeq_pair hTO₂ fun h₃ hTO₃ hs₃ => ?_)
    refine wpAny_bind (wpAny_letGo (wpAny_pure ?_))
    refine wpAny_bind (wpAny_bind (wpAny_onRaise ?_))
    show wpAny _ _ (Builtin.SmallTypes.nextOf (.ref i2) >>= _) _ _ _
    refine wpAny_bind (wpAny_nextOf_ascii_end hh (sit_sb (sit_sb (sit_sb h2 hs₁ D.i2z) hs₂ D.i12.symm) hs₃ D.TOi2.symm) hy fun h₄ e hs₄ he => ?_)
    obtain ⟨oe, hoe, hce⟩ := he
    have hz₄ : h₄.get? z = some (zipO .ellipsis b TI TO) := hs₄ _ _ D.i2z.symm (hs₃.extBut _ _ D.TOz.symm (hs₂.extBut _ _ D.i1z.symm hz₁))
    have hez : e ≠ z := fun x => by subst x; rw [hz₄] at hoe; cases hoe; simp at hce
    exact wpAny_setField_rec hz₄ (by simp) fun h₅ _ hs₅ => hE h₅ _ e (fun c o c1 c2 c3 c4 x => hs₅.extBut _ _ c1 (hs₄ _ _ c4 (hs₃.extBut _ _ c2 (hs₂.extBut _ _ c3 (hs₁.extBut _ _ c1 x))))) ⟨oe, hs₅.extBut _ _ hez hoe, hce⟩
  · simp only [Bool.false_eq_true, if_false]
    have h1₀ := sit_at h1 fun o e => hs₀ _ o D.i1z e
    have h2₀ := sit_at h2 fun o e => hs₀ _ o D.i2z e
    rw [← Array.forIn_toList]
    simp only [List.forIn_cons, List.forIn_nil]
    refine wpAny_bind (wpAny_bind (wpAny_bind (wpAny_holding ?_)))
    show wpAny _ _ (Builtin.SmallTypes.nextOf (.ref i1) >>= _) _ _ _
    refine wpAny_bind (wpAny_nextOf_ascii_item h1₀ hx fun h₂ h1₂ hs₂ => wpAny_pure ?_)
    refine wpAny_pure (wpAny_bind (wpAny_bind (wpAny_holding ?_)))
    show wpAny _ _ (Builtin.SmallTypes.nextOf (.ref i2) >>= _) _ _ _
    exact wpAny_bind (wpAny_nextOf_ascii_end hh (sit_sb h2₀ hs₂ D.i12.symm) hy fun h₄ e hs₄ he => hE h₄ _ e (fun c o n1 n2 n3 n4 x => hs₄ _ _ n4 (hs₂.extBut _ _ n3 (hs₀ _ _ n1 x))) he)
theorem nextOf_zip_item {c1 c2 : Nat} {Q : Value → Shared → Prop} (D : Ap5 z TI TO i1 i2) (S : ZipSt s.heap z TI TO i1 i2 x1 x2 t1 t2 k1 k2) (hx : x1.cps[k1]? = some c1) (hy : x2.cps[k2]? = some c2)
    (hQ : ∀ h' tk u1 u2, ZipSt h' z TI TO i1 i2 x1 x2 t1 t2 (k1 + 1) (k2 + 1) → IsPair h' s.heap.objs.size (.str ⟨#[c1]⟩ u1) (.str ⟨#[c2]⟩ u2) → h'.objs.size = s.heap.objs.size + 1 →
      (∀ c o, c ≠ z → c ≠ TO → c ≠ i1 → c ≠ i2 → s.heap.get? c = some o → h'.get? c = some o) → Q (.ref s.heap.objs.size) { s with heap := h', toks := tk }) :
    wpAny (model prog w) A (Builtin.SmallTypes.nextOf (.ref z)) Q E s := by
  obtain ⟨f0, b, _, hz⟩ := S.zip
  have hT : s.TypeIs (.ref z) "zip" := ⟨_, hz, rfl⟩
  unfold Builtin.SmallTypes.nextOf
  refine wpAny_bind (wpAny_callSpecial?_slot (name := Str.ofString "__next__") hT F.slot_zip_next
    (wpAny_call_entry F.slot_zip_next hT F.entry_zip_next (wpAny_mono (zip_str_item D S hx hy hQ) (fun fin s' h => ?_) fun _ _ e => e) (F.args_zip_next_1 _)))
  obtain ⟨v, rfl, hv⟩ := h
  exact ⟨_, rfl, wpAny_pure hv⟩
theorem nextOf_zip_end {c1 : Nat} {Q : Value → Shared → Prop} (hh : A.handled = none) (D : Ap5 z TI TO i1 i2) (S : ZipSt s.heap z TI TO i1 i2 x1 x2 t1 t2 k1 k2) (hx : x1.cps[k1]? = some c1) (hy : x2.cps[k2]? = none)
    (hE : ∀ h' tk e, (∀ c o, c ≠ z → c ≠ TO → c ≠ i1 → c ≠ i2 → s.heap.get? c = some o → h'.get? c = some o) → (∃ o, h'.get? e = some o ∧ o.cls = .type "StopIteration") → E (.ref e) { s with heap := h', toks := tk }) :
    wpAny (model prog w) A (Builtin.SmallTypes.nextOf (.ref z)) Q E s := by
  obtain ⟨f0, b, _, hz⟩ := S.zip
  have hT : s.TypeIs (.ref z) "zip" := ⟨_, hz, rfl⟩
  unfold Builtin.SmallTypes.nextOf
  exact wpAny_bind (wpAny_callSpecial?_slot (name := Str.ofString "__next__") hT F.slot_zip_next
    (wpAny_call_entry F.slot_zip_next hT F.entry_zip_next (zip_str_end (by exact hh) D S hx hy hE) (F.args_zip_next_1 _)))
end
end Mine
-- EdQ
namespace Mine
section
variable {prog : Program} {w : World} {A : Around} {E : Value → Shared → Prop} {s : Shared} {e z TI TO i1 i2 : Addr} {x1 x2 : Str} {t1 t2 : Tok} {k1 k2 : Nat}
structure Ap6 (e z TI TO i1 i2 : Addr) : Prop extends Ap5 z TI TO i1 i2 where
  ze : z ≠ e
  TIe : TI ≠ e
  TOe : TO ≠ e
  i1e : i1 ≠ e
  i2e : i2 ≠ e
theorem ZipSt.off {h h' : Heap} (S : ZipSt h z TI TO i1 i2 x1 x2 t1 t2 k1 k2) (D : Ap6 e z TI TO i1 i2) (hk : ∀ b o, b ≠ e → h.get? b = some o → h'.get? b = some o) : ZipSt h' z TI TO i1 i2 x1 x2 t1 t2 k1 k2 :=
  S.at fun b hb o x => hk b o (by rcases hb with rfl | rfl | rfl | rfl | rfl; exact D.ze; exact D.TIe; exact D.TOe; exact D.i1e; exact D.i2e) x
theorem enum_zip_item {c1 c2 i : Nat} {old : Value} {Q : Option Value → Shared → Prop} (D : Ap6 e z TI TO i1 i2) (he : IsEnum s.heap e z i old) (S : ZipSt s.heap z TI TO i1 i2 x1 x2 t1 t2 k1 k2) (hx : x1.cps[k1]? = some c1) (hy : x2.cps[k2]? = some c2)
    (hQ : ∀ h' tk P T u u1 u2 it, IsEnumOut h' e z ((i : Int) + 1) it T → ZipSt h' z TI TO i1 i2 x1 x2 t1 t2 (k1 + 1) (k2 + 1) → IsPair h' P (.str ⟨#[c1]⟩ u1) (.str ⟨#[c2]⟩ u2) → IsPair h' T (.int i u) (.ref P) → s.heap.objs.size ≤ P → s.heap.objs.size ≤ T →
      (∀ c o, c ≠ e → c ≠ z → c ≠ TO → c ≠ i1 → c ≠ i2 → s.heap.get? c = some o → h'.get? c = some o) → Q (some (.ref T)) { s with heap := h', toks := tk }) :
    wpAny (model prog w) A (pyNext (.ref e)) Q E s := by
  have hT : s.TypeIs (.ref e) "enumerate" := ⟨_, he, rfl⟩
  unfold pyNext
  refine wpAny_bind (wpAny_attempt (wpAny_callSpecial?_slot (name := Str.ofString "__next__") hT F.slot_enumerate_next
    (wpAny_call_entry F.slot_enumerate_next hT F.entry_enumerate_next ?_ (F.args_enumerate_next_1 _))))
  obtain ⟨hp, g, d, tk₀, os⟩ := s
  show wpAny _ _ (field (.ref e) 2 >>= _) _ _ _
  refine wpAny_bind (wpAny_field he rfl (x := .ref z) rfl ?_)
  refine wpAny_bind (nextOf_zip_item D.toAp5 S hx hy fun h₁ tk u1 u2 S₁ hP₁ hz₁ hk₁ => ?_)
  dsimp only at S hP₁ hz₁ hk₁ he
  have hel : e < hp.objs.size := Heap.lt_size he
  have he₁ : IsEnum h₁ e z i old := hk₁ _ _ D.ze.symm D.TOe.symm D.i1e.symm D.i2e.symm he
  show wpAny _ _ (field (.ref e) 3 >>= _) _ _ ⟨h₁, g, d, tk, os⟩
  refine wpAny_bind (wpAny_field he₁ rfl (x := rawInt i) rfl ?_)
  show wpAny _ _ (field (.ref e) 4 >>= _) _ _ ⟨h₁, g, d, tk, os⟩
  refine wpAny_bind (wpAny_field he₁ rfl (x := .none) rfl ?_)
  show wpAny _ _ (mkInt i >>= _) _ _ ⟨h₁, g, d, tk, os⟩
  refine wpAny_bind (wpAny_mkInt ?_)
  show wpAny _ _ (setField (.ref e) 3 (rawInt ((i : Int) + 1)) >>= _) _ _ ⟨h₁, g, d, tk + 1, os⟩
  refine wpAny_bind (wpAny_setField_rec he₁ (by simp) fun h₂ he₂ hs₂ => ?_)
  replace hs₂ : Heap.SameBut e h₁ h₂ := hs₂
  replace he₂ : IsEnum h₂ e z ((i : Int) + 1) old := he₂
  show wpAny _ _ (setField (.ref e) 4 .none >>= _) _ _ ⟨h₂, g, d, tk + 1, os⟩
  refine wpAny_bind (wpAny_setField_rec he₂ (by simp) fun h₃ he₃ hs₃ => ?_)
  replace hs₃ : Heap.SameBut e h₂ h₃ := hs₃
  replace he₃ : IsEnum h₃ e z ((i : Int) + 1) old := he₃
  show wpAny _ _ (newTuple [.int i tk, .ref hp.objs.size] >>= _) _ _ ⟨h₃, g, d, tk + 1, os⟩
  refine wpAny_bind (wpAny_newTuple ?_)
  have he₄ : IsEnum (h₃.push { cls := .type "tuple", data := .seq #[.int i tk, .ref hp.objs.size] }) e z ((i : Int) + 1) old := Heap.get?_push_of_some _ he₃
  have hT₄ : IsPair (h₃.push { cls := .type "tuple", data := .seq #[.int i tk, .ref hp.objs.size] }) h₃.objs.size (.int i tk) (.ref hp.objs.size) := Heap.get?_push_size _ rfl
  have hk₄ : ∀ b o, b ≠ e → h₁.get? b = some o → (h₃.push { cls := .type "tuple", data := .seq #[.int i tk, .ref hp.objs.size] }).get? b = some o := fun b o hbe hb => Heap.get?_push_of_some _ (hs₃.extBut b o hbe (hs₂.extBut b o hbe hb))
  generalize hh₄ : h₃.push { cls := .type "tuple", data := .seq #[.int i tk, .ref hp.objs.size] } = h₄ at he₄ hT₄ hk₄ ⊢
  have hTlt : hp.objs.size < h₃.objs.size := by rw [hs₃.1, hs₂.1, hz₁]; exact Nat.lt_succ_self _
  generalize hTT : h₃.objs.size = TT at hT₄ hTlt ⊢
  have hTe : TT ≠ e := Nat.ne_of_gt (Nat.lt_trans hel hTlt)
  show wpAny _ _ (Builtin.SmallTypes.ownedTupleIsFree (.ref e) >>= _) _ _ ⟨h₄, g, d, tk + 1, os⟩
  refine wpAny_bind ?_
  unfold Builtin.SmallTypes.ownedTupleIsFree
  refine wpAny_bind (wpAny_field he₄ rfl (x := .none) rfl (wpAny_pure ?_))
  simp only [if_true]
  refine wpAny_bind (wpAny_rule ?_)
  refine wpAny_bind (wpAny_field he₄ rfl (x := old) rfl ?_)
  refine wpAny_bind (wpAny_setField_rec he₄ (by simp) fun h₅ he₅ hs₅ => ?_)
  replace hs₅ : Heap.SameBut e h₄ h₅ := hs₅
  replace he₅ : IsEnum h₅ e z ((i : Int) + 1) (.ref hp.objs.size) := he₅
  show wpAny _ _ (Builtin.SmallTypes.ownedTupleHandOut (.ref e) (.ref TT) >>= _) _ _ ⟨h₅, g, d, tk + 1, os⟩
  refine wpAny_bind ?_
  unfold Builtin.SmallTypes.ownedTupleHandOut
  refine wpAny_bind (wpAny_setField_rec he₅ (by simp) fun h₆ he₆ hs₆ => ?_)
  replace hs₆ : Heap.SameBut e h₅ h₆ := hs₆
  replace he₆ : IsEnumOut h₆ e z ((i : Int) + 1) (.ref hp.objs.size) TT := he₆
  refine wpAny_setField_rec he₆ (by simp) fun h₇ he₇ hs₇ => ?_
  replace hs₇ : Heap.SameBut e h₆ h₇ := hs₇
  replace he₇ : IsEnumOut h₇ e z ((i : Int) + 1) (.ref hp.objs.size) TT := he₇
  have up : ∀ b o, b ≠ e → h₄.get? b = some o → h₇.get? b = some o := fun b o hbe x => hs₇.extBut b o hbe (hs₆.extBut b o hbe (hs₅.extBut b o hbe x))
  refine wpAny_bind (wpAny_letGo (wpAny_pure ⟨_, rfl, wpAny_pure ?_⟩))
  exact hQ h₇ (tk + 1) hp.objs.size TT tk u1 u2 _ he₇ (S₁.off D fun b o hb x => up b o hb (hk₄ b o hb x)) (up _ _ (Nat.ne_of_gt hel) (hk₄ _ _ (Nat.ne_of_gt hel) hP₁)) (up _ _ hTe hT₄) (Nat.le_refl _) (Nat.le_of_lt hTlt) fun c o n1 n2 n3 n4 n5 x => up c o n1 (hk₄ c o n1 (hk₁ c o n2 n3 n4 n5 x))
theorem enum_zip_end {c1 : Nat} {i : Int} {old : Value} {Q : Option Value → Shared → Prop} (hh : A.handled = none) (D : Ap6 e z TI TO i1 i2) (he : IsEnum s.heap e z i old) (S : ZipSt s.heap z TI TO i1 i2 x1 x2 t1 t2 k1 k2) (hx : x1.cps[k1]? = some c1) (hy : x2.cps[k2]? = none)
    (hQ : ∀ h' tk, (∀ c o, c ≠ e → c ≠ z → c ≠ TO → c ≠ i1 → c ≠ i2 → s.heap.get? c = some o → h'.get? c = some o) → Q none { s with heap := h', toks := tk }) : wpAny (model prog w) A (pyNext (.ref e)) Q E s := by
  have hT : s.TypeIs (.ref e) "enumerate" := ⟨_, he, rfl⟩
  unfold pyNext
  refine wpAny_bind (wpAny_attempt (wpAny_callSpecial?_slot (name := Str.ofString "__next__") hT F.slot_enumerate_next
    (wpAny_call_entry F.slot_enumerate_next hT F.entry_enumerate_next ?_ (F.args_enumerate_next_1 _))))
  show wpAny _ _ (field (.ref e) 2 >>= _) _ _ _
  refine wpAny_bind (wpAny_field he rfl (x := .ref z) rfl ?_)
  refine wpAny_bind (nextOf_zip_end (by exact hh) D.toAp5 S hx hy fun h' tk x hk hx' => ?_)
  obtain ⟨o, ho, hc⟩ := hx'
  refine wpAny_bind (wpAny_isInstance (T := "StopIteration") (b := true) ⟨o, ho, hc⟩ isSubtype_stop ?_)
  exact wpAny_pure (hQ _ _ fun c o n1 n2 n3 n4 n5 x => hk c o n2 n3 n4 n5 x)
/-- the turns of enumerate(zip(a str, another), start=1), its names three -/
theorem Turns.enumzip {env : Env} {h₀ : Heap} {L : Addr} {xi xp xc : Str} {q1 q2 q3 q4 q5 : Pos} {n1 n2 n : Nat} (hh : A.handled = none) (hxi : env.kindOf xi = some .local) (hxp : env.kindOf xp = some .local) (hxc : env.kindOf xc = some .local) (hLe : env.locals = L) (hp : (env.scope.kind == .class || (env.scope.kind == .module && env.locals != env.globals)) = false)
    (D : Ap6 e z TI TO i1 i2) (hfp : ∀ b ∈ [e, z, TI, TO, i1, i2], h₀.get? b = none) (hL : L ∉ [e, z, TI, TO, i1, i2]) (hn1 : x1.cps.size = n + 1) (hn2 : x2.cps.size = n) :
    Turns prog w A env h₀ L (.Tuple [.Name xi q1, .Tuple [.Name xp q2, .Name xc q3] n1 q4] n2 q5) (.ref e) [e, z, TI, TO, i1, i2] n (fun i h => (∃ old, IsEnum h e z ((i + 1 : Nat) : Int) old) ∧ ZipSt h z TI TO i1 i2 x1 x2 t1 t2 i i)
      (fun i m₁ m₂ => ∃ c1 c2 t u1 u2, x1.cps[i]? = some c1 ∧ x2.cps[i]? = some c2 ∧ m₂ = fun y => if y = xc then some (.str ⟨#[c2]⟩ u2) else if y = xp then some (.str ⟨#[c1]⟩ u1) else if y = xi then some (.int ((i + 1 : Nat) : Int) t) else m₁ y) where
  frame := fun i h h' st hk => ⟨st.1.imp fun old x => hk e (by simp) _ x, st.2.at fun b hb o x => hk b (by rcases hb with rfl | rfl | rfl | rfl | rfl <;> simp) o x⟩
  live := fun i h st b hb => by
    obtain ⟨⟨old, he⟩, ⟨⟨f0, b', hf, hz⟩, hti, ⟨a, c, hto⟩, ⟨o1, ho1, _, hd1⟩, ⟨o2, ho2, _, hd2⟩⟩⟩ := st
    simp only [List.mem_cons, List.not_mem_nil, or_false] at hb
    rcases hb with rfl | rfl | rfl | rfl | rfl | rfl
    · exact ⟨_, he, by rintro ⟨vs, t, y1, y2⟩; cases y1; simp at y2⟩
    · exact ⟨_, hz, by rintro ⟨vs, t, y1, y2⟩; cases y1; simp at y2⟩
    · exact ⟨_, hti, by rintro ⟨vs, t, y1, y2⟩; cases y1⟩
    · exact ⟨_, hto, by rintro ⟨vs, t, y1, y2⟩; cases y1⟩
    · exact ⟨_, ho1, by rintro ⟨vs, t, y1, y2⟩; rw [hd1] at y1; cases y1; simp at y2⟩
    · exact ⟨_, ho2, by rintro ⟨vs, t, y1, y2⟩; rw [hd2] at y1; cases y1; simp at y2⟩
  next := fun i s m₁ Q E hi hst F hQ => by
    obtain ⟨⟨old, he⟩, S⟩ := hst
    have hx : x1.cps[i]? = some (x1.cps[i]'(by omega)) := Array.getElem?_eq_getElem _
    have hy : x2.cps[i]? = some (x2.cps[i]'(by omega)) := Array.getElem?_eq_getElem _
    refine enum_zip_item D he S hx hy fun h₁ tk P T u u1 u2 it he₁ S₁ hP hT hPs hTs hk => ?_
    generalize x1.cps[i]'(by omega) = c1 at hx hP
    generalize x2.cps[i]'(by omega) = c2 at hy hP
    have hTe : e ≠ T := Nat.ne_of_lt (Nat.lt_of_lt_of_le (Heap.lt_size he) hTs)
    have hPe : e ≠ P := Nat.ne_of_lt (Nat.lt_of_lt_of_le (Heap.lt_size he) hPs)
    have hLn : ∀ b ∈ [e, z, TI, TO, i1, i2], b ≠ L := fun b hb q => hL (q ▸ hb)
    have F₁ : Fr h₀ L h₁ m₁ := by
      have hb : ∀ b o, b ∉ [e, z, TI, TO, i1, i2] → s.heap.get? b = some o → h₁.get? b = some o := fun b o hn x => hk b o (fun q => hn (by simp [q])) (fun q => hn (by simp [q])) (fun q => hn (by simp [q])) (fun q => hn (by simp [q])) (fun q => hn (by simp [q])) x
      exact ⟨F.ns.at' fun o x => hb _ o hL x, fun b o x => hb b o (fun q => by rw [hfp b q] at x; cases x) (F.keep b o x), F.above⟩
    refine wpAny_letOwnedTupleGo_enum he₁ fun h₂ he₂ hs₂ => ?_
    have hT₂ : h₂.IsTuple T #[.int ((i + 1 : Nat) : Int) u, .ref P] := ⟨_, hs₂.extBut _ _ hTe.symm hT, rfl, _, rfl⟩
    have hP₂ : IsPair h₂ P (.str ⟨#[c1]⟩ u1) (.str ⟨#[c2]⟩ u2) := hs₂.extBut _ _ hPe.symm hP
    have F₂ : Fr h₀ L h₂ m₁ := F₁.change hs₂ (hLn e (by simp)) (hfp e (by simp))
    have S₂ := S₁.off D fun b o hb x => hs₂.extBut b o hb x
    refine wpAny_assign_Tuple hh hT₂ rfl rfl fun h₃ hx₃ => ?_
    replace hx₃ : Heap.ExtBut h₂.objs.size h₂ h₃ := hx₃
    have up₃ : ∀ b o, h₂.get? b = some o → h₃.get? b = some o := fun b o x => hx₃ b o (Nat.ne_of_lt (Heap.lt_size x)) x
    have F₃ := F₂.keeps up₃
    show wpAny _ A (do holding [Value.ref P] (assign (.Name xi q1) env (.int ((i + 1 : Nat) : Int) u)); do holding [] (assign (.Tuple [.Name xp q2, .Name xc q3] n1 q4) env (.ref P)); pure ()) _ _ _
    refine wpAny_bind (wpAny_holding (wpAny_assign_Name (wpAny_storeName_local hxi (by rw [hLe]; exact F₃.ns) (fun h₄ hn₄ hs₄ => ?_) hp)))
    rw [hLe] at hn₄ hs₄
    replace hs₄ : Heap.SameBut L h₃ h₄ := hs₄
    have F₄ := F₃.set hn₄ hs₄
    have hPL : P ≠ L := Nat.ne_of_gt (Nat.lt_of_lt_of_le F.ns.lt hPs)
    have hP₄ : h₄.IsTuple P #[.str ⟨#[c1]⟩ u1, .str ⟨#[c2]⟩ u2] := ⟨_, hs₄.extBut _ _ hPL (up₃ _ _ hP₂), rfl, _, rfl⟩
    refine wpAny_bind (wpAny_holding (wpAny_assign_Tuple hh hP₄ rfl rfl fun h₅ hx₅ => ?_))
    replace hx₅ : Heap.ExtBut h₄.objs.size h₄ h₅ := hx₅
    have up₅ : ∀ b o, h₄.get? b = some o → h₅.get? b = some o := fun b o x => hx₅ b o (Nat.ne_of_lt (Heap.lt_size x)) x
    have F₅ := F₄.keeps up₅
    show wpAny _ A (do holding [Value.str ⟨#[c2]⟩ u2] (assign (.Name xp q2) env (.str ⟨#[c1]⟩ u1)); do holding [] (assign (.Name xc q3) env (.str ⟨#[c2]⟩ u2)); pure ()) _ _ _
    refine wpAny_bind (wpAny_holding (wpAny_assign_Name (wpAny_storeName_local hxp (by rw [hLe]; exact F₅.ns) (fun h₆ hn₆ hs₆ => ?_) hp)))
    rw [hLe] at hn₆ hs₆
    replace hs₆ : Heap.SameBut L h₅ h₆ := hs₆
    have F₆ := F₅.set hn₆ hs₆
    refine wpAny_bind (wpAny_holding (wpAny_assign_Name (wpAny_storeName_local hxc (by rw [hLe]; exact F₆.ns) (fun h₇ hn₇ hs₇ => wpAny_pure (wpAny_pure ?_)) hp)))
    rw [hLe] at hn₇ hs₇
    replace hs₇ : Heap.SameBut L h₆ h₇ := hs₇
    have F₇ := F₆.set hn₇ hs₇
    have up : ∀ b o, b ≠ L → h₂.get? b = some o → h₇.get? b = some o := fun b o hb x => hs₇.extBut _ _ hb (hs₆.extBut _ _ hb (up₅ _ _ (hs₄.extBut _ _ hb (up₃ _ _ x))))
    refine hQ h₇ _ _ ⟨c1, c2, u, u1, u2, hx, hy, rfl⟩ ⟨⟨_, up _ _ (hLn e (by simp)) he₂⟩, S₂.at fun b hb o x => up b o (hLn b (by rcases hb with rfl | rfl | rfl | rfl | rfl <;> simp)) x⟩ F₇ fun b o hbL hb x => up b o hbL (hs₂.extBut _ _ (fun q => hb (by simp [q])) (hk b o (fun q => hb (by simp [q])) (fun q => hb (by simp [q])) (fun q => hb (by simp [q])) (fun q => hb (by simp [q])) (fun q => hb (by simp [q])) x))
  fin := fun s Q E hst hQ => by
    obtain ⟨⟨old, he⟩, S⟩ := hst
    have hx : x1.cps[n]? = some (x1.cps[n]'(by omega)) := Array.getElem?_eq_getElem _
    exact enum_zip_end hh D he S hx (Array.getElem?_eq_none (by omega)) fun h' tk hk => hQ h' tk fun b o hb x => hk b o (fun q => hb (by simp [q])) (fun q => hb (by simp [q])) (fun q => hb (by simp [q])) (fun q => hb (by simp [q])) (fun q => hb (by simp [q])) x
end
end Mine
-- Ed1
namespace Mine
section
variable {prog : Program} {w : World} {A : Around} {E : Value → Shared → Prop} {s : Shared}
theorem callType_meetsK {T newId initId : String} {Bn Bi : Builtin} {args : List Value} {kw : List (Str × Value)} {S : PySem.Spec} {Q Q₁ : Value → Shared → Prop} (ft : TypeCalled T newId initId)
    (hct : checkTypeCall T ⟨args, kw⟩ = pure ()) (hcn : checkBuiltinCall newId ⟨.type T :: args, kw⟩ = pure ())
    (entryN : entryFor table newId = some Bn) (entryI : entryFor table initId = some Bi) (g : Meets (Bn ⟨.type T :: args, kw⟩) S)
    (h : S A.in1 (wants Q₁ E) s)
    (hnext : ∀ obj s₁, Q₁ obj s₁ → s₁.TypeIs obj T ∧ argsOk initId ⟨obj :: args, kw⟩ ∧ ∃ Si, Meets (Bi ⟨obj :: args, kw⟩) Si ∧ Si A.in1 (wants (fun r s₂ => r = .none ∧ Q obj s₂) E) s₁) :
    wpAny (model prog w) A (call (.type T) args kw) Q E s := by
  obtain ⟨c, tl, hmro⟩ := ft.mro
  have hmade := ft.made
  have hsub := ft.sub
  refine wpAny_call (codeAny_of_tree ?_)
  show wpAny _ _ (callAny (.type T) _) _ _ _
  refine wpAny_pure ⟨Code.quiet_builtin _ (by decide +kernel), codeAny_builtin F.entry_type_call ?_⟩
  rw [Around.under_plain (weight_type_call_type T args kw) (units_type_call_type T args kw)]
  have h1 := ft.notType
  have h2 := ft.canCreate
  repeat (any_goals (first | assumption | wp_step))
  refine codeAny_mono (codeAny_call_builtin ft.plain entryN (wpAny_of_eq hcn (g prog w A.in1 _ s h))) fun r s₁ hr => ?_
  cases r with
  | error e => exact hr
  | ok fl =>
    cases fl with
    | ret obj =>
      obtain ⟨hT, hok, Si, gi, hsi⟩ := hnext _ _ hr
      have hli := ft.init.lookup
      have hbi := ft.init.bind obj
      repeat (any_goals (first | assumption | wp_step))
      refine codeAny_mono (codeAny_call_builtin ft.init.plain entryI (ft.init.check _ _ _ _ _ _ _ _ hT hok (gi prog w A.in1 _ s₁ hsi))) fun r₂ s₂ hr₂ => ?_
      cases r₂ with
      | error e => exact hr₂
      | ok fl₂ =>
        cases fl₂ with
        | ret r =>
          obtain ⟨rfl, hq⟩ := hr₂
          repeat (any_goals (first | assumption | wp_step))
        | _ => exact hr₂.elim
    | _ => exact hr.elim
theorem object_init_meetsK {T newId : String} {self a : Value} {kw : List (Str × Value)} (hl : typeLookup (.type T) "__init__" = pure (some (.builtin "object.__init__")))
    (hm : Bind.madeBy (.type T) = pure (some newId)) (hne : (some newId != some "object.__new__") = true) :
    Meets (Builtin.«object.__init__» ⟨[self, a], kw⟩) (fun _ R s => s.TypeIs self T ∧ R (.ok (.ret .none)) s) := by
  refine Meets.of_wp fun prog w A R s hs => ?_
  obtain ⟨hT, hq⟩ := hs
  repeat (any_goals (first | assumption | wp_step))
  exact ⟨_, rfl, hq⟩
theorem callType_newK {T newId : String} {Bn : Builtin} {a : Value} {kw : List (Str × Value)} {S : PySem.Spec} {Q : Value → Shared → Prop} (ft : TypeCalled T newId "object.__init__")
    (hne : (some newId != some "object.__new__") = true) (hct : checkTypeCall T ⟨[a], kw⟩ = pure ()) (hcn : checkBuiltinCall newId ⟨[.type T, a], kw⟩ = pure ())
    (hok : ∀ obj, argsOk "object.__init__" ⟨[obj, a], kw⟩) (entryN : entryFor table newId = some Bn) (g : Meets (Bn ⟨[.type T, a], kw⟩) S)
    (h : S A.in1 (wants (fun obj s₁ => s₁.TypeIs obj T ∧ Q obj s₁) E) s) : wpAny (model prog w) A (call (.type T) [a] kw) Q E s :=
  callType_meetsK ft hct hcn entryN F.entry_object_init g h fun obj _ hq =>
    ⟨hq.1, hok obj, _, object_init_meetsK ft.init.lookup ft.made hne, hq.1, rfl, hq.2⟩
end
theorem typeCall_enum_k (a b : Value) : checkTypeCall "enumerate" ⟨[a], [(Str.ofString "start", b)]⟩ = pure () := by kernel_rfl
theorem newCall_enum_k (a b : Value) : checkBuiltinCall "enumerate.__new__" ⟨[.type "enumerate", a], [(Str.ofString "start", b)]⟩ = pure () := by kernel_rfl
theorem args_object_init_k (a b c : Value) : argsOk "object.__init__" ⟨[a, b], [(Str.ofString "start", c)]⟩ := by
  unfold argsOk; rw [signature?_of (id := "object.__init__") (n := ['_', '_', 't', 'i', 'n', 'i', '_', '_']) (o := ['t', 'c', 'e', 'j', 'b', 'o']) (by kernel_rfl) F.owner_object]; kernel_rfl
theorem meets_enum_zip (z TI TO : Addr) (u : Tok) :
    Meets (Builtin.«enumerate.__new__» ⟨[.type "enumerate", .ref z], [(Str.ofString "start", .int 1 u)]⟩) (fun _ R s => (s.heap.get? z = some (zipO .none false TI TO)) ∧
      R (.ok (.ret (.ref s.heap.objs.size))) { s with heap := s.heap.push { cls := .type "enumerate", data := .fields #[.none, .bool false, .ref z, rawInt 1, .none, .none] } }) :=
  .of_wp fun prog w A R s h => by
    obtain ⟨hp, g, d, tk, os⟩ := s; obtain ⟨hz, h⟩ := h
    have hsub := sub_enumerate
    wp_walk
    refine wpAny_stack_any fun st => wpAny_pure ?_
    split
    · rename_i c _ _ _ _ _
      cases (c == Value.type "enumerate")
      · wp_walk using wpAny_pyIter_zip hz
        exact ⟨_, rfl, h⟩
      · wp_walk using wpAny_pyIter_zip hz
        exact ⟨_, rfl, h⟩
    · wp_walk using wpAny_pyIter_zip hz
      exact ⟨_, rfl, h⟩
abbrev szH1 (h : Heap) (x : Str) (t : Tok) : Heap := h.push { cls := .type "str_ascii_iterator", data := .fields #[.str x t, .int 0 0] }
abbrev szH2 (h : Heap) (x y : Str) (t u : Tok) : Heap := (szH1 h x t).push { cls := .type "str_ascii_iterator", data := .fields #[.str y u, .int 0 0] }
abbrev szH3 (h : Heap) (x y : Str) (t u : Tok) : Heap := (szH2 h x y t u).push { cls := .type "tuple", data := .seq #[.ref h.objs.size, .ref (szH1 h x t).objs.size] }
abbrev szH4 (h : Heap) (x y : Str) (t u : Tok) : Heap := (szH3 h x y t u).push { cls := .type "tuple", data := .seq #[.none, .none] }
abbrev szH5 (h : Heap) (x y : Str) (t u : Tok) : Heap := (szH4 h x y t u).push { cls := .type "zip", data := .fields #[.none, .bool false, .bool false, .ref (szH2 h x y t u).objs.size, .ref (szH3 h x y t u).objs.size] }
theorem meets_zip_strs (x y : Str) (t u : Tok) (hx : x.cps.all (· < 128) = true) (hy : y.cps.all (· < 128) = true) :
    Meets (Builtin.«zip.__new__» ⟨[.type "zip", .str x t, .str y u], []⟩) (fun _ R s => R (.ok (.ret (.ref (szH4 s.heap x y t u).objs.size))) { s with heap := szH5 s.heap x y t u }) :=
  .of_wp fun prog w A R s h => by
    obtain ⟨hp, g, d, tk, os⟩ := s
    have hsub := sub_zip
    wp_walk using wpAny_pyIter_ascii hx, wpAny_pyIter_ascii hy
    exact ⟨_, rfl, h⟩
section
variable {prog : Program} {w : World} {A : Around} {E : Value → Shared → Prop} {s : Shared}
theorem callWith_type_kw {env : Env} {pos : Pos} {T : String} {e : Expr} {rest : List Expr} {kws : List Keyword} {Q : Value → Shared → Prop}
    (h : wpAny (model prog w) A (spliced (backTo pos (starEach (e :: rest) env))) (fun vs s₁ => wpAny (model prog w) A (evalAll ((backToKw pos (keywordEach kws env)).map (·.2)))
      (fun kvs s₂ => wpAny (model prog w) A (call (.type T) vs (((backToKw pos (keywordEach kws env)).filterMap (·.1)).zip kvs)) Q E s₂) E s₁) E s)
    (he : backTo pos (starEach (e :: rest) env) = (false, eval e env) :: backTo pos (starEach rest env) := by rfl)
    (hplain : (backTo pos (starEach (e :: rest) env)).any (·.1) = false := by rfl)
    (hall : (backToKw pos (keywordEach kws env)).all (·.1.isSome) = true := by rfl)
    (hkw : (backToKw pos (keywordEach kws env)).any (·.1.isNone) = false := by rfl) :
    wpAny (model prog w) A (callWith pos (.type T) [] (backTo pos (starEach (e :: rest) env)) (backToKw pos (keywordEach kws env))) Q E s := by
  unfold callWith
  refine wpAny_bind (wpAny_holding (wpAny_mono (Q := fun a s₁ => wpAny (model prog w) A (call (.type T) ([] ++ a.pos) a.kw) Q E s₁) ?_ (fun a s₁ h₁ => wpAny_bind (wpAny_standAt ?_)) fun _ _ x => x))
  · rw [he] at h ⊢
    exact evalArgs_kwB hall h
  · simp only [hplain, hkw, Bool.or_false]
    refine wpAny_bind (wpAny_pure ?_)
    exact wpAny_bind (wpAny_mono h₁ (fun r s₂ hr => wpAny_bind (wpAny_holding (wpAny_point (wpAny_pure hr)))) fun _ _ x => x)
/-- zip of two ascii strs -/
theorem call_zip_strs {x y : Str} {t u : Tok} {Q : Value → Shared → Prop} (hx : x.cps.all (· < 128) = true) (hy : y.cps.all (· < 128) = true)
    (h : ∀ h', h'.get? (s.heap.objs.size + 4) = some (zipO .none false (s.heap.objs.size + 2) (s.heap.objs.size + 3)) → IsPair h' (s.heap.objs.size + 2) (.ref s.heap.objs.size) (.ref (s.heap.objs.size + 1)) →
      IsPair h' (s.heap.objs.size + 3) .none .none → h'.IsStrIter s.heap.objs.size "str_ascii_iterator" x t 0 → h'.IsStrIter (s.heap.objs.size + 1) "str_ascii_iterator" y u 0 → h'.objs.size = s.heap.objs.size + 5 →
      (∀ c o, s.heap.get? c = some o → h'.get? c = some o) → Q (.ref (s.heap.objs.size + 4)) { s with heap := h' }) :
    wpAny (model prog w) A (call (.type "zip") [.str x t, .str y u]) Q E s := by
  refine callType_new F.called_zip (by decide) (F.typeCall_zip_2 _ _) (F.newCall_zip_2 _ _) (fun obj => F.args_object_init_3 obj _ _) F.entry_zip_new (meets_zip_strs x y t u hx hy) ?_
  have z1 : (szH1 s.heap x t).objs.size = s.heap.objs.size + 1 := Heap.size_push ..
  have z2 : (szH2 s.heap x y t u).objs.size = s.heap.objs.size + 2 := by rw [Heap.size_push, z1]
  have z3 : (szH3 s.heap x y t u).objs.size = s.heap.objs.size + 3 := by rw [Heap.size_push, z2]
  have z4 : (szH4 s.heap x y t u).objs.size = s.heap.objs.size + 4 := by rw [Heap.size_push, z3]
  have z5 : (szH5 s.heap x y t u).objs.size = s.heap.objs.size + 5 := by rw [Heap.size_push, z4]
  have g5 : (szH5 s.heap x y t u).get? (szH4 s.heap x y t u).objs.size = some _ := Heap.get?_push_size _ rfl
  have g4 : (szH5 s.heap x y t u).get? (szH3 s.heap x y t u).objs.size = some _ := Heap.get?_push_of_some _ (Heap.get?_push_size _ rfl)
  have g3 : (szH5 s.heap x y t u).get? (szH2 s.heap x y t u).objs.size = some _ := Heap.get?_push_of_some _ (Heap.get?_push_of_some _ (Heap.get?_push_size _ rfl))
  have g2 : (szH5 s.heap x y t u).get? (szH1 s.heap x t).objs.size = some _ := Heap.get?_push_of_some _ (Heap.get?_push_of_some _ (Heap.get?_push_of_some _ (Heap.get?_push_size _ rfl)))
  have g1 : (szH5 s.heap x y t u).get? s.heap.objs.size = some _ := Heap.get?_push_of_some _ (Heap.get?_push_of_some _ (Heap.get?_push_of_some _ (Heap.get?_push_of_some _ (Heap.get?_push_size _ rfl))))
  show _ ∧ _
  rw [z2, z3, z4] at g5
  rw [z1, z2] at g3
  rw [z3] at g4
  rw [z1] at g2
  rw [z4]
  exact ⟨⟨_, g5, rfl⟩, h _ g5 g3 g4 ⟨_, g1, rfl, rfl⟩ ⟨_, g2, rfl, rfl⟩ z5 fun c o x =>
    Heap.get?_push_of_some _ (Heap.get?_push_of_some _ (Heap.get?_push_of_some _ (Heap.get?_push_of_some _ (Heap.get?_push_of_some _ x))))⟩
/-- enumerate of a fresh zip, from one -/
theorem call_enum_zip {z TI TO : Addr} {u : Tok} {Q : Value → Shared → Prop} (hz : s.heap.get? z = some (zipO .none false TI TO))
    (h : ∀ h', IsEnum h' s.heap.objs.size z 1 .none → h'.objs.size = s.heap.objs.size + 1 → (∀ c o, s.heap.get? c = some o → h'.get? c = some o) → Q (.ref s.heap.objs.size) { s with heap := h' }) :
    wpAny (model prog w) A (call (.type "enumerate") [.ref z] [(Str.ofString "start", .int 1 u)]) Q E s := by
  refine callType_newK F.called_enumerate (by decide) (typeCall_enum_k _ _) (newCall_enum_k _ _) (fun obj => args_object_init_k obj _ _) F.entry_enumerate_new (meets_enum_zip z TI TO u) ⟨hz, ?_⟩
  have he : IsEnum (s.heap.push { cls := .type "enumerate", data := .fields #[.none, .bool false, .ref z, rawInt 1, .none, .none] }) s.heap.objs.size z 1 .none := Heap.get?_push_size _ rfl
  exact ⟨⟨_, he, rfl⟩, h _ he (Heap.size_push ..) fun c o x => Heap.get?_push_of_some _ x⟩
end
end Mine
-- Ed3
namespace Mine
section
variable {prog : Program} {w : World} {A : Around} {s : Shared} {env : Env} {h₀ : Heap} {L : Addr}
/-- the loop over enumerate(zip(a str, another), start=1), its table in the ledger -/
theorem zip_mat {R : Result → Shared → Prop} {E : Value → Shared → Prop} {xi xp xc : Str} {q1 q2 q3 q4 q5 q6 q7 q8 q9 : Pos} {n1 n2 : Nat} {body : List Stmt} {x1 x2 : Str} {t1 t2 : Tok} {n : Nat} {pre Tl a mat : List (Addr × Obj)} {m : Str → Option Value}
    (hh : A.handled = none) (hxi : env.kindOf xi = some .local) (hxp : env.kindOf xp = some .local) (hxc : env.kindOf xc = some .local) (hLe : env.locals = L) (hp : (env.scope.kind == .class || (env.scope.kind == .module && env.locals != env.globals)) = false)
    (hx1 : x1.cps.all (· < 128) = true) (hx2 : x2.cps.all (· < 128) = true) (hn1 : x1.cps.size = n + 1) (hn2 : x2.cps.size = n)
    (ts : TS Tl) (F : Fr h₀ L s.heap m) (N : News h₀ L s.heap (pre ++ (Tl ++ (a ++ mat))))
    (J : Nat → (Str → Option Value) → List (Addr × Obj) → Prop) (h0 : J 0 m mat)
    (step : ∀ i m₁ c1 c2 t u1 u2 mat₁ Tl₁ h₁ tk₁ its E', i < n → x1.cps[i]? = some c1 → x2.cps[i]? = some c2 → J i m₁ mat₁ → TS Tl₁ → (∀ p ∈ its, p.1 ≠ 172) → (∀ p ∈ its, ∀ q ∈ mat, p.1 ≠ q.1) → mat₁.map (·.1) = mat.map (·.1) →
      Fr h₀ L h₁ (fun y => if y = xc then some (.str ⟨#[c2]⟩ u2) else if y = xp then some (.str ⟨#[c1]⟩ u1) else if y = xi then some (.int ((i + 1 : Nat) : Int) t) else m₁ y) → News h₀ L h₁ (pre ++ (Tl₁ ++ ((its ++ a) ++ mat₁))) →
      wpAny (model prog w) A (execs body env) (MPost h₀ L s pre (its ++ a) mat (J (i + 1))) E' { s with heap := h₁, toks := tk₁ })
    (done : ∀ h' tk m' Tl' mat', TS Tl' → Fr h₀ L h' m' → News h₀ L h' (pre ++ (Tl' ++ (a ++ mat'))) → mat'.map (·.1) = mat.map (·.1) → J n m' mat' → R (.ok .next) { s with heap := h', toks := tk }) :
    wpAny (model prog w) A (call (.type "zip") [.str x1 t1, .str x2 t2]) (fun v s₁ => wpAny (model prog w) A (spliced (backTo q6 (starEach [] env))) (fun vs s₂ =>
      wpAny (model prog w) A (evalAll (List.map (fun x => x.2) (backToKw q7 (keywordEach [⟨some (Str.ofString "start"), .Constant (.int 1) 0 q8, q9⟩] env)))) (fun kvs s₂ =>
        wpAny (model prog w) A (call (.type "enumerate") (v :: vs) ((List.filterMap (fun x => x.1) (backToKw q7 (keywordEach [⟨some (Str.ofString "start"), .Constant (.int 1) 0 q8, q9⟩] env))).zip kvs)) (fun x s₁ =>
          wpAny (model prog w) A (pyIter x) (fun it s₂ => codeAny (model prog w) A (.forLoop (.Tuple [.Name xi q1, .Tuple [.Name xp q2, .Name xc q3] n1 q4] n2 q5) it body [] env) R s₂) E s₁) E s₂) E s₂) E s₁) E s := by
  refine call_zip_strs hx1 hx2 fun h₁ hz hti hto hi1 hi2 hsz hk₁ => spliced_none (kws_cons (wpAny_Constant_int (kws_nil ?_)))
  show wpAny _ _ (call (.type "enumerate") [.ref (s.heap.objs.size + 4)] [(Str.ofString "start", .int 1 s.toks)]) _ _ { s with heap := h₁, toks := s.toks + 1 }
  refine call_enum_zip (TI := s.heap.objs.size + 2) (TO := s.heap.objs.size + 3) hz fun h₂ he hsz₂ hk₂ => ?_
  dsimp only at he hsz₂ hk₂ ⊢
  rw [hsz] at he hsz₂ ⊢
  refine wpAny_pyIter_enum he ?_
  have up : ∀ b o, s.heap.get? b = some o → h₂.get? b = some o := fun b o x => hk₂ b o (hk₁ b o x)
  have D : Ap6 (s.heap.objs.size + 5) (s.heap.objs.size + 4) (s.heap.objs.size + 2) (s.heap.objs.size + 3) s.heap.objs.size (s.heap.objs.size + 1) :=
    { TIz := neN (by omega), TOz := neN (by omega), i1z := neN (by omega), i2z := neN (by omega), TITO := neN (by omega), TIi1 := neN (by omega), TIi2 := neN (by omega), TOi1 := neN (by omega), TOi2 := neN (by omega), i12 := neN (by omega), ze := neN (by omega), TIe := neN (by omega), TOe := neN (by omega), i1e := neN (by omega), i2e := neN (by omega) }
  have big : ∀ b ∈ [s.heap.objs.size + 5, s.heap.objs.size + 4, s.heap.objs.size + 2, s.heap.objs.size + 3, s.heap.objs.size, s.heap.objs.size + 1], s.heap.objs.size ≤ b := fun b hb => by
    simp only [List.mem_cons, List.not_mem_nil, or_false] at hb
    omega
  have lt : ∀ p ∈ pre ++ (Tl ++ (a ++ mat)), @LT.lt Nat _ p.1 s.heap.objs.size := fun p hp => Heap.lt_size (N p hp).1
  have hLlt : @LT.lt Nat _ L s.heap.objs.size := F.ns.lt
  have h172 : @LT.lt Nat _ 172 s.heap.objs.size := by
    obtain ⟨o, ho, _⟩ := ts.mem172
    exact lt _ (List.mem_append.mpr (.inr (List.mem_append.mpr (.inl ho))))
  have fresh : ∀ b, s.heap.objs.size ≤ b → h₀.get? b = none := fun b hb => by
    cases q : h₀.get? b with
    | none => rfl
    | some o => exact absurd (Heap.lt_size (F.keep b o q)) (Nat.not_lt.mpr hb)
  have W := Turns.enumzip (prog := prog) (w := w) (A := A) (e := s.heap.objs.size + 5) (z := s.heap.objs.size + 4) (TI := s.heap.objs.size + 2) (TO := s.heap.objs.size + 3) (i1 := s.heap.objs.size) (i2 := s.heap.objs.size + 1) (x1 := x1) (x2 := x2) (t1 := t1) (t2 := t2) (q1 := q1) (q2 := q2) (q3 := q3) (q4 := q4) (q5 := q5) (n1 := n1) (n2 := n2)
    (h₀ := h₀) (L := L) hh hxi hxp hxc hLe hp D (fun b hb => fresh b (big b hb)) (fun hb => absurd (big _ hb) (Nat.not_le.mpr hLlt)) hn1 hn2
  refine loop_mat (s := { s with heap := h₂, toks := s.toks + 1 }) W (fun b hb => fresh b (big b hb)) (fun hb => absurd (big _ hb) (Nat.not_le.mpr hLlt)) (fun hb => absurd (big _ hb) (Nat.not_le.mpr h172))
    (fun p hp hb => absurd (big _ hb) (Nat.not_le.mpr (lt p (List.mem_append.mpr (.inl hp))))) (fun p hp hb => absurd (big _ hb) (Nat.not_le.mpr (lt p (List.mem_append.mpr (.inr (List.mem_append.mpr (.inr (List.mem_append.mpr (.inl hp)))))))))
    (fun p hp hb => absurd (big _ hb) (Nat.not_le.mpr (lt p (List.mem_append.mpr (.inr (List.mem_append.mpr (.inr (List.mem_append.mpr (.inr hp)))))))))
    ts (F.keeps up) (N.grown up) ⟨⟨.none, he⟩, ⟨.none, false, .inl rfl, hk₂ _ _ hz⟩, hk₂ _ _ hti, ⟨_, _, hk₂ _ _ hto⟩, sit_at hi1 fun o x => hk₂ _ o x, sit_at hi2 fun o x => hk₂ _ o x⟩ J h0 (fun i m₁ m₂ mat₁ Tl₁ h₃ tk₃ its E' hi hU hJ ts₁ hits hm F₁ N₁ => ?_) done
  obtain ⟨c1, c2, t, u1, u2, hc1, hc2, rfl⟩ := hU
  refine wpAny_mono (step i m₁ c1 c2 t u1 u2 mat₁ Tl₁ h₃ tk₃ its E' hi hc1 hc2 hJ ts₁ (fun p hp => Ne.symm (Nat.ne_of_lt (Nat.lt_of_lt_of_le h172 (big _ (hits p hp))))) (fun p hp q hq => Ne.symm (Nat.ne_of_lt (Nat.lt_of_lt_of_le (lt q (List.mem_append.mpr (.inr (List.mem_append.mpr (.inr (List.mem_append.mpr (.inr hq))))))) (big _ (hits p hp))))) hm F₁ N₁) (fun f s' h' => ?_) fun _ _ e => e
  cases h' with | next a1 a2 a3 a4 a5 => exact .next a1 a2 a3 a4 a5
theorem min3_K {Q : Value → Shared → Prop} {E : Value → Shared → Prop} {a b c : Int} {t u x : Tok} {m : Str → Option Value} {news : List (Addr × Obj)} (hh : A.handled = none) (F : Fr h₀ L s.heap m) (N : News h₀ L s.heap news)
    (h : ∀ h' tk t', Fr h₀ L h' m → News h₀ L h' news → Q (.int (min (min a b) c) t') { s with heap := h', toks := tk }) : wpAny (model prog w) A (call (.builtin "min") [.int a t, .int b u, .int c x]) Q E s := by
  refine min_three_ints hh fun h' tk hk => ?_
  have h1 := fun t' => h h' tk t' (F.keeps hk) (N.grown hk)
  by_cases hba : b < a
  · rw [if_pos hba]
    by_cases hcb : c < b
    · rw [if_pos hcb]
      have e : min (min a b) c = c := by omega
      exact e ▸ h1 x
    · rw [if_neg hcb]
      have e : min (min a b) c = b := by omega
      exact e ▸ h1 u
  · rw [if_neg hba]
    by_cases hca : c < a
    · rw [if_pos hca]
      have e : min (min a b) c = c := by omega
      exact e ▸ h1 x
    · rw [if_neg hca]
      have e : min (min a b) c = a := by omega
      exact e ▸ h1 t
end
end Mine
-- Ed2
namespace Mine
theorem fresh_Ed2 : True := by (w_top off; exact trivial)
local macro_rules | `(tactic| k_room) => `(tactic| ktr_room)
local macro_rules | `(tactic| walk_at "MY rest") => `(tactic| (
  refine' kp_rest ?k1 ?k2 ?k3 ?k4 ?k5 ?kA ?kF ?kK ?k6 ?k7 ?k8 ?kV ?kP ?kG ?kB ?_ ?c2 ?c3 ?c4 ?c5
  (case kA => exact rfl)
  (case kF => first | exact rfl | assumption)
  (case kK => first | exact rfl | assumption)
  (case k1 => k_asm)
  (case k2 => k_asm)
  (case k3 => k_asm)
  (case k4 => k_asm)
  (case k5 => k_asm)
  (case k6 => k_is)
  (case k7 => k_is)
  (case k8 => k_room)
  (case kV => kl_lit)
  (case kP => exact rfl)
  (case kG => exact fun _ => rfl)
  (case kB => exact fun _ => locs rfl)
  (case c5 => decide)
  (case c2 => exact rfl)
  (case c3 => exact rfl)
  (case c4 => exact rfl)
  k_whole
  intro D' g' L' h' l1 FG' F' N' B' X' T'
  (try k_lt l1); (try dsimp only); (try k_lift B'); (try k_fold)))
local macro_rules | `(tactic| walk_at "MY plain") => `(tactic| (
  refine' code_def ?k1 ?k2 ?k3 ?k4 ?k5 ?kA ?kF ?kK ?k6 ?k7 ?k8 ?k9 ?kB ?_ ?c2 ?c3 ?c4 ?c5
  (case kA => exact rfl)
  (case kF => first | exact rfl | assumption)
  (case kK => first | exact rfl | assumption)
  (case k1 => k_asm)
  (case k2 => k_asm)
  (case k3 => k_asm)
  (case k4 => k_asm)
  (case k5 => k_asm)
  (case k6 => k_is)
  (case k7 => k_is)
  (case k8 => k_room)
  (case k9 => first | exact BindsTo.of_eq rfl | exact binds_K (by k_in) rfl (by k_is) rfl rfl rfl)
  (case c5 => decide)
  (case kB => exact locs rfl)
  (case c2 => exact rfl)
  (case c3 => exact rfl)
  (case c4 => exact rfl)
  k_whole
  intro g' L' h' FG' F' N' B' X' T'
  (try dsimp only); (try k_lift B'); (try k_fold)))
local macro_rules | `(tactic| walk_at "getAttr ref") => `(tactic| (k_here; (with_reducible show wpAny _ _ (getAttr (Value.ref _) (PySem.Str.ofString "_ident") _) _ _ _); k_dflt (refine' get_sm ?k1 ?k2 ?k3 ?k4 ?k5 ?k6 ?k7 ?k8 ?k9 ?k10 ?k11 ?k12 ?_; (case k3 => k_inst); (case k1 => k_asm); (case k2 => k_asm); (case k6 => k_is); (case k4 => k_is); (case k5 => k_is); (case k7 => k_is); (case k8 => k_is); (case k9 => decide +kernel); (case k10 => k_get); (case k11 => k_is); (case k12 => k_handed); k_whole)))
local macro_rules | `(tactic| walk_at "eval Call Attribute") => `(tactic| (k_here; (with_reducible show wpAny _ _ (eval (Expr.Call (Expr.Attribute (Expr.Name _ _) _ _) [Expr.Starred _ _] [] _) _) _ _ _); refine starMethod ?_))
local macro_rules | `(tactic| walk_at "MY restC") => `(tactic| (
  refine' kpc_rest ?k1 ?k2 ?k3 ?k4 ?k5 ?kA ?kF ?kK ?k6 ?k7 ?k8 ?kV ?kP ?kG ?kB ?kD ?_ ?c2 ?c3 ?c4
  (case kA => exact rfl)
  (case kF => first | exact rfl | assumption)
  (case kK => first | exact rfl | assumption)
  (case k1 => k_asm)
  (case k2 => k_asm)
  (case k3 => k_asm)
  (case k4 => k_asm)
  (case k5 => k_asm)
  (case k6 => k_is)
  (case k7 => k_is)
  (case k8 => k_room)
  (case kV => kl_lit)
  (case kP => exact rfl)
  (case kG => exact fun _ => rfl)
  (case kB => exact fun _ => rfl)
  (case kD => decide +kernel)
  (case c2 => exact rfl)
  (case c3 => exact rfl)
  (case c4 => exact rfl)
  k_whole
  intro D' g' L' h' tk' cells' l1 l2 FG' F' N' Y' B' X' T'
  (try k_lt l1); (try k_lt2 l2); k_cells Y'; (try simp only [List.cons_append, List.nil_append] at N'); (try dsimp only); (try k_lift B'); (try k_fold)))
local macro_rules | `(tactic| walk_at "call ref") => `(tactic| (k_here; (with_reducible show wpAny _ _ (call (Value.ref 95) _) _ _ _); k_dflt (refine wpAny_call ?_; refine' ident_c ?k1 ?k2 ?k3 ?k4 ?k5 ?k6 ?k7 ?k8 ?k9 ?_; (case k1 => k_asm); (case k2 => k_asm); (case k3 => k_asm); (case k4 => k_asm); (case k5 => k_asm); (case k6 => first | exact rfl | assumption); (case k7 => first | exact rfl | assumption); (case k8 => (dsimp only [Arnd, Around.deeper] at *; omega)); (case k9 => (dsimp only [Arnd, Around.deeper] at *; omega)); k_whole); intro h' tk' F' N'; (try dsimp only); (try k_sweep)))
local macro_rules | `(tactic| walk_at "MY memT") => `(tactic| (first | (refine List.mem_append_left _ ?_; assumption) | (refine List.Mem.tail _ ?_; walk_at "MY memT")))
local macro_rules | `(tactic| walk_at "MY split") => `(tactic| (first | exact Split.base | (refine' Split.cons ?sp; (case sp => walk_at "MY split"))))
local macro_rules | `(tactic| walk_at "MY off") => `(tactic| ((try dsimp only); simp only [List.forall_mem_cons, List.not_mem_nil, false_implies, implies_true, and_true]; (repeat' (refine And.intro ?_ ?_)); all_goals (first | assumption | (refine neN ?_; (try dsimp only); omega))))
local macro_rules | `(tactic| walk_at "eval Lambda") => `(tactic| (k_here; k_dflt (refine' kla_eval ?d0 ?_; (case d0 => exact rfl)); (first
  | (k_dflt (refine' lam_S1 ?ts ?F ?N ?hg ?T ?C ?off ?offo ?hq ?e1 ?e2 ?hcl ?_; (case ts => assumption); (case F => k_asm); (case N => k_asm); (case hg => walk_at "MY split"); (case T => k_asm); (case C => assumption); (case off => walk_at "MY off"); (case offo => assumption); (case hq => first | rfl | with_unfolding_all rfl); (case e1 => rfl); (case e2 => rfl); (case hcl => exact rfl); k_whole); intro f' c' oc' ct' h' tk' Tl' F' N' ts' hm' hc' l1'; (try simp only [List.cons_append, List.nil_append] at N'))
  | (k_dflt (refine' lam_S2 ?ts ?F ?N ?hg ?T ?C ?off ?offo ?hq ?e1 ?e2 ?hcl ?_; (case ts => assumption); (case F => k_asm); (case N => k_asm); (case hg => walk_at "MY split"); (case T => k_asm); (case C => assumption); (case off => walk_at "MY off"); (case offo => assumption); (case hq => first | rfl | with_unfolding_all rfl); (case e1 => rfl); (case e2 => rfl); (case hcl => exact rfl); k_whole); intro f' c' oc' ct' h' tk' Tl' F' N' ts' hm' hc' l1'; (try simp only [List.cons_append, List.nil_append] at N')))))
local macro_rules | `(tactic| walk_at "call type:map") => `(tactic| (k_here; k_dflt (refine' map_K ?F ?N ?m ?c ?d ?_; (case F => k_asm); (case N => k_asm); (case m => k_mem); (case c => exact rfl); (case d => exact rfl); k_whole); intro h' mp' it' F' N' hX' hlt' hL' h0'; (try dsimp only)))
local macro_rules | `(tactic| walk_at "call builtin:any") => `(tactic| (k_here; k_dflt (refine' any_lam1 ?hh ?room ?F ?N ?X ?T ?M ?lt ?L ?h0 ?ho ?hoc ?hc ?hcs ?hcd ?hx ?hdx ?_; (case hh => exact rfl); (case room => (dsimp only [Arnd, Around.deeper] at *; omega)); (case F => k_asm); (case N => k_asm); (case X => k_asm); (case T => k_asm); (case M => assumption); (case lt => assumption); (case L => assumption); (case h0 => assumption); (case ho => k_mem); (case hoc => walk_at "MY memT"); (case hc => assumption); (case hcs => k_mem); (case hcd => assumption); (case hx => k_mem); (case hdx => k_mem); k_whole); intro h' tk' F' N'; (try dsimp only)))
local macro_rules | `(tactic| walk_at "call builtin:all") => `(tactic| (k_here; k_dflt (refine' all_lam2 ?hh ?room ?F ?N ?X ?T ?M ?lt ?L ?h0 ?ho ?hoc ?hc ?hcs ?hcd ?_; (case hh => exact rfl); (case room => (dsimp only [Arnd, Around.deeper] at *; omega)); (case F => k_asm); (case N => k_asm); (case X => k_asm); (case T => k_asm); (case M => assumption); (case lt => assumption); (case L => assumption); (case h0 => assumption); (case ho => k_mem); (case hoc => walk_at "MY memT"); (case hc => assumption); (case hcs => k_mem); (case hcd => assumption); k_whole); intro h' tk' F' N'; (try dsimp only)))
local macro_rules | `(tactic| walk_at "MY sub") => `(tactic| (first | assumption | (refine List.Mem.tail _ ?_; walk_at "MY sub")))
local macro_rules | `(tactic| walk_at "MY fin") => `(tactic| (with_reducible rename Fr h₀ _ _ _ => kF; with_reducible rename News h₀ _ _ _ => kN))
local macro_rules | `(tactic| walk_at "callWith ref") => `(tactic| (k_here; (with_reducible show wpAny _ _ (callWith _ (Value.ref _) _ (backTo _ (starEach [Expr.Starred _ _] _)) []) _ _ _); k_dflt (refine' callWith_SM ?k1 ?k2 ?k3 ?k4 ?_; (case k1 => k_asm); (case k2 => k_asm); (case k3 => k_mem); (case k4 => k_is); k_whole)))
local macro_rules | `(tactic| walk_at "MY plainC") => `(tactic| (refine' code_defC ?k1 ?k2 ?k3 ?k4 ?k5 ?kA ?kF ?kK ?k6 ?k7 ?k8 ?k9 ?kB ?kD ?_ ?c2 ?c3 ?c4; (case kA => exact rfl); (case kF => first | exact rfl | assumption); (case kK => first | exact rfl | assumption); (case k1 => k_asm); (case k2 => k_asm); (case k3 => k_asm); (case k4 => k_asm); (case k5 => k_asm); (case k6 => k_is); (case k7 => k_is); (case k8 => k_room); (case k9 => first | exact BindsTo.of_eq rfl | exact binds_K (by k_in) rfl (by k_is) rfl rfl rfl); (case kB => exact rfl); (case kD => decide +kernel); (case c2 => exact rfl); (case c3 => exact rfl); (case c4 => exact rfl); k_whole; intro g' L' h' tk' cells' FG' F' N' Y' B' X' T' l1; (try k_lt l1); k_cells Y'; (try simp only [List.cons_append, List.nil_append] at N'); (try dsimp only); (try k_lift B'); (try k_fold)))
local macro_rules | `(tactic| walk_at "MY memO") => `(tactic| (first | exact List.mem_append.mpr (.inr (List.mem_append.mpr (.inr (by assumption)))) | (refine List.Mem.tail _ ?_; walk_at "MY memO")))
local macro_rules | `(tactic| walk_at "subscriptTail") => `(tactic| (k_here; (with_reducible show wpAny _ _ (subscriptTail _ _ (Value.ref _) (Value.int _ _)) _ _ _); k_dflt (refine' mat_row ?N ?H ?sub ?h0 ?h1 ?hN ?_; (case H => assumption); (case N => k_asm); (case sub => (intro q hq; walk_at "MY memO")); (case h0 => omega); (case h1 => omega); (case hN => omega); k_whole); (try dsimp only)))
local macro_rules | `(tactic| walk_at "getItem ref") => `(tactic| (k_here; (with_reducible show wpAny _ _ (getItem (Value.ref _) (Value.int _ _)) _ _ _); k_dflt (refine' mat_getRow ?N ?H ?sub ?h0 ?h1 ?hN ?_; (case H => assumption); (case N => k_asm); (case sub => (intro q hq; walk_at "MY memO")); (case h0 => omega); (case h1 => omega); (case hN => omega); k_whole); (try dsimp only)))
local macro_rules | `(tactic| walk_at "subscriptTail") => `(tactic| (k_here; (with_reducible show wpAny _ _ (subscriptTail _ _ (Value.ref (List.getD _ _ _)) (Value.int _ _)) _ _ _); k_dflt (refine' mat_cell ?N ?H ?sub ?hi ?h0 ?h1 ?hN ?_; (case H => assumption); (case N => k_asm); (case sub => (intro q hq; walk_at "MY memO")); (case hi => omega); (case h0 => omega); (case h1 => omega); (case hN => omega); k_whole); intro t'; (try dsimp only)))
local macro_rules | `(tactic| walk_at "setItem ref int") => `(tactic| (k_here; (with_reducible show wpAny _ _ (setItem (Value.ref (List.getD _ _ _)) (Value.int _ _) (Value.int _ _)) _ _ _); k_dflt (refine' mat_set ?ts ?F ?N ?S ?H ?hpre ?ha ?hi ?h0 ?h1 ?hN ?_; (case H => assumption); (case ts => assumption); (case F => k_asm); (case N => k_asm); (case S => walk_at "MY split"); (case hpre => assumption); (case ha => assumption); (case hi => omega); (case h0 => omega); (case h1 => omega); (case hN => omega); k_whole); intro h' own' F' N' H' hm'; (try simp only [List.cons_append, List.nil_append] at N'); (try dsimp only)))
local macro_rules | `(tactic| walk_at "MY look") => `(tactic| (first | rfl | assumption | (refine Eq.trans (if_neg (by decide)) ?_; walk_at "MY look")))
local macro_rules | `(tactic| walk_at "eval Name") => `(tactic| (k_here; k_dflt (refine' nameX_L ?F ?v ?_ ?a ?b; (case F => k_asm); (case a => rfl); (case b => rfl); (case v => ((try dsimp only); walk_at "MY look")); k_whole)))
local macro_rules | `(tactic| walk_at "eval Call Attribute") => `(tactic| (k_here; k_dflt (refine' MethodCallL ?hl ?_; (case hl => assumption))))
local macro_rules | `(tactic| walk_at "callWith type:enumerate") => `(tactic| (k_here; k_dflt (refine callWith_type_kw ?_)))
local macro_rules | `(tactic| walk_at "evalAll") => `(tactic| (k_here; k_dflt (first | refine kws_cons ?_ | refine kws_nil ?_)))
local macro_rules | `(tactic| walk_at "call builtin:min") => `(tactic| (k_here; (with_reducible show wpAny _ _ (call (Value.builtin _) [Value.int _ _, Value.int _ _, Value.int _ _]) _ _ _); k_dflt (refine' min3_K ?hh ?F ?N ?_; (case hh => exact rfl); (case F => k_asm); (case N => k_asm); k_whole); intro h' tk' t' F' N'; (try dsimp only)))
local macro_rules | `(tactic| walk_at "call ref") => `(tactic| (k_here; (with_reducible show wpAny _ _ (call (Value.ref 184) _) _ _ _); k_dflt (refine wpAny_call ?_; refine' d_cost_s ?B ?F ?X ?T ?hf ?hke ?ts ?N ?S ?hx ?hdx ?off ?offo ?C ?hdp ?hun ?_; (case B => k_asm); (case F => k_asm); (case X => k_asm); (case T => k_asm); (case hf => first | exact rfl | assumption); (case hke => first | exact rfl | assumption); (case ts => first | assumption | exact TS1.ts (by assumption)); (case N => k_asm); (case S => walk_at "MY split"); (case hx => k_mem); (case hdx => k_mem); (case off => walk_at "MY off"); (case offo => first | assumption | exact off_both (by assumption) (MatL.off (by assumption))); (case C => assumption); (case hdp => (dsimp only [Arnd, Around.deeper] at *; omega)); (case hun => (dsimp only [Arnd, Around.deeper] at *; omega)); k_whole); intro h' tk' t' Tl' F' N' ts'; (try simp only [List.cons_append, List.nil_append] at N'); (try dsimp only)))
local macro_rules | `(tactic| walk_at "call ref") => `(tactic| (k_here; (with_reducible show wpAny _ _ (call (Value.ref 177) _) _ _ _); k_dflt (refine wpAny_call ?_; refine' r_cost_s ?B ?F ?X ?T ?hf ?hke ?ts ?N ?S ?hx ?hdx ?off ?offo ?C ?hdp ?hun ?_; (case B => k_asm); (case F => k_asm); (case X => k_asm); (case T => k_asm); (case hf => first | exact rfl | assumption); (case hke => first | exact rfl | assumption); (case ts => first | assumption | exact TS1.ts (by assumption)); (case N => k_asm); (case S => walk_at "MY split"); (case hx => k_mem); (case hdx => k_mem); (case off => walk_at "MY off"); (case offo => first | assumption | exact off_both (by assumption) (MatL.off (by assumption))); (case C => assumption); (case hdp => (dsimp only [Arnd, Around.deeper] at *; omega)); (case hun => (dsimp only [Arnd, Around.deeper] at *; omega)); k_whole); intro h' tk' t' Tl' F' N' ts'; (try simp only [List.cons_append, List.nil_append] at N'); (try dsimp only)))
section
variable {w : World} {p : Program} {loose : List Str} {mean : ExcName → Option Value} {mg mb : Str → Option Value} {dp un : Nat} {gd : Option (List Code)} {env : Env} {outer : List Env} {A₀ : Around} {base h₀ : Heap} {L : Addr} {m : Str → Option Value} {news : List (Addr × Obj)} {s : Shared} {R : Result → Shared → Prop}
variable {x dx : Addr} {c0 c1 c2 : Int} {lo ex : Bool} {k1 k2 k3 k4 k5 k6 v1 v2 v3 v6 : Tok} {n : Nat} {own Tl : List (Addr × Obj)} {lw M : Addr} {oc : Obj} {rs : List Addr} {a mat : List (Addr × Obj)} {N2 n1 : Nat} {V : Nat → Nat → Int} {U2 : Str} {tu2 tl2 : Tok} {Q : Flow → Shared → Prop} {E : Value → Shared → Prop} {q1 q2 q3 q4 q5 q6 q7 q8 q9 q10 q11 q12 q13 q14 q15 q16 q17 q18 q19 q20 q21 q22 q23 q24 q25 q26 q27 q28 q29 q30 q31 q32 q33 q34 q35 q36 q37 q38 q39 q40 q41 q42 q43 q44 q45 q46 q47 q48 q49 q50 q51 q52 q53 q54 q55 q56 q57 q58 q59 q60 q61 q62 q63 q64 q65 q66 : Pos} {kk52 kk53 : Nat}
theorem inner_loop (B : Below (Arnd dp un gd env outer) base (env :: outer) h₀) (X : (hd.heap_39 w.params).In h₀) (T : Top p loose mean mg mb h₀) (C : CodeHd h₀ 176 172) (hqq17 : q17.endLine = q18.line) (hqq30 : q30.endLine = q31.line) (hqq45 : q45.endLine = q46.line) (F : Fr h₀ L s.heap m) (N : News h₀ L s.heap ((L + 1, oc) :: (x, instObj 192 dx) :: (dx, (dictOf (edD w.params c0 c1 c2 lo ex k1 k2 k3 k4 k5 k6 v1 v2 v3 v6) n)) :: (Tl ++ (a ++ mat)))) (ts : TS Tl) (H : MatL lw M rs mat (n1 + 1) (N2 + 1) V)
  (hself : m (Str.ofString "self") = some (.ref x)) (hs2 : m (Str.ofString "s2") = some (.str U2 tu2)) (hdm : m (Str.ofString "d_mat") = some (.ref M)) (hU : U2.length = N2 + 1) (hn1 : n1 ≤ 8) (hN2 : N2 ≤ 8)
  {ii : Nat} {ti tp tc : Tok} {cp cc : Str} (hi : m (Str.ofString "i") = some (.int ((ii + 1 : Nat) : Int) ti)) (hcp : m (Str.ofString "cs1_prev") = some (.str cp tp)) (hcc : m (Str.ofString "cs1_curr") = some (.str cc tc)) (hii : ii < n1)
  (hpre : ∀ p ∈ [(L + 1, oc), (x, instObj 192 dx), (dx, (dictOf (edD w.params c0 c1 c2 lo ex k1 k2 k3 k4 k5 k6 v1 v2 v3 v6) n))], ∀ r ∈ rs, p.1 ≠ r) (ha : ∀ p ∈ a, ∀ r ∈ rs, p.1 ≠ r) (offa : ∀ p ∈ a, p.1 ≠ 172) (offl : L + 1 ≠ 172) (offx : x ≠ 172) (offd : dx ≠ 172) (hdp : dp + 40 < recursionLimit) (hun : un + 512 < cLine)
  (hasc : U2.cps.all (· < 128) = true) (hasl : (Txt.slice U2 (some 1) none).cps.all (· < 128) = true) (hsl : (Txt.slice U2 (some 1) none).cps.size = N2) {e2 g2 : Nat → Int}
  (hc : ∀ k d1 d2, U2.cps[k]? = some d1 → (Txt.slice U2 (some 1) none).cps[k]? = some d2 → e2 (k + 1) = stv c0 c1 c2 ⟨#[d1]⟩ ⟨#[d2]⟩ ∧ g2 (k + 1) = rcv c0 c1 c2 cc ⟨#[d2]⟩)
  (hQ : ∀ h' tk' vj vp vc Tl' mat' V', TS Tl' → Fr h₀ L h' (fun y => if y = Str.ofString "cs2_curr" then vc else if y = Str.ofString "cs2_prev" then vp else if y = Str.ofString "j" then vj else m y) → News h₀ L h' ((L + 1, oc) :: (x, instObj 192 dx) :: (dx, (dictOf (edD w.params c0 c1 c2 lo ex k1 k2 k3 k4 k5 k6 v1 v2 v3 v6) n)) :: (Tl' ++ (a ++ mat'))) → MatL lw M rs mat' (n1 + 1) (N2 + 1) V' → mat'.map (·.1) = mat.map (·.1) →
    (∀ k, k < N2 → V' (ii + 1) (k + 1) = min (min (V ii (k + 1) + stv c0 c1 c2 cp cc) (V' (ii + 1) k + e2 (k + 1))) (V ii k + g2 (k + 1))) → (∀ p q, p ≠ ii + 1 ∨ q = 0 → V' p q = V p q) → Q .next { s with heap := h', toks := tk' }) :
  wpAny (model PySem.Challenge.rw_bs0041_01.row.prog w) ((Arnd dp un gd env outer).deeper (callEnv L)) (exec (.For (.Tuple [(.Name (Str.ofString "j") q50), .Tuple [(.Name (Str.ofString "cs2_prev") q51), (.Name (Str.ofString "cs2_curr") q52)] kk52 q53] kk53 q54) (.Call (.Name (Str.ofString "enumerate") q55) [(.Call (.Name (Str.ofString "zip") q56) [(.Name (Str.ofString "s2") q57), (.Subscript (.Name (Str.ofString "s2") q58) (.Slice (some (.Constant (.int 1) 0 q59)) none none q60) q61)] [] q62)] [⟨some (Str.ofString "start"), (.Constant (.int 1) 0 q63), q64⟩] q65) [(.Assign [(.Subscript (.Subscript (.Name (Str.ofString "d_mat") q1) (.Name (Str.ofString "i") q2) q3) (.Name (Str.ofString "j") q4) q5)] (.Call (.Name (Str.ofString "min") q6) [(.BinOp (.Subscript (.Subscript (.Name (Str.ofString "d_mat") q7) (.BinOp (.Name (Str.ofString "i") q8) .Sub (.Constant (.int 1) 0 q9) q10) q11) (.Name (Str.ofString "j") q12) q13) .Add (.Call (.Attribute (.Name (Str.ofString "self") q14) (Str.ofString "d_cost") q17) [(.Name (Str.ofString "cs1_prev") q15), (.Name (Str.ofString "cs1_curr") q16)] [] q18) q19), (.BinOp (.Subscript (.Subscript (.Name (Str.ofString "d_mat") q20) (.Name (Str.ofString "i") q21) q22) (.BinOp (.Name (Str.ofString "j") q23) .Sub (.Constant (.int 1) 0 q24) q25) q26) .Add (.Call (.Attribute (.Name (Str.ofString "self") q27) (Str.ofString "d_cost") q30) [(.Name (Str.ofString "cs2_prev") q28), (.Name (Str.ofString "cs2_curr") q29)] [] q31) q32), (.BinOp (.Subscript (.Subscript (.Name (Str.ofString "d_mat") q33) (.BinOp (.Name (Str.ofString "i") q34) .Sub (.Constant (.int 1) 0 q35) q36) q37) (.BinOp (.Name (Str.ofString "j") q38) .Sub (.Constant (.int 1) 0 q39) q40) q41) .Add (.Call (.Attribute (.Name (Str.ofString "self") q42) (Str.ofString "r_cost") q45) [(.Name (Str.ofString "cs1_curr") q43), (.Name (Str.ofString "cs2_curr") q44)] [] q46) q47)] [] q48) q49)] [] q66) (callEnv L)) Q E s := by
  revert X; k_fill; intro X
  refine wpAny_For ?_
  k_steps
  with_reducible rename Fr _ _ _ _ => FL
  with_reducible rename News _ _ _ _ => NL
  refine zip_mat (L := L) (n := N2) (pre := [(L + 1, oc), (x, instObj 192 dx), (dx, (dictOf (edD w.params c0 c1 c2 lo ex k1 k2 k3 k4 k5 k6 v1 v2 v3 v6) n))]) (a := a) (mat := mat) rfl rfl rfl rfl rfl rfl hasc hasl hU hsl ts FL NL (fun j m₁ mat₁ => ∃ vj vp vc V₁, m₁ = (fun y => if y = Str.ofString "cs2_curr" then vc else if y = Str.ofString "cs2_prev" then vp else if y = Str.ofString "j" then vj else m y) ∧ MatL lw M rs mat₁ (n1 + 1) (N2 + 1) V₁ ∧
    (∀ k, k < j → V₁ (ii + 1) (k + 1) = min (min (V ii (k + 1) + stv c0 c1 c2 cp cc) (V₁ (ii + 1) k + e2 (k + 1))) (V ii k + g2 (k + 1))) ∧ (∀ p q, p ≠ ii + 1 ∨ q = 0 → V₁ p q = V p q)) ?h0 ?step ?done
  case h0 => exact ⟨m (Str.ofString "j"), m (Str.ofString "cs2_prev"), m (Str.ofString "cs2_curr"), V, by funext y; (repeat' split) <;> first | rfl | (subst_vars; rfl), H, fun k hk => absurd hk (Nat.not_lt_zero _), fun _ _ _ => rfl⟩
  case done =>
    rintro h' tk m' Tl' mat' ts' F' N' hm' ⟨vj, vp, vc, V₁, rfl, H', hk, hq⟩
    exact hQ h' tk vj vp vc Tl' mat' V₁ ts' F' N' H' hm' hk hq
  case step =>
    rintro i m₁ d1 d2 tv u1 u2 mat₁ Tl₁ h₁ tk₁ its E' hi hd1 hd2 ⟨vj, vp, vc, V₁, rfl, H₁, hk, hq⟩ ts₁ hits hitm hmm F₁ N₁
    have hita : ∀ p ∈ its ++ a, p.1 ≠ 172 := off_both hits offa
    have hitr : ∀ p ∈ its ++ a, ∀ r ∈ rs, p.1 ≠ r := fun p hp r hr => (List.mem_append.mp hp).elim (fun hp => by
      obtain ⟨k, hk⟩ := List.mem_iff_getElem?.mp hr
      obtain ⟨o, ho, _⟩ := H.rows k r hk
      exact hitm p hp _ ho) fun hp => ha p hp r hr
    obtain ⟨hcd, hcg⟩ := hc i d1 d2 hd1 hd2
    clear FL NL H
    simp only [List.cons_append, List.nil_append] at N₁
    k_steps
    with_reducible rename Fr h₀ _ _ _ => FF
    with_reducible rename News h₀ _ _ _ => NN
    with_reducible rename MatL _ _ _ _ _ _ _ => HH
    with_reducible rename List.map _ _ = List.map _ _ => hmap
    have e0 : (((i + 1 : Nat) : Int)).toNat = i + 1 := by omega
    have e1 : (((ii + 1 : Nat) : Int)).toNat = ii + 1 := by omega
    have e2' : (((i + 1 : Nat) : Int) - 1).toNat = i := by omega
    have e3' : (((ii + 1 : Nat) : Int) - 1).toNat = ii := by omega
    refine .next (by assumption) FF NN (hmap.trans hmm) ⟨some (.int ((i + 1 : Nat) : Int) tv), some (.str ⟨#[d1]⟩ u1), some (.str ⟨#[d2]⟩ u2), _, ?_, HH, ?_, ?_⟩
    · funext y; dsimp only; (repeat' split) <;> first | rfl | contradiction
    · intro k hk'
      rw [e0, e1, e2', e3', ← hcd, ← hcg]
      unfold upd2
      by_cases e : k = i
      · subst e
        rw [if_pos ⟨rfl, rfl⟩, if_neg (by omega), hq ii (k + 1) (.inl (by omega)), hq ii k (.inl (by omega))]
      · rw [if_neg (by omega), if_neg (by omega)]
        exact hk k (by omega)
    · intro p q hq'
      unfold upd2
      rw [if_neg (fun z => by have z1 := z.1; have z2 := z.2; rw [e1] at z1; rw [e0] at z2; rcases hq' with h | h; exact h z1; omega)]
      exact hq p q hq'
end
end Mine
-- Ed4
namespace Mine
theorem fresh_Ed4 : True := by (w_top off; exact trivial)
local macro_rules | `(tactic| k_room) => `(tactic| ktr_room)
local macro_rules | `(tactic| walk_at "MY rest") => `(tactic| (
  refine' kp_rest ?k1 ?k2 ?k3 ?k4 ?k5 ?kA ?kF ?kK ?k6 ?k7 ?k8 ?kV ?kP ?kG ?kB ?_ ?c2 ?c3 ?c4 ?c5
  (case kA => exact rfl)
  (case kF => first | exact rfl | assumption)
  (case kK => first | exact rfl | assumption)
  (case k1 => k_asm)
  (case k2 => k_asm)
  (case k3 => k_asm)
  (case k4 => k_asm)
  (case k5 => k_asm)
  (case k6 => k_is)
  (case k7 => k_is)
  (case k8 => k_room)
  (case kV => kl_lit)
  (case kP => exact rfl)
  (case kG => exact fun _ => rfl)
  (case kB => exact fun _ => locs rfl)
  (case c5 => decide)
  (case c2 => exact rfl)
  (case c3 => exact rfl)
  (case c4 => exact rfl)
  k_whole
  intro D' g' L' h' l1 FG' F' N' B' X' T'
  (try k_lt l1); (try dsimp only); (try k_lift B'); (try k_fold)))
local macro_rules | `(tactic| walk_at "MY plain") => `(tactic| (
  refine' code_def ?k1 ?k2 ?k3 ?k4 ?k5 ?kA ?kF ?kK ?k6 ?k7 ?k8 ?k9 ?kB ?_ ?c2 ?c3 ?c4 ?c5
  (case kA => exact rfl)
  (case kF => first | exact rfl | assumption)
  (case kK => first | exact rfl | assumption)
  (case k1 => k_asm)
  (case k2 => k_asm)
  (case k3 => k_asm)
  (case k4 => k_asm)
  (case k5 => k_asm)
  (case k6 => k_is)
  (case k7 => k_is)
  (case k8 => k_room)
  (case k9 => first | exact BindsTo.of_eq rfl | exact binds_K (by k_in) rfl (by k_is) rfl rfl rfl)
  (case c5 => decide)
  (case kB => exact locs rfl)
  (case c2 => exact rfl)
  (case c3 => exact rfl)
  (case c4 => exact rfl)
  k_whole
  intro g' L' h' FG' F' N' B' X' T'
  (try dsimp only); (try k_lift B'); (try k_fold)))
local macro_rules | `(tactic| walk_at "getAttr ref") => `(tactic| (k_here; (with_reducible show wpAny _ _ (getAttr (Value.ref _) (PySem.Str.ofString "_ident") _) _ _ _); k_dflt (refine' get_sm ?k1 ?k2 ?k3 ?k4 ?k5 ?k6 ?k7 ?k8 ?k9 ?k10 ?k11 ?k12 ?_; (case k3 => k_inst); (case k1 => k_asm); (case k2 => k_asm); (case k6 => k_is); (case k4 => k_is); (case k5 => k_is); (case k7 => k_is); (case k8 => k_is); (case k9 => decide +kernel); (case k10 => k_get); (case k11 => k_is); (case k12 => k_handed); k_whole)))
local macro_rules | `(tactic| walk_at "eval Call Attribute") => `(tactic| (k_here; (with_reducible show wpAny _ _ (eval (Expr.Call (Expr.Attribute (Expr.Name _ _) _ _) [Expr.Starred _ _] [] _) _) _ _ _); refine starMethod ?_))
local macro_rules | `(tactic| walk_at "MY restC") => `(tactic| (
  refine' kpc_rest ?k1 ?k2 ?k3 ?k4 ?k5 ?kA ?kF ?kK ?k6 ?k7 ?k8 ?kV ?kP ?kG ?kB ?kD ?_ ?c2 ?c3 ?c4
  (case kA => exact rfl)
  (case kF => first | exact rfl | assumption)
  (case kK => first | exact rfl | assumption)
  (case k1 => k_asm)
  (case k2 => k_asm)
  (case k3 => k_asm)
  (case k4 => k_asm)
  (case k5 => k_asm)
  (case k6 => k_is)
  (case k7 => k_is)
  (case k8 => k_room)
  (case kV => kl_lit)
  (case kP => exact rfl)
  (case kG => exact fun _ => rfl)
  (case kB => exact fun _ => rfl)
  (case kD => decide +kernel)
  (case c2 => exact rfl)
  (case c3 => exact rfl)
  (case c4 => exact rfl)
  k_whole
  intro D' g' L' h' tk' cells' l1 l2 FG' F' N' Y' B' X' T'
  (try k_lt l1); (try k_lt2 l2); k_cells Y'; (try simp only [List.cons_append, List.nil_append] at N'); (try dsimp only); (try k_lift B'); (try k_fold)))
local macro_rules | `(tactic| walk_at "call ref") => `(tactic| (k_here; (with_reducible show wpAny _ _ (call (Value.ref 95) _) _ _ _); k_dflt (refine wpAny_call ?_; refine' ident_c ?k1 ?k2 ?k3 ?k4 ?k5 ?k6 ?k7 ?k8 ?k9 ?_; (case k1 => k_asm); (case k2 => k_asm); (case k3 => k_asm); (case k4 => k_asm); (case k5 => k_asm); (case k6 => first | exact rfl | assumption); (case k7 => first | exact rfl | assumption); (case k8 => (dsimp only [Arnd, Around.deeper] at *; omega)); (case k9 => (dsimp only [Arnd, Around.deeper] at *; omega)); k_whole); intro h' tk' F' N'; (try dsimp only); (try k_sweep)))
local macro_rules | `(tactic| walk_at "MY memT") => `(tactic| (first | (refine List.mem_append_left _ ?_; assumption) | (refine List.Mem.tail _ ?_; walk_at "MY memT")))
local macro_rules | `(tactic| walk_at "MY split") => `(tactic| (first | exact Split.base | (refine' Split.cons ?sp; (case sp => walk_at "MY split"))))
local macro_rules | `(tactic| walk_at "MY off") => `(tactic| ((try dsimp only); simp only [List.forall_mem_cons, List.not_mem_nil, false_implies, implies_true, and_true]; (repeat' (refine And.intro ?_ ?_)); all_goals (first | assumption | (refine neN ?_; (try dsimp only); omega))))
local macro_rules | `(tactic| walk_at "eval Lambda") => `(tactic| (k_here; k_dflt (refine' kla_eval ?d0 ?_; (case d0 => exact rfl)); (first
  | (k_dflt (refine' lam_S1 ?ts ?F ?N ?hg ?T ?C ?off ?offo ?hq ?e1 ?e2 ?hcl ?_; (case ts => assumption); (case F => k_asm); (case N => k_asm); (case hg => walk_at "MY split"); (case T => k_asm); (case C => assumption); (case off => walk_at "MY off"); (case offo => assumption); (case hq => first | rfl | with_unfolding_all rfl); (case e1 => rfl); (case e2 => rfl); (case hcl => exact rfl); k_whole); intro f' c' oc' ct' h' tk' Tl' F' N' ts' hm' hc' l1'; (try simp only [List.cons_append, List.nil_append] at N'))
  | (k_dflt (refine' lam_S2 ?ts ?F ?N ?hg ?T ?C ?off ?offo ?hq ?e1 ?e2 ?hcl ?_; (case ts => assumption); (case F => k_asm); (case N => k_asm); (case hg => walk_at "MY split"); (case T => k_asm); (case C => assumption); (case off => walk_at "MY off"); (case offo => assumption); (case hq => first | rfl | with_unfolding_all rfl); (case e1 => rfl); (case e2 => rfl); (case hcl => exact rfl); k_whole); intro f' c' oc' ct' h' tk' Tl' F' N' ts' hm' hc' l1'; (try simp only [List.cons_append, List.nil_append] at N')))))
local macro_rules | `(tactic| walk_at "call type:map") => `(tactic| (k_here; k_dflt (refine' map_K ?F ?N ?m ?c ?d ?_; (case F => k_asm); (case N => k_asm); (case m => k_mem); (case c => exact rfl); (case d => exact rfl); k_whole); intro h' mp' it' F' N' hX' hlt' hL' h0'; (try dsimp only)))
local macro_rules | `(tactic| walk_at "call builtin:any") => `(tactic| (k_here; k_dflt (refine' any_lam1 ?hh ?room ?F ?N ?X ?T ?M ?lt ?L ?h0 ?ho ?hoc ?hc ?hcs ?hcd ?hx ?hdx ?_; (case hh => exact rfl); (case room => (dsimp only [Arnd, Around.deeper] at *; omega)); (case F => k_asm); (case N => k_asm); (case X => k_asm); (case T => k_asm); (case M => assumption); (case lt => assumption); (case L => assumption); (case h0 => assumption); (case ho => k_mem); (case hoc => walk_at "MY memT"); (case hc => assumption); (case hcs => k_mem); (case hcd => assumption); (case hx => k_mem); (case hdx => k_mem); k_whole); intro h' tk' F' N'; (try dsimp only)))
local macro_rules | `(tactic| walk_at "call builtin:all") => `(tactic| (k_here; k_dflt (refine' all_lam2 ?hh ?room ?F ?N ?X ?T ?M ?lt ?L ?h0 ?ho ?hoc ?hc ?hcs ?hcd ?_; (case hh => exact rfl); (case room => (dsimp only [Arnd, Around.deeper] at *; omega)); (case F => k_asm); (case N => k_asm); (case X => k_asm); (case T => k_asm); (case M => assumption); (case lt => assumption); (case L => assumption); (case h0 => assumption); (case ho => k_mem); (case hoc => walk_at "MY memT"); (case hc => assumption); (case hcs => k_mem); (case hcd => assumption); k_whole); intro h' tk' F' N'; (try dsimp only)))
local macro_rules | `(tactic| walk_at "MY sub") => `(tactic| (first | assumption | (refine List.Mem.tail _ ?_; walk_at "MY sub")))
local macro_rules | `(tactic| walk_at "MY fin") => `(tactic| (with_reducible rename Fr h₀ _ _ _ => kF; with_reducible rename News h₀ _ _ _ => kN))
local macro_rules | `(tactic| walk_at "callWith ref") => `(tactic| (k_here; (with_reducible show wpAny _ _ (callWith _ (Value.ref _) _ (backTo _ (starEach [Expr.Starred _ _] _)) []) _ _ _); k_dflt (refine' callWith_SM ?k1 ?k2 ?k3 ?k4 ?_; (case k1 => k_asm); (case k2 => k_asm); (case k3 => k_mem); (case k4 => k_is); k_whole)))
local macro_rules | `(tactic| walk_at "MY plainC") => `(tactic| (refine' code_defC ?k1 ?k2 ?k3 ?k4 ?k5 ?kA ?kF ?kK ?k6 ?k7 ?k8 ?k9 ?kB ?kD ?_ ?c2 ?c3 ?c4; (case kA => exact rfl); (case kF => first | exact rfl | assumption); (case kK => first | exact rfl | assumption); (case k1 => k_asm); (case k2 => k_asm); (case k3 => k_asm); (case k4 => k_asm); (case k5 => k_asm); (case k6 => k_is); (case k7 => k_is); (case k8 => k_room); (case k9 => first | exact BindsTo.of_eq rfl | exact binds_K (by k_in) rfl (by k_is) rfl rfl rfl); (case kB => exact rfl); (case kD => decide +kernel); (case c2 => exact rfl); (case c3 => exact rfl); (case c4 => exact rfl); k_whole; intro g' L' h' tk' cells' FG' F' N' Y' B' X' T' l1; (try k_lt l1); k_cells Y'; (try simp only [List.cons_append, List.nil_append] at N'); (try dsimp only); (try k_lift B'); (try k_fold)))
local macro_rules | `(tactic| walk_at "MY memO") => `(tactic| (first | exact List.mem_append.mpr (.inr (List.mem_append.mpr (.inr (by assumption)))) | (refine List.Mem.tail _ ?_; walk_at "MY memO")))
local macro_rules | `(tactic| walk_at "subscriptTail") => `(tactic| (k_here; (with_reducible show wpAny _ _ (subscriptTail _ _ (Value.ref _) (Value.int _ _)) _ _ _); k_dflt (refine' mat_row ?N ?H ?sub ?h0 ?h1 ?hN ?_; (case H => assumption); (case N => k_asm); (case sub => (intro q hq; walk_at "MY memO")); (case h0 => omega); (case h1 => omega); (case hN => omega); k_whole); (try dsimp only)))
local macro_rules | `(tactic| walk_at "getItem ref") => `(tactic| (k_here; (with_reducible show wpAny _ _ (getItem (Value.ref _) (Value.int _ _)) _ _ _); k_dflt (refine' mat_getRow ?N ?H ?sub ?h0 ?h1 ?hN ?_; (case H => assumption); (case N => k_asm); (case sub => (intro q hq; walk_at "MY memO")); (case h0 => omega); (case h1 => omega); (case hN => omega); k_whole); (try dsimp only)))
local macro_rules | `(tactic| walk_at "subscriptTail") => `(tactic| (k_here; (with_reducible show wpAny _ _ (subscriptTail _ _ (Value.ref (List.getD _ _ _)) (Value.int _ _)) _ _ _); k_dflt (refine' mat_cell ?N ?H ?sub ?hi ?h0 ?h1 ?hN ?_; (case H => assumption); (case N => k_asm); (case sub => (intro q hq; walk_at "MY memO")); (case hi => omega); (case h0 => omega); (case h1 => omega); (case hN => omega); k_whole); intro t'; (try dsimp only)))
local macro_rules | `(tactic| walk_at "setItem ref int") => `(tactic| (k_here; (with_reducible show wpAny _ _ (setItem (Value.ref (List.getD _ _ _)) (Value.int _ _) (Value.int _ _)) _ _ _); k_dflt (refine' mat_set ?ts ?F ?N ?S ?H ?hpre ?ha ?hi ?h0 ?h1 ?hN ?_; (case H => assumption); (case ts => assumption); (case F => k_asm); (case N => k_asm); (case S => walk_at "MY split"); (case hpre => assumption); (case ha => assumption); (case hi => omega); (case h0 => omega); (case h1 => omega); (case hN => omega); k_whole); intro h' own' F' N' H' hm'; (try simp only [List.cons_append, List.nil_append] at N'); (try dsimp only)))
local macro_rules | `(tactic| walk_at "MY look") => `(tactic| (first | rfl | assumption | (refine Eq.trans (if_neg (by decide)) ?_; walk_at "MY look")))
local macro_rules | `(tactic| walk_at "eval Name") => `(tactic| (k_here; k_dflt (refine' nameX_L ?F ?v ?_ ?a ?b; (case F => k_asm); (case a => rfl); (case b => rfl); (case v => ((try dsimp only); walk_at "MY look")); k_whole)))
local macro_rules | `(tactic| walk_at "eval Call Attribute") => `(tactic| (k_here; k_dflt (refine' MethodCallL ?hl ?_; (case hl => assumption))))
local macro_rules | `(tactic| walk_at "callWith type:enumerate") => `(tactic| (k_here; k_dflt (refine callWith_type_kw ?_)))
local macro_rules | `(tactic| walk_at "evalAll") => `(tactic| (k_here; k_dflt (first | refine kws_cons ?_ | refine kws_nil ?_)))
section
variable {w : World} {p : Program} {loose : List Str} {mean : ExcName → Option Value} {mg mb : Str → Option Value} {dp un : Nat} {gd : Option (List Code)} {env : Env} {outer : List Env} {A₀ : Around} {base h₀ : Heap} {L : Addr} {m : Str → Option Value} {news : List (Addr × Obj)} {s : Shared} {R : Result → Shared → Prop}
variable {x dx : Addr} {c0 c1 c2 : Int} {lo ex : Bool} {k1 k2 k3 k4 k5 k6 v1 v2 v3 v6 : Tok} {n : Nat} {own Tl : List (Addr × Obj)} {lw M : Addr} {oc : Obj} {rs : List Addr} {a mat : List (Addr × Obj)} {N2 n1 : Nat} {V : Nat → Nat → Int} {U1 U2 : Str} {tu1 tu2 : Tok} {Q : Flow → Shared → Prop} {E : Value → Shared → Prop} {q1 q2 q3 q4 q5 q6 q7 q8 q9 q10 q11 q12 q13 q14 q15 q16 q17 q18 q19 q20 q21 q22 q23 q24 q25 q26 q27 q28 q29 q30 q31 q32 q33 q34 q35 q36 q37 q38 q39 q40 q41 q42 q43 q44 q45 q46 q47 q48 q49 q50 q51 q52 q53 q54 q55 q56 q57 q58 q59 q60 q61 q62 q63 q64 q65 q66 q67 q68 q69 q70 q71 q72 q73 q74 q75 q76 q77 q78 q79 q80 q81 q82 q83 : Pos} {kk52 kk53 kk69 kk70 : Nat}
theorem outer_loop (B : Below (Arnd dp un gd env outer) base (env :: outer) h₀) (X : (hd.heap_39 w.params).In h₀) (T : Top p loose mean mg mb h₀) (C : CodeHd h₀ 176 172) (hqq17 : q17.endLine = q18.line) (hqq30 : q30.endLine = q31.line) (hqq45 : q45.endLine = q46.line) (F : Fr h₀ L s.heap m) (N : News h₀ L s.heap ((L + 1, oc) :: (x, instObj 192 dx) :: (dx, (dictOf (edD w.params c0 c1 c2 lo ex k1 k2 k3 k4 k5 k6 v1 v2 v3 v6) n)) :: (Tl ++ (a ++ mat)))) (ts : TS Tl) (H : MatL lw M rs mat (n1 + 1) (N2 + 1) V)
  (hself : m (Str.ofString "self") = some (.ref x)) (hs1 : m (Str.ofString "s1") = some (.str U1 tu1)) (hs2 : m (Str.ofString "s2") = some (.str U2 tu2)) (hdm : m (Str.ofString "d_mat") = some (.ref M)) (hU1 : U1.length = n1 + 1) (hU : U2.length = N2 + 1) (hn1 : n1 ≤ 8) (hN2 : N2 ≤ 8)
  (hpre : ∀ p ∈ [(L + 1, oc), (x, instObj 192 dx), (dx, (dictOf (edD w.params c0 c1 c2 lo ex k1 k2 k3 k4 k5 k6 v1 v2 v3 v6) n))], ∀ r ∈ rs, p.1 ≠ r) (ha : ∀ p ∈ a, ∀ r ∈ rs, p.1 ≠ r) (offa : ∀ p ∈ a, p.1 ≠ 172) (offl : L + 1 ≠ 172) (offx : x ≠ 172) (offd : dx ≠ 172) (hdp : dp + 40 < recursionLimit) (hun : un + 512 < cLine)
  (hasc1 : U1.cps.all (· < 128) = true) (hasl1 : (Txt.slice U1 (some 1) none).cps.all (· < 128) = true) (hsl1 : (Txt.slice U1 (some 1) none).cps.size = n1)
  (hasc : U2.cps.all (· < 128) = true) (hasl : (Txt.slice U2 (some 1) none).cps.all (· < 128) = true) (hsl : (Txt.slice U2 (some 1) none).cps.size = N2) {e1 e2 : Nat → Int} {g : Nat → Nat → Int}
  (hc1 : ∀ k d1 d2, U1.cps[k]? = some d1 → (Txt.slice U1 (some 1) none).cps[k]? = some d2 → e1 (k + 1) = stv c0 c1 c2 ⟨#[d1]⟩ ⟨#[d2]⟩)
  (hc2 : ∀ k d1 d2, U2.cps[k]? = some d1 → (Txt.slice U2 (some 1) none).cps[k]? = some d2 → e2 (k + 1) = stv c0 c1 c2 ⟨#[d1]⟩ ⟨#[d2]⟩)
  (hg : ∀ i k b d, (Txt.slice U1 (some 1) none).cps[i]? = some b → (Txt.slice U2 (some 1) none).cps[k]? = some d → g (i + 1) (k + 1) = rcv c0 c1 c2 ⟨#[b]⟩ ⟨#[d]⟩)
  (hQ : ∀ h' tk' z1 z2 z3 z4 z5 z6 Tl' mat' V', TS Tl' → Fr h₀ L h' (fun y => if y = Str.ofString "cs2_curr" then z6 else if y = Str.ofString "cs2_prev" then z5 else if y = Str.ofString "j" then z4 else if y = Str.ofString "cs1_curr" then z3 else if y = Str.ofString "cs1_prev" then z2 else if y = Str.ofString "i" then z1 else m y) → News h₀ L h' ((L + 1, oc) :: (x, instObj 192 dx) :: (dx, (dictOf (edD w.params c0 c1 c2 lo ex k1 k2 k3 k4 k5 k6 v1 v2 v3 v6) n)) :: (Tl' ++ (a ++ mat'))) → MatL lw M rs mat' (n1 + 1) (N2 + 1) V' → mat'.map (·.1) = mat.map (·.1) →
    (∀ p q, p < n1 → q < N2 → V' (p + 1) (q + 1) = min (min (V' p (q + 1) + e1 (p + 1)) (V' (p + 1) q + e2 (q + 1))) (V' p q + g (p + 1) (q + 1))) → (∀ p q, p = 0 ∨ q = 0 → V' p q = V p q) → Q .next { s with heap := h', toks := tk' }) :
  wpAny (model PySem.Challenge.rw_bs0041_01.row.prog w) ((Arnd dp un gd env outer).deeper (callEnv L)) (exec (.For (.Tuple [(.Name (Str.ofString "i") q67), .Tuple [(.Name (Str.ofString "cs1_prev") q68), (.Name (Str.ofString "cs1_curr") q69)] kk69 q70] kk70 q71) (.Call (.Name (Str.ofString "enumerate") q72) [(.Call (.Name (Str.ofString "zip") q73) [(.Name (Str.ofString "s1") q74), (.Subscript (.Name (Str.ofString "s1") q75) (.Slice (some (.Constant (.int 1) 0 q76)) none none q77) q78)] [] q79)] [⟨some (Str.ofString "start"), (.Constant (.int 1) 0 q80), q81⟩] q82) [(.For (.Tuple [(.Name (Str.ofString "j") q50), .Tuple [(.Name (Str.ofString "cs2_prev") q51), (.Name (Str.ofString "cs2_curr") q52)] kk52 q53] kk53 q54) (.Call (.Name (Str.ofString "enumerate") q55) [(.Call (.Name (Str.ofString "zip") q56) [(.Name (Str.ofString "s2") q57), (.Subscript (.Name (Str.ofString "s2") q58) (.Slice (some (.Constant (.int 1) 0 q59)) none none q60) q61)] [] q62)] [⟨some (Str.ofString "start"), (.Constant (.int 1) 0 q63), q64⟩] q65) [(.Assign [(.Subscript (.Subscript (.Name (Str.ofString "d_mat") q1) (.Name (Str.ofString "i") q2) q3) (.Name (Str.ofString "j") q4) q5)] (.Call (.Name (Str.ofString "min") q6) [(.BinOp (.Subscript (.Subscript (.Name (Str.ofString "d_mat") q7) (.BinOp (.Name (Str.ofString "i") q8) .Sub (.Constant (.int 1) 0 q9) q10) q11) (.Name (Str.ofString "j") q12) q13) .Add (.Call (.Attribute (.Name (Str.ofString "self") q14) (Str.ofString "d_cost") q17) [(.Name (Str.ofString "cs1_prev") q15), (.Name (Str.ofString "cs1_curr") q16)] [] q18) q19), (.BinOp (.Subscript (.Subscript (.Name (Str.ofString "d_mat") q20) (.Name (Str.ofString "i") q21) q22) (.BinOp (.Name (Str.ofString "j") q23) .Sub (.Constant (.int 1) 0 q24) q25) q26) .Add (.Call (.Attribute (.Name (Str.ofString "self") q27) (Str.ofString "d_cost") q30) [(.Name (Str.ofString "cs2_prev") q28), (.Name (Str.ofString "cs2_curr") q29)] [] q31) q32), (.BinOp (.Subscript (.Subscript (.Name (Str.ofString "d_mat") q33) (.BinOp (.Name (Str.ofString "i") q34) .Sub (.Constant (.int 1) 0 q35) q36) q37) (.BinOp (.Name (Str.ofString "j") q38) .Sub (.Constant (.int 1) 0 q39) q40) q41) .Add (.Call (.Attribute (.Name (Str.ofString "self") q42) (Str.ofString "r_cost") q45) [(.Name (Str.ofString "cs1_curr") q43), (.Name (Str.ofString "cs2_curr") q44)] [] q46) q47)] [] q48) q49)] [] q66)] [] q83) (callEnv L)) Q E s := by
  revert X; k_fill; intro X
  refine wpAny_For ?_
  k_steps
  with_reducible rename Fr _ _ _ _ => FL
  with_reducible rename News _ _ _ _ => NL
  refine zip_mat (L := L) (n := n1) (pre := [(L + 1, oc), (x, instObj 192 dx), (dx, (dictOf (edD w.params c0 c1 c2 lo ex k1 k2 k3 k4 k5 k6 v1 v2 v3 v6) n))]) (a := a) (mat := mat) rfl rfl rfl rfl rfl rfl hasc1 hasl1 hU1 hsl1 ts FL NL (fun i m₁ mat₁ => ∃ z1 z2 z3 z4 z5 z6 V₁, m₁ = (fun y => if y = Str.ofString "cs2_curr" then z6 else if y = Str.ofString "cs2_prev" then z5 else if y = Str.ofString "j" then z4 else if y = Str.ofString "cs1_curr" then z3 else if y = Str.ofString "cs1_prev" then z2 else if y = Str.ofString "i" then z1 else m y) ∧ MatL lw M rs mat₁ (n1 + 1) (N2 + 1) V₁ ∧
    (∀ p q, p < i → q < N2 → V₁ (p + 1) (q + 1) = min (min (V₁ p (q + 1) + e1 (p + 1)) (V₁ (p + 1) q + e2 (q + 1))) (V₁ p q + g (p + 1) (q + 1))) ∧ (∀ p q, p = 0 ∨ q = 0 → V₁ p q = V p q)) ?h0 ?step ?done
  case h0 => exact ⟨m (Str.ofString "i"), m (Str.ofString "cs1_prev"), m (Str.ofString "cs1_curr"), m (Str.ofString "j"), m (Str.ofString "cs2_prev"), m (Str.ofString "cs2_curr"), V, by funext y; (repeat' split) <;> first | rfl | (subst_vars; rfl), H, fun p q hp => absurd hp (Nat.not_lt_zero _), fun _ _ _ => rfl⟩
  case done =>
    rintro h' tk m' Tl' mat' ts' F' N' hm' ⟨z1, z2, z3, z4, z5, z6, V₁, rfl, H', hk, hq⟩
    exact hQ h' tk z1 z2 z3 z4 z5 z6 Tl' mat' V₁ ts' F' N' H' hm' hk hq
  case step =>
    rintro i m₁ d1 d2 tv u1 u2 mat₁ Tl₁ h₁ tk₁ its E' hi hd1 hd2 ⟨z1, z2, z3, z4, z5, z6, V₁, rfl, H₁, hk, hq⟩ ts₁ hits hitm hmm F₁ N₁
    have hita : ∀ p ∈ its ++ a, p.1 ≠ 172 := off_both hits offa
    have hitr : ∀ p ∈ its ++ a, ∀ r ∈ rs, p.1 ≠ r := fun p hp r hr => (List.mem_append.mp hp).elim (fun hp => by
      obtain ⟨k, hk⟩ := List.mem_iff_getElem?.mp hr
      obtain ⟨o, ho, _⟩ := H.rows k r hk
      exact hitm p hp _ ho) fun hp => ha p hp r hr
    refine wpAny_execs_cons (inner_loop (ti := tv) (tp := u1) (tc := u2) (tu2 := tu2) (Tl := Tl₁) (a := its ++ a) (mat := mat₁) (ii := i) (e2 := e2) (g2 := g (i + 1)) (cp := ⟨#[d1]⟩) (cc := ⟨#[d2]⟩) (s := { s with heap := h₁, toks := tk₁ }) B X T C hqq17 hqq30 hqq45 F₁ N₁ ts₁ H₁ ?_ ?_ ?_ hU hn1 hN2 ?_ ?_ ?_ hi hpre hitr hita offl offx offd hdp hun hasc hasl hsl (fun k b1 b2 hb1 hb2 => ⟨hc2 k b1 b2 hb1 hb2, hg i k d2 b2 hd2 hb2⟩) fun h' tk' vj vp vc Tl' mat' V' ts' F' N' H' hm' hk' hq' => ?_)
    · exact hself
    · exact hs2
    · exact hdm
    · rfl
    · rfl
    · rfl
    refine wpAny_execs_nil ?_
    refine .next ts' F' N' (hm'.trans hmm) ⟨some (.int ((i + 1 : Nat) : Int) tv), some (.str ⟨#[d1]⟩ u1), some (.str ⟨#[d2]⟩ u2), vj, vp, vc, V', ?_, H', ?_, ?_⟩
    · funext y; dsimp only; (repeat' split) <;> first | rfl | contradiction
    · intro p q hp hq2
      by_cases e : p = i
      · subst e
        rw [hk' q hq2, hq' p (q + 1) (.inl (by omega)), hq' p q (.inl (by omega)), hc1 p d1 d2 hd1 hd2]
      · rw [hq' (p + 1) (q + 1) (.inl (by omega)), hq' p (q + 1) (.inl (by omega)), hq' (p + 1) q (.inl (by omega)), hq' p q (.inl (by omega))]
        exact hk p q (by omega) hq2
    · intro p q hpq
      by_cases e : p = i + 1
      · rw [hq' p q (.inr (by omega))]
        exact hq p q hpq
      · rw [hq' p q (.inl e)]
        exact hq p q hpq
end
end Mine
-- Ed5
namespace Mine
theorem item_at {U : Str} {k d : Nat} (h : U.cps[k]? = some d) : Txt.item U (k : Int) = ⟨#[d]⟩ := by
  have hk : k < U.cps.size := by
    by_cases h1 : k < U.cps.size
    · exact h1
    · rw [Array.getElem?_eq_none (by omega)] at h; cases h
  have e : seqIndex? (k : Int) U.length = some k := by
    have hl : U.length = U.cps.size := rfl
    have hneg : ¬ ((k : Int) < 0) := by omega
    unfold seqIndex?
    dsimp only
    simp only [hneg, if_false]
    rw [if_pos (by simp; omega)]
    simp
  unfold Txt.item Txt.charAt
  rw [e, Option.bind_some, h]
  rfl
theorem slice_idx (n : Nat) : Builtin.Str.strSliceIndices (some 1) none 1 (n + 1) = (List.range n).map (· + 1) := by
  unfold Builtin.Str.strSliceIndices
  dsimp only
  have h1 : ¬ ((1 : Int) < 0) := by decide
  have h2 : ((1 : Int) > 0) := by decide
  simp only [h1, h2, if_true, if_false]
  have e : max (0 : Int) (min 1 ((n + 1 : Nat) : Int)) = 1 := by omega
  rw [e]
  unfold sliceRange
  simp only [h2, if_true]
  have e2 : (if (1 : Int) < ((n + 1 : Nat) : Int) then ((((n + 1 : Nat) : Int) - 1 + 1 - 1) / 1) else 0) = (n : Int) := by split <;> omega
  rw [e2, Int.toNat_natCast]
  refine List.map_congr_left fun k _ => ?_
  omega
theorem slice_cps {U : Str} {n : Nat} (hU : U.cps.size = n + 1) : (Txt.slice U (some 1) none).cps.size = n ∧ ∀ k, (Txt.slice U (some 1) none).cps[k]? = U.cps[k + 1]? := by
  unfold Txt.slice
  have hl : U.length = n + 1 := hU
  rw [hl, slice_idx]
  have hne : ((1 : Int) == 1 && ((List.range n).map (· + 1)).length == n + 1) = false := by
    simp
  rw [if_neg (by rw [hne]; decide)]
  have key : ∀ (l : List Nat), (∀ i ∈ l, i < U.cps.size) → (l.filterMap (U.cps[·]?)).length = l.length ∧ ∀ k : Nat, (l.filterMap (U.cps[·]?))[k]? = l[k]?.bind (U.cps[·]?) := by
    intro l
    induction l with
    | nil => intro _; exact ⟨rfl, fun k => by simp⟩
    | cons a l ih =>
      intro hall
      have ha := hall a (.head _)
      obtain ⟨i1, i2⟩ := ih fun i hi => hall i (.tail _ hi)
      have e : U.cps[a]? = some U.cps[a] := Array.getElem?_eq_getElem ha
      refine ⟨?_, fun k => ?_⟩
      · rw [List.filterMap_cons, e]; simp [i1]
      · rw [List.filterMap_cons, e]
        cases k with
        | zero => simp [e]
        | succ k => simpa using i2 k
  obtain ⟨k1, k2⟩ := key ((List.range n).map (· + 1)) (by
    intro i hi
    obtain ⟨j, hj, rfl⟩ := List.mem_map.mp hi
    have := List.mem_range.mp hj
    omega)
  refine ⟨by simpa using k1, fun k => ?_⟩
  rw [List.getElem?_toArray, k2 k]
  by_cases hk : k < n
  · simp [hk]
  · rw [Array.getElem?_eq_none (by omega)]
    simp [hk]
end Mine
-- Ed6
namespace Mine
theorem fresh_Ed6 : True := by (w_top off; exact trivial)
local macro_rules | `(tactic| k_room) => `(tactic| ktr_room)
local macro_rules | `(tactic| walk_at "MY rest") => `(tactic| (
  refine' kp_rest ?k1 ?k2 ?k3 ?k4 ?k5 ?kA ?kF ?kK ?k6 ?k7 ?k8 ?kV ?kP ?kG ?kB ?_ ?c2 ?c3 ?c4 ?c5
  (case kA => exact rfl)
  (case kF => first | exact rfl | assumption)
  (case kK => first | exact rfl | assumption)
  (case k1 => k_asm)
  (case k2 => k_asm)
  (case k3 => k_asm)
  (case k4 => k_asm)
  (case k5 => k_asm)
  (case k6 => k_is)
  (case k7 => k_is)
  (case k8 => k_room)
  (case kV => kl_lit)
  (case kP => exact rfl)
  (case kG => exact fun _ => rfl)
  (case kB => exact fun _ => locs rfl)
  (case c5 => decide)
  (case c2 => exact rfl)
  (case c3 => exact rfl)
  (case c4 => exact rfl)
  k_whole
  intro D' g' L' h' l1 FG' F' N' B' X' T'
  (try k_lt l1); (try dsimp only); (try k_lift B'); (try k_fold)))
local macro_rules | `(tactic| walk_at "MY plain") => `(tactic| (
  refine' code_def ?k1 ?k2 ?k3 ?k4 ?k5 ?kA ?kF ?kK ?k6 ?k7 ?k8 ?k9 ?kB ?_ ?c2 ?c3 ?c4 ?c5
  (case kA => exact rfl)
  (case kF => first | exact rfl | assumption)
  (case kK => first | exact rfl | assumption)
  (case k1 => k_asm)
  (case k2 => k_asm)
  (case k3 => k_asm)
  (case k4 => k_asm)
  (case k5 => k_asm)
  (case k6 => k_is)
  (case k7 => k_is)
  (case k8 => k_room)
  (case k9 => first | exact BindsTo.of_eq rfl | exact binds_K (by k_in) rfl (by k_is) rfl rfl rfl)
  (case c5 => decide)
  (case kB => exact locs rfl)
  (case c2 => exact rfl)
  (case c3 => exact rfl)
  (case c4 => exact rfl)
  k_whole
  intro g' L' h' FG' F' N' B' X' T'
  (try dsimp only); (try k_lift B'); (try k_fold)))
local macro_rules | `(tactic| walk_at "getAttr ref") => `(tactic| (k_here; (with_reducible show wpAny _ _ (getAttr (Value.ref _) (PySem.Str.ofString "_ident") _) _ _ _); k_dflt (refine' get_sm ?k1 ?k2 ?k3 ?k4 ?k5 ?k6 ?k7 ?k8 ?k9 ?k10 ?k11 ?k12 ?_; (case k3 => k_inst); (case k1 => k_asm); (case k2 => k_asm); (case k6 => k_is); (case k4 => k_is); (case k5 => k_is); (case k7 => k_is); (case k8 => k_is); (case k9 => decide +kernel); (case k10 => k_get); (case k11 => k_is); (case k12 => k_handed); k_whole)))
local macro_rules | `(tactic| walk_at "eval Call Attribute") => `(tactic| (k_here; (with_reducible show wpAny _ _ (eval (Expr.Call (Expr.Attribute (Expr.Name _ _) _ _) [Expr.Starred _ _] [] _) _) _ _ _); refine starMethod ?_))
local macro_rules | `(tactic| walk_at "MY restC") => `(tactic| (
  refine' kpc_rest ?k1 ?k2 ?k3 ?k4 ?k5 ?kA ?kF ?kK ?k6 ?k7 ?k8 ?kV ?kP ?kG ?kB ?kD ?_ ?c2 ?c3 ?c4
  (case kA => exact rfl)
  (case kF => first | exact rfl | assumption)
  (case kK => first | exact rfl | assumption)
  (case k1 => k_asm)
  (case k2 => k_asm)
  (case k3 => k_asm)
  (case k4 => k_asm)
  (case k5 => k_asm)
  (case k6 => k_is)
  (case k7 => k_is)
  (case k8 => k_room)
  (case kV => kl_lit)
  (case kP => exact rfl)
  (case kG => exact fun _ => rfl)
  (case kB => exact fun _ => rfl)
  (case kD => decide +kernel)
  (case c2 => exact rfl)
  (case c3 => exact rfl)
  (case c4 => exact rfl)
  k_whole
  intro D' g' L' h' tk' cells' l1 l2 FG' F' N' Y' B' X' T'
  (try k_lt l1); (try k_lt2 l2); k_cells Y'; (try simp only [List.cons_append, List.nil_append] at N'); (try dsimp only); (try k_lift B'); (try k_fold)))
local macro_rules | `(tactic| walk_at "call ref") => `(tactic| (k_here; (with_reducible show wpAny _ _ (call (Value.ref 95) _) _ _ _); k_dflt (refine wpAny_call ?_; refine' ident_c ?k1 ?k2 ?k3 ?k4 ?k5 ?k6 ?k7 ?k8 ?k9 ?_; (case k1 => k_asm); (case k2 => k_asm); (case k3 => k_asm); (case k4 => k_asm); (case k5 => k_asm); (case k6 => first | exact rfl | assumption); (case k7 => first | exact rfl | assumption); (case k8 => (dsimp only [Arnd, Around.deeper] at *; omega)); (case k9 => (dsimp only [Arnd, Around.deeper] at *; omega)); k_whole); intro h' tk' F' N'; (try dsimp only); (try k_sweep)))
local macro_rules | `(tactic| walk_at "MY memT") => `(tactic| (first | (refine List.mem_append_left _ ?_; assumption) | (refine List.Mem.tail _ ?_; walk_at "MY memT")))
local macro_rules | `(tactic| walk_at "MY split") => `(tactic| (first | exact Split.base | (refine' Split.cons ?sp; (case sp => walk_at "MY split"))))
local macro_rules | `(tactic| walk_at "MY off") => `(tactic| ((try dsimp only); simp only [List.forall_mem_cons, List.not_mem_nil, false_implies, implies_true, and_true]; (repeat' (refine And.intro ?_ ?_)); all_goals (first | assumption | (refine neN ?_; (try dsimp only); omega))))
local macro_rules | `(tactic| walk_at "eval Lambda") => `(tactic| (k_here; k_dflt (refine' kla_eval ?d0 ?_; (case d0 => exact rfl)); (first
  | (k_dflt (refine' lam_S1 ?ts ?F ?N ?hg ?T ?C ?off ?offo ?hq ?e1 ?e2 ?hcl ?_; (case ts => assumption); (case F => k_asm); (case N => k_asm); (case hg => walk_at "MY split"); (case T => k_asm); (case C => assumption); (case off => walk_at "MY off"); (case offo => assumption); (case hq => first | rfl | with_unfolding_all rfl); (case e1 => rfl); (case e2 => rfl); (case hcl => exact rfl); k_whole); intro f' c' oc' ct' h' tk' Tl' F' N' ts' hm' hc' l1'; (try simp only [List.cons_append, List.nil_append] at N'))
  | (k_dflt (refine' lam_S2 ?ts ?F ?N ?hg ?T ?C ?off ?offo ?hq ?e1 ?e2 ?hcl ?_; (case ts => assumption); (case F => k_asm); (case N => k_asm); (case hg => walk_at "MY split"); (case T => k_asm); (case C => assumption); (case off => walk_at "MY off"); (case offo => assumption); (case hq => first | rfl | with_unfolding_all rfl); (case e1 => rfl); (case e2 => rfl); (case hcl => exact rfl); k_whole); intro f' c' oc' ct' h' tk' Tl' F' N' ts' hm' hc' l1'; (try simp only [List.cons_append, List.nil_append] at N')))))
local macro_rules | `(tactic| walk_at "call type:map") => `(tactic| (k_here; k_dflt (refine' map_K ?F ?N ?m ?c ?d ?_; (case F => k_asm); (case N => k_asm); (case m => k_mem); (case c => exact rfl); (case d => exact rfl); k_whole); intro h' mp' it' F' N' hX' hlt' hL' h0'; (try dsimp only)))
local macro_rules | `(tactic| walk_at "call builtin:any") => `(tactic| (k_here; k_dflt (refine' any_lam1 ?hh ?room ?F ?N ?X ?T ?M ?lt ?L ?h0 ?ho ?hoc ?hc ?hcs ?hcd ?hx ?hdx ?_; (case hh => exact rfl); (case room => (dsimp only [Arnd, Around.deeper] at *; omega)); (case F => k_asm); (case N => k_asm); (case X => k_asm); (case T => k_asm); (case M => assumption); (case lt => assumption); (case L => assumption); (case h0 => assumption); (case ho => k_mem); (case hoc => walk_at "MY memT"); (case hc => assumption); (case hcs => k_mem); (case hcd => assumption); (case hx => k_mem); (case hdx => k_mem); k_whole); intro h' tk' F' N'; (try dsimp only)))
local macro_rules | `(tactic| walk_at "call builtin:all") => `(tactic| (k_here; k_dflt (refine' all_lam2 ?hh ?room ?F ?N ?X ?T ?M ?lt ?L ?h0 ?ho ?hoc ?hc ?hcs ?hcd ?_; (case hh => exact rfl); (case room => (dsimp only [Arnd, Around.deeper] at *; omega)); (case F => k_asm); (case N => k_asm); (case X => k_asm); (case T => k_asm); (case M => assumption); (case lt => assumption); (case L => assumption); (case h0 => assumption); (case ho => k_mem); (case hoc => walk_at "MY memT"); (case hc => assumption); (case hcs => k_mem); (case hcd => assumption); k_whole); intro h' tk' F' N'; (try dsimp only)))
local macro_rules | `(tactic| walk_at "MY sub") => `(tactic| (first | assumption | (refine List.Mem.tail _ ?_; walk_at "MY sub")))
local macro_rules | `(tactic| walk_at "MY fin") => `(tactic| (with_reducible rename Fr h₀ _ _ _ => kF; with_reducible rename News h₀ _ _ _ => kN))
local macro_rules | `(tactic| walk_at "callWith ref") => `(tactic| (k_here; (with_reducible show wpAny _ _ (callWith _ (Value.ref _) _ (backTo _ (starEach [Expr.Starred _ _] _)) []) _ _ _); k_dflt (refine' callWith_SM ?k1 ?k2 ?k3 ?k4 ?_; (case k1 => k_asm); (case k2 => k_asm); (case k3 => k_mem); (case k4 => k_is); k_whole)))
local macro_rules | `(tactic| walk_at "MY plainC") => `(tactic| (refine' code_defC ?k1 ?k2 ?k3 ?k4 ?k5 ?kA ?kF ?kK ?k6 ?k7 ?k8 ?k9 ?kB ?kD ?_ ?c2 ?c3 ?c4; (case kA => exact rfl); (case kF => first | exact rfl | assumption); (case kK => first | exact rfl | assumption); (case k1 => k_asm); (case k2 => k_asm); (case k3 => k_asm); (case k4 => k_asm); (case k5 => k_asm); (case k6 => k_is); (case k7 => k_is); (case k8 => k_room); (case k9 => first | exact BindsTo.of_eq rfl | exact binds_K (by k_in) rfl (by k_is) rfl rfl rfl); (case kB => exact rfl); (case kD => decide +kernel); (case c2 => exact rfl); (case c3 => exact rfl); (case c4 => exact rfl); k_whole; intro g' L' h' tk' cells' FG' F' N' Y' B' X' T' l1; (try k_lt l1); k_cells Y'; (try simp only [List.cons_append, List.nil_append] at N'); (try dsimp only); (try k_lift B'); (try k_fold)))
local macro_rules | `(tactic| walk_at "MY memO") => `(tactic| (first | exact List.mem_append.mpr (.inr (List.mem_append.mpr (.inr (by assumption)))) | (refine List.Mem.tail _ ?_; walk_at "MY memO")))
local macro_rules | `(tactic| walk_at "subscriptTail") => `(tactic| (k_here; (with_reducible show wpAny _ _ (subscriptTail _ _ (Value.ref _) (Value.int _ _)) _ _ _); k_dflt (refine' mat_row ?N ?H ?sub ?h0 ?h1 ?hN ?_; (case H => assumption); (case N => k_asm); (case sub => (intro q hq; walk_at "MY memO")); (case h0 => omega); (case h1 => omega); (case hN => omega); k_whole); (try dsimp only)))
local macro_rules | `(tactic| walk_at "getItem ref") => `(tactic| (k_here; (with_reducible show wpAny _ _ (getItem (Value.ref _) (Value.int _ _)) _ _ _); k_dflt (refine' mat_getRow ?N ?H ?sub ?h0 ?h1 ?hN ?_; (case H => assumption); (case N => k_asm); (case sub => (intro q hq; walk_at "MY memO")); (case h0 => omega); (case h1 => omega); (case hN => omega); k_whole); (try dsimp only)))
local macro_rules | `(tactic| walk_at "subscriptTail") => `(tactic| (k_here; (with_reducible show wpAny _ _ (subscriptTail _ _ (Value.ref (List.getD _ _ _)) (Value.int _ _)) _ _ _); k_dflt (refine' mat_cell ?N ?H ?sub ?hi ?h0 ?h1 ?hN ?_; (case H => assumption); (case N => k_asm); (case sub => (intro q hq; walk_at "MY memO")); (case hi => omega); (case h0 => omega); (case h1 => omega); (case hN => omega); k_whole); intro t'; (try dsimp only)))
local macro_rules | `(tactic| walk_at "setItem ref int") => `(tactic| (k_here; (with_reducible show wpAny _ _ (setItem (Value.ref (List.getD _ _ _)) (Value.int _ _) (Value.int _ _)) _ _ _); k_dflt (refine' mat_set ?ts ?F ?N ?S ?H ?hpre ?ha ?hi ?h0 ?h1 ?hN ?_; (case H => assumption); (case ts => assumption); (case F => k_asm); (case N => k_asm); (case S => walk_at "MY split"); (case hpre => assumption); (case ha => assumption); (case hi => omega); (case h0 => omega); (case h1 => omega); (case hN => omega); k_whole); intro h' own' F' N' H' hm'; (try simp only [List.cons_append, List.nil_append] at N'); (try dsimp only)))
local macro_rules | `(tactic| walk_at "MY look") => `(tactic| (first | rfl | assumption | (refine Eq.trans (if_neg (by decide)) ?_; walk_at "MY look")))
local macro_rules | `(tactic| walk_at "eval Name") => `(tactic| (k_here; k_dflt (refine' nameX_L ?F ?v ?_ ?a ?b; (case F => k_asm); (case a => rfl); (case b => rfl); (case v => ((try dsimp only); walk_at "MY look")); k_whole)))
local macro_rules | `(tactic| walk_at "eval Call Attribute") => `(tactic| (k_here; k_dflt (refine' MethodCallL ?hl ?_; (case hl => assumption))))
section
variable {w : World} {p : Program} {loose : List Str} {mean : ExcName → Option Value} {mg mb : Str → Option Value} {dp un : Nat} {gd : Option (List Code)} {env : Env} {outer : List Env} {A₀ : Around} {base h₀ : Heap} {L : Addr} {m : Str → Option Value} {news : List (Addr × Obj)} {s : Shared} {R : Result → Shared → Prop}
variable {x dx : Addr} {c0 c1 c2 : Int} {lo ex : Bool} {k1 k2 k3 k4 k5 k6 v1 v2 v3 v6 : Tok} {n : Nat} {own Tl : List (Addr × Obj)} {lw M : Addr} {oc : Obj} {rs : List Addr} {a mat : List (Addr × Obj)} {n2 n1 : Nat} {V : Nat → Nat → Int} {U1 U2 : Str} {tu1 tu2 tl1 tl2 : Tok} {mx : Int} {tm : Tok} {Q : Flow → Shared → Prop} {E : Value → Shared → Prop} {q1 q2 q3 q4 q5 q6 q7 q8 q9 q10 q11 q12 q13 q14 q15 q16 q17 q18 q19 q20 q21 q22 q23 q24 q25 q26 q27 q28 q29 q30 q31 q32 q33 q34 q35 q36 q37 q38 q39 q40 q41 q42 q43 q44 q45 q46 q47 q48 q49 q50 q51 q52 q53 q54 q55 q56 q57 q58 q59 q60 q61 q62 q63 q64 q65 q66 q67 q68 q69 q70 q71 q72 q73 q74 q75 q76 q77 q78 q79 q80 q81 q82 q83 q84 q85 q86 q87 q88 q89 q90 q91 q92 q93 q94 q95 q96 q97 q98 q99 q100 q101 q102 q103 q104 q105 q106 q107 q108 q109 q110 q111 q112 q113 q114 q115 q116 q117 q118 q119 q120 q121 q122 q123 q124 q125 q126 q127 q128 q129 q130 q131 q132 q133 q134 q135 q136 q137 q138 q139 q140 q141 q142 q143 q144 q145 q146 q147 q148 q149 q150 q151 q152 q153 q154 q155 q156 q157 q158 q159 q160 q161 q162 q163 q164 q165 : Pos} {kk118 kk119 kk135 kk136 : Nat}
inductive KeptP (P : Prop) : Prop
  | mk : P → KeptP P
theorem KeptP.out {P : Prop} (h : KeptP P) : P := let ⟨a⟩ := h; a
theorem tab_of {f1 f2 : Nat → Int} {g V : Nat → Nat → Int} {lc : Bool} (h0 : V 0 0 = 0) (h1 : ∀ i, i < n1 → V (i + 1) 0 = if lc = true then 0 else V i 0 + f1 (i + 1)) (h2 : ∀ j, j < n2 → V 0 (j + 1) = V 0 j + f2 (j + 1))
  (h3 : ∀ p q, p < n1 → q < n2 → V (p + 1) (q + 1) = min (min (V p (q + 1) + f1 (p + 1)) (V (p + 1) q + f2 (q + 1))) (V p q + g (p + 1) (q + 1))) : ∀ i j, i ≤ n1 → j ≤ n2 → V i j = tab f1 f2 g lc i j := by
  intro i
  induction i with
  | zero =>
    intro j
    induction j with
    | zero => intro _ _; rw [h0, tab]
    | succ j ih => intro hi hj; rw [h2 j hj, ih hi (Nat.le_of_lt hj), tab]
  | succ i ihi =>
    intro j
    induction j with
    | zero =>
      intro hi hj
      rw [h1 i hi, tab]
      cases lc with
      | true => rfl
      | false => rw [ihi 0 (Nat.le_of_lt hi) hj]
    | succ j ihj =>
      intro hi hj
      rw [h3 i j hi hj, tab, ihi (j + 1) (Nat.le_of_lt hi) hj, ihj hi (Nat.le_of_lt hj), ihi j (Nat.le_of_lt hi) (Nat.le_of_lt hj)]
theorem call_rest (B : Below (Arnd dp un gd env outer) base (env :: outer) h₀) (X : (hd.heap_39 w.params).In h₀) (T : Top p loose mean mg mb h₀) (C : CodeHd h₀ 176 172) (hqq29 : q29.endLine = q30.line) (hqq62 : q62.endLine = q63.line) (hqq83 : q83.endLine = q84.line) (hqq96 : q96.endLine = q97.line) (hqq111 : q111.endLine = q112.line) (F : Fr h₀ L s.heap m) (N : News h₀ L s.heap ((L + 1, oc) :: (x, instObj 192 dx) :: (dx, (dictOf (edD w.params c0 c1 c2 lo ex k1 k2 k3 k4 k5 k6 v1 v2 v3 v6) n)) :: (Tl ++ (a ++ mat)))) (ts : TS Tl) (H : MatL lw M rs mat (n1 + 1) (n2 + 1) V) (hV : ∀ p q, V p q = 0)
  (hself : m (Str.ofString "self") = some (.ref x)) (hs1 : m (Str.ofString "s1") = some (.str U1 tu1)) (hs2 : m (Str.ofString "s2") = some (.str U2 tu2)) (hdm : m (Str.ofString "d_mat") = some (.ref M)) (hl1 : m (Str.ofString "len_s1") = some (.int (n1 : Int) tl1)) (hmx : m (Str.ofString "max_length") = some (.int mx tm)) (hoc : oc.data = .cell (some (.int (n2 : Int) tl2))) (hU1 : U1.length = n1 + 1) (hU2 : U2.length = n2 + 1) (hn1 : n1 ≤ 8) (hn2 : n2 ≤ 8)
  (hasc1 : U1.cps.all (· < 128) = true) (hasc2 : U2.cps.all (· < 128) = true)
  (hpre : ∀ p ∈ [(L + 1, oc), (x, instObj 192 dx), (dx, (dictOf (edD w.params c0 c1 c2 lo ex k1 k2 k3 k4 k5 k6 v1 v2 v3 v6) n))], ∀ r ∈ rs, p.1 ≠ r) (ha : ∀ p ∈ a, ∀ r ∈ rs, p.1 ≠ r) (offa : ∀ p ∈ a, p.1 ≠ 172) (offl : L + 1 ≠ 172) (offx : x ≠ 172) (offd : dx ≠ 172) (hdp : dp + 40 < recursionLimit) (hun : un + 512 < cLine)
  (hQ : ∀ h' tk' t' m' Tl' mat', TS Tl' → Fr h₀ L h' m' → News h₀ L h' ((L + 1, oc) :: (x, instObj 192 dx) :: (dx, (dictOf (edD w.params c0 c1 c2 lo ex k1 k2 k3 k4 k5 k6 v1 v2 v3 v6) n)) :: (Tl' ++ (a ++ mat'))) → Q (.ret (.int (min (tab (fst c0 c1 c2 U1) (fst c0 c1 c2 U2) (gst c0 c1 c2 U1 U2) lo n1 n2) mx) t')) { s with heap := h', toks := tk' }) :
  wpAny (model PySem.Challenge.rw_bs0041_01.row.prog w) ((Arnd dp un gd env outer).deeper (callEnv L)) (execs [(.If (.UnaryOp .Not (.Attribute (.Name (Str.ofString "self") q150) (Str.ofString "local") q151) q152) [(.For (.Name (Str.ofString "i") q1) (.Call (.Name (Str.ofString "range") q2) [(.Constant (.int 1) 0 q3), (.BinOp (.Name (Str.ofString "len_s1") q4) .Add (.Constant (.int 1) 0 q5) q6)] [] q7) [(.Assign [(.Subscript (.Subscript (.Name (Str.ofString "d_mat") q8) (.Name (Str.ofString "i") q9) q10) (.Constant (.int 0) 0 q11) q12)] (.BinOp (.Subscript (.Subscript (.Name (Str.ofString "d_mat") q13) (.BinOp (.Name (Str.ofString "i") q14) .Sub (.Constant (.int 1) 0 q15) q16) q17) (.Constant (.int 0) 0 q18) q19) .Add (.Call (.Attribute (.Name (Str.ofString "self") q20) (Str.ofString "d_cost") q29) [(.Subscript (.Name (Str.ofString "s1") q21) (.BinOp (.Name (Str.ofString "i") q22) .Sub (.Constant (.int 1) 0 q23) q24) q25), (.Subscript (.Name (Str.ofString "s1") q26) (.Name (Str.ofString "i") q27) q28)] [] q30) q31) q32)] [] q33)] [] q153), (.For (.Name (Str.ofString "j") q34) (.Call (.Name (Str.ofString "range") q35) [(.Constant (.int 1) 0 q36), (.BinOp (.Name (Str.ofString "len_s2") q37) .Add (.Constant (.int 1) 0 q38) q39)] [] q40) [(.Assign [(.Subscript (.Subscript (.Name (Str.ofString "d_mat") q41) (.Constant (.int 0) 0 q42) q43) (.Name (Str.ofString "j") q44) q45)] (.BinOp (.Subscript (.Subscript (.Name (Str.ofString "d_mat") q46) (.Constant (.int 0) 0 q47) q48) (.BinOp (.Name (Str.ofString "j") q49) .Sub (.Constant (.int 1) 0 q50) q51) q52) .Add (.Call (.Attribute (.Name (Str.ofString "self") q53) (Str.ofString "d_cost") q62) [(.Subscript (.Name (Str.ofString "s2") q54) (.BinOp (.Name (Str.ofString "j") q55) .Sub (.Constant (.int 1) 0 q56) q57) q58), (.Subscript (.Name (Str.ofString "s2") q59) (.Name (Str.ofString "j") q60) q61)] [] q63) q64) q65)] [] q66), (.For (.Tuple [(.Name (Str.ofString "i") q133), .Tuple [(.Name (Str.ofString "cs1_prev") q134), (.Name (Str.ofString "cs1_curr") q135)] kk135 q136] kk136 q137) (.Call (.Name (Str.ofString "enumerate") q138) [(.Call (.Name (Str.ofString "zip") q139) [(.Name (Str.ofString "s1") q140), (.Subscript (.Name (Str.ofString "s1") q141) (.Slice (some (.Constant (.int 1) 0 q142)) none none q143) q144)] [] q145)] [⟨some (Str.ofString "start"), (.Constant (.int 1) 0 q146), q147⟩] q148) [(.For (.Tuple [(.Name (Str.ofString "j") q116), .Tuple [(.Name (Str.ofString "cs2_prev") q117), (.Name (Str.ofString "cs2_curr") q118)] kk118 q119] kk119 q120) (.Call (.Name (Str.ofString "enumerate") q121) [(.Call (.Name (Str.ofString "zip") q122) [(.Name (Str.ofString "s2") q123), (.Subscript (.Name (Str.ofString "s2") q124) (.Slice (some (.Constant (.int 1) 0 q125)) none none q126) q127)] [] q128)] [⟨some (Str.ofString "start"), (.Constant (.int 1) 0 q129), q130⟩] q131) [(.Assign [(.Subscript (.Subscript (.Name (Str.ofString "d_mat") q67) (.Name (Str.ofString "i") q68) q69) (.Name (Str.ofString "j") q70) q71)] (.Call (.Name (Str.ofString "min") q72) [(.BinOp (.Subscript (.Subscript (.Name (Str.ofString "d_mat") q73) (.BinOp (.Name (Str.ofString "i") q74) .Sub (.Constant (.int 1) 0 q75) q76) q77) (.Name (Str.ofString "j") q78) q79) .Add (.Call (.Attribute (.Name (Str.ofString "self") q80) (Str.ofString "d_cost") q83) [(.Name (Str.ofString "cs1_prev") q81), (.Name (Str.ofString "cs1_curr") q82)] [] q84) q85), (.BinOp (.Subscript (.Subscript (.Name (Str.ofString "d_mat") q86) (.Name (Str.ofString "i") q87) q88) (.BinOp (.Name (Str.ofString "j") q89) .Sub (.Constant (.int 1) 0 q90) q91) q92) .Add (.Call (.Attribute (.Name (Str.ofString "self") q93) (Str.ofString "d_cost") q96) [(.Name (Str.ofString "cs2_prev") q94), (.Name (Str.ofString "cs2_curr") q95)] [] q97) q98), (.BinOp (.Subscript (.Subscript (.Name (Str.ofString "d_mat") q99) (.BinOp (.Name (Str.ofString "i") q100) .Sub (.Constant (.int 1) 0 q101) q102) q103) (.BinOp (.Name (Str.ofString "j") q104) .Sub (.Constant (.int 1) 0 q105) q106) q107) .Add (.Call (.Attribute (.Name (Str.ofString "self") q108) (Str.ofString "r_cost") q111) [(.Name (Str.ofString "cs1_curr") q109), (.Name (Str.ofString "cs2_curr") q110)] [] q112) q113)] [] q114) q115)] [] q132)] [] q149), (.Assign [(.Name (Str.ofString "distance") q154)] (.Subscript (.Subscript (.Name (Str.ofString "d_mat") q155) (.Name (Str.ofString "len_s1") q156) q157) (.Name (Str.ofString "len_s2") q158) q159) q160), (.Return (some (.Call (.Name (Str.ofString "min") q161) [(.Name (Str.ofString "distance") q162), (.Name (Str.ofString "max_length") q163)] [] q164)) q165)] (callEnv L)) Q E s := by
  revert X; k_fill; intro X
  refine wpAny_execs_cons (wpAny_mono (Q := fun f s' => KeptP (f = .next ∧ ∃ h' tk' vi Tl' mat' V', s' = { s with heap := h', toks := tk' } ∧ TS Tl' ∧ Fr h₀ L h' (fun y => if y = Str.ofString "i" then vi else m y) ∧ News h₀ L h' ((L + 1, oc) :: (x, instObj 192 dx) :: (dx, (dictOf (edD w.params c0 c1 c2 lo ex k1 k2 k3 k4 k5 k6 v1 v2 v3 v6) n)) :: (Tl' ++ (a ++ mat'))) ∧ MatL lw M rs mat' (n1 + 1) (n2 + 1) V' ∧ V' 0 0 = 0 ∧ (∀ i, i < n1 → V' (i + 1) 0 = if lo = true then 0 else V' i 0 + fst c0 c1 c2 U1 (i + 1)) ∧ ∀ p q, q ≠ 0 → V' p q = 0)) ?iff (fun f s' hf => ?_) fun _ _ e => e)
  case iff =>
    refine wpAny_If ?_
    k_steps
    · refine .mk ⟨rfl, _, _, m (Str.ofString "i"), Tl, mat, V, rfl, ts, ?_, N, H, hV 0 0, ?_, fun p q _ => hV p q⟩
      · have e : (fun y => if y = Str.ofString "i" then m (Str.ofString "i") else m y) = m := by funext y; split <;> simp_all
        rw [e]; exact F
      · intro i _; rw [if_pos ‹lo = true›]; exact hV _ _
    · refine col_loop (Tl := Tl) (a := a) (mat := mat) (lc := L + 1) (V := V) B X T C hqq29 F N ts H hself hs1 hdm hl1 hU1 hn1 hn2 hpre ha offa offl offx offd hdp hun (hV 0 0) fun h' tk' vi Tl' mat' V' ts' F' N' H' h00 hcol hrest => ?_
      refine wpAny_execs_nil ?_
      refine .mk ⟨rfl, _, _, vi, Tl', mat', V', rfl, ts', F', N', H', h00, ?_, fun p q hq => (hrest p q hq).trans (hV p q)⟩
      intro i hi; rw [if_neg (by rw [‹lo = false›]; decide)]; exact hcol i hi
  obtain ⟨rfl, h', tk', vi, Tl', mat', V', rfl, ts', F', N', H', h00, hcol, hrest⟩ := hf.out
  clear hf
  refine wpAny_execs_cons (row_loop (Tl := Tl') (a := a) (mat := mat') (s := { s with heap := h', toks := tk' }) B X T C hqq62 F' N' ts' H' hself hs2 hdm hoc hU2 hn1 hn2 hpre ha offa offl offx offd hdp hun fun h2 tk2 vj Tl2 mat2 V2 ts2 F2 N2 G2 hrow hr2 => ?_)
  clear N' H' F'
  obtain ⟨z1, y1⟩ := slice_cps (show U1.cps.size = n1 + 1 from hU1)
  obtain ⟨z2, y2⟩ := slice_cps (show U2.cps.size = n2 + 1 from hU2)
  have hasl : ∀ {U : Str} {n : Nat}, U.cps.size = n + 1 → U.cps.all (· < 128) = true → (Txt.slice U (some 1) none).cps.all (· < 128) = true := by
    intro U n hz hall
    obtain ⟨z, y⟩ := slice_cps hz
    rw [Array.all_eq_true] at hall ⊢
    intro k hk
    have e1 := y k
    rw [Array.getElem?_eq_getElem hk] at e1
    have hk2 : k + 1 < U.cps.size := by omega
    rw [Array.getElem?_eq_getElem hk2] at e1
    rw [Option.some.inj e1]
    exact hall (k + 1) hk2
  have stvf : ∀ {U : Str} {n : Nat}, U.cps.size = n + 1 → ∀ k d1 d2, U.cps[k]? = some d1 → (Txt.slice U (some 1) none).cps[k]? = some d2 → fst c0 c1 c2 U (k + 1) = stv c0 c1 c2 ⟨#[d1]⟩ ⟨#[d2]⟩ := by
    intro U n hz k d1 d2 e1 e2
    rw [(slice_cps hz).2 k] at e2
    unfold fst
    rw [item_at e2, show ((k + 1 : Nat) : Int) - 1 = (k : Int) by omega, item_at e1]
  refine wpAny_execs_cons (outer_loop (Tl := Tl2) (a := a) (mat := mat2) (s := { s with heap := h2, toks := tk2 }) B X T C hqq83 hqq96 hqq111 F2 N2 ts2 G2 hself hs1 hs2 hdm hU1 hU2 hn1 hn2 hpre ha offa offl offx offd hdp hun hasc1 (hasl hU1 hasc1) z1 hasc2 (hasl hU2 hasc2) z2 (e1 := fst c0 c1 c2 U1) (e2 := fst c0 c1 c2 U2) (g := gst c0 c1 c2 U1 U2) (stvf hU1) (stvf hU2) ?hg fun h3 tk3 w1 w2 w3 w4 w5 w6 Tl3 mat3 V3 ts3 F3 N3 G3 _ hmid hr3 => ?_)
  case hg =>
    intro i k b d e1 e2
    rw [y1 i] at e1
    rw [y2 k] at e2
    unfold gst
    rw [item_at e1, item_at e2]
  clear F2 N2 G2
  have hV3 := tab_of (n1 := n1) (n2 := n2) (lc := lo) (f1 := fst c0 c1 c2 U1) (f2 := fst c0 c1 c2 U2) (g := gst c0 c1 c2 U1 U2) (V := V3)
    (by rw [hr3 0 0 (.inl rfl), hr2 0 0 (.inr rfl)]; exact h00)
    (by intro i hi; rw [hr3 (i + 1) 0 (.inr rfl), hr2 (i + 1) 0 (.inr rfl), hr3 i 0 (.inr rfl), hr2 i 0 (.inr rfl)]; exact hcol i hi)
    (by intro j hj; rw [hr3 0 (j + 1) (.inl rfl), hr3 0 j (.inl rfl)]; exact hrow j hj)
    hmid n1 n2 (Nat.le_refl _) (Nat.le_refl _)
  have ym : (fun y => if y = Str.ofString "cs2_curr" then w6 else if y = Str.ofString "cs2_prev" then w5 else if y = Str.ofString "j" then w4 else if y = Str.ofString "cs1_curr" then w3 else if y = Str.ofString "cs1_prev" then w2 else if y = Str.ofString "i" then w1 else (if y = Str.ofString "j" then vj else (if y = Str.ofString "i" then vi else m y))) = (fun y => if y = Str.ofString "cs2_curr" then w6 else if y = Str.ofString "cs2_prev" then w5 else if y = Str.ofString "j" then w4 else if y = Str.ofString "cs1_curr" then w3 else if y = Str.ofString "cs1_prev" then w2 else if y = Str.ofString "i" then w1 else m y) := by funext y; (repeat' split) <;> first | rfl | contradiction
  rw [ym] at F3
  clear ym
  k_steps
  with_reducible rename Fr h₀ _ _ _ => kF
  with_reducible rename News h₀ _ _ _ => kN
  have e : (if mx < V3 (n1 : Int).toNat (n2 : Int).toNat then mx else V3 (n1 : Int).toNat (n2 : Int).toNat) = min (tab (fst c0 c1 c2 U1) (fst c0 c1 c2 U2) (gst c0 c1 c2 U1 U2) lo n1 n2) mx := by
    rw [Int.toNat_natCast, Int.toNat_natCast, hV3]
    split <;> omega
  rw [e]
  exact hQ _ _ _ _ _ _ ts3 kF kN
end
end Mine
-- EdV
namespace Mine
theorem fresh_EdV : True := by (w_top off; exact trivial)
local macro_rules | `(tactic| k_room) => `(tactic| ktr_room)
local macro_rules | `(tactic| walk_at "MY rest") => `(tactic| (
  refine' kp_rest ?k1 ?k2 ?k3 ?k4 ?k5 ?kA ?kF ?kK ?k6 ?k7 ?k8 ?kV ?kP ?kG ?kB ?_ ?c2 ?c3 ?c4 ?c5
  (case kA => exact rfl)
  (case kF => first | exact rfl | assumption)
  (case kK => first | exact rfl | assumption)
  (case k1 => k_asm)
  (case k2 => k_asm)
  (case k3 => k_asm)
  (case k4 => k_asm)
  (case k5 => k_asm)
  (case k6 => k_is)
  (case k7 => k_is)
  (case k8 => k_room)
  (case kV => kl_lit)
  (case kP => exact rfl)
  (case kG => exact fun _ => rfl)
  (case kB => exact fun _ => locs rfl)
  (case c5 => decide)
  (case c2 => exact rfl)
  (case c3 => exact rfl)
  (case c4 => exact rfl)
  k_whole
  intro D' g' L' h' l1 FG' F' N' B' X' T'
  (try k_lt l1); (try dsimp only); (try k_lift B'); (try k_fold)))
local macro_rules | `(tactic| walk_at "MY plain") => `(tactic| (
  refine' code_def ?k1 ?k2 ?k3 ?k4 ?k5 ?kA ?kF ?kK ?k6 ?k7 ?k8 ?k9 ?kB ?_ ?c2 ?c3 ?c4 ?c5
  (case kA => exact rfl)
  (case kF => first | exact rfl | assumption)
  (case kK => first | exact rfl | assumption)
  (case k1 => k_asm)
  (case k2 => k_asm)
  (case k3 => k_asm)
  (case k4 => k_asm)
  (case k5 => k_asm)
  (case k6 => k_is)
  (case k7 => k_is)
  (case k8 => k_room)
  (case k9 => first | exact BindsTo.of_eq rfl | exact binds_K (by k_in) rfl (by k_is) rfl rfl rfl)
  (case c5 => decide)
  (case kB => exact locs rfl)
  (case c2 => exact rfl)
  (case c3 => exact rfl)
  (case c4 => exact rfl)
  k_whole
  intro g' L' h' FG' F' N' B' X' T'
  (try dsimp only); (try k_lift B'); (try k_fold)))
local macro_rules | `(tactic| walk_at "getAttr ref") => `(tactic| (k_here; (with_reducible show wpAny _ _ (getAttr (Value.ref _) (PySem.Str.ofString "_ident") _) _ _ _); k_dflt (refine' get_sm ?k1 ?k2 ?k3 ?k4 ?k5 ?k6 ?k7 ?k8 ?k9 ?k10 ?k11 ?k12 ?_; (case k3 => k_inst); (case k1 => k_asm); (case k2 => k_asm); (case k6 => k_is); (case k4 => k_is); (case k5 => k_is); (case k7 => k_is); (case k8 => k_is); (case k9 => decide +kernel); (case k10 => k_get); (case k11 => k_is); (case k12 => k_handed); k_whole)))
local macro_rules | `(tactic| walk_at "eval Call Attribute") => `(tactic| (k_here; (with_reducible show wpAny _ _ (eval (Expr.Call (Expr.Attribute (Expr.Name _ _) _ _) [Expr.Starred _ _] [] _) _) _ _ _); refine starMethod ?_))
local macro_rules | `(tactic| walk_at "MY restC") => `(tactic| (
  refine' kpc_rest ?k1 ?k2 ?k3 ?k4 ?k5 ?kA ?kF ?kK ?k6 ?k7 ?k8 ?kV ?kP ?kG ?kB ?kD ?_ ?c2 ?c3 ?c4
  (case kA => exact rfl)
  (case kF => first | exact rfl | assumption)
  (case kK => first | exact rfl | assumption)
  (case k1 => k_asm)
  (case k2 => k_asm)
  (case k3 => k_asm)
  (case k4 => k_asm)
  (case k5 => k_asm)
  (case k6 => k_is)
  (case k7 => k_is)
  (case k8 => k_room)
  (case kV => kl_lit)
  (case kP => exact rfl)
  (case kG => exact fun _ => rfl)
  (case kB => exact fun _ => rfl)
  (case kD => decide +kernel)
  (case c2 => exact rfl)
  (case c3 => exact rfl)
  (case c4 => exact rfl)
  k_whole
  intro D' g' L' h' tk' cells' l1 l2 FG' F' N' Y' B' X' T'
  (try k_lt l1); (try k_lt2 l2); k_cells Y'; (try simp only [List.cons_append, List.nil_append] at N'); (try dsimp only); (try k_lift B'); (try k_fold)))
local macro_rules | `(tactic| walk_at "call ref") => `(tactic| (k_here; (with_reducible show wpAny _ _ (call (Value.ref 95) _) _ _ _); k_dflt (refine wpAny_call ?_; refine' ident_c ?k1 ?k2 ?k3 ?k4 ?k5 ?k6 ?k7 ?k8 ?k9 ?_; (case k1 => k_asm); (case k2 => k_asm); (case k3 => k_asm); (case k4 => k_asm); (case k5 => k_asm); (case k6 => first | exact rfl | assumption); (case k7 => first | exact rfl | assumption); (case k8 => (dsimp only [Arnd, Around.deeper] at *; omega)); (case k9 => (dsimp only [Arnd, Around.deeper] at *; omega)); k_whole); intro h' tk' F' N'; (try dsimp only); (try k_sweep)))
local macro_rules | `(tactic| walk_at "MY memT") => `(tactic| (first | (refine List.mem_append_left _ ?_; assumption) | (refine List.Mem.tail _ ?_; walk_at "MY memT")))
local macro_rules | `(tactic| walk_at "MY split") => `(tactic| (first | exact Split.base | (refine' Split.cons ?sp; (case sp => walk_at "MY split"))))
local macro_rules | `(tactic| walk_at "MY off") => `(tactic| ((try dsimp only); simp only [List.forall_mem_cons, List.not_mem_nil, false_implies, implies_true, and_true]; (repeat' (refine And.intro ?_ ?_)); all_goals (first | assumption | (refine neN ?_; (try dsimp only); omega))))
local macro_rules | `(tactic| walk_at "eval Lambda") => `(tactic| (k_here; k_dflt (refine' kla_eval ?d0 ?_; (case d0 => exact rfl)); (first
  | (k_dflt (refine' lam_S1 ?ts ?F ?N ?hg ?T ?C ?off ?offo ?hq ?e1 ?e2 ?hcl ?_; (case ts => assumption); (case F => k_asm); (case N => k_asm); (case hg => walk_at "MY split"); (case T => k_asm); (case C => assumption); (case off => walk_at "MY off"); (case offo => assumption); (case hq => first | rfl | with_unfolding_all rfl); (case e1 => rfl); (case e2 => rfl); (case hcl => exact rfl); k_whole); intro f' c' oc' ct' h' tk' Tl' F' N' ts' hm' hc' l1'; (try simp only [List.cons_append, List.nil_append] at N'))
  | (k_dflt (refine' lam_S2 ?ts ?F ?N ?hg ?T ?C ?off ?offo ?hq ?e1 ?e2 ?hcl ?_; (case ts => assumption); (case F => k_asm); (case N => k_asm); (case hg => walk_at "MY split"); (case T => k_asm); (case C => assumption); (case off => walk_at "MY off"); (case offo => assumption); (case hq => first | rfl | with_unfolding_all rfl); (case e1 => rfl); (case e2 => rfl); (case hcl => exact rfl); k_whole); intro f' c' oc' ct' h' tk' Tl' F' N' ts' hm' hc' l1'; (try simp only [List.cons_append, List.nil_append] at N')))))
local macro_rules | `(tactic| walk_at "call type:map") => `(tactic| (k_here; k_dflt (refine' map_K ?F ?N ?m ?c ?d ?_; (case F => k_asm); (case N => k_asm); (case m => k_mem); (case c => exact rfl); (case d => exact rfl); k_whole); intro h' mp' it' F' N' hX' hlt' hL' h0'; (try dsimp only)))
local macro_rules | `(tactic| walk_at "call builtin:any") => `(tactic| (k_here; k_dflt (refine' any_lam1 ?hh ?room ?F ?N ?X ?T ?M ?lt ?L ?h0 ?ho ?hoc ?hc ?hcs ?hcd ?hx ?hdx ?_; (case hh => exact rfl); (case room => (dsimp only [Arnd, Around.deeper] at *; omega)); (case F => k_asm); (case N => k_asm); (case X => k_asm); (case T => k_asm); (case M => assumption); (case lt => assumption); (case L => assumption); (case h0 => assumption); (case ho => k_mem); (case hoc => walk_at "MY memT"); (case hc => assumption); (case hcs => k_mem); (case hcd => assumption); (case hx => k_mem); (case hdx => k_mem); k_whole); intro h' tk' F' N'; (try dsimp only)))
local macro_rules | `(tactic| walk_at "call builtin:all") => `(tactic| (k_here; k_dflt (refine' all_lam2 ?hh ?room ?F ?N ?X ?T ?M ?lt ?L ?h0 ?ho ?hoc ?hc ?hcs ?hcd ?_; (case hh => exact rfl); (case room => (dsimp only [Arnd, Around.deeper] at *; omega)); (case F => k_asm); (case N => k_asm); (case X => k_asm); (case T => k_asm); (case M => assumption); (case lt => assumption); (case L => assumption); (case h0 => assumption); (case ho => k_mem); (case hoc => walk_at "MY memT"); (case hc => assumption); (case hcs => k_mem); (case hcd => assumption); k_whole); intro h' tk' F' N'; (try dsimp only)))
local macro_rules | `(tactic| walk_at "MY sub") => `(tactic| (first | assumption | (refine List.Mem.tail _ ?_; walk_at "MY sub")))
local macro_rules | `(tactic| walk_at "MY fin") => `(tactic| (with_reducible rename Fr h₀ _ _ _ => kF; with_reducible rename News h₀ _ _ _ => kN))
local macro_rules | `(tactic| walk_at "callWith ref") => `(tactic| (k_here; (with_reducible show wpAny _ _ (callWith _ (Value.ref _) _ (backTo _ (starEach [Expr.Starred _ _] _)) []) _ _ _); k_dflt (refine' callWith_SM ?k1 ?k2 ?k3 ?k4 ?_; (case k1 => k_asm); (case k2 => k_asm); (case k3 => k_mem); (case k4 => k_is); k_whole)))
local macro_rules | `(tactic| walk_at "MY plainC") => `(tactic| (refine' code_defC ?k1 ?k2 ?k3 ?k4 ?k5 ?kA ?kF ?kK ?k6 ?k7 ?k8 ?k9 ?kB ?kD ?_ ?c2 ?c3 ?c4; (case kA => exact rfl); (case kF => first | exact rfl | assumption); (case kK => first | exact rfl | assumption); (case k1 => k_asm); (case k2 => k_asm); (case k3 => k_asm); (case k4 => k_asm); (case k5 => k_asm); (case k6 => k_is); (case k7 => k_is); (case k8 => k_room); (case k9 => first | exact BindsTo.of_eq rfl | exact binds_K (by k_in) rfl (by k_is) rfl rfl rfl); (case kB => exact rfl); (case kD => decide +kernel); (case c2 => exact rfl); (case c3 => exact rfl); (case c4 => exact rfl); k_whole; intro g' L' h' tk' cells' FG' F' N' Y' B' X' T' l1; (try k_lt l1); k_cells Y'; (try simp only [List.cons_append, List.nil_append] at N'); (try dsimp only); (try k_lift B'); (try k_fold)))
local macro_rules | `(tactic| walk_at "MY offc") => `(tactic| ((try dsimp only); simp only [List.forall_mem_cons, List.not_mem_nil, false_implies, implies_true, and_true]; (repeat' (refine And.intro ?_ ?_)); all_goals (first | assumption | (refine neN ?_; (try dsimp only); omega) | (intro p' hp'; refine neN ?_; have hlt' := allLt_mem (by assumption) p' hp'; omega))))
local macro_rules | `(tactic| walk_at "storeName") => `(tactic| (k_here; k_dflt (refine' storeX_C ?F ?N ?c ?U ?d ?_ ?a ?b; (case a => rfl); (case b => rfl); (case F => k_asm); (case N => k_asm); (case c => rfl); (case U => refine' UpdF.head ?a; (case a => walk_at "MY offc")); (case d => k_asm); k_whole; intro h' o' F' N' d'; (try dsimp only at N'); (try k_sweep))))
local macro_rules | `(tactic| walk_at "call ref") => `(tactic| (k_here; (with_reducible show wpAny _ _ (call (Value.ref 170) _) _ _ _); k_dflt (refine wpAny_call ?_; refine' maximum_m ?B ?F ?X ?T ?hf ?hke ?N ?hx ?hdx ?hdp ?hun ?hc2 ?ha ?hb ?_; (case B => k_asm); (case F => k_asm); (case X => k_asm); (case T => k_asm); (case hf => first | exact rfl | assumption); (case hke => first | exact rfl | assumption); (case N => k_asm); (case hx => k_mem); (case hdx => k_mem); (case hdp => (dsimp only [Arnd, Around.deeper] at *; omega)); (case hun => (dsimp only [Arnd, Around.deeper] at *; omega)); (case hc2 => assumption); (case ha => assumption); (case hb => assumption); k_whole); intro h' tk' t' F' N'; (try simp only [List.cons_append, List.nil_append] at N'); (try dsimp only)))
local macro_rules | `(tactic| walk_at "call ref") => `(tactic| (k_here; (with_reducible show wpAny _ _ (call (Value.ref 88) _) _ _ _); k_dflt (refine wpAny_call ?_; refine' quick_m ?B ?F ?X ?T ?hf ?hke ?N ?hx ?hdx ?hdp ?hun ?hc2 ?ha ?hb ?r0 ?r1 ?r2; (case B => k_asm); (case F => k_asm); (case X => k_asm); (case T => k_asm); (case hf => first | exact rfl | assumption); (case hke => first | exact rfl | assumption); (case N => k_asm); (case hx => k_mem); (case hdx => k_mem); (case hdp => (dsimp only [Arnd, Around.deeper] at *; omega)); (case hun => (dsimp only [Arnd, Around.deeper] at *; omega)); (case hc2 => assumption); (case ha => assumption); (case hb => assumption)); (case' r0 => (intro h' tk' t' F' N' e1'; (try dsimp only))); (case' r1 => (intro h' tk' t' F' N' e1' e2'; (try dsimp only))); (case' r2 => (intro h' tk' F' N' e1' e2' e3'; (try dsimp only)))))
section
variable {w : World} {p : Program} {loose : List Str} {mean : ExcName → Option Value} {mg mb : Str → Option Value} {dp un : Nat} {gd : Option (List Code)} {env : Env} {outer : List Env} {A₀ : Around} {base h₀ : Heap} {L : Addr} {m : Str → Option Value} {news : List (Addr × Obj)} {s : Shared} {R : Result → Shared → Prop}
variable {x dx : Addr} {c0 c1 c2 : Int} {lo ex : Bool} {k1 k2 k3 k4 k5 k6 v1 v2 v3 v6 : Tok} {n : Nat} {own Tl : List (Addr × Obj)} {led pre : List (Addr × Obj)}
theorem name_cell_any {M : Model} {A : Around} {E : Value → Shared → Prop} {env : Env} {x : Str} {pos : Pos} {v : Value} {Q : Value → Shared → Prop} {c : Addr}
    (hc : env.cells.lookup x = some c) (hv : s.heap.IsCell c (some v)) (h : Q v s) (hk : env.scope.kind = .function) (hx : env.kindOf x = some .cell) (hb : (x == ("__debug__" : Str)) = false) :
    wpAny M A (eval (.Name x pos) env) Q E s := wpAny_Name (wpAny_loadName_cell hk hx hc hv h) hb
local macro_rules | `(tactic| walk_at "eval Name") => `(tactic| (k_here; (with_reducible show wpAny _ _ (eval _ (compEnvC _ _ _ _)) _ _ _); k_dflt (refine' name_cell_any ?c ?v ?_ ?a ?b ?d; (case a => rfl); (case b => rfl); (case c => rfl); (case d => decide); (case v => assumption); k_whole)))
theorem hpre_of {h : Heap} {cc lo : Addr} {oc ox od : Obj} {rs : List Addr} {rest : List (Addr × Obj)} (_N : News h₀ L h ((cc, oc) :: (x, ox) :: (dx, od) :: rest)) (low : ∀ r ∈ rs, @LT.lt Nat _ lo r) (h1 : @LE.le Nat _ cc lo) (h2 : @LE.le Nat _ x lo) (h3 : @LE.le Nat _ dx lo) :
    ∀ p ∈ [(cc, oc), (x, ox), (dx, od)], ∀ r ∈ rs, p.1 ≠ r := by
  intro p hp r hr
  have hlo := ltN (low r hr)
  simp only [List.mem_cons, List.not_mem_nil, or_false] at hp
  rcases hp with rfl | rfl | rfl <;> (refine neN ?_; dsimp only at hlo ⊢; omega)
def callV (c0 c1 c2 : Int) (lo : Bool) (a b : Str) : Int := if a = b then 0 else if a.length = 0 ∨ b.length = 0 then (max a.length b.length : Nat) * c2 else
  min (tab (fst c0 c1 c2 (Str.ofString " " ++ Txt.upper a)) (fst c0 c1 c2 (Str.ofString " " ++ Txt.upper b)) (gst c0 c1 c2 (Str.ofString " " ++ Txt.upper a) (Str.ofString " " ++ Txt.upper b)) lo a.length b.length) ((max a.length b.length : Nat) * c2)
theorem call_c (B : Below A₀ base outer h₀) (F : Fr h₀ L s.heap m) (X : (hd.heap_39 w.params).In h₀) (N : News h₀ L s.heap ((x, instObj 192 dx) :: (dx, (dictOf (edD w.params c0 c1 c2 lo ex k1 k2 k3 k4 k5 k6 v1 v2 v3 v6) n)) :: (Tl ++ own))) (T : Top p loose mean mg mb h₀) (hf : env.frame = some L) (hke : env.scope.kind = .function) (C : CodeHd h₀ 176 172) (ts : TS Tl) (offo : ∀ p ∈ own, p.1 ≠ 172) (offx : x ≠ 172) (offd : dx ≠ 172) (hdp : dp + 40 < recursionLimit) (hun : un + 512 < cLine) (hc2 : 0 ≤ c2 ∧ c2 ≤ 8) {a b : Str} {ta tb : Tok} (ha : a.length ≤ 3) (hb : b.length ≤ 3) (hua : (Txt.upper a).length = a.length) (hub : (Txt.upper b).length = b.length) (haa : (Txt.upper a).cps.all (· < 128) = true) (hab : (Txt.upper b).cps.all (· < 128) = true)
  (hR : ∀ h' tk' t' Tl', Fr h₀ L h' m → News h₀ L h' ((x, instObj 192 dx) :: (dx, (dictOf (edD w.params c0 c1 c2 lo ex k1 k2 k3 k4 k5 k6 v1 v2 v3 v6) n)) :: (Tl' ++ own)) → TS Tl' → R (.ok (.ret (.int (callV c0 c1 c2 lo a b) t'))) {s with heap := h', toks := tk'}) : codeAny (model PySem.Challenge.rw_bs0041_01.row.prog w) (Arnd dp un gd env outer) (.call (.ref 189) ⟨[.ref x, .str a ta, .str b tb], []⟩) R s := by
  revert X; k_fill; intro X
  walk_at "MY plainC"
  with_reducible rename Fr h₀ _ _ _ => FG
  have C' := C.keeps FG.keep
  obtain ⟨_, _, hAll⟩ : _ < _ ∧ _ < _ ∧ AllLt _ (Tl ++ own) := by assumption
  have h172 := ltN (TS.lt ts hAll)
  have ha8 : a.length ≤ 8 := by omega
  have hb8 : b.length ≤ 8 := by omega
  k_steps
  · have hlb : (Str.ofString " ").length = 1 := rfl
    with_reducible rename Fr _ _ _ _ => FL
    with_reducible rename News _ _ _ _ => NL
    with_reducible rename Obj.data _ = Data.cell _ => hdl
    with_reducible rename IsRange _ _ _ _ _ _ _ _ => hrg
    refine' LCg.CompSrc.range (n := (Str.ofString " ").length + (Txt.upper a).length) rfl FL NL hrg ?sm ?n ?sz (fun g => comp_zero (N2 := (Str.ofString " ").length + (Txt.upper b).length) (fun _ => trivial) ?hel ⟨_, .head _, rfl⟩ ?h172 ?h172l ?fin g)
    case sm => exact small_one (by omega) (by omega) (by omega) (by omega)
    case n => unfold Builtin.Range.rangeSize; rw [if_pos (by decide)]; split <;> omega
    case sz => rw [sizeLine_eq]; omega
    case h172 => dsimp only; omega
    case h172l =>
      obtain ⟨o9, ho9, hc9⟩ := ts.mem172
      exact ⟨o9, .tail _ (.tail _ (.tail _ (List.mem_append_left _ ho9))), hc9⟩
    case hel =>
      intro I oI CC oC D ys m₂ h tk led E' hC F1 N1 hsub
      refine wpAny_mono (row_elt (N2 := (Str.ofString " ").length + (Txt.upper b).length) F1 N1 (by omega) (fun s₁ hk => ?_)) (fun yv s₂ h₂ => ?_) fun _ _ e => e
      · refine wpAny_BinOp (name_cell_any (c := _) rfl ⟨_, hk _ _ (N1 _ (.tail _ (.tail _ (.tail _ (hsub _ (.head _)))))).1, hdl⟩ (wpAny_Constant_int (add_int ?_)) rfl rfl (by decide))
        exact ⟨_, _, by congr 1; omega, rfl⟩
      · exact h₂
    case fin =>
      intro D h tk rs mat F1 N1 H
      have N2 : News _ _ h (_ :: _ :: _ :: (Tl ++ (own ++ mat))) := fun p hp => N1 p (by
        rcases List.mem_cons.mp hp with rfl | hp
        · exact List.mem_append.mpr (.inr (.head _))
        · rcases List.mem_cons.mp hp with rfl | hp
          · exact List.mem_append.mpr (.inr (.tail _ (.head _)))
          · rcases List.mem_cons.mp hp with rfl | hp
            · exact List.mem_append.mpr (.inr (.tail _ (.tail _ (.head _))))
            · rcases List.mem_append.mp hp with hp | hp
              · exact List.mem_append.mpr (.inr (.tail _ (.tail _ (.tail _ (List.mem_append.mpr (.inl hp))))))
              · rcases List.mem_append.mp hp with hp | hp
                · exact List.mem_append.mpr (.inr (.tail _ (.tail _ (.tail _ (List.mem_append.mpr (.inr hp))))))
                · exact List.mem_append.mpr (.inl hp))
      clear FL NL hrg N1
      have hpre := hpre_of N2 H.low (Nat.le_refl _) (by dsimp only; omega) (by dsimp only; omega)
      obtain ⟨mF, hmF, F2⟩ : ∃ mF, mF = _ ∧ Fr _ _ h mF := ⟨_, rfl, F1⟩
      have gself : mF (Str.ofString "self") = some (.ref x) := by rw [hmF]; rfl
      obtain ⟨tgs1, gs1⟩ : ∃ t, mF (Str.ofString "s1") = some (.str (Str.ofString " " ++ Txt.upper a) t) := ⟨_, by rw [hmF]; rfl⟩
      obtain ⟨tgs2, gs2⟩ : ∃ t, mF (Str.ofString "s2") = some (.str (Str.ofString " " ++ Txt.upper b) t) := ⟨_, by rw [hmF]; rfl⟩
      have gdm : mF (Str.ofString "d_mat") = some (.ref D) := by rw [hmF]; rfl
      obtain ⟨tl1, gl1⟩ : ∃ t, mF (Str.ofString "len_s1") = some (.int (((Str.ofString " ").length + (Txt.upper a).length : Nat) - 1 : Int) t) := ⟨_, by rw [hmF]; rfl⟩
      obtain ⟨tml, gml⟩ : ∃ t, mF (Str.ofString "max_length") = some (.int ((max a.length b.length : Nat) * c2) t) := ⟨_, by rw [hmF]; rfl⟩
      have hlU : ∀ c : Str, (Str.ofString " " ++ c).length = c.length + 1 := fun c => by rw [Str.length_append, hlb, Nat.add_comm]
      have hcU : ∀ c : Str, c.cps.all (· < 128) = true → (Str.ofString " " ++ c).cps.all (· < 128) = true := fun c hc => by
        rw [Str.cps_append, Array.all_append, hc, Bool.and_true]; decide +kernel
      have eN1 : (Str.ofString " ").length + (Txt.upper a).length = a.length + 1 := by omega
      have eN2 : (Str.ofString " ").length + (Txt.upper b).length = b.length + 1 := by omega
      rw [eN1, eN2] at H
      rw [eN1, show ((a.length + 1 : Nat) : Int) - 1 = (a.length : Int) by omega] at gl1
      rw [eN2, show ((b.length + 1 : Nat) : Int) - 1 = (b.length : Int) by omega] at hdl
      have hao : ∀ p ∈ own, ∀ r ∈ rs, p.1 ≠ r := fun p hp r hr => neN (Nat.ne_of_lt (by have h1 := allLt_mem hAll p (List.mem_append_right _ hp); have h2 := H.low r hr; dsimp only at h2; omega))
      refine call_rest (Tl := Tl) (a := own) (mat := mat) (lo := lo) (ex := ex) (s := { s with heap := h, toks := tk }) (by assumption) (by assumption) (by assumption) C' (by exact rfl) (by exact rfl) (by exact rfl) (by exact rfl) (by exact rfl) F2 N2 ts H (fun _ _ => rfl) gself gs1 gs2 gdm gl1 gml hdl ((hlU _).trans (by omega)) ((hlU _).trans (by omega)) ha8 hb8 (hcU _ haa) (hcU _ hab) hpre hao offo (neN (Nat.ne_of_gt (by omega))) offx offd hdp hun fun h5 tk5 t5 m5 Tl5 mat5 ts5 F5 N5 => ?_
      k_steps
      with_reducible rename Fr h₀ _ _ _ => kF
      with_reducible rename News h₀ _ _ _ => kN
      have e : callV c0 c1 c2 lo a b = min (tab (fst c0 c1 c2 (Str.ofString " " ++ Txt.upper a)) (fst c0 c1 c2 (Str.ofString " " ++ Txt.upper b)) (gst c0 c1 c2 (Str.ofString " " ++ Txt.upper a) (Str.ofString " " ++ Txt.upper b)) lo a.length b.length) ((max a.length b.length : Nat) * c2) := by
        unfold callV; rw [if_neg ‹a ≠ b›, if_neg (fun h => h.elim ‹a.length ≠ 0› ‹b.length ≠ 0›)]
      rw [← e]
      refine hR _ _ _ _ kF (fun p hp => kN p ?_) ts5
      rcases List.mem_cons.mp hp with rfl | hp
      · exact .tail _ (.head _)
      · rcases List.mem_cons.mp hp with rfl | hp
        · exact .tail _ (.tail _ (.head _))
        · refine .tail _ (.tail _ (.tail _ ?_))
          rcases List.mem_append.mp hp with hp | hp
          · exact List.mem_append.mpr (.inl hp)
          · exact List.mem_append.mpr (.inr (List.mem_append.mpr (.inl hp)))
  · with_reducible rename Fr h₀ _ _ _ => kF
    with_reducible rename News h₀ _ _ _ => kN
    have e : callV c0 c1 c2 lo a b = (max a.length b.length : Nat) * c2 := by unfold callV; rw [if_neg ‹a ≠ b›, if_pos ‹a.length = 0 ∨ b.length = 0›]
    rw [← e]
    exact hR _ _ _ _ kF (fun p hp => kN p (.tail _ hp)) ts
  · with_reducible rename Fr h₀ _ _ _ => kF
    with_reducible rename News h₀ _ _ _ => kN
    have e : callV c0 c1 c2 lo a b = 0 := by unfold callV; rw [if_pos ‹a = b›]
    rw [← e]
    exact hR _ _ _ _ kF (fun p hp => kN p (.tail _ hp)) ts
end
end Mine
-- Ed7
namespace Mine
theorem fresh_Ed7 : True := by (w_top off; exact trivial)
local macro_rules | `(tactic| k_room) => `(tactic| ktr_room)
local macro_rules | `(tactic| walk_at "MY rest") => `(tactic| (
  refine' kp_rest ?k1 ?k2 ?k3 ?k4 ?k5 ?kA ?kF ?kK ?k6 ?k7 ?k8 ?kV ?kP ?kG ?kB ?_ ?c2 ?c3 ?c4 ?c5
  (case kA => exact rfl)
  (case kF => first | exact rfl | assumption)
  (case kK => first | exact rfl | assumption)
  (case k1 => k_asm)
  (case k2 => k_asm)
  (case k3 => k_asm)
  (case k4 => k_asm)
  (case k5 => k_asm)
  (case k6 => k_is)
  (case k7 => k_is)
  (case k8 => k_room)
  (case kV => kl_lit)
  (case kP => exact rfl)
  (case kG => exact fun _ => rfl)
  (case kB => exact fun _ => locs rfl)
  (case c5 => decide)
  (case c2 => exact rfl)
  (case c3 => exact rfl)
  (case c4 => exact rfl)
  k_whole
  intro D' g' L' h' l1 FG' F' N' B' X' T'
  (try k_lt l1); (try dsimp only); (try k_lift B'); (try k_fold)))
local macro_rules | `(tactic| walk_at "MY plain") => `(tactic| (
  refine' code_def ?k1 ?k2 ?k3 ?k4 ?k5 ?kA ?kF ?kK ?k6 ?k7 ?k8 ?k9 ?kB ?_ ?c2 ?c3 ?c4 ?c5
  (case kA => exact rfl)
  (case kF => first | exact rfl | assumption)
  (case kK => first | exact rfl | assumption)
  (case k1 => k_asm)
  (case k2 => k_asm)
  (case k3 => k_asm)
  (case k4 => k_asm)
  (case k5 => k_asm)
  (case k6 => k_is)
  (case k7 => k_is)
  (case k8 => k_room)
  (case k9 => first | exact BindsTo.of_eq rfl | exact binds_K (by k_in) rfl (by k_is) rfl rfl rfl)
  (case c5 => decide)
  (case kB => exact locs rfl)
  (case c2 => exact rfl)
  (case c3 => exact rfl)
  (case c4 => exact rfl)
  k_whole
  intro g' L' h' FG' F' N' B' X' T'
  (try dsimp only); (try k_lift B'); (try k_fold)))
local macro_rules | `(tactic| walk_at "getAttr ref") => `(tactic| (k_here; (with_reducible show wpAny _ _ (getAttr (Value.ref _) (PySem.Str.ofString "_ident") _) _ _ _); k_dflt (refine' get_sm ?k1 ?k2 ?k3 ?k4 ?k5 ?k6 ?k7 ?k8 ?k9 ?k10 ?k11 ?k12 ?_; (case k3 => k_inst); (case k1 => k_asm); (case k2 => k_asm); (case k6 => k_is); (case k4 => k_is); (case k5 => k_is); (case k7 => k_is); (case k8 => k_is); (case k9 => decide +kernel); (case k10 => k_get); (case k11 => k_is); (case k12 => k_handed); k_whole)))
local macro_rules | `(tactic| walk_at "eval Call Attribute") => `(tactic| (k_here; (with_reducible show wpAny _ _ (eval (Expr.Call (Expr.Attribute (Expr.Name _ _) _ _) [Expr.Starred _ _] [] _) _) _ _ _); refine starMethod ?_))
local macro_rules | `(tactic| walk_at "MY restC") => `(tactic| (
  refine' kpc_rest ?k1 ?k2 ?k3 ?k4 ?k5 ?kA ?kF ?kK ?k6 ?k7 ?k8 ?kV ?kP ?kG ?kB ?kD ?_ ?c2 ?c3 ?c4
  (case kA => exact rfl)
  (case kF => first | exact rfl | assumption)
  (case kK => first | exact rfl | assumption)
  (case k1 => k_asm)
  (case k2 => k_asm)
  (case k3 => k_asm)
  (case k4 => k_asm)
  (case k5 => k_asm)
  (case k6 => k_is)
  (case k7 => k_is)
  (case k8 => k_room)
  (case kV => kl_lit)
  (case kP => exact rfl)
  (case kG => exact fun _ => rfl)
  (case kB => exact fun _ => rfl)
  (case kD => decide +kernel)
  (case c2 => exact rfl)
  (case c3 => exact rfl)
  (case c4 => exact rfl)
  k_whole
  intro D' g' L' h' tk' cells' l1 l2 FG' F' N' Y' B' X' T'
  (try k_lt l1); (try k_lt2 l2); k_cells Y'; (try simp only [List.cons_append, List.nil_append] at N'); (try dsimp only); (try k_lift B'); (try k_fold)))
local macro_rules | `(tactic| walk_at "call ref") => `(tactic| (k_here; (with_reducible show wpAny _ _ (call (Value.ref 95) _) _ _ _); k_dflt (refine wpAny_call ?_; refine' ident_c ?k1 ?k2 ?k3 ?k4 ?k5 ?k6 ?k7 ?k8 ?k9 ?_; (case k1 => k_asm); (case k2 => k_asm); (case k3 => k_asm); (case k4 => k_asm); (case k5 => k_asm); (case k6 => first | exact rfl | assumption); (case k7 => first | exact rfl | assumption); (case k8 => (dsimp only [Arnd, Around.deeper] at *; omega)); (case k9 => (dsimp only [Arnd, Around.deeper] at *; omega)); k_whole); intro h' tk' F' N'; (try dsimp only); (try k_sweep)))
local macro_rules | `(tactic| walk_at "MY memT") => `(tactic| (first | (refine List.mem_append_left _ ?_; assumption) | (refine List.Mem.tail _ ?_; walk_at "MY memT")))
local macro_rules | `(tactic| walk_at "MY split") => `(tactic| (first | exact Split.base | (refine' Split.cons ?sp; (case sp => walk_at "MY split"))))
local macro_rules | `(tactic| walk_at "MY off") => `(tactic| ((try dsimp only); simp only [List.forall_mem_cons, List.not_mem_nil, false_implies, implies_true, and_true]; (repeat' (refine And.intro ?_ ?_)); all_goals (first | assumption | (refine neN ?_; (try dsimp only); omega))))
local macro_rules | `(tactic| walk_at "eval Lambda") => `(tactic| (k_here; k_dflt (refine' kla_eval ?d0 ?_; (case d0 => exact rfl)); (first
  | (k_dflt (refine' lam_S1 ?ts ?F ?N ?hg ?T ?C ?off ?offo ?hq ?e1 ?e2 ?hcl ?_; (case ts => assumption); (case F => k_asm); (case N => k_asm); (case hg => walk_at "MY split"); (case T => k_asm); (case C => assumption); (case off => walk_at "MY off"); (case offo => assumption); (case hq => first | rfl | with_unfolding_all rfl); (case e1 => rfl); (case e2 => rfl); (case hcl => exact rfl); k_whole); intro f' c' oc' ct' h' tk' Tl' F' N' ts' hm' hc' l1'; (try simp only [List.cons_append, List.nil_append] at N'))
  | (k_dflt (refine' lam_S2 ?ts ?F ?N ?hg ?T ?C ?off ?offo ?hq ?e1 ?e2 ?hcl ?_; (case ts => assumption); (case F => k_asm); (case N => k_asm); (case hg => walk_at "MY split"); (case T => k_asm); (case C => assumption); (case off => walk_at "MY off"); (case offo => assumption); (case hq => first | rfl | with_unfolding_all rfl); (case e1 => rfl); (case e2 => rfl); (case hcl => exact rfl); k_whole); intro f' c' oc' ct' h' tk' Tl' F' N' ts' hm' hc' l1'; (try simp only [List.cons_append, List.nil_append] at N')))))
local macro_rules | `(tactic| walk_at "call type:map") => `(tactic| (k_here; k_dflt (refine' map_K ?F ?N ?m ?c ?d ?_; (case F => k_asm); (case N => k_asm); (case m => k_mem); (case c => exact rfl); (case d => exact rfl); k_whole); intro h' mp' it' F' N' hX' hlt' hL' h0'; (try dsimp only)))
local macro_rules | `(tactic| walk_at "call builtin:any") => `(tactic| (k_here; k_dflt (refine' any_lam1 ?hh ?room ?F ?N ?X ?T ?M ?lt ?L ?h0 ?ho ?hoc ?hc ?hcs ?hcd ?hx ?hdx ?_; (case hh => exact rfl); (case room => (dsimp only [Arnd, Around.deeper] at *; omega)); (case F => k_asm); (case N => k_asm); (case X => k_asm); (case T => k_asm); (case M => assumption); (case lt => assumption); (case L => assumption); (case h0 => assumption); (case ho => k_mem); (case hoc => walk_at "MY memT"); (case hc => assumption); (case hcs => k_mem); (case hcd => assumption); (case hx => k_mem); (case hdx => k_mem); k_whole); intro h' tk' F' N'; (try dsimp only)))
local macro_rules | `(tactic| walk_at "call builtin:all") => `(tactic| (k_here; k_dflt (refine' all_lam2 ?hh ?room ?F ?N ?X ?T ?M ?lt ?L ?h0 ?ho ?hoc ?hc ?hcs ?hcd ?_; (case hh => exact rfl); (case room => (dsimp only [Arnd, Around.deeper] at *; omega)); (case F => k_asm); (case N => k_asm); (case X => k_asm); (case T => k_asm); (case M => assumption); (case lt => assumption); (case L => assumption); (case h0 => assumption); (case ho => k_mem); (case hoc => walk_at "MY memT"); (case hc => assumption); (case hcs => k_mem); (case hcd => assumption); k_whole); intro h' tk' F' N'; (try dsimp only)))
local macro_rules | `(tactic| walk_at "MY sub") => `(tactic| (first | assumption | (refine List.Mem.tail _ ?_; walk_at "MY sub")))
local macro_rules | `(tactic| walk_at "MY fin") => `(tactic| (with_reducible rename Fr h₀ _ _ _ => kF; with_reducible rename News h₀ _ _ _ => kN))
local macro_rules | `(tactic| walk_at "callWith ref") => `(tactic| (k_here; (with_reducible show wpAny _ _ (callWith _ (Value.ref _) _ (backTo _ (starEach [Expr.Starred _ _] _)) []) _ _ _); k_dflt (refine' callWith_SM ?k1 ?k2 ?k3 ?k4 ?_; (case k1 => k_asm); (case k2 => k_asm); (case k3 => k_mem); (case k4 => k_is); k_whole)))
section
variable {w : World} {p : Program} {loose : List Str} {mean : ExcName → Option Value} {mg mb : Str → Option Value} {dp un : Nat} {gd : Option (List Code)} {env : Env} {outer : List Env} {A₀ : Around} {base h₀ : Heap} {L : Addr} {m : Str → Option Value} {news : List (Addr × Obj)} {s : Shared} {R : Result → Shared → Prop}
variable {x dx : Addr} {c0 c1 c2 : Int} {lo ex : Bool} {k1 k2 k3 k4 k5 k6 v1 v2 v3 v6 : Tok} {n : Nat} {own Tl : List (Addr × Obj)} {led pre : List (Addr × Obj)}
theorem call_s (B : Below A₀ base outer h₀) (F : Fr h₀ L s.heap m) (X : (hd.heap_39 w.params).In h₀) (T : Top p loose mean mg mb h₀) (hf : env.frame = some L) (hke : env.scope.kind = .function) (ts : TS Tl) (N : News h₀ L s.heap led) (S : Split Tl own pre led) (hx : (x, instObj 192 dx) ∈ pre) (hdx : (dx, (dictOf (edD w.params c0 c1 c2 lo ex k1 k2 k3 k4 k5 k6 v1 v2 v3 v6) n)) ∈ pre) (off : ∀ p ∈ pre, p.1 ≠ 172) (offo : ∀ p ∈ own, p.1 ≠ 172) (C : CodeHd h₀ 176 172) (hdp : dp + 40 < recursionLimit) (hun : un + 512 < cLine) (hc2 : 0 ≤ c2 ∧ c2 ≤ 8) {a b : Str} {ta tb : Tok} (ha : a.length ≤ 3) (hb : b.length ≤ 3) (hua : (Txt.upper a).length = a.length) (hub : (Txt.upper b).length = b.length) (haa : (Txt.upper a).cps.all (· < 128) = true) (hab : (Txt.upper b).cps.all (· < 128) = true)
  (hR : ∀ h' tk' t' Tl', Fr h₀ L h' m → News h₀ L h' (pre ++ (Tl' ++ own)) → TS Tl' → R (.ok (.ret (.int (callV c0 c1 c2 lo a b) t'))) {s with heap := h', toks := tk'}) : codeAny (model PySem.Challenge.rw_bs0041_01.row.prog w) (Arnd dp un gd env outer) (.call (.ref 189) ⟨[.ref x, .str a ta, .str b tb], []⟩) R s :=
  call_c B F X (News.toC N S hx hdx) T hf hke C ts (off_both off offo) (off _ hx) (off _ hdx) hdp hun hc2 ha hb hua hub haa hab fun h' tk' t' Tl' F' N' ts' => hR h' tk' t' Tl' F' (News.ofC N') ts'
theorem kco_star {M : Model} {A : Around} {E : Value → Shared → Prop} {K : Frag} {env : Env} {pos p : Pos} {C : Addr} {ox : Obj} {od : Option Obj} {first : List Value} {Q : Value → Shared → Prop} {e : Expr} (_X : K.In s.heap) (_I : InstAt s.heap x ox C od) (hd : ox.data = .plain)
    (h : wpAny M A (eval e env) (fun v s₁ => StarOf M A E v (fun vs s₂ => kco_P K x C ox od s₂.heap ∧ wpAny M A (call (.ref x) (first ++ vs)) Q E s₂) s₁) E s)
    (he : starEach [.Starred e p] env = [(true, eval e env)] := by rfl) :
    wpAny M A (callWith pos (.ref x) first (backTo pos (starEach [.Starred e p] env)) []) Q E s := by
  rw [he]
  have h' : wpAny M A (evalArgs (.ref x) true (backTo pos [(true, eval e env)]) []) (fun a s₁ => kco_P K x C ox od s₁.heap ∧ wpAny M A (call (.ref x) (first ++ a.pos) a.kw) Q E s₁) E s := ks_lone h
  unfold callWith
  refine wpAny_bind (wpAny_holding (wpAny_mono h' (fun a s₁ h₁ => wpAny_bind (wpAny_standAt ?_)) fun _ _ y => y))
  have L := kco_keeper (M := M) h₁.1.2 hd
  have hst : ((backTo pos [(true, eval e env)]).any (·.1)) = true := rfl
  simp only [hst, Bool.true_or]
  refine wpAny_bind (L.here ?_)
  have tail : ∀ {t : Sem Value}, wpAny M A t Q E s₁ → wpAny M A (t >>= fun r => holding [r] point >>= fun _ => pure r) Q E s₁ :=
    fun ht => wpAny_bind (wpAny_mono ht (fun r s₂ hr => wpAny_bind (wpAny_holding (wpAny_point (wpAny_pure hr)))) fun _ _ y => y)
  exact tail (wpAny_operateT h₁.2)
local macro_rules | `(tactic| walk_at "callWith ref") => `(tactic| (k_here; (with_reducible show wpAny _ _ (callWith _ (Value.ref _) _ (backTo _ (starEach [Expr.Starred _ _] _)) []) _ _ _); k_dflt (refine' kco_star ?k1 ?k2 ?k3 ?_; (case k1 => k_in); (case k2 => k_inst); (case k3 => rfl); k_whole)))
local macro_rules | `(tactic| walk_at "call ref") => `(tactic| (k_here; (with_reducible show wpAny _ _ (call (Value.ref _) _) _ _ _); k_dflt (refine wpAny_call ?_; refine' kco_code (f := 189) ?k1 ?k2 ?k3 ?k4 ?k5 ?k6 ?_; (case k1 => k_in); (case k2 => k_inst); (case k3 => rfl); (case k4 => k_is); (case k5 => k_is); (case k6 => k_is); (try dsimp only); refine' call_s ?B ?F ?X ?T ?hf ?hke ?ts ?N ?S ?hx ?hdx ?off ?offo ?C ?hdp ?hun ?hc2 ?ha ?hb ?hua ?hub ?haa ?hab ?_; (case B => k_asm); (case F => k_asm); (case X => k_asm); (case T => k_asm); (case hf => first | exact rfl | assumption); (case hke => first | exact rfl | assumption); (case ts => first | assumption | exact TS1.ts (by assumption)); (case N => k_asm); (case S => walk_at "MY split"); (case hx => k_mem); (case hdx => k_mem); (case off => walk_at "MY off"); (case offo => first | assumption | exact off_both (by assumption) (MatL.off (by assumption))); (case C => assumption); (case hdp => (dsimp only [Arnd, Around.deeper] at *; omega)); (case hun => (dsimp only [Arnd, Around.deeper] at *; omega)); (case hc2 => assumption); (case ha => assumption); (case hb => assumption); (case hua => assumption); (case hub => assumption); (case haa => assumption); (case hab => assumption); k_whole); intro h' tk' t' Tl' F' N' ts'; (try simp only [List.cons_append, List.nil_append] at N'); (try dsimp only)))

theorem distance_c (B : Below A₀ base outer h₀) (F : Fr h₀ L s.heap m) (X : (hd.heap_39 w.params).In h₀) (N : News h₀ L s.heap ((x, instObj 192 dx) :: (dx, (dictOf (edD w.params c0 c1 c2 lo ex k1 k2 k3 k4 k5 k6 v1 v2 v3 v6) n)) :: (Tl ++ own))) (T : Top p loose mean mg mb h₀) (hf : env.frame = some L) (hke : env.scope.kind = .function) (C : CodeHd h₀ 176 172) (ts : TS Tl) (offo : ∀ p ∈ own, p.1 ≠ 172) (offx : x ≠ 172) (offd : dx ≠ 172) (hdp : dp + 50 < recursionLimit) (hun : un + 640 < cLine) (hc2 : 0 ≤ c2 ∧ c2 ≤ 8) {a b : Str} {ta tb : Tok} (ha : a.length ≤ 3) (hb : b.length ≤ 3) (hua : (Txt.upper a).length = a.length) (hub : (Txt.upper b).length = b.length) (haa : (Txt.upper a).cps.all (· < 128) = true) (hab : (Txt.upper b).cps.all (· < 128) = true)
  (hR : ∀ h' tk' t' Tl', Fr h₀ L h' m → News h₀ L h' ((x, instObj 192 dx) :: (dx, (dictOf (edD w.params c0 c1 c2 lo ex k1 k2 k3 k4 k5 k6 v1 v2 v3 v6) n)) :: (Tl' ++ own)) → TS Tl' → R (.ok (.ret (.int (callV c0 c1 c2 lo a b) t'))) {s with heap := h', toks := tk'}) : codeAny (model PySem.Challenge.rw_bs0041_01.row.prog w) (Arnd dp un gd env outer) (.call (.ref 60) ⟨[.ref x, .str a ta, .str b tb], []⟩) R s := by
  revert X; k_fill; intro X
  walk_at "MY rest"
  with_reducible rename Fr h₀ _ _ _ => FG
  have C' := C.keeps FG.keep
  obtain ⟨_, _, hAll⟩ : _ < _ ∧ _ < _ ∧ AllLt _ (Tl ++ own) := by assumption
  have h172 := ltN (TS.lt ts hAll)
  k_steps
  with_reducible rename Fr h₀ _ _ _ => kF
  with_reducible rename News h₀ _ _ _ => kN
  exact hR _ _ _ _ kF (fun p hp => kN p (.tail _ hp)) (by assumption)
theorem distance_s (B : Below A₀ base outer h₀) (F : Fr h₀ L s.heap m) (X : (hd.heap_39 w.params).In h₀) (T : Top p loose mean mg mb h₀) (hf : env.frame = some L) (hke : env.scope.kind = .function) (ts : TS Tl) (N : News h₀ L s.heap led) (S : Split Tl own pre led) (hx : (x, instObj 192 dx) ∈ pre) (hdx : (dx, (dictOf (edD w.params c0 c1 c2 lo ex k1 k2 k3 k4 k5 k6 v1 v2 v3 v6) n)) ∈ pre) (off : ∀ p ∈ pre, p.1 ≠ 172) (offo : ∀ p ∈ own, p.1 ≠ 172) (C : CodeHd h₀ 176 172) (hdp : dp + 50 < recursionLimit) (hun : un + 640 < cLine) (hc2 : 0 ≤ c2 ∧ c2 ≤ 8) {a b : Str} {ta tb : Tok} (ha : a.length ≤ 3) (hb : b.length ≤ 3) (hua : (Txt.upper a).length = a.length) (hub : (Txt.upper b).length = b.length) (haa : (Txt.upper a).cps.all (· < 128) = true) (hab : (Txt.upper b).cps.all (· < 128) = true)
  (hR : ∀ h' tk' t' Tl', Fr h₀ L h' m → News h₀ L h' (pre ++ (Tl' ++ own)) → TS Tl' → R (.ok (.ret (.int (callV c0 c1 c2 lo a b) t'))) {s with heap := h', toks := tk'}) : codeAny (model PySem.Challenge.rw_bs0041_01.row.prog w) (Arnd dp un gd env outer) (.call (.ref 60) ⟨[.ref x, .str a ta, .str b tb], []⟩) R s :=
  distance_c B F X (News.toC N S hx hdx) T hf hke C ts (off_both off offo) (off _ hx) (off _ hdx) hdp hun hc2 ha hb hua hub haa hab fun h' tk' t' Tl' F' N' ts' => hR h' tk' t' Tl' F' (News.ofC N') ts'
local macro_rules | `(tactic| walk_at "call ref") => `(tactic| (k_here; (with_reducible show wpAny _ _ (call (Value.ref _) _) _ _ _); k_dflt (refine' call_meth ?Nm ?q ?_; (case Nm => k_asm); (case q => k_mem); (try dsimp only); refine' maximum_m ?B ?F ?X ?T ?hf ?hke ?N ?hx ?hdx ?hdp ?hun ?hc2 ?ha ?hb ?_; (case B => k_asm); (case F => k_asm); (case X => k_asm); (case T => k_asm); (case hf => first | exact rfl | assumption); (case hke => first | exact rfl | assumption); (case N => k_asm); (case hx => k_mem); (case hdx => k_mem); (case hdp => (dsimp only [Arnd, Around.deeper] at *; omega)); (case hun => (dsimp only [Arnd, Around.deeper] at *; omega)); (case hc2 => assumption); (case ha => (exact Nat.le_trans (by assumption) (by decide))); (case hb => (exact Nat.le_trans (by assumption) (by decide))); k_whole); intro h' tk' t' F' N'; (try simp only [List.cons_append, List.nil_append] at N'); (try dsimp only)))
local macro_rules | `(tactic| walk_at "call ref") => `(tactic| (k_here; (with_reducible show wpAny _ _ (call (Value.ref _) _) _ _ _); k_dflt (refine' call_meth ?Nm ?q ?_; (case Nm => k_asm); (case q => k_mem); (try dsimp only); refine' distance_s ?B ?F ?X ?T ?hf ?hke ?ts ?N ?S ?hx ?hdx ?off ?offo ?C ?hdp ?hun ?hc2 ?ha ?hb ?hua ?hub ?haa ?hab ?_; (case B => k_asm); (case F => k_asm); (case X => k_asm); (case T => k_asm); (case hf => first | exact rfl | assumption); (case hke => first | exact rfl | assumption); (case ts => first | assumption | exact TS1.ts (by assumption)); (case N => k_asm); (case S => walk_at "MY split"); (case hx => k_mem); (case hdx => k_mem); (case off => walk_at "MY off"); (case offo => first | assumption | exact off_both (by assumption) (MatL.off (by assumption))); (case C => assumption); (case hdp => (dsimp only [Arnd, Around.deeper] at *; omega)); (case hun => (dsimp only [Arnd, Around.deeper] at *; omega)); (case hc2 => assumption); (case ha => assumption); (case hb => assumption); (case hua => assumption); (case hub => assumption); (case haa => assumption); (case hab => assumption); k_whole); intro h' tk' t' Tl' F' N' ts'; (try simp only [List.cons_append, List.nil_append] at N'); (try dsimp only)))

theorem similarity_c (B : Below A₀ base outer h₀) (F : Fr h₀ L s.heap m) (X : (hd.heap_39 w.params).In h₀) (N : News h₀ L s.heap ((x, instObj 192 dx) :: (dx, (dictOf (edD w.params c0 c1 c2 lo ex k1 k2 k3 k4 k5 k6 v1 v2 v3 v6) n)) :: (Tl ++ own))) (T : Top p loose mean mg mb h₀) (hf : env.frame = some L) (hke : env.scope.kind = .function) (C : CodeHd h₀ 176 172) (ts : TS Tl) (offo : ∀ p ∈ own, p.1 ≠ 172) (offx : x ≠ 172) (offd : dx ≠ 172) (hdp : dp + 60 < recursionLimit) (hun : un + 768 < cLine) (hc2 : 0 ≤ c2 ∧ c2 ≤ 8) {a b : Str} {ta tb : Tok} (ha : a.length ≤ 3) (hb : b.length ≤ 3) (hua : (Txt.upper a).length = a.length) (hub : (Txt.upper b).length = b.length) (haa : (Txt.upper a).cps.all (· < 128) = true) (hab : (Txt.upper b).cps.all (· < 128) = true)
  (hR : ∀ h' tk' t' Tl', Fr h₀ L h' m → News h₀ L h' ((x, instObj 192 dx) :: (dx, (dictOf (edD w.params c0 c1 c2 lo ex k1 k2 k3 k4 k5 k6 v1 v2 v3 v6) n)) :: (Tl' ++ own)) → TS Tl' → R (.ok (.ret (.int ((max a.length b.length : Nat) * c2 - callV c0 c1 c2 lo a b) t'))) {s with heap := h', toks := tk'}) : codeAny (model PySem.Challenge.rw_bs0041_01.row.prog w) (Arnd dp un gd env outer) (.call (.ref 67) ⟨[.ref x, .str a ta, .str b tb], []⟩) R s := by
  revert X; k_fill; intro X
  walk_at "MY rest"
  with_reducible rename Fr h₀ _ _ _ => FG
  have C' := C.keeps FG.keep
  obtain ⟨_, _, hAll⟩ : _ < _ ∧ _ < _ ∧ AllLt _ (Tl ++ own) := by assumption
  have h172 := ltN (TS.lt ts hAll)
  k_steps
  with_reducible rename Fr h₀ _ _ _ => kF
  with_reducible rename News h₀ _ _ _ => kN
  exact hR _ _ _ _ kF (fun p hp => kN p (by walk_at "MY sub")) (by assumption)
theorem similarity_s (B : Below A₀ base outer h₀) (F : Fr h₀ L s.heap m) (X : (hd.heap_39 w.params).In h₀) (T : Top p loose mean mg mb h₀) (hf : env.frame = some L) (hke : env.scope.kind = .function) (ts : TS Tl) (N : News h₀ L s.heap led) (S : Split Tl own pre led) (hx : (x, instObj 192 dx) ∈ pre) (hdx : (dx, (dictOf (edD w.params c0 c1 c2 lo ex k1 k2 k3 k4 k5 k6 v1 v2 v3 v6) n)) ∈ pre) (off : ∀ p ∈ pre, p.1 ≠ 172) (offo : ∀ p ∈ own, p.1 ≠ 172) (C : CodeHd h₀ 176 172) (hdp : dp + 60 < recursionLimit) (hun : un + 768 < cLine) (hc2 : 0 ≤ c2 ∧ c2 ≤ 8) {a b : Str} {ta tb : Tok} (ha : a.length ≤ 3) (hb : b.length ≤ 3) (hua : (Txt.upper a).length = a.length) (hub : (Txt.upper b).length = b.length) (haa : (Txt.upper a).cps.all (· < 128) = true) (hab : (Txt.upper b).cps.all (· < 128) = true)
  (hR : ∀ h' tk' t' Tl', Fr h₀ L h' m → News h₀ L h' (pre ++ (Tl' ++ own)) → TS Tl' → R (.ok (.ret (.int ((max a.length b.length : Nat) * c2 - callV c0 c1 c2 lo a b) t'))) {s with heap := h', toks := tk'}) : codeAny (model PySem.Challenge.rw_bs0041_01.row.prog w) (Arnd dp un gd env outer) (.call (.ref 67) ⟨[.ref x, .str a ta, .str b tb], []⟩) R s :=
  similarity_c B F X (News.toC N S hx hdx) T hf hke C ts (off_both off offo) (off _ hx) (off _ hdx) hdp hun hc2 ha hb hua hub haa hab fun h' tk' t' Tl' F' N' ts' => hR h' tk' t' Tl' F' (News.ofC N') ts'

end
end Mine
-- Ed8
namespace Mine
theorem fresh_Ed8 : True := by (w_top off; exact trivial)
local macro_rules | `(tactic| k_room) => `(tactic| ktr_room)
local macro_rules | `(tactic| walk_at "MY rest") => `(tactic| (
  refine' kp_rest ?k1 ?k2 ?k3 ?k4 ?k5 ?kA ?kF ?kK ?k6 ?k7 ?k8 ?kV ?kP ?kG ?kB ?_ ?c2 ?c3 ?c4 ?c5
  (case kA => exact rfl)
  (case kF => first | exact rfl | assumption)
  (case kK => first | exact rfl | assumption)
  (case k1 => k_asm)
  (case k2 => k_asm)
  (case k3 => k_asm)
  (case k4 => k_asm)
  (case k5 => k_asm)
  (case k6 => k_is)
  (case k7 => k_is)
  (case k8 => k_room)
  (case kV => kl_lit)
  (case kP => exact rfl)
  (case kG => exact fun _ => rfl)
  (case kB => exact fun _ => locs rfl)
  (case c5 => decide)
  (case c2 => exact rfl)
  (case c3 => exact rfl)
  (case c4 => exact rfl)
  k_whole
  intro D' g' L' h' l1 FG' F' N' B' X' T'
  (try k_lt l1); (try dsimp only); (try k_lift B'); (try k_fold)))
local macro_rules | `(tactic| walk_at "MY plain") => `(tactic| (
  refine' code_def ?k1 ?k2 ?k3 ?k4 ?k5 ?kA ?kF ?kK ?k6 ?k7 ?k8 ?k9 ?kB ?_ ?c2 ?c3 ?c4 ?c5
  (case kA => exact rfl)
  (case kF => first | exact rfl | assumption)
  (case kK => first | exact rfl | assumption)
  (case k1 => k_asm)
  (case k2 => k_asm)
  (case k3 => k_asm)
  (case k4 => k_asm)
  (case k5 => k_asm)
  (case k6 => k_is)
  (case k7 => k_is)
  (case k8 => k_room)
  (case k9 => first | exact BindsTo.of_eq rfl | exact binds_K (by k_in) rfl (by k_is) rfl rfl rfl)
  (case c5 => decide)
  (case kB => exact locs rfl)
  (case c2 => exact rfl)
  (case c3 => exact rfl)
  (case c4 => exact rfl)
  k_whole
  intro g' L' h' FG' F' N' B' X' T'
  (try dsimp only); (try k_lift B'); (try k_fold)))
section
variable {w : World} {p : Program} {loose : List Str} {mean : ExcName → Option Value} {mg mb : Str → Option Value} {dp un : Nat} {gd : Option (List Code)} {env : Env} {outer : List Env} {A₀ : Around} {base h₀ : Heap} {L : Addr} {m : Str → Option Value} {news : List (Addr × Obj)} {s : Shared} {R : Result → Shared → Prop}
variable {x dx : Addr} {led : List (Addr × Obj)} 
theorem grp_strs {P : Params} {g : Heap} (X : (hd.heap_39 P).In g) : ∃ items : Array Value, IsTup g 155 items ∧ StrsAre items.toList groupsL := by
  have hdummy := Eq.refl PySem.Challenge.rw_bs0041_01
  revert X hdummy; k_fill; intro X _
  have aux : ∀ {l : List Value} {n : Nat} {dd : Option Addr} {sl : Array (Option Value)}, (hd.heap_39 P).lookup 155 = some ⟨.type "tuple", dd, .seq l.toArray n, sl⟩ → StrsAre l groupsL → ∃ items : Array Value, IsTup g 155 items ∧ StrsAre items.toList groupsL :=
    fun h q => ⟨_, ⟨_, X _ _ h, rfl, _, rfl⟩, q⟩
  refine' aux ?a ?b
  case a => k_is
  case b => exact .cons _ _ (.cons _ _ (.cons _ _ (.cons _ _ (.cons _ _ (.cons _ _ (.cons _ _ (.cons _ _ (.cons _ _ (.cons _ _ .nil)))))))))
theorem join_grp {prog : Program} {P : Params} {A : Around} {E : Value → Shared → Prop} {Q : Value → Shared → Prop} {tt : Tok} (F : Fr h₀ L s.heap m) (X : (hd.heap_39 P).In h₀)
  (h : ∀ t' k, Q (.str gText t') { s with toks := k }) : wpAny (model prog w) A (call (.builtin "str.join") [.str (Str.ofString "") tt, .ref 155]) Q E s := by
  obtain ⟨items, hi, hs⟩ := grp_strs (X.keeps F.keep)
  refine join_tupleW hi hs (by decide +kernel) (by decide +kernel) fun t' k => ?_
  have e : Txt.join (Str.ofString "") groupsL = gText := by decide +kernel
  rw [e]
  exact h t' k
local macro_rules | `(tactic| walk_at "call builtin:str.join") => `(tactic| (k_here; (with_reducible show wpAny _ _ (call (Value.builtin "str.join") [Value.str _ _, Value.ref 155]) _ _ _); k_dflt (refine' join_grp ?F ?X ?_; (case F => k_asm); (case X => k_asm); k_whole); intro t' k'; (try dsimp only)))
local macro_rules | `(tactic| k_all) => `(tactic| assumption)

theorem init_a (B : Below A₀ base outer h₀) (F : Fr h₀ L s.heap m) (X : (hd.heap_39 w.params).In h₀) (N : News h₀ L s.heap ((x, instObj 192 dx) :: (dx, dictOf [] 0) :: led)) (T : Top p loose mean mg mb h₀) (hf : env.frame = some L) (hke : env.scope.kind = .function) (hxd : x ≠ dx) (hdx : dx ≠ x) (hld : ∀ p ∈ led, p.1 ≠ dx) (hdp : dp + 8 < recursionLimit) (hun : un + 64 < cLine)
  (hR : ∀ h' tk' k1 k2 k3 k4 k5 k6 v1 v2 v3 v6 n, Fr h₀ L h' m → News h₀ L h' ((x, instObj 192 dx) :: (dx, dictOf (edD w.params 0 1 2 false false k1 k2 k3 k4 k5 k6 v1 v2 v3 v6) n) :: led) → R (.ok (.ret .none)) {s with heap := h', toks := tk'}) : codeAny (model PySem.Challenge.rw_bs0041_01.row.prog w) (Arnd dp un gd env outer) (.call (.ref 163) ⟨[.ref x], [((Str.ofString "external"), .bool false)]⟩) R s := by
  revert X; k_fill; intro X
  walk_at "MY plain"
  k_steps
  with_reducible rename Fr h₀ _ _ _ => kF
  with_reducible rename News h₀ _ _ _ => kN
  exact hR _ _ _ _ _ _ _ _ _ _ _ _ _ kF kN
theorem init_b (B : Below A₀ base outer h₀) (F : Fr h₀ L s.heap m) (X : (hd.heap_39 w.params).In h₀) (N : News h₀ L s.heap ((x, instObj 192 dx) :: (dx, dictOf [] 0) :: led)) (T : Top p loose mean mg mb h₀) (hf : env.frame = some L) (hke : env.scope.kind = .function) (hxd : x ≠ dx) (hdx : dx ≠ x) (hld : ∀ p ∈ led, p.1 ≠ dx) (hdp : dp + 8 < recursionLimit) (hun : un + 64 < cLine) {lo : Bool} {c0 g1 g2 : Int} {t0 t1 t2 : Tok}
  (hR : ∀ h' tk' k1 k2 k3 k4 k5 k6 v1 v2 v3 v6 n, Fr h₀ L h' m → News h₀ L h' ((x, instObj 192 dx) :: (dx, dictOf (edD w.params c0 (if c0 > g1 then c0 else g1) (if (if c0 > g1 then c0 else g1) > g2 then (if c0 > g1 then c0 else g1) else g2) lo false k1 k2 k3 k4 k5 k6 v1 v2 v3 v6) n) :: led) → R (.ok (.ret .none)) {s with heap := h', toks := tk'}) : codeAny (model PySem.Challenge.rw_bs0041_01.row.prog w) (Arnd dp un gd env outer) (.call (.ref 163) ⟨[.ref x], [((Str.ofString "local"), .bool lo), ((Str.ofString "match_cost"), .int c0 t0), ((Str.ofString "group_cost"), .int g1 t1), ((Str.ofString "mismatch_cost"), .int g2 t2), ((Str.ofString "external"), .bool false)]⟩) R s := by
  revert X; k_fill; intro X
  walk_at "MY plain"
  k_steps
  with_reducible rename Fr h₀ _ _ _ => kF
  with_reducible rename News h₀ _ _ _ => kN
  exact hR _ _ _ _ _ _ _ _ _ _ _ _ _ kF kN
end
end Mine
-- Ed9
namespace Mine
theorem fresh_Ed9 : True := by (w_top off; exact trivial)
local macro_rules | `(tactic| k_room) => `(tactic| ktr_room)
local macro_rules | `(tactic| walk_at "MY rest") => `(tactic| (
  refine' kp_rest ?k1 ?k2 ?k3 ?k4 ?k5 ?kA ?kF ?kK ?k6 ?k7 ?k8 ?kV ?kP ?kG ?kB ?_ ?c2 ?c3 ?c4 ?c5
  (case kA => exact rfl)
  (case kF => first | exact rfl | assumption)
  (case kK => first | exact rfl | assumption)
  (case k1 => k_asm)
  (case k2 => k_asm)
  (case k3 => k_asm)
  (case k4 => k_asm)
  (case k5 => k_asm)
  (case k6 => k_is)
  (case k7 => k_is)
  (case k8 => k_room)
  (case kV => kl_lit)
  (case kP => exact rfl)
  (case kG => exact fun _ => rfl)
  (case kB => exact fun _ => locs rfl)
  (case c5 => decide)
  (case c2 => exact rfl)
  (case c3 => exact rfl)
  (case c4 => exact rfl)
  k_whole
  intro D' g' L' h' l1 FG' F' N' B' X' T'
  (try k_lt l1); (try dsimp only); (try k_lift B'); (try k_fold)))
local macro_rules | `(tactic| walk_at "MY plain") => `(tactic| (
  refine' code_def ?k1 ?k2 ?k3 ?k4 ?k5 ?kA ?kF ?kK ?k6 ?k7 ?k8 ?k9 ?kB ?_ ?c2 ?c3 ?c4 ?c5
  (case kA => exact rfl)
  (case kF => first | exact rfl | assumption)
  (case kK => first | exact rfl | assumption)
  (case k1 => k_asm)
  (case k2 => k_asm)
  (case k3 => k_asm)
  (case k4 => k_asm)
  (case k5 => k_asm)
  (case k6 => k_is)
  (case k7 => k_is)
  (case k8 => k_room)
  (case k9 => first | exact BindsTo.of_eq rfl | exact binds_K (by k_in) rfl (by k_is) rfl rfl rfl)
  (case c5 => decide)
  (case kB => exact locs rfl)
  (case c2 => exact rfl)
  (case c3 => exact rfl)
  (case c4 => exact rfl)
  k_whole
  intro g' L' h' FG' F' N' B' X' T'
  (try dsimp only); (try k_lift B'); (try k_fold)))
local macro_rules | `(tactic| walk_at "MY plainC") => `(tactic| (refine' code_defC ?k1 ?k2 ?k3 ?k4 ?k5 ?kA ?kF ?kK ?k6 ?k7 ?k8 ?k9 ?kB ?kD ?_ ?c2 ?c3 ?c4; (case kA => exact rfl); (case kF => first | exact rfl | assumption); (case kK => first | exact rfl | assumption); (case k1 => k_asm); (case k2 => k_asm); (case k3 => k_asm); (case k4 => k_asm); (case k5 => k_asm); (case k6 => k_is); (case k7 => k_is); (case k8 => k_room); (case k9 => first | exact BindsTo.of_eq rfl | exact binds_K (by k_in) rfl (by k_is) rfl rfl rfl); (case kB => exact rfl); (case kD => decide +kernel); (case c2 => exact rfl); (case c3 => exact rfl); (case c4 => exact rfl); k_whole; intro g' L' h' tk' cells' FG' F' N' Y' B' X' T' l1; (try k_lt l1); k_cells Y'; (try simp only [List.cons_append, List.nil_append] at N'); (try dsimp only); (try k_lift B'); (try k_fold)))
local macro_rules | `(tactic| walk_at "MY sub") => `(tactic| (first | assumption | (refine List.Mem.tail _ ?_; walk_at "MY sub")))
local macro_rules | `(tactic| walk_at "MY fin") => `(tactic| (with_reducible rename Fr h₀ _ _ _ => kF; with_reducible rename News h₀ _ _ _ => kN))
section
variable {w : World} {p : Program} {loose : List Str} {mean : ExcName → Option Value} {mg mb : Str → Option Value} {dp un : Nat} {gd : Option (List Code)} {env : Env} {outer : List Env} {A₀ : Around} {base h₀ : Heap} {L : Addr} {m : Str → Option Value} {news : List (Addr × Obj)} {s : Shared} {R : Result → Shared → Prop}
variable {led : List (Addr × Obj)} {l : Addr} {vs : List Value} {ns : List Int}
theorem law_at_c (B : Below A₀ base outer h₀) (F : Fr h₀ L s.heap m) (X : (hd.heap_39 w.params).In h₀) (N : News h₀ L s.heap led) (T : Top p loose mean mg mb h₀) (hf : env.frame = some L) (hke : env.scope.kind = .function)(hl : base.IsList l vs.toArray) (hI : IntsAre vs ns) (hns : ns.length ≤ 63) (hdp : dp + 8 < recursionLimit) (hun : un + 64 < cLine) {k d : Int} {tk td : Tok} (hk0 : 0 ≤ k) (hk1 : k ≤ 64)
  (hR : ∀ h' tk' v t', Fr h₀ L h' m → News h₀ L h' led → R (.ok (.ret (.int v t'))) {s with heap := h', toks := tk'}) : codeAny (model PySem.Challenge.rw_bs0041_01.row.prog w) (Arnd dp un gd env outer) (.call (.ref 201) ⟨[.ref l, .int k tk, .int d td], []⟩) R s := by
  revert X; k_fill; intro X
  walk_at "MY plain"
  k_steps
  all_goals (with_reducible rename Fr h₀ _ _ _ => kF; with_reducible rename News h₀ _ _ _ => kN; exact hR _ _ _ _ kF kN)
abbrev lets : Str := Str.ofString "AEHWBPTDSFCKQLRMNGJXZIOUYV"
local macro_rules | `(tactic| walk_at "call ref") => `(tactic| (k_here; (with_reducible show wpAny _ _ (call (Value.ref 201) _) _ _ _); k_dflt (refine wpAny_call ?_; refine' law_at_c ?B ?F ?X ?N ?T ?hf ?hke ?hl ?hI ?hns ?hdp ?hun ?hk0 ?hk1 ?_; (case B => k_asm); (case F => k_asm); (case X => k_asm); (case T => k_asm); (case hf => first | exact rfl | assumption); (case hke => first | exact rfl | assumption); (case N => k_asm); (case hl => assumption); (case hI => assumption); (case hns => assumption); (case hdp => (dsimp only [Arnd, Around.deeper] at *; omega)); (case hun => (dsimp only [Arnd, Around.deeper] at *; omega)); (case hk0 => omega); (case hk1 => omega); k_whole); intro h' tk' v' t' F' N'; (try dsimp only)))

inductive ElP (P : Prop) : Prop
  | mk : P → ElP P
theorem ElP.out {P : Prop} (h : ElP P) : P := let ⟨a⟩ := h; a
theorem comp_keep {prog : Program} {A : Around} {elt : Expr} {y : Str} {scope : Scope} {cl : List (Str × Addr)} {env : Env} {S : List (Addr × Obj) → Prop} {P : Nat → Value → Prop} {Fin : List Value → List (Addr × Obj) → Prop} {n : Nat} (Pv : Value → Prop) (hS : S led)
    (hel : ∀ i v I oI C oC D ys m₂ h tk E', i < n → P i v → LCg.NsObj oC m₂ → m₂ y = some v → Fr h₀ L h m → News h₀ L h ((I, oI) :: (C, oC) :: (D, LCg.lst ys) :: led) → LCg.Off3 I C D led → ((@Ne Nat I C) ∧ (@Ne Nat I D) ∧ (@Ne Nat C D)) →
      wpAny (model prog w) A (eval elt (compEnvC scope cl C env)) (fun yv s₂ => ElP (Pv yv ∧ ∃ h' tk', s₂ = { s with heap := h', toks := tk' } ∧ Fr h₀ L h' m ∧ News h₀ L h' ((I, oI) :: (C, oC) :: (D, LCg.lst ys) :: led))) E' { s with heap := h, toks := tk })
    (fin : ∀ ys, ys.length = n → (∀ v ∈ ys, Pv v) → Fin ys led) (g : Heap) :
    LCg.CompRest prog w A h₀ L m env elt y scope cl { s with heap := g } S P Fin n 0 [] led := by
  have main : ∀ k i ys, i + k = n → ys.length = i → (∀ v ∈ ys, Pv v) → LCg.CompRest prog w A h₀ L m env elt y scope cl { s with heap := g } S P Fin k i ys led := by
    intro k
    induction k with
    | zero => intro i ys hi hl hp; exact LCg.CompRest.zero (fin ys (by omega) hp)
    | succ k ih =>
      intro i ys hi hl hp
      refine LCg.CompRest.succ fun v I oI C oC D m₂ h tk E' hP hC hx F N off ne => ?_
      refine wpAny_mono (hel i v I oI C oC D ys m₂ h tk E' (by omega) hP hC hx F N off ne) (fun yv s₂ h₂ => ?_) fun _ _ e => e
      obtain ⟨hv, h', tk', rfl, F', N'⟩ := h₂.out
      exact ⟨h', tk', led, rfl, F', N', off, hS, ih (i + 1) (ys ++ [yv]) (by omega) (by simp [hl]) fun u hu => by
        rcases List.mem_append.mp hu with hu | hu
        · exact hp u hu
        · rw [List.mem_singleton.mp hu]; exact hv⟩
  exact main n 0 [] (by omega) rfl (fun _ h => nomatch h)
/-- one great letter -/
def Letter (v : Value) : Prop := ∃ c t, v = .str ⟨#[c]⟩ t ∧ 65 ≤ c ∧ c ≤ 90
structure Word (w : Str) : Prop where
  small : w.cps.size ≤ 3
  great : ∀ c ∈ w.cps.toList, 65 ≤ c ∧ c ≤ 90
theorem letters_strs : ∀ ys : List Value, (∀ v ∈ ys, Letter v) → ∃ cs : List Nat, StrsAre ys (cs.map fun c => (⟨#[c]⟩ : Str)) ∧ cs.length = ys.length ∧ ∀ c ∈ cs, 65 ≤ c ∧ c ≤ 90
  | [], _ => ⟨[], .nil, rfl, fun _ h => nomatch h⟩
  | v :: ys, h => by
    obtain ⟨c, t, rfl, hc⟩ := h _ (.head _)
    obtain ⟨cs, h1, h2, h3⟩ := letters_strs ys fun v hv => h v (.tail _ hv)
    refine ⟨c :: cs, .cons _ _ h1, by simp [h2], fun d hd => ?_⟩
    rcases List.mem_cons.mp hd with rfl | hd
    · exact hc
    · exact h3 d hd
theorem join_letters : ∀ cs : List Nat, (Str.join (Str.ofString "") (cs.map fun c => (⟨#[c]⟩ : Str))) = (⟨cs.toArray⟩ : Str)
  | [] => rfl
  | [c] => rfl
  | c :: d :: r => by
    have ih := join_letters (d :: r)
    have e : Str.join (Str.ofString "") ((c :: d :: r).map fun c => (⟨#[c]⟩ : Str)) = (⟨#[c]⟩ : Str) ++ Str.ofString "" ++ Str.join (Str.ofString "") ((d :: r).map fun c => (⟨#[c]⟩ : Str)) := rfl
    rw [e, ih]
    refine Str.ext' ?_
    rw [Str.cps_append, Str.cps_append, show (Str.ofString "").cps = #[] from rfl]
    simp
theorem join_word {prog : Program} {A : Around} {E : Value → Shared → Prop} {Q : Value → Shared → Prop} {D : Addr} {ys : List Value} {tt : Tok} (N : News h₀ L s.heap led) (hm : (D, LCg.lst ys) ∈ led) (hy : ∀ v ∈ ys, Letter v) (hn : ys.length ≤ 3)
    (h : ∀ v t' k, Word v → Q (.str v t') { s with toks := k }) : wpAny (model prog w) A (call (.builtin "str.join") [.str (Str.ofString "") tt, .ref D]) Q E s := by
  obtain ⟨cs, h1, h2, h3⟩ := letters_strs ys hy
  refine join_listW (items := ys.toArray) ⟨_, (N _ hm).1, rfl, _, rfl⟩ (by simpa using h1) (by decide +kernel) ?_ fun t' k => ?_
  · have hs : ((cs.map fun c => (⟨#[c]⟩ : Str)).map (·.length)).sum = cs.length := by
      rw [List.map_map]
      have : ∀ cs : List Nat, (cs.map (Str.length ∘ fun c => (⟨#[c]⟩ : Str))).sum = cs.length := by
        intro cs
        induction cs with
        | nil => rfl
        | cons c cs ih => rw [List.map_cons, List.sum_cons, ih]; show 1 + cs.length = _; rw [List.length_cons]; omega
      exact this cs
    rw [hs, List.length_map]; omega
  · have e : Txt.join (Str.ofString "") (cs.map fun c => (⟨#[c]⟩ : Str)) = (⟨cs.toArray⟩ : Str) := by
      show Builtin.Str.glued (Str.ofString "") _ = _
      rw [StrLaws.glued_eq_join, join_letters]
    rw [e]
    exact h _ t' k ⟨by simpa using (show cs.length ≤ 3 by omega), by simpa using h3⟩
theorem lets_item (v : Int) : ∃ c, Txt.item lets (v.fmod 26) = ⟨#[c]⟩ ∧ 65 ≤ c ∧ c ≤ 90 := by
  have h0 : 0 ≤ v.fmod 26 := Int.fmod_nonneg_of_pos v (by decide)
  have h1 : v.fmod 26 < 26 := Int.fmod_lt_of_pos v (by decide)
  obtain ⟨k, hk⟩ := Int.eq_ofNat_of_zero_le h0
  rw [hk] at h1 ⊢
  have all : ∀ k < 26, ∃ c, lets.cps[k]? = some c ∧ 65 ≤ c ∧ c ≤ 90 := by
    have z : lets.cps = #[65, 69, 72, 87, 66, 80, 84, 68, 83, 70, 67, 75, 81, 76, 82, 77, 78, 71, 74, 88, 90, 73, 79, 85, 89, 86] := by decide +kernel
    rw [z]
    intro k hk
    have hs : ∀ k : Fin 26, 65 ≤ (#[65, 69, 72, 87, 66, 80, 84, 68, 83, 70, 67, 75, 81, 76, 82, 77, 78, 71, 74, 88, 90, 73, 79, 85, 89, 86] : Array Nat)[k.val]! ∧ (#[65, 69, 72, 87, 66, 80, 84, 68, 83, 70, 67, 75, 81, 76, 82, 77, 78, 71, 74, 88, 90, 73, 79, 85, 89, 86] : Array Nat)[k.val]! ≤ 90 := by decide
    refine ⟨_, Array.getElem?_eq_getElem (by simpa using hk), ?_⟩
    have := hs ⟨k, hk⟩
    rw [getElem!_pos _ _ (by simpa using hk)] at this
    exact this
  obtain ⟨c, hc, hb⟩ := all k (by omega)
  exact ⟨c, item_at hc, hb⟩
theorem fmod4 (v : Int) : 0 ≤ v.fmod (3 + 1) ∧ v.fmod (3 + 1) < 4 := ⟨Int.fmod_nonneg_of_pos v (by decide), Int.fmod_lt_of_pos v (by decide)⟩
theorem small4 (v : Int) : Builtin.Range.small 0 (v.fmod (3 + 1)) 1 = true := by
  have := fmod4 v
  exact small_one (by omega) (by omega) (by omega) (by omega)
theorem size4 (v : Int) : Builtin.Range.rangeSize 0 (v.fmod (3 + 1)) 1 = ((v.fmod (3 + 1)).toNat : Int) := by
  have := fmod4 v
  unfold Builtin.Range.rangeSize; rw [if_pos (by decide)]; split <;> omega
theorem ElP.hole {P : Prop} (h : ElP P) : P := h.out
local macro_rules | `(tactic| walk_at "CompSrc") => `(tactic| (k_here; refine ElP.hole ?_))
local macro_rules | `(tactic| walk_at "call builtin:str.join") => `(tactic| (k_here; (with_reducible show wpAny _ _ (call (Value.builtin "str.join") [Value.str _ _, Value.ref _]) _ _ _); k_dflt (refine' join_word ?N ?m ?y ?n ?_; (case N => k_asm); (case m => k_mem); (case y => assumption); (case n => omega); k_whole); intro v' t' k' hw'; (try dsimp only)))
theorem law_word_c (B : Below A₀ base outer h₀) (F : Fr h₀ L s.heap m) (X : (hd.heap_39 w.params).In h₀) (N : News h₀ L s.heap led) (T : Top p loose mean mg mb h₀) (hf : env.frame = some L) (hke : env.scope.kind = .function)(hl : base.IsList l vs.toArray) (hI : IntsAre vs ns) (hns : ns.length ≤ 63) (hdp : dp + 20 < recursionLimit) (hun : un + 128 < cLine) {st : Int} {t1 t2 t3 t4 : Tok} (hst : 0 ≤ st) (hst1 : st ≤ 10)
  (hR : ∀ h' tk' v t', Fr h₀ L h' m → News h₀ L h' led → Word v → R (.ok (.ret (.str v t'))) {s with heap := h', toks := tk'}) : codeAny (model PySem.Challenge.rw_bs0041_01.row.prog w) (Arnd dp un gd env outer) (.call (.ref 206) ⟨[.ref l, .int st t1, .int 3 t2, .str lets t3, .int 3 t4], []⟩) R s := by
  revert X; k_fill; intro X
  walk_at "MY plainC"
  k_steps
  refine .mk ?_
  with_reducible rename Fr _ _ _ _ => FL
  with_reducible rename News _ _ _ _ => NL
  with_reducible rename IsRange _ _ _ _ _ _ _ _ => hrg
  refine' LCg.CompSrc.range (n := ?nn) ?hh FL NL hrg ?sm ?n ?sz (fun g => comp_keep Letter trivial ?el ?fin g)
  case hh => exact rfl
  case sm => exact small4 _
  case n => exact size4 _
  case sz => rw [sizeLine_eq]; have := fmod4 ‹_›; omega
  case el =>
    intro i' v' I' oI' C' oC' D' ys' m' h' tk' E' hi' hP' hC' hx' F' N' off' ne'
    obtain ⟨t', rfl⟩ := hP'
    have hi4 : i' < 4 := by have := fmod4 ‹_›; omega
    k_steps
    with_reducible rename Fr _ _ _ _ => kF
    with_reducible rename News _ _ _ _ => kN
    obtain ⟨c9, hc9, hb9⟩ := lets_item ‹_›
    exact .mk ⟨⟨c9, _, congrArg (fun z => Value.str z _) hc9, hb9⟩, _, _, rfl, kF, kN⟩
  case fin =>
    intro ys' hl' hp' D' h' tk' F' N' off'
    try dsimp only
    have hi4 : ys'.length ≤ 3 := by have := fmod4 ‹_›; omega
    k_steps
    with_reducible rename Fr h₀ _ _ _ => kF
    with_reducible rename News h₀ _ _ _ => kN
    exact hR _ _ _ _ kF (fun p hp => kN p (by walk_at "MY sub")) (by assumption)
end
end Mine
-- Ed10
namespace Mine
theorem fresh_Ed10 : True := by (w_top off; exact trivial)
local macro_rules | `(tactic| k_room) => `(tactic| ktr_room)
local macro_rules | `(tactic| walk_at "MY rest") => `(tactic| (
  refine' kp_rest ?k1 ?k2 ?k3 ?k4 ?k5 ?kA ?kF ?kK ?k6 ?k7 ?k8 ?kV ?kP ?kG ?kB ?_ ?c2 ?c3 ?c4 ?c5
  (case kA => exact rfl)
  (case kF => first | exact rfl | assumption)
  (case kK => first | exact rfl | assumption)
  (case k1 => k_asm)
  (case k2 => k_asm)
  (case k3 => k_asm)
  (case k4 => k_asm)
  (case k5 => k_asm)
  (case k6 => k_is)
  (case k7 => k_is)
  (case k8 => k_room)
  (case kV => kl_lit)
  (case kP => exact rfl)
  (case kG => exact fun _ => rfl)
  (case kB => exact fun _ => locs rfl)
  (case c5 => decide)
  (case c2 => exact rfl)
  (case c3 => exact rfl)
  (case c4 => exact rfl)
  k_whole
  intro D' g' L' h' l1 FG' F' N' B' X' T'
  (try k_lt l1); (try dsimp only); (try k_lift B'); (try k_fold)))
local macro_rules | `(tactic| walk_at "MY plain") => `(tactic| (
  refine' code_def ?k1 ?k2 ?k3 ?k4 ?k5 ?kA ?kF ?kK ?k6 ?k7 ?k8 ?k9 ?kB ?_ ?c2 ?c3 ?c4 ?c5
  (case kA => exact rfl)
  (case kF => first | exact rfl | assumption)
  (case kK => first | exact rfl | assumption)
  (case k1 => k_asm)
  (case k2 => k_asm)
  (case k3 => k_asm)
  (case k4 => k_asm)
  (case k5 => k_asm)
  (case k6 => k_is)
  (case k7 => k_is)
  (case k8 => k_room)
  (case k9 => first | exact BindsTo.of_eq rfl | exact binds_K (by k_in) rfl (by k_is) rfl rfl rfl)
  (case c5 => decide)
  (case kB => exact locs rfl)
  (case c2 => exact rfl)
  (case c3 => exact rfl)
  (case c4 => exact rfl)
  k_whole
  intro g' L' h' FG' F' N' B' X' T'
  (try dsimp only); (try k_lift B'); (try k_fold)))
local macro_rules | `(tactic| walk_at "MY plainC") => `(tactic| (refine' code_defC ?k1 ?k2 ?k3 ?k4 ?k5 ?kA ?kF ?kK ?k6 ?k7 ?k8 ?k9 ?kB ?kD ?_ ?c2 ?c3 ?c4; (case kA => exact rfl); (case kF => first | exact rfl | assumption); (case kK => first | exact rfl | assumption); (case k1 => k_asm); (case k2 => k_asm); (case k3 => k_asm); (case k4 => k_asm); (case k5 => k_asm); (case k6 => k_is); (case k7 => k_is); (case k8 => k_room); (case k9 => first | exact BindsTo.of_eq rfl | exact binds_K (by k_in) rfl (by k_is) rfl rfl rfl); (case kB => exact rfl); (case kD => decide +kernel); (case c2 => exact rfl); (case c3 => exact rfl); (case c4 => exact rfl); k_whole; intro g' L' h' tk' cells' FG' F' N' Y' B' X' T' l1; (try k_lt l1); k_cells Y'; (try simp only [List.cons_append, List.nil_append] at N'); (try dsimp only); (try k_lift B'); (try k_fold)))
local macro_rules | `(tactic| walk_at "MY sub") => `(tactic| (first | assumption | (refine List.Mem.tail _ ?_; walk_at "MY sub")))
local macro_rules | `(tactic| walk_at "MY fin") => `(tactic| (with_reducible rename Fr h₀ _ _ _ => kF; with_reducible rename News h₀ _ _ _ => kN))
section
variable {w : World} {p : Program} {loose : List Str} {mean : ExcName → Option Value} {mg mb : Str → Option Value} {dp un : Nat} {gd : Option (List Code)} {env : Env} {outer : List Env} {A₀ : Around} {base h₀ : Heap} {L : Addr} {m : Str → Option Value} {news : List (Addr × Obj)} {s : Shared} {R : Result → Shared → Prop}
variable {led : List (Addr × Obj)} {c0 c1 c2 : Int} {u0 u1 u2 : Tok} {nc : Nat} {cl : Addr}
def lpv (c0 c1 c2 : Int) (a b : Str) : Int := if a = b then c0 else if (groupsL.any fun g => sIn g a && sIn g b) = true then c1 else c2
theorem item_led {prog : Program} {A : Around} {E : Value → Shared → Prop} {value slice : Expr} {l : Addr} {its : Array Value} {n : Nat} {k : Int} {u : Tok} {v : Value} {Q : Value → Shared → Prop} (N : News h₀ L s.heap led) (hm : (l, ({ cls := .type "list", data := .seq its n } : Obj)) ∈ led) (h0 : 0 ≤ k) (h1 : k < 64) (hx : its[k.toNat]? = some v) (h : Q v s)
    (hs : subscripted slice false (.ref l) (.int k u) = operate [.ref l, .int k u] (getItem (.ref l) (.int k u)) := by with_unfolding_all rfl) (hg : ∀ r, letTemporaryGo value (.ref l) r = pure () := by intro _; with_unfolding_all rfl) :
    wpAny (model prog w) A (subscriptTail value slice (.ref l) (.int k u)) Q E s :=
  item_listL (show s.heap.IsList l its.toList.toArray from ⟨_, (N _ hm).1, rfl, _, rfl⟩) h0 (by omega) (by rw [Array.getElem?_toList]; exact hx) h hs hg
theorem item_c0 {prog : Program} {A : Around} {E : Value → Shared → Prop} {value slice : Expr} {u : Tok} {Q : Value → Shared → Prop} (N : News h₀ L s.heap led) (hm : (cl, ({ cls := .type "list", data := .seq #[.int c0 u0, .int c1 u1, .int c2 u2] nc } : Obj)) ∈ led) (h : Q (.int c0 u0) s)
    (hs : subscripted slice false (.ref cl) (.int 0 u) = operate [.ref cl, .int 0 u] (getItem (.ref cl) (.int 0 u)) := by with_unfolding_all rfl) (hg : ∀ r, letTemporaryGo value (.ref cl) r = pure () := by intro _; with_unfolding_all rfl) :
    wpAny (model prog w) A (subscriptTail value slice (.ref cl) (.int 0 u)) Q E s := item_led N hm (by decide) (by decide) rfl h hs hg
theorem item_c1 {prog : Program} {A : Around} {E : Value → Shared → Prop} {value slice : Expr} {u : Tok} {Q : Value → Shared → Prop} (N : News h₀ L s.heap led) (hm : (cl, ({ cls := .type "list", data := .seq #[.int c0 u0, .int c1 u1, .int c2 u2] nc } : Obj)) ∈ led) (h : Q (.int c1 u1) s)
    (hs : subscripted slice false (.ref cl) (.int 1 u) = operate [.ref cl, .int 1 u] (getItem (.ref cl) (.int 1 u)) := by with_unfolding_all rfl) (hg : ∀ r, letTemporaryGo value (.ref cl) r = pure () := by intro _; with_unfolding_all rfl) :
    wpAny (model prog w) A (subscriptTail value slice (.ref cl) (.int 1 u)) Q E s := item_led N hm (by decide) (by decide) rfl h hs hg
theorem item_c2 {prog : Program} {A : Around} {E : Value → Shared → Prop} {value slice : Expr} {u : Tok} {Q : Value → Shared → Prop} (N : News h₀ L s.heap led) (hm : (cl, ({ cls := .type "list", data := .seq #[.int c0 u0, .int c1 u1, .int c2 u2] nc } : Obj)) ∈ led) (h : Q (.int c2 u2) s)
    (hs : subscripted slice false (.ref cl) (.int 2 u) = operate [.ref cl, .int 2 u] (getItem (.ref cl) (.int 2 u)) := by with_unfolding_all rfl) (hg : ∀ r, letTemporaryGo value (.ref cl) r = pure () := by intro _; with_unfolding_all rfl) :
    wpAny (model prog w) A (subscriptTail value slice (.ref cl) (.int 2 u)) Q E s := item_led N hm (by decide) (by decide) rfl h hs hg
local macro_rules | `(tactic| walk_at "subscriptTail") => `(tactic| (k_here; (with_reducible show wpAny _ _ (subscriptTail _ _ (Value.ref _) (Value.int _ _)) _ _ _); k_dflt (first | ((with_reducible show wpAny _ _ (subscriptTail _ _ (Value.ref _) (Value.int 0 _)) _ _ _); refine' item_c0 ?N ?m ?_; (case N => k_asm); (case m => walk_at "MY sub"); k_whole) | ((with_reducible show wpAny _ _ (subscriptTail _ _ (Value.ref _) (Value.int 1 _)) _ _ _); refine' item_c1 ?N ?m ?_; (case N => k_asm); (case m => walk_at "MY sub"); k_whole) | ((with_reducible show wpAny _ _ (subscriptTail _ _ (Value.ref _) (Value.int 2 _)) _ _ _); refine' item_c2 ?N ?m ?_; (case N => k_asm); (case m => walk_at "MY sub"); k_whole)); (try dsimp only)))
local macro_rules | `(tactic| walk_at "eval ListComp") => `(tactic| (k_here; k_dflt (refine LCt.ListComp_T (F₀ := by k_asm) (by with_unfolding_all rfl) (by decide) (by rfl) (by decide) (by rfl) ?_)))
local macro_rules | `(tactic| walk_at "CompSrcT") => `(tactic| (k_here; refine ElP.hole ?_))
theorem strsAre_at : ∀ {vs : List Value} {ss : List Str}, StrsAre vs ss → ∀ (i : Nat) v, vs[i]? = some v → ∃ g t, v = .str g t ∧ ss[i]? = some g
  | _, _, .nil, i, v, h => by simp at h
  | _, _, .cons y t r, 0, v, h => ⟨y, t, by simpa using h.symm, rfl⟩
  | _, _, .cons y t r, i + 1, v, h => by
    obtain ⟨g, t', h1, h2⟩ := strsAre_at r i v (by simpa using h)
    exact ⟨g, t', h1, by simpa using h2⟩
theorem strsAre_of {gs : List Str} : ∀ ys : List Value, (∀ v ∈ ys, ∃ g t, v = .str g t ∧ g ∈ gs) → ∃ ss, StrsAre ys ss ∧ ss.length = ys.length ∧ ∀ g ∈ ss, g ∈ gs
  | [], _ => ⟨[], .nil, rfl, fun _ h => nomatch h⟩
  | v :: ys, h => by
    obtain ⟨g, t, rfl, hg⟩ := h _ (.head _)
    obtain ⟨ss, h1, h2, h3⟩ := strsAre_of ys fun v hv => h v (.tail _ hv)
    exact ⟨g :: ss, .cons _ _ h1, by simp [h2], fun x hx => (List.mem_cons.mp hx).elim (fun e => e ▸ hg) (h3 x)⟩
theorem comp_filt {prog : Program} {A : Around} {ct elt : Expr} {y : Str} {scope : Scope} {cl : List (Str × Addr)} {env : Env} {S : List (Addr × Obj) → Prop} {Fin : List Value → List (Addr × Obj) → Prop} {its : Array Value} {ss : List Str} (q : Str → Bool) (hS : S led) (hits : StrsAre its.toList ss) (hlen : ss.length = its.size)
    (htest : ∀ grp t I oI C oC D ys m₂ h tk E', LCg.NsObj oC m₂ → m₂ y = some (.str grp t) → grp ∈ ss → Fr h₀ L h m → News h₀ L h ((I, oI) :: (C, oC) :: (D, LCg.lst ys) :: led) → LCg.Off3 I C D led → ((@Ne Nat I C) ∧ (@Ne Nat I D) ∧ (@Ne Nat C D)) →
      wpAny (model prog w) A (isTrue ct (compEnvC scope cl C env) (eval ct (compEnvC scope cl C env))) (fun ok s₂ => ElP (ok = q grp ∧ ∃ h' tk', s₂ = { s with heap := h', toks := tk' } ∧ Fr h₀ L h' m ∧ News h₀ L h' ((I, oI) :: (C, oC) :: (D, LCg.lst ys) :: led))) E' { s with heap := h, toks := tk })
    (helt : ∀ grp t I oI C oC D ys m₂ h tk E', LCg.NsObj oC m₂ → m₂ y = some (.str grp t) → grp ∈ ss → Fr h₀ L h m → News h₀ L h ((I, oI) :: (C, oC) :: (D, LCg.lst ys) :: led) →
      wpAny (model prog w) A (eval elt (compEnvC scope cl C env)) (fun yv s₂ => ElP ((∃ g t, yv = .str g t ∧ g ∈ ss) ∧ ∃ h' tk', s₂ = { s with heap := h', toks := tk' } ∧ Fr h₀ L h' m ∧ News h₀ L h' ((I, oI) :: (C, oC) :: (D, LCg.lst ys) :: led))) E' { s with heap := h, toks := tk })
    (fin : ∀ ys, ys.length ≤ its.size → (∀ v ∈ ys, ∃ g t, v = .str g t ∧ g ∈ ss) → (ys = [] ↔ ss.any q = false) → Fin ys led) (g : Heap) :
    LCt.CompRestT prog w A h₀ L m env ct elt y scope cl { s with heap := g } S (fun i v => its[i]? = some v) Fin its.size 0 [] led := by
  have main : ∀ k i ys, i + k = its.size → ys.length ≤ i → (∀ v ∈ ys, ∃ g t, v = .str g t ∧ g ∈ ss) → (ys = [] ↔ (ss.take i).any q = false) → LCt.CompRestT prog w A h₀ L m env ct elt y scope cl { s with heap := g } S (fun i v => its[i]? = some v) Fin k i ys led := by
    intro k
    induction k with
    | zero =>
      intro i ys hi hl hp he
      have : i = ss.length := by omega
      rw [this, List.take_length] at he
      exact LCt.CompRestT.zero (fin ys (by omega) hp he)
    | succ k ih =>
      intro i ys hi hl hp he
      refine LCt.CompRestT.succ fun v I oI C oC D m₂ h tk E' hP hC hx F N off ne => ?_
      obtain ⟨grp, tg, rfl, hg⟩ := strsAre_at hits i v (by rw [Array.getElem?_toList]; exact hP)
      have hmem := List.mem_of_getElem? hg
      have hi2 : i < ss.length := by omega
      have htk : (ss.take (i + 1)).any q = ((ss.take i).any q || q grp) := by
        rw [List.take_add_one, hg, List.any_append]; simp
      refine wpAny_mono (htest grp tg I oI C oC D ys m₂ h tk E' hC hx hmem F N off ne) (fun ok s₂ h₂ => ?_) fun _ _ e => e
      obtain ⟨rfl, h', tk', rfl, F', N'⟩ := h₂.out
      cases hq : q grp with
      | true =>
        rw [if_pos rfl]
        refine wpAny_mono (helt grp tg I oI C oC D ys m₂ h' tk' E' hC hx hmem F' N') (fun yv s₂ h₃ => ?_) fun _ _ e => e
        obtain ⟨hv, h2, tk2, rfl, F2, N2⟩ := h₃.out
        refine ⟨h2, tk2, led, rfl, F2, N2, off, hS, ih (i + 1) (ys ++ [yv]) (by omega) (by simp; omega) (fun u hu => ?_) ?_⟩
        · rcases List.mem_append.mp hu with hu | hu
          · exact hp u hu
          · rw [List.mem_singleton.mp hu]; exact hv
        · rw [htk, hq]; simp
      | false =>
        rw [if_neg (by decide)]
        refine ⟨h', tk', led, rfl, F', N', off, hS, ih (i + 1) ys (by omega) (by omega) hp ?_⟩
        rw [htk, hq, Bool.or_false]; exact he
  exact main its.size 0 [] (by omega) (Nat.le_refl _) (fun _ h => nomatch h) (by simp)
theorem same_strs_nil : ∀ ss : List Str, PySem.Spec.same (.list (ss.map PyData.str)) (.list []) = ss.isEmpty
  | [] => rfl
  | _ :: _ => rfl
theorem shaped_strs (ss : List Str) (hok : ∀ g ∈ ss, PyData.strOk g = true) : SeqAt.shaped (.list (ss.map PyData.str)) = true := by
  have h1 : ∀ ss : List Str, (∀ g ∈ ss, PyData.strOk g = true) → PyData.canLayAll0 (ss.map PyData.str) = true := by
    intro ss; induction ss with
    | nil => intro _; rfl
    | cons a r ih => intro h; simp [PyData.canLayAll0, PyData.canLay0, h a (.head _), ih fun g hg => h g (.tail _ hg)]
  have h2 : ∀ ss : List Str, PyData.depthAll (ss.map PyData.str) = 0 := by
    intro ss; induction ss with
    | nil => rfl
    | cons a r ih => simp [PyData.depthAll, PyData.depth, ih]
  simp [SeqAt.shaped, PyData.canLay0, PyData.depth, h1 ss hok, h2]
theorem ne_nil_K {prog : Program} {A : Around} {E : Value → Shared → Prop} {Q : Value → Shared → Prop} {D D2 : Addr} {ys : List Value} {n n2 : Nat} (N : News h₀ L s.heap led) (hm : (D, ({ cls := .type "list", data := .seq ys.toArray n } : Obj)) ∈ led) (hm2 : (D2, ({ cls := .type "list", data := .seq #[] n2 } : Obj)) ∈ led) (hy : ∀ v ∈ ys, ∃ g t, v = .str g t ∧ g ∈ groupsL) (hu : A.units + 64 < cLine)
    (h : Q (.bool (!ys.isEmpty)) s) : wpAny (model prog w) A (compareOp .NotEq (.ref D) (.ref D2)) Q E s := by
  obtain ⟨ss, h1, h2, h3⟩ := strsAre_of ys hy
  have hok : ∀ g ∈ groupsL, PyData.strOk g = true := by decide +kernel
  have e : ss.isEmpty = ys.isEmpty := by cases ss <;> cases ys <;> simp_all
  refine ne_dataH_same (reads_newData (show s.heap.IsList D ys.toArray from ⟨_, (N _ hm).1, rfl, _, rfl⟩) (StrsAre.carried h1)) (reads_newData (show s.heap.IsList D2 ([] : List Value).toArray from ⟨_, (N _ hm2).1, rfl, _, rfl⟩) CarriedAll.nil) (shaped_strs ss fun g hg => hok g (h3 g hg)) (shaped_strs [] fun _ h => nomatch h) hu (SeqAt.noMix_of_shape (.list .str) rfl _ _ (list_map_has fun _ => rfl) (list_map_has (l := ([] : List Str)) (g := PyData.str) fun _ => rfl)) ?_
  rw [same_strs_nil, e]; exact h
local macro_rules | `(tactic| walk_at "compareOp NotEq ref ref") => `(tactic| (k_here; refine ElP.hole ?_))
theorem law_pair_c (B : Below A₀ base outer h₀) (F : Fr h₀ L s.heap m) (X : (hd.heap_39 w.params).In h₀) (N : News h₀ L s.heap led) (T : Top p loose mean mg mb h₀) (hf : env.frame = some L) (hke : env.scope.kind = .function)(hm : (cl, ({ cls := .type "list", data := .seq #[.int c0 u0, .int c1 u1, .int c2 u2] nc } : Obj)) ∈ led) (hdp : dp + 20 < recursionLimit) (hun : un + 128 < cLine) {a b : Str} {ta tb : Tok} (ha : a.length ≤ 8) (hb : b.length ≤ 8)
  (hR : ∀ h' tk' t', Fr h₀ L h' m → News h₀ L h' led → R (.ok (.ret (.int (lpv c0 c1 c2 a b) t'))) {s with heap := h', toks := tk'}) : codeAny (model PySem.Challenge.rw_bs0041_01.row.prog w) (Arnd dp un gd env outer) (.call (.ref 218) ⟨[.str a ta, .str b tb, .ref cl], []⟩) R s := by
  revert X; k_fill; intro X
  walk_at "MY plainC"
  k_steps
  · with_reducible rename Fr h₀ _ _ _ => kF
    with_reducible rename News h₀ _ _ _ => kN
    have e : lpv c0 c1 c2 a b = c0 := by unfold lpv; rw [if_pos (eq_of_beq ‹(a == b) = true›)]
    rw [← e]
    exact hR _ _ _ kF (fun p hp => kN p (by walk_at "MY sub"))
  · refine .mk ?_
    with_reducible rename News _ _ _ _ => NL
    with_reducible rename Fr _ _ { heap := _, gens := _, drawn := _, toks := _, os := _ : Shared}.heap _ => FL
    have hne : ¬ a = b := fun e => by have q : (a == b) = false := by assumption
                                      rw [e, beq_self_eq_true] at q; cases q
    refine' LCt.CompSrcT.ledger ?hh FL NL ?hm ?hsz ?rest
    case hh => exact rfl
    case hm => exact .head _
    case hsz => exact Nat.le_of_ble_eq_true rfl
    intro g
    refine' comp_filt (ss := groupsL) (fun g => sIn g a && sIn g b) ?hS ?hits ?hlen ?test ?elt ?fin g
    case hS => exact .inr ⟨_, .head _, rfl, _, rfl⟩
    case hits => exact .cons _ _ (.cons _ _ (.cons _ _ (.cons _ _ (.cons _ _ (.cons _ _ (.cons _ _ (.cons _ _ (.cons _ _ (.cons _ _ .nil)))))))))
    case hlen => exact rfl
    case test =>
      intro grp tg I oI CC oC D ys m2 h tk E' hC hx hgrp F' N' off ne
      k_steps
      · refine .mk ⟨?_, _, _, rfl, F', N'⟩
        have h1 : (Builtin.Str.occurrences grp a 0 grp.length 1).isEmpty = true := by assumption
        show false = (!(Builtin.Str.occurrences grp a 0 grp.length 1).isEmpty && _)
        rw [h1]; rfl
      · refine .mk ⟨?_, _, _, rfl, F', N'⟩
        have h1 : (Builtin.Str.occurrences grp a 0 grp.length 1).isEmpty = false := by assumption
        have h2 : (Builtin.Str.occurrences grp b 0 grp.length 1).isEmpty = true := by assumption
        show false = (!(Builtin.Str.occurrences grp a 0 grp.length 1).isEmpty && !(Builtin.Str.occurrences grp b 0 grp.length 1).isEmpty)
        rw [h1, h2]; rfl
      · refine .mk ⟨?_, _, _, rfl, F', N'⟩
        have h1 : (Builtin.Str.occurrences grp a 0 grp.length 1).isEmpty = false := by assumption
        have h2 : (Builtin.Str.occurrences grp b 0 grp.length 1).isEmpty = false := by assumption
        show true = (!(Builtin.Str.occurrences grp a 0 grp.length 1).isEmpty && !(Builtin.Str.occurrences grp b 0 grp.length 1).isEmpty)
        rw [h1, h2]; rfl
    case elt =>
      intro grp tg I oI CC oC D ys m2 h tk E' hC hx hgrp F' N'
      k_steps
      exact .mk ⟨⟨_, _, rfl, hgrp⟩, _, _, rfl, F', N'⟩
    case fin =>
      intro ys hlen hys hnil D h tk F' N' off
      try dsimp only
      k_steps
      refine .mk ?_
      with_reducible rename News _ _ _ _ => NL3
      refine' ne_nil_K (ys := ys) NL3 ?hm1 ?hm2 hys ?u ?_
      case hm1 => exact .tail _ (.head _)
      case hm2 => exact .head _
      case u => dsimp only [Arnd, Around.deeper] at *; omega
      cases hya : ys.isEmpty with
      | true =>
        have hany : (groupsL.any fun g => sIn g a && sIn g b) = false := hnil.mp (List.isEmpty_iff.mp hya)
        k_steps
        with_reducible rename Fr h₀ _ _ _ => kF
        with_reducible rename News h₀ _ _ _ => kN
        have e : lpv c0 c1 c2 a b = c2 := by unfold lpv; rw [if_neg hne, if_neg (by rw [hany]; decide)]
        rw [← e]
        exact hR _ _ _ kF (fun p hp => kN p (by walk_at "MY sub"))
      | false =>
        have hany : (groupsL.any fun g => sIn g a && sIn g b) = true := by
          cases e : (groupsL.any fun g => sIn g a && sIn g b) with
          | true => rfl
          | false => rw [hnil.mpr e] at hya; cases hya
        k_steps
        with_reducible rename Fr h₀ _ _ _ => kF
        with_reducible rename News h₀ _ _ _ => kN
        have e : lpv c0 c1 c2 a b = c1 := by unfold lpv; rw [if_neg hne, if_pos hany]
        rw [← e]
        exact hR _ _ _ kF (fun p hp => kN p (by walk_at "MY sub"))
def lsv (c0 c1 c2 : Int) (a b : Str) : Int := if a ≠ b ∧ sIn (Str.ofString "HW") a = true then c1 else lpv c0 c1 c2 a b
local macro_rules | `(tactic| walk_at "call ref") => `(tactic| (k_here; (with_reducible show wpAny _ _ (call (Value.ref 218) _) _ _ _); k_dflt (refine wpAny_call ?_; refine' law_pair_c ?B ?F ?X ?N ?T ?hf ?hke ?hm ?hdp ?hun ?ha ?hb ?_; (case B => k_asm); (case F => k_asm); (case X => k_asm); (case T => k_asm); (case hf => first | exact rfl | assumption); (case hke => first | exact rfl | assumption); (case N => k_asm); (case hm => walk_at "MY sub"); (case hdp => (dsimp only [Arnd, Around.deeper] at *; omega)); (case hun => (dsimp only [Arnd, Around.deeper] at *; omega)); (case ha => first | assumption | omega); (case hb => first | assumption | omega); k_whole); intro h' tk' t' F' N'; (try dsimp only)))

theorem law_step_c (B : Below A₀ base outer h₀) (F : Fr h₀ L s.heap m) (X : (hd.heap_39 w.params).In h₀) (N : News h₀ L s.heap led) (T : Top p loose mean mg mb h₀) (hf : env.frame = some L) (hke : env.scope.kind = .function)(hm : (cl, ({ cls := .type "list", data := .seq #[.int c0 u0, .int c1 u1, .int c2 u2] nc } : Obj)) ∈ led) (hdp : dp + 30 < recursionLimit) (hun : un + 256 < cLine) {a b : Str} {ta tb : Tok} (ha : a.length ≤ 8) (hb : b.length ≤ 8)
  (hR : ∀ h' tk' t', Fr h₀ L h' m → News h₀ L h' led → R (.ok (.ret (.int (lsv c0 c1 c2 a b) t'))) {s with heap := h', toks := tk'}) : codeAny (model PySem.Challenge.rw_bs0041_01.row.prog w) (Arnd dp un gd env outer) (.call (.ref 225) ⟨[.str a ta, .str b tb, .ref cl], []⟩) R s := by
  revert X; k_fill; intro X
  walk_at "MY plain"
  k_steps
  · have h1 : (Builtin.Str.occurrences (Str.ofString "HW") a 0 (Str.ofString "HW").length 1).isEmpty = true := by assumption
    with_reducible rename Fr h₀ _ _ _ => kF
    with_reducible rename News h₀ _ _ _ => kN
    have e : lsv c0 c1 c2 a b = lpv c0 c1 c2 a b := by
      unfold lsv; rw [if_neg (fun h => by have h2 : (!(Builtin.Str.occurrences (Str.ofString "HW") a 0 (Str.ofString "HW").length 1).isEmpty) = true := h.2; rw [h1] at h2; cases h2)]
    rw [← e]
    exact hR _ _ _ kF kN
  · have h1 : (Builtin.Str.occurrences (Str.ofString "HW") a 0 (Str.ofString "HW").length 1).isEmpty = false := by assumption
    have hne : a ≠ b := by
      have q : (a != b) = true := by assumption
      simpa using q
    with_reducible rename Fr h₀ _ _ _ => kF
    with_reducible rename News h₀ _ _ _ => kN
    have e : lsv c0 c1 c2 a b = c1 := by
      unfold lsv
      rw [if_pos (And.intro hne (show (!(Builtin.Str.occurrences (Str.ofString "HW") a 0 (Str.ofString "HW").length 1).isEmpty) = true by rw [h1]; rfl))]
    rw [← e]
    exact hR _ _ _ kF kN
  · have hab : a = b := by
      have q : (a != b) = false := by assumption
      simpa using q
    with_reducible rename Fr h₀ _ _ _ => kF
    with_reducible rename News h₀ _ _ _ => kN
    have e : lsv c0 c1 c2 a b = lpv c0 c1 c2 a b := by unfold lsv; rw [if_neg (fun h => h.1 hab)]
    rw [← e]
    exact hR _ _ _ kF kN
end
end Mine
-- Ed11
namespace Mine
theorem fresh_Ed11 : True := by (w_top off; exact trivial)
section
variable {prog : Program} {w : World} {A : Around} {s : Shared} {env : Env} {h₀ : Heap} {L : Addr}
/-- the turns of a range -/
theorem Turns.range2 {x : Str} {px : Pos} {I : Addr} (hh : A.handled = none) (hx : env.kindOf x = some .local) (hLe : env.locals = L) (hp : (env.scope.kind == .class || (env.scope.kind == .module && env.locals != env.globals)) = false) (hI : h₀.get? I = none) (hLI : L ≠ I) (a : Int) (n : Nat) :
    Turns prog w A env h₀ L (.Name x px) (.ref I) [I] n (fun i h => IsRangeIter h I (a + (i : Nat) * 2) ((n : Int) - (i : Nat)) 2) (fun i m₁ m₂ => ∃ t, m₂ = fun y => if y = x then some (.int (a + i * 2) t) else m₁ y) where
  frame := (Walks.range (prog := prog) (w := w) hh I a 2 n).frame
  live := fun i h st b hb => by
    rw [List.mem_singleton.mp hb]
    refine ⟨_, st, ?_⟩
    rintro ⟨vs, t, e1, e2⟩
    cases e1
    simp [rawInt] at e2
  next := fun i s m₁ Q E hi hst F hQ => by
    refine (Walks.range (prog := prog) (w := w) hh I a 2 n).item i s _ E hi hst fun v h' tk hv hst' hk => ?_
    obtain ⟨t, rfl⟩ := hv
    have F' : Fr h₀ L h' m₁ := ⟨F.ns.at' fun o e => hk _ o (by simpa using hLI) e, fun b o e => hk b o (fun hb => by rw [List.mem_singleton.mp hb, hI] at e; cases e) (F.keep b o e), F.above⟩
    refine wpAny_of_eq (show letOwnedTupleGo (.Name x px) (.ref I) (.int (a + i * 2) t) = pure () from rfl) (wpAny_assign_Name (wpAny_storeName_local hx (by rw [hLe]; exact F'.ns) (fun h₂ hn₂ hs₂ => ?_) hp))
    rw [hLe] at hn₂ hs₂
    exact hQ h₂ _ _ ⟨t, rfl⟩ ((Walks.range (prog := prog) (w := w) hh I a 2 n).frame _ _ _ hst' fun b hb o e => hs₂.extBut _ _ (fun q => hLI (by rw [List.mem_singleton.mp hb] at q; exact q.symm)) e) (F'.set hn₂ hs₂) fun b o hbL hb e => hs₂.extBut _ _ hbL (hk b o hb e)
  fin := fun s Q E hst hQ => (Walks.range (prog := prog) (w := w) hh I a 2 n).done s Q E hst hQ
/-- the loop over a range, its table in the ledger -/
theorem range_mat2 {R : Result → Shared → Prop} {E : Value → Shared → Prop} {x : Str} {px : Pos} {body : List Stmt} {r : Addr} {b c : Int} {t u v : Tok} {n : Nat} {pre Tl a mat : List (Addr × Obj)} {m : Str → Option Value} (hh : A.handled = none) (hx : env.kindOf x = some .local) (hLe : env.locals = L) (hp : (env.scope.kind == .class || (env.scope.kind == .module && env.locals != env.globals)) = false)
    (ts : TS Tl) (F : Fr h₀ L s.heap m) (N : News h₀ L s.heap (pre ++ (Tl ++ (a ++ mat)))) (hrg : IsRange s.heap r c b 2 t u v) (hsm : Builtin.Range.small c b 2 = true) (hsz : Builtin.Range.rangeSize c b 2 = (n : Int))
    (J : Nat → (Str → Option Value) → List (Addr × Obj) → Prop) (h0 : J 0 m mat)
    (step : ∀ i m₁ tv mat₁ Tl₁ h₁ tk₁ its E', i < n → J i m₁ mat₁ → TS Tl₁ → (∀ p ∈ its, p.1 ≠ 172) → (∀ p ∈ its, ∀ q ∈ mat, p.1 ≠ q.1) → mat₁.map (·.1) = mat.map (·.1) → Fr h₀ L h₁ (fun y => if y = x then some (.int (c + i * 2) tv) else m₁ y) → News h₀ L h₁ (pre ++ (Tl₁ ++ ((its ++ a) ++ mat₁))) →
      wpAny (model prog w) A (execs body env) (MPost h₀ L s pre (its ++ a) mat (J (i + 1))) E' { s with heap := h₁, toks := tk₁ })
    (done : ∀ h' tk m' Tl' mat', TS Tl' → Fr h₀ L h' m' → News h₀ L h' (pre ++ (Tl' ++ (a ++ mat'))) → mat'.map (·.1) = mat.map (·.1) → J n m' mat' → R (.ok .next) { s with heap := h', toks := tk }) :
    wpAny (model prog w) A (pyIter (.ref r)) (fun it s₂ => codeAny (model prog w) A (.forLoop (.Name x px) it body [] env) R s₂) E s := by
  refine wpAny_pyIter_range hrg hsm ?_
  have up : ∀ b' o, s.heap.get? b' = some o → (s.heap.push { cls := .type "range_iterator", data := .fields #[rawInt c, rawInt (Builtin.Range.rangeSize c b 2), rawInt 2] }).get? b' = some o := fun b' o e => Heap.get?_push_of_some _ e
  have lt : ∀ p ∈ pre ++ (Tl ++ (a ++ mat)), p.1 ≠ s.heap.objs.size := fun p hp => Nat.ne_of_lt (Heap.lt_size (N p hp).1)
  have h172 : (172 : Addr) ≠ s.heap.objs.size := by
    obtain ⟨o, ho, _⟩ := ts.mem172
    exact lt _ (List.mem_append.mpr (.inr (List.mem_append.mpr (.inl ho))))
  have W := Turns.range2 (prog := prog) (w := w) (px := px) hh hx hLe hp (next_is_new F) (Nat.ne_of_lt F.ns.lt) c n
  refine loop_mat (s := { s with heap := _ }) W (fun b' hb' => by rw [List.mem_singleton.mp hb']; exact next_is_new F) (fun q => Nat.ne_of_lt F.ns.lt (List.mem_singleton.mp q)) (fun q => h172 (List.mem_singleton.mp q)) (fun p hp q => lt p (List.mem_append.mpr (.inl hp)) (List.mem_singleton.mp q))
    (fun p hp q => lt p (List.mem_append.mpr (.inr (List.mem_append.mpr (.inr (List.mem_append.mpr (.inl hp)))))) (List.mem_singleton.mp q)) (fun p hp q => lt p (List.mem_append.mpr (.inr (List.mem_append.mpr (.inr (List.mem_append.mpr (.inr hp)))))) (List.mem_singleton.mp q))
    ts (F.keeps up) (N.grown up) ?_ J h0 (fun i m₁ m₂ mat₁ Tl₁ h₁ tk₁ its E' hi hU hJ ts₁ hits hm F₁ N₁ => ?_) done
  · show IsRangeIter _ _ _ _ _
    rw [hsz]
    simpa using Heap.get?_push_size _ rfl
  · obtain ⟨tv, rfl⟩ := hU
    refine wpAny_mono (step i m₁ tv mat₁ Tl₁ h₁ tk₁ its E' hi hJ ts₁ (fun p hp q => h172 (by rw [← q]; exact List.mem_singleton.mp (hits p hp))) (fun p hp q hq e => lt q (List.mem_append.mpr (.inr (List.mem_append.mpr (.inr (List.mem_append.mpr (.inr hq)))))) (by rw [← e]; exact List.mem_singleton.mp (hits p hp))) hm F₁ N₁) (fun f s' h' => ?_) fun _ _ e => e
    cases h' with | next a1 a2 a3 a4 a5 => exact .next a1 a2 a3 a4 a5
end
theorem lets_at {k : Int} (h0 : 0 ≤ k) (h1 : k < 26) : ∃ c, Txt.item lets k = ⟨#[c]⟩ ∧ 65 ≤ c ∧ c ≤ 90 := by
  have h := lets_item k
  rw [show k.fmod 26 = k from by rw [Int.fmod_eq_emod_of_nonneg _ (by decide)]; omega] at h
  exact h
/-- a sign of the law's words: a great letter or the blank -/
def Sign (a : Str) : Prop := ∃ c, a = ⟨#[c]⟩ ∧ (c = 32 ∨ (65 ≤ c ∧ c ≤ 90))
theorem sign_in : ∀ a, Sign a → ∀ g ∈ groupsL, sIn g a = true → sIn gText a = true := by
  have all : ∀ g ∈ groupsL, ∀ c : Fin 91, sIn g ⟨#[c.val]⟩ = true → sIn gText ⟨#[c.val]⟩ = true := by decide +kernel
  rintro a ⟨c, rfl, hc⟩ g hg
  exact all g hg ⟨c, by omega⟩
theorem rcv_lpv {c0 c1 c2 : Int} {a b : Str} (ha : Sign a) (hb : Sign b) : rcv c0 c1 c2 a b = lpv c0 c1 c2 a b := by
  unfold rcv lpv
  by_cases e : a = b
  · rw [if_pos e, if_pos e]
  · rw [if_neg e, if_neg e]
    cases hany : (groupsL.any fun g => sIn g a && sIn g b) with
    | true =>
      obtain ⟨g, hg, h⟩ := List.any_eq_true.mp hany
      rw [Bool.and_eq_true] at h
      rw [if_neg (by rw [sign_in a ha g hg h.1, sign_in b hb g hg h.2]; decide)]
    | false => split <;> rfl
theorem stv_lsv {c0 c1 c2 : Int} {a b : Str} (ha : Sign a) (hb : Sign b) : stv c0 c1 c2 a b = lsv c0 c1 c2 a b := by
  unfold stv lsv
  split
  · rfl
  · exact rcv_lpv ha hb
theorem swapped_zero2 {n1 n2 : Str} {p1 p2 tp : Pos} {k : Nat} {v : Expr} {env : Env} (hl : p2.line = p1.line) : swappedStores [.Tuple [.Name n1 p1, .Name n2 p2] k tp] v env = swappedStores [.Tuple [.Name n1 ⟨0, 0, 0, 0⟩, .Name n2 ⟨0, 0, 0, 0⟩] k tp] v env := by
  obtain ⟨a1, b1, d1, e1⟩ := p1
  obtain ⟨a2, b2, d2, e2⟩ := p2
  dsimp only at hl
  subst hl
  delta swappedStores
  cases v <;> first | rfl | simp [List.filterMap_cons, Expr.pos]
theorem Assign_swap2 {M : Model} {A : Around} {E : Value → Shared → Prop} {s : Shared} {env : Env} {n1 n2 : Str} {p1 p2 tpos pos : Pos} {k : Nat} {value : Expr} {names : List Str} {Q : Flow → Shared → Prop} (hl : p2.line = p1.line)
    (h : wpAny M A (eval value env) (fun v s₁ => wpAny M A (unpackItems v names.length none) (fun items s₂ =>
      wpAny M A (assignInOrder (names.reverse.map fun n => bindName env n) items.reverse) (fun _ => Q .next) E s₂) E s₁) E s)
    (hs : swapsWithSole [.Tuple [.Name n1 p1, .Name n2 p2] k tpos] value pos.line env = pure false := by rfl)
    (hw : swappedStores [.Tuple [.Name n1 ⟨0, 0, 0, 0⟩, .Name n2 ⟨0, 0, 0, 0⟩] k tpos] value env = pure (some names) := by rfl) :
    wpAny M A (exec (.Assign [.Tuple [.Name n1 p1, .Name n2 p2] k tpos] value pos) env) Q E s :=
  Assign_Tuple_swapped h hs ((swapped_zero2 hl).trans hw)
abbrev scLaw : Scope := { kind := .function, names := [((Str.ofString "script"), .local), ((Str.ofString "letters"), .local), ((Str.ofString "one"), .local), ((Str.ofString "other"), .local), ((Str.ofString "given"), .local), ((Str.ofString "costs"), .local), ((Str.ofString "local"), .local), ((Str.ofString "plain"), .local), ((Str.ofString "here"), .local), ((Str.ofString "there"), .cell), ((Str.ofString "rows"), .local), ((Str.ofString "i"), .local), ((Str.ofString "j"), .local), ((Str.ofString "most"), .local), ((Str.ofString "due"), .local), ((Str.ofString "turn"), .local), ((Str.ofString "k"), .local), ((Str.ofString "first"), .local), ((Str.ofString "second"), .local), ((Str.ofString "_law_word"), .globalImplicit), ((Str.ofString "_law_at"), .globalImplicit), ((Str.ofString "max"), .globalImplicit), ((Str.ofString "Editex"), .globalImplicit), ((Str.ofString "range"), .globalImplicit), ((Str.ofString "len"), .globalImplicit), ((Str.ofString "_law_step"), .globalImplicit), ((Str.ofString "min"), .globalImplicit), ((Str.ofString "_law_pair"), .globalImplicit)], isGenerator := false, isCoroutine := false, more := [(Str.ofString "fast", .str (Str.ofString "script")), (Str.ofString "fast", .str (Str.ofString "letters")), (Str.ofString "fast", .str (Str.ofString "one")), (Str.ofString "fast", .str (Str.ofString "other")), (Str.ofString "fast", .str (Str.ofString "given")), (Str.ofString "fast", .str (Str.ofString "costs")), (Str.ofString "fast", .str (Str.ofString "local")), (Str.ofString "fast", .str (Str.ofString "plain")), (Str.ofString "fast", .str (Str.ofString "here")), (Str.ofString "fast", .str (Str.ofString "there")), (Str.ofString "fast", .str (Str.ofString "letter")), (Str.ofString "fast", .str (Str.ofString "rows")), (Str.ofString "fast", .str (Str.ofString "i")), (Str.ofString "fast", .str (Str.ofString "j")), (Str.ofString "fast", .str (Str.ofString "most")), (Str.ofString "fast", .str (Str.ofString "due")), (Str.ofString "fast", .str (Str.ofString "turn")), (Str.ofString "fast", .str (Str.ofString "k")), (Str.ofString "fast", .str (Str.ofString "first")), (Str.ofString "fast", .str (Str.ofString "second"))] }
abbrev lawEnv (L fa : Addr) (cd : Value) : Env := envOfC (Str.ofString "law") scLaw L fa cd
local macro_rules | `(tactic| k_room) => `(tactic| ktr_room)
local macro_rules | `(tactic| walk_at "MY rest") => `(tactic| (
  refine' kp_rest ?k1 ?k2 ?k3 ?k4 ?k5 ?kA ?kF ?kK ?k6 ?k7 ?k8 ?kV ?kP ?kG ?kB ?_ ?c2 ?c3 ?c4 ?c5
  (case kA => exact rfl)
  (case kF => first | exact rfl | assumption)
  (case kK => first | exact rfl | assumption)
  (case k1 => k_asm)
  (case k2 => k_asm)
  (case k3 => k_asm)
  (case k4 => k_asm)
  (case k5 => k_asm)
  (case k6 => k_is)
  (case k7 => k_is)
  (case k8 => k_room)
  (case kV => kl_lit)
  (case kP => exact rfl)
  (case kG => exact fun _ => rfl)
  (case kB => exact fun _ => locs rfl)
  (case c5 => decide)
  (case c2 => exact rfl)
  (case c3 => exact rfl)
  (case c4 => exact rfl)
  k_whole
  intro D' g' L' h' l1 FG' F' N' B' X' T'
  (try k_lt l1); (try dsimp only); (try k_lift B'); (try k_fold)))
local macro_rules | `(tactic| walk_at "MY plain") => `(tactic| (
  refine' code_def ?k1 ?k2 ?k3 ?k4 ?k5 ?kA ?kF ?kK ?k6 ?k7 ?k8 ?k9 ?kB ?_ ?c2 ?c3 ?c4 ?c5
  (case kA => exact rfl)
  (case kF => first | exact rfl | assumption)
  (case kK => first | exact rfl | assumption)
  (case k1 => k_asm)
  (case k2 => k_asm)
  (case k3 => k_asm)
  (case k4 => k_asm)
  (case k5 => k_asm)
  (case k6 => k_is)
  (case k7 => k_is)
  (case k8 => k_room)
  (case k9 => first | exact BindsTo.of_eq rfl | exact binds_K (by k_in) rfl (by k_is) rfl rfl rfl)
  (case c5 => decide)
  (case kB => exact locs rfl)
  (case c2 => exact rfl)
  (case c3 => exact rfl)
  (case c4 => exact rfl)
  k_whole
  intro g' L' h' FG' F' N' B' X' T'
  (try dsimp only); (try k_lift B'); (try k_fold)))
local macro_rules | `(tactic| walk_at "MY plainC") => `(tactic| (refine' code_defC ?k1 ?k2 ?k3 ?k4 ?k5 ?kA ?kF ?kK ?k6 ?k7 ?k8 ?k9 ?kB ?kD ?_ ?c2 ?c3 ?c4; (case kA => exact rfl); (case kF => first | exact rfl | assumption); (case kK => first | exact rfl | assumption); (case k1 => k_asm); (case k2 => k_asm); (case k3 => k_asm); (case k4 => k_asm); (case k5 => k_asm); (case k6 => k_is); (case k7 => k_is); (case k8 => k_room); (case k9 => first | exact BindsTo.of_eq rfl | exact binds_K (by k_in) rfl (by k_is) rfl rfl rfl); (case kB => exact rfl); (case kD => decide +kernel); (case c2 => exact rfl); (case c3 => exact rfl); (case c4 => exact rfl); k_whole; intro g' L' h' tk' cells' FG' F' N' Y' B' X' T' l1; (try k_lt l1); k_cells Y'; (try simp only [List.cons_append, List.nil_append] at N'); (try dsimp only); (try k_lift B'); (try k_fold)))
local macro_rules | `(tactic| walk_at "getAttr ref") => `(tactic| (k_here; (with_reducible show wpAny _ _ (getAttr (Value.ref _) (PySem.Str.ofString "_ident") _) _ _ _); k_dflt (refine' get_sm ?k1 ?k2 ?k3 ?k4 ?k5 ?k6 ?k7 ?k8 ?k9 ?k10 ?k11 ?k12 ?_; (case k3 => k_inst); (case k1 => k_asm); (case k2 => k_asm); (case k6 => k_is); (case k4 => k_is); (case k5 => k_is); (case k7 => k_is); (case k8 => k_is); (case k9 => decide +kernel); (case k10 => k_get); (case k11 => k_is); (case k12 => k_handed); k_whole)))
local macro_rules | `(tactic| walk_at "eval Call Attribute") => `(tactic| (k_here; (with_reducible show wpAny _ _ (eval (Expr.Call (Expr.Attribute (Expr.Name _ _) _ _) [Expr.Starred _ _] [] _) _) _ _ _); refine starMethod ?_))
local macro_rules | `(tactic| walk_at "MY restC") => `(tactic| (
  refine' kpc_rest ?k1 ?k2 ?k3 ?k4 ?k5 ?kA ?kF ?kK ?k6 ?k7 ?k8 ?kV ?kP ?kG ?kB ?kD ?_ ?c2 ?c3 ?c4
  (case kA => exact rfl)
  (case kF => first | exact rfl | assumption)
  (case kK => first | exact rfl | assumption)
  (case k1 => k_asm)
  (case k2 => k_asm)
  (case k3 => k_asm)
  (case k4 => k_asm)
  (case k5 => k_asm)
  (case k6 => k_is)
  (case k7 => k_is)
  (case k8 => k_room)
  (case kV => kl_lit)
  (case kP => exact rfl)
  (case kG => exact fun _ => rfl)
  (case kB => exact fun _ => rfl)
  (case kD => decide +kernel)
  (case c2 => exact rfl)
  (case c3 => exact rfl)
  (case c4 => exact rfl)
  k_whole
  intro D' g' L' h' tk' cells' l1 l2 FG' F' N' Y' B' X' T'
  (try k_lt l1); (try k_lt2 l2); k_cells Y'; (try simp only [List.cons_append, List.nil_append] at N'); (try dsimp only); (try k_lift B'); (try k_fold)))
local macro_rules | `(tactic| walk_at "call ref") => `(tactic| (k_here; (with_reducible show wpAny _ _ (call (Value.ref 95) _) _ _ _); k_dflt (refine wpAny_call ?_; refine' ident_c ?k1 ?k2 ?k3 ?k4 ?k5 ?k6 ?k7 ?k8 ?k9 ?_; (case k1 => k_asm); (case k2 => k_asm); (case k3 => k_asm); (case k4 => k_asm); (case k5 => k_asm); (case k6 => first | exact rfl | assumption); (case k7 => first | exact rfl | assumption); (case k8 => (dsimp only [Arnd, Around.deeper] at *; omega)); (case k9 => (dsimp only [Arnd, Around.deeper] at *; omega)); k_whole); intro h' tk' F' N'; (try dsimp only); (try k_sweep)))
local macro_rules | `(tactic| walk_at "MY memT") => `(tactic| (first | (refine List.mem_append_left _ ?_; assumption) | (refine List.Mem.tail _ ?_; walk_at "MY memT")))
local macro_rules | `(tactic| walk_at "MY split") => `(tactic| (first | exact Split.base | (refine' Split.cons ?sp; (case sp => walk_at "MY split"))))
local macro_rules | `(tactic| walk_at "MY off") => `(tactic| ((try dsimp only); simp only [List.forall_mem_cons, List.not_mem_nil, false_implies, implies_true, and_true]; (repeat' (refine And.intro ?_ ?_)); all_goals (first | assumption | (refine neN ?_; (try dsimp only); omega))))
local macro_rules | `(tactic| walk_at "eval Lambda") => `(tactic| (k_here; k_dflt (refine' kla_eval ?d0 ?_; (case d0 => exact rfl)); (first
  | (k_dflt (refine' lam_S1 ?ts ?F ?N ?hg ?T ?C ?off ?offo ?hq ?e1 ?e2 ?hcl ?_; (case ts => assumption); (case F => k_asm); (case N => k_asm); (case hg => walk_at "MY split"); (case T => k_asm); (case C => assumption); (case off => walk_at "MY off"); (case offo => assumption); (case hq => first | rfl | with_unfolding_all rfl); (case e1 => rfl); (case e2 => rfl); (case hcl => exact rfl); k_whole); intro f' c' oc' ct' h' tk' Tl' F' N' ts' hm' hc' l1'; (try simp only [List.cons_append, List.nil_append] at N'))
  | (k_dflt (refine' lam_S2 ?ts ?F ?N ?hg ?T ?C ?off ?offo ?hq ?e1 ?e2 ?hcl ?_; (case ts => assumption); (case F => k_asm); (case N => k_asm); (case hg => walk_at "MY split"); (case T => k_asm); (case C => assumption); (case off => walk_at "MY off"); (case offo => assumption); (case hq => first | rfl | with_unfolding_all rfl); (case e1 => rfl); (case e2 => rfl); (case hcl => exact rfl); k_whole); intro f' c' oc' ct' h' tk' Tl' F' N' ts' hm' hc' l1'; (try simp only [List.cons_append, List.nil_append] at N')))))
local macro_rules | `(tactic| walk_at "call type:map") => `(tactic| (k_here; k_dflt (refine' map_K ?F ?N ?m ?c ?d ?_; (case F => k_asm); (case N => k_asm); (case m => k_mem); (case c => exact rfl); (case d => exact rfl); k_whole); intro h' mp' it' F' N' hX' hlt' hL' h0'; (try dsimp only)))
local macro_rules | `(tactic| walk_at "call builtin:any") => `(tactic| (k_here; k_dflt (refine' any_lam1 ?hh ?room ?F ?N ?X ?T ?M ?lt ?L ?h0 ?ho ?hoc ?hc ?hcs ?hcd ?hx ?hdx ?_; (case hh => exact rfl); (case room => (dsimp only [Arnd, Around.deeper] at *; omega)); (case F => k_asm); (case N => k_asm); (case X => k_asm); (case T => k_asm); (case M => assumption); (case lt => assumption); (case L => assumption); (case h0 => assumption); (case ho => k_mem); (case hoc => walk_at "MY memT"); (case hc => assumption); (case hcs => k_mem); (case hcd => assumption); (case hx => k_mem); (case hdx => k_mem); k_whole); intro h' tk' F' N'; (try dsimp only)))
local macro_rules | `(tactic| walk_at "call builtin:all") => `(tactic| (k_here; k_dflt (refine' all_lam2 ?hh ?room ?F ?N ?X ?T ?M ?lt ?L ?h0 ?ho ?hoc ?hc ?hcs ?hcd ?_; (case hh => exact rfl); (case room => (dsimp only [Arnd, Around.deeper] at *; omega)); (case F => k_asm); (case N => k_asm); (case X => k_asm); (case T => k_asm); (case M => assumption); (case lt => assumption); (case L => assumption); (case h0 => assumption); (case ho => k_mem); (case hoc => walk_at "MY memT"); (case hc => assumption); (case hcs => k_mem); (case hcd => assumption); k_whole); intro h' tk' F' N'; (try dsimp only)))
local macro_rules | `(tactic| walk_at "MY sub") => `(tactic| (first | assumption | (refine List.Mem.tail _ ?_; walk_at "MY sub")))
local macro_rules | `(tactic| walk_at "MY fin") => `(tactic| (with_reducible rename Fr h₀ _ _ _ => kF; with_reducible rename News h₀ _ _ _ => kN))
local macro_rules | `(tactic| walk_at "exec Assign") => `(tactic| (k_here; (with_reducible show wpAny _ _ (exec (Stmt.Assign [Expr.Tuple _ _ _] _ _) _) _ _ _); k_dflt (refine' Assign_swap2 ?hl ?_; (case hl => assumption))))
local macro_rules | `(tactic| walk_at "MY off") => `(tactic| ((try dsimp only); simp only [List.forall_mem_cons, List.not_mem_nil, false_implies, implies_true, and_true]; (repeat' (refine And.intro ?_ ?_)); all_goals (first | assumption | (refine neN ?_; (try dsimp only); omega) | (refine neN ?_; (obtain ⟨_, _, _, hAll9⟩ : _ < _ ∧ _ < _ ∧ _ < _ ∧ AllLt _ _ := by assumption); have h9 := ltN (TS.lt (by assumption) hAll9); (try dsimp only); omega))))
local macro_rules | `(tactic| walk_at "MY sub") => `(tactic| (first | assumption | exact List.Mem.head _ | (refine List.Mem.tail _ ?_; walk_at "MY sub")))
local macro_rules | `(tactic| walk_at "MY look") => `(tactic| (first | rfl | assumption | (refine Eq.trans (if_neg (by decide)) ?_; walk_at "MY look")))
local macro_rules | `(tactic| walk_at "eval Name") => `(tactic| (k_here; k_dflt (refine' nameX_L ?F ?v ?_ ?a ?b; (case F => k_asm); (case a => rfl); (case b => rfl); (case v => ((try dsimp only); walk_at "MY look")); k_whole)))
local macro_rules | `(tactic| walk_at "callWith ref") => `(tactic| (k_here; (with_reducible show wpAny _ _ (callWith _ (Value.ref _) _ (backTo _ (starEach [Expr.Starred _ _] _)) []) _ _ _); k_dflt (refine' callWith_SM ?k1 ?k2 ?k3 ?k4 ?_; (case k1 => k_asm); (case k2 => k_asm); (case k3 => k_mem); (case k4 => k_is); k_whole)))
local macro_rules | `(tactic| walk_at "eval Call Attribute") => `(tactic| (k_here; k_dflt (refine' MethodCallL ?hl ?_; (case hl => assumption))))
local macro_rules | `(tactic| walk_at "call ref") => `(tactic| (k_here; (with_reducible show wpAny _ _ (call (Value.ref 177) _) _ _ _); k_dflt (refine wpAny_call ?_; refine' r_cost_s ?B ?F ?X ?T ?hf ?hke ?ts ?N ?S ?hx ?hdx ?off ?offo ?C ?hdp ?hun ?_; (case B => k_asm); (case F => k_asm); (case X => k_asm); (case T => k_asm); (case hf => first | exact rfl | assumption); (case hke => first | exact rfl | assumption); (case ts => first | assumption | exact TS1.ts (by assumption)); (case N => k_asm); (case S => walk_at "MY split"); (case hx => k_mem); (case hdx => k_mem); (case off => walk_at "MY off"); (case offo => first | assumption | exact off_both (by assumption) (MatL.off (by assumption))); (case C => assumption); (case hdp => (dsimp only [Arnd, Around.deeper] at *; omega)); (case hun => (dsimp only [Arnd, Around.deeper] at *; omega)); k_whole); intro h' tk' t' Tl' F' N' ts'; (try simp only [List.cons_append, List.nil_append] at N'); (try dsimp only)))
local macro_rules | `(tactic| walk_at "call ref") => `(tactic| (k_here; (with_reducible show wpAny _ _ (call (Value.ref 184) _) _ _ _); k_dflt (refine wpAny_call ?_; refine' d_cost_s ?B ?F ?X ?T ?hf ?hke ?ts ?N ?S ?hx ?hdx ?off ?offo ?C ?hdp ?hun ?_; (case B => k_asm); (case F => k_asm); (case X => k_asm); (case T => k_asm); (case hf => first | exact rfl | assumption); (case hke => first | exact rfl | assumption); (case ts => first | assumption | exact TS1.ts (by assumption)); (case N => k_asm); (case S => walk_at "MY split"); (case hx => k_mem); (case hdx => k_mem); (case off => walk_at "MY off"); (case offo => first | assumption | exact off_both (by assumption) (MatL.off (by assumption))); (case C => assumption); (case hdp => (dsimp only [Arnd, Around.deeper] at *; omega)); (case hun => (dsimp only [Arnd, Around.deeper] at *; omega)); k_whole); intro h' tk' t' Tl' F' N' ts'; (try simp only [List.cons_append, List.nil_append] at N'); (try dsimp only)))
local macro_rules | `(tactic| walk_at "call ref") => `(tactic| (k_here; (with_reducible show wpAny _ _ (call (Value.ref 218) _) _ _ _); k_dflt (refine wpAny_call ?_; refine' law_pair_c ?B ?F ?X ?N ?T ?hf ?hke ?hm ?hdp ?hun ?ha ?hb ?_; (case B => k_asm); (case F => k_asm); (case X => k_asm); (case T => k_asm); (case hf => first | exact rfl | assumption); (case hke => first | exact rfl | assumption); (case N => k_asm); (case hm => walk_at "MY sub"); (case hdp => (dsimp only [Arnd, Around.deeper] at *; omega)); (case hun => (dsimp only [Arnd, Around.deeper] at *; omega)); (case ha => first | assumption | omega); (case hb => first | assumption | omega); k_whole); intro h' tk' t' F' N'; (try dsimp only)))
local macro_rules | `(tactic| walk_at "call ref") => `(tactic| (k_here; (with_reducible show wpAny _ _ (call (Value.ref 225) _) _ _ _); k_dflt (refine wpAny_call ?_; refine' law_step_c ?B ?F ?X ?N ?T ?hf ?hke ?hm ?hdp ?hun ?ha ?hb ?_; (case B => k_asm); (case F => k_asm); (case X => k_asm); (case T => k_asm); (case hf => first | exact rfl | assumption); (case hke => first | exact rfl | assumption); (case N => k_asm); (case hm => walk_at "MY sub"); (case hdp => (dsimp only [Arnd, Around.deeper] at *; omega)); (case hun => (dsimp only [Arnd, Around.deeper] at *; omega)); (case ha => first | assumption | omega); (case hb => first | assumption | omega); k_whole); intro h' tk' t' F' N'; (try dsimp only)))
section
variable {w : World} {p : Program} {loose : List Str} {mean : ExcName → Option Value} {mg mb : Str → Option Value} {dp un : Nat} {gd : Option (List Code)} {fr : List Env} {A₀ : Around} {base h₀ : Heap} {L fa : Addr} {cd : Value} {m : Str → Option Value} {s : Shared} {Q : Flow → Shared → Prop} {E : Value → Shared → Prop}
variable {l : Addr} {vs : List Value} {ns : List Int} {c0 c1 c2 : Int} {u0 u1 u2 : Tok} {nc : Nat} {cl x dx : Addr} {lo ex : Bool} {k1 k2 k3 k4 k5 k6 v1 v2 v3 v6 : Tok} {n : Nat} {a Tl : List (Addr × Obj)}
variable {q1 q2 q3 q4 q5 q6 q7 q8 q9 q10 q11 q12 q13 q14 q15 q16 q17 q18 q19 q20 q21 q22 q23 q24 q25 q26 q27 q28 q29 q30 q31 q32 q33 q34 q35 q36 q37 q38 q39 q40 q41 q42 q43 q44 q45 q46 q47 q48 q49 q50 q51 q52 : Pos}

theorem small2 {c : Int} (h0 : 0 ≤ c) (h1 : c < 2) : Builtin.Range.small c 26 2 = true ∧ Builtin.Range.rangeSize c 26 2 = ((13 : Nat) : Int) := by
  have : c = 0 ∨ c = 1 := by omega
  rcases this with rfl | rfl <;> exact ⟨by decide +kernel, by decide +kernel⟩
theorem turn_loop (B : Below A₀ base fr h₀) (X : (hd.heap_39 w.params).In h₀) (T : Top p loose mean mg mb h₀) (C : CodeHd h₀ 176 172) (hlq10 : q10.line = q9.line) (hq26 : q26.endLine = q30.line) (hq37 : q37.endLine = q41.line) (F : Fr h₀ L s.heap m) (N : News h₀ L s.heap ((cl, ({ cls := .type "list", data := .seq #[.int c0 u0, .int c1 u1, .int c2 u2] nc } : Obj)) :: (x, instObj 192 dx) :: (dx, dictOf (edD w.params c0 c1 c2 lo ex k1 k2 k3 k4 k5 k6 v1 v2 v3 v6) n) :: (Tl ++ (a ++ [])))) (ts : TS Tl) (hplain : m (Str.ofString "plain") = some (.ref x)) (hcosts : m (Str.ofString "costs") = some (.ref cl)) {tlt ttn : Tok} (hlet : m (Str.ofString "letters") = some (.str lets tlt)) {v : Int} (hturn : m (Str.ofString "turn") = some (.int v ttn)) (offc : cl ≠ 172) (offx : x ≠ 172) (offd : dx ≠ 172) (offa : ∀ p ∈ a, p.1 ≠ 172) (hdp : dp + 100 < recursionLimit) (hun : un + 1024 < cLine) 
  (hQ : ∀ h' tk' m' Tl', TS Tl' → Fr h₀ L h' m' → News h₀ L h' Tl' → Q .next { s with heap := h', toks := tk' }) :
  wpAny (model PySem.Challenge.rw_bs0041_01.row.prog w) (({ handled := none, depth := dp, frames := some fr, guards := gd, units := un } : Around).deeper (lawEnv L fa cd)) (exec (.For (.Name (Str.ofString "k") q1) (.Call (.Name (Str.ofString "range") q2) [(.BinOp (.Name (Str.ofString "turn") q3) .Mod (.Constant (.int 2) 0 q4) q5), (.Constant (.int 26) 0 q6), (.Constant (.int 2) 0 q7)] [] q8) [(.Assign [(.Tuple [(.Name (Str.ofString "first") q9), (.Name (Str.ofString "second") q10)] 0 q11)] (.Tuple [(.Subscript (.Name (Str.ofString "letters") q12) (.Name (Str.ofString "k") q13) q14), (.Subscript (.Name (Str.ofString "letters") q15) (.BinOp (.BinOp (.BinOp (.Name (Str.ofString "turn") q16) .FloorDiv (.Constant (.int 2) 0 q17) q18) .Sub (.Name (Str.ofString "k") q19) q20) .Mod (.Constant (.int 26) 0 q21) q22) q23)] 0 q24) q25), (.If (.BoolOp .Or [(.Compare (.Call (.Attribute (.Name (Str.ofString "plain") q27) (Str.ofString "r_cost") q26) [(.Name (Str.ofString "first") q28), (.Name (Str.ofString "second") q29)] [] q30) [.NotEq] [(.Call (.Name (Str.ofString "_law_pair") q31) [(.Name (Str.ofString "first") q32), (.Name (Str.ofString "second") q33), (.Name (Str.ofString "costs") q34)] [] q35)] q36), (.Compare (.Call (.Attribute (.Name (Str.ofString "plain") q38) (Str.ofString "d_cost") q37) [(.Name (Str.ofString "first") q39), (.Name (Str.ofString "second") q40)] [] q41) [.NotEq] [(.Call (.Name (Str.ofString "_law_step") q42) [(.Name (Str.ofString "first") q43), (.Name (Str.ofString "second") q44), (.Name (Str.ofString "costs") q45)] [] q46)] q47)] q48) [(.Return (some (.Constant (.bool false) 0 q49)) q50)] [] q51)] [] q52) (lawEnv L fa cd)) Q E s := by
  revert X; k_fill; intro X
  refine wpAny_For ?_
  k_steps
  with_reducible rename Fr _ _ _ _ => FL
  with_reducible rename News _ _ _ _ => NL
  with_reducible rename IsRange _ _ _ _ _ _ _ _ => hrg
  have h20 : 0 ≤ v.fmod 2 := Int.fmod_nonneg_of_pos v (by decide)
  have h21 : v.fmod 2 < 2 := Int.fmod_lt_of_pos v (by decide)
  obtain ⟨hsm, hsz⟩ := small2 h20 h21
  refine range_mat2 (L := L) (n := 13) (pre := [(cl, ({ cls := .type "list", data := .seq #[.int c0 u0, .int c1 u1, .int c2 u2] nc } : Obj)), (x, instObj 192 dx), (dx, dictOf (edD w.params c0 c1 c2 lo ex k1 k2 k3 k4 k5 k6 v1 v2 v3 v6) n)]) (a := a) (mat := []) rfl rfl rfl rfl ts FL NL hrg hsm hsz (fun i m₁ _ => ∃ vi vf vse, m₁ = (fun y => if y = Str.ofString "second" then vse else if y = Str.ofString "first" then vf else if y = Str.ofString "k" then vi else m y)) ?h0 ?step ?done
  case h0 => exact ⟨m (Str.ofString "k"), m (Str.ofString "first"), m (Str.ofString "second"), by funext y; (repeat' split) <;> first | rfl | (subst_vars; rfl)⟩
  case done =>
    rintro h' tk m' Tl' mat' ts' F' N' hm' -
    exact hQ h' tk m' Tl' ts' F' fun q hq => N' q (List.mem_append_right _ (List.mem_append_left _ hq))
  case step =>
    rintro i m₁ tv mat₁ Tl₁ h₁ tk₁ its E' hi ⟨vi, vf, vse, rfl⟩ ts₁ hits - hmm F₁ N₁
    have hm0 : mat₁ = [] := by cases mat₁ with | nil => rfl | cons _ _ => cases hmm
    subst hm0
    have hita : ∀ p ∈ (its ++ a) ++ [], p.1 ≠ 172 := off_both (off_both hits offa) (fun _ h => nomatch h)
    clear FL NL hrg
    simp only [List.cons_append, List.nil_append] at N₁
    have hk0 : 0 ≤ v.fmod 2 + (i : Int) * 2 := by omega
    have hk1 : v.fmod 2 + (i : Int) * 2 < 26 := by omega
    have hll : lets.length = 26 := by decide +kernel
    have hs1 : Sign (Txt.item lets (v.fmod 2 + (i : Int) * 2)) := by obtain ⟨c, e, hb⟩ := lets_at hk0 hk1; exact ⟨c, e, .inr hb⟩
    have hs2 : Sign (Txt.item lets ((v.fdiv 2 - (v.fmod 2 + (i : Int) * 2)).fmod 26)) := by obtain ⟨c, e, hb⟩ := lets_item (v.fdiv 2 - (v.fmod 2 + (i : Int) * 2)); exact ⟨c, e, .inr hb⟩
    k_steps
    · exact absurd (rcv_lpv hs1 hs2) ‹_ ≠ _›
    · exact absurd (stv_lsv hs1 hs2) ‹stv _ _ _ _ _ ≠ _›
    · with_reducible rename Fr h₀ _ _ _ => FF
      with_reducible rename News h₀ _ _ _ => NN
      refine .next (by assumption) FF (fun p hp => NN p (.tail _ hp)) rfl ⟨some (.int (v.fmod 2 + (i : Int) * 2) tv), some (.str (Txt.item lets (v.fmod 2 + (i : Int) * 2)) tk₁), some (.str (Txt.item lets ((v.fdiv 2 - (v.fmod 2 + (i : Int) * 2)).fmod 26)) (tk₁ + 1 + 1 + 1 + 1 + 1 + 1)), ?_⟩
      funext y; dsimp only; (repeat' split) <;> first | rfl | contradiction | (subst_vars; contradiction)
end
end Mine
-- Ed12
namespace Mine
local macro_rules | `(tactic| walk_at "MY pad") => `(tactic| skip)
local macro_rules | `(tactic| walk_at "MY pad") => `(tactic| skip)
local macro_rules | `(tactic| walk_at "MY pad") => `(tactic| skip)
local macro_rules | `(tactic| walk_at "MY pad") => `(tactic| skip)
theorem fresh_Ed12 : True := by (w_top off; exact trivial)
local macro_rules | `(tactic| k_room) => `(tactic| ktr_room)
local macro_rules | `(tactic| walk_at "MY rest") => `(tactic| (
  refine' kp_rest ?k1 ?k2 ?k3 ?k4 ?k5 ?kA ?kF ?kK ?k6 ?k7 ?k8 ?kV ?kP ?kG ?kB ?_ ?c2 ?c3 ?c4 ?c5
  (case kA => exact rfl)
  (case kF => first | exact rfl | assumption)
  (case kK => first | exact rfl | assumption)
  (case k1 => k_asm)
  (case k2 => k_asm)
  (case k3 => k_asm)
  (case k4 => k_asm)
  (case k5 => k_asm)
  (case k6 => k_is)
  (case k7 => k_is)
  (case k8 => k_room)
  (case kV => kl_lit)
  (case kP => exact rfl)
  (case kG => exact fun _ => rfl)
  (case kB => exact fun _ => locs rfl)
  (case c5 => decide)
  (case c2 => exact rfl)
  (case c3 => exact rfl)
  (case c4 => exact rfl)
  k_whole
  intro D' g' L' h' l1 FG' F' N' B' X' T'
  (try k_lt l1); (try dsimp only); (try k_lift B'); (try k_fold)))
local macro_rules | `(tactic| walk_at "MY plain") => `(tactic| (
  refine' code_def ?k1 ?k2 ?k3 ?k4 ?k5 ?kA ?kF ?kK ?k6 ?k7 ?k8 ?k9 ?kB ?_ ?c2 ?c3 ?c4 ?c5
  (case kA => exact rfl)
  (case kF => first | exact rfl | assumption)
  (case kK => first | exact rfl | assumption)
  (case k1 => k_asm)
  (case k2 => k_asm)
  (case k3 => k_asm)
  (case k4 => k_asm)
  (case k5 => k_asm)
  (case k6 => k_is)
  (case k7 => k_is)
  (case k8 => k_room)
  (case k9 => first | exact BindsTo.of_eq rfl | exact binds_K (by k_in) rfl (by k_is) rfl rfl rfl)
  (case c5 => decide)
  (case kB => exact locs rfl)
  (case c2 => exact rfl)
  (case c3 => exact rfl)
  (case c4 => exact rfl)
  k_whole
  intro g' L' h' FG' F' N' B' X' T'
  (try dsimp only); (try k_lift B'); (try k_fold)))
local macro_rules | `(tactic| walk_at "MY plainC") => `(tactic| (refine' code_defC ?k1 ?k2 ?k3 ?k4 ?k5 ?kA ?kF ?kK ?k6 ?k7 ?k8 ?k9 ?kB ?kD ?_ ?c2 ?c3 ?c4; (case kA => exact rfl); (case kF => first | exact rfl | assumption); (case kK => first | exact rfl | assumption); (case k1 => k_asm); (case k2 => k_asm); (case k3 => k_asm); (case k4 => k_asm); (case k5 => k_asm); (case k6 => k_is); (case k7 => k_is); (case k8 => k_room); (case k9 => first | exact BindsTo.of_eq rfl | exact binds_K (by k_in) rfl (by k_is) rfl rfl rfl); (case kB => exact rfl); (case kD => decide +kernel); (case c2 => exact rfl); (case c3 => exact rfl); (case c4 => exact rfl); k_whole; intro g' L' h' tk' cells' FG' F' N' Y' B' X' T' l1; (try k_lt l1); k_cells Y'; (try simp only [List.cons_append, List.nil_append] at N'); (try dsimp only); (try k_lift B'); (try k_fold)))
local macro_rules | `(tactic| walk_at "getAttr ref") => `(tactic| (k_here; (with_reducible show wpAny _ _ (getAttr (Value.ref _) (PySem.Str.ofString "_ident") _) _ _ _); k_dflt (refine' get_sm ?k1 ?k2 ?k3 ?k4 ?k5 ?k6 ?k7 ?k8 ?k9 ?k10 ?k11 ?k12 ?_; (case k3 => k_inst); (case k1 => k_asm); (case k2 => k_asm); (case k6 => k_is); (case k4 => k_is); (case k5 => k_is); (case k7 => k_is); (case k8 => k_is); (case k9 => decide +kernel); (case k10 => k_get); (case k11 => k_is); (case k12 => k_handed); k_whole)))
local macro_rules | `(tactic| walk_at "eval Call Attribute") => `(tactic| (k_here; (with_reducible show wpAny _ _ (eval (Expr.Call (Expr.Attribute (Expr.Name _ _) _ _) [Expr.Starred _ _] [] _) _) _ _ _); refine starMethod ?_))
local macro_rules | `(tactic| walk_at "MY restC") => `(tactic| (
  refine' kpc_rest ?k1 ?k2 ?k3 ?k4 ?k5 ?kA ?kF ?kK ?k6 ?k7 ?k8 ?kV ?kP ?kG ?kB ?kD ?_ ?c2 ?c3 ?c4
  (case kA => exact rfl)
  (case kF => first | exact rfl | assumption)
  (case kK => first | exact rfl | assumption)
  (case k1 => k_asm)
  (case k2 => k_asm)
  (case k3 => k_asm)
  (case k4 => k_asm)
  (case k5 => k_asm)
  (case k6 => k_is)
  (case k7 => k_is)
  (case k8 => k_room)
  (case kV => kl_lit)
  (case kP => exact rfl)
  (case kG => exact fun _ => rfl)
  (case kB => exact fun _ => rfl)
  (case kD => decide +kernel)
  (case c2 => exact rfl)
  (case c3 => exact rfl)
  (case c4 => exact rfl)
  k_whole
  intro D' g' L' h' tk' cells' l1 l2 FG' F' N' Y' B' X' T'
  (try k_lt l1); (try k_lt2 l2); k_cells Y'; (try simp only [List.cons_append, List.nil_append] at N'); (try dsimp only); (try k_lift B'); (try k_fold)))
local macro_rules | `(tactic| walk_at "call ref") => `(tactic| (k_here; (with_reducible show wpAny _ _ (call (Value.ref 95) _) _ _ _); k_dflt (refine wpAny_call ?_; refine' ident_c ?k1 ?k2 ?k3 ?k4 ?k5 ?k6 ?k7 ?k8 ?k9 ?_; (case k1 => k_asm); (case k2 => k_asm); (case k3 => k_asm); (case k4 => k_asm); (case k5 => k_asm); (case k6 => first | exact rfl | assumption); (case k7 => first | exact rfl | assumption); (case k8 => (dsimp only [Arnd, Around.deeper] at *; omega)); (case k9 => (dsimp only [Arnd, Around.deeper] at *; omega)); k_whole); intro h' tk' F' N'; (try dsimp only); (try k_sweep)))
local macro_rules | `(tactic| walk_at "MY memT") => `(tactic| (first | (refine List.mem_append_left _ ?_; assumption) | (refine List.Mem.tail _ ?_; walk_at "MY memT")))
local macro_rules | `(tactic| walk_at "MY split") => `(tactic| (first | exact Split.base | (refine' Split.cons ?sp; (case sp => walk_at "MY split"))))
local macro_rules | `(tactic| walk_at "MY off") => `(tactic| ((try dsimp only); simp only [List.forall_mem_cons, List.not_mem_nil, false_implies, implies_true, and_true]; (repeat' (refine And.intro ?_ ?_)); all_goals (first | assumption | (refine neN ?_; (try dsimp only); omega))))
local macro_rules | `(tactic| walk_at "eval Lambda") => `(tactic| (k_here; k_dflt (refine' kla_eval ?d0 ?_; (case d0 => exact rfl)); (first
  | (k_dflt (refine' lam_S1 ?ts ?F ?N ?hg ?T ?C ?off ?offo ?hq ?e1 ?e2 ?hcl ?_; (case ts => assumption); (case F => k_asm); (case N => k_asm); (case hg => walk_at "MY split"); (case T => k_asm); (case C => assumption); (case off => walk_at "MY off"); (case offo => assumption); (case hq => first | rfl | with_unfolding_all rfl); (case e1 => rfl); (case e2 => rfl); (case hcl => exact rfl); k_whole); intro f' c' oc' ct' h' tk' Tl' F' N' ts' hm' hc' l1'; (try simp only [List.cons_append, List.nil_append] at N'))
  | (k_dflt (refine' lam_S2 ?ts ?F ?N ?hg ?T ?C ?off ?offo ?hq ?e1 ?e2 ?hcl ?_; (case ts => assumption); (case F => k_asm); (case N => k_asm); (case hg => walk_at "MY split"); (case T => k_asm); (case C => assumption); (case off => walk_at "MY off"); (case offo => assumption); (case hq => first | rfl | with_unfolding_all rfl); (case e1 => rfl); (case e2 => rfl); (case hcl => exact rfl); k_whole); intro f' c' oc' ct' h' tk' Tl' F' N' ts' hm' hc' l1'; (try simp only [List.cons_append, List.nil_append] at N')))))
local macro_rules | `(tactic| walk_at "call type:map") => `(tactic| (k_here; k_dflt (refine' map_K ?F ?N ?m ?c ?d ?_; (case F => k_asm); (case N => k_asm); (case m => k_mem); (case c => exact rfl); (case d => exact rfl); k_whole); intro h' mp' it' F' N' hX' hlt' hL' h0'; (try dsimp only)))
local macro_rules | `(tactic| walk_at "call builtin:any") => `(tactic| (k_here; k_dflt (refine' any_lam1 ?hh ?room ?F ?N ?X ?T ?M ?lt ?L ?h0 ?ho ?hoc ?hc ?hcs ?hcd ?hx ?hdx ?_; (case hh => exact rfl); (case room => (dsimp only [Arnd, Around.deeper] at *; omega)); (case F => k_asm); (case N => k_asm); (case X => k_asm); (case T => k_asm); (case M => assumption); (case lt => assumption); (case L => assumption); (case h0 => assumption); (case ho => k_mem); (case hoc => walk_at "MY memT"); (case hc => assumption); (case hcs => k_mem); (case hcd => assumption); (case hx => k_mem); (case hdx => k_mem); k_whole); intro h' tk' F' N'; (try dsimp only)))
local macro_rules | `(tactic| walk_at "call builtin:all") => `(tactic| (k_here; k_dflt (refine' all_lam2 ?hh ?room ?F ?N ?X ?T ?M ?lt ?L ?h0 ?ho ?hoc ?hc ?hcs ?hcd ?_; (case hh => exact rfl); (case room => (dsimp only [Arnd, Around.deeper] at *; omega)); (case F => k_asm); (case N => k_asm); (case X => k_asm); (case T => k_asm); (case M => assumption); (case lt => assumption); (case L => assumption); (case h0 => assumption); (case ho => k_mem); (case hoc => walk_at "MY memT"); (case hc => assumption); (case hcs => k_mem); (case hcd => assumption); k_whole); intro h' tk' F' N'; (try dsimp only)))
local macro_rules | `(tactic| walk_at "MY sub") => `(tactic| (first | assumption | (refine List.Mem.tail _ ?_; walk_at "MY sub")))
local macro_rules | `(tactic| walk_at "MY fin") => `(tactic| (with_reducible rename Fr h₀ _ _ _ => kF; with_reducible rename News h₀ _ _ _ => kN))
local macro_rules | `(tactic| walk_at "exec Assign") => `(tactic| (k_here; (with_reducible show wpAny _ _ (exec (Stmt.Assign [Expr.Tuple _ _ _] _ _) _) _ _ _); k_dflt (refine' Assign_swap2 ?hl ?_; (case hl => assumption))))
local macro_rules | `(tactic| walk_at "MY off") => `(tactic| ((try dsimp only); simp only [List.forall_mem_cons, List.not_mem_nil, false_implies, implies_true, and_true]; (repeat' (refine And.intro ?_ ?_)); all_goals (first | assumption | (refine neN ?_; (try dsimp only); omega) | (refine neN ?_; (obtain ⟨_, _, _, hAll9⟩ : _ < _ ∧ _ < _ ∧ _ < _ ∧ AllLt _ _ := by assumption); have h9 := ltN (TS.lt (by assumption) hAll9); (try dsimp only); omega))))
local macro_rules | `(tactic| walk_at "MY sub") => `(tactic| (first | assumption | exact List.Mem.head _ | (refine List.Mem.tail _ ?_; walk_at "MY sub")))
local macro_rules | `(tactic| walk_at "MY look") => `(tactic| (first | rfl | assumption | (refine Eq.trans (if_neg (by decide)) ?_; walk_at "MY look")))
local macro_rules | `(tactic| walk_at "eval Name") => `(tactic| (k_here; k_dflt (refine' nameX_L ?F ?v ?_ ?a ?b; (case F => k_asm); (case a => rfl); (case b => rfl); (case v => ((try dsimp only); walk_at "MY look")); k_whole)))
local macro_rules | `(tactic| walk_at "callWith ref") => `(tactic| (k_here; (with_reducible show wpAny _ _ (callWith _ (Value.ref _) _ (backTo _ (starEach [Expr.Starred _ _] _)) []) _ _ _); k_dflt (refine' callWith_SM ?k1 ?k2 ?k3 ?k4 ?_; (case k1 => k_asm); (case k2 => k_asm); (case k3 => k_mem); (case k4 => k_is); k_whole)))
local macro_rules | `(tactic| walk_at "eval Call Attribute") => `(tactic| (k_here; k_dflt (refine' MethodCallL ?hl ?_; (case hl => assumption))))
local macro_rules | `(tactic| walk_at "subscriptTail") => `(tactic| (k_here; (with_reducible show wpAny _ _ (subscriptTail _ _ (Value.ref _) (Value.int _ _)) _ _ _); k_dflt (first | ((with_reducible show wpAny _ _ (subscriptTail _ _ (Value.ref _) (Value.int 0 _)) _ _ _); refine' item_c0 ?N ?m ?_; (case N => k_asm); (case m => walk_at "MY sub"); k_whole) | ((with_reducible show wpAny _ _ (subscriptTail _ _ (Value.ref _) (Value.int 1 _)) _ _ _); refine' item_c1 ?N ?m ?_; (case N => k_asm); (case m => walk_at "MY sub"); k_whole) | ((with_reducible show wpAny _ _ (subscriptTail _ _ (Value.ref _) (Value.int 2 _)) _ _ _); refine' item_c2 ?N ?m ?_; (case N => k_asm); (case m => walk_at "MY sub"); k_whole)); (try dsimp only)))
section
variable {w : World} {p : Program} {loose : List Str} {mean : ExcName → Option Value} {mg mb : Str → Option Value} {dp un : Nat} {gd : Option (List Code)} {fr : List Env} {A₀ : Around} {base h₀ : Heap} {L fa : Addr} {cd : Value} {m : Str → Option Value} {s : Shared} {Q : Flow → Shared → Prop} {E : Value → Shared → Prop}
variable {l : Addr} {vs : List Value} {ns : List Int} {c0 c1 c2 : Int} {u0 u1 u2 : Tok} {nc : Nat} {cl x dx : Addr} {lo ex : Bool} {k1 k2 k3 k4 k5 k6 v1 v2 v3 v6 : Tok} {n : Nat} {a Tl : List (Addr × Obj)}
variable {W1 W2 : Str} {t1 t2 : Tok} {led : List (Addr × Obj)} 
theorem mat_rowNeg {prog : Program} {A : Around} {E : Value → Shared → Prop} {Q : Value → Shared → Prop} {lw M : Addr} {rs : List Addr} {own : List (Addr × Obj)} {N1 N2 : Nat} {V : Nat → Nat → Int} {u : Tok} {value slice : Expr} (N : News h₀ L s.heap led) (H : MatL lw M rs own N1 N2 V) (hsub : ∀ q ∈ own, q ∈ led) (h0 : 0 < N1) (hN : N1 ≤ 64) (h : Q (.ref (rs.getD (N1 - 1) 0)) s)
    (hs : subscripted slice false (.ref M) (.int (-1) u) = operate [.ref M, .int (-1) u] (getItem (.ref M) (.int (-1) u)) := by with_unfolding_all rfl) (hg : ∀ r, letTemporaryGo value (.ref M) r = pure () := by intro _; with_unfolding_all rfl) :
    wpAny (model prog w) A (subscriptTail value slice (.ref M) (.int (-1) u)) Q E s := by
  obtain ⟨o, hm, hc, n, hd⟩ := H.outer
  have hl : s.heap.IsList M (rs.map Value.ref).toArray := ⟨o, (N _ (hsub _ hm)).1, hc, n, hd⟩
  have hz : (rs.map Value.ref).toArray.size = N1 := by simp [H.len]
  refine subscriptTail_builtin hl.typeIs slot_list_getitem.lookup (wpAny_getItem_list_neg hl (by decide) (by rw [hz]; omega) (by decide) ?_ h) hs hg
  rw [hz, show ((-1 : Int) + (N1 : Int)).toNat = N1 - 1 by omega, List.getElem?_toArray, List.getElem?_map, H.at (by omega)]; rfl
theorem mat_cellNeg {prog : Program} {A : Around} {E : Value → Shared → Prop} {Q : Value → Shared → Prop} {lw M : Addr} {rs : List Addr} {own : List (Addr × Obj)} {N1 N2 : Nat} {V : Nat → Nat → Int} {u : Tok} {i : Nat} {value slice : Expr} (N : News h₀ L s.heap led) (H : MatL lw M rs own N1 N2 V) (hsub : ∀ q ∈ own, q ∈ led) (hi : i < N1) (h0 : 0 < N2) (hN : N2 ≤ 64) (h : ∀ t, Q (.int (V i (N2 - 1)) t) s)
    (hs : subscripted slice false (.ref (rs.getD i 0)) (.int (-1) u) = operate [.ref (rs.getD i 0), .int (-1) u] (getItem (.ref (rs.getD i 0)) (.int (-1) u)) := by with_unfolding_all rfl) (hg : ∀ r, letTemporaryGo value (.ref (rs.getD i 0)) r = pure () := by intro _; with_unfolding_all rfl) :
    wpAny (model prog w) A (subscriptTail value slice (.ref (rs.getD i 0)) (.int (-1) u)) Q E s := by
  obtain ⟨o, hm, hc, vs, n, hd, hz, hv⟩ := H.rows i _ (H.at hi)
  have hl : s.heap.IsList (rs.getD i 0) vs.toArray := ⟨o, (N _ (hsub _ hm)).1, hc, n, hd⟩
  have hz2 : vs.toArray.size = N2 := by simpa using hz
  obtain ⟨t, ht⟩ := hv (N2 - 1) (by omega)
  refine subscriptTail_builtin hl.typeIs slot_list_getitem.lookup (wpAny_getItem_list_neg hl (by decide) (by rw [hz2]; omega) (by decide) ?_ (h t)) hs hg
  rw [hz2, show ((-1 : Int) + (N2 : Int)).toNat = N2 - 1 by omega, List.getElem?_toArray]; exact ht
theorem most_stmt {q1 q2 q3 q4 q5 q6 q7 q8 q9 q10 q11 q12 q13 q14 : Pos} (B : Below A₀ base fr h₀) (X : (hd.heap_39 w.params).In h₀) (T : Top p loose mean mg mb h₀) (C : CodeHd h₀ 176 172)  (F : Fr h₀ L s.heap m) (N : News h₀ L s.heap led) (hm : (cl, ({ cls := .type "list", data := .seq #[.int c0 u0, .int c1 u1, .int c2 u2] nc } : Obj)) ∈ led) (hone : m (Str.ofString "one") = some (.str W1 t1)) (hother : m (Str.ofString "other") = some (.str W2 t2)) (hcosts : m (Str.ofString "costs") = some (.ref cl)) (ha : W1.length ≤ 8) (hb : W2.length ≤ 8) (hc2 : 0 ≤ c2 ∧ c2 ≤ 8)
  (hQ : ∀ h' tk' tm, Fr h₀ L h' (fun y => if y = Str.ofString "most" then some (.int ((max W1.length W2.length : Nat) * c2) tm) else m y) → News h₀ L h' led → Q .next { s with heap := h', toks := tk' }) :
  wpAny (model PySem.Challenge.rw_bs0041_01.row.prog w) (({ handled := none, depth := dp, frames := some fr, guards := gd, units := un } : Around).deeper (lawEnv L fa cd)) (exec (.Assign [(.Name (Str.ofString "most") q1)] (.BinOp (.Call (.Name (Str.ofString "max") q2) [(.Call (.Name (Str.ofString "len") q3) [(.Name (Str.ofString "one") q4)] [] q5), (.Call (.Name (Str.ofString "len") q6) [(.Name (Str.ofString "other") q7)] [] q8)] [] q9) .Mult (.Subscript (.Name (Str.ofString "costs") q10) (.Constant (.int 2) 0 q11) q12) q13) q14) (lawEnv L fa cd)) Q E s := by
  revert X; k_fill; intro X
  k_steps
  with_reducible rename Fr _ _ _ _ => kF
  with_reducible rename News _ _ _ _ => kN
  have e : ((max W1.length W2.length : Nat) : Int) = if (W2.length : Int) > W1.length then (W2.length : Int) else W1.length := by split <;> omega
  rw [e] at hQ
  exact hQ _ _ _ kF kN
local macro_rules | `(tactic| walk_at "subscriptTail") => `(tactic| (k_here; (with_reducible show wpAny _ _ (subscriptTail _ _ (Value.ref _) (Value.int (-1) _)) _ _ _); k_dflt (refine' mat_rowNeg ?N ?H ?sub ?h0 ?hN ?_; (case H => assumption); (case N => k_asm); (case sub => assumption); (case h0 => omega); (case hN => omega); k_whole); (try dsimp only)))
local macro_rules | `(tactic| walk_at "subscriptTail") => `(tactic| (k_here; (with_reducible show wpAny _ _ (subscriptTail _ _ (Value.ref (List.getD _ _ _)) (Value.int (-1) _)) _ _ _); k_dflt (refine' mat_cellNeg ?N ?H ?sub ?hi ?h0 ?hN ?_; (case H => assumption); (case N => k_asm); (case sub => assumption); (case hi => omega); (case h0 => omega); (case hN => omega); k_whole); intro t'; (try dsimp only)))

theorem due_stmt {q1 q2 q3 q4 q5 q6 q7 q8 q9 q10 q11 q12 q13 q14 q15 q16 q17 q18 q19 q20 q21 q22 q23 : Pos} {lw M : Addr} {rs : List Addr} {mat : List (Addr × Obj)} {n1 n2 : Nat} {V : Nat → Nat → Int} {mv dv : Int} {tv : Tok} (B : Below A₀ base fr h₀) (X : (hd.heap_39 w.params).In h₀) (T : Top p loose mean mg mb h₀) (C : CodeHd h₀ 176 172)  (F : Fr h₀ L s.heap m) (N : News h₀ L s.heap led) (H : MatL lw M rs mat (n1 + 1) (n2 + 1) V) (hsub : ∀ q ∈ mat, q ∈ led) (hn1 : n1 ≤ 8) (hn2 : n2 ≤ 8) (hone : m (Str.ofString "one") = some (.str W1 t1)) (hother : m (Str.ofString "other") = some (.str W2 t2)) (hrows : m (Str.ofString "rows") = some (.ref M)) (hmost : m (Str.ofString "most") = some (.int mv tv))
  (h1 : W1 = W2 → dv = 0) (h2 : W1 ≠ W2 → (W1 = Str.ofString "" ∨ W2 = Str.ofString "") → dv = mv) (h3 : W1 ≠ W2 → W1 ≠ Str.ofString "" → W2 ≠ Str.ofString "" → dv = V n1 n2)
  (hQ : ∀ h' tk' tm, Fr h₀ L h' (fun y => if y = Str.ofString "due" then some (.int dv tm) else m y) → News h₀ L h' led → Q .next { s with heap := h', toks := tk' }) :
  wpAny (model PySem.Challenge.rw_bs0041_01.row.prog w) (({ handled := none, depth := dp, frames := some fr, guards := gd, units := un } : Around).deeper (lawEnv L fa cd)) (exec (.Assign [(.Name (Str.ofString "due") q1)] (.IfExp (.Compare (.Name (Str.ofString "one") q2) [.Eq] [(.Name (Str.ofString "other") q3)] q4) (.Constant (.int 0) 0 q5) (.IfExp (.BoolOp .Or [(.Compare (.Name (Str.ofString "one") q6) [.Eq] [(.Constant (.str (Str.ofString "")) 0 q7)] q8), (.Compare (.Name (Str.ofString "other") q9) [.Eq] [(.Constant (.str (Str.ofString "")) 0 q10)] q11)] q12) (.Name (Str.ofString "most") q13) (.Subscript (.Subscript (.Name (Str.ofString "rows") q14) (.UnaryOp .USub (.Constant (.int 1) 0 q15) q16) q17) (.UnaryOp .USub (.Constant (.int 1) 0 q18) q19) q20) q21) q22) q23) (lawEnv L fa cd)) Q E s := by
  revert X; k_fill; intro X
  k_steps
  · have e := h1 (eq_of_beq ‹(W1 == W2) = true›)
    with_reducible rename Fr _ _ _ _ => kF
    with_reducible rename News _ _ _ _ => kN
    rw [e] at hQ
    exact hQ _ _ _ kF kN
  · have hne : W1 ≠ W2 := by have q : (W1 == W2) = false := by assumption
                             simpa using q
    have e := h2 hne (.inl (eq_of_beq ‹(W1 == _) = true›))
    with_reducible rename Fr _ _ _ _ => kF
    with_reducible rename News _ _ _ _ => kN
    rw [e] at hQ
    exact hQ _ _ _ kF kN
  · have hne : W1 ≠ W2 := by have q : (W1 == W2) = false := by assumption
                             simpa using q
    have e := h2 hne (.inr (eq_of_beq ‹(W2 == _) = true›))
    with_reducible rename Fr _ _ _ _ => kF
    with_reducible rename News _ _ _ _ => kN
    rw [e] at hQ
    exact hQ _ _ _ kF kN
  · have hne : W1 ≠ W2 := by have q : (W1 == W2) = false := by assumption
                             simpa using q
    have q1 : (W1 == Str.ofString "") = false := by assumption
    have q2 : (W2 == Str.ofString "") = false := by assumption
    have e := h3 hne (fun z => by rw [z, beq_self_eq_true] at q1; exact Bool.noConfusion q1) (fun z => by rw [z, beq_self_eq_true] at q2; exact Bool.noConfusion q2)
    with_reducible rename Fr _ _ _ _ => kF
    with_reducible rename News _ _ _ _ => kN
    rw [e] at hQ
    exact hQ _ _ _ kF kN
local macro_rules | `(tactic| walk_at "call ref") => `(tactic| (k_here; (with_reducible show wpAny _ _ (call (Value.ref 60) _) _ _ _); k_dflt (refine wpAny_call ?_; refine' distance_s ?B ?F ?X ?T ?hf ?hke ?ts ?N ?S ?hx ?hdx ?off ?offo ?C ?hdp ?hun ?hc2 ?ha ?hb ?hua ?hub ?haa ?hab ?_; (case B => k_asm); (case F => k_asm); (case X => k_asm); (case T => k_asm); (case hf => first | exact rfl | assumption); (case hke => first | exact rfl | assumption); (case ts => first | assumption | exact TS1.ts (by assumption)); (case N => k_asm); (case S => walk_at "MY split"); (case hx => k_mem); (case hdx => k_mem); (case off => walk_at "MY off"); (case offo => first | assumption | exact off_both (by assumption) (MatL.off (by assumption))); (case C => assumption); (case hdp => (dsimp only [Arnd, Around.deeper] at *; omega)); (case hun => (dsimp only [Arnd, Around.deeper] at *; omega)); (case hc2 => assumption); (case ha => assumption); (case hb => assumption); (case hua => assumption); (case hub => assumption); (case haa => assumption); (case hab => assumption); k_whole); intro h' tk' t' Tl' F' N' ts'; (try simp only [List.cons_append, List.nil_append] at N'); (try dsimp only)))
local macro_rules | `(tactic| walk_at "call ref") => `(tactic| (k_here; (with_reducible show wpAny _ _ (call (Value.ref 67) _) _ _ _); k_dflt (refine wpAny_call ?_; refine' similarity_s ?B ?F ?X ?T ?hf ?hke ?ts ?N ?S ?hx ?hdx ?off ?offo ?C ?hdp ?hun ?hc2 ?ha ?hb ?hua ?hub ?haa ?hab ?_; (case B => k_asm); (case F => k_asm); (case X => k_asm); (case T => k_asm); (case hf => first | exact rfl | assumption); (case hke => first | exact rfl | assumption); (case ts => first | assumption | exact TS1.ts (by assumption)); (case N => k_asm); (case S => walk_at "MY split"); (case hx => k_mem); (case hdx => k_mem); (case off => walk_at "MY off"); (case offo => first | assumption | exact off_both (by assumption) (MatL.off (by assumption))); (case C => assumption); (case hdp => (dsimp only [Arnd, Around.deeper] at *; omega)); (case hun => (dsimp only [Arnd, Around.deeper] at *; omega)); (case hc2 => assumption); (case ha => assumption); (case hb => assumption); (case hua => assumption); (case hub => assumption); (case haa => assumption); (case hab => assumption); k_whole); intro h' tk' t' Tl' F' N' ts'; (try simp only [List.cons_append, List.nil_append] at N'); (try dsimp only)))

theorem ask_stmt {q1 q2 q3 q4 q5 q6 q7 q8 q9 q10 q11 q12 q13 q14 q15 q16 q17 q18 q19 q20 q21 q22 q23 q24 q25 q26 q27 q28 q29 q30 q31 q32 q33 : Pos} {mv dv : Int} {tm tv : Tok} (B : Below A₀ base fr h₀) (X : (hd.heap_39 w.params).In h₀) (T : Top p loose mean mg mb h₀) (C : CodeHd h₀ 176 172) (hq1 : q1.endLine = q5.line) (hq8 : q8.endLine = q12.line) (hq22 : q22.endLine = q24.line) (hq20 : q20.endLine = q26.line) (F : Fr h₀ L s.heap m) (N : News h₀ L s.heap ((cl, ({ cls := .type "list", data := .seq #[.int c0 u0, .int c1 u1, .int c2 u2] nc } : Obj)) :: (x, instObj 192 dx) :: (dx, dictOf (edD w.params c0 c1 c2 lo ex k1 k2 k3 k4 k5 k6 v1 v2 v3 v6) n) :: (Tl ++ a))) (ts : TS Tl) (hplain : m (Str.ofString "plain") = some (.ref x)) (hone : m (Str.ofString "one") = some (.str W1 t1)) (hother : m (Str.ofString "other") = some (.str W2 t2)) (hmost : m (Str.ofString "most") = some (.int mv tm)) (hdue : m (Str.ofString "due") = some (.int dv tv)) (offc : cl ≠ 172) (offx : x ≠ 172) (offd : dx ≠ 172) (offa : ∀ p ∈ a, p.1 ≠ 172) (hdp : dp + 100 < recursionLimit) (hun : un + 1024 < cLine) 
  (hc2 : 0 ≤ c2 ∧ c2 ≤ 8) (ha : W1.length ≤ 3) (hb : W2.length ≤ 3) (hua : (Txt.upper W1).length = W1.length) (hub : (Txt.upper W2).length = W2.length) (haa : (Txt.upper W1).cps.all (· < 128) = true) (hab : (Txt.upper W2).cps.all (· < 128) = true)
  (hla : (Txt.lower W1).length ≤ 3) (hlu : (Txt.upper (Txt.lower W1)).length = (Txt.lower W1).length) (hll : (Txt.upper (Txt.lower W1)).cps.all (· < 128) = true)
  (e1 : callV c0 c1 c2 lo W1 W2 = dv) (e2 : ((max W1.length W2.length : Nat) : Int) * c2 = mv) (e3 : W1 ≠ W2 → callV c0 c1 c2 lo (Txt.lower W1) W2 = dv)
  (hQ : ∀ h' tk' Tl', TS Tl' → Fr h₀ L h' m → News h₀ L h' ((cl, ({ cls := .type "list", data := .seq #[.int c0 u0, .int c1 u1, .int c2 u2] nc } : Obj)) :: (x, instObj 192 dx) :: (dx, dictOf (edD w.params c0 c1 c2 lo ex k1 k2 k3 k4 k5 k6 v1 v2 v3 v6) n) :: (Tl' ++ a)) → Q .next { s with heap := h', toks := tk' }) :
  wpAny (model PySem.Challenge.rw_bs0041_01.row.prog w) (({ handled := none, depth := dp, frames := some fr, guards := gd, units := un } : Around).deeper (lawEnv L fa cd)) (exec (.If (.BoolOp .Or [(.Compare (.Call (.Attribute (.Name (Str.ofString "plain") q2) (Str.ofString "distance") q1) [(.Name (Str.ofString "one") q3), (.Name (Str.ofString "other") q4)] [] q5) [.NotEq] [(.Name (Str.ofString "due") q6)] q7), (.Compare (.Call (.Attribute (.Name (Str.ofString "plain") q9) (Str.ofString "similarity") q8) [(.Name (Str.ofString "one") q10), (.Name (Str.ofString "other") q11)] [] q12) [.NotEq] [(.BinOp (.Name (Str.ofString "most") q13) .Sub (.Name (Str.ofString "due") q14) q15)] q16), (.BoolOp .And [(.Compare (.Name (Str.ofString "one") q17) [.NotEq] [(.Name (Str.ofString "other") q18)] q19), (.Compare (.Call (.Attribute (.Name (Str.ofString "plain") q21) (Str.ofString "distance") q20) [(.Call (.Attribute (.Name (Str.ofString "one") q23) (Str.ofString "lower") q22) [] [] q24), (.Name (Str.ofString "other") q25)] [] q26) [.NotEq] [(.Name (Str.ofString "due") q27)] q28)] q29)] q30) [(.Return (some (.Constant (.bool false) 0 q31)) q32)] [] q33) (lawEnv L fa cd)) Q E s := by
  revert X; k_fill; intro X
  k_steps
  · exact absurd e1 (by assumption)
  · exfalso
    have q : ((max W1.length W2.length : Nat) : Int) * c2 - callV c0 c1 c2 lo W1 W2 ≠ mv - dv := by assumption
    rw [e1, e2] at q
    exact q rfl
  · have q : (W1 != W2) = true := by assumption
    exact absurd (e3 (by simpa using q)) (by assumption)
  · skip
    with_reducible rename Fr _ _ _ _ => kF
    with_reducible rename News _ _ _ _ => kN
    exact hQ _ _ _ (by assumption) kF kN
  · skip
    with_reducible rename Fr _ _ _ _ => kF
    with_reducible rename News _ _ _ _ => kN
    exact hQ _ _ _ (by assumption) kF kN
end
end Mine
-- Ed13
namespace Mine
local macro_rules | `(tactic| walk_at "MY pad") => `(tactic| skip)
local macro_rules | `(tactic| walk_at "MY pad") => `(tactic| skip)
local macro_rules | `(tactic| walk_at "MY pad") => `(tactic| skip)
local macro_rules | `(tactic| walk_at "MY pad") => `(tactic| skip)
local macro_rules | `(tactic| walk_at "MY pad") => `(tactic| skip)
theorem fresh_Ed13 : True := by (w_top off; exact trivial)
section
variable {w : World} {p : Program} {loose : List Str} {mean : ExcName → Option Value} {mg mb : Str → Option Value} {dp un : Nat} {gd : Option (List Code)} {fr : List Env} {A₀ : Around} {base h₀ : Heap} {L fa : Addr} {cd : Value} {m : Str → Option Value} {s : Shared} {Q : Flow → Shared → Prop} {E : Value → Shared → Prop}
variable {l : Addr} {vs : List Value} {ns : List Int} {c0 c1 c2 : Int} {u0 u1 u2 : Tok} {nc : Nat} {cl x dx : Addr} {lo ex : Bool} {k1 k2 k3 k4 k5 k6 v1 v2 v3 v6 : Tok} {n : Nat} {a Tl : List (Addr × Obj)}
variable {oc : Obj} {lw M : Addr} {rs : List Addr} {mat : List (Addr × Obj)} {n1 n2 : Nat} {V : Nat → Nat → Int} {U1 U2 : Str} {tu1 tu2 tl : Tok} 
def lfst (c0 c1 c2 : Int) (U : Str) (i : Nat) : Int := lsv c0 c1 c2 (Txt.item U ((i : Int) - 1)) (Txt.item U (i : Int))
def lgst (c0 c1 c2 : Int) (U1 U2 : Str) (i j : Nat) : Int := lpv c0 c1 c2 (Txt.item U1 (i : Int)) (Txt.item U2 (j : Int))
theorem no_own : ∀ p ∈ ([] : List (Addr × Obj)), ∀ r ∈ rs, p.1 ≠ r := fun _ h => nomatch h
local macro_rules | `(tactic| k_room) => `(tactic| ktr_room)
local macro_rules | `(tactic| walk_at "MY rest") => `(tactic| (
  refine' kp_rest ?k1 ?k2 ?k3 ?k4 ?k5 ?kA ?kF ?kK ?k6 ?k7 ?k8 ?kV ?kP ?kG ?kB ?_ ?c2 ?c3 ?c4 ?c5
  (case kA => exact rfl)
  (case kF => first | exact rfl | assumption)
  (case kK => first | exact rfl | assumption)
  (case k1 => k_asm)
  (case k2 => k_asm)
  (case k3 => k_asm)
  (case k4 => k_asm)
  (case k5 => k_asm)
  (case k6 => k_is)
  (case k7 => k_is)
  (case k8 => k_room)
  (case kV => kl_lit)
  (case kP => exact rfl)
  (case kG => exact fun _ => rfl)
  (case kB => exact fun _ => locs rfl)
  (case c5 => decide)
  (case c2 => exact rfl)
  (case c3 => exact rfl)
  (case c4 => exact rfl)
  k_whole
  intro D' g' L' h' l1 FG' F' N' B' X' T'
  (try k_lt l1); (try dsimp only); (try k_lift B'); (try k_fold)))
local macro_rules | `(tactic| walk_at "MY plain") => `(tactic| (
  refine' code_def ?k1 ?k2 ?k3 ?k4 ?k5 ?kA ?kF ?kK ?k6 ?k7 ?k8 ?k9 ?kB ?_ ?c2 ?c3 ?c4 ?c5
  (case kA => exact rfl)
  (case kF => first | exact rfl | assumption)
  (case kK => first | exact rfl | assumption)
  (case k1 => k_asm)
  (case k2 => k_asm)
  (case k3 => k_asm)
  (case k4 => k_asm)
  (case k5 => k_asm)
  (case k6 => k_is)
  (case k7 => k_is)
  (case k8 => k_room)
  (case k9 => first | exact BindsTo.of_eq rfl | exact binds_K (by k_in) rfl (by k_is) rfl rfl rfl)
  (case c5 => decide)
  (case kB => exact locs rfl)
  (case c2 => exact rfl)
  (case c3 => exact rfl)
  (case c4 => exact rfl)
  k_whole
  intro g' L' h' FG' F' N' B' X' T'
  (try dsimp only); (try k_lift B'); (try k_fold)))
local macro_rules | `(tactic| walk_at "MY plainC") => `(tactic| (refine' code_defC ?k1 ?k2 ?k3 ?k4 ?k5 ?kA ?kF ?kK ?k6 ?k7 ?k8 ?k9 ?kB ?kD ?_ ?c2 ?c3 ?c4; (case kA => exact rfl); (case kF => first | exact rfl | assumption); (case kK => first | exact rfl | assumption); (case k1 => k_asm); (case k2 => k_asm); (case k3 => k_asm); (case k4 => k_asm); (case k5 => k_asm); (case k6 => k_is); (case k7 => k_is); (case k8 => k_room); (case k9 => first | exact BindsTo.of_eq rfl | exact binds_K (by k_in) rfl (by k_is) rfl rfl rfl); (case kB => exact rfl); (case kD => decide +kernel); (case c2 => exact rfl); (case c3 => exact rfl); (case c4 => exact rfl); k_whole; intro g' L' h' tk' cells' FG' F' N' Y' B' X' T' l1; (try k_lt l1); k_cells Y'; (try simp only [List.cons_append, List.nil_append] at N'); (try dsimp only); (try k_lift B'); (try k_fold)))
local macro_rules | `(tactic| walk_at "getAttr ref") => `(tactic| (k_here; (with_reducible show wpAny _ _ (getAttr (Value.ref _) (PySem.Str.ofString "_ident") _) _ _ _); k_dflt (refine' get_sm ?k1 ?k2 ?k3 ?k4 ?k5 ?k6 ?k7 ?k8 ?k9 ?k10 ?k11 ?k12 ?_; (case k3 => k_inst); (case k1 => k_asm); (case k2 => k_asm); (case k6 => k_is); (case k4 => k_is); (case k5 => k_is); (case k7 => k_is); (case k8 => k_is); (case k9 => decide +kernel); (case k10 => k_get); (case k11 => k_is); (case k12 => k_handed); k_whole)))
local macro_rules | `(tactic| walk_at "eval Call Attribute") => `(tactic| (k_here; (with_reducible show wpAny _ _ (eval (Expr.Call (Expr.Attribute (Expr.Name _ _) _ _) [Expr.Starred _ _] [] _) _) _ _ _); refine starMethod ?_))
local macro_rules | `(tactic| walk_at "MY restC") => `(tactic| (
  refine' kpc_rest ?k1 ?k2 ?k3 ?k4 ?k5 ?kA ?kF ?kK ?k6 ?k7 ?k8 ?kV ?kP ?kG ?kB ?kD ?_ ?c2 ?c3 ?c4
  (case kA => exact rfl)
  (case kF => first | exact rfl | assumption)
  (case kK => first | exact rfl | assumption)
  (case k1 => k_asm)
  (case k2 => k_asm)
  (case k3 => k_asm)
  (case k4 => k_asm)
  (case k5 => k_asm)
  (case k6 => k_is)
  (case k7 => k_is)
  (case k8 => k_room)
  (case kV => kl_lit)
  (case kP => exact rfl)
  (case kG => exact fun _ => rfl)
  (case kB => exact fun _ => rfl)
  (case kD => decide +kernel)
  (case c2 => exact rfl)
  (case c3 => exact rfl)
  (case c4 => exact rfl)
  k_whole
  intro D' g' L' h' tk' cells' l1 l2 FG' F' N' Y' B' X' T'
  (try k_lt l1); (try k_lt2 l2); k_cells Y'; (try simp only [List.cons_append, List.nil_append] at N'); (try dsimp only); (try k_lift B'); (try k_fold)))
local macro_rules | `(tactic| walk_at "call ref") => `(tactic| (k_here; (with_reducible show wpAny _ _ (call (Value.ref 95) _) _ _ _); k_dflt (refine wpAny_call ?_; refine' ident_c ?k1 ?k2 ?k3 ?k4 ?k5 ?k6 ?k7 ?k8 ?k9 ?_; (case k1 => k_asm); (case k2 => k_asm); (case k3 => k_asm); (case k4 => k_asm); (case k5 => k_asm); (case k6 => first | exact rfl | assumption); (case k7 => first | exact rfl | assumption); (case k8 => (dsimp only [Arnd, Around.deeper] at *; omega)); (case k9 => (dsimp only [Arnd, Around.deeper] at *; omega)); k_whole); intro h' tk' F' N'; (try dsimp only); (try k_sweep)))
local macro_rules | `(tactic| walk_at "MY memT") => `(tactic| (first | (refine List.mem_append_left _ ?_; assumption) | (refine List.Mem.tail _ ?_; walk_at "MY memT")))
local macro_rules | `(tactic| walk_at "MY split") => `(tactic| (first | exact Split.base | (refine' Split.cons ?sp; (case sp => walk_at "MY split"))))
local macro_rules | `(tactic| walk_at "MY off") => `(tactic| ((try dsimp only); simp only [List.forall_mem_cons, List.not_mem_nil, false_implies, implies_true, and_true]; (repeat' (refine And.intro ?_ ?_)); all_goals (first | assumption | (refine neN ?_; (try dsimp only); omega))))
local macro_rules | `(tactic| walk_at "eval Lambda") => `(tactic| (k_here; k_dflt (refine' kla_eval ?d0 ?_; (case d0 => exact rfl)); (first
  | (k_dflt (refine' lam_S1 ?ts ?F ?N ?hg ?T ?C ?off ?offo ?hq ?e1 ?e2 ?hcl ?_; (case ts => assumption); (case F => k_asm); (case N => k_asm); (case hg => walk_at "MY split"); (case T => k_asm); (case C => assumption); (case off => walk_at "MY off"); (case offo => assumption); (case hq => first | rfl | with_unfolding_all rfl); (case e1 => rfl); (case e2 => rfl); (case hcl => exact rfl); k_whole); intro f' c' oc' ct' h' tk' Tl' F' N' ts' hm' hc' l1'; (try simp only [List.cons_append, List.nil_append] at N'))
  | (k_dflt (refine' lam_S2 ?ts ?F ?N ?hg ?T ?C ?off ?offo ?hq ?e1 ?e2 ?hcl ?_; (case ts => assumption); (case F => k_asm); (case N => k_asm); (case hg => walk_at "MY split"); (case T => k_asm); (case C => assumption); (case off => walk_at "MY off"); (case offo => assumption); (case hq => first | rfl | with_unfolding_all rfl); (case e1 => rfl); (case e2 => rfl); (case hcl => exact rfl); k_whole); intro f' c' oc' ct' h' tk' Tl' F' N' ts' hm' hc' l1'; (try simp only [List.cons_append, List.nil_append] at N')))))
local macro_rules | `(tactic| walk_at "call type:map") => `(tactic| (k_here; k_dflt (refine' map_K ?F ?N ?m ?c ?d ?_; (case F => k_asm); (case N => k_asm); (case m => k_mem); (case c => exact rfl); (case d => exact rfl); k_whole); intro h' mp' it' F' N' hX' hlt' hL' h0'; (try dsimp only)))
local macro_rules | `(tactic| walk_at "call builtin:any") => `(tactic| (k_here; k_dflt (refine' any_lam1 ?hh ?room ?F ?N ?X ?T ?M ?lt ?L ?h0 ?ho ?hoc ?hc ?hcs ?hcd ?hx ?hdx ?_; (case hh => exact rfl); (case room => (dsimp only [Arnd, Around.deeper] at *; omega)); (case F => k_asm); (case N => k_asm); (case X => k_asm); (case T => k_asm); (case M => assumption); (case lt => assumption); (case L => assumption); (case h0 => assumption); (case ho => k_mem); (case hoc => walk_at "MY memT"); (case hc => assumption); (case hcs => k_mem); (case hcd => assumption); (case hx => k_mem); (case hdx => k_mem); k_whole); intro h' tk' F' N'; (try dsimp only)))
local macro_rules | `(tactic| walk_at "call builtin:all") => `(tactic| (k_here; k_dflt (refine' all_lam2 ?hh ?room ?F ?N ?X ?T ?M ?lt ?L ?h0 ?ho ?hoc ?hc ?hcs ?hcd ?_; (case hh => exact rfl); (case room => (dsimp only [Arnd, Around.deeper] at *; omega)); (case F => k_asm); (case N => k_asm); (case X => k_asm); (case T => k_asm); (case M => assumption); (case lt => assumption); (case L => assumption); (case h0 => assumption); (case ho => k_mem); (case hoc => walk_at "MY memT"); (case hc => assumption); (case hcs => k_mem); (case hcd => assumption); k_whole); intro h' tk' F' N'; (try dsimp only)))
local macro_rules | `(tactic| walk_at "MY sub") => `(tactic| (first | assumption | (refine List.Mem.tail _ ?_; walk_at "MY sub")))
local macro_rules | `(tactic| walk_at "MY fin") => `(tactic| (with_reducible rename Fr h₀ _ _ _ => kF; with_reducible rename News h₀ _ _ _ => kN))
local macro_rules | `(tactic| walk_at "MY sub") => `(tactic| (first | assumption | exact List.Mem.head _ | (refine List.Mem.tail _ ?_; walk_at "MY sub")))
local macro_rules | `(tactic| walk_at "MY memO") => `(tactic| (first | exact List.mem_append.mpr (.inr (List.mem_append.mpr (.inr (by assumption)))) | (refine List.Mem.tail _ ?_; walk_at "MY memO")))
local macro_rules | `(tactic| walk_at "subscriptTail") => `(tactic| (k_here; (with_reducible show wpAny _ _ (subscriptTail _ _ (Value.ref _) (Value.int _ _)) _ _ _); k_dflt (refine' mat_row ?N ?H ?sub ?h0 ?h1 ?hN ?_; (case H => assumption); (case N => k_asm); (case sub => (intro q hq; walk_at "MY memO")); (case h0 => omega); (case h1 => omega); (case hN => omega); k_whole); (try dsimp only)))
local macro_rules | `(tactic| walk_at "getItem ref") => `(tactic| (k_here; (with_reducible show wpAny _ _ (getItem (Value.ref _) (Value.int _ _)) _ _ _); k_dflt (refine' mat_getRow ?N ?H ?sub ?h0 ?h1 ?hN ?_; (case H => assumption); (case N => k_asm); (case sub => (intro q hq; walk_at "MY memO")); (case h0 => omega); (case h1 => omega); (case hN => omega); k_whole); (try dsimp only)))
local macro_rules | `(tactic| walk_at "subscriptTail") => `(tactic| (k_here; (with_reducible show wpAny _ _ (subscriptTail _ _ (Value.ref (List.getD _ _ _)) (Value.int _ _)) _ _ _); k_dflt (refine' mat_cell ?N ?H ?sub ?hi ?h0 ?h1 ?hN ?_; (case H => assumption); (case N => k_asm); (case sub => (intro q hq; walk_at "MY memO")); (case hi => omega); (case h0 => omega); (case h1 => omega); (case hN => omega); k_whole); intro t'; (try dsimp only)))
local macro_rules | `(tactic| walk_at "setItem ref int") => `(tactic| (k_here; (with_reducible show wpAny _ _ (setItem (Value.ref (List.getD _ _ _)) (Value.int _ _) (Value.int _ _)) _ _ _); k_dflt (refine' mat_set ?ts ?F ?N ?S ?H ?hpre ?ha ?hi ?h0 ?h1 ?hN ?_; (case H => assumption); (case ts => assumption); (case F => k_asm); (case N => k_asm); (case S => walk_at "MY split"); (case hpre => assumption); (case ha => assumption); (case hi => omega); (case h0 => omega); (case h1 => omega); (case hN => omega); k_whole); intro h' own' F' N' H' hm'; (try simp only [List.cons_append, List.nil_append] at N'); (try dsimp only)))
local macro_rules | `(tactic| walk_at "MY look") => `(tactic| (first | rfl | assumption | (refine Eq.trans (if_neg (by decide)) ?_; walk_at "MY look")))
local macro_rules | `(tactic| walk_at "eval Name") => `(tactic| (k_here; k_dflt (refine' nameX_L ?F ?v ?_ ?a ?b; (case F => k_asm); (case a => rfl); (case b => rfl); (case v => ((try dsimp only); walk_at "MY look")); k_whole)))
local macro_rules | `(tactic| walk_at "callWith ref") => `(tactic| (k_here; (with_reducible show wpAny _ _ (callWith _ (Value.ref _) _ (backTo _ (starEach [Expr.Starred _ _] _)) []) _ _ _); k_dflt (refine' callWith_SM ?k1 ?k2 ?k3 ?k4 ?_; (case k1 => k_asm); (case k2 => k_asm); (case k3 => k_mem); (case k4 => k_is); k_whole)))
local macro_rules | `(tactic| walk_at "eval Call Attribute") => `(tactic| (k_here; k_dflt (refine' MethodCallL ?hl ?_; (case hl => assumption))))
local macro_rules | `(tactic| walk_at "call ref") => `(tactic| (k_here; (with_reducible show wpAny _ _ (call (Value.ref 225) _) _ _ _); k_dflt (refine wpAny_call ?_; refine' law_step_c ?B ?F ?X ?N ?T ?hf ?hke ?hm ?hdp ?hun ?ha ?hb ?_; (case B => k_asm); (case F => k_asm); (case X => k_asm); (case T => k_asm); (case hf => first | exact rfl | assumption); (case hke => first | exact rfl | assumption); (case N => k_asm); (case hm => walk_at "MY sub"); (case hdp => (dsimp only [Arnd, Around.deeper] at *; omega)); (case hun => (dsimp only [Arnd, Around.deeper] at *; omega)); (case ha => first | assumption | omega); (case hb => first | assumption | omega); k_whole); intro h' tk' t' F' N'; (try dsimp only)))
local macro_rules | `(tactic| walk_at "call ref") => `(tactic| (k_here; (with_reducible show wpAny _ _ (call (Value.ref 218) _) _ _ _); k_dflt (refine wpAny_call ?_; refine' law_pair_c ?B ?F ?X ?N ?T ?hf ?hke ?hm ?hdp ?hun ?ha ?hb ?_; (case B => k_asm); (case F => k_asm); (case X => k_asm); (case T => k_asm); (case hf => first | exact rfl | assumption); (case hke => first | exact rfl | assumption); (case N => k_asm); (case hm => walk_at "MY sub"); (case hdp => (dsimp only [Arnd, Around.deeper] at *; omega)); (case hun => (dsimp only [Arnd, Around.deeper] at *; omega)); (case ha => first | assumption | omega); (case hb => first | assumption | omega); k_whole); intro h' tk' t' F' N'; (try dsimp only)))

theorem lawcol_loop {q1 q2 q3 q4 q5 q6 q7 q8 q9 q10 q11 q12 q13 q14 q15 q16 q17 q18 q19 q20 q21 q22 q23 q24 q25 q26 q27 q28 q29 q30 q31 q32 q33 q34 q35 q36 : Pos} (B : Below A₀ base fr h₀) (X : (hd.heap_39 w.params).In h₀) (T : Top p loose mean mg mb h₀) (C : CodeHd h₀ 176 172)  (F : Fr h₀ L s.heap m) (N : News h₀ L s.heap ((L + 1, oc) :: (cl, ({ cls := .type "list", data := .seq #[.int c0 u0, .int c1 u1, .int c2 u2] nc } : Obj)) :: (x, instObj 192 dx) :: (dx, dictOf (edD w.params c0 c1 c2 lo ex k1 k2 k3 k4 k5 k6 v1 v2 v3 v6) n) :: (Tl ++ ([] ++ mat)))) (ts : TS Tl) (H : MatL lw M rs mat (n1 + 1) (n2 + 1) V) (hrows : m (Str.ofString "rows") = some (.ref M)) (hcosts : m (Str.ofString "costs") = some (.ref cl)) (hhere : m (Str.ofString "here") = some (.str U1 tu1)) (hloc : m (Str.ofString "local") = some (.bool lo)) (hU1 : U1.length = n1 + 1) (hn1 : n1 ≤ 8) (hn2 : n2 ≤ 8) (hpre : ∀ p ∈ [(L + 1, oc), (cl, ({ cls := .type "list", data := .seq #[.int c0 u0, .int c1 u1, .int c2 u2] nc } : Obj)), (x, instObj 192 dx), (dx, dictOf (edD w.params c0 c1 c2 lo ex k1 k2 k3 k4 k5 k6 v1 v2 v3 v6) n)], ∀ r ∈ rs, p.1 ≠ r) (offl : L + 1 ≠ 172) (offc : cl ≠ 172) (offx : x ≠ 172) (offd : dx ≠ 172) (hdp : dp + 100 < recursionLimit) (hun : un + 1024 < cLine) (hV : V 0 0 = 0)
  (hQ : ∀ h' tk' vi Tl' mat' V', TS Tl' → Fr h₀ L h' (fun y => if y = Str.ofString "i" then vi else m y) → News h₀ L h' ((L + 1, oc) :: (cl, ({ cls := .type "list", data := .seq #[.int c0 u0, .int c1 u1, .int c2 u2] nc } : Obj)) :: (x, instObj 192 dx) :: (dx, dictOf (edD w.params c0 c1 c2 lo ex k1 k2 k3 k4 k5 k6 v1 v2 v3 v6) n) :: (Tl' ++ ([] ++ mat'))) → MatL lw M rs mat' (n1 + 1) (n2 + 1) V' → V' 0 0 = 0 → (∀ i, i < n1 → V' (i + 1) 0 = if lo = true then 0 else V' i 0 + lfst c0 c1 c2 U1 (i + 1)) → (∀ p q, q ≠ 0 → V' p q = V p q) → Q .next { s with heap := h', toks := tk' }) :
  wpAny (model PySem.Challenge.rw_bs0041_01.row.prog w) (({ handled := none, depth := dp, frames := some fr, guards := gd, units := un } : Around).deeper (lawEnv L fa cd)) (exec (.For (.Name (Str.ofString "i") q1) (.Call (.Name (Str.ofString "range") q2) [(.Constant (.int 1) 0 q3), (.Call (.Name (Str.ofString "len") q4) [(.Name (Str.ofString "here") q5)] [] q6)] [] q7) [(.Assign [(.Subscript (.Subscript (.Name (Str.ofString "rows") q8) (.Name (Str.ofString "i") q9) q10) (.Constant (.int 0) 0 q11) q12)] (.IfExp (.Name (Str.ofString "local") q13) (.Constant (.int 0) 0 q14) (.BinOp (.Subscript (.Subscript (.Name (Str.ofString "rows") q15) (.BinOp (.Name (Str.ofString "i") q16) .Sub (.Constant (.int 1) 0 q17) q18) q19) (.Constant (.int 0) 0 q20) q21) .Add (.Call (.Name (Str.ofString "_law_step") q22) [(.Subscript (.Name (Str.ofString "here") q23) (.BinOp (.Name (Str.ofString "i") q24) .Sub (.Constant (.int 1) 0 q25) q26) q27), (.Subscript (.Name (Str.ofString "here") q28) (.Name (Str.ofString "i") q29) q30), (.Name (Str.ofString "costs") q31)] [] q32) q33) q34) q35)] [] q36) (lawEnv L fa cd)) Q E s := by
  revert X; k_fill; intro X
  refine wpAny_For ?_
  k_steps
  with_reducible rename Fr _ _ _ _ => FL
  with_reducible rename News _ _ _ _ => NL
  with_reducible rename IsRange _ _ _ _ _ _ _ _ => hrg
  refine range_mat (L := L) (n := n1) (pre := [(L + 1, oc), (cl, ({ cls := .type "list", data := .seq #[.int c0 u0, .int c1 u1, .int c2 u2] nc } : Obj)), (x, instObj 192 dx), (dx, dictOf (edD w.params c0 c1 c2 lo ex k1 k2 k3 k4 k5 k6 v1 v2 v3 v6) n)]) (a := []) (mat := mat) rfl rfl rfl rfl ts FL NL hrg (by omega) (by omega) (by omega) (fun i m₁ mat₁ => ∃ vi V₁, m₁ = (fun y => if y = Str.ofString "i" then vi else m y) ∧ MatL lw M rs mat₁ (n1 + 1) (n2 + 1) V₁ ∧ V₁ 0 0 = 0 ∧ (∀ k, k < i → V₁ (k + 1) 0 = if lo = true then 0 else V₁ k 0 + lfst c0 c1 c2 U1 (k + 1)) ∧ (∀ p q, q ≠ 0 → V₁ p q = V p q)) ?h0 ?step ?done
  case h0 => exact ⟨m (Str.ofString "i"), V, by funext y; split <;> simp_all, H, hV, fun k hk => absurd hk (Nat.not_lt_zero _), fun _ _ _ => rfl⟩
  case done =>
    rintro h' tk m' Tl' mat' ts' F' N' hm' ⟨vi, V₁, rfl, H', h00, hk, hq⟩
    exact hQ h' tk vi Tl' mat' V₁ ts' F' N' H' h00 hk hq
  case step =>
    rintro i m₁ tv mat₁ Tl₁ h₁ tk₁ its E' hi ⟨vi, V₁, rfl, H₁, h00, hk, hq⟩ ts₁ hits hitm hmm F₁ N₁
    have hit0 : ∀ p ∈ its ++ [], p.1 ≠ 172 := off_both hits (fun _ h => nomatch h)
    have hitr : ∀ p ∈ its ++ [], ∀ r ∈ rs, p.1 ≠ r := fun p hp r hr => (List.mem_append.mp hp).elim (fun hp => by
      obtain ⟨k, hk⟩ := List.mem_iff_getElem?.mp hr
      obtain ⟨o, ho, _⟩ := H.rows k r hk
      exact hitm p hp _ ho) fun hp => nomatch hp
    clear FL NL hrg H
    simp only [List.cons_append, List.nil_append] at N₁
    have e3 : lfst c0 c1 c2 U1 (i + 1) = lsv c0 c1 c2 (Txt.item U1 (1 + (i : Int) - 1)) (Txt.item U1 (1 + (i : Int))) := by
      unfold lfst
      rw [show ((i + 1 : Nat) : Int) = 1 + (i : Int) by omega]
    k_steps
    · with_reducible rename Fr h₀ _ _ _ => FF
      with_reducible rename News h₀ _ _ _ => NN
      with_reducible rename MatL _ _ _ _ _ _ _ => HH
      with_reducible rename List.map _ _ = List.map _ _ => hmap
      have e1 : ((1 : Int) + (i : Int)).toNat = i + 1 := by omega
      have e2 : ((1 : Int) + (i : Int) - 1).toNat = i := by omega
      refine .next (by assumption) FF NN (hmap.trans hmm) ⟨some (.int (1 + (i : Int)) tv), _, ?_, HH, ?_, ?_, ?_⟩
      · funext y; dsimp only; split <;> rfl
      · unfold upd2; rw [e1, if_neg (by omega)]; exact h00
      · intro k hk'
        rw [e1]
        unfold upd2
        by_cases e : k = i
        · subst e
          rw [if_pos ⟨rfl, rfl⟩, if_pos ‹lo = true›]
        · have h9 := hk k (by omega)
          rw [if_pos ‹lo = true›] at h9
          rw [if_neg (by omega), if_pos ‹lo = true›]
          exact h9
      · intro p q hq'
        unfold upd2
        rw [if_neg (fun z => hq' (z.2.trans rfl))]
        exact hq p q hq'
    · with_reducible rename Fr h₀ _ _ _ => FF
      with_reducible rename News h₀ _ _ _ => NN
      with_reducible rename MatL _ _ _ _ _ _ _ => HH
      with_reducible rename List.map _ _ = List.map _ _ => hmap
      have e1 : ((1 : Int) + (i : Int)).toNat = i + 1 := by omega
      have e2 : ((1 : Int) + (i : Int) - 1).toNat = i := by omega
      refine .next (by assumption) FF NN (hmap.trans hmm) ⟨some (.int (1 + (i : Int)) tv), _, ?_, HH, ?_, ?_, ?_⟩
      · funext y; dsimp only; split <;> rfl
      · unfold upd2; rw [e1, if_neg (by omega)]; exact h00
      · intro k hk'
        have hlo : ¬ lo = true := by rw [‹lo = false›]; decide
        rw [e1, e2, ← e3]
        unfold upd2
        by_cases e : k = i
        · subst e
          rw [if_pos ⟨rfl, rfl⟩, if_neg hlo, if_neg (by omega)]
          rfl
        · have h9 := hk k (by omega)
          rw [if_neg hlo] at h9
          rw [if_neg (by omega), if_neg hlo, if_neg (by omega)]
          exact h9
      · intro p q hq'
        unfold upd2
        rw [if_neg (fun z => hq' (z.2.trans rfl))]
        exact hq p q hq'
theorem lawrow_loop {q1 q2 q3 q4 q5 q6 q7 q8 q9 q10 q11 q12 q13 q14 q15 q16 q17 q18 q19 q20 q21 q22 q23 q24 q25 q26 q27 q28 q29 q30 q31 q32 q33 : Pos} (B : Below A₀ base fr h₀) (X : (hd.heap_39 w.params).In h₀) (T : Top p loose mean mg mb h₀) (C : CodeHd h₀ 176 172)  (F : Fr h₀ L s.heap m) (N : News h₀ L s.heap ((L + 1, oc) :: (cl, ({ cls := .type "list", data := .seq #[.int c0 u0, .int c1 u1, .int c2 u2] nc } : Obj)) :: (x, instObj 192 dx) :: (dx, dictOf (edD w.params c0 c1 c2 lo ex k1 k2 k3 k4 k5 k6 v1 v2 v3 v6) n) :: (Tl ++ ([] ++ mat)))) (ts : TS Tl) (H : MatL lw M rs mat (n1 + 1) (n2 + 1) V) (hrows : m (Str.ofString "rows") = some (.ref M)) (hcosts : m (Str.ofString "costs") = some (.ref cl)) (hoc : oc.data = .cell (some (.str U2 tu2))) (hU2 : U2.length = n2 + 1) (hn1 : n1 ≤ 8) (hn2 : n2 ≤ 8) (hpre : ∀ p ∈ [(L + 1, oc), (cl, ({ cls := .type "list", data := .seq #[.int c0 u0, .int c1 u1, .int c2 u2] nc } : Obj)), (x, instObj 192 dx), (dx, dictOf (edD w.params c0 c1 c2 lo ex k1 k2 k3 k4 k5 k6 v1 v2 v3 v6) n)], ∀ r ∈ rs, p.1 ≠ r) (offl : L + 1 ≠ 172) (offc : cl ≠ 172) (offx : x ≠ 172) (offd : dx ≠ 172) (hdp : dp + 100 < recursionLimit) (hun : un + 1024 < cLine) 
  (hQ : ∀ h' tk' vi Tl' mat' V', TS Tl' → Fr h₀ L h' (fun y => if y = Str.ofString "j" then vi else m y) → News h₀ L h' ((L + 1, oc) :: (cl, ({ cls := .type "list", data := .seq #[.int c0 u0, .int c1 u1, .int c2 u2] nc } : Obj)) :: (x, instObj 192 dx) :: (dx, dictOf (edD w.params c0 c1 c2 lo ex k1 k2 k3 k4 k5 k6 v1 v2 v3 v6) n) :: (Tl' ++ ([] ++ mat'))) → MatL lw M rs mat' (n1 + 1) (n2 + 1) V' → (∀ j, j < n2 → V' 0 (j + 1) = V' 0 j + lfst c0 c1 c2 U2 (j + 1)) → (∀ p q, p ≠ 0 ∨ q = 0 → V' p q = V p q) → Q .next { s with heap := h', toks := tk' }) :
  wpAny (model PySem.Challenge.rw_bs0041_01.row.prog w) (({ handled := none, depth := dp, frames := some fr, guards := gd, units := un } : Around).deeper (lawEnv L fa cd)) (exec (.For (.Name (Str.ofString "j") q1) (.Call (.Name (Str.ofString "range") q2) [(.Constant (.int 1) 0 q3), (.Call (.Name (Str.ofString "len") q4) [(.Name (Str.ofString "there") q5)] [] q6)] [] q7) [(.Assign [(.Subscript (.Subscript (.Name (Str.ofString "rows") q8) (.Constant (.int 0) 0 q9) q10) (.Name (Str.ofString "j") q11) q12)] (.BinOp (.Subscript (.Subscript (.Name (Str.ofString "rows") q13) (.Constant (.int 0) 0 q14) q15) (.BinOp (.Name (Str.ofString "j") q16) .Sub (.Constant (.int 1) 0 q17) q18) q19) .Add (.Call (.Name (Str.ofString "_law_step") q20) [(.Subscript (.Name (Str.ofString "there") q21) (.BinOp (.Name (Str.ofString "j") q22) .Sub (.Constant (.int 1) 0 q23) q24) q25), (.Subscript (.Name (Str.ofString "there") q26) (.Name (Str.ofString "j") q27) q28), (.Name (Str.ofString "costs") q29)] [] q30) q31) q32)] [] q33) (lawEnv L fa cd)) Q E s := by
  revert X; k_fill; intro X
  refine wpAny_For ?_
  k_steps
  with_reducible rename Fr _ _ _ _ => FL
  with_reducible rename News _ _ _ _ => NL
  with_reducible rename IsRange _ _ _ _ _ _ _ _ => hrg
  refine range_mat (L := L) (n := n2) (pre := [(L + 1, oc), (cl, ({ cls := .type "list", data := .seq #[.int c0 u0, .int c1 u1, .int c2 u2] nc } : Obj)), (x, instObj 192 dx), (dx, dictOf (edD w.params c0 c1 c2 lo ex k1 k2 k3 k4 k5 k6 v1 v2 v3 v6) n)]) (a := []) (mat := mat) rfl rfl rfl rfl ts FL NL hrg (by omega) (by omega) (by omega) (fun i m₁ mat₁ => ∃ vi V₁, m₁ = (fun y => if y = Str.ofString "j" then vi else m y) ∧ MatL lw M rs mat₁ (n1 + 1) (n2 + 1) V₁ ∧ (∀ k, k < i → V₁ 0 (k + 1) = V₁ 0 k + lfst c0 c1 c2 U2 (k + 1)) ∧ (∀ p q, p ≠ 0 ∨ q = 0 → V₁ p q = V p q)) ?h0 ?step ?done
  case h0 => exact ⟨m (Str.ofString "j"), V, by funext y; split <;> simp_all, H, fun k hk => absurd hk (Nat.not_lt_zero _), fun _ _ _ => rfl⟩
  case done =>
    rintro h' tk m' Tl' mat' ts' F' N' hm' ⟨vi, V₁, rfl, H', hk, hq⟩
    exact hQ h' tk vi Tl' mat' V₁ ts' F' N' H' hk hq
  case step =>
    rintro i m₁ tv mat₁ Tl₁ h₁ tk₁ its E' hi ⟨vi, V₁, rfl, H₁, hk, hq⟩ ts₁ hits hitm hmm F₁ N₁
    have hit0 : ∀ p ∈ its ++ [], p.1 ≠ 172 := off_both hits (fun _ h => nomatch h)
    have hitr : ∀ p ∈ its ++ [], ∀ r ∈ rs, p.1 ≠ r := fun p hp r hr => (List.mem_append.mp hp).elim (fun hp => by
      obtain ⟨k, hk⟩ := List.mem_iff_getElem?.mp hr
      obtain ⟨o, ho, _⟩ := H.rows k r hk
      exact hitm p hp _ ho) fun hp => nomatch hp
    clear FL NL hrg H
    simp only [List.cons_append, List.nil_append] at N₁
    have e3 : lfst c0 c1 c2 U2 (i + 1) = lsv c0 c1 c2 (Txt.item U2 (1 + (i : Int) - 1)) (Txt.item U2 (1 + (i : Int))) := by
      unfold lfst
      rw [show ((i + 1 : Nat) : Int) = 1 + (i : Int) by omega]
    k_steps
    · with_reducible rename Fr h₀ _ _ _ => FF
      with_reducible rename News h₀ _ _ _ => NN
      with_reducible rename MatL _ _ _ _ _ _ _ => HH
      with_reducible rename List.map _ _ = List.map _ _ => hmap
      have e1 : ((1 : Int) + (i : Int)).toNat = i + 1 := by omega
      have e2 : ((1 : Int) + (i : Int) - 1).toNat = i := by omega
      refine .next (by assumption) FF NN (hmap.trans hmm) ⟨some (.int (1 + (i : Int)) tv), _, ?_, HH, ?_, ?_⟩
      · funext y; dsimp only; split <;> rfl
      · intro k hk'
        rw [e1, e2, ← e3]
        unfold upd2
        by_cases e : k = i
        · subst e
          rw [if_pos ⟨rfl, rfl⟩, if_neg (by omega)]
          rfl
        · rw [if_neg (by omega), if_neg (by omega)]
          exact hk k (by omega)
      · intro p q hq'
        unfold upd2
        rw [if_neg (fun z => by have z1 := z.1; have z2 := z.2; rw [e1] at z2; rcases hq' with h | h; exact h (z1.trans rfl); omega)]
        exact hq p q hq'
end
end Mine
-- Ed14
namespace Mine
theorem fresh_Ed14 : True := by (w_top off; exact trivial)
section
variable {w : World} {p : Program} {loose : List Str} {mean : ExcName → Option Value} {mg mb : Str → Option Value} {dp un : Nat} {gd : Option (List Code)} {fr : List Env} {A₀ : Around} {base h₀ : Heap} {L fa : Addr} {cd : Value} {m : Str → Option Value} {s : Shared} {Q : Flow → Shared → Prop} {E : Value → Shared → Prop}
variable {l : Addr} {vs : List Value} {ns : List Int} {c0 c1 c2 : Int} {u0 u1 u2 : Tok} {nc : Nat} {cl x dx : Addr} {lo ex : Bool} {k1 k2 k3 k4 k5 k6 v1 v2 v3 v6 : Tok} {n : Nat} {a Tl : List (Addr × Obj)}
variable {oc : Obj} {lw M : Addr} {rs : List Addr} {mat : List (Addr × Obj)} {n1 n2 : Nat} {V : Nat → Nat → Int} {U1 U2 : Str} {tu1 tu2 tl : Tok} 
local macro_rules | `(tactic| k_room) => `(tactic| ktr_room)
local macro_rules | `(tactic| walk_at "MY rest") => `(tactic| (
  refine' kp_rest ?k1 ?k2 ?k3 ?k4 ?k5 ?kA ?kF ?kK ?k6 ?k7 ?k8 ?kV ?kP ?kG ?kB ?_ ?c2 ?c3 ?c4 ?c5
  (case kA => exact rfl)
  (case kF => first | exact rfl | assumption)
  (case kK => first | exact rfl | assumption)
  (case k1 => k_asm)
  (case k2 => k_asm)
  (case k3 => k_asm)
  (case k4 => k_asm)
  (case k5 => k_asm)
  (case k6 => k_is)
  (case k7 => k_is)
  (case k8 => k_room)
  (case kV => kl_lit)
  (case kP => exact rfl)
  (case kG => exact fun _ => rfl)
  (case kB => exact fun _ => locs rfl)
  (case c5 => decide)
  (case c2 => exact rfl)
  (case c3 => exact rfl)
  (case c4 => exact rfl)
  k_whole
  intro D' g' L' h' l1 FG' F' N' B' X' T'
  (try k_lt l1); (try dsimp only); (try k_lift B'); (try k_fold)))
local macro_rules | `(tactic| walk_at "MY plain") => `(tactic| (
  refine' code_def ?k1 ?k2 ?k3 ?k4 ?k5 ?kA ?kF ?kK ?k6 ?k7 ?k8 ?k9 ?kB ?_ ?c2 ?c3 ?c4 ?c5
  (case kA => exact rfl)
  (case kF => first | exact rfl | assumption)
  (case kK => first | exact rfl | assumption)
  (case k1 => k_asm)
  (case k2 => k_asm)
  (case k3 => k_asm)
  (case k4 => k_asm)
  (case k5 => k_asm)
  (case k6 => k_is)
  (case k7 => k_is)
  (case k8 => k_room)
  (case k9 => first | exact BindsTo.of_eq rfl | exact binds_K (by k_in) rfl (by k_is) rfl rfl rfl)
  (case c5 => decide)
  (case kB => exact locs rfl)
  (case c2 => exact rfl)
  (case c3 => exact rfl)
  (case c4 => exact rfl)
  k_whole
  intro g' L' h' FG' F' N' B' X' T'
  (try dsimp only); (try k_lift B'); (try k_fold)))
local macro_rules | `(tactic| walk_at "MY plainC") => `(tactic| (refine' code_defC ?k1 ?k2 ?k3 ?k4 ?k5 ?kA ?kF ?kK ?k6 ?k7 ?k8 ?k9 ?kB ?kD ?_ ?c2 ?c3 ?c4; (case kA => exact rfl); (case kF => first | exact rfl | assumption); (case kK => first | exact rfl | assumption); (case k1 => k_asm); (case k2 => k_asm); (case k3 => k_asm); (case k4 => k_asm); (case k5 => k_asm); (case k6 => k_is); (case k7 => k_is); (case k8 => k_room); (case k9 => first | exact BindsTo.of_eq rfl | exact binds_K (by k_in) rfl (by k_is) rfl rfl rfl); (case kB => exact rfl); (case kD => decide +kernel); (case c2 => exact rfl); (case c3 => exact rfl); (case c4 => exact rfl); k_whole; intro g' L' h' tk' cells' FG' F' N' Y' B' X' T' l1; (try k_lt l1); k_cells Y'; (try simp only [List.cons_append, List.nil_append] at N'); (try dsimp only); (try k_lift B'); (try k_fold)))
local macro_rules | `(tactic| walk_at "getAttr ref") => `(tactic| (k_here; (with_reducible show wpAny _ _ (getAttr (Value.ref _) (PySem.Str.ofString "_ident") _) _ _ _); k_dflt (refine' get_sm ?k1 ?k2 ?k3 ?k4 ?k5 ?k6 ?k7 ?k8 ?k9 ?k10 ?k11 ?k12 ?_; (case k3 => k_inst); (case k1 => k_asm); (case k2 => k_asm); (case k6 => k_is); (case k4 => k_is); (case k5 => k_is); (case k7 => k_is); (case k8 => k_is); (case k9 => decide +kernel); (case k10 => k_get); (case k11 => k_is); (case k12 => k_handed); k_whole)))
local macro_rules | `(tactic| walk_at "eval Call Attribute") => `(tactic| (k_here; (with_reducible show wpAny _ _ (eval (Expr.Call (Expr.Attribute (Expr.Name _ _) _ _) [Expr.Starred _ _] [] _) _) _ _ _); refine starMethod ?_))
local macro_rules | `(tactic| walk_at "MY restC") => `(tactic| (
  refine' kpc_rest ?k1 ?k2 ?k3 ?k4 ?k5 ?kA ?kF ?kK ?k6 ?k7 ?k8 ?kV ?kP ?kG ?kB ?kD ?_ ?c2 ?c3 ?c4
  (case kA => exact rfl)
  (case kF => first | exact rfl | assumption)
  (case kK => first | exact rfl | assumption)
  (case k1 => k_asm)
  (case k2 => k_asm)
  (case k3 => k_asm)
  (case k4 => k_asm)
  (case k5 => k_asm)
  (case k6 => k_is)
  (case k7 => k_is)
  (case k8 => k_room)
  (case kV => kl_lit)
  (case kP => exact rfl)
  (case kG => exact fun _ => rfl)
  (case kB => exact fun _ => rfl)
  (case kD => decide +kernel)
  (case c2 => exact rfl)
  (case c3 => exact rfl)
  (case c4 => exact rfl)
  k_whole
  intro D' g' L' h' tk' cells' l1 l2 FG' F' N' Y' B' X' T'
  (try k_lt l1); (try k_lt2 l2); k_cells Y'; (try simp only [List.cons_append, List.nil_append] at N'); (try dsimp only); (try k_lift B'); (try k_fold)))
local macro_rules | `(tactic| walk_at "call ref") => `(tactic| (k_here; (with_reducible show wpAny _ _ (call (Value.ref 95) _) _ _ _); k_dflt (refine wpAny_call ?_; refine' ident_c ?k1 ?k2 ?k3 ?k4 ?k5 ?k6 ?k7 ?k8 ?k9 ?_; (case k1 => k_asm); (case k2 => k_asm); (case k3 => k_asm); (case k4 => k_asm); (case k5 => k_asm); (case k6 => first | exact rfl | assumption); (case k7 => first | exact rfl | assumption); (case k8 => (dsimp only [Arnd, Around.deeper] at *; omega)); (case k9 => (dsimp only [Arnd, Around.deeper] at *; omega)); k_whole); intro h' tk' F' N'; (try dsimp only); (try k_sweep)))
local macro_rules | `(tactic| walk_at "MY memT") => `(tactic| (first | (refine List.mem_append_left _ ?_; assumption) | (refine List.Mem.tail _ ?_; walk_at "MY memT")))
local macro_rules | `(tactic| walk_at "MY split") => `(tactic| (first | exact Split.base | (refine' Split.cons ?sp; (case sp => walk_at "MY split"))))
local macro_rules | `(tactic| walk_at "MY off") => `(tactic| ((try dsimp only); simp only [List.forall_mem_cons, List.not_mem_nil, false_implies, implies_true, and_true]; (repeat' (refine And.intro ?_ ?_)); all_goals (first | assumption | (refine neN ?_; (try dsimp only); omega))))
local macro_rules | `(tactic| walk_at "eval Lambda") => `(tactic| (k_here; k_dflt (refine' kla_eval ?d0 ?_; (case d0 => exact rfl)); (first
  | (k_dflt (refine' lam_S1 ?ts ?F ?N ?hg ?T ?C ?off ?offo ?hq ?e1 ?e2 ?hcl ?_; (case ts => assumption); (case F => k_asm); (case N => k_asm); (case hg => walk_at "MY split"); (case T => k_asm); (case C => assumption); (case off => walk_at "MY off"); (case offo => assumption); (case hq => first | rfl | with_unfolding_all rfl); (case e1 => rfl); (case e2 => rfl); (case hcl => exact rfl); k_whole); intro f' c' oc' ct' h' tk' Tl' F' N' ts' hm' hc' l1'; (try simp only [List.cons_append, List.nil_append] at N'))
  | (k_dflt (refine' lam_S2 ?ts ?F ?N ?hg ?T ?C ?off ?offo ?hq ?e1 ?e2 ?hcl ?_; (case ts => assumption); (case F => k_asm); (case N => k_asm); (case hg => walk_at "MY split"); (case T => k_asm); (case C => assumption); (case off => walk_at "MY off"); (case offo => assumption); (case hq => first | rfl | with_unfolding_all rfl); (case e1 => rfl); (case e2 => rfl); (case hcl => exact rfl); k_whole); intro f' c' oc' ct' h' tk' Tl' F' N' ts' hm' hc' l1'; (try simp only [List.cons_append, List.nil_append] at N')))))
local macro_rules | `(tactic| walk_at "call type:map") => `(tactic| (k_here; k_dflt (refine' map_K ?F ?N ?m ?c ?d ?_; (case F => k_asm); (case N => k_asm); (case m => k_mem); (case c => exact rfl); (case d => exact rfl); k_whole); intro h' mp' it' F' N' hX' hlt' hL' h0'; (try dsimp only)))
local macro_rules | `(tactic| walk_at "call builtin:any") => `(tactic| (k_here; k_dflt (refine' any_lam1 ?hh ?room ?F ?N ?X ?T ?M ?lt ?L ?h0 ?ho ?hoc ?hc ?hcs ?hcd ?hx ?hdx ?_; (case hh => exact rfl); (case room => (dsimp only [Arnd, Around.deeper] at *; omega)); (case F => k_asm); (case N => k_asm); (case X => k_asm); (case T => k_asm); (case M => assumption); (case lt => assumption); (case L => assumption); (case h0 => assumption); (case ho => k_mem); (case hoc => walk_at "MY memT"); (case hc => assumption); (case hcs => k_mem); (case hcd => assumption); (case hx => k_mem); (case hdx => k_mem); k_whole); intro h' tk' F' N'; (try dsimp only)))
local macro_rules | `(tactic| walk_at "call builtin:all") => `(tactic| (k_here; k_dflt (refine' all_lam2 ?hh ?room ?F ?N ?X ?T ?M ?lt ?L ?h0 ?ho ?hoc ?hc ?hcs ?hcd ?_; (case hh => exact rfl); (case room => (dsimp only [Arnd, Around.deeper] at *; omega)); (case F => k_asm); (case N => k_asm); (case X => k_asm); (case T => k_asm); (case M => assumption); (case lt => assumption); (case L => assumption); (case h0 => assumption); (case ho => k_mem); (case hoc => walk_at "MY memT"); (case hc => assumption); (case hcs => k_mem); (case hcd => assumption); k_whole); intro h' tk' F' N'; (try dsimp only)))
local macro_rules | `(tactic| walk_at "MY sub") => `(tactic| (first | assumption | (refine List.Mem.tail _ ?_; walk_at "MY sub")))
local macro_rules | `(tactic| walk_at "MY fin") => `(tactic| (with_reducible rename Fr h₀ _ _ _ => kF; with_reducible rename News h₀ _ _ _ => kN))
local macro_rules | `(tactic| walk_at "MY sub") => `(tactic| (first | assumption | exact List.Mem.head _ | (refine List.Mem.tail _ ?_; walk_at "MY sub")))
local macro_rules | `(tactic| walk_at "MY memO") => `(tactic| (first | exact List.mem_append.mpr (.inr (List.mem_append.mpr (.inr (by assumption)))) | (refine List.Mem.tail _ ?_; walk_at "MY memO")))
local macro_rules | `(tactic| walk_at "subscriptTail") => `(tactic| (k_here; (with_reducible show wpAny _ _ (subscriptTail _ _ (Value.ref _) (Value.int _ _)) _ _ _); k_dflt (refine' mat_row ?N ?H ?sub ?h0 ?h1 ?hN ?_; (case H => assumption); (case N => k_asm); (case sub => (intro q hq; walk_at "MY memO")); (case h0 => omega); (case h1 => omega); (case hN => omega); k_whole); (try dsimp only)))
local macro_rules | `(tactic| walk_at "getItem ref") => `(tactic| (k_here; (with_reducible show wpAny _ _ (getItem (Value.ref _) (Value.int _ _)) _ _ _); k_dflt (refine' mat_getRow ?N ?H ?sub ?h0 ?h1 ?hN ?_; (case H => assumption); (case N => k_asm); (case sub => (intro q hq; walk_at "MY memO")); (case h0 => omega); (case h1 => omega); (case hN => omega); k_whole); (try dsimp only)))
local macro_rules | `(tactic| walk_at "subscriptTail") => `(tactic| (k_here; (with_reducible show wpAny _ _ (subscriptTail _ _ (Value.ref (List.getD _ _ _)) (Value.int _ _)) _ _ _); k_dflt (refine' mat_cell ?N ?H ?sub ?hi ?h0 ?h1 ?hN ?_; (case H => assumption); (case N => k_asm); (case sub => (intro q hq; walk_at "MY memO")); (case hi => omega); (case h0 => omega); (case h1 => omega); (case hN => omega); k_whole); intro t'; (try dsimp only)))
local macro_rules | `(tactic| walk_at "setItem ref int") => `(tactic| (k_here; (with_reducible show wpAny _ _ (setItem (Value.ref (List.getD _ _ _)) (Value.int _ _) (Value.int _ _)) _ _ _); k_dflt (refine' mat_set ?ts ?F ?N ?S ?H ?hpre ?ha ?hi ?h0 ?h1 ?hN ?_; (case H => assumption); (case ts => assumption); (case F => k_asm); (case N => k_asm); (case S => walk_at "MY split"); (case hpre => assumption); (case ha => assumption); (case hi => omega); (case h0 => omega); (case h1 => omega); (case hN => omega); k_whole); intro h' own' F' N' H' hm'; (try simp only [List.cons_append, List.nil_append] at N'); (try dsimp only)))
local macro_rules | `(tactic| walk_at "MY look") => `(tactic| (first | rfl | assumption | (refine Eq.trans (if_neg (by decide)) ?_; walk_at "MY look")))
local macro_rules | `(tactic| walk_at "eval Name") => `(tactic| (k_here; k_dflt (refine' nameX_L ?F ?v ?_ ?a ?b; (case F => k_asm); (case a => rfl); (case b => rfl); (case v => ((try dsimp only); walk_at "MY look")); k_whole)))
local macro_rules | `(tactic| walk_at "callWith ref") => `(tactic| (k_here; (with_reducible show wpAny _ _ (callWith _ (Value.ref _) _ (backTo _ (starEach [Expr.Starred _ _] _)) []) _ _ _); k_dflt (refine' callWith_SM ?k1 ?k2 ?k3 ?k4 ?_; (case k1 => k_asm); (case k2 => k_asm); (case k3 => k_mem); (case k4 => k_is); k_whole)))
local macro_rules | `(tactic| walk_at "eval Call Attribute") => `(tactic| (k_here; k_dflt (refine' MethodCallL ?hl ?_; (case hl => assumption))))
local macro_rules | `(tactic| walk_at "call ref") => `(tactic| (k_here; (with_reducible show wpAny _ _ (call (Value.ref 225) _) _ _ _); k_dflt (refine wpAny_call ?_; refine' law_step_c ?B ?F ?X ?N ?T ?hf ?hke ?hm ?hdp ?hun ?ha ?hb ?_; (case B => k_asm); (case F => k_asm); (case X => k_asm); (case T => k_asm); (case hf => first | exact rfl | assumption); (case hke => first | exact rfl | assumption); (case N => k_asm); (case hm => walk_at "MY sub"); (case hdp => (dsimp only [Arnd, Around.deeper] at *; omega)); (case hun => (dsimp only [Arnd, Around.deeper] at *; omega)); (case ha => first | assumption | omega); (case hb => first | assumption | omega); k_whole); intro h' tk' t' F' N'; (try dsimp only)))
local macro_rules | `(tactic| walk_at "call ref") => `(tactic| (k_here; (with_reducible show wpAny _ _ (call (Value.ref 218) _) _ _ _); k_dflt (refine wpAny_call ?_; refine' law_pair_c ?B ?F ?X ?N ?T ?hf ?hke ?hm ?hdp ?hun ?ha ?hb ?_; (case B => k_asm); (case F => k_asm); (case X => k_asm); (case T => k_asm); (case hf => first | exact rfl | assumption); (case hke => first | exact rfl | assumption); (case N => k_asm); (case hm => walk_at "MY sub"); (case hdp => (dsimp only [Arnd, Around.deeper] at *; omega)); (case hun => (dsimp only [Arnd, Around.deeper] at *; omega)); (case ha => first | assumption | omega); (case hb => first | assumption | omega); k_whole); intro h' tk' t' F' N'; (try dsimp only)))
local macro_rules | `(tactic| walk_at "call builtin:min") => `(tactic| (k_here; (with_reducible show wpAny _ _ (call (Value.builtin _) [Value.int _ _, Value.int _ _, Value.int _ _]) _ _ _); k_dflt (refine' min3_K ?hh ?F ?N ?_; (case hh => exact rfl); (case F => k_asm); (case N => k_asm); k_whole); intro h' tk' t' F' N'; (try dsimp only)))

theorem lawin_loop {q1 q2 q3 q4 q5 q6 q7 q8 q9 q10 q11 q12 q13 q14 q15 q16 q17 q18 q19 q20 q21 q22 q23 q24 q25 q26 q27 q28 q29 q30 q31 q32 q33 q34 q35 q36 q37 q38 q39 q40 q41 q42 q43 q44 q45 q46 q47 q48 q49 q50 q51 q52 q53 q54 q55 q56 q57 q58 q59 q60 q61 q62 q63 q64 q65 q66 q67 q68 q69 q70 q71 q72 q73 : Pos} {ii : Nat} {ti : Tok} (B : Below A₀ base fr h₀) (X : (hd.heap_39 w.params).In h₀) (T : Top p loose mean mg mb h₀) (C : CodeHd h₀ 176 172)  (F : Fr h₀ L s.heap m) (N : News h₀ L s.heap ((L + 1, oc) :: (cl, ({ cls := .type "list", data := .seq #[.int c0 u0, .int c1 u1, .int c2 u2] nc } : Obj)) :: (x, instObj 192 dx) :: (dx, dictOf (edD w.params c0 c1 c2 lo ex k1 k2 k3 k4 k5 k6 v1 v2 v3 v6) n) :: (Tl ++ (a ++ mat)))) (ts : TS Tl) (H : MatL lw M rs mat (n1 + 1) (n2 + 1) V) (hrows : m (Str.ofString "rows") = some (.ref M)) (hcosts : m (Str.ofString "costs") = some (.ref cl)) (hhere : m (Str.ofString "here") = some (.str U1 tu1)) (hoc : oc.data = .cell (some (.str U2 tu2))) (hU1 : U1.length = n1 + 1) (hU2 : U2.length = n2 + 1) (hn1 : n1 ≤ 8) (hn2 : n2 ≤ 8) (hi0 : m (Str.ofString "i") = some (.int (1 + (ii : Int)) ti)) (hii : ii < n1) (ha : ∀ p ∈ a, ∀ r ∈ rs, p.1 ≠ r) (offa : ∀ p ∈ a, p.1 ≠ 172) (hpre : ∀ p ∈ [(L + 1, oc), (cl, ({ cls := .type "list", data := .seq #[.int c0 u0, .int c1 u1, .int c2 u2] nc } : Obj)), (x, instObj 192 dx), (dx, dictOf (edD w.params c0 c1 c2 lo ex k1 k2 k3 k4 k5 k6 v1 v2 v3 v6) n)], ∀ r ∈ rs, p.1 ≠ r) (offl : L + 1 ≠ 172) (offc : cl ≠ 172) (offx : x ≠ 172) (offd : dx ≠ 172) (hdp : dp + 100 < recursionLimit) (hun : un + 1024 < cLine) 
  (hQ : ∀ h' tk' vj Tl' mat' V', TS Tl' → Fr h₀ L h' (fun y => if y = Str.ofString "j" then vj else m y) → News h₀ L h' ((L + 1, oc) :: (cl, ({ cls := .type "list", data := .seq #[.int c0 u0, .int c1 u1, .int c2 u2] nc } : Obj)) :: (x, instObj 192 dx) :: (dx, dictOf (edD w.params c0 c1 c2 lo ex k1 k2 k3 k4 k5 k6 v1 v2 v3 v6) n) :: (Tl' ++ (a ++ mat'))) → MatL lw M rs mat' (n1 + 1) (n2 + 1) V' → mat'.map (·.1) = mat.map (·.1) → (∀ k, k < n2 → V' (ii + 1) (k + 1) = min (min (V ii (k + 1) + lfst c0 c1 c2 U1 (ii + 1)) (V' (ii + 1) k + lfst c0 c1 c2 U2 (k + 1))) (V ii k + lgst c0 c1 c2 U1 U2 (ii + 1) (k + 1))) → (∀ p q, p ≠ ii + 1 ∨ q = 0 → V' p q = V p q) → Q .next { s with heap := h', toks := tk' }) :
  wpAny (model PySem.Challenge.rw_bs0041_01.row.prog w) (({ handled := none, depth := dp, frames := some fr, guards := gd, units := un } : Around).deeper (lawEnv L fa cd)) (exec (.For (.Name (Str.ofString "j") q1) (.Call (.Name (Str.ofString "range") q2) [(.Constant (.int 1) 0 q3), (.Call (.Name (Str.ofString "len") q4) [(.Name (Str.ofString "there") q5)] [] q6)] [] q7) [(.Assign [(.Subscript (.Subscript (.Name (Str.ofString "rows") q8) (.Name (Str.ofString "i") q9) q10) (.Name (Str.ofString "j") q11) q12)] (.Call (.Name (Str.ofString "min") q13) [(.BinOp (.Subscript (.Subscript (.Name (Str.ofString "rows") q14) (.BinOp (.Name (Str.ofString "i") q15) .Sub (.Constant (.int 1) 0 q16) q17) q18) (.Name (Str.ofString "j") q19) q20) .Add (.Call (.Name (Str.ofString "_law_step") q21) [(.Subscript (.Name (Str.ofString "here") q22) (.BinOp (.Name (Str.ofString "i") q23) .Sub (.Constant (.int 1) 0 q24) q25) q26), (.Subscript (.Name (Str.ofString "here") q27) (.Name (Str.ofString "i") q28) q29), (.Name (Str.ofString "costs") q30)] [] q31) q32), (.BinOp (.Subscript (.Subscript (.Name (Str.ofString "rows") q33) (.Name (Str.ofString "i") q34) q35) (.BinOp (.Name (Str.ofString "j") q36) .Sub (.Constant (.int 1) 0 q37) q38) q39) .Add (.Call (.Name (Str.ofString "_law_step") q40) [(.Subscript (.Name (Str.ofString "there") q41) (.BinOp (.Name (Str.ofString "j") q42) .Sub (.Constant (.int 1) 0 q43) q44) q45), (.Subscript (.Name (Str.ofString "there") q46) (.Name (Str.ofString "j") q47) q48), (.Name (Str.ofString "costs") q49)] [] q50) q51), (.BinOp (.Subscript (.Subscript (.Name (Str.ofString "rows") q52) (.BinOp (.Name (Str.ofString "i") q53) .Sub (.Constant (.int 1) 0 q54) q55) q56) (.BinOp (.Name (Str.ofString "j") q57) .Sub (.Constant (.int 1) 0 q58) q59) q60) .Add (.Call (.Name (Str.ofString "_law_pair") q61) [(.Subscript (.Name (Str.ofString "here") q62) (.Name (Str.ofString "i") q63) q64), (.Subscript (.Name (Str.ofString "there") q65) (.Name (Str.ofString "j") q66) q67), (.Name (Str.ofString "costs") q68)] [] q69) q70)] [] q71) q72)] [] q73) (lawEnv L fa cd)) Q E s := by
  revert X; k_fill; intro X
  refine wpAny_For ?_
  k_steps
  with_reducible rename Fr _ _ _ _ => FL
  with_reducible rename News _ _ _ _ => NL
  with_reducible rename IsRange _ _ _ _ _ _ _ _ => hrg
  refine range_mat (L := L) (n := n2) (pre := [(L + 1, oc), (cl, ({ cls := .type "list", data := .seq #[.int c0 u0, .int c1 u1, .int c2 u2] nc } : Obj)), (x, instObj 192 dx), (dx, dictOf (edD w.params c0 c1 c2 lo ex k1 k2 k3 k4 k5 k6 v1 v2 v3 v6) n)]) (a := a) (mat := mat) rfl rfl rfl rfl ts FL NL hrg (by omega) (by omega) (by omega) (fun i m₁ mat₁ => ∃ vj V₁, m₁ = (fun y => if y = Str.ofString "j" then vj else m y) ∧ MatL lw M rs mat₁ (n1 + 1) (n2 + 1) V₁ ∧ (∀ k, k < i → V₁ (ii + 1) (k + 1) = min (min (V ii (k + 1) + lfst c0 c1 c2 U1 (ii + 1)) (V₁ (ii + 1) k + lfst c0 c1 c2 U2 (k + 1))) (V ii k + lgst c0 c1 c2 U1 U2 (ii + 1) (k + 1))) ∧ (∀ p q, p ≠ ii + 1 ∨ q = 0 → V₁ p q = V p q)) ?h0 ?step ?done
  case h0 => exact ⟨m (Str.ofString "j"), V, by funext y; split <;> simp_all, H, fun k hk => absurd hk (Nat.not_lt_zero _), fun _ _ _ => rfl⟩
  case done =>
    rintro h' tk m' Tl' mat' ts' F' N' hm' ⟨vj, V₁, rfl, H', hk, hq⟩
    exact hQ h' tk vj Tl' mat' V₁ ts' F' N' H' hm' hk hq
  case step =>
    rintro i m₁ tv mat₁ Tl₁ h₁ tk₁ its E' hi ⟨vj, V₁, rfl, H₁, hk, hq⟩ ts₁ hits hitm hmm F₁ N₁
    have hit0 : ∀ p ∈ its ++ a, p.1 ≠ 172 := off_both hits offa
    have hitr : ∀ p ∈ its ++ a, ∀ r ∈ rs, p.1 ≠ r := fun p hp r hr => (List.mem_append.mp hp).elim (fun hp => by
      obtain ⟨k, hk⟩ := List.mem_iff_getElem?.mp hr
      obtain ⟨o, ho, _⟩ := H.rows k r hk
      exact hitm p hp _ ho) fun hp => ha p hp r hr
    clear FL NL hrg H
    simp only [List.cons_append, List.nil_append] at N₁
    have e3 : lfst c0 c1 c2 U2 (i + 1) = lsv c0 c1 c2 (Txt.item U2 (1 + (i : Int) - 1)) (Txt.item U2 (1 + (i : Int))) := by
      unfold lfst
      rw [show ((i + 1 : Nat) : Int) = 1 + (i : Int) by omega]
    have e4 : lfst c0 c1 c2 U1 (ii + 1) = lsv c0 c1 c2 (Txt.item U1 (1 + (ii : Int) - 1)) (Txt.item U1 (1 + (ii : Int))) := by
      unfold lfst
      rw [show ((ii + 1 : Nat) : Int) = 1 + (ii : Int) by omega]
    have e5 : lgst c0 c1 c2 U1 U2 (ii + 1) (i + 1) = lpv c0 c1 c2 (Txt.item U1 (1 + (ii : Int))) (Txt.item U2 (1 + (i : Int))) := by
      unfold lgst
      rw [show ((ii + 1 : Nat) : Int) = 1 + (ii : Int) by omega, show ((i + 1 : Nat) : Int) = 1 + (i : Int) by omega]
    k_steps
    with_reducible rename Fr h₀ _ _ _ => FF
    with_reducible rename News h₀ _ _ _ => NN
    with_reducible rename MatL _ _ _ _ _ _ _ => HH
    with_reducible rename List.map _ _ = List.map _ _ => hmap
    have g1 : ((1 : Int) + (i : Int)).toNat = i + 1 := by omega
    have g2 : ((1 : Int) + (i : Int) - 1).toNat = i := by omega
    have g3 : ((1 : Int) + (ii : Int)).toNat = ii + 1 := by omega
    have g4 : ((1 : Int) + (ii : Int) - 1).toNat = ii := by omega
    refine .next (by assumption) FF NN (hmap.trans hmm) ⟨some (.int (1 + (i : Int)) tv), _, ?_, HH, ?_, ?_⟩
    · funext y; dsimp only; split <;> rfl
    · intro k hk'
      rw [g1, g2, g3, g4, ← e3, ← e4, ← e5]
      unfold upd2
      by_cases e : k = i
      · subst e
        rw [if_pos ⟨rfl, rfl⟩, if_neg (by omega), hq ii (k + 1) (.inl (by omega)), hq ii k (.inl (by omega))]
      · rw [if_neg (by omega), if_neg (by omega)]
        exact hk k (by omega)
    · intro p q hq'
      unfold upd2
      rw [if_neg (fun z => by have z1 := z.1; have z2 := z.2; rw [g3] at z1; rw [g1] at z2; rcases hq' with h | h; exact h z1; omega)]
      exact hq p q hq'
theorem lawout_loop {q1 q2 q3 q4 q5 q6 q7 q8 q9 q10 q11 q12 q13 q14 q15 q16 q17 q18 q19 q20 q21 q22 q23 q24 q25 q26 q27 q28 q29 q30 q31 q32 q33 q34 q35 q36 q37 q38 q39 q40 q41 q42 q43 q44 q45 q46 q47 q48 q49 q50 q51 q52 q53 q54 q55 q56 q57 q58 q59 q60 q61 q62 q63 q64 q65 q66 q67 q68 q69 q70 q71 q72 q73 q74 q75 q76 q77 q78 q79 q80 q81 : Pos} (B : Below A₀ base fr h₀) (X : (hd.heap_39 w.params).In h₀) (T : Top p loose mean mg mb h₀) (C : CodeHd h₀ 176 172)  (F : Fr h₀ L s.heap m) (N : News h₀ L s.heap ((L + 1, oc) :: (cl, ({ cls := .type "list", data := .seq #[.int c0 u0, .int c1 u1, .int c2 u2] nc } : Obj)) :: (x, instObj 192 dx) :: (dx, dictOf (edD w.params c0 c1 c2 lo ex k1 k2 k3 k4 k5 k6 v1 v2 v3 v6) n) :: (Tl ++ ([] ++ mat)))) (ts : TS Tl) (H : MatL lw M rs mat (n1 + 1) (n2 + 1) V) (hrows : m (Str.ofString "rows") = some (.ref M)) (hcosts : m (Str.ofString "costs") = some (.ref cl)) (hhere : m (Str.ofString "here") = some (.str U1 tu1)) (hoc : oc.data = .cell (some (.str U2 tu2))) (hU1 : U1.length = n1 + 1) (hU2 : U2.length = n2 + 1) (hn1 : n1 ≤ 8) (hn2 : n2 ≤ 8) (hpre : ∀ p ∈ [(L + 1, oc), (cl, ({ cls := .type "list", data := .seq #[.int c0 u0, .int c1 u1, .int c2 u2] nc } : Obj)), (x, instObj 192 dx), (dx, dictOf (edD w.params c0 c1 c2 lo ex k1 k2 k3 k4 k5 k6 v1 v2 v3 v6) n)], ∀ r ∈ rs, p.1 ≠ r) (offl : L + 1 ≠ 172) (offc : cl ≠ 172) (offx : x ≠ 172) (offd : dx ≠ 172) (hdp : dp + 100 < recursionLimit) (hun : un + 1024 < cLine) 
  (hQ : ∀ h' tk' vi vj Tl' mat' V', TS Tl' → Fr h₀ L h' (fun y => if y = Str.ofString "j" then vj else if y = Str.ofString "i" then vi else m y) → News h₀ L h' ((L + 1, oc) :: (cl, ({ cls := .type "list", data := .seq #[.int c0 u0, .int c1 u1, .int c2 u2] nc } : Obj)) :: (x, instObj 192 dx) :: (dx, dictOf (edD w.params c0 c1 c2 lo ex k1 k2 k3 k4 k5 k6 v1 v2 v3 v6) n) :: (Tl' ++ ([] ++ mat'))) → MatL lw M rs mat' (n1 + 1) (n2 + 1) V' → (∀ p q, p < n1 → q < n2 → V' (p + 1) (q + 1) = min (min (V' p (q + 1) + lfst c0 c1 c2 U1 (p + 1)) (V' (p + 1) q + lfst c0 c1 c2 U2 (q + 1))) (V' p q + lgst c0 c1 c2 U1 U2 (p + 1) (q + 1))) → (∀ p q, p = 0 ∨ q = 0 → V' p q = V p q) → Q .next { s with heap := h', toks := tk' }) :
  wpAny (model PySem.Challenge.rw_bs0041_01.row.prog w) (({ handled := none, depth := dp, frames := some fr, guards := gd, units := un } : Around).deeper (lawEnv L fa cd)) (exec (.For (.Name (Str.ofString "i") q1) (.Call (.Name (Str.ofString "range") q2) [(.Constant (.int 1) 0 q3), (.Call (.Name (Str.ofString "len") q4) [(.Name (Str.ofString "here") q5)] [] q6)] [] q7) [(.For (.Name (Str.ofString "j") q8) (.Call (.Name (Str.ofString "range") q9) [(.Constant (.int 1) 0 q10), (.Call (.Name (Str.ofString "len") q11) [(.Name (Str.ofString "there") q12)] [] q13)] [] q14) [(.Assign [(.Subscript (.Subscript (.Name (Str.ofString "rows") q15) (.Name (Str.ofString "i") q16) q17) (.Name (Str.ofString "j") q18) q19)] (.Call (.Name (Str.ofString "min") q20) [(.BinOp (.Subscript (.Subscript (.Name (Str.ofString "rows") q21) (.BinOp (.Name (Str.ofString "i") q22) .Sub (.Constant (.int 1) 0 q23) q24) q25) (.Name (Str.ofString "j") q26) q27) .Add (.Call (.Name (Str.ofString "_law_step") q28) [(.Subscript (.Name (Str.ofString "here") q29) (.BinOp (.Name (Str.ofString "i") q30) .Sub (.Constant (.int 1) 0 q31) q32) q33), (.Subscript (.Name (Str.ofString "here") q34) (.Name (Str.ofString "i") q35) q36), (.Name (Str.ofString "costs") q37)] [] q38) q39), (.BinOp (.Subscript (.Subscript (.Name (Str.ofString "rows") q40) (.Name (Str.ofString "i") q41) q42) (.BinOp (.Name (Str.ofString "j") q43) .Sub (.Constant (.int 1) 0 q44) q45) q46) .Add (.Call (.Name (Str.ofString "_law_step") q47) [(.Subscript (.Name (Str.ofString "there") q48) (.BinOp (.Name (Str.ofString "j") q49) .Sub (.Constant (.int 1) 0 q50) q51) q52), (.Subscript (.Name (Str.ofString "there") q53) (.Name (Str.ofString "j") q54) q55), (.Name (Str.ofString "costs") q56)] [] q57) q58), (.BinOp (.Subscript (.Subscript (.Name (Str.ofString "rows") q59) (.BinOp (.Name (Str.ofString "i") q60) .Sub (.Constant (.int 1) 0 q61) q62) q63) (.BinOp (.Name (Str.ofString "j") q64) .Sub (.Constant (.int 1) 0 q65) q66) q67) .Add (.Call (.Name (Str.ofString "_law_pair") q68) [(.Subscript (.Name (Str.ofString "here") q69) (.Name (Str.ofString "i") q70) q71), (.Subscript (.Name (Str.ofString "there") q72) (.Name (Str.ofString "j") q73) q74), (.Name (Str.ofString "costs") q75)] [] q76) q77)] [] q78) q79)] [] q80)] [] q81) (lawEnv L fa cd)) Q E s := by
  revert X; k_fill; intro X
  refine wpAny_For ?_
  k_steps
  with_reducible rename Fr _ _ _ _ => FL
  with_reducible rename News _ _ _ _ => NL
  with_reducible rename IsRange _ _ _ _ _ _ _ _ => hrg
  refine range_mat (L := L) (n := n1) (pre := [(L + 1, oc), (cl, ({ cls := .type "list", data := .seq #[.int c0 u0, .int c1 u1, .int c2 u2] nc } : Obj)), (x, instObj 192 dx), (dx, dictOf (edD w.params c0 c1 c2 lo ex k1 k2 k3 k4 k5 k6 v1 v2 v3 v6) n)]) (a := []) (mat := mat) rfl rfl rfl rfl ts FL NL hrg (by omega) (by omega) (by omega) (fun i m₁ mat₁ => ∃ vi vj V₁, m₁ = (fun y => if y = Str.ofString "j" then vj else if y = Str.ofString "i" then vi else m y) ∧ MatL lw M rs mat₁ (n1 + 1) (n2 + 1) V₁ ∧ (∀ p q, p < i → q < n2 → V₁ (p + 1) (q + 1) = min (min (V₁ p (q + 1) + lfst c0 c1 c2 U1 (p + 1)) (V₁ (p + 1) q + lfst c0 c1 c2 U2 (q + 1))) (V₁ p q + lgst c0 c1 c2 U1 U2 (p + 1) (q + 1))) ∧ (∀ p q, p = 0 ∨ q = 0 → V₁ p q = V p q)) ?h0 ?step ?done
  case h0 => exact ⟨m (Str.ofString "i"), m (Str.ofString "j"), V, by funext y; (repeat' split) <;> first | rfl | (subst_vars; rfl), H, fun p q hp => absurd hp (Nat.not_lt_zero _), fun _ _ _ => rfl⟩
  case done =>
    rintro h' tk m' Tl' mat' ts' F' N' hm' ⟨vi, vj, V₁, rfl, H', hk, hq⟩
    exact hQ h' tk vi vj Tl' mat' V₁ ts' F' N' H' hk hq
  case step =>
    rintro i m₁ tv mat₁ Tl₁ h₁ tk₁ its E' hi ⟨vi, vj, V₁, rfl, H₁, hk, hq⟩ ts₁ hits hitm hmm F₁ N₁
    have hit0 : ∀ p ∈ its ++ [], p.1 ≠ 172 := off_both hits (fun _ h => nomatch h)
    have hitr : ∀ p ∈ its ++ [], ∀ r ∈ rs, p.1 ≠ r := fun p hp r hr => (List.mem_append.mp hp).elim (fun hp => by
      obtain ⟨k, hk⟩ := List.mem_iff_getElem?.mp hr
      obtain ⟨o, ho, _⟩ := H.rows k r hk
      exact hitm p hp _ ho) fun hp => nomatch hp
    refine wpAny_execs_cons (lawin_loop (lo := lo) (ex := ex) (ti := tv) (tu1 := tu1) (tu2 := tu2) (Tl := Tl₁) (a := its ++ []) (mat := mat₁) (ii := i) (s := { s with heap := h₁, toks := tk₁ }) B X T C F₁ N₁ ts₁ H₁ ?_ ?_ ?_ hoc hU1 hU2 hn1 hn2 ?_ hi hitr hit0 hpre offl offc offx offd hdp hun fun h' tk' vj' Tl' mat' V' ts' F' N' H' hm' hk' hq' => ?_)
    · exact hrows
    · exact hcosts
    · exact hhere
    · rfl
    refine wpAny_execs_nil ?_
    refine .next ts' F' N' (hm'.trans hmm) ⟨some (.int (1 + (i : Int)) tv), vj', V', ?_, H', ?_, ?_⟩
    · funext y; dsimp only; (repeat' split) <;> first | rfl | contradiction
    · intro p q hp hq2
      by_cases e : p = i
      · subst e
        rw [hk' q hq2, hq' p (q + 1) (.inl (by omega)), hq' p q (.inl (by omega))]
      · rw [hq' (p + 1) (q + 1) (.inl (by omega)), hq' p (q + 1) (.inl (by omega)), hq' (p + 1) q (.inl (by omega)), hq' p q (.inl (by omega))]
        exact hk p q (by omega) hq2
    · intro p q hpq
      by_cases e : p = i + 1
      · rw [hq' p q (.inr (by omega))]
        exact hq p q hpq
      · rw [hq' p q (.inl e)]
        exact hq p q hpq
end
end Mine
-- Ed15
namespace Mine
local macro_rules | `(tactic| walk_at "MY pad") => `(tactic| skip)
theorem fresh_Ed15 : True := by (w_top off; exact trivial)
section
variable {prog : Program} {w : World} {A : Around} {E : Value → Shared → Prop} {s : Shared} {h₀ : Heap} {L : Addr} {m : Str → Option Value} {env : Env}
theorem Assign_ListComp_S {elt iter : Expr} {x y : Str} {px py : Pos} {scope : Scope} {cl : List (Str × Addr)} {pos spos : Pos} {Q : Flow → Shared → Prop} (hLe : env.locals = L)
    (hsw : swapsWith (.ListComp elt [⟨.Name x px, iter, [], 0⟩] scope pos) (some (.Name y py)) spos.line env = pure true)
    (hclos : closureFor scope env = pure cl) (hcell : ∀ z ∈ scope.names, z.2 ≠ .cell) (hkind : scope.kind = .function)
    (hnames : ∀ z ∈ scope.names, z.2 = .local → scope.names.lookup z.1 = some .local) (hx : scope.names.lookup x = some .local)
    (hy : env.kindOf y = some .local) (hp : (env.scope.kind == .class || (env.scope.kind == .module && env.locals != env.globals)) = false)
    (h : wpAny (model prog w) A (eval iter env) (fun xv s₁ => ∃ U t news, xv = .str U t ∧ A.handled = none ∧ U.cps.all (· < 128) = true ∧ U.cps.size ≤ sizeLine ∧ Fr h₀ L s₁.heap m ∧ News h₀ L s₁.heap news ∧
      ∀ g, LCg.CompRest prog w A h₀ L m env elt x scope cl { s₁ with heap := g } (fun _ => True) (SignAt U) (LCg.FinA h₀ L m { s₁ with heap := g } y Q) U.cps.size 0 [] news) E s)
    (hs : ∀ x, foldedSetIterable iter env x = pure x := by intro _; rfl) :
    wpAny (model prog w) A (exec (.Assign [.Name y py] (.ListComp elt [⟨.Name x px, iter, [], 0⟩] scope pos) spos) env) Q E s := by
  subst hLe
  rw [exec_Assign_Name_used _ _ _ _ hsw]
  refine wpAny_bind (wpAny_standAt (wpAny_bind ?_))
  show wpAny _ A (do let _ ← comprehension (.ListComp elt [⟨.Name x px, iter, [], 0⟩] scope pos) scope env _ (newList []) false (eval iter env) (some (assign (.Name y py) env))) _ _ s
  refine wpAny_bind (wpAny_mono (wpAny_comprehension_free (use := some (assign (.Name y py) env)) (Q := fun _ s' => Q .next s') rfl hs hclos hkind hnames
    (wpAny_mono h (fun xv s₁ h₁ => ?_) fun _ _ e => e)) (fun _ s' hq => wpAny_pure (wpAny_pure hq)) fun _ _ e => e)
  obtain ⟨U, t, news, rfl, hh, hasc, hsz, F, N, R⟩ := h₁
  refine wpAny_pyIter_ascii hasc ?_
  have up : ∀ b o, s₁.heap.get? b = some o → (s₁.heap.push { cls := .type "str_ascii_iterator", data := .fields #[.str U t, .int 0 0] }).get? b = some o := fun b o e => Heap.get?_push_of_some _ e
  refine LCg.block_U (Walks.strAscii hh s₁.heap.objs.size U t) hsz (fun i h st => by obtain ⟨o, e, _⟩ := st; exact ⟨o, e⟩) (fun i h h' o nw st e e' _ _ _ => by obtain ⟨o', q, r⟩ := st; rw [e] at q; cases q; exact ⟨o, e', r⟩) hcell hkind hx ⟨_, Heap.get?_push_size _ rfl, rfl, rfl⟩ (fun b hb => ?_)
    (F.keeps up) (N.grown up) (Nat.ne_of_lt F.ns.lt) (next_is_new F) (fun p hp => Nat.ne_of_lt (Heap.lt_size (N p hp).1)) trivial (R _) ?_
  · rw [List.mem_singleton.mp hb]
    show s₁.heap.objs.size < (s₁.heap.push _).objs.size
    rw [Heap.size_push]; exact Nat.lt_succ_self _
  · intro D C h' tk m' ys news' F' N' o1 hn hC₀ hD₀ hCL hDL hCD offC fin
    show wpAny _ A (assign (.Name y py) env (.ref D)) _ _ _
    refine wpAny_assign_Name (wpAny_storeName_local hy F'.ns (fun h₂ hn₂ hs₂ => ?_) hp)
    have hL₀ : h₀.get? env.locals = none := Heap.get?_none_of_le F'.above
    have F₂ : Fr h₀ env.locals h₂ (fun z => if z = y then some (.ref D) else m z) := ⟨hn₂, fun b o e => hs₂.extBut b o (fun q => by rw [q, hL₀] at e; cases e) (F'.keep b o e), F'.above⟩
    refine ⟨m', hn.sameBut hs₂ hCL, fun h'' hs'' => fin D h'' _ (F₂.change hs'' hCL hC₀) (fun p hp => ?_) o1⟩
    have z : h₂.get? p.1 = some p.2 := hs₂.extBut _ _ (N' p hp).2.1 (N' p hp).1
    refine ⟨hs''.extBut _ _ ?_ z, (N' p hp).2⟩
    rcases List.mem_cons.mp hp with rfl | hp
    · exact Ne.symm hCD
    · exact offC p hp
end
section
variable {w : World} {p : Program} {loose : List Str} {mean : ExcName → Option Value} {mg mb : Str → Option Value} {dp un : Nat} {gd : Option (List Code)} {fr : List Env} {A₀ : Around} {base h₀ : Heap} {L fa : Addr} {cd : Value} {m : Str → Option Value} {s : Shared} {Q : Flow → Shared → Prop} {E : Value → Shared → Prop}
variable {l : Addr} {vs : List Value} {ns : List Int} {c0 c1 c2 : Int} {u0 u1 u2 : Tok} {nc : Nat} {cl x dx : Addr} {lo ex : Bool} {k1 k2 k3 k4 k5 k6 v1 v2 v3 v6 : Tok} {n : Nat} {a Tl : List (Addr × Obj)}
variable {oc : Obj} {lw M : Addr} {rs : List Addr} {mat : List (Addr × Obj)} {n1 n2 : Nat} {V : Nat → Nat → Int} {U1 U2 : Str} {tu1 tu2 tl : Tok} 
local macro_rules | `(tactic| k_room) => `(tactic| ktr_room)
local macro_rules | `(tactic| walk_at "MY rest") => `(tactic| (
  refine' kp_rest ?k1 ?k2 ?k3 ?k4 ?k5 ?kA ?kF ?kK ?k6 ?k7 ?k8 ?kV ?kP ?kG ?kB ?_ ?c2 ?c3 ?c4 ?c5
  (case kA => exact rfl)
  (case kF => first | exact rfl | assumption)
  (case kK => first | exact rfl | assumption)
  (case k1 => k_asm)
  (case k2 => k_asm)
  (case k3 => k_asm)
  (case k4 => k_asm)
  (case k5 => k_asm)
  (case k6 => k_is)
  (case k7 => k_is)
  (case k8 => k_room)
  (case kV => kl_lit)
  (case kP => exact rfl)
  (case kG => exact fun _ => rfl)
  (case kB => exact fun _ => locs rfl)
  (case c5 => decide)
  (case c2 => exact rfl)
  (case c3 => exact rfl)
  (case c4 => exact rfl)
  k_whole
  intro D' g' L' h' l1 FG' F' N' B' X' T'
  (try k_lt l1); (try dsimp only); (try k_lift B'); (try k_fold)))
local macro_rules | `(tactic| walk_at "MY plain") => `(tactic| (
  refine' code_def ?k1 ?k2 ?k3 ?k4 ?k5 ?kA ?kF ?kK ?k6 ?k7 ?k8 ?k9 ?kB ?_ ?c2 ?c3 ?c4 ?c5
  (case kA => exact rfl)
  (case kF => first | exact rfl | assumption)
  (case kK => first | exact rfl | assumption)
  (case k1 => k_asm)
  (case k2 => k_asm)
  (case k3 => k_asm)
  (case k4 => k_asm)
  (case k5 => k_asm)
  (case k6 => k_is)
  (case k7 => k_is)
  (case k8 => k_room)
  (case k9 => first | exact BindsTo.of_eq rfl | exact binds_K (by k_in) rfl (by k_is) rfl rfl rfl)
  (case c5 => decide)
  (case kB => exact locs rfl)
  (case c2 => exact rfl)
  (case c3 => exact rfl)
  (case c4 => exact rfl)
  k_whole
  intro g' L' h' FG' F' N' B' X' T'
  (try dsimp only); (try k_lift B'); (try k_fold)))
local macro_rules | `(tactic| walk_at "MY plainC") => `(tactic| (refine' code_defC ?k1 ?k2 ?k3 ?k4 ?k5 ?kA ?kF ?kK ?k6 ?k7 ?k8 ?k9 ?kB ?kD ?_ ?c2 ?c3 ?c4; (case kA => exact rfl); (case kF => first | exact rfl | assumption); (case kK => first | exact rfl | assumption); (case k1 => k_asm); (case k2 => k_asm); (case k3 => k_asm); (case k4 => k_asm); (case k5 => k_asm); (case k6 => k_is); (case k7 => k_is); (case k8 => k_room); (case k9 => first | exact BindsTo.of_eq rfl | exact binds_K (by k_in) rfl (by k_is) rfl rfl rfl); (case kB => exact rfl); (case kD => decide +kernel); (case c2 => exact rfl); (case c3 => exact rfl); (case c4 => exact rfl); k_whole; intro g' L' h' tk' cells' FG' F' N' Y' B' X' T' l1; (try k_lt l1); k_cells Y'; (try simp only [List.cons_append, List.nil_append] at N'); (try dsimp only); (try k_lift B'); (try k_fold)))
local macro_rules | `(tactic| walk_at "getAttr ref") => `(tactic| (k_here; (with_reducible show wpAny _ _ (getAttr (Value.ref _) (PySem.Str.ofString "_ident") _) _ _ _); k_dflt (refine' get_sm ?k1 ?k2 ?k3 ?k4 ?k5 ?k6 ?k7 ?k8 ?k9 ?k10 ?k11 ?k12 ?_; (case k3 => k_inst); (case k1 => k_asm); (case k2 => k_asm); (case k6 => k_is); (case k4 => k_is); (case k5 => k_is); (case k7 => k_is); (case k8 => k_is); (case k9 => decide +kernel); (case k10 => k_get); (case k11 => k_is); (case k12 => k_handed); k_whole)))
local macro_rules | `(tactic| walk_at "eval Call Attribute") => `(tactic| (k_here; (with_reducible show wpAny _ _ (eval (Expr.Call (Expr.Attribute (Expr.Name _ _) _ _) [Expr.Starred _ _] [] _) _) _ _ _); refine starMethod ?_))
local macro_rules | `(tactic| walk_at "MY restC") => `(tactic| (
  refine' kpc_rest ?k1 ?k2 ?k3 ?k4 ?k5 ?kA ?kF ?kK ?k6 ?k7 ?k8 ?kV ?kP ?kG ?kB ?kD ?_ ?c2 ?c3 ?c4
  (case kA => exact rfl)
  (case kF => first | exact rfl | assumption)
  (case kK => first | exact rfl | assumption)
  (case k1 => k_asm)
  (case k2 => k_asm)
  (case k3 => k_asm)
  (case k4 => k_asm)
  (case k5 => k_asm)
  (case k6 => k_is)
  (case k7 => k_is)
  (case k8 => k_room)
  (case kV => kl_lit)
  (case kP => exact rfl)
  (case kG => exact fun _ => rfl)
  (case kB => exact fun _ => rfl)
  (case kD => decide +kernel)
  (case c2 => exact rfl)
  (case c3 => exact rfl)
  (case c4 => exact rfl)
  k_whole
  intro D' g' L' h' tk' cells' l1 l2 FG' F' N' Y' B' X' T'
  (try k_lt l1); (try k_lt2 l2); k_cells Y'; (try simp only [List.cons_append, List.nil_append] at N'); (try dsimp only); (try k_lift B'); (try k_fold)))
local macro_rules | `(tactic| walk_at "call ref") => `(tactic| (k_here; (with_reducible show wpAny _ _ (call (Value.ref 95) _) _ _ _); k_dflt (refine wpAny_call ?_; refine' ident_c ?k1 ?k2 ?k3 ?k4 ?k5 ?k6 ?k7 ?k8 ?k9 ?_; (case k1 => k_asm); (case k2 => k_asm); (case k3 => k_asm); (case k4 => k_asm); (case k5 => k_asm); (case k6 => first | exact rfl | assumption); (case k7 => first | exact rfl | assumption); (case k8 => (dsimp only [Arnd, Around.deeper] at *; omega)); (case k9 => (dsimp only [Arnd, Around.deeper] at *; omega)); k_whole); intro h' tk' F' N'; (try dsimp only); (try k_sweep)))
local macro_rules | `(tactic| walk_at "MY memT") => `(tactic| (first | (refine List.mem_append_left _ ?_; assumption) | (refine List.Mem.tail _ ?_; walk_at "MY memT")))
local macro_rules | `(tactic| walk_at "MY split") => `(tactic| (first | exact Split.base | (refine' Split.cons ?sp; (case sp => walk_at "MY split"))))
local macro_rules | `(tactic| walk_at "MY off") => `(tactic| ((try dsimp only); simp only [List.forall_mem_cons, List.not_mem_nil, false_implies, implies_true, and_true]; (repeat' (refine And.intro ?_ ?_)); all_goals (first | assumption | (refine neN ?_; (try dsimp only); omega))))
local macro_rules | `(tactic| walk_at "eval Lambda") => `(tactic| (k_here; k_dflt (refine' kla_eval ?d0 ?_; (case d0 => exact rfl)); (first
  | (k_dflt (refine' lam_S1 ?ts ?F ?N ?hg ?T ?C ?off ?offo ?hq ?e1 ?e2 ?hcl ?_; (case ts => assumption); (case F => k_asm); (case N => k_asm); (case hg => walk_at "MY split"); (case T => k_asm); (case C => assumption); (case off => walk_at "MY off"); (case offo => assumption); (case hq => first | rfl | with_unfolding_all rfl); (case e1 => rfl); (case e2 => rfl); (case hcl => exact rfl); k_whole); intro f' c' oc' ct' h' tk' Tl' F' N' ts' hm' hc' l1'; (try simp only [List.cons_append, List.nil_append] at N'))
  | (k_dflt (refine' lam_S2 ?ts ?F ?N ?hg ?T ?C ?off ?offo ?hq ?e1 ?e2 ?hcl ?_; (case ts => assumption); (case F => k_asm); (case N => k_asm); (case hg => walk_at "MY split"); (case T => k_asm); (case C => assumption); (case off => walk_at "MY off"); (case offo => assumption); (case hq => first | rfl | with_unfolding_all rfl); (case e1 => rfl); (case e2 => rfl); (case hcl => exact rfl); k_whole); intro f' c' oc' ct' h' tk' Tl' F' N' ts' hm' hc' l1'; (try simp only [List.cons_append, List.nil_append] at N')))))
local macro_rules | `(tactic| walk_at "call type:map") => `(tactic| (k_here; k_dflt (refine' map_K ?F ?N ?m ?c ?d ?_; (case F => k_asm); (case N => k_asm); (case m => k_mem); (case c => exact rfl); (case d => exact rfl); k_whole); intro h' mp' it' F' N' hX' hlt' hL' h0'; (try dsimp only)))
local macro_rules | `(tactic| walk_at "call builtin:any") => `(tactic| (k_here; k_dflt (refine' any_lam1 ?hh ?room ?F ?N ?X ?T ?M ?lt ?L ?h0 ?ho ?hoc ?hc ?hcs ?hcd ?hx ?hdx ?_; (case hh => exact rfl); (case room => (dsimp only [Arnd, Around.deeper] at *; omega)); (case F => k_asm); (case N => k_asm); (case X => k_asm); (case T => k_asm); (case M => assumption); (case lt => assumption); (case L => assumption); (case h0 => assumption); (case ho => k_mem); (case hoc => walk_at "MY memT"); (case hc => assumption); (case hcs => k_mem); (case hcd => assumption); (case hx => k_mem); (case hdx => k_mem); k_whole); intro h' tk' F' N'; (try dsimp only)))
local macro_rules | `(tactic| walk_at "call builtin:all") => `(tactic| (k_here; k_dflt (refine' all_lam2 ?hh ?room ?F ?N ?X ?T ?M ?lt ?L ?h0 ?ho ?hoc ?hc ?hcs ?hcd ?_; (case hh => exact rfl); (case room => (dsimp only [Arnd, Around.deeper] at *; omega)); (case F => k_asm); (case N => k_asm); (case X => k_asm); (case T => k_asm); (case M => assumption); (case lt => assumption); (case L => assumption); (case h0 => assumption); (case ho => k_mem); (case hoc => walk_at "MY memT"); (case hc => assumption); (case hcs => k_mem); (case hcd => assumption); k_whole); intro h' tk' F' N'; (try dsimp only)))
local macro_rules | `(tactic| walk_at "MY sub") => `(tactic| (first | assumption | (refine List.Mem.tail _ ?_; walk_at "MY sub")))
local macro_rules | `(tactic| walk_at "MY fin") => `(tactic| (with_reducible rename Fr h₀ _ _ _ => kF; with_reducible rename News h₀ _ _ _ => kN))
local macro_rules | `(tactic| walk_at "MY sub") => `(tactic| (first | assumption | exact List.Mem.head _ | (refine List.Mem.tail _ ?_; walk_at "MY sub")))
local macro_rules | `(tactic| walk_at "MY memO") => `(tactic| (first | exact List.mem_append.mpr (.inr (List.mem_append.mpr (.inr (by assumption)))) | (refine List.Mem.tail _ ?_; walk_at "MY memO")))
local macro_rules | `(tactic| walk_at "subscriptTail") => `(tactic| (k_here; (with_reducible show wpAny _ _ (subscriptTail _ _ (Value.ref _) (Value.int _ _)) _ _ _); k_dflt (refine' mat_row ?N ?H ?sub ?h0 ?h1 ?hN ?_; (case H => assumption); (case N => k_asm); (case sub => (intro q hq; walk_at "MY memO")); (case h0 => omega); (case h1 => omega); (case hN => omega); k_whole); (try dsimp only)))
local macro_rules | `(tactic| walk_at "getItem ref") => `(tactic| (k_here; (with_reducible show wpAny _ _ (getItem (Value.ref _) (Value.int _ _)) _ _ _); k_dflt (refine' mat_getRow ?N ?H ?sub ?h0 ?h1 ?hN ?_; (case H => assumption); (case N => k_asm); (case sub => (intro q hq; walk_at "MY memO")); (case h0 => omega); (case h1 => omega); (case hN => omega); k_whole); (try dsimp only)))
local macro_rules | `(tactic| walk_at "subscriptTail") => `(tactic| (k_here; (with_reducible show wpAny _ _ (subscriptTail _ _ (Value.ref (List.getD _ _ _)) (Value.int _ _)) _ _ _); k_dflt (refine' mat_cell ?N ?H ?sub ?hi ?h0 ?h1 ?hN ?_; (case H => assumption); (case N => k_asm); (case sub => (intro q hq; walk_at "MY memO")); (case hi => omega); (case h0 => omega); (case h1 => omega); (case hN => omega); k_whole); intro t'; (try dsimp only)))
local macro_rules | `(tactic| walk_at "setItem ref int") => `(tactic| (k_here; (with_reducible show wpAny _ _ (setItem (Value.ref (List.getD _ _ _)) (Value.int _ _) (Value.int _ _)) _ _ _); k_dflt (refine' mat_set ?ts ?F ?N ?S ?H ?hpre ?ha ?hi ?h0 ?h1 ?hN ?_; (case H => assumption); (case ts => assumption); (case F => k_asm); (case N => k_asm); (case S => walk_at "MY split"); (case hpre => assumption); (case ha => assumption); (case hi => omega); (case h0 => omega); (case h1 => omega); (case hN => omega); k_whole); intro h' own' F' N' H' hm'; (try simp only [List.cons_append, List.nil_append] at N'); (try dsimp only)))
local macro_rules | `(tactic| walk_at "MY look") => `(tactic| (first | rfl | assumption | (refine Eq.trans (if_neg (by decide)) ?_; walk_at "MY look")))
local macro_rules | `(tactic| walk_at "eval Name") => `(tactic| (k_here; k_dflt (refine' nameX_L ?F ?v ?_ ?a ?b; (case F => k_asm); (case a => rfl); (case b => rfl); (case v => ((try dsimp only); walk_at "MY look")); k_whole)))
local macro_rules | `(tactic| walk_at "callWith ref") => `(tactic| (k_here; (with_reducible show wpAny _ _ (callWith _ (Value.ref _) _ (backTo _ (starEach [Expr.Starred _ _] _)) []) _ _ _); k_dflt (refine' callWith_SM ?k1 ?k2 ?k3 ?k4 ?_; (case k1 => k_asm); (case k2 => k_asm); (case k3 => k_mem); (case k4 => k_is); k_whole)))
local macro_rules | `(tactic| walk_at "eval Call Attribute") => `(tactic| (k_here; k_dflt (refine' MethodCallL ?hl ?_; (case hl => assumption))))
local macro_rules | `(tactic| walk_at "call ref") => `(tactic| (k_here; (with_reducible show wpAny _ _ (call (Value.ref 225) _) _ _ _); k_dflt (refine wpAny_call ?_; refine' law_step_c ?B ?F ?X ?N ?T ?hf ?hke ?hm ?hdp ?hun ?ha ?hb ?_; (case B => k_asm); (case F => k_asm); (case X => k_asm); (case T => k_asm); (case hf => first | exact rfl | assumption); (case hke => first | exact rfl | assumption); (case N => k_asm); (case hm => walk_at "MY sub"); (case hdp => (dsimp only [Arnd, Around.deeper] at *; omega)); (case hun => (dsimp only [Arnd, Around.deeper] at *; omega)); (case ha => first | assumption | omega); (case hb => first | assumption | omega); k_whole); intro h' tk' t' F' N'; (try dsimp only)))
local macro_rules | `(tactic| walk_at "call ref") => `(tactic| (k_here; (with_reducible show wpAny _ _ (call (Value.ref 218) _) _ _ _); k_dflt (refine wpAny_call ?_; refine' law_pair_c ?B ?F ?X ?N ?T ?hf ?hke ?hm ?hdp ?hun ?ha ?hb ?_; (case B => k_asm); (case F => k_asm); (case X => k_asm); (case T => k_asm); (case hf => first | exact rfl | assumption); (case hke => first | exact rfl | assumption); (case N => k_asm); (case hm => walk_at "MY sub"); (case hdp => (dsimp only [Arnd, Around.deeper] at *; omega)); (case hun => (dsimp only [Arnd, Around.deeper] at *; omega)); (case ha => first | assumption | omega); (case hb => first | assumption | omega); k_whole); intro h' tk' t' F' N'; (try dsimp only)))
local macro_rules | `(tactic| walk_at "eval Name") => `(tactic| (k_here; (with_reducible show wpAny _ _ (eval _ (compEnvC _ _ _ _)) _ _ _); k_dflt (refine' name_cell_any ?c ?v ?_ ?a ?b ?d; (case a => rfl); (case b => rfl); (case c => rfl); (case d => decide); (case v => assumption); k_whole)))

theorem rows_stmt {q1 q2 q3 q4 q5 q6 q7 q8 q9 q10 q11 : Pos} (B : Below A₀ base fr h₀) (X : (hd.heap_39 w.params).In h₀) (T : Top p loose mean mg mb h₀) (C : CodeHd h₀ 176 172) (hlr : q1.line = q10.line)  (F : Fr h₀ L s.heap m) (N : News h₀ L s.heap ((L + 1, oc) :: (cl, ({ cls := .type "list", data := .seq #[.int c0 u0, .int c1 u1, .int c2 u2] nc } : Obj)) :: (x, instObj 192 dx) :: (dx, dictOf (edD w.params c0 c1 c2 lo ex k1 k2 k3 k4 k5 k6 v1 v2 v3 v6) n) :: Tl)) (ts : TS Tl) (hhere : m (Str.ofString "here") = some (.str U1 tu1)) (hoc : oc.data = .cell (some (.str U2 tu2))) (hU1 : U1.length = n1 + 1) (hU2 : U2.length = n2 + 1) (hn1 : n1 ≤ 8) (hn2 : n2 ≤ 8) (hasc : U1.cps.all (· < 128) = true) (h172 : @LE.le Nat _ 172 x)
  (hQ : ∀ h' tk' D rs mat, Fr h₀ L h' (fun y => if y = Str.ofString "rows" then some (.ref D) else m y) → News h₀ L h' ((L + 1, oc) :: (cl, ({ cls := .type "list", data := .seq #[.int c0 u0, .int c1 u1, .int c2 u2] nc } : Obj)) :: (x, instObj 192 dx) :: (dx, dictOf (edD w.params c0 c1 c2 lo ex k1 k2 k3 k4 k5 k6 v1 v2 v3 v6) n) :: (Tl ++ ([] ++ mat))) → MatL x D rs mat (n1 + 1) (n2 + 1) (fun _ _ => 0) → Q .next { s with heap := h', toks := tk' }) :
  wpAny (model PySem.Challenge.rw_bs0041_01.row.prog w) (({ handled := none, depth := dp, frames := some fr, guards := gd, units := un } : Around).deeper (lawEnv L fa cd)) (exec (.Assign [(.Name (Str.ofString "rows") q1)] (.ListComp (.BinOp (.List [(.Constant (.int 0) 0 q2)] q3) .Mult (.Call (.Name (Str.ofString "len") q4) [(.Name (Str.ofString "there") q5)] [] q6) q7) [⟨(.Name (Str.ofString "letter") q8), (.Name (Str.ofString "here") q9), [], 0⟩] { kind := .function, names := [((Str.ofString ".0"), .local), ((Str.ofString "letter"), .local), ((Str.ofString "len"), .globalImplicit), ((Str.ofString "there"), .free)], isGenerator := false, isCoroutine := false } q10) q11) (lawEnv L fa cd)) Q E s := by
  revert X; k_fill; intro X
  refine Assign_ListComp_S (h₀ := h₀) (m := m) rfl ?hsw rfl (by decide) rfl (by decide) rfl rfl rfl ?_
  case hsw => unfold swapsWith; simp only [Expr.pos, hlr, beq_self_eq_true]; rfl
  refine wpAny_mono (Q := fun xv s₁ => ElP (xv = .str U1 tu1 ∧ s₁ = s)) ?_ (fun xv s₁ h₁ => ?_) fun _ _ e => e
  · k_steps
    exact .mk ⟨rfl, rfl⟩
  obtain ⟨rfl, rfl⟩ := h₁.out
  clear h₁
  refine ⟨U1, tu1, _, rfl, rfl, hasc, ?_, F, N, fun g => ?_⟩
  · rw [sizeLine_eq]; have z : U1.cps.size = n1 + 1 := hU1; omega
  have z1 : U1.cps.size = n1 + 1 := hU1
  rw [z1]
  refine comp_zero (N2 := n2 + 1) (lo := x) (fun _ => trivial) ?hel ⟨_, .tail _ (.tail _ (.head _)), rfl⟩ h172 ?h172l ?fin g
  case h172l =>
    obtain ⟨o9, ho9, hc9⟩ := ts.mem172
    exact ⟨o9, .tail _ (.tail _ (.tail _ (.tail _ ho9))), hc9⟩
  case hel =>
    intro I oI CC oC D ys m₂ h tk led E' hC F1 N1 hsub
    refine row_elt (N2 := n2 + 1) F1 N1 (by omega) (fun s₁ hk => ?_)
    have hcell : s₁.heap.IsCell (L + 1) (some (.str U2 tu2)) := ⟨_, hk _ _ (N1 _ (.tail _ (.tail _ (.tail _ (hsub _ (.head _)))))).1, hoc⟩
    have F9 := fr_grown F1 hk
    have N9 := news_grown N1 hk
    clear F N F1 N1
    refine wpAny_mono (Q := fun v s₂ => ElP (∃ t tk, v = .int ((n2 + 1 : Nat) : Int) t ∧ s₂ = { s₁ with toks := tk })) ?_ (fun _ _ h => h.out) fun _ _ e => e
    k_steps
    rw [hU2]
    exact .mk ⟨_, _, rfl, rfl⟩
  case fin =>
    intro D h tk rs mat F1 N1 H
    refine hQ h tk D rs mat F1 (fun p hp => N1 p ?_) H
    have hp' : p ∈ [(L + 1, oc), (cl, ({ cls := .type "list", data := .seq #[.int c0 u0, .int c1 u1, .int c2 u2] nc } : Obj)), (x, instObj 192 dx), (dx, dictOf (edD w.params c0 c1 c2 lo ex k1 k2 k3 k4 k5 k6 v1 v2 v3 v6) n)] ++ (Tl ++ ([] ++ mat)) := hp
    rcases List.mem_append.mp hp' with hp | hp
    · exact List.mem_append_right _ (List.mem_append_left (as := [(L + 1, oc), (cl, ({ cls := .type "list", data := .seq #[.int c0 u0, .int c1 u1, .int c2 u2] nc } : Obj)), (x, instObj 192 dx), (dx, dictOf (edD w.params c0 c1 c2 lo ex k1 k2 k3 k4 k5 k6 v1 v2 v3 v6) n)]) Tl hp)
    · rcases List.mem_append.mp hp with hp | hp
      · exact List.mem_append_right _ (List.mem_append_right [(L + 1, oc), (cl, ({ cls := .type "list", data := .seq #[.int c0 u0, .int c1 u1, .int c2 u2] nc } : Obj)), (x, instObj 192 dx), (dx, dictOf (edD w.params c0 c1 c2 lo ex k1 k2 k3 k4 k5 k6 v1 v2 v3 v6) n)] hp)
      · exact List.mem_append_left _ hp
end
end Mine
-- Ed16
namespace Mine
/-- what the law holds due -/
def dueV (c0 c1 c2 : Int) (lo : Bool) (a b : Str) : Int := if a = b then 0 else if a = Str.ofString "" ∨ b = Str.ofString "" then (max a.length b.length : Nat) * c2 else
  tab (lfst c0 c1 c2 (Str.ofString " " ++ a)) (lfst c0 c1 c2 (Str.ofString " " ++ b)) (lgst c0 c1 c2 (Str.ofString " " ++ a) (Str.ofString " " ++ b)) lo a.length b.length
theorem tab_congr {f1 f2 f1' f2' : Nat → Int} {g g' : Nat → Nat → Int} {lc : Bool} {n1 n2 : Nat} (h1 : ∀ i, i < n1 → f1 (i + 1) = f1' (i + 1)) (h2 : ∀ j, j < n2 → f2 (j + 1) = f2' (j + 1)) (h3 : ∀ i j, i < n1 → j < n2 → g (i + 1) (j + 1) = g' (i + 1) (j + 1)) :
    ∀ i j, i ≤ n1 → j ≤ n2 → tab f1 f2 g lc i j = tab f1' f2' g' lc i j := by
  intro i
  induction i with
  | zero =>
    intro j
    induction j with
    | zero => intro _ _; rw [tab, tab]
    | succ j ih => intro hi hj; rw [tab, tab, ih hi (Nat.le_of_lt hj), h2 j hj]
  | succ i ihi =>
    intro j
    induction j with
    | zero => intro hi hj; rw [tab, tab, ihi 0 (Nat.le_of_lt hi) hj, h1 i hi]
    | succ j ihj => intro hi hj; rw [tab, tab, ihi (j + 1) (Nat.le_of_lt hi) hj, ihj hi (Nat.le_of_lt hj), ihi j (Nat.le_of_lt hi) (Nat.le_of_lt hj), h1 i hi, h2 j hj, h3 i j hi hj]
theorem tab_le {f1 f2 : Nat → Int} {g : Nat → Nat → Int} {lc : Bool} {c : Int} (hc : 0 ≤ c) (h1 : ∀ i, f1 i ≤ c) (h2 : ∀ j, f2 j ≤ c) (h3 : ∀ i j, g i j ≤ c) : ∀ i j, tab f1 f2 g lc i j ≤ ((max i j : Nat) : Int) * c := by
  have step : ∀ k : Nat, ((k + 1 : Nat) : Int) * c = (k : Int) * c + c := fun k => by rw [Int.natCast_add, Int.add_mul]; simp
  intro i
  induction i with
  | zero =>
    intro j
    induction j with
    | zero => rw [tab]; simp
    | succ j ih =>
      rw [tab]
      have e : max 0 (j + 1) = j + 1 := by omega
      have e' : max 0 j = j := by omega
      rw [e, step]; rw [e'] at ih
      have := h2 (j + 1)
      omega
  | succ i ihi =>
    intro j
    cases j with
    | zero =>
      rw [tab]
      have e : max (i + 1) 0 = i + 1 := by omega
      rw [e, step]
      have ih := ihi 0
      have e' : max i 0 = i := by omega
      rw [e'] at ih
      have := h1 (i + 1)
      have hn : 0 ≤ (i : Int) * c := Int.mul_nonneg (Int.natCast_nonneg _) hc
      cases lc with
      | true => rw [if_pos rfl]; omega
      | false => rw [if_neg (by decide)]; omega
    | succ j =>
      rw [tab]
      have ih := ihi j
      have e : max (i + 1) (j + 1) = max i j + 1 := by omega
      rw [e, step]
      have := h3 (i + 1) (j + 1)
      omega
theorem rcv_le {c0 c1 c2 : Int} (h1 : c0 ≤ c1) (h2 : c1 ≤ c2) (a b : Str) : rcv c0 c1 c2 a b ≤ c2 := by
  unfold rcv; repeat' split
  all_goals omega
theorem stv_le {c0 c1 c2 : Int} (h1 : c0 ≤ c1) (h2 : c1 ≤ c2) (a b : Str) : stv c0 c1 c2 a b ≤ c2 := by
  unfold stv; split
  · exact h2
  · exact rcv_le h1 h2 a b
theorem lpv_le {c0 c1 c2 : Int} (h1 : c0 ≤ c1) (h2 : c1 ≤ c2) (a b : Str) : lpv c0 c1 c2 a b ≤ c2 := by
  unfold lpv; repeat' split
  all_goals omega
theorem lsv_le {c0 c1 c2 : Int} (h1 : c0 ≤ c1) (h2 : c1 ≤ c2) (a b : Str) : lsv c0 c1 c2 a b ≤ c2 := by
  unfold lsv; split
  · exact h2
  · exact lpv_le h1 h2 a b
theorem blank : Str.ofString " " = ⟨#[32]⟩ := by decide +kernel
theorem void : Str.ofString "" = ⟨#[]⟩ := by decide +kernel
theorem len_cps (a : Str) : a.length = a.cps.size := rfl
theorem void_iff {a : Str} : a = Str.ofString "" ↔ a.length = 0 := by
  rw [void]
  constructor
  · rintro rfl; rfl
  · intro h
    refine Str.ext' ?_
    exact Array.eq_empty_of_size_eq_zero h
theorem sp_len (a : Str) : (Str.ofString " " ++ a).length = a.length + 1 := by rw [Str.length_append, blank, Nat.add_comm]; rfl
theorem Word.ascii {a : Str} (h : Word a) : ∀ c ∈ a.cps.toList, c < 128 := fun c hc => by have := h.great c hc; omega
theorem Word.upper {a : Str} (h : Word a) : Txt.upper a = a := by
  rw [upper_ascii h.ascii]
  refine Str.ext' (Array.toList_inj.mp ?_)
  rw [Array.toList_map]
  refine (List.map_congr_left fun c hc => ?_).trans (List.map_id _)
  have := h.great c hc
  unfold up1; rw [if_neg (by omega)]; rfl
theorem Word.lower {a : Str} (h : Word a) : Txt.lower a = ⟨a.cps.map fun c => c + 32⟩ := by
  rw [lower_ascii h.ascii]
  refine Str.ext' (Array.toList_inj.mp ?_)
  rw [Array.toList_map, Array.toList_map]
  refine List.map_congr_left fun c hc => ?_
  have := h.great c hc
  unfold lo1; rw [if_pos (by omega)]
theorem Word.back {a : Str} (h : Word a) : Txt.upper (Txt.lower a) = a := by
  rw [h.lower]
  have hA : ∀ c ∈ (⟨a.cps.map fun c => c + 32⟩ : Str).cps.toList, c < 128 := by
    intro c hc
    rw [Array.toList_map] at hc
    obtain ⟨d, hd, rfl⟩ := List.mem_map.mp hc
    have := h.great d hd
    omega
  rw [upper_ascii hA]
  refine Str.ext' (Array.toList_inj.mp ?_)
  rw [Array.toList_map, Array.toList_map, List.map_map]
  refine (List.map_congr_left fun c hc => ?_).trans (List.map_id _)
  have := h.great c hc
  show up1 (c + 32) = id c
  unfold up1; rw [if_pos (by omega)]; simp
theorem Word.lower_len {a : Str} (h : Word a) : (Txt.lower a).length = a.length := by rw [h.lower, len_cps, len_cps]; simp
theorem all_ascii {a : Str} (h : ∀ c ∈ a.cps.toList, c < 128) : a.cps.all (· < 128) = true := by
  rw [← Array.all_toList, List.all_eq_true]
  exact fun c hc => decide_eq_true (h c hc)
theorem Word.sp_ascii {a : Str} (h : Word a) : (Str.ofString " " ++ a).cps.all (· < 128) = true := by
  rw [Str.cps_append, Array.all_append, all_ascii h.ascii, blank, Bool.and_true]; decide +kernel
theorem Word.lower_ne {a b : Str} (ha : Word a) (hb : Word b) (hne : a ≠ b) : Txt.lower a ≠ b := by
  intro e
  rw [ha.lower] at e
  by_cases h0 : a.length = 0
  · have ea := void_iff.mpr h0
    rw [ea, void] at e
    exact hne (by rw [ea, void]; simpa using e)
  · have h1 : 0 < a.cps.size := Nat.pos_of_ne_zero h0
    have ha0 := ha.great a.cps[0] (by simp)
    have : a.cps[0] + 32 ∈ b.cps.toList := by
      rw [← e]
      simp only [Array.toList_map]
      exact List.mem_map.mpr ⟨a.cps[0], by simp, rfl⟩
    have := hb.great _ this
    omega
theorem Word.sign {a : Str} (h : Word a) {k : Nat} (hk : k < a.length + 1) : Sign (Txt.item (Str.ofString " " ++ a) (k : Int)) := by
  have hsz : (Str.ofString " " ++ a).cps.size = a.length + 1 := sp_len a
  have e := Array.getElem?_eq_getElem (show k < (Str.ofString " " ++ a).cps.size by omega)
  refine ⟨_, item_at e, ?_⟩
  generalize hd : (Str.ofString " " ++ a).cps[k] = d
  have hm : d ∈ (Str.ofString " " ++ a).cps.toList := by rw [← hd]; simp
  rw [Str.cps_append, Array.toList_append] at hm
  rcases List.mem_append.mp hm with hm | hm
  · rw [blank] at hm
    left
    simpa using hm
  · exact .inr (h.great _ hm)
theorem Word.fst {a : Str} (h : Word a) {c0 c1 c2 : Int} {i : Nat} (hi : i < a.length) : Mine.fst c0 c1 c2 (Str.ofString " " ++ a) (i + 1) = lfst c0 c1 c2 (Str.ofString " " ++ a) (i + 1) := by
  unfold Mine.fst lfst
  rw [show ((i + 1 : Nat) : Int) - 1 = (i : Int) by omega]
  exact stv_lsv (h.sign (by omega)) (h.sign (by omega))
theorem gst_word {a b : Str} (ha : Word a) (hb : Word b) {c0 c1 c2 : Int} {i j : Nat} (hi : i < a.length) (hj : j < b.length) : gst c0 c1 c2 (Str.ofString " " ++ a) (Str.ofString " " ++ b) (i + 1) (j + 1) = lgst c0 c1 c2 (Str.ofString " " ++ a) (Str.ofString " " ++ b) (i + 1) (j + 1) :=
  rcv_lpv (ha.sign (by omega)) (hb.sign (by omega))
theorem callV_due {c0 c1 c2 : Int} {lo : Bool} {a b a' : Str} (h0 : 0 ≤ c0) (h1 : c0 ≤ c1) (h2 : c1 ≤ c2) (ha : Word a) (hb : Word b) (hu : Txt.upper a' = a) (hl : a'.length = a.length) (hne : a' = b ↔ a = b) : callV c0 c1 c2 lo a' b = dueV c0 c1 c2 lo a b := by
  unfold callV dueV
  rw [hu, hb.upper, hl]
  by_cases e : a = b
  · rw [if_pos e, if_pos (hne.mpr e)]
  · rw [if_neg e, if_neg (fun z => e (hne.mp z))]
    by_cases e2 : a.length = 0 ∨ b.length = 0
    · rw [if_pos e2, if_pos (e2.imp void_iff.mpr void_iff.mpr)]
    · rw [if_neg e2, if_neg (fun z => e2 (z.imp void_iff.mp void_iff.mp))]
      rw [tab_congr (n1 := a.length) (n2 := b.length) (fun i hi => ha.fst hi) (fun j hj => hb.fst hj) (fun i j hi hj => gst_word ha hb hi hj) _ _ (Nat.le_refl _) (Nat.le_refl _)]
      have := tab_le (lc := lo) (c := c2) (f1 := lfst c0 c1 c2 (Str.ofString " " ++ a)) (f2 := lfst c0 c1 c2 (Str.ofString " " ++ b)) (g := lgst c0 c1 c2 (Str.ofString " " ++ a) (Str.ofString " " ++ b)) (by omega) (fun i => lsv_le h1 h2 _ _) (fun j => lsv_le h1 h2 _ _) (fun i j => lpv_le h1 h2 _ _) a.length b.length
      omega
theorem callV_word {c0 c1 c2 : Int} {lo : Bool} {a b : Str} (h0 : 0 ≤ c0) (h1 : c0 ≤ c1) (h2 : c1 ≤ c2) (ha : Word a) (hb : Word b) : callV c0 c1 c2 lo a b = dueV c0 c1 c2 lo a b :=
  callV_due h0 h1 h2 ha hb ha.upper rfl Iff.rfl
theorem callV_lower {c0 c1 c2 : Int} {lo : Bool} {a b : Str} (h0 : 0 ≤ c0) (h1 : c0 ≤ c1) (h2 : c1 ≤ c2) (ha : Word a) (hb : Word b) (hne : a ≠ b) : callV c0 c1 c2 lo (Txt.lower a) b = dueV c0 c1 c2 lo a b :=
  callV_due h0 h1 h2 ha hb ha.back ha.lower_len ⟨fun e => absurd e (ha.lower_ne hb hne), fun e => absurd e hne⟩
end Mine
-- Ed17
namespace Mine
theorem fresh_Ed17 : True := by (w_top off; exact trivial)
section
variable {w : World} {p : Program} {loose : List Str} {mean : ExcName → Option Value} {mg mb : Str → Option Value} {dp un : Nat} {gd : Option (List Code)} {fr : List Env} {A₀ : Around} {base h₀ : Heap} {L fa : Addr} {cd : Value} {m : Str → Option Value} {s : Shared} {Q : Flow → Shared → Prop} {E : Value → Shared → Prop}
variable {l : Addr} {vs : List Value} {ns : List Int} {c0 c1 c2 : Int} {u0 u1 u2 : Tok} {nc : Nat} {cl x dx : Addr} {lo ex : Bool} {k1 k2 k3 k4 k5 k6 v1 v2 v3 v6 : Tok} {n : Nat} {a Tl : List (Addr × Obj)}
variable {oc : Obj} {lw M : Addr} {rs : List Addr} {mat : List (Addr × Obj)} {n1 n2 : Nat} {V : Nat → Nat → Int} {U1 U2 : Str} {tu1 tu2 tl : Tok} {led : List (Addr × Obj)} {W1 W2 : Str} {t1 t2 t3 t4 : Tok}
local macro_rules | `(tactic| k_room) => `(tactic| ktr_room)
local macro_rules | `(tactic| walk_at "MY rest") => `(tactic| (
  refine' kp_rest ?k1 ?k2 ?k3 ?k4 ?k5 ?kA ?kF ?kK ?k6 ?k7 ?k8 ?kV ?kP ?kG ?kB ?_ ?c2 ?c3 ?c4 ?c5
  (case kA => exact rfl)
  (case kF => first | exact rfl | assumption)
  (case kK => first | exact rfl | assumption)
  (case k1 => k_asm)
  (case k2 => k_asm)
  (case k3 => k_asm)
  (case k4 => k_asm)
  (case k5 => k_asm)
  (case k6 => k_is)
  (case k7 => k_is)
  (case k8 => k_room)
  (case kV => kl_lit)
  (case kP => exact rfl)
  (case kG => exact fun _ => rfl)
  (case kB => exact fun _ => locs rfl)
  (case c5 => decide)
  (case c2 => exact rfl)
  (case c3 => exact rfl)
  (case c4 => exact rfl)
  k_whole
  intro D' g' L' h' l1 FG' F' N' B' X' T'
  (try k_lt l1); (try dsimp only); (try k_lift B'); (try k_fold)))
local macro_rules | `(tactic| walk_at "MY plain") => `(tactic| (
  refine' code_def ?k1 ?k2 ?k3 ?k4 ?k5 ?kA ?kF ?kK ?k6 ?k7 ?k8 ?k9 ?kB ?_ ?c2 ?c3 ?c4 ?c5
  (case kA => exact rfl)
  (case kF => first | exact rfl | assumption)
  (case kK => first | exact rfl | assumption)
  (case k1 => k_asm)
  (case k2 => k_asm)
  (case k3 => k_asm)
  (case k4 => k_asm)
  (case k5 => k_asm)
  (case k6 => k_is)
  (case k7 => k_is)
  (case k8 => k_room)
  (case k9 => first | exact BindsTo.of_eq rfl | exact binds_K (by k_in) rfl (by k_is) rfl rfl rfl)
  (case c5 => decide)
  (case kB => exact locs rfl)
  (case c2 => exact rfl)
  (case c3 => exact rfl)
  (case c4 => exact rfl)
  k_whole
  intro g' L' h' FG' F' N' B' X' T'
  (try dsimp only); (try k_lift B'); (try k_fold)))
local macro_rules | `(tactic| walk_at "MY plainC") => `(tactic| (refine' code_defC ?k1 ?k2 ?k3 ?k4 ?k5 ?kA ?kF ?kK ?k6 ?k7 ?k8 ?k9 ?kB ?kD ?_ ?c2 ?c3 ?c4; (case kA => exact rfl); (case kF => first | exact rfl | assumption); (case kK => first | exact rfl | assumption); (case k1 => k_asm); (case k2 => k_asm); (case k3 => k_asm); (case k4 => k_asm); (case k5 => k_asm); (case k6 => k_is); (case k7 => k_is); (case k8 => k_room); (case k9 => first | exact BindsTo.of_eq rfl | exact binds_K (by k_in) rfl (by k_is) rfl rfl rfl); (case kB => exact rfl); (case kD => decide +kernel); (case c2 => exact rfl); (case c3 => exact rfl); (case c4 => exact rfl); k_whole; intro g' L' h' tk' cells' FG' F' N' Y' B' X' T' l1; (try k_lt l1); k_cells Y'; (try simp only [List.cons_append, List.nil_append] at N'); (try dsimp only); (try k_lift B'); (try k_fold)))
local macro_rules | `(tactic| walk_at "getAttr ref") => `(tactic| (k_here; (with_reducible show wpAny _ _ (getAttr (Value.ref _) (PySem.Str.ofString "_ident") _) _ _ _); k_dflt (refine' get_sm ?k1 ?k2 ?k3 ?k4 ?k5 ?k6 ?k7 ?k8 ?k9 ?k10 ?k11 ?k12 ?_; (case k3 => k_inst); (case k1 => k_asm); (case k2 => k_asm); (case k6 => k_is); (case k4 => k_is); (case k5 => k_is); (case k7 => k_is); (case k8 => k_is); (case k9 => decide +kernel); (case k10 => k_get); (case k11 => k_is); (case k12 => k_handed); k_whole)))
local macro_rules | `(tactic| walk_at "eval Call Attribute") => `(tactic| (k_here; (with_reducible show wpAny _ _ (eval (Expr.Call (Expr.Attribute (Expr.Name _ _) _ _) [Expr.Starred _ _] [] _) _) _ _ _); refine starMethod ?_))
local macro_rules | `(tactic| walk_at "MY restC") => `(tactic| (
  refine' kpc_rest ?k1 ?k2 ?k3 ?k4 ?k5 ?kA ?kF ?kK ?k6 ?k7 ?k8 ?kV ?kP ?kG ?kB ?kD ?_ ?c2 ?c3 ?c4
  (case kA => exact rfl)
  (case kF => first | exact rfl | assumption)
  (case kK => first | exact rfl | assumption)
  (case k1 => k_asm)
  (case k2 => k_asm)
  (case k3 => k_asm)
  (case k4 => k_asm)
  (case k5 => k_asm)
  (case k6 => k_is)
  (case k7 => k_is)
  (case k8 => k_room)
  (case kV => kl_lit)
  (case kP => exact rfl)
  (case kG => exact fun _ => rfl)
  (case kB => exact fun _ => rfl)
  (case kD => decide +kernel)
  (case c2 => exact rfl)
  (case c3 => exact rfl)
  (case c4 => exact rfl)
  k_whole
  intro D' g' L' h' tk' cells' l1 l2 FG' F' N' Y' B' X' T'
  (try k_lt l1); (try k_lt2 l2); k_cells Y'; (try simp only [List.cons_append, List.nil_append] at N'); (try dsimp only); (try k_lift B'); (try k_fold)))
local macro_rules | `(tactic| walk_at "call ref") => `(tactic| (k_here; (with_reducible show wpAny _ _ (call (Value.ref 95) _) _ _ _); k_dflt (refine wpAny_call ?_; refine' ident_c ?k1 ?k2 ?k3 ?k4 ?k5 ?k6 ?k7 ?k8 ?k9 ?_; (case k1 => k_asm); (case k2 => k_asm); (case k3 => k_asm); (case k4 => k_asm); (case k5 => k_asm); (case k6 => first | exact rfl | assumption); (case k7 => first | exact rfl | assumption); (case k8 => (dsimp only [Arnd, Around.deeper] at *; omega)); (case k9 => (dsimp only [Arnd, Around.deeper] at *; omega)); k_whole); intro h' tk' F' N'; (try dsimp only); (try k_sweep)))
local macro_rules | `(tactic| walk_at "MY memT") => `(tactic| (first | (refine List.mem_append_left _ ?_; assumption) | (refine List.Mem.tail _ ?_; walk_at "MY memT")))
local macro_rules | `(tactic| walk_at "MY split") => `(tactic| (first | exact Split.base | (refine' Split.cons ?sp; (case sp => walk_at "MY split"))))
local macro_rules | `(tactic| walk_at "MY off") => `(tactic| ((try dsimp only); simp only [List.forall_mem_cons, List.not_mem_nil, false_implies, implies_true, and_true]; (repeat' (refine And.intro ?_ ?_)); all_goals (first | assumption | (refine neN ?_; (try dsimp only); omega))))
local macro_rules | `(tactic| walk_at "eval Lambda") => `(tactic| (k_here; k_dflt (refine' kla_eval ?d0 ?_; (case d0 => exact rfl)); (first
  | (k_dflt (refine' lam_S1 ?ts ?F ?N ?hg ?T ?C ?off ?offo ?hq ?e1 ?e2 ?hcl ?_; (case ts => assumption); (case F => k_asm); (case N => k_asm); (case hg => walk_at "MY split"); (case T => k_asm); (case C => assumption); (case off => walk_at "MY off"); (case offo => assumption); (case hq => first | rfl | with_unfolding_all rfl); (case e1 => rfl); (case e2 => rfl); (case hcl => exact rfl); k_whole); intro f' c' oc' ct' h' tk' Tl' F' N' ts' hm' hc' l1'; (try simp only [List.cons_append, List.nil_append] at N'))
  | (k_dflt (refine' lam_S2 ?ts ?F ?N ?hg ?T ?C ?off ?offo ?hq ?e1 ?e2 ?hcl ?_; (case ts => assumption); (case F => k_asm); (case N => k_asm); (case hg => walk_at "MY split"); (case T => k_asm); (case C => assumption); (case off => walk_at "MY off"); (case offo => assumption); (case hq => first | rfl | with_unfolding_all rfl); (case e1 => rfl); (case e2 => rfl); (case hcl => exact rfl); k_whole); intro f' c' oc' ct' h' tk' Tl' F' N' ts' hm' hc' l1'; (try simp only [List.cons_append, List.nil_append] at N')))))
local macro_rules | `(tactic| walk_at "call type:map") => `(tactic| (k_here; k_dflt (refine' map_K ?F ?N ?m ?c ?d ?_; (case F => k_asm); (case N => k_asm); (case m => k_mem); (case c => exact rfl); (case d => exact rfl); k_whole); intro h' mp' it' F' N' hX' hlt' hL' h0'; (try dsimp only)))
local macro_rules | `(tactic| walk_at "call builtin:any") => `(tactic| (k_here; k_dflt (refine' any_lam1 ?hh ?room ?F ?N ?X ?T ?M ?lt ?L ?h0 ?ho ?hoc ?hc ?hcs ?hcd ?hx ?hdx ?_; (case hh => exact rfl); (case room => (dsimp only [Arnd, Around.deeper] at *; omega)); (case F => k_asm); (case N => k_asm); (case X => k_asm); (case T => k_asm); (case M => assumption); (case lt => assumption); (case L => assumption); (case h0 => assumption); (case ho => k_mem); (case hoc => walk_at "MY memT"); (case hc => assumption); (case hcs => k_mem); (case hcd => assumption); (case hx => k_mem); (case hdx => k_mem); k_whole); intro h' tk' F' N'; (try dsimp only)))
local macro_rules | `(tactic| walk_at "call builtin:all") => `(tactic| (k_here; k_dflt (refine' all_lam2 ?hh ?room ?F ?N ?X ?T ?M ?lt ?L ?h0 ?ho ?hoc ?hc ?hcs ?hcd ?_; (case hh => exact rfl); (case room => (dsimp only [Arnd, Around.deeper] at *; omega)); (case F => k_asm); (case N => k_asm); (case X => k_asm); (case T => k_asm); (case M => assumption); (case lt => assumption); (case L => assumption); (case h0 => assumption); (case ho => k_mem); (case hoc => walk_at "MY memT"); (case hc => assumption); (case hcs => k_mem); (case hcd => assumption); k_whole); intro h' tk' F' N'; (try dsimp only)))
local macro_rules | `(tactic| walk_at "MY sub") => `(tactic| (first | assumption | (refine List.Mem.tail _ ?_; walk_at "MY sub")))
local macro_rules | `(tactic| walk_at "MY fin") => `(tactic| (with_reducible rename Fr h₀ _ _ _ => kF; with_reducible rename News h₀ _ _ _ => kN))
local macro_rules | `(tactic| walk_at "MY sub") => `(tactic| (first | assumption | exact List.Mem.head _ | (refine List.Mem.tail _ ?_; walk_at "MY sub")))
local macro_rules | `(tactic| walk_at "MY memO") => `(tactic| (first | exact List.mem_append.mpr (.inr (List.mem_append.mpr (.inr (by assumption)))) | (refine List.Mem.tail _ ?_; walk_at "MY memO")))
local macro_rules | `(tactic| walk_at "subscriptTail") => `(tactic| (k_here; (with_reducible show wpAny _ _ (subscriptTail _ _ (Value.ref _) (Value.int _ _)) _ _ _); k_dflt (refine' mat_row ?N ?H ?sub ?h0 ?h1 ?hN ?_; (case H => assumption); (case N => k_asm); (case sub => (intro q hq; walk_at "MY memO")); (case h0 => omega); (case h1 => omega); (case hN => omega); k_whole); (try dsimp only)))
local macro_rules | `(tactic| walk_at "getItem ref") => `(tactic| (k_here; (with_reducible show wpAny _ _ (getItem (Value.ref _) (Value.int _ _)) _ _ _); k_dflt (refine' mat_getRow ?N ?H ?sub ?h0 ?h1 ?hN ?_; (case H => assumption); (case N => k_asm); (case sub => (intro q hq; walk_at "MY memO")); (case h0 => omega); (case h1 => omega); (case hN => omega); k_whole); (try dsimp only)))
local macro_rules | `(tactic| walk_at "subscriptTail") => `(tactic| (k_here; (with_reducible show wpAny _ _ (subscriptTail _ _ (Value.ref (List.getD _ _ _)) (Value.int _ _)) _ _ _); k_dflt (refine' mat_cell ?N ?H ?sub ?hi ?h0 ?h1 ?hN ?_; (case H => assumption); (case N => k_asm); (case sub => (intro q hq; walk_at "MY memO")); (case hi => omega); (case h0 => omega); (case h1 => omega); (case hN => omega); k_whole); intro t'; (try dsimp only)))
local macro_rules | `(tactic| walk_at "setItem ref int") => `(tactic| (k_here; (with_reducible show wpAny _ _ (setItem (Value.ref (List.getD _ _ _)) (Value.int _ _) (Value.int _ _)) _ _ _); k_dflt (refine' mat_set ?ts ?F ?N ?S ?H ?hpre ?ha ?hi ?h0 ?h1 ?hN ?_; (case H => assumption); (case ts => assumption); (case F => k_asm); (case N => k_asm); (case S => walk_at "MY split"); (case hpre => assumption); (case ha => assumption); (case hi => omega); (case h0 => omega); (case h1 => omega); (case hN => omega); k_whole); intro h' own' F' N' H' hm'; (try simp only [List.cons_append, List.nil_append] at N'); (try dsimp only)))
local macro_rules | `(tactic| walk_at "MY look") => `(tactic| (first | rfl | assumption | (refine Eq.trans (if_neg (by decide)) ?_; walk_at "MY look")))
local macro_rules | `(tactic| walk_at "eval Name") => `(tactic| (k_here; k_dflt (refine' nameX_L ?F ?v ?_ ?a ?b; (case F => k_asm); (case a => rfl); (case b => rfl); (case v => ((try dsimp only); walk_at "MY look")); k_whole)))
local macro_rules | `(tactic| walk_at "callWith ref") => `(tactic| (k_here; (with_reducible show wpAny _ _ (callWith _ (Value.ref _) _ (backTo _ (starEach [Expr.Starred _ _] _)) []) _ _ _); k_dflt (refine' callWith_SM ?k1 ?k2 ?k3 ?k4 ?_; (case k1 => k_asm); (case k2 => k_asm); (case k3 => k_mem); (case k4 => k_is); k_whole)))
local macro_rules | `(tactic| walk_at "eval Call Attribute") => `(tactic| (k_here; k_dflt (refine' MethodCallL ?hl ?_; (case hl => assumption))))
local macro_rules | `(tactic| walk_at "call ref") => `(tactic| (k_here; (with_reducible show wpAny _ _ (call (Value.ref 225) _) _ _ _); k_dflt (refine wpAny_call ?_; refine' law_step_c ?B ?F ?X ?N ?T ?hf ?hke ?hm ?hdp ?hun ?ha ?hb ?_; (case B => k_asm); (case F => k_asm); (case X => k_asm); (case T => k_asm); (case hf => first | exact rfl | assumption); (case hke => first | exact rfl | assumption); (case N => k_asm); (case hm => walk_at "MY sub"); (case hdp => (dsimp only [Arnd, Around.deeper] at *; omega)); (case hun => (dsimp only [Arnd, Around.deeper] at *; omega)); (case ha => first | assumption | omega); (case hb => first | assumption | omega); k_whole); intro h' tk' t' F' N'; (try dsimp only)))
local macro_rules | `(tactic| walk_at "call ref") => `(tactic| (k_here; (with_reducible show wpAny _ _ (call (Value.ref 218) _) _ _ _); k_dflt (refine wpAny_call ?_; refine' law_pair_c ?B ?F ?X ?N ?T ?hf ?hke ?hm ?hdp ?hun ?ha ?hb ?_; (case B => k_asm); (case F => k_asm); (case X => k_asm); (case T => k_asm); (case hf => first | exact rfl | assumption); (case hke => first | exact rfl | assumption); (case N => k_asm); (case hm => walk_at "MY sub"); (case hdp => (dsimp only [Arnd, Around.deeper] at *; omega)); (case hun => (dsimp only [Arnd, Around.deeper] at *; omega)); (case ha => first | assumption | omega); (case hb => first | assumption | omega); k_whole); intro h' tk' t' F' N'; (try dsimp only)))
local macro_rules | `(tactic| walk_at "MY look") => `(tactic| (first | rfl | assumption | (refine Eq.trans (if_neg (by decide)) ?_; walk_at "MY look")))
local macro_rules | `(tactic| walk_at "eval Name") => `(tactic| (k_here; k_dflt (refine' nameX_L ?F ?v ?_ ?a ?b; (case F => k_asm); (case a => rfl); (case b => rfl); (case v => ((try dsimp only); walk_at "MY look")); k_whole)))
local macro_rules | `(tactic| walk_at "call ref") => `(tactic| (k_here; (with_reducible show wpAny _ _ (call (Value.ref 201) _) _ _ _); k_dflt (refine wpAny_call ?_; refine' law_at_c ?B ?F ?X ?N ?T ?hf ?hke ?hl ?hI ?hns ?hdp ?hun ?hk0 ?hk1 ?_; (case B => k_asm); (case F => k_asm); (case X => k_asm); (case T => k_asm); (case hf => first | exact rfl | assumption); (case hke => first | exact rfl | assumption); (case N => k_asm); (case hl => assumption); (case hI => assumption); (case hns => assumption); (case hdp => (dsimp only [Arnd, Around.deeper] at *; omega)); (case hun => (dsimp only [Arnd, Around.deeper] at *; omega)); (case hk0 => omega); (case hk1 => omega); k_whole); intro h' tk' v' t' F' N'; (try dsimp only)))

theorem turn_stmt {q1 q2 q3 q4 q5 q6 q7 : Pos} (B : Below A₀ base fr h₀) (X : (hd.heap_39 w.params).In h₀) (T : Top p loose mean mg mb h₀) (C : CodeHd h₀ 176 172) (hl : base.IsList l vs.toArray) (hI : IntsAre vs ns) (hns : ns.length ≤ 63)  (F : Fr h₀ L s.heap m) (N : News h₀ L s.heap led) (hscr : m (Str.ofString "script") = some (.ref l)) (hdp : dp + 100 < recursionLimit) (hun : un + 1024 < cLine)
  (hQ : ∀ h' tk' v tv, Fr h₀ L h' (fun y => if y = Str.ofString "turn" then some (.int v tv) else m y) → News h₀ L h' led → Q .next { s with heap := h', toks := tk' }) :
  wpAny (model PySem.Challenge.rw_bs0041_01.row.prog w) (({ handled := none, depth := dp, frames := some fr, guards := gd, units := un } : Around).deeper (lawEnv L fa cd)) (exec (.Assign [(.Name (Str.ofString "turn") q1)] (.Call (.Name (Str.ofString "_law_at") q2) [(.Name (Str.ofString "script") q3), (.Constant (.int 18) 0 q4), (.Constant (.int 6) 0 q5)] [] q6) q7) (lawEnv L fa cd)) Q E s := by
  revert X; k_fill; intro X
  k_steps
  with_reducible rename Fr _ _ _ _ => kF
  with_reducible rename News _ _ _ _ => kN
  exact hQ _ _ _ _ kF kN
theorem law_rest {q1 q2 q3 q4 q5 q6 q7 q8 q9 q10 q11 q12 q13 q14 q15 q16 q17 q18 q19 q20 q21 q22 q23 q24 q25 q26 q27 q28 q29 q30 q31 q32 q33 q34 q35 q36 q37 q38 q39 q40 q41 q42 q43 q44 q45 q46 q47 q48 q49 q50 q51 q52 q53 q54 q55 q56 q57 q58 q59 q60 q61 q62 q63 q64 q65 q66 q67 q68 q69 q70 q71 q72 q73 q74 q75 q76 q77 q78 q79 q80 q81 q82 q83 q84 q85 q86 q87 q88 q89 q90 q91 q92 q93 q94 q95 q96 q97 q98 q99 q100 q101 q102 q103 q104 q105 q106 q107 q108 q109 q110 q111 q112 q113 q114 q115 q116 q117 q118 q119 q120 q121 q122 q123 q124 q125 q126 q127 q128 q129 q130 q131 q132 q133 q134 q135 q136 q137 q138 q139 q140 q141 q142 q143 q144 q145 q146 q147 q148 q149 q150 q151 q152 q153 q154 q155 q156 q157 q158 q159 q160 q161 q162 q163 q164 q165 q166 q167 q168 q169 q170 q171 q172 q173 q174 q175 q176 q177 q178 q179 q180 q181 q182 q183 q184 q185 q186 q187 q188 q189 q190 q191 q192 q193 q194 q195 q196 q197 q198 q199 q200 q201 q202 q203 q204 q205 q206 q207 q208 q209 q210 q211 q212 q213 q214 q215 q216 q217 q218 q219 q220 q221 q222 q223 q224 q225 q226 q227 q228 q229 q230 q231 q232 q233 q234 q235 q236 q237 q238 q239 q240 q241 q242 q243 q244 q245 q246 q247 q248 q249 q250 q251 q252 q253 q254 q255 q256 q257 q258 q259 q260 q261 q262 q263 q264 q265 q266 q267 q268 q269 q270 q271 q272 q273 q274 q275 q276 q277 q278 q279 q280 q281 q282 q283 q284 q285 q286 q287 q288 q289 q290 q291 q292 : Pos} (B : Below A₀ base fr h₀) (X : (hd.heap_39 w.params).In h₀) (T : Top p loose mean mg mb h₀) (C : CodeHd h₀ 176 172) (hl : base.IsList l vs.toArray) (hI : IntsAre vs ns) (hns : ns.length ≤ 63) (hlr : q1.line = q10.line) (hq199 : q199.endLine = q203.line) (hq206 : q206.endLine = q210.line) (hq220 : q220.endLine = q222.line) (hq218 : q218.endLine = q224.line) (hlq248 : q248.line = q247.line) (hq264 : q264.endLine = q268.line) (hq275 : q275.endLine = q279.line) (F : Fr h₀ L s.heap m) (N : News h₀ L s.heap ((L + 1, oc) :: (cl, ({ cls := .type "list", data := .seq #[.int c0 u0, .int c1 u1, .int c2 u2] nc } : Obj)) :: (x, instObj 192 dx) :: (dx, dictOf (edD w.params c0 c1 c2 lo ex k1 k2 k3 k4 k5 k6 v1 v2 v3 v6) n) :: Tl)) (ts : TS Tl) (hw1 : Word W1) (hw2 : Word W2)
  (hscr : m (Str.ofString "script") = some (.ref l)) (hlet : m (Str.ofString "letters") = some (.str lets t3)) (hone : m (Str.ofString "one") = some (.str W1 t1)) (hother : m (Str.ofString "other") = some (.str W2 t2)) (hcosts : m (Str.ofString "costs") = some (.ref cl)) (hloc : m (Str.ofString "local") = some (.bool lo)) (hplain : m (Str.ofString "plain") = some (.ref x))
  (hhere : m (Str.ofString "here") = some (.str (Str.ofString " " ++ W1) tu1)) (hoc : oc.data = .cell (some (.str (Str.ofString " " ++ W2) tu2))) (hc0 : 0 ≤ c0) (hc1 : c0 ≤ c1) (hc2 : c1 ≤ c2) (hc3 : c2 ≤ 8)
  (hL : @LT.lt Nat _ 172 L) (hLx : @LE.le Nat _ (L + 1) x) (hcl : @LT.lt Nat _ 172 cl) (hclx : @LE.le Nat _ cl x) (hdx : @LT.lt Nat _ 172 dx) (hdxx : @LE.le Nat _ dx x) (hdp : dp + 100 < recursionLimit) (hun : un + 1024 < cLine)
  (hQ : ∀ h' tk' m' Tl', TS Tl' → Fr h₀ L h' m' → News h₀ L h' Tl' → Q (.ret (.bool true)) { s with heap := h', toks := tk' }) :
  wpAny (model PySem.Challenge.rw_bs0041_01.row.prog w) (({ handled := none, depth := dp, frames := some fr, guards := gd, units := un } : Around).deeper (lawEnv L fa cd)) (execs [(.Assign [(.Name (Str.ofString "rows") q1)] (.ListComp (.BinOp (.List [(.Constant (.int 0) 0 q2)] q3) .Mult (.Call (.Name (Str.ofString "len") q4) [(.Name (Str.ofString "there") q5)] [] q6) q7) [⟨(.Name (Str.ofString "letter") q8), (.Name (Str.ofString "here") q9), [], 0⟩] { kind := .function, names := [((Str.ofString ".0"), .local), ((Str.ofString "letter"), .local), ((Str.ofString "len"), .globalImplicit), ((Str.ofString "there"), .free)], isGenerator := false, isCoroutine := false } q10) q11), (.For (.Name (Str.ofString "i") q12) (.Call (.Name (Str.ofString "range") q13) [(.Constant (.int 1) 0 q14), (.Call (.Name (Str.ofString "len") q15) [(.Name (Str.ofString "here") q16)] [] q17)] [] q18) [(.Assign [(.Subscript (.Subscript (.Name (Str.ofString "rows") q19) (.Name (Str.ofString "i") q20) q21) (.Constant (.int 0) 0 q22) q23)] (.IfExp (.Name (Str.ofString "local") q24) (.Constant (.int 0) 0 q25) (.BinOp (.Subscript (.Subscript (.Name (Str.ofString "rows") q26) (.BinOp (.Name (Str.ofString "i") q27) .Sub (.Constant (.int 1) 0 q28) q29) q30) (.Constant (.int 0) 0 q31) q32) .Add (.Call (.Name (Str.ofString "_law_step") q33) [(.Subscript (.Name (Str.ofString "here") q34) (.BinOp (.Name (Str.ofString "i") q35) .Sub (.Constant (.int 1) 0 q36) q37) q38), (.Subscript (.Name (Str.ofString "here") q39) (.Name (Str.ofString "i") q40) q41), (.Name (Str.ofString "costs") q42)] [] q43) q44) q45) q46)] [] q47), (.For (.Name (Str.ofString "j") q48) (.Call (.Name (Str.ofString "range") q49) [(.Constant (.int 1) 0 q50), (.Call (.Name (Str.ofString "len") q51) [(.Name (Str.ofString "there") q52)] [] q53)] [] q54) [(.Assign [(.Subscript (.Subscript (.Name (Str.ofString "rows") q55) (.Constant (.int 0) 0 q56) q57) (.Name (Str.ofString "j") q58) q59)] (.BinOp (.Subscript (.Subscript (.Name (Str.ofString "rows") q60) (.Constant (.int 0) 0 q61) q62) (.BinOp (.Name (Str.ofString "j") q63) .Sub (.Constant (.int 1) 0 q64) q65) q66) .Add (.Call (.Name (Str.ofString "_law_step") q67) [(.Subscript (.Name (Str.ofString "there") q68) (.BinOp (.Name (Str.ofString "j") q69) .Sub (.Constant (.int 1) 0 q70) q71) q72), (.Subscript (.Name (Str.ofString "there") q73) (.Name (Str.ofString "j") q74) q75), (.Name (Str.ofString "costs") q76)] [] q77) q78) q79)] [] q80), (.For (.Name (Str.ofString "i") q81) (.Call (.Name (Str.ofString "range") q82) [(.Constant (.int 1) 0 q83), (.Call (.Name (Str.ofString "len") q84) [(.Name (Str.ofString "here") q85)] [] q86)] [] q87) [(.For (.Name (Str.ofString "j") q88) (.Call (.Name (Str.ofString "range") q89) [(.Constant (.int 1) 0 q90), (.Call (.Name (Str.ofString "len") q91) [(.Name (Str.ofString "there") q92)] [] q93)] [] q94) [(.Assign [(.Subscript (.Subscript (.Name (Str.ofString "rows") q95) (.Name (Str.ofString "i") q96) q97) (.Name (Str.ofString "j") q98) q99)] (.Call (.Name (Str.ofString "min") q100) [(.BinOp (.Subscript (.Subscript (.Name (Str.ofString "rows") q101) (.BinOp (.Name (Str.ofString "i") q102) .Sub (.Constant (.int 1) 0 q103) q104) q105) (.Name (Str.ofString "j") q106) q107) .Add (.Call (.Name (Str.ofString "_law_step") q108) [(.Subscript (.Name (Str.ofString "here") q109) (.BinOp (.Name (Str.ofString "i") q110) .Sub (.Constant (.int 1) 0 q111) q112) q113), (.Subscript (.Name (Str.ofString "here") q114) (.Name (Str.ofString "i") q115) q116), (.Name (Str.ofString "costs") q117)] [] q118) q119), (.BinOp (.Subscript (.Subscript (.Name (Str.ofString "rows") q120) (.Name (Str.ofString "i") q121) q122) (.BinOp (.Name (Str.ofString "j") q123) .Sub (.Constant (.int 1) 0 q124) q125) q126) .Add (.Call (.Name (Str.ofString "_law_step") q127) [(.Subscript (.Name (Str.ofString "there") q128) (.BinOp (.Name (Str.ofString "j") q129) .Sub (.Constant (.int 1) 0 q130) q131) q132), (.Subscript (.Name (Str.ofString "there") q133) (.Name (Str.ofString "j") q134) q135), (.Name (Str.ofString "costs") q136)] [] q137) q138), (.BinOp (.Subscript (.Subscript (.Name (Str.ofString "rows") q139) (.BinOp (.Name (Str.ofString "i") q140) .Sub (.Constant (.int 1) 0 q141) q142) q143) (.BinOp (.Name (Str.ofString "j") q144) .Sub (.Constant (.int 1) 0 q145) q146) q147) .Add (.Call (.Name (Str.ofString "_law_pair") q148) [(.Subscript (.Name (Str.ofString "here") q149) (.Name (Str.ofString "i") q150) q151), (.Subscript (.Name (Str.ofString "there") q152) (.Name (Str.ofString "j") q153) q154), (.Name (Str.ofString "costs") q155)] [] q156) q157)] [] q158) q159)] [] q160)] [] q161), (.Assign [(.Name (Str.ofString "most") q162)] (.BinOp (.Call (.Name (Str.ofString "max") q163) [(.Call (.Name (Str.ofString "len") q164) [(.Name (Str.ofString "one") q165)] [] q166), (.Call (.Name (Str.ofString "len") q167) [(.Name (Str.ofString "other") q168)] [] q169)] [] q170) .Mult (.Subscript (.Name (Str.ofString "costs") q171) (.Constant (.int 2) 0 q172) q173) q174) q175), (.Assign [(.Name (Str.ofString "due") q176)] (.IfExp (.Compare (.Name (Str.ofString "one") q177) [.Eq] [(.Name (Str.ofString "other") q178)] q179) (.Constant (.int 0) 0 q180) (.IfExp (.BoolOp .Or [(.Compare (.Name (Str.ofString "one") q181) [.Eq] [(.Constant (.str (Str.ofString "")) 0 q182)] q183), (.Compare (.Name (Str.ofString "other") q184) [.Eq] [(.Constant (.str (Str.ofString "")) 0 q185)] q186)] q187) (.Name (Str.ofString "most") q188) (.Subscript (.Subscript (.Name (Str.ofString "rows") q189) (.UnaryOp .USub (.Constant (.int 1) 0 q190) q191) q192) (.UnaryOp .USub (.Constant (.int 1) 0 q193) q194) q195) q196) q197) q198), (.If (.BoolOp .Or [(.Compare (.Call (.Attribute (.Name (Str.ofString "plain") q200) (Str.ofString "distance") q199) [(.Name (Str.ofString "one") q201), (.Name (Str.ofString "other") q202)] [] q203) [.NotEq] [(.Name (Str.ofString "due") q204)] q205), (.Compare (.Call (.Attribute (.Name (Str.ofString "plain") q207) (Str.ofString "similarity") q206) [(.Name (Str.ofString "one") q208), (.Name (Str.ofString "other") q209)] [] q210) [.NotEq] [(.BinOp (.Name (Str.ofString "most") q211) .Sub (.Name (Str.ofString "due") q212) q213)] q214), (.BoolOp .And [(.Compare (.Name (Str.ofString "one") q215) [.NotEq] [(.Name (Str.ofString "other") q216)] q217), (.Compare (.Call (.Attribute (.Name (Str.ofString "plain") q219) (Str.ofString "distance") q218) [(.Call (.Attribute (.Name (Str.ofString "one") q221) (Str.ofString "lower") q220) [] [] q222), (.Name (Str.ofString "other") q223)] [] q224) [.NotEq] [(.Name (Str.ofString "due") q225)] q226)] q227)] q228) [(.Return (some (.Constant (.bool false) 0 q229)) q230)] [] q231), (.Assign [(.Name (Str.ofString "turn") q232)] (.Call (.Name (Str.ofString "_law_at") q233) [(.Name (Str.ofString "script") q234), (.Constant (.int 18) 0 q235), (.Constant (.int 6) 0 q236)] [] q237) q238), (.For (.Name (Str.ofString "k") q239) (.Call (.Name (Str.ofString "range") q240) [(.BinOp (.Name (Str.ofString "turn") q241) .Mod (.Constant (.int 2) 0 q242) q243), (.Constant (.int 26) 0 q244), (.Constant (.int 2) 0 q245)] [] q246) [(.Assign [(.Tuple [(.Name (Str.ofString "first") q247), (.Name (Str.ofString "second") q248)] 0 q249)] (.Tuple [(.Subscript (.Name (Str.ofString "letters") q250) (.Name (Str.ofString "k") q251) q252), (.Subscript (.Name (Str.ofString "letters") q253) (.BinOp (.BinOp (.BinOp (.Name (Str.ofString "turn") q254) .FloorDiv (.Constant (.int 2) 0 q255) q256) .Sub (.Name (Str.ofString "k") q257) q258) .Mod (.Constant (.int 26) 0 q259) q260) q261)] 0 q262) q263), (.If (.BoolOp .Or [(.Compare (.Call (.Attribute (.Name (Str.ofString "plain") q265) (Str.ofString "r_cost") q264) [(.Name (Str.ofString "first") q266), (.Name (Str.ofString "second") q267)] [] q268) [.NotEq] [(.Call (.Name (Str.ofString "_law_pair") q269) [(.Name (Str.ofString "first") q270), (.Name (Str.ofString "second") q271), (.Name (Str.ofString "costs") q272)] [] q273)] q274), (.Compare (.Call (.Attribute (.Name (Str.ofString "plain") q276) (Str.ofString "d_cost") q275) [(.Name (Str.ofString "first") q277), (.Name (Str.ofString "second") q278)] [] q279) [.NotEq] [(.Call (.Name (Str.ofString "_law_step") q280) [(.Name (Str.ofString "first") q281), (.Name (Str.ofString "second") q282), (.Name (Str.ofString "costs") q283)] [] q284)] q285)] q286) [(.Return (some (.Constant (.bool false) 0 q287)) q288)] [] q289)] [] q290), (.Return (some (.Constant (.bool true) 0 q291)) q292)] (lawEnv L fa cd)) Q E s := by
  revert X; k_fill; intro X
  have hU1 := sp_len W1
  have hU2 := sp_len W2
  have hs1 : W1.length ≤ 3 := hw1.small
  have hs2 : W2.length ≤ 3 := hw2.small
  have offl : L + 1 ≠ 172 := neN (by omega)
  have offc : cl ≠ 172 := neN (by omega)
  have offx : x ≠ 172 := neN (by omega)
  have offd : dx ≠ 172 := neN (by omega)
  refine wpAny_execs_cons (rows_stmt (lo := lo) (ex := ex) B X T C (by assumption) F N ts hhere hoc hU1 hU2 (by omega) (by omega) hw1.sp_ascii (by omega) fun h1 tk1 D rs mat1 F1 N1 M1 => ?_)
  have hpre : ∀ p ∈ [(L + 1, oc), (cl, ({ cls := .type "list", data := .seq #[.int c0 u0, .int c1 u1, .int c2 u2] nc } : Obj)), (x, instObj 192 dx), (dx, dictOf (edD w.params c0 c1 c2 lo ex k1 k2 k3 k4 k5 k6 v1 v2 v3 v6) n)], ∀ r ∈ rs, p.1 ≠ r := by
    intro p hp r hr
    have hlo := ltN (M1.low r hr)
    simp only [List.mem_cons, List.not_mem_nil, or_false] at hp
    rcases hp with rfl | rfl | rfl | rfl <;> (refine neN ?_; dsimp only at hlo ⊢; omega)
  refine wpAny_execs_cons (lawcol_loop (lo := lo) (ex := ex) (mat := mat1) (U1 := Str.ofString " " ++ W1) (tu1 := tu1) (s := { s with heap := h1, toks := tk1 }) B X T C F1 N1 ts M1 rfl hcosts hhere hloc hU1 (by omega) (by omega) hpre offl offc offx offd hdp hun rfl fun h2 tk2 vi Tl2 mat2 V2 ts2 F2 N2 M2 z00 hcol hcr => ?_)
  clear F1 N1
  refine wpAny_execs_cons (lawrow_loop (lo := lo) (ex := ex) (Tl := Tl2) (mat := mat2) (U2 := Str.ofString " " ++ W2) (tu2 := tu2) (s := { s with heap := h2, toks := tk2 }) B X T C F2 N2 ts2 M2 rfl hcosts hoc hU2 (by omega) (by omega) hpre offl offc offx offd hdp hun fun h3 tk3 vj Tl3 mat3 V3 ts3 F3 N3 M3 hrow hrr => ?_)
  clear F2 N2 M2
  refine wpAny_execs_cons (lawout_loop (lo := lo) (ex := ex) (Tl := Tl3) (mat := mat3) (U1 := Str.ofString " " ++ W1) (U2 := Str.ofString " " ++ W2) (tu1 := tu1) (tu2 := tu2) (s := { s with heap := h3, toks := tk3 }) B X T C F3 N3 ts3 M3 rfl hcosts hhere hoc hU1 hU2 (by omega) (by omega) hpre offl offc offx offd hdp hun fun h4 tk4 wi wj Tl4 mat4 V4 ts4 F4 N4 M4 hmid hmr => ?_)
  clear F3 N3 M3
  have hV := tab_of (n1 := W1.length) (n2 := W2.length) (lc := lo) (f1 := lfst c0 c1 c2 (Str.ofString " " ++ W1)) (f2 := lfst c0 c1 c2 (Str.ofString " " ++ W2)) (g := lgst c0 c1 c2 (Str.ofString " " ++ W1) (Str.ofString " " ++ W2)) (V := V4)
    (by rw [hmr 0 0 (.inl rfl), hrr 0 0 (.inr rfl)]; exact z00)
    (by intro i hi; rw [hmr (i + 1) 0 (.inr rfl), hrr (i + 1) 0 (.inr rfl), hmr i 0 (.inr rfl), hrr i 0 (.inr rfl)]; exact hcol i hi)
    (by intro j hj; rw [hmr 0 (j + 1) (.inl rfl), hmr 0 j (.inl rfl)]; exact hrow j hj)
    hmid W1.length W2.length (Nat.le_refl _) (Nat.le_refl _)
  refine wpAny_execs_cons (most_stmt (s := { s with heap := h4, toks := tk4 }) (W1 := W1) (W2 := W2) (t1 := t1) (t2 := t2) B X T C F4 N4 (.tail _ (.head _)) hone hother hcosts (by omega) (by omega) ⟨by omega, hc3⟩ fun h5 tk5 tm F5 N5 => ?_)
  clear F4 N4
  refine wpAny_execs_cons (due_stmt (s := { s with heap := h5, toks := tk5 }) (W1 := W1) (W2 := W2) (t1 := t1) (t2 := t2) (dv := dueV c0 c1 c2 lo W1 W2) B X T C F5 N5 M4 (fun q hq => List.mem_append_right [(L + 1, oc), (cl, ({ cls := .type "list", data := .seq #[.int c0 u0, .int c1 u1, .int c2 u2] nc } : Obj)), (x, instObj 192 dx), (dx, dictOf (edD w.params c0 c1 c2 lo ex k1 k2 k3 k4 k5 k6 v1 v2 v3 v6) n)] (List.mem_append_right _ hq)) (by omega) (by omega) hone hother rfl rfl
    (fun e => by unfold dueV; rw [if_pos e]) (fun e z => by unfold dueV; rw [if_neg e, if_pos z]) (fun e z1 z2 => by unfold dueV; rw [if_neg e, if_neg (fun z => z.elim z1 z2), hV]) fun h6 tk6 td F6 N6 => ?_)
  clear F5 N5
  have N6' : News h₀ L h6 ((cl, ({ cls := .type "list", data := .seq #[.int c0 u0, .int c1 u1, .int c2 u2] nc } : Obj)) :: (x, instObj 192 dx) :: (dx, dictOf (edD w.params c0 c1 c2 lo ex k1 k2 k3 k4 k5 k6 v1 v2 v3 v6) n) :: (Tl4 ++ [])) := fun p hp => N6 p (.tail _ (by
    rcases List.mem_append.mp (show p ∈ [(cl, ({ cls := .type "list", data := .seq #[.int c0 u0, .int c1 u1, .int c2 u2] nc } : Obj)), (x, instObj 192 dx), (dx, dictOf (edD w.params c0 c1 c2 lo ex k1 k2 k3 k4 k5 k6 v1 v2 v3 v6) n)] ++ (Tl4 ++ []) from hp) with hp | hp
    · exact List.mem_append_left _ hp
    · rw [List.append_nil] at hp
      exact List.mem_append_right [(cl, ({ cls := .type "list", data := .seq #[.int c0 u0, .int c1 u1, .int c2 u2] nc } : Obj)), (x, instObj 192 dx), (dx, dictOf (edD w.params c0 c1 c2 lo ex k1 k2 k3 k4 k5 k6 v1 v2 v3 v6) n)] (List.mem_append_left _ hp)))
  clear N6
  refine wpAny_execs_cons (ask_stmt (lo := lo) (ex := ex) (Tl := Tl4) (a := []) (W1 := W1) (W2 := W2) (t1 := t1) (t2 := t2) (tm := tm) (tv := td) (s := { s with heap := h6, toks := tk6 }) B X T C (by assumption) (by assumption) (by assumption) (by assumption) F6 N6' ts4 hplain hone hother rfl rfl offc offx offd (fun _ h => nomatch h) hdp hun ⟨by omega, hc3⟩ hs1 hs2 (by rw [hw1.upper]) (by rw [hw2.upper]) (by rw [hw1.upper]; exact all_ascii hw1.ascii) (by rw [hw2.upper]; exact all_ascii hw2.ascii)
    (by rw [hw1.lower_len]; exact hs1) (by rw [hw1.back, hw1.lower_len]) (by rw [hw1.back]; exact all_ascii hw1.ascii) (callV_word hc0 hc1 hc2 hw1 hw2) rfl (fun e => callV_lower hc0 hc1 hc2 hw1 hw2 e) fun h7 tk7 Tl7 ts7 F7 N7 => ?_)
  clear F6 N6'
  refine wpAny_execs_cons (turn_stmt (l := l) (s := { s with heap := h7, toks := tk7 }) B X T C hl hI hns F7 N7 hscr hdp hun fun h8 tk8 v tv F8 N8 => ?_)
  clear F7 N7
  refine wpAny_execs_cons (turn_loop (lo := lo) (ex := ex) (Tl := Tl7) (a := []) (v := v) (tlt := t3) (ttn := tv) (s := { s with heap := h8, toks := tk8 }) B X T C (by assumption) (by assumption) (by assumption) F8 N8 ts7 hplain hcosts hlet rfl offc offx offd (fun _ h => nomatch h) hdp hun fun h9 tk9 m9 Tl9 ts9 F9 N9 => ?_)
  clear F8 N8
  k_steps
  exact hQ _ _ _ _ ts9 F9 N9
theorem law_end {q1 q2 q3 q4 q5 q6 q7 q8 q9 q10 q11 q12 q13 q14 q15 q16 q17 q18 q19 q20 q21 q22 q23 q24 q25 q26 q27 q28 q29 q30 q31 q32 q33 q34 q35 q36 q37 q38 q39 q40 q41 q42 q43 q44 q45 q46 q47 q48 q49 q50 q51 q52 q53 q54 q55 q56 q57 q58 q59 q60 q61 q62 q63 q64 q65 q66 q67 q68 q69 q70 q71 q72 q73 q74 q75 q76 q77 q78 q79 q80 q81 q82 q83 q84 q85 q86 q87 q88 q89 q90 q91 q92 q93 q94 q95 q96 q97 q98 q99 q100 q101 q102 q103 q104 q105 q106 q107 q108 q109 q110 q111 q112 q113 q114 q115 q116 q117 q118 q119 q120 q121 q122 q123 q124 q125 q126 q127 q128 q129 q130 q131 q132 q133 q134 q135 q136 q137 q138 q139 q140 q141 q142 q143 q144 q145 q146 q147 q148 q149 q150 q151 q152 q153 q154 q155 q156 q157 q158 q159 q160 q161 q162 q163 q164 q165 q166 q167 q168 q169 q170 q171 q172 q173 q174 q175 q176 q177 q178 q179 q180 q181 q182 q183 q184 q185 q186 q187 q188 q189 q190 q191 q192 q193 q194 q195 q196 q197 q198 q199 q200 q201 q202 q203 q204 q205 q206 q207 q208 q209 q210 q211 q212 q213 q214 q215 q216 q217 q218 q219 q220 q221 q222 q223 q224 q225 q226 q227 q228 q229 q230 q231 q232 q233 q234 q235 q236 q237 q238 q239 q240 q241 q242 q243 q244 q245 q246 q247 q248 q249 q250 q251 q252 q253 q254 q255 q256 q257 q258 q259 q260 q261 q262 q263 q264 q265 q266 q267 q268 q269 q270 q271 q272 q273 q274 q275 q276 q277 q278 q279 q280 q281 q282 q283 q284 q285 q286 q287 q288 q289 q290 q291 q292 : Pos} {d0 d1 d2 : Int} {news : List (Addr × Obj)} (B : Below A₀ base fr h₀) (X : (hd.heap_39 w.params).In h₀) (T : Top p loose mean mg mb h₀) (C : CodeHd h₀ 176 172) (hl : base.IsList l vs.toArray) (hI : IntsAre vs ns) (hns : ns.length ≤ 63) (hlr : q1.line = q10.line) (hq199 : q199.endLine = q203.line) (hq206 : q206.endLine = q210.line) (hq220 : q220.endLine = q222.line) (hq218 : q218.endLine = q224.line) (hlq248 : q248.line = q247.line) (hq264 : q264.endLine = q268.line) (hq275 : q275.endLine = q279.line) (F : Fr h₀ L s.heap m) (N : News h₀ L s.heap news) (hmc : (L + 1, oc) ∈ news) (hml : (cl, ({ cls := .type "list", data := .seq #[.int c0 u0, .int c1 u1, .int c2 u2] nc } : Obj)) ∈ news) (hmx : (x, instObj 192 dx) ∈ news) (hmd : (dx, dictOf (edD w.params d0 d1 d2 lo ex k1 k2 k3 k4 k5 k6 v1 v2 v3 v6) n) ∈ news) (hmt : (172, tabObj #[]) ∈ news) (hd0 : d0 = c0) (hd1 : d1 = c1) (hd2 : d2 = c2) (hw1 : Word W1) (hw2 : Word W2)
  (hscr : m (Str.ofString "script") = some (.ref l)) (hlet : m (Str.ofString "letters") = some (.str lets t3)) (hone : m (Str.ofString "one") = some (.str W1 t1)) (hother : m (Str.ofString "other") = some (.str W2 t2)) (hcosts : m (Str.ofString "costs") = some (.ref cl)) (hloc : m (Str.ofString "local") = some (.bool lo)) (hplain : m (Str.ofString "plain") = some (.ref x))
  (hhere : m (Str.ofString "here") = some (.str (Str.ofString " " ++ W1) tu1)) (hoc : oc.data = .cell (some (.str (Str.ofString " " ++ W2) tu2))) (hc0 : 0 ≤ c0) (hc1 : c0 ≤ c1) (hc2 : c1 ≤ c2) (hc3 : c2 ≤ 8)
  (hL : @LT.lt Nat _ 172 L) (hLx : @LE.le Nat _ (L + 1) x) (hcl : @LT.lt Nat _ 172 cl) (hclx : @LE.le Nat _ cl x) (hdx : @LT.lt Nat _ 172 dx) (hdxx : @LE.le Nat _ dx x) (hdp : dp + 100 < recursionLimit) (hun : un + 1024 < cLine)
  (hQ : ∀ h' tk' m' Tl', TS Tl' → Fr h₀ L h' m' → News h₀ L h' Tl' → Q (.ret (.bool true)) { s with heap := h', toks := tk' }) :
  wpAny (model PySem.Challenge.rw_bs0041_01.row.prog w) (({ handled := none, depth := dp, frames := some fr, guards := gd, units := un } : Around).deeper (lawEnv L fa cd)) (execs [(.Assign [(.Name (Str.ofString "rows") q1)] (.ListComp (.BinOp (.List [(.Constant (.int 0) 0 q2)] q3) .Mult (.Call (.Name (Str.ofString "len") q4) [(.Name (Str.ofString "there") q5)] [] q6) q7) [⟨(.Name (Str.ofString "letter") q8), (.Name (Str.ofString "here") q9), [], 0⟩] { kind := .function, names := [((Str.ofString ".0"), .local), ((Str.ofString "letter"), .local), ((Str.ofString "len"), .globalImplicit), ((Str.ofString "there"), .free)], isGenerator := false, isCoroutine := false } q10) q11), (.For (.Name (Str.ofString "i") q12) (.Call (.Name (Str.ofString "range") q13) [(.Constant (.int 1) 0 q14), (.Call (.Name (Str.ofString "len") q15) [(.Name (Str.ofString "here") q16)] [] q17)] [] q18) [(.Assign [(.Subscript (.Subscript (.Name (Str.ofString "rows") q19) (.Name (Str.ofString "i") q20) q21) (.Constant (.int 0) 0 q22) q23)] (.IfExp (.Name (Str.ofString "local") q24) (.Constant (.int 0) 0 q25) (.BinOp (.Subscript (.Subscript (.Name (Str.ofString "rows") q26) (.BinOp (.Name (Str.ofString "i") q27) .Sub (.Constant (.int 1) 0 q28) q29) q30) (.Constant (.int 0) 0 q31) q32) .Add (.Call (.Name (Str.ofString "_law_step") q33) [(.Subscript (.Name (Str.ofString "here") q34) (.BinOp (.Name (Str.ofString "i") q35) .Sub (.Constant (.int 1) 0 q36) q37) q38), (.Subscript (.Name (Str.ofString "here") q39) (.Name (Str.ofString "i") q40) q41), (.Name (Str.ofString "costs") q42)] [] q43) q44) q45) q46)] [] q47), (.For (.Name (Str.ofString "j") q48) (.Call (.Name (Str.ofString "range") q49) [(.Constant (.int 1) 0 q50), (.Call (.Name (Str.ofString "len") q51) [(.Name (Str.ofString "there") q52)] [] q53)] [] q54) [(.Assign [(.Subscript (.Subscript (.Name (Str.ofString "rows") q55) (.Constant (.int 0) 0 q56) q57) (.Name (Str.ofString "j") q58) q59)] (.BinOp (.Subscript (.Subscript (.Name (Str.ofString "rows") q60) (.Constant (.int 0) 0 q61) q62) (.BinOp (.Name (Str.ofString "j") q63) .Sub (.Constant (.int 1) 0 q64) q65) q66) .Add (.Call (.Name (Str.ofString "_law_step") q67) [(.Subscript (.Name (Str.ofString "there") q68) (.BinOp (.Name (Str.ofString "j") q69) .Sub (.Constant (.int 1) 0 q70) q71) q72), (.Subscript (.Name (Str.ofString "there") q73) (.Name (Str.ofString "j") q74) q75), (.Name (Str.ofString "costs") q76)] [] q77) q78) q79)] [] q80), (.For (.Name (Str.ofString "i") q81) (.Call (.Name (Str.ofString "range") q82) [(.Constant (.int 1) 0 q83), (.Call (.Name (Str.ofString "len") q84) [(.Name (Str.ofString "here") q85)] [] q86)] [] q87) [(.For (.Name (Str.ofString "j") q88) (.Call (.Name (Str.ofString "range") q89) [(.Constant (.int 1) 0 q90), (.Call (.Name (Str.ofString "len") q91) [(.Name (Str.ofString "there") q92)] [] q93)] [] q94) [(.Assign [(.Subscript (.Subscript (.Name (Str.ofString "rows") q95) (.Name (Str.ofString "i") q96) q97) (.Name (Str.ofString "j") q98) q99)] (.Call (.Name (Str.ofString "min") q100) [(.BinOp (.Subscript (.Subscript (.Name (Str.ofString "rows") q101) (.BinOp (.Name (Str.ofString "i") q102) .Sub (.Constant (.int 1) 0 q103) q104) q105) (.Name (Str.ofString "j") q106) q107) .Add (.Call (.Name (Str.ofString "_law_step") q108) [(.Subscript (.Name (Str.ofString "here") q109) (.BinOp (.Name (Str.ofString "i") q110) .Sub (.Constant (.int 1) 0 q111) q112) q113), (.Subscript (.Name (Str.ofString "here") q114) (.Name (Str.ofString "i") q115) q116), (.Name (Str.ofString "costs") q117)] [] q118) q119), (.BinOp (.Subscript (.Subscript (.Name (Str.ofString "rows") q120) (.Name (Str.ofString "i") q121) q122) (.BinOp (.Name (Str.ofString "j") q123) .Sub (.Constant (.int 1) 0 q124) q125) q126) .Add (.Call (.Name (Str.ofString "_law_step") q127) [(.Subscript (.Name (Str.ofString "there") q128) (.BinOp (.Name (Str.ofString "j") q129) .Sub (.Constant (.int 1) 0 q130) q131) q132), (.Subscript (.Name (Str.ofString "there") q133) (.Name (Str.ofString "j") q134) q135), (.Name (Str.ofString "costs") q136)] [] q137) q138), (.BinOp (.Subscript (.Subscript (.Name (Str.ofString "rows") q139) (.BinOp (.Name (Str.ofString "i") q140) .Sub (.Constant (.int 1) 0 q141) q142) q143) (.BinOp (.Name (Str.ofString "j") q144) .Sub (.Constant (.int 1) 0 q145) q146) q147) .Add (.Call (.Name (Str.ofString "_law_pair") q148) [(.Subscript (.Name (Str.ofString "here") q149) (.Name (Str.ofString "i") q150) q151), (.Subscript (.Name (Str.ofString "there") q152) (.Name (Str.ofString "j") q153) q154), (.Name (Str.ofString "costs") q155)] [] q156) q157)] [] q158) q159)] [] q160)] [] q161), (.Assign [(.Name (Str.ofString "most") q162)] (.BinOp (.Call (.Name (Str.ofString "max") q163) [(.Call (.Name (Str.ofString "len") q164) [(.Name (Str.ofString "one") q165)] [] q166), (.Call (.Name (Str.ofString "len") q167) [(.Name (Str.ofString "other") q168)] [] q169)] [] q170) .Mult (.Subscript (.Name (Str.ofString "costs") q171) (.Constant (.int 2) 0 q172) q173) q174) q175), (.Assign [(.Name (Str.ofString "due") q176)] (.IfExp (.Compare (.Name (Str.ofString "one") q177) [.Eq] [(.Name (Str.ofString "other") q178)] q179) (.Constant (.int 0) 0 q180) (.IfExp (.BoolOp .Or [(.Compare (.Name (Str.ofString "one") q181) [.Eq] [(.Constant (.str (Str.ofString "")) 0 q182)] q183), (.Compare (.Name (Str.ofString "other") q184) [.Eq] [(.Constant (.str (Str.ofString "")) 0 q185)] q186)] q187) (.Name (Str.ofString "most") q188) (.Subscript (.Subscript (.Name (Str.ofString "rows") q189) (.UnaryOp .USub (.Constant (.int 1) 0 q190) q191) q192) (.UnaryOp .USub (.Constant (.int 1) 0 q193) q194) q195) q196) q197) q198), (.If (.BoolOp .Or [(.Compare (.Call (.Attribute (.Name (Str.ofString "plain") q200) (Str.ofString "distance") q199) [(.Name (Str.ofString "one") q201), (.Name (Str.ofString "other") q202)] [] q203) [.NotEq] [(.Name (Str.ofString "due") q204)] q205), (.Compare (.Call (.Attribute (.Name (Str.ofString "plain") q207) (Str.ofString "similarity") q206) [(.Name (Str.ofString "one") q208), (.Name (Str.ofString "other") q209)] [] q210) [.NotEq] [(.BinOp (.Name (Str.ofString "most") q211) .Sub (.Name (Str.ofString "due") q212) q213)] q214), (.BoolOp .And [(.Compare (.Name (Str.ofString "one") q215) [.NotEq] [(.Name (Str.ofString "other") q216)] q217), (.Compare (.Call (.Attribute (.Name (Str.ofString "plain") q219) (Str.ofString "distance") q218) [(.Call (.Attribute (.Name (Str.ofString "one") q221) (Str.ofString "lower") q220) [] [] q222), (.Name (Str.ofString "other") q223)] [] q224) [.NotEq] [(.Name (Str.ofString "due") q225)] q226)] q227)] q228) [(.Return (some (.Constant (.bool false) 0 q229)) q230)] [] q231), (.Assign [(.Name (Str.ofString "turn") q232)] (.Call (.Name (Str.ofString "_law_at") q233) [(.Name (Str.ofString "script") q234), (.Constant (.int 18) 0 q235), (.Constant (.int 6) 0 q236)] [] q237) q238), (.For (.Name (Str.ofString "k") q239) (.Call (.Name (Str.ofString "range") q240) [(.BinOp (.Name (Str.ofString "turn") q241) .Mod (.Constant (.int 2) 0 q242) q243), (.Constant (.int 26) 0 q244), (.Constant (.int 2) 0 q245)] [] q246) [(.Assign [(.Tuple [(.Name (Str.ofString "first") q247), (.Name (Str.ofString "second") q248)] 0 q249)] (.Tuple [(.Subscript (.Name (Str.ofString "letters") q250) (.Name (Str.ofString "k") q251) q252), (.Subscript (.Name (Str.ofString "letters") q253) (.BinOp (.BinOp (.BinOp (.Name (Str.ofString "turn") q254) .FloorDiv (.Constant (.int 2) 0 q255) q256) .Sub (.Name (Str.ofString "k") q257) q258) .Mod (.Constant (.int 26) 0 q259) q260) q261)] 0 q262) q263), (.If (.BoolOp .Or [(.Compare (.Call (.Attribute (.Name (Str.ofString "plain") q265) (Str.ofString "r_cost") q264) [(.Name (Str.ofString "first") q266), (.Name (Str.ofString "second") q267)] [] q268) [.NotEq] [(.Call (.Name (Str.ofString "_law_pair") q269) [(.Name (Str.ofString "first") q270), (.Name (Str.ofString "second") q271), (.Name (Str.ofString "costs") q272)] [] q273)] q274), (.Compare (.Call (.Attribute (.Name (Str.ofString "plain") q276) (Str.ofString "d_cost") q275) [(.Name (Str.ofString "first") q277), (.Name (Str.ofString "second") q278)] [] q279) [.NotEq] [(.Call (.Name (Str.ofString "_law_step") q280) [(.Name (Str.ofString "first") q281), (.Name (Str.ofString "second") q282), (.Name (Str.ofString "costs") q283)] [] q284)] q285)] q286) [(.Return (some (.Constant (.bool false) 0 q287)) q288)] [] q289)] [] q290), (.Return (some (.Constant (.bool true) 0 q291)) q292)] (lawEnv L fa cd)) Q E s := by
  subst hd0 hd1 hd2
  refine law_rest (lo := lo) (ex := ex) (u0 := u0) (u1 := u1) (u2 := u2) (nc := nc) (k1 := k1) (k2 := k2) (k3 := k3) (k4 := k4) (k5 := k5) (k6 := k6) (v1 := v1) (v2 := v2) (v3 := v3) (v6 := v6) (n := n) (Tl := [(172, tabObj #[])]) B X T C hl hI hns hlr (by assumption) (by assumption) (by assumption) (by assumption) (by assumption) (by assumption) (by assumption) F (fun p hp => ?_) .t0 hw1 hw2 hscr hlet hone hother hcosts hloc hplain hhere hoc hc0 hc1 hc2 hc3 hL hLx hcl hclx hdx hdxx hdp hun hQ
  simp only [List.mem_cons, List.not_mem_nil, or_false] at hp
  rcases hp with rfl | rfl | rfl | rfl | rfl
  · exact N _ hmc
  · exact N _ hml
  · exact N _ hmx
  · exact N _ hmd
  · exact N _ hmt
end
end Mine
-- Ed18
namespace Mine
theorem fresh_Ed18 : True := by (w_top off; exact trivial)
theorem costs_eq {a b c M1 M2 : Int} (h1 : M1 = a ∨ M1 = b) (h1' : a ≤ M1 ∧ b ≤ M1) (h2 : M2 = a ∨ M2 = b ∨ M2 = c) (h2' : a ≤ M2 ∧ b ≤ M2 ∧ c ≤ M2) :
    (if a > b then a else b) = M1 ∧ (if (if a > b then a else b) > c then (if a > b then a else b) else c) = M2 ∧ a ≤ M1 ∧ M1 ≤ M2 := by
  refine ⟨?_, ?_, ?_, ?_⟩ <;> (repeat' split) <;> omega
theorem fm3 (v : Int) : 0 ≤ v.fmod 3 ∧ v.fmod 3 < 3 := ⟨Int.fmod_nonneg_of_pos v (by decide), Int.fmod_lt_of_pos v (by decide)⟩
theorem costs_le {a b c M : Int} (h : M = a.fmod 3 ∨ M = b.fmod 4 ∨ M = c.fmod 5) : M ≤ 8 := by
  have h1 : a.fmod 3 < 3 := Int.fmod_lt_of_pos a (by decide)
  have h2 : b.fmod 4 < 4 := Int.fmod_lt_of_pos b (by decide)
  have h3 : c.fmod 5 < 5 := Int.fmod_lt_of_pos c (by decide)
  omega
local macro_rules | `(tactic| walk_at "MY list") => `(tactic| (first | exact List.Mem.head _ | (refine List.Mem.tail _ ?_; walk_at "MY list")))
theorem Word.short {a : Str} (h : Word a) : a.length ≤ 3 := h.small
local macro_rules | `(tactic| k_room) => `(tactic| ktr_room)
local macro_rules | `(tactic| walk_at "MY rest") => `(tactic| (
  refine' kp_rest ?k1 ?k2 ?k3 ?k4 ?k5 ?kA ?kF ?kK ?k6 ?k7 ?k8 ?kV ?kP ?kG ?kB ?_ ?c2 ?c3 ?c4 ?c5
  (case kA => exact rfl)
  (case kF => first | exact rfl | assumption)
  (case kK => first | exact rfl | assumption)
  (case k1 => k_asm)
  (case k2 => k_asm)
  (case k3 => k_asm)
  (case k4 => k_asm)
  (case k5 => k_asm)
  (case k6 => k_is)
  (case k7 => k_is)
  (case k8 => k_room)
  (case kV => kl_lit)
  (case kP => exact rfl)
  (case kG => exact fun _ => rfl)
  (case kB => exact fun _ => locs rfl)
  (case c5 => decide)
  (case c2 => exact rfl)
  (case c3 => exact rfl)
  (case c4 => exact rfl)
  k_whole
  intro D' g' L' h' l1 FG' F' N' B' X' T'
  (try k_lt l1); (try dsimp only); (try k_lift B'); (try k_fold)))
local macro_rules | `(tactic| walk_at "MY plain") => `(tactic| (
  refine' code_def ?k1 ?k2 ?k3 ?k4 ?k5 ?kA ?kF ?kK ?k6 ?k7 ?k8 ?k9 ?kB ?_ ?c2 ?c3 ?c4 ?c5
  (case kA => exact rfl)
  (case kF => first | exact rfl | assumption)
  (case kK => first | exact rfl | assumption)
  (case k1 => k_asm)
  (case k2 => k_asm)
  (case k3 => k_asm)
  (case k4 => k_asm)
  (case k5 => k_asm)
  (case k6 => k_is)
  (case k7 => k_is)
  (case k8 => k_room)
  (case k9 => first | exact BindsTo.of_eq rfl | exact binds_K (by k_in) rfl (by k_is) rfl rfl rfl)
  (case c5 => decide)
  (case kB => exact locs rfl)
  (case c2 => exact rfl)
  (case c3 => exact rfl)
  (case c4 => exact rfl)
  k_whole
  intro g' L' h' FG' F' N' B' X' T'
  (try dsimp only); (try k_lift B'); (try k_fold)))
local macro_rules | `(tactic| walk_at "MY plainC") => `(tactic| (refine' code_defC ?k1 ?k2 ?k3 ?k4 ?k5 ?kA ?kF ?kK ?k6 ?k7 ?k8 ?k9 ?kB ?kD ?_ ?c2 ?c3 ?c4; (case kA => exact rfl); (case kF => first | exact rfl | assumption); (case kK => first | exact rfl | assumption); (case k1 => k_asm); (case k2 => k_asm); (case k3 => k_asm); (case k4 => k_asm); (case k5 => k_asm); (case k6 => k_is); (case k7 => k_is); (case k8 => k_room); (case k9 => first | exact BindsTo.of_eq rfl | exact binds_K (by k_in) rfl (by k_is) rfl rfl rfl); (case kB => exact rfl); (case kD => decide +kernel); (case c2 => exact rfl); (case c3 => exact rfl); (case c4 => exact rfl); k_whole; intro g' L' h' tk' cells' FG' F' N' Y' B' X' T' l1; (try k_lt l1); k_cells Y'; (try simp only [List.cons_append, List.nil_append] at N'); (try dsimp only); (try k_lift B'); (try k_fold)))
local macro_rules | `(tactic| walk_at "call builtin:str.join") => `(tactic| (k_here; (with_reducible show wpAny _ _ (call (Value.builtin "str.join") [Value.str _ _, Value.ref 155]) _ _ _); k_dflt (refine' join_grp ?F ?X ?_; (case F => k_asm); (case X => k_asm); k_whole); intro t' k'; (try dsimp only)))
local macro_rules | `(tactic| k_all) => `(tactic| assumption)
local macro_rules | `(tactic| walk_at "call ref") => `(tactic| (k_here; (with_reducible show wpAny _ _ (call (Value.ref 201) _) _ _ _); k_dflt (refine wpAny_call ?_; refine' law_at_c ?B ?F ?X ?N ?T ?hf ?hke ?hl ?hI ?hns ?hdp ?hun ?hk0 ?hk1 ?_; (case B => k_asm); (case F => k_asm); (case X => k_asm); (case T => k_asm); (case hf => first | exact rfl | assumption); (case hke => first | exact rfl | assumption); (case N => k_asm); (case hl => assumption); (case hI => assumption); (case hns => omega); (case hdp => decide +kernel); (case hun => decide +kernel); (case hk0 => decide); (case hk1 => decide); k_whole); intro h' tk' v' t' F' N'; (try dsimp only)))
local macro_rules | `(tactic| walk_at "call ref") => `(tactic| (k_here; (with_reducible show wpAny _ _ (call (Value.ref 206) _) _ _ _); k_dflt (refine wpAny_call ?_; refine' law_word_c ?B ?F ?X ?N ?T ?hf ?hke ?hl ?hI ?hns ?hdp ?hun ?hst ?hst1 ?_; (case B => k_asm); (case F => k_asm); (case X => k_asm); (case T => k_asm); (case hf => first | exact rfl | assumption); (case hke => first | exact rfl | assumption); (case N => k_asm); (case hl => assumption); (case hI => assumption); (case hns => omega); (case hdp => decide +kernel); (case hun => decide +kernel); (case hst => decide); (case hst1 => decide); k_whole); intro h' tk' v' t' F' N' hw'; (have hwl' := Word.short hw'); (try dsimp only)))
local macro_rules | `(tactic| walk_at "eval Call") => `(tactic| ((with_reducible show wpAny _ _ (eval (Expr.Call (Expr.Name _ _) _ [] _) _) _ _ _); k_dflt (refine Call_ ?_)))
local macro_rules | `(tactic| walk_at "execs cons") => `(tactic| (k_here; (with_reducible show wpAny _ _ (execs (Stmt.Assign [Expr.Name _ _] (Expr.ListComp _ _ _ _) _ :: _) _) _ _ _); refine ElP.hole ?_))

theorem t0 : PySem.Challenge.rw_bs0041_01.Holds := hd (by
  k_go0
  all_goals try k_fold
  k_steps
  · refine .mk ?_
    with_reducible rename Fr _ _ _ _ => kF
    with_reducible rename News _ _ _ _ => kN
    refine' law_end (fr := []) ?B ?X ?T ?C ?hl ?hI ?hns ?lr ?p0 ?p1 ?p2 ?p3 ?p4 ?p5 ?p6 kF kN ?mc ?ml ?mx ?md ?mt ?e0 ?e1 ?e2 ?w1 ?w2 ?scr ?lett ?one ?oth ?cos ?loc ?pla ?her ?hoc ?c0 ?c1 ?c2 ?c3 ?L ?Lx ?cl ?clx ?dx ?dxx ?dp ?un ?qq9
    case cos => exact rfl
    case pla => exact rfl
    case loc => exact rfl
    case one => exact rfl
    case oth => exact rfl
    case her => exact rfl
    case lett => exact rfl
    case scr => exact rfl
    case hoc => assumption
    case mc => walk_at "MY list"
    case ml => walk_at "MY list"
    case mx => walk_at "MY list"
    case md => walk_at "MY list"
    case mt => walk_at "MY list"
    case B => k_asm
    case X => k_asm
    case T => k_asm
    case C => assumption
    case hl => assumption
    case hI => assumption
    case hns => omega
    case lr => exact rfl
    case p0 => exact rfl
    case p1 => exact rfl
    case p2 => exact rfl
    case p3 => exact rfl
    case p4 => exact rfl
    case p5 => exact rfl
    case p6 => exact rfl
    case w1 => assumption
    case w2 => assumption
    case L => omega
    case Lx => omega
    case cl => omega
    case clx => omega
    case dx => omega
    case dxx => omega
    case dp => decide +kernel
    case un => decide +kernel

    case e0 => exact rfl
    case e1 => exact rfl
    case e2 => exact rfl
    case c0 => decide
    case c1 => decide
    case c2 => decide
    case c3 => decide
    case qq9 =>
      intro h9 tk9 m9 Tl9 ts9 F9 N9
      clear kF kN
      cases ts9
      all_goals k_steps
  · refine .mk ?_
    with_reducible rename Fr _ _ _ _ => kF
    with_reducible rename News _ _ _ _ => kN
    refine' law_end (fr := []) ?B ?X ?T ?C ?hl ?hI ?hns ?lr ?p0 ?p1 ?p2 ?p3 ?p4 ?p5 ?p6 kF kN ?mc ?ml ?mx ?md ?mt ?e0 ?e1 ?e2 ?w1 ?w2 ?scr ?lett ?one ?oth ?cos ?loc ?pla ?her ?hoc ?c0 ?c1 ?c2 ?c3 ?L ?Lx ?cl ?clx ?dx ?dxx ?dp ?un ?qq9
    case cos => exact rfl
    case pla => exact rfl
    case loc => exact rfl
    case one => exact rfl
    case oth => exact rfl
    case her => exact rfl
    case lett => exact rfl
    case scr => exact rfl
    case hoc => assumption
    case mc => walk_at "MY list"
    case ml => walk_at "MY list"
    case mx => walk_at "MY list"
    case md => walk_at "MY list"
    case mt => walk_at "MY list"
    case B => k_asm
    case X => k_asm
    case T => k_asm
    case C => assumption
    case hl => assumption
    case hI => assumption
    case hns => omega
    case lr => exact rfl
    case p0 => exact rfl
    case p1 => exact rfl
    case p2 => exact rfl
    case p3 => exact rfl
    case p4 => exact rfl
    case p5 => exact rfl
    case p6 => exact rfl
    case w1 => assumption
    case w2 => assumption
    case L => omega
    case Lx => omega
    case cl => omega
    case clx => omega
    case dx => omega
    case dxx => omega
    case dp => decide +kernel
    case un => decide +kernel

    case e0 => exact rfl
    case e1 => exact (costs_eq (by assumption) (by assumption) (by assumption) (by assumption)).1
    case e2 => exact (costs_eq (by assumption) (by assumption) (by assumption) (by assumption)).2.1
    case c0 => exact (fm3 _).1
    case c1 => exact (costs_eq (by assumption) (by assumption) (by assumption) (by assumption)).2.2.1
    case c2 => exact (costs_eq (by assumption) (by assumption) (by assumption) (by assumption)).2.2.2
    case c3 => exact costs_le (by assumption)
    case qq9 =>
      intro h9 tk9 m9 Tl9 ts9 F9 N9
      clear kF kN
      cases ts9
      all_goals k_steps)
end Mine
set_option maxRecDepth 100000 in
set_option maxHeartbeats 8000000 in
theorem PySem.Challenge.cw_bs0041_01_holds : PySem.Challenge.rw_bs0041_01.Holds := by
  exact Mine.t0
