import PyProof.Rows.All
import Wide.All
import OpenK.AllK
import Wide.FinOn
import Lean
import PySem.Challenge.RW_sn0115_01
set_option Elab.async false
set_option maxRecDepth 100000

section
open PySem PySem.W PyProof.Rows
namespace Mine

/-! facts of the type map -/
theorem owner_map : Manifest.owners.lookup (String.ofList ['p', 'a', 'm'].reverse) = some Manifest.sig_map := by kernel_rfl
theorem slot_map_iter : Slot "map" "__iter__" "map.__iter__" :=
  .of (owner := "map") (n := "__iter__") (by rw [typeLookup_type, builtinLookup_eq_fast]; kernel_rfl) (by decide +kernel) (by decide +kernel) (by decide +kernel)
    (by first | exact .inl (by decide +kernel) | exact .inr (by decide +kernel)) (by rw [isSubtype_type]; kernel_rfl)
theorem slot_map_next : Slot "map" "__next__" "map.__next__" :=
  .of (owner := "map") (n := "__next__") (by rw [typeLookup_type, builtinLookup_eq_fast]; kernel_rfl) (by decide +kernel) (by decide +kernel) (by decide +kernel)
    (by first | exact .inl (by decide +kernel) | exact .inr (by decide +kernel)) (by rw [isSubtype_type]; kernel_rfl)
theorem slot_map_init : Slot "map" "__init__" "object.__init__" :=
  .of (owner := "object") (n := "__init__") (by rw [typeLookup_type, builtinLookup_eq_fast]; kernel_rfl) (by decide +kernel) (by decide +kernel) (by decide +kernel)
    (by first | exact .inl (by decide +kernel) | exact .inr (by decide +kernel)) (by rw [isSubtype_type]; kernel_rfl)
theorem map_no_len : typeLookup (.type "map") "__len__" = pure none := by rw [typeLookup_type, builtinLookup_eq_fast]; kernel_rfl
theorem map_no_hint : typeLookup (.type "map") "__length_hint__" = pure none := by rw [typeLookup_type, builtinLookup_eq_fast]; kernel_rfl
theorem entry_map_next : entryFor table "map.__next__" = some Builtin.«map.__next__» := entryFor_of_tree (by kernel_rfl)
theorem entry_map_new : entryFor table "map.__new__" = some Builtin.«map.__new__» := entryFor_of_tree (by kernel_rfl)
theorem entry_map_iter : entryFor table "map.__iter__" = some Builtin.«dict_keyiterator.__iter__» :=
  entryFor_alias (id' := "dict_keyiterator.__iter__") (by kernel_rfl) (by first | rfl | decide +kernel | (unfold String.splitOn; simp +decide [String.splitOnAux])) (by decide +kernel) (by kernel_rfl)
theorem args_map_next_1 (a : Value) : argsOk "map.__next__" ⟨[a], []⟩ := by
  unfold argsOk; rw [signature?_of (id := "map.__next__") (n := ['_', '_', 't', 'x', 'e', 'n', '_', '_']) (o := ['p', 'a', 'm']) (by kernel_rfl) owner_map]; kernel_rfl
theorem args_map_iter_1 (a : Value) : argsOk "map.__iter__" ⟨[a], []⟩ := by
  unfold argsOk; rw [signature?_of (id := "map.__iter__") (n := ['_', '_', 'r', 'e', 't', 'i', '_', '_']) (o := ['p', 'a', 'm']) (by kernel_rfl) owner_map]; kernel_rfl
theorem mro_map : mroOf (.type "map") = pure [.type "map", .type "object"] := by rw [mroOf_type]; kernel_rfl
theorem lookup_map_new : typeLookup (.type "map") "__new__" = pure (some (.builtin "map.__new__")) := by rw [typeLookup_type, builtinLookup_eq_fast]; kernel_rfl
theorem sub_map : isSubtype (.type "map") (.type "map") = pure true := by rw [isSubtype_type]; kernel_rfl
theorem called_map : TypeCalled "map" "map.__new__" "object.__init__" :=
  ⟨by decide +kernel, by decide +kernel, ⟨_, _, mro_map⟩, madeBy_type mro_map lookup_map_new (by decide +kernel), by decide +kernel, sub_map, slot_map_init⟩
theorem typeCall_map (args : List Value) : checkTypeCall "map" ⟨args, []⟩ = pure () := by kernel_rfl
theorem newCall_map (args : List Value) : checkBuiltinCall "map.__new__" ⟨.type "map" :: args, []⟩ = pure () := by kernel_rfl
theorem args_object_init (args : List Value) : argsOk "object.__init__" ⟨args, []⟩ := by
  unfold argsOk; rw [signature?_of (id := "object.__init__") (n := ['_', '_', 't', 'i', 'n', 'i', '_', '_']) (o := ['t', 'c', 'e', 'j', 'b', 'o']) (by kernel_rfl) F.owner_object]; kernel_rfl
end Mine
end

section
open PySem PySem.W PyProof.Rows
namespace Mine

/-- a column: a list or a tuple with its items -/
structure Col where
  addr : Addr
  tup : Bool
  items : Array Value

def Col.at (c : Col) (h : Heap) : Prop := if c.tup then h.IsTuple c.addr c.items else h.IsList c.addr c.items
def ItAt (h : Heap) (it : Addr) (c : Col) (i : Nat) : Prop := if c.tup then h.IsTupleIter it c.addr i else h.IsListIter it c.addr i

theorem Col.at_keep {c : Col} {h h' : Heap} (x : c.at h) (k : ∀ o, h.get? c.addr = some o → h'.get? c.addr = some o) : c.at h' := by
  unfold Col.at at *
  split at x
  · rename_i hc; rw [if_pos hc]; obtain ⟨o, ho, r⟩ := x; exact ⟨o, k o ho, r⟩
  · rename_i hc; rw [if_neg hc]; obtain ⟨o, ho, r⟩ := x; exact ⟨o, k o ho, r⟩
theorem ItAt.keep {it : Addr} {c : Col} {i : Nat} {h h' : Heap} (x : ItAt h it c i) (k : ∀ o, h.get? it = some o → h'.get? it = some o) : ItAt h' it c i := by
  unfold ItAt at *
  split at x
  · rename_i hc; rw [if_pos hc]; obtain ⟨o, ho, r⟩ := x; exact ⟨o, k o ho, r⟩
  · rename_i hc; rw [if_neg hc]; obtain ⟨o, ho, r⟩ := x; exact ⟨o, k o ho, r⟩
theorem Col.at_lt {c : Col} {h : Heap} (x : c.at h) : c.addr < h.objs.size := by
  unfold Col.at at x
  split at x <;> (obtain ⟨o, ho, _⟩ := x; exact Heap.lt_size ho)
theorem ItAt.lt {it : Addr} {c : Col} {i : Nat} {h : Heap} (x : ItAt h it c i) : it < h.objs.size := by
  unfold ItAt at x
  split at x <;> (obtain ⟨o, ho, _⟩ := x; exact Heap.lt_size ho)
theorem Col.ne_it {c c' : Col} {it : Addr} {i : Nat} {h : Heap} (x : c.at h) (y : ItAt h it c' i) : c.addr ≠ it := by
  intro e
  unfold Col.at at x
  unfold ItAt at y
  split at x <;> split at y <;> (obtain ⟨o, ho, hc, _⟩ := x; obtain ⟨o', ho', hc', _⟩ := y; rw [e, ho'] at ho; cases ho; rw [hc'] at hc; simp at hc)

section
variable {prog : Program} {w : World} {A : Around} {E : Value → Shared → Prop} {s : Shared}

theorem nextOf_tuple_item {it t : Addr} {i : Nat} {items} {x : Value} {Q : Value → Shared → Prop} (hit : s.heap.IsTupleIter it t i)
    (ht : s.heap.IsTuple t items) (hx : items[i]? = some x)
    (hQ : ∀ h', h'.IsTupleIter it t (i + 1) → Heap.SameBut it s.heap h' → Q x { s with heap := h' }) :
    wpAny (model prog w) A (Builtin.SmallTypes.nextOf (.ref it)) Q E s := by
  obtain ⟨o, ho, hc, hd⟩ := id hit
  obtain ⟨ol, hol, _, nl, hdl⟩ := ht
  unfold Builtin.SmallTypes.nextOf
  refine wpAny_bind (wpAny_callSpecial?_slot (name := Str.ofString "__next__") hit.typeIs F.slot_tuple_iterator_next
    (wpAny_call_entry F.slot_tuple_iterator_next hit.typeIs F.entry_tuple_iterator_next ?_ (F.args_tuple_iterator_next_1 _)))
  show wpAny _ _ (field (.ref it) 0 >>= _) _ _ s
  refine wpAny_bind (wpAny_field ho hd (x := .ref t) rfl ?_)
  show wpAny _ _ (if (Value.ref t == Value.none) = true then _ else _) _ _ s
  rw [if_neg (show ¬ ((Value.ref t == Value.none) = true) from Bool.false_ne_true)]
  show wpAny _ _ (field (.ref it) 1 >>= _) _ _ s
  refine wpAny_bind (wpAny_field ho hd (x := .int i 0) rfl ?_)
  show wpAny _ _ (seqItems? (.ref t) >>= _) _ _ s
  refine wpAny_bind (wpAny_seqItems hol hdl ?_)
  simp only [Int.toNat_natCast, hx]
  refine wpAny_bind (wpAny_setField ho hd (by simp) (wpAny_pure ⟨x, rfl, wpAny_pure (hQ _ ?_ (Heap.SameBut.update ..))⟩))
  exact ⟨_, Heap.get?_update_self _ ho (Obj.isFreed_of_fields (Obj.data_mapFields hd _)), (Obj.cls_mapFields ..).trans hc, by
    rw [Obj.data_mapFields hd]; simp [rawInt]⟩

theorem nextOf_tuple_end {it t : Addr} {i : Nat} {items} {Q : Value → Shared → Prop} (hh : A.handled = none)
    (hit : s.heap.IsTupleIter it t i) (ht : s.heap.IsTuple t items) (hx : items[i]? = none)
    (hE : ∀ h' e, Heap.ExtBut it s.heap h' → s.heap.objs.size ≤ h'.objs.size → (∃ o, h'.get? e = some o ∧ o.cls = .type "StopIteration") → E (.ref e) { s with heap := h' }) :
    wpAny (model prog w) A (Builtin.SmallTypes.nextOf (.ref it)) Q E s := by
  obtain ⟨o, ho, hc, hd⟩ := id hit
  obtain ⟨ol, hol, _, nl, hdl⟩ := ht
  unfold Builtin.SmallTypes.nextOf
  refine wpAny_bind (wpAny_callSpecial?_slot (name := Str.ofString "__next__") hit.typeIs F.slot_tuple_iterator_next
    (wpAny_call_entry F.slot_tuple_iterator_next hit.typeIs F.entry_tuple_iterator_next ?_ (F.args_tuple_iterator_next_1 _)))
  show wpAny _ _ (field (.ref it) 0 >>= _) _ _ s
  refine wpAny_bind (wpAny_field ho hd (x := .ref t) rfl ?_)
  show wpAny _ _ (if (Value.ref t == Value.none) = true then _ else _) _ _ s
  rw [if_neg (show ¬ ((Value.ref t == Value.none) = true) from Bool.false_ne_true)]
  show wpAny _ _ (field (.ref it) 1 >>= _) _ _ s
  refine wpAny_bind (wpAny_field ho hd (x := .int i 0) rfl ?_)
  show wpAny _ _ (seqItems? (.ref t) >>= _) _ _ s
  refine wpAny_bind (wpAny_seqItems hol hdl ?_)
  simp only [Int.toNat_natCast, hx]
  refine wpAny_bind (wpAny_rule (wpAny_bind (wpAny_setField ho hd (by simp) ?_)))
  show wpAny _ _ (newExc (.type "StopIteration") [] >>= _) _ _ _
  refine wpAny_bind ?_
  simp only [newExc, newTuple]
  refine wpAny_bind (wpAny_newObj_type ?_ (by size_fits))
  refine wpAny_bind (m := firstArgMember _ _) (wpAny_of_eq (a := Value.none) (by first | rfl | (simp only [firstArgMember]; rfl)) ?_)
  refine wpAny_newObj_type ?_ (by size_fits)
  simp only [raiseNew]
  refine wpAny_bind (wpAny_handled ?_)
  first | rw [show A.in1.handled = none from hh] | rw [hh]
  refine wpAny_bind (wpAny_pure (wpAny_throw ?_))
  exact hE _ _ (((Heap.SameBut.update ..).extBut.push _).push _) (by simp <;> omega) ⟨_, Heap.get?_push_size _ rfl, rfl⟩

theorem nextOf_list_end {it t : Addr} {i : Nat} {items} {Q : Value → Shared → Prop} (hh : A.handled = none)
    (hit : s.heap.IsListIter it t i) (ht : s.heap.IsList t items) (hx : items[i]? = none)
    (hE : ∀ h' e, Heap.ExtBut it s.heap h' → s.heap.objs.size ≤ h'.objs.size → (∃ o, h'.get? e = some o ∧ o.cls = .type "StopIteration") → E (.ref e) { s with heap := h' }) :
    wpAny (model prog w) A (Builtin.SmallTypes.nextOf (.ref it)) Q E s := by
  obtain ⟨o, ho, hc, hd⟩ := id hit
  obtain ⟨ol, hol, _, nl, hdl⟩ := ht
  unfold Builtin.SmallTypes.nextOf
  refine wpAny_bind (wpAny_callSpecial?_slot (name := Str.ofString "__next__") hit.typeIs slot_listiter_next
    (wpAny_call_entry slot_listiter_next hit.typeIs entry_listiter_next ?_ (args_listiter_next _)))
  show wpAny _ _ (field (.ref it) 0 >>= _) _ _ s
  refine wpAny_bind (wpAny_field ho hd (x := .ref t) rfl ?_)
  show wpAny _ _ (if (Value.ref t == Value.none) = true then _ else _) _ _ s
  rw [if_neg (show ¬ ((Value.ref t == Value.none) = true) from Bool.false_ne_true)]
  show wpAny _ _ (field (.ref it) 1 >>= _) _ _ s
  refine wpAny_bind (wpAny_field ho hd (x := .int i 0) rfl ?_)
  show wpAny _ _ (seqItems? (.ref t) >>= _) _ _ s
  refine wpAny_bind (wpAny_seqItems hol hdl ?_)
  simp only [Int.toNat_natCast, hx]
  refine wpAny_bind (wpAny_rule (wpAny_bind (wpAny_setField ho hd (by simp) ?_)))
  show wpAny _ _ (newExc (.type "StopIteration") [] >>= _) _ _ _
  refine wpAny_bind ?_
  simp only [newExc, newTuple]
  refine wpAny_bind (wpAny_newObj_type ?_ (by size_fits))
  refine wpAny_bind (m := firstArgMember _ _) (wpAny_of_eq (a := Value.none) (by first | rfl | (simp only [firstArgMember]; rfl)) ?_)
  refine wpAny_newObj_type ?_ (by size_fits)
  simp only [raiseNew]
  refine wpAny_bind (wpAny_handled ?_)
  first | rw [show A.in1.handled = none from hh] | rw [hh]
  refine wpAny_bind (wpAny_pure (wpAny_throw ?_))
  exact hE _ _ (((Heap.SameBut.update ..).extBut.push _).push _) (by simp <;> omega) ⟨_, Heap.get?_push_size _ rfl, rfl⟩

theorem nextOf_item {it : Addr} {c : Col} {i : Nat} {x : Value} {Q : Value → Shared → Prop} (hit : ItAt s.heap it c i) (hc : c.at s.heap) (hx : c.items[i]? = some x)
    (hQ : ∀ h', ItAt h' it c (i + 1) → Heap.SameBut it s.heap h' → Q x { s with heap := h' }) :
    wpAny (model prog w) A (Builtin.SmallTypes.nextOf (.ref it)) Q E s := by
  unfold ItAt at hit hQ
  unfold Col.at at hc
  cases ht : c.tup
  · simp only [ht, Bool.false_eq_true, if_false] at hit hc hQ
    exact wpAny_nextOf_list_item hit hc hx hQ
  · simp only [ht, if_true] at hit hc hQ
    exact nextOf_tuple_item hit hc hx hQ

theorem nextOf_end {it : Addr} {c : Col} {i : Nat} {Q : Value → Shared → Prop} (hh : A.handled = none) (hit : ItAt s.heap it c i) (hc : c.at s.heap) (hx : c.items[i]? = none)
    (hE : ∀ h' e, Heap.ExtBut it s.heap h' → s.heap.objs.size ≤ h'.objs.size → (∃ o, h'.get? e = some o ∧ o.cls = .type "StopIteration") → E (.ref e) { s with heap := h' }) :
    wpAny (model prog w) A (Builtin.SmallTypes.nextOf (.ref it)) Q E s := by
  unfold ItAt at hit
  unfold Col.at at hc
  cases ht : c.tup
  · simp only [ht, Bool.false_eq_true, if_false] at hit hc
    exact nextOf_list_end hh hit hc hx hE
  · simp only [ht, if_true] at hit hc
    exact nextOf_tuple_end hh hit hc hx hE

theorem pyIter_col {c : Col} {Q : Value → Shared → Prop} (hc : c.at s.heap)
    (hQ : ∀ h', ItAt h' s.heap.objs.size c 0 → (∀ b o, s.heap.get? b = some o → h'.get? b = some o) → h'.objs.size = s.heap.objs.size + 1 → Q (.ref s.heap.objs.size) { s with heap := h' }) :
    wpAny (model prog w) A (pyIter (.ref c.addr)) Q E s := by
  unfold ItAt at hQ
  unfold Col.at at hc
  cases ht : c.tup
  · simp only [ht, Bool.false_eq_true, if_false] at hc hQ
    exact wpAny_pyIter_list hc (hQ _ ⟨_, Heap.get?_push_size _ rfl, rfl, rfl⟩ (fun b o e => Heap.get?_push_of_some _ e) (Heap.size_push ..))
  · simp only [ht, if_true] at hc hQ
    exact wpAny_pyIter_tuple hc (hQ _ ⟨_, Heap.get?_push_size _ rfl, rfl, rfl⟩ (fun b o e => Heap.get?_push_of_some _ e) (Heap.size_push ..))
end

/-- all the iterators stand at place i -/
def ItsAt (h : Heap) : List Addr → List Col → Nat → Prop
  | [], [], _ => True
  | it :: its, c :: cols, i => ItAt h it c i ∧ c.at h ∧ ItsAt h its cols i
  | _, _, _ => False

theorem ItsAt.keep {h h' : Heap} {i : Nat} : ∀ {its : List Addr} {cols : List Col}, ItsAt h its cols i → (∀ b ∈ its, ∀ o, h.get? b = some o → h'.get? b = some o) →
    (∀ c ∈ cols, ∀ o, h.get? c.addr = some o → h'.get? c.addr = some o) → ItsAt h' its cols i
  | [], [], _, _, _ => trivial
  | it :: its, c :: cols, x, k1, k2 => ⟨ItAt.keep x.1 (k1 it (.head _)), Col.at_keep x.2.1 (k2 c (.head _)), ItsAt.keep x.2.2 (fun b hb => k1 b (.tail _ hb)) fun c hc => k2 c (.tail _ hc)⟩
  | [], _ :: _, x, _, _ => x.elim
  | _ :: _, [], x, _, _ => x.elim

theorem ItsAt.length {h : Heap} {i : Nat} : ∀ {its : List Addr} {cols : List Col}, ItsAt h its cols i → its.length = cols.length
  | [], [], _ => rfl
  | _ :: _, _ :: _, x => by simp [ItsAt.length x.2.2]
  | [], _ :: _, x => x.elim
  | _ :: _, [], x => x.elim
theorem ItsAt.col {h : Heap} {i : Nat} : ∀ {its : List Addr} {cols : List Col}, ItsAt h its cols i → ∀ c ∈ cols, c.at h
  | [], [], _, _, hm => (nomatch hm)
  | [], _ :: _, x, _, _ => x.elim
  | _ :: _, [], x, _, _ => x.elim
  | _ :: _, c :: _, x, d, hm => by
    rcases List.mem_cons.mp hm with rfl | hm
    · exact x.2.1
    · exact ItsAt.col x.2.2 d hm
theorem ItsAt.it {h : Heap} {i : Nat} : ∀ {its : List Addr} {cols : List Col}, ItsAt h its cols i → ∀ it ∈ its, ∃ c, ItAt h it c i
  | [], [], _, _, hm => (nomatch hm)
  | [], _ :: _, x, _, _ => x.elim
  | _ :: _, [], x, _, _ => x.elim
  | _ :: _, c :: _, x, d, hm => by
    rcases List.mem_cons.mp hm with rfl | hm
    · exact ⟨c, x.1⟩
    · exact ItsAt.it x.2.2 d hm
theorem ItsAt.lt {h : Heap} {i : Nat} {its : List Addr} {cols : List Col} (x : ItsAt h its cols i) : ∀ it ∈ its, it < h.objs.size := fun it hm =>
  let ⟨_, y⟩ := x.it it hm; y.lt
/-- no column is one of the iterators -/
theorem ItsAt.apart {h : Heap} {i : Nat} {its : List Addr} {cols : List Col} (x : ItsAt h its cols i) : ∀ c ∈ cols, c.addr ∉ its := fun c hc hm =>
  let ⟨_, y⟩ := x.it _ hm; Col.ne_it (x.col c hc) y rfl

section
variable {prog : Program} {w : World} {A : Around} {E : Value → Shared → Prop}

/-- map's inner loop, every column has an item -/
theorem nexts_item {i : Nat} (f : Value → Array Value → Sem (ForInStep (Array Value))) (hf : ∀ it acc, f it acc = (do let v ← holding acc.toList (Builtin.SmallTypes.nextOf it); pure (.yield (acc.push v)))) :
    ∀ (its : List Addr) (cols : List Col) (acc : Array Value) (s : Shared) (Q : Array Value → Shared → Prop), its.Nodup → ItsAt s.heap its cols i → (∀ c ∈ cols, i < c.items.size) →
      (∀ h', ItsAt h' its cols (i + 1) → (∀ b, b ∉ its → h'.get? b = s.heap.get? b) → h'.objs.size = s.heap.objs.size → Q (acc ++ (cols.map fun c => c.items.getD i .none).toArray) { s with heap := h' }) →
      wpAny (model prog w) A (forIn (its.map Value.ref) acc f) Q E s
  | [], [], acc, s, Q, _, _, _, hQ => by
    rw [List.map_nil, List.forIn_nil]
    exact wpAny_pure (by simpa using hQ s.heap trivial (fun _ _ => rfl) rfl)
  | it :: its, c :: cols, acc, s, Q, hnd, hI, hi, hQ => by
    rw [List.map_cons, List.forIn_cons, hf]
    have hx : c.items[i]? = some (c.items.getD i .none) := by
      have := hi c (.head _)
      simp [this]
    have hni : it ∉ its := (List.nodup_cons.mp hnd).1
    refine wpAny_bind (wpAny_bind (wpAny_holding (nextOf_item hI.1 hI.2.1 hx fun h₁ hit hs => wpAny_pure ?_)))
    have hc1 : ∀ d ∈ c :: cols, d.addr ≠ it := fun d hd e => ItsAt.apart hI d hd (by rw [e]; exact .head _)
    have hI₁ : ItsAt h₁ its cols i := ItsAt.keep hI.2.2 (fun b hb o e => (hs.2 b (fun q => hni (q ▸ hb))).trans e) fun d hd o e => (hs.2 _ (hc1 d (.tail _ hd))).trans e
    refine nexts_item f hf its cols _ _ Q (List.nodup_cons.mp hnd).2 hI₁ (fun d hd => hi d (.tail _ hd)) fun h₂ hI₂ hk₂ hz₂ => ?_
    have e1 : acc.push (c.items.getD i .none) ++ (cols.map fun c => c.items.getD i .none).toArray = acc ++ ((c :: cols).map fun c => c.items.getD i .none).toArray := by
      apply Array.ext'
      simp
    rw [e1]
    refine hQ h₂ ⟨hit.keep fun o e => (hk₂ it hni).trans e, Col.at_keep hI.2.1 fun o e => ?_, hI₂⟩ (fun b hb => ?_) (hz₂.trans hs.1)
    · exact (hk₂ _ fun hm => ItsAt.apart hI c (.head _) (.tail _ hm)).trans ((hs.2 _ (hc1 c (.head _))).trans e)
    · exact (hk₂ b fun hm => hb (.tail _ hm)).trans (hs.2 b fun q => hb (q ▸ .head _))
  | [], _ :: _, _, _, _, _, x, _, _ => x.elim
  | _ :: _, [], _, _, _, _, x, _, _ => x.elim

/-- map's inner loop, some column is at its end -/
theorem nexts_end {i : Nat} (hh : A.handled = none) (f : Value → Array Value → Sem (ForInStep (Array Value))) (hf : ∀ it acc, f it acc = (do let v ← holding acc.toList (Builtin.SmallTypes.nextOf it); pure (.yield (acc.push v)))) :
    ∀ (its : List Addr) (cols : List Col) (acc : Array Value) (s : Shared) (Q : Array Value → Shared → Prop), its.Nodup → ItsAt s.heap its cols i → (∃ c ∈ cols, c.items.size ≤ i) →
      (∀ h' e, (∀ b o, b ∉ its → s.heap.get? b = some o → h'.get? b = some o) → s.heap.objs.size ≤ h'.objs.size → (∃ o, h'.get? e = some o ∧ o.cls = .type "StopIteration") → E (.ref e) { s with heap := h' }) →
      wpAny (model prog w) A (forIn (its.map Value.ref) acc f) Q E s
  | [], [], acc, s, Q, _, _, hi, _ => by obtain ⟨c, hc, _⟩ := hi; cases hc
  | it :: its, c :: cols, acc, s, Q, hnd, hI, hi, hE => by
    rw [List.map_cons, List.forIn_cons, hf]
    have hni : it ∉ its := (List.nodup_cons.mp hnd).1
    by_cases hc : i < c.items.size
    · have hx : c.items[i]? = some (c.items.getD i .none) := by simp [hc]
      refine wpAny_bind (wpAny_bind (wpAny_holding (nextOf_item hI.1 hI.2.1 hx fun h₁ hit hs => wpAny_pure ?_)))
      have hc1 : ∀ d ∈ c :: cols, d.addr ≠ it := fun d hd e => ItsAt.apart hI d hd (by rw [e]; exact .head _)
      have hI₁ : ItsAt h₁ its cols i := ItsAt.keep hI.2.2 (fun b hb o e => (hs.2 b (fun q => hni (q ▸ hb))).trans e) fun d hd o e => (hs.2 _ (hc1 d (.tail _ hd))).trans e
      refine nexts_end hh f hf its cols _ _ Q (List.nodup_cons.mp hnd).2 hI₁ ?_ fun h₂ e hk hz he => ?_
      · obtain ⟨d, hd, hdi⟩ := hi
        rcases List.mem_cons.mp hd with rfl | hd
        · omega
        · exact ⟨d, hd, hdi⟩
      · exact hE h₂ e (fun b o hb q => hk b o (fun hm => hb (.tail _ hm)) ((hs.2 b fun q => hb (q ▸ .head _)).trans q)) (hs.1 ▸ hz) he
    · have hx : c.items[i]? = none := by simp; omega
      refine wpAny_bind (wpAny_bind (wpAny_holding (nextOf_end hh hI.1 hI.2.1 hx fun h₁ e hk hz he => ?_)))
      exact hE h₁ e (fun b o hb q => hk b o (fun q' => hb (q' ▸ .head _)) q) hz he
  | [], _ :: _, _, _, _, _, x, _, _ => x.elim
  | _ :: _, [], _, _, _, _, x, _, _ => x.elim
end
end Mine
end

section
open PySem PySem.W PyProof.Rows
namespace Mine

structure MapAt (h : Heap) (mp T : Addr) (f : Value) (its : List Addr) (cols : List Col) (i : Nat) : Prop where
  hm : h.get? mp = some { cls := .type "map", dict := none, data := .fields #[.ref T, f], slots := #[] }
  hT : h.get? T = some { cls := .type "tuple", dict := none, data := .seq (its.map Value.ref).toArray, slots := #[] }
  hI : ItsAt h its cols i

theorem MapAt.mp_ne {h : Heap} {mp T : Addr} {f : Value} {its : List Addr} {cols : List Col} {i : Nat} (x : MapAt h mp T f its cols i) : mp ∉ its := fun hm => by
  obtain ⟨c, y⟩ := x.hI.it _ hm
  unfold ItAt at y
  split at y <;> (obtain ⟨o, ho, hc, _⟩ := y; rw [x.hm] at ho; cases ho; simp at hc)
theorem MapAt.T_ne {h : Heap} {mp T : Addr} {f : Value} {its : List Addr} {cols : List Col} {i : Nat} (x : MapAt h mp T f its cols i) : T ∉ its := fun hm => by
  obtain ⟨c, y⟩ := x.hI.it _ hm
  unfold ItAt at y
  split at y <;> (obtain ⟨o, ho, hc, _⟩ := y; rw [x.hT] at ho; cases ho; simp at hc)

def rowAt (cols : List Col) (i : Nat) : List Value := cols.map fun c => c.items.getD i .none

section
variable {prog : Program} {w : World} {A : Around} {E : Value → Shared → Prop} {s : Shared}

theorem map_pyNext_item {mp T : Addr} {f : Value} {its : List Addr} {cols : List Col} {i : Nat} {Q : Option Value → Shared → Prop} (hnd : its.Nodup) (M : MapAt s.heap mp T f its cols i) (hi : ∀ c ∈ cols, i < c.items.size)
    (hcall : ∀ h₁, MapAt h₁ mp T f its cols (i + 1) → (∀ b, b ∉ its → h₁.get? b = s.heap.get? b) → h₁.objs.size = s.heap.objs.size →
      wpAny (model prog w) A.in1 (call f (rowAt cols i)) (fun v s' => Q (some v) s') (fun e s' => (∃ X, s'.TypeIs e X ∧ isSubtype (.type X) (.type "StopIteration") = pure false) ∧ E e s') { s with heap := h₁ }) :
    wpAny (model prog w) A (pyNext (.ref mp)) Q E s := by
  have hT : s.TypeIs (.ref mp) "map" := ⟨_, M.hm, rfl⟩
  unfold pyNext
  refine wpAny_bind (wpAny_attempt (wpAny_callSpecial?_slot (name := Str.ofString "__next__") hT slot_map_next
    (wpAny_call_entry slot_map_next hT entry_map_next ?_ (args_map_next_1 _))))
  show wpAny _ _ (field (.ref mp) 0 >>= _) _ _ _
  refine wpAny_bind (wpAny_field M.hm rfl (x := .ref T) rfl ?_)
  refine wpAny_bind (wpAny_seqItems M.hT rfl ?_)
  refine wpAny_bind ?_
  simp only [List.forIn_toArray]
  refine nexts_item _ (fun _ _ => rfl) its cols #[] s _ hnd M.hI hi fun h₁ hI hk hz => ?_
  have M₁ : MapAt h₁ mp T f its cols (i + 1) := ⟨(hk _ M.mp_ne).trans M.hm, (hk _ M.T_ne).trans M.hT, hI⟩
  refine wpAny_bind (wpAny_field M₁.hm rfl (x := f) rfl ?_)
  refine wpAny_bind (wpAny_holding ?_)
  have e : (#[] ++ (cols.map fun c => c.items.getD i .none).toArray : Array Value).toList = rowAt cols i := by simp [rowAt]
  rw [e]
  refine wpAny_mono (hcall h₁ M₁ hk hz) (fun v s' hv => wpAny_bind (wpAny_letGo (wpAny_pure ⟨v, rfl, wpAny_pure hv⟩))) fun x s' hx => ?_
  obtain ⟨⟨X, hX, hs⟩, hE⟩ := hx
  exact wpAny_bind (wpAny_isInstance hX hs (wpAny_throw hE))

theorem map_pyNext_end {mp T : Addr} {f : Value} {its : List Addr} {cols : List Col} {i : Nat} {Q : Option Value → Shared → Prop} (hh : A.handled = none) (hnd : its.Nodup) (M : MapAt s.heap mp T f its cols i) (hi : ∃ c ∈ cols, c.items.size ≤ i)
    (hQ : ∀ h₁, (∀ b o, b ∉ its → s.heap.get? b = some o → h₁.get? b = some o) → s.heap.objs.size ≤ h₁.objs.size → Q none { s with heap := h₁ }) :
    wpAny (model prog w) A (pyNext (.ref mp)) Q E s := by
  have hT : s.TypeIs (.ref mp) "map" := ⟨_, M.hm, rfl⟩
  unfold pyNext
  refine wpAny_bind (wpAny_attempt (wpAny_callSpecial?_slot (name := Str.ofString "__next__") hT slot_map_next
    (wpAny_call_entry slot_map_next hT entry_map_next ?_ (args_map_next_1 _))))
  show wpAny _ _ (field (.ref mp) 0 >>= _) _ _ _
  refine wpAny_bind (wpAny_field M.hm rfl (x := .ref T) rfl ?_)
  refine wpAny_bind (wpAny_seqItems M.hT rfl ?_)
  refine wpAny_bind ?_
  simp only [List.forIn_toArray]
  refine nexts_end (by exact hh) _ (fun _ _ => rfl) its cols #[] s _ hnd M.hI hi fun h₁ e hk hz he => ?_
  obtain ⟨o, ho, hc⟩ := he
  exact wpAny_bind (wpAny_isInstance (T := "StopIteration") (b := true) ⟨o, ho, hc⟩ isSubtype_stop (wpAny_pure (hQ h₁ hk hz)))

theorem map_pyIter {mp T : Addr} {f : Value} {its : List Addr} {cols : List Col} {i : Nat} {Q : Value → Shared → Prop} (M : MapAt s.heap mp T f its cols i) (h : Q (.ref mp) s) : wpAny (model prog w) A (pyIter (.ref mp)) Q E s := by
  have hT : s.TypeIs (.ref mp) "map" := ⟨_, M.hm, rfl⟩
  refine wpAny_pyIter_slot hT slot_map_iter (wpAny_call_entry slot_map_iter hT entry_map_iter ?_ (args_map_iter_1 _))
  show wpAny _ _ (ret (.ref mp)) _ _ s
  exact wpAny_pure ⟨_, rfl, "map", _, hT, slot_map_next.lookup, h⟩
end
end Mine
end

section
open PySem PySem.W PyProof.Rows
namespace Mine

abbrev Keep (h h' : Heap) : Prop := ∀ b o, h.get? b = some o → h'.get? b = some o
/-- all stays but what X says -/
abbrev KeepBut (X : Addr → Prop) (h h' : Heap) : Prop := ∀ b o, ¬ X b → h.get? b = some o → h'.get? b = some o
abbrev at_ (s : Shared) (h : Heap) (tk : Nat) : Shared := { s with heap := h, toks := tk }
/-- an exception that ends no iteration -/
abbrev NoStop (e : Value) (s : Shared) : Prop := ∃ Y, s.TypeIs e Y ∧ isSubtype (.type Y) (.type "StopIteration") = pure false

theorem get_new {h h' : Heap} (hz : h.objs.size ≤ h'.objs.size) {o : Obj} : ¬ h.get? h'.objs.size = some o := fun e => Nat.lt_irrefl _ (Nat.lt_of_lt_of_le (Heap.lt_size e) hz)

section
variable {prog : Program} {w : World} {A : Around} {E : Value → Shared → Prop} {s : Shared}

structure Walk (prog : Program) (w : World) (A : Around) (E : Value → Shared → Prop) (s : Shared) (mp T : Addr) (f : Value) (its : List Addr) (cols : List Col) (n : Nat) (X : Addr → Prop) (J : Nat → List Value → Heap → Prop) (S : Addr) : Prop where
  hh : A.handled = none
  nd : its.Nodup
  low : ∀ c ∈ cols, n ≤ c.items.size
  top : ∃ c ∈ cols, c.items.size ≤ n
  fit : n ≤ 100000
  frame : ∀ i ys h h', J i ys h → S < h.objs.size → KeepBut (fun b => b = S ∨ b ∈ its) h h' → h.objs.size ≤ h'.objs.size → J i ys h'
  apart : ∀ b, X b → b ≠ mp ∧ b ≠ T ∧ b ∉ its ∧ b ≠ S ∧ ∀ c ∈ cols, b ≠ c.addr
  step : ∀ i ys h tk, i < n → J i ys h → ys.length = i → S < h.objs.size → ItsAt h its cols (i + 1) → KeepBut (fun b => X b ∨ b ∈ its) s.heap h →
    wpAny (model prog w) A.in1 (call f (rowAt cols i))
      (fun v s' => ∃ h' tk', s' = at_ s h' tk' ∧ J (i + 1) (ys ++ [v]) h' ∧ KeepBut X h h' ∧ h.objs.size ≤ h'.objs.size)
      (fun e s' => NoStop e s' ∧ E e s') (at_ s h tk)

theorem extend_loop_map {mp T : Addr} {f : Value} {its : List Addr} {cols : List Col} {n : Nat} {X : Addr → Prop} {J : Nat → List Value → Heap → Prop} {S : Addr} {R : Result → Shared → Prop} {res : Value}
    (W : Walk prog w A.in1 (fun e s' => R (.error e) s') s mp T f its cols n X J S) (hS0 : s.heap.objs.size = S)
    (done : ∀ ys h tk c, J n ys h → ys.length = n → h.get? S = some { cls := .type "list", dict := none, data := .seq ys.toArray c, slots := #[] } → KeepBut (fun b => X b ∨ b ∈ its) s.heap h → S < h.objs.size → R (.ok (.ret res)) (at_ s h tk)) :
    ∀ (k i : Nat) (ys : List Value) (h : Heap) (tk c : Nat), n - i = k → i ≤ n → MapAt h mp T f its cols i → J i ys h → ys.length = i →
      h.get? S = some { cls := .type "list", dict := none, data := .seq ys.toArray c, slots := #[] } → KeepBut (fun b => X b ∨ b ∈ its) s.heap h → mp ≠ S → T ≠ S → S ∉ its → (∀ c ∈ cols, c.addr ≠ S) →
      codeAny (model prog w) A (.builtin "list.extend.loop" ⟨[.ref S, .ref mp, res], []⟩) R (at_ s h tk) := by
  intro k
  induction k with
  | zero =>
    intro i ys h tk c hk hi M hJ hl hS hK h1 h2 h3 h4
    have hin : i = n := by omega
    subst hin
    refine codeAny_builtin F.entry_extend_loop ?_
    rw [Around.under_plainId F.plain_extend_loop _]
    show wpAny _ A.in1 (pyNext (.ref mp) >>= _) _ _ _
    refine wpAny_bind (map_pyNext_end (by exact W.hh) W.nd (s := at_ s h tk) M W.top fun h₁ hk₁ hz₁ => ?_)
    have hSl : S < h.objs.size := Heap.lt_size hS
    refine wpAny_pure (done ys h₁ tk c (W.frame _ _ _ _ hJ hSl (fun b o hb e => hk₁ b o (fun q => hb (.inr q)) e) hz₁) hl (hk₁ _ _ h3 hS) (fun b o hb e => hk₁ b o (fun q => hb (.inr q)) (hK b o hb e)) (Nat.lt_of_lt_of_le hSl hz₁))
  | succ k ih =>
    intro i ys h tk c hk hi M hJ hl hS hK h1 h2 h3 h4
    have hlt : i < n := by omega
    have hSl : S < h.objs.size := Heap.lt_size hS
    refine codeAny_builtin F.entry_extend_loop ?_
    rw [Around.under_plainId F.plain_extend_loop _]
    show wpAny _ A.in1 (pyNext (.ref mp) >>= _) _ _ _
    refine wpAny_bind (map_pyNext_item W.nd (s := at_ s h tk) M (fun c hc => Nat.lt_of_lt_of_le hlt (W.low c hc)) fun h₁ M₁ hk₁ hz₁ => ?_)
    have hJ₁ : J i ys h₁ := W.frame _ _ _ _ hJ hSl (fun b o hb e => (hk₁ b fun q => hb (.inr q)).trans e) (Nat.le_of_eq hz₁.symm)
    have hS₁ : h₁.get? S = _ := (hk₁ S h3).trans hS
    refine wpAny_mono (W.step i ys h₁ tk hlt hJ₁ hl (Heap.lt_size hS₁) M₁.hI (fun b o hb e => (hk₁ b fun q => hb (.inr q)).trans (hK b o hb e))) (fun v s' hv => ?_) fun _ _ y => y
    obtain ⟨h₂, tk₂, rfl, hJ₂, hk₂, hz₂⟩ := hv
    have ap := W.apart
    have hS₂ := hk₂ S _ (fun q => (ap S q).2.2.2.1 rfl) hS₁
    show wpAny _ A.in1 (updateSeq S (·.push v) >>= _) _ _ _
    refine wpAny_bind ?_
    have hsz : ys.toArray.size ≤ 100000 := by have := W.fit; simp; omega
    have hsz2 : (100000 : Nat) + 1 ≤ sizeLine := by decide
    refine wpAny_updateSeq (s := at_ s h₂ tk₂) hS₂ rfl (wpAny_pure ⟨plainId_quiet F.plain_extend_loop _, ih (i + 1) (ys ++ [v]) _ tk₂ (c + 1) (by omega) hlt ?_ ?_ (by simp [hl]) ?_ ?_ h1 h2 h3 h4⟩) (by omega) (by show (ys.toArray.push v).size ≤ sizeLine + 1; rw [Array.size_push]; omega)
    · have oth : ∀ b o, b ≠ S → h₂.get? b = some o → (h₂.update S (Obj.mapSeq (·.push v))).get? b = some o := fun b o hb e => (Heap.get?_update_other _ _ (Ne.symm hb)).trans e
      refine ⟨oth _ _ h1 (hk₂ _ _ (fun q => (ap _ q).1 rfl) M₁.hm), oth _ _ h2 (hk₂ _ _ (fun q => (ap _ q).2.1 rfl) M₁.hT), ItsAt.keep M₁.hI (fun b hb o e => ?_) fun d hd o e => ?_⟩
      · exact oth _ _ (fun q => h3 (q ▸ hb)) (hk₂ _ _ (fun q => (ap _ q).2.2.1 hb) e)
      · exact oth _ _ (h4 d hd) (hk₂ _ _ (fun q => (ap _ q).2.2.2.2 d hd rfl) e)
    · refine W.frame _ _ _ _ hJ₂ (Heap.lt_size hS₂) (fun b o hb e => (Heap.get?_update_other _ _ (fun q => hb (.inl q.symm))).trans e) ?_
      show h₂.objs.size ≤ (h₂.update S _).objs.size
      simp
    · rw [Heap.get?_update_self _ hS₂ rfl]
      simp [Obj.mapSeq]
    · intro b o hb e
      have hbS : b ≠ S := fun q => by rw [q, ← hS0] at e; exact Nat.lt_irrefl _ (Heap.lt_size e)
      exact (Heap.get?_update_other _ _ (Ne.symm hbS)).trans (hk₂ b o (fun q => hb (.inl q)) ((hk₁ b fun q => hb (.inr q)).trans (hK b o hb e)))

theorem list_of_map {mp T : Addr} {f : Value} {its : List Addr} {cols : List Col} {n : Nat} {X : Addr → Prop} {J : Nat → List Value → Heap → Prop} {Q : Value → Shared → Prop}
    (W : Walk prog w A.in1.in1 E s mp T f its cols n X J s.heap.objs.size) (M : MapAt s.heap mp T f its cols 0)
    (hJ0 : ∀ h', Keep s.heap h' → h'.objs.size = s.heap.objs.size + 1 → J 0 [] h')
    (done : ∀ ys h tk c, J n ys h → ys.length = n → h.get? s.heap.objs.size = some { cls := .type "list", dict := none, data := .seq ys.toArray c, slots := #[] } → KeepBut (fun b => X b ∨ b ∈ its) s.heap h → s.heap.objs.size < h.objs.size → Q (.ref s.heap.objs.size) (at_ s h tk)) :
    wpAny (model prog w) A (call (.type "list") [.ref mp]) Q E s := by
  have hT : s.TypeIs (.ref mp) "map" := ⟨_, M.hm, rfl⟩
  have l1 : mp ≠ s.heap.objs.size := Nat.ne_of_lt (Heap.lt_size M.hm)
  have l2 : T ≠ s.heap.objs.size := Nat.ne_of_lt (Heap.lt_size M.hT)
  have l3 : s.heap.objs.size ∉ its := fun hm => Nat.lt_irrefl _ (M.hI.lt _ hm)
  have l4 : ∀ c ∈ cols, c.addr ≠ s.heap.objs.size := fun c hc => Nat.ne_of_lt (Col.at_lt (M.hI.col c hc))
  refine callType_codes (Q₁ := fun obj s₁ => obj = .ref s.heap.objs.size ∧ s₁ = { s with heap := s.heap.push { cls := .type "list", data := .seq #[] } }) F.called_list (F.typeCall_list_1 _) F.entry_list_init
    (code_list_new _ ⟨rfl, rfl⟩) fun obj s₁ h₁ => ?_
  obtain ⟨rfl, rfl⟩ := h₁
  have hS : (s.heap.push { cls := .type "list", data := .seq #[] }).get? s.heap.objs.size = some { cls := .type "list", data := .seq #[] } := Heap.get?_push_size _ rfl
  refine ⟨⟨_, hS, rfl⟩, F.args_list_init_2 _ _, ?_⟩
  show wpAny _ A.in1.in1 (do let old ← Builtin.List.listItems (.ref s.heap.objs.size); Builtin.List.listUpdate (.ref s.heap.objs.size) (fun _ => #[]); letGo old.toList.reverse; Builtin.List.listExtendWith (.ref s.heap.objs.size) (.ref mp) .none) _ _ _
  refine wpAny_bind ?_
  unfold Builtin.List.listItems
  refine wpAny_bind (wpAny_seqItems hS rfl (wpAny_pure ?_))
  show wpAny _ A.in1.in1 (updateSeq s.heap.objs.size (fun _ => #[]) >>= fun _ => letGo (#[] : Array Value).toList.reverse >>= fun _ => Builtin.List.listExtendWith (.ref s.heap.objs.size) (.ref mp) .none) _ _ _
  refine wpAny_bind (wpAny_updateSeq hS rfl ?_)
  have hS₂ := Heap.get?_update_self (Obj.mapSeq (fun _ => (#[] : Array Value))) hS rfl
  refine wpAny_bind (wpAny_letGo ?_)
  unfold Builtin.List.listExtendWith
  have oth2 : ∀ b o, b ≠ s.heap.objs.size → s.heap.get? b = some o → ((s.heap.push { cls := .type "list", data := .seq #[] }).update s.heap.objs.size (Obj.mapSeq (fun _ => (#[] : Array Value)))).get? b = some o :=
    fun b o hb e => (Heap.get?_update_other _ _ (Ne.symm hb)).trans (Heap.get?_push_of_some _ e)
  have M₂ : MapAt ((s.heap.push { cls := .type "list", data := .seq #[] }).update s.heap.objs.size (Obj.mapSeq (fun _ => (#[] : Array Value)))) mp T f its cols 0 :=
    ⟨oth2 _ _ l1 M.hm, oth2 _ _ l2 M.hT, ItsAt.keep M.hI (fun b hb o e => oth2 _ _ (fun q => l3 (q ▸ hb)) e) fun d hd o e => oth2 _ _ (l4 d hd) e⟩
  have hT₂ : ({ s with heap := (s.heap.push { cls := .type "list", data := .seq #[] }).update s.heap.objs.size (Obj.mapSeq (fun _ => (#[] : Array Value))) } : Shared).TypeIs (.ref mp) "map" := ⟨_, M₂.hm, rfl⟩
  refine wpAny_bind (wpAny_typeOf hT₂ ?_)
  have e1 : Builtin.List.listSameRef (.ref s.heap.objs.size) (.ref mp) = false := by simp [Builtin.List.listSameRef]; exact fun q => l1 q.symm
  have e2 : (Value.type "map" == Value.type "list") = false := by decide
  have e3 : (Value.type "map" == Value.type "tuple") = false := by decide
  simp only [e1, e2, e3, Bool.or_false, Bool.false_eq_true, if_false]
  refine wpAny_bind (map_pyIter M₂ ?_)
  refine wpAny_bind (wpAny_holding ?_)
  unfold Builtin.List.listLengthHint
  refine wpAny_bind (wpAny_specialOf hT₂ map_no_len ?_)
  show wpAny _ _ (specialOf (Value.ref mp) (Str.ofString "__length_hint__") >>= _) _ _ _
  refine wpAny_bind (wpAny_specialOf hT₂ map_no_hint ?_)
  refine wpAny_pure ?_
  show wpAny _ _ (rule "list.extend.makes-room" >>= fun _ => Builtin.List.listTouch (.ref s.heap.objs.size) >>= fun _ =>
    again (.builtin "list.extend.loop" ⟨[.ref s.heap.objs.size, .ref mp, .none], []⟩)) _ _ _
  refine wpAny_bind (wpAny_rule ?_)
  refine wpAny_bind ?_
  show wpAny _ _ (updateSeq s.heap.objs.size (·.push .none) >>= fun _ => updateSeq s.heap.objs.size (·.pop)) _ _ _
  refine wpAny_bind (wpAny_updateSeq hS₂ rfl ?_)
  have hS₃ := Heap.get?_update_self (Obj.mapSeq (·.push Value.none)) hS₂ rfl
  refine wpAny_updateSeq (hz := by seq_fits) hS₃ rfl ?_
  have hS₄ := Heap.get?_update_self (Obj.mapSeq (·.pop)) hS₃ rfl
  generalize hH : (Heap.update (Heap.update (Heap.update (s.heap.push { cls := .type "list", data := .seq #[] }) s.heap.objs.size (Obj.mapSeq (fun _ => (#[] : Array Value)))) s.heap.objs.size (Obj.mapSeq (·.push Value.none))) s.heap.objs.size (Obj.mapSeq (·.pop))) = H at hS₄ ⊢
  have oth : ∀ b o, b ≠ s.heap.objs.size → s.heap.get? b = some o → H.get? b = some o := fun b o hb e => by
    rw [← hH, Heap.get?_update_other _ _ (Ne.symm hb), Heap.get?_update_other _ _ (Ne.symm hb)]
    exact oth2 b o hb e
  have hKeep : Keep s.heap H := fun b o e => oth b o (Nat.ne_of_lt (Heap.lt_size e)) e
  have hHz : H.objs.size = s.heap.objs.size + 1 := by rw [← hH]; simp
  refine wpAny_pure ⟨plainId_quiet F.plain_extend_loop _, ?_⟩
  have W' : Walk prog w A.in1.in1 (fun e s' => wants (fun r s₂ => r = .none ∧ Q (.ref s.heap.objs.size) s₂) E (.error e) s') s mp T f its cols n X J s.heap.objs.size := W
  refine extend_loop_map (A := A.in1) W' rfl (fun ys h tk c a1 a2 a3 a4 a5 => ⟨rfl, done ys h tk c a1 a2 a3 a4 a5⟩) n 0 [] H s.toks _ (by omega) (Nat.zero_le _) ?_ (hJ0 H hKeep hHz) rfl hS₄ (fun b o _ e => hKeep b o e) l1 l2 l3 l4
  exact ⟨oth _ _ l1 M.hm, oth _ _ l2 M.hT, ItsAt.keep M.hI (fun b hb o e => hKeep _ _ e) fun d hd o e => hKeep _ _ e⟩
end
end Mine
end

section
open PySem PySem.W PyProof.Rows
namespace Mine

/-- k iterators from address b on -/
def itsFrom (b : Nat) : Nat → List Addr
  | 0 => []
  | k + 1 => b :: itsFrom (b + 1) k
theorem itsFrom_ge : ∀ (k : Nat) (b a : Nat), a ∈ itsFrom b k → b ≤ a ∧ a < b + k
  | 0, _, _, h => by cases h
  | k + 1, b, a, h => by
    rcases List.mem_cons.mp h with rfl | h
    · exact ⟨Nat.le_refl _, by omega⟩
    · have := itsFrom_ge k (b + 1) a h
      omega
theorem itsFrom_nodup : ∀ (k : Nat) (b : Nat), (itsFrom b k).Nodup
  | 0, _ => List.nodup_nil
  | k + 1, b => List.nodup_cons.mpr ⟨fun h => by have := itsFrom_ge _ _ _ h; omega, itsFrom_nodup k (b + 1)⟩
theorem itsFrom_length : ∀ (k : Nat) (b : Nat), (itsFrom b k).length = k
  | 0, _ => rfl
  | k + 1, b => by simp [itsFrom, itsFrom_length k]

section
variable {prog : Program} {w : World} {A : Around} {E : Value → Shared → Prop}
theorem iters_made (f : Value → Array Value → Sem (ForInStep (Array Value))) (hf : ∀ x acc, f x acc = (do let v ← holding acc.toList (pyIter x); pure (.yield (acc.push v)))) :
    ∀ (cols : List Col) (acc : Array Value) (s : Shared) (Q : Array Value → Shared → Prop), (∀ c ∈ cols, c.at s.heap) →
      (∀ h', ItsAt h' (itsFrom s.heap.objs.size cols.length) cols 0 → Keep s.heap h' → h'.objs.size = s.heap.objs.size + cols.length →
        Q (acc ++ ((itsFrom s.heap.objs.size cols.length).map Value.ref).toArray) { s with heap := h' }) →
      wpAny (model prog w) A (forIn (cols.map fun c => Value.ref c.addr) acc f) Q E s
  | [], acc, s, Q, _, hQ => by
    rw [List.map_nil, List.forIn_nil]
    exact wpAny_pure (by simpa [itsFrom] using hQ s.heap trivial (fun _ _ e => e) rfl)
  | c :: cols, acc, s, Q, hc, hQ => by
    rw [List.map_cons, List.forIn_cons, hf]
    refine wpAny_bind (wpAny_bind (wpAny_holding (pyIter_col (hc c (.head _)) fun h₁ hit hk hz => wpAny_pure ?_)))
    refine iters_made f hf cols _ _ Q (fun d hd => Col.at_keep (hc d (.tail _ hd)) fun o e => hk _ _ e) fun h₂ hI hk₂ hz₂ => ?_
    have e1 : acc.push (.ref s.heap.objs.size) ++ ((itsFrom h₁.objs.size cols.length).map Value.ref).toArray = acc ++ ((itsFrom s.heap.objs.size (c :: cols).length).map Value.ref).toArray := by
      apply Array.ext'
      simp [itsFrom, hz]
    show Q (acc.push (.ref s.heap.objs.size) ++ ((itsFrom h₁.objs.size cols.length).map Value.ref).toArray) _
    rw [e1]
    refine hQ h₂ ?_ (fun b o e => hk₂ b o (hk b o e)) (by rw [hz₂]; show h₁.objs.size + _ = _; rw [hz]; simp; omega)
    show ItsAt h₂ (s.heap.objs.size :: itsFrom (s.heap.objs.size + 1) cols.length) (c :: cols) 0
    rw [← hz]
    exact ⟨hit.keep fun o e => hk₂ _ _ e, Col.at_keep (hc c (.head _)) fun o e => hk₂ _ _ (hk _ _ e), hI⟩

theorem meets_map_new (f : Value) (cols : List Col) :
    Meets (Builtin.«map.__new__» ⟨.type "map" :: f :: cols.map (fun c => Value.ref c.addr), []⟩) (fun A R s => (∀ c ∈ cols, c.at s.heap) ∧ cols ≠ [] ∧ cols.length ≤ 100000 ∧
      ∀ h' mp T its, MapAt h' mp T f its cols 0 → its.Nodup → Keep s.heap h' → s.heap.objs.size ≤ h'.objs.size → (∀ b, b = mp ∨ b = T ∨ b ∈ its → s.heap.objs.size ≤ b) →
        R (.ok (.ret (.ref mp))) { s with heap := h' }) :=
  .of_wp fun prog w A R s h => by
    obtain ⟨hc, hne, hlen, h⟩ := h
    have hsub := sub_map
    have hl : ¬ (f :: cols.map fun c => Value.ref c.addr).length < 2 := by
      cases cols with
      | nil => exact absurd rfl hne
      | cons c r => simp
    generalize hargs : (f :: cols.map fun c => Value.ref c.addr) = args at hl
    show wpAny _ _ (Builtin.SmallTypes.newClass "map" ⟨.type "map" :: args, []⟩ >>= _) _ _ s
    have hnc : Builtin.SmallTypes.newClass "map" ⟨.type "map" :: args, []⟩ = pure (.type "map", args) := by
      simp only [Builtin.SmallTypes.newClass]
      rw [hsub]
      rfl
    rw [hnc]
    refine wpAny_bind (wpAny_pure ?_)
    dsimp only
    refine wpAny_bind (wpAny_pure ?_)
    rw [if_neg hl, ← hargs]
    simp only [List.drop_succ_cons, List.drop_zero, List.headD_cons]
    unfold Builtin.SmallTypes.iterAll
    refine wpAny_bind (wpAny_bind (iters_made _ (fun _ _ => rfl) cols #[] s _ hc fun h₁ hI hk hz => wpAny_pure ?_))
    refine wpAny_bind (wpAny_newTuple ?_ ?_)
    · unfold Builtin.SmallTypes.newRecord
      refine wpAny_bind (wpAny_newObj_type ?_)
      refine wpAny_pure ⟨_, rfl, ?_⟩
      have hz₁ : ∀ (o : Obj), (h₁.push o).objs.size = h₁.objs.size + 1 := fun o => Heap.size_push ..
      have e0 : (#[] ++ ((itsFrom s.heap.objs.size cols.length).map Value.ref).toArray : Array Value).toList.toArray = ((itsFrom s.heap.objs.size cols.length).map Value.ref).toArray := by simp
      rw [e0]
      have ez : (h₁.push { cls := .type "tuple", data := .seq ((itsFrom s.heap.objs.size cols.length).map Value.ref).toArray }).objs.size = h₁.objs.size + 1 := hz₁ _
      dsimp only
      rw [ez]
      refine h _ (h₁.objs.size + 1) h₁.objs.size (itsFrom s.heap.objs.size cols.length) ⟨?_, ?_, ?_⟩ (itsFrom_nodup _ _) (fun b o e => Heap.get?_push_of_some _ (Heap.get?_push_of_some _ (hk b o e))) ?_ ?_
      · rw [← ez]; exact Heap.get?_push_size _ rfl
      · exact Heap.get?_push_of_some _ (Heap.get?_push_size _ rfl)
      · exact ItsAt.keep hI (fun b _ o e => Heap.get?_push_of_some _ (Heap.get?_push_of_some _ e)) fun d _ o e => Heap.get?_push_of_some _ (Heap.get?_push_of_some _ e)
      · simp; omega
      · rintro b (rfl | rfl | hb)
        · omega
        · omega
        · exact (itsFrom_ge _ _ _ hb).1
    · have : (100000 : Nat) ≤ sizeLine := by decide
      simp [itsFrom_length]; omega

theorem call_map {s : Shared} {f : Value} {cols : List Col} {Q : Value → Shared → Prop} (hc : ∀ c ∈ cols, c.at s.heap) (hne : cols ≠ []) (hlen : cols.length ≤ 100000)
    (h : ∀ h' mp T its, MapAt h' mp T f its cols 0 → its.Nodup → Keep s.heap h' → s.heap.objs.size ≤ h'.objs.size → (∀ b, b = mp ∨ b = T ∨ b ∈ its → s.heap.objs.size ≤ b) → Q (.ref mp) { s with heap := h' }) :
    wpAny (model prog w) A (call (.type "map") (f :: cols.map fun c => Value.ref c.addr)) Q E s :=
  callType_new called_map (by decide) (typeCall_map _) (newCall_map _) (fun obj => args_object_init _) entry_map_new
    (meets_map_new f cols) ⟨hc, hne, hlen, fun h' mp T its M a b c d => ⟨⟨_, M.hm, rfl⟩, h h' mp T its M a b c d⟩⟩

/-- too few arguments -/
theorem meets_map_few (args : List Value) (hargs : args.length < 2) :
    Meets (Builtin.«map.__new__» ⟨.type "map" :: args, []⟩) (fun A R s => A.handled = none ∧ ∀ h' tk e, Heap.NewExc s.heap h' e "TypeError" → R (.error (.ref e)) { s with heap := h', toks := tk }) :=
  .of_wp fun prog w A R s h => by
    obtain ⟨hh, h⟩ := h
    have hsub := sub_map
    show wpAny _ _ (Builtin.SmallTypes.newClass "map" ⟨.type "map" :: args, []⟩ >>= _) _ _ s
    have hnc : Builtin.SmallTypes.newClass "map" ⟨.type "map" :: args, []⟩ = pure (.type "map", args) := by
      simp only [Builtin.SmallTypes.newClass]
      rw [hsub]
      rfl
    rw [hnc]
    refine wpAny_bind (wpAny_pure ?_)
    dsimp only
    refine wpAny_bind (wpAny_pure ?_)
    rw [if_pos hargs]
    refine wpAny_bind (wpAny_rule ?_)
    exact wpAny_bind (wpAny_raiseTypeErrorWords (by exact hh) fun h' tk e x => h h' tk e x)

theorem call_map_few {s : Shared} {args : List Value} {Q : Value → Shared → Prop} (hh : A.handled = none) (hargs : args.length < 2)
    (h : ∀ h' tk e, Heap.NewExc s.heap h' e "TypeError" → E (.ref e) { s with heap := h', toks := tk }) :
    wpAny (model prog w) A (call (.type "map") args) Q E s :=
  callType_new called_map (by decide) (typeCall_map _) (newCall_map _) (fun obj => args_object_init _) entry_map_new
    (meets_map_few args hargs) ⟨by exact hh, fun h' tk e x => h h' tk e x⟩
end
end Mine
end

section
open PySem PySem.W PyProof.Rows PySem.Calls
namespace Mine

/-! the parts of the given text, by projection -/
abbrev P : Program := PySem.Challenge.rw_sn0115_01.row.prog
def stm (k : Nat) : Stmt := P.main.body.getD k (.Pass ⟨0, 0, 0, 0⟩)
def fBody : Stmt → List Stmt
  | .FunctionDef _ _ b _ _ _ _ _ _ _ => b
  | _ => []
def fArgs : Stmt → Arguments
  | .FunctionDef _ a _ _ _ _ _ _ _ _ => a
  | _ => ⟨[], [], none, [], [], none, []⟩
def fScope : Stmt → Scope
  | .FunctionDef _ _ _ _ _ _ s _ _ _ => s
  | _ => default
def fName : Stmt → Str
  | .FunctionDef n _ _ _ _ _ _ _ _ _ => n
  | _ => Str.empty
/-- the data of the text's k-th def -/
def fdOf (k : Nat) (c : Addr) (pm : Value) : FuncData := docDef (fName (stm k)) (fArgs (stm k)) (fBody (stm k)) (fScope (stm k)) pm (.ref c) .none
/-- the frame of a call of a def -/
def envN (fd : FuncData) (L a : Addr) : Env := newEnv fd.scope L fd.globals fd.closure (fd.qualname ++ ".<locals>.") (some a) fd.code none fd.builtins

/-- the k-th def stands at a, its code object at c -/
structure FnIn (h : Heap) (k : Nat) (a c : Addr) (pm : Value) : Prop where
  fn : ∃ o, h.get? a = some o ∧ o.data = .func (fdOf k c pm)
  code : h.CodeRec (.ref c) (fName (stm k))
theorem FnIn.keep {h h' : Heap} {k : Nat} {a c : Addr} {pm : Value} (x : FnIn h k a c pm) (K : Keep h h') : FnIn h' k a c pm :=
  ⟨let ⟨o, ho, hd⟩ := x.fn; ⟨o, K _ _ ho, hd⟩, x.code.keeps K⟩

/-- what the names mean -/
structure Names (mg mb : Str → Option Value) : Prop where
  mapstar : mg "mapstar" = some (.ref 21)
  doing : mg "_law_doing" = some (.ref 28)
  row : mg "_law_row" = some (.ref 35)
  outcome : mg "_law_outcome" = some (.ref 42)
  right : mg "_law_right" = some (.ref 47)
  refused : mg "_law_refused" = some (.ref 54)
  name : ∃ v, mg "__name__" = some v
  no : ∀ x ∈ (["list", "map", "len", "str", "tuple", "range", "min", "max", "ValueError", "TypeError"] : List Str), mg x = none
  list : mb "list" = some (.type "list")
  map : mb "map" = some (.type "map")
  len : mb "len" = some (.builtin "len")
  str : mb "str" = some (.type "str")
  tuple : mb "tuple" = some (.type "tuple")
  range : mb "range" = some (.type "range")
  min : mb "min" = some (.builtin "min")
  max : mb "max" = some (.builtin "max")
  value : mb "ValueError" = some (.type "ValueError")
  typeE : mb "TypeError" = some (.type "TypeError")

/-- what stands below the call and stays -/
structure Base (pm pl : Value) (mg mb : Str → Option Value) (h : Heap) : Prop where
  g : h.Ns mainGlobals mg
  b : h.Ns builtinsNs mb
  lim : h.NoLimit
  mapstar : FnIn h 1 21 20 pm
  doing : FnIn h 3 28 27 pl
  row : FnIn h 4 35 34 pl
  outcome : FnIn h 5 42 41 pl
  right : FnIn h 6 47 46 pl
  refused : FnIn h 7 54 53 pl
  hd27 : CodeHd h 27 23
  bat : h.BuiltinsAt mg 23
theorem BuiltinsAt.keep {h h' : Heap} {mg : Str → Option Value} {p : Addr} (x : h.BuiltinsAt mg p) (K : Keep h h') : h'.BuiltinsAt mg p :=
  let ⟨bm, o, a, b, c, d, e, r⟩ := x; ⟨bm, o, a, b, c, d, K _ _ e, r⟩
theorem Base.keep {pm pl : Value} {mg mb : Str → Option Value} {h h' : Heap} (x : Base pm pl mg mb h) (K : Keep h h') : Base pm pl mg mb h' :=
  ⟨x.g.keeps K, x.b.keeps K, x.lim.keeps K, x.mapstar.keep K, x.doing.keep K, x.row.keep K, x.outcome.keep K, x.right.keep K, x.refused.keep K, x.hd27.keeps K, BuiltinsAt.keep x.bat K⟩

/-- room for calls -/
structure Room (A : Around) (d u : Nat) : Prop where
  hh : A.handled = none
  depth : A.depth + d < recursionLimit
  units : A.units + u < cLine

section
variable {prog : Program} {w : World} {A : Around} {E : Value → Shared → Prop} {s : Shared}

theorem call_def {fd : FuncData} {a : Addr} {o : Obj} {args : List Value} {binds : List (Str × Value)} {body : List Stmt} {R : Result → Shared → Prop}
    (hroom : A.depth < recursionLimit) (ho : s.heap.get? a = some o) (hd : o.data = .func fd) (hlim : s.heap.NoLimit) (hcd : s.heap.CodeRec fd.code fd.qualname) (hbody : fd.body = .stmts body)
    (hbind : bindArgs fd ⟨args, []⟩ = pure binds) (hcell : ∀ x ∈ fd.scope.names, x.2 ≠ .cell) (hloc : ∀ x ∈ binds, fd.scope.names.lookup x.1 = some .local)
    (h : ∀ h₁ tk, h₁.Ns s.heap.objs.size (fun x => binds.reverse.lookup x) → Keep s.heap h₁ → h₁.objs.size = s.heap.objs.size + 1 →
      wpAny (model prog w) (A.deeper (envN fd s.heap.objs.size a)) (execs body (envN fd s.heap.objs.size a))
        (fun f s' => R (.ok (.ret (match f with | .ret v => v | _ => .none))) s')
        (fun e s' => wpAny (model prog w) (A.deeper (envN fd s.heap.objs.size a)) (leaving (envN fd s.heap.objs.size a) e) (fun _ s'' => R (.error e) s'') (fun e' s'' => R (.error e') s'') s') (at_ s h₁ tk))
    (hco : fd.scope.isCoroutine = false) (hgen : fd.scope.isGenerator = false) (hk : fd.scope.kind = .function) :
    codeAny (model prog w) A (.call (.ref a) ⟨args, []⟩) R s := by
  refine codeAny_call_function hroom ho hd hco hgen hbody hcd ?_
  rw [hbind]
  refine wpAny_pure (wpAny_newFunctionEnv hcell hloc (fun h₁ hns hsb => ⟨hlim.fresh _ hsb, codeAny_func ?_⟩) hk)
  exact h h₁ _ hns (fun b o e => hsb.extBut b o (Nat.ne_of_lt (Heap.lt_size e)) (Heap.get?_push_of_some _ e)) (by rw [hsb.1, Heap.size_push])

/-- a def whose parameters are one star -/
theorem call_star {fd : FuncData} {a : Addr} {o : Obj} {args : List Value} {n : Str} {body : List Stmt} {R : Result → Shared → Prop}
    (hroom : A.depth < recursionLimit) (ho : s.heap.get? a = some o) (hd : o.data = .func fd) (hlim : s.heap.NoLimit) (hcd : s.heap.CodeRec fd.code fd.qualname) (hbody : fd.body = .stmts body)
    (hp : ∃ an p, fd.params = ⟨[], [], some ⟨n, an, p⟩, [], [], none, []⟩) (hdf : fd.defaults = .none) (hcell : ∀ x ∈ fd.scope.names, x.2 ≠ .cell) (hloc : fd.scope.names.lookup n = some .local) (hsz : args.length ≤ 100000)
    (h : ∀ h₁ tk, h₁.Ns (s.heap.objs.size + 1) (fun x => if x = n then some (.ref s.heap.objs.size) else none) → h₁.IsTuple s.heap.objs.size args.toArray → Keep s.heap h₁ → h₁.objs.size = s.heap.objs.size + 2 →
      wpAny (model prog w) (A.deeper (envN fd (s.heap.objs.size + 1) a)) (execs body (envN fd (s.heap.objs.size + 1) a))
        (fun f s' => R (.ok (.ret (match f with | .ret v => v | _ => .none))) s')
        (fun e s' => wpAny (model prog w) (A.deeper (envN fd (s.heap.objs.size + 1) a)) (leaving (envN fd (s.heap.objs.size + 1) a) e) (fun _ s'' => R (.error e) s'') (fun e' s'' => R (.error e') s'') s') (at_ s h₁ tk))
    (hco : fd.scope.isCoroutine = false) (hgen : fd.scope.isGenerator = false) (hk : fd.scope.kind = .function) :
    codeAny (model prog w) A (.call (.ref a) ⟨args, []⟩) R s := by
  obtain ⟨an, p, hp⟩ := hp
  refine codeAny_call_function hroom ho hd hco hgen hbody hcd ?_
  have hb : bindArgs fd ⟨args, []⟩ = (do let t ← newTuple args; pure [(n, t)]) := by
    unfold bindArgs
    simp [hp, hdf, seqItems?]
    rfl
  rw [hb]
  refine wpAny_bind (wpAny_newTuple (wpAny_pure ?_) (Nat.le_trans hsz (by decide)))
  refine wpAny_newFunctionEnv hcell (fun x hx => by rw [List.mem_singleton.mp hx]; exact hloc) (fun h₁ hns hsb => ⟨(hlim.push _).fresh _ hsb, codeAny_func ?_⟩) hk
  have e : (s.heap.push { cls := .type "tuple", data := .seq args.toArray }).objs.size = s.heap.objs.size + 1 := Heap.size_push ..
  dsimp only at hns hsb ⊢
  rw [e] at hns hsb ⊢
  have K : Keep s.heap h₁ := fun b o e' => hsb.extBut b o (Nat.ne_of_lt (Nat.lt_succ_of_lt (Heap.lt_size e'))) (Heap.get?_push_of_some _ (Heap.get?_push_of_some _ e'))
  refine h h₁ _ ?_ ⟨_, hsb.extBut _ _ (Nat.ne_of_lt (Nat.lt_succ_self _)) (Heap.get?_push_of_some _ (Heap.get?_push_size _ rfl)), rfl, _, rfl⟩ K (by rw [hsb.1, Heap.size_push, e])
  have e2 : (fun x => ([(n, Value.ref s.heap.objs.size)] : List (Str × Value)).reverse.lookup x) = fun x => if x = n then some (.ref s.heap.objs.size) else none := by
    funext x
    simp only [List.reverse_cons, List.reverse_nil, List.nil_append, List.lookup_cons, List.lookup_nil]
    by_cases hx : x = n
    · simp [hx]
    · have : (x == n) = false := by simpa using hx
      simp [hx, this]
  rw [← e2]; exact hns
end
end Mine
end

section
open PySem PySem.W PyProof.Rows PySem.Calls
namespace Mine

section
variable {prog : Program} {w : World} {A : Around} {E : Value → Shared → Prop} {s : Shared} {pm pl : Value} {mg mb : Str → Option Value} {env : Env} {x : Str} {pos : Pos} {v : Value} {Q : Value → Shared → Prop}

theorem ldB (B : Base pm pl mg mb s.heap) (hm : mg x = none) (hv : mb x = some v) (h : Q v s) (hg : env.globals = mainGlobals) (hb : env.builtins = builtinsNs)
    (hk : env.scope.kind = .function) (hx : env.kindOf x = some .globalImplicit) (hd : (x == ("__debug__" : Str)) = false) : wpAny (model prog w) A (eval (.Name x pos) env) Q E s :=
  Name_function_global hk hx (loadGlobal_builtin (hg ▸ B.g) hm (hb ▸ B.b) hv h) hd
theorem ldG (B : Base pm pl mg mb s.heap) (hm : mg x = some v) (h : Q v s) (hg : env.globals = mainGlobals)
    (hk : env.scope.kind = .function) (hx : env.kindOf x = some .globalImplicit) (hd : (x == ("__debug__" : Str)) = false) : wpAny (model prog w) A (eval (.Name x pos) env) Q E s :=
  Name_function_global hk hx (loadGlobal_global (hg ▸ B.g) hm h) hd
theorem ldL {m : Str → Option Value} (hn : s.heap.Ns env.locals m) (hv : m x = some v) (h : Q v s)
    (hk : env.scope.kind = .function) (hx : env.kindOf x = some .local) (hd : (x == ("__debug__" : Str)) = false) : wpAny (model prog w) A (eval (.Name x pos) env) Q E s :=
  wpAny_Name (wpAny_loadName_local hk hx hn hv h) hd
end

abbrev msF (pm : Value) : FuncData := fdOf 1 20 pm
abbrev msE (pm : Value) (L : Addr) : Env := envN (msF pm) L 21

theorem ms_bind (pm : Value) (v : Value) : bindArgs (msF pm) ⟨[v], []⟩ = pure [(("args" : Str), v)] := by
  rfl
theorem ms_cell (pm : Value) : ∀ x ∈ (msF pm).scope.names, x.2 ≠ .cell := by
  show ∀ x ∈ (fScope (stm 1)).names, x.2 ≠ .cell
  decide
theorem ms_loc (pm : Value) (v : Value) : ∀ x ∈ ([(("args" : Str), v)] : List (Str × Value)), (msF pm).scope.names.lookup x.1 = some .local := fun x hx => by
  rw [List.mem_singleton.mp hx]
  rfl

section
variable {prog : Program} {w : World} {A : Around} {s : Shared} {pm pl : Value} {mg mb : Str → Option Value} {R : Result → Shared → Prop}

/-- a call of mapstar: the frame is made, its arguments collected; left: list(map(..)) -/
theorem mapstar_enter {t : Addr} {vs : List Value} (N : Names mg mb) (B : Base pm pl mg mb s.heap) (ht : s.heap.IsTuple t vs.toArray) (hsz : vs.length ≤ 100000) (hroom : A.depth < recursionLimit)
    (h : ∀ h₁ tk L, s.heap.objs.size = L → (∃ m, h₁.Ns L m) → Keep s.heap h₁ → s.heap.objs.size < h₁.objs.size →
      wpAny (model prog w) (A.deeper (msE pm L)) (call (.type "map") vs) (fun v s' => wpAny (model prog w) (A.deeper (msE pm L)) (call (.type "list") [v]) (fun v s' => R (.ok (.ret v)) s')
          (fun e s' => wpAny (model prog w) (A.deeper (msE pm L)) (leaving (msE pm L) e) (fun _ s'' => R (.error e) s'') (fun e' s'' => R (.error e') s'') s') s')
        (fun e s' => wpAny (model prog w) (A.deeper (msE pm L)) (leaving (msE pm L) e) (fun _ s'' => R (.error e) s'') (fun e' s'' => R (.error e') s'') s') (at_ s h₁ tk)) :
    codeAny (model prog w) A (.call (.ref 21) ⟨[.ref t], []⟩) R s := by
  obtain ⟨o, ho, hd⟩ := B.mapstar.fn
  refine call_def (fd := msF pm) (body := fBody (stm 1)) hroom ho hd B.lim B.mapstar.code rfl (ms_bind pm _) (ms_cell pm) (ms_loc pm _) (fun h₁ tk hns hk hz => ?_) rfl rfl rfl
  have B₁ : Base pm pl mg mb h₁ := B.keep hk
  show wpAny _ _ (execs [Stmt.Return (some (Expr.Call (Expr.Name "list" _) [Expr.Call (Expr.Name "map" _) [Expr.Starred (Expr.Name "args" _) _] [] _] [] _)) _] _) _ _ _
  refine wpAny_execs_cons (wpAny_Return_some ?_)
  refine wpAny_Call_NameR (ldB (s := at_ s h₁ tk) B₁ (N.no _ (by decide)) N.list ?_ rfl rfl rfl rfl (by decide))
  refine callWith_type1 (args_cons ?_)
  refine wpAny_Call_NameR (ldB (s := at_ s h₁ tk) B₁ (N.no _ (by decide)) N.map ?_ rfl rfl rfl rfl (by decide))
  refine ks_call (P := fun _ => True) (first := []) rfl (fun h _ => ⟨.machine, .inr (.inl rfl), Looks.of_pure rfl⟩) (ks_lone ?_)
  refine ldL (s := at_ s h₁ tk) (m := _) hns (v := .ref t) rfl ?_ rfl rfl (by decide)
  have ht₁ : h₁.IsTuple t vs.toArray := let ⟨o, a, b⟩ := ht; ⟨o, hk _ _ a, b⟩
  unfold StarOf notIterableAtAll
  refine wpAny_bind (wpAny_specialOf ht₁.typeIs PySem.F.slot_tuple_iter.lookup (wpAny_pure ⟨rfl, ?_⟩))
  obtain ⟨ot, hot, hct, nt, hdt⟩ := ht₁
  refine wpAny_collect_seq (s := at_ s h₁ tk) t (.inr rfl) hot hct hdt (fun h₂ hk₂ => ⟨trivial, ?_⟩) (by simp; exact Nat.le_trans hsz (by decide))
  have hlt : s.heap.objs.size < h₂.objs.size := by
    obtain ⟨oL, _, _, hL, _⟩ := hns
    exact Heap.lt_size (hk₂ _ _ hL)
  refine wpAny_mono (h h₂ tk _ rfl ⟨_, hns.keeps hk₂⟩ (fun b o e => hk₂ _ _ (hk _ _ e)) hlt) (fun v s' hv => args_nil hv) fun _ _ y => y
end
end Mine
end

section
open PySem PySem.W PyProof.Rows PySem.Calls
namespace Mine

theorem ltS {h : Heap} {b : Nat} {o : Obj} (e : h.get? b = some o) : b < h.objs.size := Heap.lt_size e
/-- all stays but what lies from lo to hi -/
abbrev KeepOut (lo hi : Nat) (h h' : Heap) : Prop := ∀ (b : Nat) o, ¬ (lo ≤ b ∧ b < hi) → h.get? b = some o → h'.get? b = some o

section
variable {prog : Program} {w : World} {A : Around} {s : Shared} {pm pl : Value} {mg mb : Str → Option Value} {R : Result → Shared → Prop}

/-- what a caller of mapstar shows of the def that is mapped -/
structure Calls (prog : Program) (w : World) (A : Around) (R : Result → Shared → Prop) (s : Shared) (pm : Value) (f : Value) (cols : List Col) (n : Nat) (X : Nat → Prop) (J : Nat → Nat → List Value → Heap → Prop) : Prop where
  low : ∀ c ∈ cols, n ≤ c.items.size
  top : ∃ c ∈ cols, c.items.size ≤ n
  fit : n ≤ 100000
  colsAt : ∀ c ∈ cols, c.at s.heap
  few : cols.length ≤ 50000
  apart : ∀ b, X b → b < s.heap.objs.size ∧ ∀ c ∈ cols, b ≠ c.addr
  start : ∀ hi h, s.heap.objs.size < hi → Keep s.heap h → h.objs.size = hi → J hi 0 [] h
  frame : ∀ hi i ys h h', J hi i ys h → hi ≤ h.objs.size → KeepOut s.heap.objs.size hi h h' → h.objs.size ≤ h'.objs.size → J hi i ys h'
  step : ∀ L m hi i ys h tk, i < n → J hi i ys h → ys.length = i → s.heap.objs.size < hi → hi ≤ h.objs.size → KeepBut X s.heap h → s.heap.objs.size ≤ L → h.Ns L m →
    wpAny (model prog w) (A.deeper (msE pm L)).in1.in1.in1 (call f (rowAt cols i))
      (fun v s' => ∃ h' tk', s' = at_ s h' tk' ∧ J hi (i + 1) (ys ++ [v]) h' ∧ KeepBut X h h' ∧ h.objs.size ≤ h'.objs.size)
      (fun e s' => NoStop e s' ∧ wpAny (model prog w) (A.deeper (msE pm L)) (leaving (msE pm L) e) (fun _ s'' => R (.error e) s'') (fun e' s'' => R (.error e') s'') s') (at_ s h tk)
  done : ∀ hi ys h tk S c, J hi n ys h → ys.length = n → s.heap.objs.size ≤ S → S < hi → h.get? S = some { cls := .type "list", dict := none, data := .seq ys.toArray c, slots := #[] } → KeepBut X s.heap h → hi ≤ h.objs.size →
    R (.ok (.ret (.ref S))) (at_ s h tk)

theorem mapstar_call {t : Addr} {f : Value} {cols : List Col} {n : Nat} {X : Nat → Prop} {J : Nat → Nat → List Value → Heap → Prop}
    (N : Names mg mb) (B : Base pm pl mg mb s.heap) (rm : Room A 10 20) (ht : s.heap.IsTuple t (f :: cols.map fun c => Value.ref c.addr).toArray) (C : Calls prog w A R s pm f cols n X J) :
    codeAny (model prog w) A (.call (.ref 21) ⟨[.ref t], []⟩) R s := by
  have hne : cols ≠ [] := by
    obtain ⟨c, hc, _⟩ := C.top
    rintro rfl; cases hc
  refine mapstar_enter N B ht (by have := C.few; simp; omega) (by have := rm.depth; omega) fun h₁ tk L hL hns hk hz => ?_
  obtain ⟨m, hns⟩ := hns
  refine call_map (s := at_ s h₁ tk) (fun c hc => Col.at_keep (C.colsAt c hc) fun o e => hk _ _ e) hne (by have := C.few; omega) fun h₂ mp T its M hnd hk₂ hz₂ how => ?_
  have hlo : s.heap.objs.size ≤ h₁.objs.size := Nat.le_of_lt hz
  have hzz : h₁.objs.size ≤ h₂.objs.size := hz₂
  have hown : ∀ b, b = mp ∨ b = T ∨ b ∈ its → h₁.objs.size ≤ b := how
  have k2 : Keep s.heap h₂ := fun b o e => hk₂ b o (hk b o e)
  have hns₂ : h₂.Ns L m := hns.keeps hk₂
  have hLlt : L < h₁.objs.size := hns.lt
  have W : Walk prog w (A.deeper (msE pm L)).in1.in1 (fun e s' => wpAny (model prog w) (A.deeper (msE pm L)) (leaving (msE pm L) e) (fun _ s'' => R (.error e) s'') (fun e' s'' => R (.error e') s'') s')
      (at_ s h₂ tk) mp T f its cols n X (J (h₂.objs.size + 1)) h₂.objs.size :=
    { hh := rm.hh
      nd := hnd
      low := C.low
      top := C.top
      fit := C.fit
      frame := fun i ys h h' hJ hS hkb hsz => C.frame _ i ys h h' hJ hS (fun b o hb e => hkb b o (fun q => hb (by
        rcases q with rfl | q
        · omega
        · have a1 := hown b (.inr (.inr q)); have a2 : @LT.lt Nat _ b h₂.objs.size := M.hI.lt b q; omega)) e) hsz
      apart := fun b hb => by
        have a := (C.apart b hb).1
        refine ⟨fun q => ?_, fun q => ?_, fun q => ?_, fun q => ?_, (C.apart b hb).2⟩
        · have := hown b (.inl q); omega
        · have := hown b (.inr (.inl q)); omega
        · have := hown b (.inr (.inr q)); omega
        · have q' : @Eq Nat b h₂.objs.size := q
          omega
      step := fun i ys h tk' hi hJ hl hS hI hkb => by
        have hkb' : KeepBut X s.heap h := fun b o hb e => hkb b o (fun q => by
          rcases q with q | q
          · exact hb q
          · have := hown b (.inr (.inr q)); have := ltS e; omega) (k2 b o e)
        have hNsL : h.Ns L m := hns₂.at' fun o e => hkb L o (fun q => by
          rcases q with q | q
          · have := (C.apart L q).1; omega
          · have := hown L (.inr (.inr q)); omega) e
        exact C.step L m (h₂.objs.size + 1) i ys h tk' hi hJ hl (by omega) hS hkb' (by omega) hNsL }
  refine list_of_map (s := at_ s h₂ tk) W M (fun h' hk' hz' => C.start _ h' (by show s.heap.objs.size < h₂.objs.size + 1; omega) (fun b o e => hk' b o (k2 b o e)) hz') fun ys h tk' c hJ hl hS hkb hz' => ?_
  refine C.done (h₂.objs.size + 1) ys h tk' h₂.objs.size c hJ hl (by omega) (Nat.lt_succ_self _) hS (fun b o hb e => hkb b o (fun q => ?_) (k2 b o e)) hz'
  rcases q with q | q
  · exact hb q
  · have := hown b (.inr (.inr q)); have := ltS e; omega
end
end Mine
end

section
open PySem PySem.W PyProof.Rows PySem.Calls
namespace Mine

/-! data read off the heap, addresses left aside -/
def Rd (h : Heap) (v : Value) (d : PyData) : Prop := ∃ as, Reads h v d as
def RdAll (h : Heap) (vs : List Value) (ds : List PyData) : Prop := ∃ as, ReadsAll h vs ds as

section
variable {h h' : Heap} {v : Value} {d : PyData} {vs ws : List Value} {ds es : List PyData} {a : Nat} {o : Obj}
theorem Rd.keep (x : Rd h v d) (k : Keep h h') : Rd h' v d := let ⟨as, r⟩ := x; ⟨as, Reads.keeps k r⟩
theorem RdAll.keep (x : RdAll h vs ds) (k : Keep h h') : RdAll h' vs ds := let ⟨as, r⟩ := x; ⟨as, ReadsAll.keeps k r⟩
theorem Rd.int {i : Int} {t : Tok} : Rd h (.int i t) (.int i) := ⟨_, .int i t⟩
theorem Rd.str {x : Str} {t : Tok} : Rd h (.str x t) (.str x) := ⟨_, .str x t⟩
theorem Rd.none : Rd h .none .none := ⟨_, .none⟩
theorem Rd.bool {b : Bool} : Rd h (.bool b) (.bool b) := ⟨_, .bool b⟩
theorem RdAll.nil : RdAll h [] [] := ⟨_, .nil⟩
theorem RdAll.cons (x : Rd h v d) (y : RdAll h vs ds) : RdAll h (v :: vs) (d :: ds) := let ⟨_, r⟩ := x; let ⟨_, q⟩ := y; ⟨_, .cons r q⟩
theorem RdAll.cons_inv (x : RdAll h (v :: vs) ds) : ∃ e es, ds = e :: es ∧ Rd h v e ∧ RdAll h vs es := by
  obtain ⟨as, r⟩ := x
  cases r with
  | cons r q => exact ⟨_, _, rfl, ⟨_, r⟩, ⟨_, q⟩⟩
theorem RdAll.nil_inv (x : RdAll h [] ds) : ds = [] := by
  obtain ⟨as, r⟩ := x
  cases r; rfl
theorem RdAll.length : ∀ {vs : List Value} {ds : List PyData}, RdAll h vs ds → vs.length = ds.length
  | [], _, x => by rw [x.nil_inv]; rfl
  | _ :: _, _, x => by obtain ⟨e, es, rfl, _, y⟩ := x.cons_inv; simp [RdAll.length y]
theorem RdAll.append : ∀ {vs : List Value} {ds : List PyData}, RdAll h vs ds → RdAll h ws es → RdAll h (vs ++ ws) (ds ++ es)
  | [], _, x, y => by rw [x.nil_inv]; exact y
  | _ :: _, _, x, y => by obtain ⟨e, es, rfl, r, x'⟩ := x.cons_inv; exact .cons r (RdAll.append x' y)
theorem RdAll.one (x : Rd h v d) : RdAll h [v] [d] := .cons x .nil
theorem RdAll.get : ∀ {vs : List Value} {ds : List PyData}, RdAll h vs ds → ∀ (i : Nat) (u : Value), vs[i]? = some u → ∃ e, ds[i]? = some e ∧ Rd h u e
  | [], _, _, _, _, e => by simp at e
  | _ :: _, _, x, i, u, e => by
    obtain ⟨e', es, rfl, r, x'⟩ := x.cons_inv
    cases i with
    | zero => simp at e; subst e; exact ⟨e', rfl, r⟩
    | succ i => simpa using RdAll.get x' i u (by simpa using e)
theorem RdAll.of_get : ∀ {vs : List Value} {ds : List PyData}, vs.length = ds.length → (∀ (i : Nat) u e, vs[i]? = some u → ds[i]? = some e → Rd h u e) → RdAll h vs ds
  | [], [], _, _ => .nil
  | [], _ :: _, e, _ => by simp at e
  | _ :: _, [], e, _ => by simp at e
  | v :: vs, d :: ds, e, f => .cons (f 0 v d rfl rfl) (RdAll.of_get (by simpa using e) fun i u e' h1 h2 => f (i + 1) u e' (by simpa using h1) (by simpa using h2))
theorem RdAll.map {α : Type} {f : α → Value} {g : α → PyData} : ∀ {l : List α}, (∀ x ∈ l, Rd h (f x) (g x)) → RdAll h (l.map f) (l.map g)
  | [], _ => .nil
  | x :: l, k => .cons (k x (.head _)) (RdAll.map fun y hy => k y (.tail _ hy))
theorem Rd.tuple {n : Nat} {xs : Array Value} (ho : h.get? a = some o) (hc : o.cls = .type "tuple") (hd : o.data = .seq xs n) (r : RdAll h xs.toList ds) : Rd h (.ref a) (.tuple ds) :=
  let ⟨_, q⟩ := r; ⟨_, .tuple ho hc hd q⟩
theorem Rd.list {n : Nat} {xs : Array Value} (ho : h.get? a = some o) (hc : o.cls = .type "list") (hd : o.data = .seq xs n) (r : RdAll h xs.toList ds) : Rd h (.ref a) (.list ds) :=
  let ⟨_, q⟩ := r; ⟨_, .list ho hc hd q⟩
theorem Rd.ofTuple {xs : Array Value} (t : h.IsTuple a xs) (r : RdAll h xs.toList ds) : Rd h (.ref a) (.tuple ds) := let ⟨_, ho, hc, _, hd⟩ := t; Rd.tuple ho hc hd r
theorem Rd.ofList {xs : Array Value} (t : h.IsList a xs) (r : RdAll h xs.toList ds) : Rd h (.ref a) (.list ds) := let ⟨_, ho, hc, _, hd⟩ := t; Rd.list ho hc hd r
theorem Rd.isTuple (x : Rd h v (.tuple ds)) : ∃ a xs, v = .ref a ∧ h.IsTuple a xs ∧ RdAll h xs.toList ds := by
  obtain ⟨as, r⟩ := x
  cases r with
  | tuple h1 h2 h3 h4 => exact ⟨_, _, rfl, ⟨_, h1, h2, _, h3⟩, ⟨_, h4⟩⟩
theorem Rd.isList (x : Rd h v (.list ds)) : ∃ a xs, v = .ref a ∧ h.IsList a xs ∧ RdAll h xs.toList ds := by
  obtain ⟨as, r⟩ := x
  cases r with
  | list h1 h2 h3 h4 => exact ⟨_, _, rfl, ⟨_, h1, h2, _, h3⟩, ⟨_, h4⟩⟩
theorem Rd.isInt {i : Int} (x : Rd h v (.int i)) : ∃ t, v = .int i t := by
  obtain ⟨as, r⟩ := x
  cases r; exact ⟨_, rfl⟩
end

/-- the heap from address N on -/
def top (N : Nat) (h : Heap) : Heap := hideAll h (List.range N)
theorem top_get {N : Nat} {h : Heap} {b : Nat} {o : Obj} (e : h.get? b = some o) (hb : N ≤ b) : (top N h).get? b = some o :=
  hideAll_get _ e fun m => by have := List.mem_range.mp m; omega
theorem of_top {N : Nat} {h : Heap} {b : Nat} {o : Obj} (e : (top N h).get? b = some o) : h.get? b = some o ∧ N ≤ b :=
  ⟨of_hideAll _ e, Nat.le_of_not_lt fun q => by
    have := hideAll_none (h := h) (List.range N) (b := b) (List.mem_range.mpr q)
    rw [top] at e; rw [this] at e; cases e⟩
theorem top_sub {N : Nat} {h : Heap} : Keep (top N h) h := fun _ _ e => (of_top e).1
theorem top_keep {N : Nat} {h h' : Heap} (k : ∀ (b : Nat) o, N ≤ b → h.get? b = some o → h'.get? b = some o) : Keep (top N h) (top N h') := fun b o e =>
  let ⟨e1, e2⟩ := of_top e; top_get (k b o e2 e1) e2
theorem top_mono {N M : Nat} {h : Heap} (hle : N ≤ M) : Keep (top M h) (top N h) := fun _ _ e => let ⟨e1, e2⟩ := of_top e; top_get e1 (Nat.le_trans hle e2)
theorem top_size {N : Nat} {h : Heap} : (top N h).objs.size = h.objs.size := hideAll_size _ _
theorem top_tuple {N a : Nat} {h : Heap} {xs : Array Value} (t : h.IsTuple a xs) (hb : N ≤ a) : (top N h).IsTuple a xs := let ⟨o, ho, r⟩ := t; ⟨o, top_get ho hb, r⟩
theorem top_list {N a : Nat} {h : Heap} {xs : Array Value} (t : h.IsList a xs) (hb : N ≤ a) : (top N h).IsList a xs := let ⟨o, ho, r⟩ := t; ⟨o, top_get ho hb, r⟩

section
variable {prog : Program} {w : World} {A : Around} {s : Shared} {pm pl : Value} {mg mb : Str → Option Value}
abbrev rowF (pl : Value) : FuncData := fdOf 4 34 pl

theorem row_cell (pl : Value) : ∀ x ∈ (rowF pl).scope.names, x.2 ≠ .cell := by
  show ∀ x ∈ (fScope (stm 4)).names, x.2 ≠ .cell
  decide
/-- a call of _law_row: its arguments as a new tuple -/
theorem row_call {args : List Value} {R : Result → Shared → Prop} (B : Base pm pl mg mb s.heap) (hroom : A.depth < recursionLimit) (hsz : args.length ≤ 100000)
    (h : ∀ h₁ tk, h₁.IsTuple s.heap.objs.size args.toArray → Keep s.heap h₁ → s.heap.objs.size ≤ h₁.objs.size → R (.ok (.ret (.ref s.heap.objs.size))) (at_ s h₁ tk)) :
    codeAny (model prog w) A (.call (.ref 35) ⟨args, []⟩) R s := by
  obtain ⟨o, ho, hd⟩ := B.row.fn
  refine call_star (fd := rowF pl) (n := "row") (body := fBody (stm 4)) hroom ho hd B.lim B.row.code rfl ⟨_, _, rfl⟩ rfl (row_cell pl) rfl hsz (fun h₁ tk hns ht hk hz => ?_) rfl rfl rfl
  show wpAny _ _ (execs [Stmt.Return (some (Expr.Name "row" _)) _] _) _ _ _
  refine wpAny_execs_cons (wpAny_Return_some ?_)
  exact ldL (s := at_ s h₁ tk) hns (v := .ref s.heap.objs.size) rfl (h h₁ tk ht hk (by omega)) rfl rfl (by decide)
end
end Mine
end

section
open PySem PySem.W PyProof.Rows PySem.Calls
namespace Mine

theorem keep_empty (h : Heap) : Keep ({} : Heap) h := fun b o e => by
  have := ltS e
  simp at this
def Ints (vs : List Value) (ns : List Int) : Prop := RdAll ({} : Heap) vs (ns.map PyData.int)
theorem Ints.rd {vs : List Value} {ns : List Int} (x : Ints vs ns) (h : Heap) : RdAll h vs (ns.map PyData.int) := RdAll.keep x (keep_empty h)
theorem Ints.nil : Ints [] [] := RdAll.nil
theorem Ints.cons {n : Int} {t : Tok} {vs : List Value} {ns : List Int} (x : Ints vs ns) : Ints (.int n t :: vs) (n :: ns) := RdAll.cons .int x
theorem Ints.length {vs : List Value} {ns : List Int} (x : Ints vs ns) : vs.length = ns.length := by simpa using RdAll.length x
theorem Ints.get {vs : List Value} {ns : List Int} (x : Ints vs ns) {i : Nat} {v : Value} (e : vs[i]? = some v) : ∃ n t, ns[i]? = some n ∧ v = .int n t := by
  obtain ⟨d, hd, r⟩ := RdAll.get x i v e
  rw [List.getElem?_map] at hd
  cases hn : ns[i]? with
  | none => rw [hn] at hd; cases hd
  | some n => rw [hn] at hd; cases hd; obtain ⟨t, rfl⟩ := r.isInt; exact ⟨n, t, rfl, rfl⟩
theorem Ints.of_rd {h : Heap} : ∀ {vs : List Value} {ns : List Int}, RdAll h vs (ns.map PyData.int) → Ints vs ns
  | [], [], _ => .nil
  | [], _ :: _, x => by cases x.nil_inv
  | v :: vs, ns, x => by
    obtain ⟨e, es, he, r, q⟩ := x.cons_inv
    cases ns with
    | nil => cases he
    | cons n ns =>
      simp only [List.map_cons, List.cons.injEq] at he
      obtain ⟨rfl, rfl⟩ := he
      obtain ⟨t, rfl⟩ := r.isInt
      exact .cons (Ints.of_rd q)

/-- the columns hold these ints -/
inductive ColsAre : List Col → List (List Int) → Prop
  | nil : ColsAre [] []
  | cons {c cols ns nss} : Ints c.items.toList ns → ColsAre cols nss → ColsAre (c :: cols) (ns :: nss)
theorem ColsAre.length {cols : List Col} {nss : List (List Int)} (x : ColsAre cols nss) : cols.length = nss.length := by
  induction x with
  | nil => rfl
  | cons _ _ ih => simp [ih]

def rowI (nss : List (List Int)) (i : Nat) : List Int := nss.map fun ns => ns.getD i 0
def rowsI (nss : List (List Int)) (n : Nat) : List (List Int) := (List.range n).map (rowI nss)
def tupD (r : List Int) : PyData := .tuple (r.map PyData.int)

theorem ColsAre.row {cols : List Col} {nss : List (List Int)} (x : ColsAre cols nss) {i : Nat} : (∀ c ∈ cols, i < c.items.size) → Ints (rowAt cols i) (rowI nss i) := by
  induction x with
  | nil => intro _; exact .nil
  | @cons c cols ns nss hc _ ih =>
    intro hi
    have h0 := hi c (.head _)
    obtain ⟨n, t, hn, hv⟩ := hc.get (i := i) (v := c.items.getD i .none) (by simp [h0])
    show Ints (c.items.getD i .none :: rowAt cols i) (ns.getD i 0 :: rowI nss i)
    have e : ns.getD i 0 = n := by simp [List.getD, hn]
    rw [hv, e]
    exact .cons (ih fun d hd => hi d (.tail _ hd))
theorem rowsI_succ (nss : List (List Int)) (n : Nat) : rowsI nss (n + 1) = rowsI nss n ++ [rowI nss n] := by simp [rowsI, List.range_succ]

theorem Room.less {A : Around} {d u d' u' : Nat} (x : Room A d u) (h1 : d' ≤ d) (h2 : u' ≤ u) : Room A d' u' := ⟨x.hh, by have := x.depth; omega, by have := x.units; omega⟩
theorem Room.in1 {A : Around} {d u : Nat} (x : Room A d (u + 1)) : Room A.in1 d u := ⟨x.hh, x.depth, by have := x.units; show A.units + 1 + u < _; omega⟩
theorem Room.deeper {A : Around} {env : Env} {d u : Nat} (x : Room A (d + 1) (u + 3)) : Room (A.deeper env) d u := ⟨x.hh, by have := x.depth; show A.depth + 1 + d < _; omega, by have := x.units; show A.units + 3 + u < _; omega⟩

section
variable {prog : Program} {w : World} {A : Around} {s : Shared} {pm pl : Value} {mg mb : Str → Option Value} {R : Result → Shared → Prop}

/-- mapstar of _law_row over columns of ints -/
theorem mapstar_row {t : Nat} {cols : List Col} {nss : List (List Int)} {n : Nat} (N : Names mg mb) (B : Base pm pl mg mb s.heap) (rm : Room A 10 20)
    (ht : s.heap.IsTuple t (.ref 35 :: cols.map fun c => Value.ref c.addr).toArray) (hat : ∀ c ∈ cols, c.at s.heap) (hI : ColsAre cols nss)
    (low : ∀ c ∈ cols, n ≤ c.items.size) (htop : ∃ c ∈ cols, c.items.size ≤ n) (fit : n ≤ 100000) (few : cols.length ≤ 50000)
    (h : ∀ v h' tk, Rd (top s.heap.objs.size h') v (.list ((rowsI nss n).map tupD)) → Keep s.heap h' → s.heap.objs.size ≤ h'.objs.size → R (.ok (.ret v)) (at_ s h' tk)) :
    codeAny (model prog w) A (.call (.ref 21) ⟨[.ref t], []⟩) R s := by
  refine mapstar_call (n := n) (X := fun _ => False) (J := fun hi i ys h => RdAll (top hi h) ys ((rowsI nss i).map tupD)) N B rm ht
    { low := low, top := htop, fit := fit, colsAt := hat, few := few
      apart := fun _ hb => hb.elim
      start := fun hi h _ _ _ => RdAll.nil
      frame := fun hi i ys h h' hJ _ hk _ => RdAll.keep hJ (top_keep fun b o hb e => hk b o (by omega) e)
      step := fun L m hi i ys h tk hin hJ hl hlo hhi hkb hL hns => ?_
      done := fun hi ys hp tk S c hJ hl h1 h2 hS hkb hz => ?_ }
  · have rm' : Room (A.deeper (msE pm L)).in1.in1.in1 0 0 := (rm.less (d' := 0 + 1) (u' := 0 + 1 + 1 + 1 + 3) (by omega) (by omega)).deeper.in1.in1.in1
    have hk : Keep s.heap h := fun b o e => hkb b o (fun q => q) e
    have hrow := hI.row (i := i) fun c hc => Nat.lt_of_lt_of_le hin (low c hc)
    refine wpAny_call (row_call (s := at_ s h tk) (B.keep hk) (by have := rm'.depth; omega) (by simp [rowAt]; omega) fun h₁ tk₁ ht₁ hk₁ hz₁ => ?_)
    refine ⟨h₁, tk₁, rfl, ?_, fun b o _ e => hk₁ b o e, hz₁⟩
    rw [rowsI_succ, List.map_append]
    refine RdAll.append (RdAll.keep hJ (top_keep fun b o _ e => hk₁ b o e)) (RdAll.one ?_)
    exact Rd.ofTuple (top_tuple ht₁ hhi) (by simpa using hrow.rd _)
  · refine h _ _ _ ?_ (fun b o e => hkb b o (fun q => q) e) (by omega)
    exact Rd.list (top_get hS h1) rfl rfl (by simpa using RdAll.keep hJ (top_mono (by omega)))
end
end Mine
end

section
open PySem PySem.W PyProof.Rows PySem.Calls
namespace Mine

/-- the arguments of one chunk -/
structure Chunk (h : Heap) (v : Value) (nss : List (List Int)) (n : Nat) : Prop where
  ex : ∃ (t : Nat) (cols : List Col), v = .ref t ∧ h.IsTuple t (.ref 35 :: cols.map fun c => Value.ref c.addr).toArray ∧ (∀ c ∈ cols, c.at h) ∧ ColsAre cols nss ∧
    (∀ c ∈ cols, n ≤ c.items.size) ∧ (∃ c ∈ cols, c.items.size ≤ n) ∧ n ≤ 100000 ∧ cols.length ≤ 50000
theorem Chunk.keep {h h' : Heap} {v : Value} {nss : List (List Int)} {n : Nat} (x : Chunk h v nss n) (k : Keep h h') : Chunk h' v nss n := by
  obtain ⟨t, cols, rfl, ht, hc, r⟩ := x.ex
  exact ⟨t, cols, rfl, let ⟨o, a, b⟩ := ht; ⟨o, k _ _ a, b⟩, fun c hm => Col.at_keep (hc c hm) fun o e => k _ _ e, r⟩

section
variable {prog : Program} {w : World} {A : Around} {s : Shared} {pm pl : Value} {mg mb : Str → Option Value} {R : Result → Shared → Prop}

theorem mapstar_map {t : Nat} {a : Nat} {items : List Value} {nss : Nat → List (List Int)} {n : Nat → Nat} (N : Names mg mb) (B : Base pm pl mg mb s.heap) (rm : Room A 20 40)
    (ht : s.heap.IsTuple t #[.ref 21, .ref a]) (ha : s.heap.IsList a items.toArray) (hI : ∀ i v, items[i]? = some v → Chunk s.heap v (nss i) (n i)) (fit : items.length ≤ 100000)
    (h : ∀ v h' tk, Rd (top s.heap.objs.size h') v (.list ((List.range items.length).map fun i => .list ((rowsI (nss i) (n i)).map tupD))) → Keep s.heap h' → s.heap.objs.size ≤ h'.objs.size → R (.ok (.ret v)) (at_ s h' tk)) :
    codeAny (model prog w) A (.call (.ref 21) ⟨[.ref t], []⟩) R s := by
  have hc0 : ∀ c ∈ [(⟨a, false, items.toArray⟩ : Col)], c.at s.heap := fun c hc => by rw [List.mem_singleton.mp hc]; exact ha
  refine mapstar_call (f := .ref 21) (cols := [⟨a, false, items.toArray⟩]) (n := items.length) (X := fun _ => False)
    (J := fun hi i ys h => RdAll (top hi h) ys ((List.range i).map fun i => .list ((rowsI (nss i) (n i)).map tupD))) N B (rm.less (by omega) (by omega)) ht
    { low := fun c hc => by rw [List.mem_singleton.mp hc]; simp
      top := ⟨_, .head _, by simp⟩
      fit := fit, colsAt := hc0, few := by simp
      apart := fun _ hb => hb.elim
      start := fun hi h _ _ _ => RdAll.nil
      frame := fun hi i ys h h' hJ _ hk _ => RdAll.keep hJ (top_keep fun b o hb e => hk b o (by omega) e)
      step := fun L m hi i ys h tk hin hJ hl hlo hhi hkb hL hns => ?_
      done := fun hi ys hp tk S c hJ hl h1 h2 hS hkb hz => ?_ }
  · have rm' : Room (A.deeper (msE pm L)).in1.in1.in1 10 20 := (rm.less (d' := 10 + 1) (u' := 20 + 1 + 1 + 1 + 3) (by omega) (by omega)).deeper.in1.in1.in1
    have hk : Keep s.heap h := fun b o e => hkb b o (fun q => q) e
    have hv : items[i]? = some (items.getD i .none) := by simp [hin]
    obtain ⟨ti, cols, e, hti, hci, hIi, low, htop, fit', few⟩ := ((hI i _ hv).keep hk).ex
    have e2 : rowAt [(⟨a, false, items.toArray⟩ : Col)] i = [.ref ti] := by
      rw [← e]; simp [rowAt]
    rw [e2]
    refine wpAny_call (mapstar_row (s := at_ s h tk) N (B.keep hk) rm' hti hci hIi low htop fit' few fun v h₁ tk₁ hr hk₁ hz₁ => ?_)
    refine ⟨h₁, tk₁, rfl, ?_, fun b o _ e => hk₁ b o e, hz₁⟩
    rw [List.range_succ, List.map_append]
    exact RdAll.append (RdAll.keep hJ (top_keep fun b o _ e => hk₁ b o e)) (RdAll.one (Rd.keep hr (top_mono hhi)))
  · refine h _ _ _ ?_ (fun b o e => hkb b o (fun q => q) e) (by omega)
    exact Rd.list (top_get hS h1) rfl rfl (by simpa using RdAll.keep hJ (top_mono (by omega)))
end
end Mine
end

section
open PySem PySem.W PyProof.Rows PySem.Calls
namespace Mine

theorem filterMap_ext {α β : Type} {f g : α → Option β} : ∀ {l : List α}, (∀ x ∈ l, f x = g x) → l.filterMap f = l.filterMap g
  | [], _ => rfl
  | x :: l, h => by
    rw [List.filterMap_cons, List.filterMap_cons, h x (.head _), filterMap_ext fun y hy => h y (.tail _ hy)]
theorem places_rev (n : Nat) : Builtin.Slice.slicePlaces ((n : Int) - 1) (-1) (-1) = n := by
  unfold Builtin.Slice.slicePlaces
  have h1 : ¬ ((-1 : Int) > 0) := by omega
  simp only [h1, if_false, show (- -1 : Int) = 1 by decide, Int.ediv_one]
  split <;> omega
theorem places_take (m : Nat) : Builtin.Slice.slicePlaces 0 (m : Int) 1 = m := by
  unfold Builtin.Slice.slicePlaces
  have h1 : (1 : Int) > 0 := by omega
  simp only [h1, if_true, Int.ediv_one]
  split <;> omega
theorem pick_rev (xs : Array Value) : ((List.range xs.size).filterMap fun (k : Nat) => xs[((xs.size : Int) - 1 + (k : Int) * (-1)).toNat]?).toArray = xs.toList.reverse.toArray := by
  have e : (List.range xs.size).filterMap (fun (k : Nat) => xs[((xs.size : Int) - 1 + (k : Int) * (-1)).toNat]?) = ((List.range xs.size).map fun k => xs.size - 1 - k).filterMap (xs[·]?) := by
    rw [List.filterMap_map]
    apply filterMap_ext
    intro k hk
    have := List.mem_range.mp hk
    show xs[_]? = xs[xs.size - 1 - k]?
    congr 1
    omega
  rw [e, krv_range, List.filterMap_reverse, krv_all]
theorem pick_take (xs : Array Value) (m : Nat) : ((List.range m).filterMap fun (k : Nat) => xs[((0 : Int) + (k : Int) * 1).toNat]?).toArray = (xs.toList.take m).toArray := by
  have e : (fun (k : Nat) => xs[((0 : Int) + (k : Int) * 1).toNat]?) = fun k => xs[0 + k]? := by
    funext k
    have : ((0 : Int) + (k : Int) * 1).toNat = 0 + k := by omega
    rw [this]
  rw [e]
  have := pick_run xs 0 m
  rw [List.filterMap_map, List.drop_zero] at this
  rw [← this]
  rfl

section
variable {prog : Program} {w : World} {A : Around} {E : Value → Shared → Prop} {s : Shared}

theorem sliceApplied_rev {sl : Addr} {n : Nat} {u : Tok} {Q : Int × Int × Nat → Shared → Prop} (hs : s.heap.IsSliceOf sl .none .none (.int (-1) u)) (h : Q ((n : Int) - 1, -1, n) s) :
    wpAny (model prog w) A (Builtin.Slice.sliceApplied (.ref sl) (pure (n : Int))) Q E s := by
  obtain ⟨os, hos, hcs, hds⟩ := id hs
  unfold Builtin.Slice.sliceApplied Builtin.Slice.sliceFields
  refine wpAny_bind (wpAny_bind (wpAny_field hos hds (x := .none) rfl (wpAny_bind (wpAny_field hos hds (x := .none) rfl (wpAny_bind (wpAny_field hos hds (x := .int (-1) u) rfl (wpAny_pure ?_)))))))
  refine wpAny_bind (slicePart_int ?_)
  show wpAny _ _ (if ((-1 : Int) == 0) = true then _ else _) _ _ s
  rw [if_neg (by decide)]
  refine wpAny_bind (slicePart_none (wpAny_bind (slicePart_none (wpAny_bind (wpAny_pure ?_)))))
  show wpAny _ _ (pure ((n : Int) - 1, (-1 : Int), Builtin.Slice.slicePlaces ((n : Int) - 1) (-1) (-1))) _ _ s
  rw [places_rev]
  exact wpAny_pure h
theorem sliceApplied_take {sl : Addr} {n m : Nat} {u : Tok} {Q : Int × Int × Nat → Shared → Prop} (hs : s.heap.IsSliceOf sl .none (.int m u) .none) (hm : m ≤ n) (h : Q (0, 1, m) s) :
    wpAny (model prog w) A (Builtin.Slice.sliceApplied (.ref sl) (pure (n : Int))) Q E s := by
  obtain ⟨os, hos, hcs, hds⟩ := id hs
  unfold Builtin.Slice.sliceApplied Builtin.Slice.sliceFields
  refine wpAny_bind (wpAny_bind (wpAny_field hos hds (x := .none) rfl (wpAny_bind (wpAny_field hos hds (x := .int m u) rfl (wpAny_bind (wpAny_field hos hds (x := .none) rfl (wpAny_pure ?_)))))))
  refine wpAny_bind (slicePart_none ?_)
  show wpAny _ _ (if ((1 : Int) == 0) = true then _ else _) _ _ s
  rw [if_neg (by decide)]
  refine wpAny_bind (slicePart_none (wpAny_bind (slicePart_int (wpAny_bind (wpAny_pure ?_)))))
  show wpAny _ _ (match Builtin.Slice.sliceAdjust none (some (m : Int)) 1 (n : Int) with | (lo, hi) => pure (lo, (1 : Int), Builtin.Slice.slicePlaces lo hi 1)) _ _ s
  have e : Builtin.Slice.sliceAdjust none (some (m : Int)) 1 (n : Int) = (0, (m : Int)) := by
    unfold Builtin.Slice.sliceAdjust
    have h1 : ¬ ((1 : Int) < 0) := by omega
    have h2 : ¬ ((m : Int) < 0) := by omega
    simp only [h1, h2, if_false]
    congr 1
    omega
  rw [e]
  show wpAny _ _ (pure ((0 : Int), (1 : Int), Builtin.Slice.slicePlaces 0 (m : Int) 1)) _ _ s
  rw [places_take]
  exact wpAny_pure h

theorem getItem_tuple_rev {t sl : Addr} {items : Array Value} {u : Tok} {Q : Value → Shared → Prop} (ht : IsTup s.heap t items) (hs : s.heap.IsSliceOf sl .none .none (.int (-1) u))
    (h : Q (.ref s.heap.objs.size) { s with heap := s.heap.push { cls := .type "tuple", data := .seq items.toList.reverse.toArray } }) (hsz : items.size ≤ sizeLine) :
    wpAny (model prog w) A (getItem (.ref t) (.ref sl)) Q E s := by
  have hok : sizeOk (.seq items.toList.reverse.toArray) := by
    show items.toList.reverse.toArray.size ≤ sizeLine
    simpa using hsz
  obtain ⟨os, hos, hcs, hds⟩ := id hs
  have hTs : s.TypeIs (.ref sl) "slice" := ⟨os, hos, hcs⟩
  unfold getItem
  try with_reducible refine wpAny_holding ?_
  first | refine wpAny_bind (wpAny_pure ?_) | skip
  refine wpAny_bind (wpAny_sequenceKey ht.typeIs (by decide) ?_)
  refine wpAny_bind (wpAny_callSpecial?_slot (name := Str.ofString "__getitem__") ht.typeIs F.slot_tuple_getitem
    (wpAny_call_entry F.slot_tuple_getitem ht.typeIs F.entry_tuple_getitem ?_ (F.args_tuple_getitem_2 _ _)))
  show wpAny _ _ (Builtin.Tuple.tupleItemsOf (.ref t) >>= _) _ _ s
  refine wpAny_bind (tupleItemsOf_ ht ?_)
  refine wpAny_bind (wpAny_typeOf hTs ?_)
  rw [if_pos (by decide)]
  refine wpAny_bind (sliceApplied_rev (n := items.size) hs ?_)
  have hno : ¬ ((((items.size : Int) - 1) == 0 && (-1 : Int) == 1 && items.size == items.size) = true) := by simp
  show wpAny _ _ (if (((items.size : Int) - 1) == 0 && (-1 : Int) == 1 && items.size == items.size) = true then _ else _) _ _ s
  rw [if_neg hno, pick_rev]
  first
    | exact wpAny_bind (m := Builtin.Tuple.tupleExact _) (wpAny_newObj_type (wpAny_pure ⟨_, rfl, wpAny_pure h⟩) hok)
    | exact wpAny_bind (m := Builtin.Tuple.tupleExact _) (wpAny_newObj_type (wpAny_bind (wpAny_pure (wpAny_pure ⟨_, rfl, wpAny_pure h⟩))) hok)
    | exact wpAny_bind (wpAny_bind (m := Builtin.Tuple.tupleExact _) (wpAny_newObj_type (wpAny_pure (wpAny_pure ⟨_, rfl, wpAny_pure h⟩)) hok))
    | exact wpAny_bind (wpAny_bind (m := Builtin.Tuple.tupleExact _) (wpAny_newObj_type (wpAny_pure ⟨_, rfl, wpAny_pure h⟩) hok))

/-- t[:m]: a tuple of the first m items, t itself where these are all -/
theorem getItem_tuple_take {t sl : Addr} {items : Array Value} {m : Nat} {u : Tok} {Q : Value → Shared → Prop} (ht : IsTup s.heap t items) (hs : s.heap.IsSliceOf sl .none (.int m u) .none) (hm : m ≤ items.size)
    (h : ∀ (b : Nat) h', (∀ c o, s.heap.get? c = some o → h'.get? c = some o) → h'.IsTuple b (items.toList.take m).toArray → (b = t ∨ b = s.heap.objs.size) → s.heap.objs.size ≤ h'.objs.size → Q (.ref b) { s with heap := h' }) (hsz : items.size ≤ sizeLine) :
    wpAny (model prog w) A (getItem (.ref t) (.ref sl)) Q E s := by
  have hok : sizeOk (.seq (items.toList.take m).toArray) := by
    show (items.toList.take m).toArray.size ≤ sizeLine
    simp; omega
  obtain ⟨os, hos, hcs, hds⟩ := id hs
  have hTs : s.TypeIs (.ref sl) "slice" := ⟨os, hos, hcs⟩
  unfold getItem
  try with_reducible refine wpAny_holding ?_
  first | refine wpAny_bind (wpAny_pure ?_) | skip
  refine wpAny_bind (wpAny_sequenceKey ht.typeIs (by decide) ?_)
  refine wpAny_bind (wpAny_callSpecial?_slot (name := Str.ofString "__getitem__") ht.typeIs F.slot_tuple_getitem
    (wpAny_call_entry F.slot_tuple_getitem ht.typeIs F.entry_tuple_getitem ?_ (F.args_tuple_getitem_2 _ _)))
  show wpAny _ _ (Builtin.Tuple.tupleItemsOf (.ref t) >>= _) _ _ s
  refine wpAny_bind (tupleItemsOf_ ht ?_)
  refine wpAny_bind (wpAny_typeOf hTs ?_)
  rw [if_pos (by decide)]
  refine wpAny_bind (sliceApplied_take (n := items.size) hs hm ?_)
  show wpAny _ _ (if ((0 : Int) == 0 && (1 : Int) == 1 && m == items.size) = true then _ else _) _ _ s
  have hnew : Q (.ref s.heap.objs.size) { s with heap := s.heap.push { cls := .type "tuple", data := .seq (items.toList.take m).toArray } } :=
    h s.heap.objs.size _ (fun _ _ e => Heap.get?_push_of_some _ e) ⟨_, Heap.get?_push_size _ rfl, rfl, _, rfl⟩ (.inr rfl) (by simp)
  by_cases hc : m = items.size
  · subst hc
    rw [if_pos (by simp)]
    have e : (items.toList.take items.size).toArray = items := by
      rw [List.take_of_length_le (by simp)]
    rw [e] at h
    unfold Builtin.Tuple.tupleIsExact
    refine wpAny_bind (wpAny_bind (wpAny_typeOf ht.typeIs (wpAny_pure ?_)))
    rw [if_pos (by decide)]
    refine wpAny_bind (wpAny_rule ?_)
    have hq := h t s.heap (fun _ _ e => e) ht (.inl rfl) (Nat.le_refl _)
    first
      | exact wpAny_pure ⟨_, rfl, wpAny_pure hq⟩
      | exact wpAny_bind (wpAny_pure (wpAny_pure ⟨_, rfl, wpAny_pure hq⟩))
      | exact wpAny_bind (wpAny_pure ⟨_, rfl, wpAny_pure hq⟩)
  · rw [if_neg (by simp [hc]), pick_take]
    first
      | exact wpAny_bind (m := Builtin.Tuple.tupleExact _) (wpAny_newObj_type (wpAny_pure ⟨_, rfl, wpAny_pure hnew⟩) hok)
      | exact wpAny_bind (m := Builtin.Tuple.tupleExact _) (wpAny_newObj_type (wpAny_bind (wpAny_pure (wpAny_pure ⟨_, rfl, wpAny_pure hnew⟩))) hok)
      | exact wpAny_bind (wpAny_bind (m := Builtin.Tuple.tupleExact _) (wpAny_newObj_type (wpAny_pure (wpAny_pure ⟨_, rfl, wpAny_pure hnew⟩)) hok))
      | exact wpAny_bind (wpAny_bind (m := Builtin.Tuple.tupleExact _) (wpAny_newObj_type (wpAny_pure ⟨_, rfl, wpAny_pure hnew⟩) hok))

/-- x[::-1] of a tuple -/
theorem Subscript_rev {env : Env} {value : Expr} {k : Nat} {p0 p1 p2 pos : Pos} {Q : Value → Shared → Prop}
    (h : wpAny (model prog w) A (eval value env) (fun v s₁ => ∃ (t : Nat) (items : Array Value), v = .ref t ∧ s₁.heap.IsTuple t items ∧ items.size ≤ 100000 ∧
      ∀ (b : Nat) h' tk, Keep s₁.heap h' → h'.IsTuple b items.toList.reverse.toArray → s₁.heap.objs.size ≤ b → s₁.heap.objs.size ≤ h'.objs.size → Q (.ref b) (at_ s₁ h' tk)) E s)
    (ht : ∀ o r, letTemporaryGo value o r = pure () := by intro _ _; rfl) :
    wpAny (model prog w) A (eval (.Subscript value (.Slice none none (some (.UnaryOp .USub (.Constant (.int 1) k p0) p1)) p2) pos) env) Q E s := by
  refine wpAny_Subscript_Slice_step (T := "tuple") F.slot_tuple_getitem.lookup (wpAny_mono h (fun v s₁ h₁ => wpAny_Slice ?_) fun _ _ e => e) ht
  obtain ⟨t, items, rfl, hti, hsz, hQ⟩ := h₁
  rw [evalPart_none, evalPart_some]
  refine wpAny_pure (wpAny_pure (wpAny_UnaryOp (wpAny_Constant_int (neg_int ?_))))
  have ht' : IsTup (s₁.heap.push { cls := .type "slice", data := .fields #[.none, .none, .int (-1) (s₁.toks + 1)] }) t items := IsTup.push hti _
  refine ⟨ht'.typeIs, getItem_tuple_rev ht' (Heap.IsSliceOf.new ..) ?_ (Nat.le_trans hsz (by decide))⟩
  refine hQ _ _ _ (fun b o e => Heap.get?_push_of_some _ (Heap.get?_push_of_some _ e)) ⟨_, Heap.get?_push_size _ rfl, rfl, _, rfl⟩ (by simp) (by simp; omega)

/-- x[:m] of a tuple -/
theorem Subscript_take {env : Env} {value upper : Expr} {p2 pos : Pos} {Q : Value → Shared → Prop}
    (h : wpAny (model prog w) A (eval value env) (fun v s₁ => wpAny (model prog w) A (eval upper env) (fun vu s₂ => ∃ (t : Nat) (items : Array Value) (m : Nat) (u : Tok), v = .ref t ∧ vu = .int (m : Nat) u ∧ s₂.heap.IsTuple t items ∧ items.size ≤ 100000 ∧ m ≤ items.size ∧
      ∀ (b : Nat) h' tk, Keep s₂.heap h' → h'.IsTuple b (items.toList.take m).toArray → (b = t ∨ s₂.heap.objs.size ≤ b) → s₂.heap.objs.size ≤ h'.objs.size → Q (.ref b) (at_ s₂ h' tk)) E s₁) E s)
    (ht : ∀ o r, letTemporaryGo value o r = pure () := by intro _ _; rfl) :
    wpAny (model prog w) A (eval (.Subscript value (.Slice none (some upper) none p2) pos) env) Q E s := by
  refine wpAny_Subscript_Slice (T := "tuple") F.slot_tuple_getitem.lookup (wpAny_mono h (fun v s₁ h₁ => wpAny_Slice ?_) fun _ _ e => e) ht
  rw [evalPart_none, evalPart_some]
  refine wpAny_pure (wpAny_mono h₁ (fun vu s₂ h₂ => wpAny_pure ?_) fun _ _ e => e)
  obtain ⟨t, items, m, u, rfl, rfl, hti, hsz, hm, hQ⟩ := h₂
  have ht' : IsTup (s₂.heap.push { cls := .type "slice", data := .fields #[.none, .int m u, .none] }) t items := IsTup.push hti _
  refine ⟨ht'.typeIs, getItem_tuple_take ht' (Heap.IsSliceOf.new ..) hm (fun b h' hk hb hw hz => ?_) (Nat.le_trans hsz (by decide))⟩
  have hz' : s₂.heap.objs.size + 1 ≤ h'.objs.size := by simpa using hz
  refine hQ b h' _ (fun c o e => hk _ _ (Heap.get?_push_of_some _ e)) hb ?_ (by omega)
  rcases hw with hw | hw
  · exact .inl hw
  · right
    have : b = s₂.heap.objs.size + 1 := by simpa using hw
    omega

theorem add_tups {t b : Nat} {vs ws : List Value} {Q : Value → Shared → Prop} (ht : s.heap.IsTuple t vs.toArray) (hb : s.heap.IsTuple b ws.toArray) (hv : vs ≠ []) (hw : ws ≠ [])
    (h : ∀ h', Keep s.heap h' → h'.IsTuple s.heap.objs.size (vs ++ ws).toArray → s.heap.objs.size ≤ h'.objs.size → Q (.ref s.heap.objs.size) { s with heap := h' }) (hsz : vs.length + ws.length ≤ 100000) :
    wpAny (model prog w) A (binaryOp .Add (.ref t) (.ref b)) Q E s := by
  obtain ⟨⟨cls, dd, data, sl⟩, ho, hc, n, hd⟩ := id ht
  obtain ⟨⟨cls2, dd2, data2, sl2⟩, ho2, hc2, n2, hd2⟩ := id hb
  simp only at hc hd hc2 hd2
  subst hc hd hc2 hd2
  have e : vs.toArray ++ ws.toArray = (vs ++ ws).toArray := by simp
  refine concat_meets ⟨_, ho, rfl⟩ ⟨_, ho2, rfl⟩ noFill_tuple_add seq_tuple_add F.slot_tuple_add F.entry_tuple_add (F.args_tuple_add_2 _ _)
    (tuple_addW2 t b vs.toArray ws.toArray n n2 dd dd2 sl sl2 (by simpa using hv) (by simpa using hw) (by rw [List.size_toArray, List.size_toArray]; exact Nat.le_trans hsz (by decide))) ⟨ho, ho2, ?_⟩
  rw [e]
  exact h _ (fun _ _ e => Heap.get?_push_of_some _ e) ⟨_, Heap.get?_push_size _ rfl, rfl, _, rfl⟩ (by simp)
end
end Mine
end

section
open PySem PySem.W PyProof.Rows PySem.Calls
namespace Mine

def doS : Stmt := (fBody (stm 3)).getD 0 (.Pass ⟨0, 0, 0, 0⟩)
def doQual : Str := (fName (stm 3) ++ ".<locals>.") ++ fName doS
/-- the data of the def that _law_doing makes -/
def doFd (cs cb : Nat) (doc pmv ctv : Value) (c' : Nat) : FuncData := fnX (fName doS) doQual (fArgs doS) (fBody doS) (fScope doS) [("seen", cs), ("bad", cb)] .none .none doc pmv none (.ref c') ctv

theorem RdAll.reverse {h : Heap} : ∀ {vs : List Value} {ds : List PyData}, RdAll h vs ds → RdAll h vs.reverse ds.reverse
  | [], _, x => by rw [x.nil_inv]; exact .nil
  | _ :: _, _, x => by
    obtain ⟨e, es, rfl, r, x'⟩ := x.cons_inv
    rw [List.reverse_cons, List.reverse_cons]
    exact RdAll.append (RdAll.reverse x') (.one r)
structure DoingAt (h : Heap) (f sa : Nat) (bad : Int) : Prop where
  ex : ∃ (cs cb : Nat) (t : Tok) (c' : Nat) (doc pmv ctv : Value), h.get? f = some { cls := .type "function", data := .func (doFd cs cb doc pmv ctv c') } ∧
    h.IsCell cs (some (.ref sa)) ∧ h.IsCell cb (some (.int bad t)) ∧ h.CodeRec (.ref c') doQual
theorem DoingAt.keepBut {h h' : Heap} {f sa : Nat} {bad : Int} {xs : Array Value} (x : DoingAt h f sa bad) (hs : h.IsList sa xs) (k : KeepBut (fun b => b = sa) h h') : DoingAt h' f sa bad := by
  obtain ⟨cs, cb, t, c', doc, pmv, ctv, e1, ⟨o2, e2, d2⟩, ⟨o3, e3, d3⟩, ⟨c₂, o4, vs, tq, q4, e4, d4, r4⟩⟩ := x.ex
  obtain ⟨o, ho, _, n, hd⟩ := hs
  refine ⟨cs, cb, t, c', doc, pmv, ctv, k _ _ (fun q => ?_) e1, ⟨o2, k _ _ (fun q => ?_) e2, d2⟩, ⟨o3, k _ _ (fun q => ?_) e3, d3⟩, ⟨c₂, o4, vs, tq, q4, k _ _ (fun q => ?_) e4, d4, r4⟩⟩
  · rw [q, ho] at e1; cases e1; cases hd
  · rw [q, ho] at e2; cases e2; rw [hd] at d2; cases d2
  · rw [q, ho] at e3; cases e3; rw [hd] at d3; cases d3
  · rw [q, ho] at e4; cases e4; rw [hd] at d4; cases d4

theorem Base.keepBut {pm pl : Value} {mg mb : Str → Option Value} {h h' : Heap} {sa : Nat} {xs : Array Value} (x : Base pm pl mg mb h) (hs : h.IsList sa xs) (k : KeepBut (fun b => b = sa) h h') : Base pm pl mg mb h' := by
  obtain ⟨o, ho, _, n, hd⟩ := hs
  have ns : ∀ {a m}, h.Ns a m → h'.Ns a m := fun ⟨o', es, ep, e, d, r⟩ => ⟨o', es, ep, k _ _ (fun q => by rw [q, ho] at e; cases e; rw [hd] at d; cases d) e, d, r⟩
  have fn : ∀ {k a c pm}, FnIn h k a c pm → FnIn h' k a c pm := fun y => by
    obtain ⟨⟨o', e, d⟩, ⟨c₂, o4, vs, tq, q4, e4, d4, r4⟩⟩ := y
    exact ⟨⟨o', k _ _ (fun q => by rw [q, ho] at e; cases e; rw [hd] at d; cases d) e, d⟩, ⟨c₂, o4, vs, tq, q4, k _ _ (fun q => by rw [q, ho] at e4; cases e4; rw [hd] at d4; cases d4) e4, d4, r4⟩⟩
  refine ⟨ns x.g, ns x.b, let ⟨mc, a, b⟩ := x.lim; ⟨mc, ns a, b⟩, fn x.mapstar, fn x.doing, fn x.row, fn x.outcome, fn x.right, fn x.refused, ?_, ?_⟩
  · obtain ⟨o', vs, file, tf, flags, tg, inF, text, tt, e, c1, d, r⟩ := x.hd27
    exact ⟨o', vs, file, tf, flags, tg, inF, text, tt, k _ _ (fun q => by rw [q, ho] at e; cases e; rw [hd] at d; cases d) e, c1, d, r⟩
  · obtain ⟨bm, o', a, b, c, d, e, f, g, r⟩ := x.bat
    exact ⟨bm, o', a, b, c, d, k _ _ (fun q => by rw [q, ho] at e; cases e; rw [hd] at r; cases r) e, f, g, r⟩

section
variable {prog : Program} {w : World} {A : Around} {E : Value → Shared → Prop} {s : Shared} {pm pl : Value} {mg mb : Str → Option Value} {R : Result → Shared → Prop}

theorem ldF {env : Env} {x : Str} {pos : Pos} {c : Nat} {v : Value} {Q : Value → Shared → Prop} (hc : env.cells.lookup x = some c) (hv : s.heap.IsCell c (some v)) (h : Q v s)
    (hk : env.scope.kind = .function) (hx : env.kindOf x = some .free) (hn : (x == ("__classdict__" : Str)) = false) (hd : (x == ("__debug__" : Str)) = false) : wpAny (model prog w) A (eval (.Name x pos) env) Q E s :=
  wpAny_Name (wpAny_loadName_free hk hx hc hv h hn) hd

theorem evalArgs_one {env : Env} {f : Value} {e : Expr} {pos : Pos} {Q : Args → Shared → Prop} (h : wpAny (model prog w) A (eval e env) (fun v s₁ => Q ⟨[v], []⟩ s₁) E s)
    (he : starEach [e] env = [(false, eval e env)] := by rfl) : wpAny (model prog w) A (evalArgs f true (backTo pos (starEach [e] env)) []) Q E s := by
  rw [he]
  exact evalArgs_plain (spliced_cons (wpAny_mono h (fun v s₁ h₁ => spliced_nil h₁) fun _ _ x => x))
theorem doing_cell {cs cb : Nat} {doc pmv ctv : Value} {c' : Nat} : ∀ x ∈ (doFd cs cb doc pmv ctv c').scope.names, x.2 ≠ .cell := by
  show ∀ x ∈ (fScope doS).names, x.2 ≠ .cell
  decide

theorem doing_call {f sa : Nat} {args : List Value} {rs : List Int} {xs : Array Value} {bad : Int} (N : Names mg mb) (B : Base pm pl mg mb s.heap) (D : DoingAt s.heap f sa bad) (hS : PlainL s.heap sa xs)
    (hI : Ints args rs) (fit1 : xs.size ≤ 100000) (fit2 : args.length ≤ 100000) (fit3 : bad.natAbs.log2 < 1920) (rm : Room A 2 5)
    (hok : ∀ v h₁ tk (r : Nat), (xs.size : Int) + 1 ≠ bad → PlainL h₁ sa (xs.push (.ref r)) → Rd (top s.heap.objs.size h₁) (.ref r) (tupD rs) → Rd (top s.heap.objs.size h₁) v (.tuple [.int rs.length, tupD rs.reverse]) →
      KeepBut (fun b => b = sa) s.heap h₁ → s.heap.objs.size ≤ h₁.objs.size → R (.ok (.ret v)) (at_ s h₁ tk))
    (hbad : ∀ h₁ h₂ tk (e r L : Nat) m fd t, (xs.size : Int) + 1 = bad → PlainL h₁ sa (xs.push (.ref r)) → Rd (top s.heap.objs.size h₁) (.ref r) (tupD rs) →
      KeepBut (fun b => b = sa) s.heap h₁ → h₁.Ns L m → s.heap.objs.size ≤ L → s.heap.objs.size ≤ h₁.objs.size → Heap.MadeExcOf h₁ h₂ e (.type "ValueError") [.str (toString bad) t] → (envN fd L f).scope.kind = .function →
      wpAny (model prog w) (A.deeper (envN fd L f)) (leaving (envN fd L f) (.ref e)) (fun _ s'' => R (.error (.ref e)) s'') (fun e' s'' => R (.error e') s'') (at_ s h₂ tk)) :
    codeAny (model prog w) A (.call (.ref f) ⟨args, []⟩) R s := by
  obtain ⟨cs, cb, t, c', doc, pmv, ctv, e1, e2, e3, e4⟩ := D.ex
  refine call_star (fd := doFd cs cb doc pmv ctv c') (n := "row") (body := fBody doS) (by have := rm.depth; omega) e1 rfl B.lim e4 rfl ⟨_, _, rfl⟩ rfl doing_cell rfl fit2 (fun h₁ tk hns ht hk hz => ?_) rfl rfl rfl
  have B₁ := B.keep hk
  have hS₁ : PlainL h₁ sa xs := hS.keeps hk
  refine wpAny_execs_cons (wpAny_Expr ?_ rfl rfl)
  refine wpAny_Call_append rfl rfl rfl rfl ?_
  refine ldF (s := at_ s h₁ tk) (c := cs) rfl (e2.keeps hk) ⟨sa, xs, rfl, hS₁, ?_⟩ rfl rfl (by decide) (by decide)
  refine ldL (s := at_ s h₁ tk) hns (v := .ref s.heap.objs.size) rfl ?_ rfl rfl (by decide)
  refine list_append_plainL (s := at_ s h₁ tk) hS₁ (fun h₂ hS₂ hsb => ?_) (Nat.le_trans fit1 (by decide))
  have hsal : sa < s.heap.objs.size := hS.lt
  have hk₂ : KeepBut (fun b => b = sa) s.heap h₂ := fun b o hb e => hsb.extBut b o hb (hk b o e)
  have D₂ : DoingAt h₂ f sa bad := D.keepBut hS.isList hk₂
  have hns₂ := hns.sameBut hsb (show s.heap.objs.size + 1 ≠ sa by omega)
  have ht₂ : h₂.IsTuple s.heap.objs.size args.toArray := ht.extBut hsb.extBut (show s.heap.objs.size ≠ sa by omega)
  have hz₂ : h₂.objs.size = s.heap.objs.size + 2 := hsb.1.trans hz
  have e2' : h₂.IsCell cs (some (.ref sa)) := by
    obtain ⟨o, ho, hd⟩ := e2
    refine ⟨o, hk₂ _ _ (fun q => ?_) ho, hd⟩
    obtain ⟨o', _, ho', _, _, hd'⟩ := hS
    rw [q, ho'] at ho; cases ho; rw [hd'] at hd; cases hd
  have e3' : h₂.IsCell cb (some (.int bad t)) := by
    obtain ⟨o, ho, hd⟩ := e3
    refine ⟨o, hk₂ _ _ (fun q => ?_) ho, hd⟩
    obtain ⟨o', _, ho', _, _, hd'⟩ := hS
    rw [q, ho'] at ho; cases ho; rw [hd'] at hd; cases hd
  have B₂ : Base pm pl mg mb h₂ := B.keepBut hS.isList hk₂
  have hrow : Rd (top s.heap.objs.size h₂) (.ref s.heap.objs.size) (tupD rs) := Rd.ofTuple (top_tuple ht₂ (Nat.le_refl _)) (by simpa using hI.rd _)
  have hfit : (((xs.push (.ref s.heap.objs.size)).size : Nat) : Int) < 2 ^ 63 := by
    simp only [Array.size_push]; omega
  dsimp only
  refine wpAny_execs_cons (wpAny_If (wpAny_isTrue_Compare1 ?_))
  refine wpAny_Call_NameR (ldB (s := at_ s h₂ tk) B₂ (N.no _ (by decide)) N.len ?_ rfl rfl rfl rfl (by decide))
  refine callWith_builtin1 (args_cons ?_)
  refine ldF (s := at_ s h₂ tk) (c := cs) rfl e2' (args_nil ?_) rfl rfl (by decide) (by decide)
  refine call_len_list (s := at_ s h₂ tk) hS₂.isList hfit ?_
  refine ldF (s := at_ s h₂ (tk + 1 + 1)) (c := cb) rfl e3' ?_ rfl rfl (by decide) (by decide)
  refine eq_int (wpAny_truthy_bool ?_)
  have hsz : (((xs.push (.ref s.heap.objs.size)).size : Nat) : Int) = xs.size + 1 := by simp
  rw [hsz]
  by_cases hb : (xs.size : Int) + 1 = bad
  · have hb' : ((xs.size : Int) + 1 == bad) = true := by simpa using hb
    rw [hb', if_pos rfl]
    have rm' : Room (A.deeper (envN (doFd cs cb doc pmv ctv c') (s.heap.objs.size + 1) f)) 1 2 := rm.deeper
    refine wpAny_execs_cons (wpAny_Raise_call F.excCall_ValueError F.excRaise_ValueError rm'.hh rfl ?_)
    refine ldB (s := at_ s h₂ (tk + 1 + 1)) B₂ (N.no _ (by decide)) N.value ⟨rfl, ?_⟩ rfl rfl rfl rfl (by decide)
    refine evalArgs_one ?_
    refine wpAny_Call_NameR (ldB (s := at_ s h₂ (tk + 1 + 1)) B₂ (N.no _ (by decide)) N.str ?_ rfl rfl rfl rfl (by decide))
    refine callWith_type1 (args_cons ?_)
    refine ldF (s := at_ s h₂ (tk + 1 + 1)) (c := cb) rfl e3' (args_nil ?_) rfl rfl (by decide) (by decide)
    refine P.str_of_int fit3 ?_
    refine ⟨rfl, by simp [sizeLine], fun h' e hm => ?_⟩
    exact hbad h₂ h' _ e s.heap.objs.size (s.heap.objs.size + 1) _ _ _ hb hS₂ hrow hk₂ hns₂ (by omega) (by omega) hm.of rfl
  · have hb' : ((xs.size : Int) + 1 == bad) = false := by simpa using hb
    rw [hb', if_neg Bool.false_ne_true]
    refine wpAny_execs_nil ?_
    dsimp only
    refine wpAny_execs_cons (wpAny_Return_some (wpAny_Tuple_spliced (args_cons ?_)))
    refine wpAny_Call_NameR (ldB (s := at_ s h₂ (tk + 1 + 1)) B₂ (N.no _ (by decide)) N.len ?_ rfl rfl rfl rfl (by decide))
    refine callWith_builtin1 (args_cons ?_)
    refine ldL (s := at_ s h₂ (tk + 1 + 1)) hns₂ (v := .ref s.heap.objs.size) rfl (args_nil ?_) rfl rfl (by decide)
    refine len_tuple (s := at_ s h₂ (tk + 1 + 1)) ht₂ (by simp; omega) (args_cons ?_)
    refine Subscript_rev ?_
    refine ldL (s := at_ s h₂ (tk + 1 + 1 + 1 + 1)) hns₂ (v := .ref s.heap.objs.size) rfl ⟨s.heap.objs.size, _, rfl, ht₂, by simpa using fit2, fun b h₃ tk₃ hk₃ hb₃ hlo hz₃ => args_nil ⟨(by simp [sizeLine]), ?_⟩⟩ rfl rfl (by decide)
    have hlo' : h₂.objs.size ≤ b := hlo
    have hz₃' : h₂.objs.size ≤ h₃.objs.size := hz₃
    have hlen : (args.toArray.size : Int) = rs.length := by simp [hI.length]
    refine hok _ _ _ s.heap.objs.size hb ((hS₂.keeps hk₃).keeps fun b o e => Heap.get?_push_of_some _ e) (Rd.keep hrow (top_keep fun b o _ e => Heap.get?_push_of_some _ (hk₃ b o e))) ?_
      (fun b o hb e => Heap.get?_push_of_some _ (hk₃ b o (hk₂ b o hb e))) (by simp; omega)
    rw [hlen]
    refine Rd.tuple (n := 0) (top_get (Heap.get?_push_size _ rfl) (show s.heap.objs.size ≤ h₃.objs.size by omega)) rfl rfl (.cons .int (.one ?_))
    refine Rd.ofTuple (xs := args.reverse.toArray) (top_tuple ?_ (show s.heap.objs.size ≤ b by omega)) ?_
    · exact Heap.IsTuple.push (by simpa using hb₃) _
    · have hr : RdAll (top s.heap.objs.size (h₃.push { cls := .type "tuple", data := .seq #[.int rs.length (tk + 1 + 1 + 1), .ref b] })) args.reverse (rs.map PyData.int).reverse := RdAll.reverse (hI.rd _)
      simpa using hr
end
end Mine
end

section
open PySem PySem.W PyProof.Rows PySem.Calls
namespace Mine

def fPos : Stmt → Pos
  | .FunctionDef _ _ _ _ _ _ _ _ _ p => p
  | _ => ⟨0, 0, 0, 0⟩

/-- the table of the code objects that _law_doing has made: none, or the one of doing -/
structure TabOK (h : Heap) : Prop where
  ex : ∃ ps, h.get? 23 = some (tabObj ps) ∧ (ps = #[] ∨ ∃ c' : Nat, c' ≠ 23 ∧ ps = #[rawInt (fPos doS).line, rawInt (fPos doS).col, .ref c'] ∧ h.CodeRec (.ref c') doQual)
theorem TabOK.keep {h h' : Heap} (x : TabOK h) (k : Keep h h') : TabOK h' := by
  obtain ⟨ps, e, r⟩ := x.ex
  refine ⟨ps, k _ _ e, r.imp id fun ⟨c', a, b, c⟩ => ⟨c', a, b, c.keeps k⟩⟩
theorem TabOK.lt {h : Heap} (x : TabOK h) : 23 < h.objs.size := let ⟨_, e, _⟩ := x.ex; ltS e
theorem TabOK.keepBut {h h' : Heap} {sa : Nat} {xs : Array Value} (x : TabOK h) (hs : h.IsList sa xs) (k : KeepBut (fun b => b = sa) h h') : TabOK h' := by
  obtain ⟨o, ho, _, n, hd⟩ := hs
  obtain ⟨ps, e, r⟩ := x.ex
  refine ⟨ps, k _ _ (fun q => by rw [q, ho] at e; cases e; cases hd) e, r.imp id fun ⟨c', a, b, ⟨c₂, o4, vs, tq, q4, e4, d4, r4⟩⟩ => ⟨c', a, b, ⟨c₂, o4, vs, tq, q4, k _ _ (fun q => by rw [q, ho] at e4; cases e4; rw [hd] at d4; cases d4) e4, d4, r4⟩⟩⟩

theorem Base.keep23 {pm pl : Value} {mg mb : Str → Option Value} {h h' : Heap} (x : Base pm pl mg mb h) (T : TabOK h) (k : KeepBut (fun b => b = 23) h h') : Base pm pl mg mb h' := by
  obtain ⟨ps, ho, _⟩ := T.ex
  have ns : ∀ {a m}, h.Ns a m → h'.Ns a m := fun ⟨o', es, ep, e, d, r⟩ => ⟨o', es, ep, k _ _ (fun q => by rw [q, ho] at e; cases e; cases d) e, d, r⟩
  have fn : ∀ {k a c pm}, c ≠ 23 → FnIn h k a c pm → FnIn h' k a c pm := fun {k' a c pm'} hc y => by
    obtain ⟨⟨o', e, d⟩, ⟨c₂, o4, vs, tq, q4, e4, d4, r4⟩⟩ := y
    exact ⟨⟨o', k _ _ (fun q => by rw [q, ho] at e; cases e; cases d) e, d⟩, ⟨c₂, o4, vs, tq, q4, k _ _ (fun q => by cases q4; exact hc q) e4, d4, r4⟩⟩
  refine ⟨ns x.g, ns x.b, let ⟨mc, a, b⟩ := x.lim; ⟨mc, ns a, b⟩, fn (by decide) x.mapstar, fn (by decide) x.doing, fn (by decide) x.row, fn (by decide) x.outcome, fn (by decide) x.right, fn (by decide) x.refused, ?_, ?_⟩
  · obtain ⟨o', vs, file, tf, flags, tg, inF, text, tt, e, c1, d, r⟩ := x.hd27
    exact ⟨o', vs, file, tf, flags, tg, inF, text, tt, k _ _ (by decide) e, c1, d, r⟩
  · obtain ⟨bm, o', a, b, c, d, e, r⟩ := x.bat
    exact ⟨bm, o', a, b, c, d, k _ _ d e, r⟩

section
variable {prog : Program} {w : World} {A : Around} {E : Value → Shared → Prop} {s : Shared} {pm pl : Value} {mg mb : Str → Option Value} {R : Result → Shared → Prop}

abbrev ldF' (pl : Value) : FuncData := fdOf 3 27 pl

theorem ld_bind (pl : Value) (v u : Value) : bindArgs (ldF' pl) ⟨[v, u], []⟩ = pure [(("seen" : Str), v), (("bad" : Str), u)] := by
  rfl

theorem law_doing_call {sa : Nat} {bad : Int} {t : Tok} (B : Base pm pl mg mb s.heap) (T : TabOK s.heap) (hroom : A.depth < recursionLimit)
    (h : ∀ h₁ tk (f : Nat), DoingAt h₁ f sa bad → KeepBut (fun b => b = 23) s.heap h₁ → TabOK h₁ → s.heap.objs.size ≤ f → s.heap.objs.size ≤ h₁.objs.size → R (.ok (.ret (.ref f))) (at_ s h₁ tk)) :
    codeAny (model prog w) A (.call (.ref 28) ⟨[.ref sa, .int bad t], []⟩) R s := by
  obtain ⟨o, ho, hd⟩ := B.doing.fn
  refine codeAny_call_cells (fd := ldF' pl) (body := fBody (stm 3)) hroom ho hd B.lim B.doing.code rfl (ld_bind pl _ _) rfl ?_ (fun s₁ X => ?_) rfl rfl rfl
  · intro x hx
    rcases List.mem_cons.mp hx with rfl | hx
    · exact .inr ⟨rfl, rfl⟩
    · rw [List.mem_singleton.mp hx]; exact .inr ⟨rfl, rfl⟩
  obtain ⟨h₁, tk, rfl, hk⟩ := X.done
  have hns : h₁.Ns s.heap.objs.size _ := X.toInCall.ns
  have hcs : h₁.IsCell (s.heap.objs.size + 1) (some (.ref sa)) := X.cell "seen" _ rfl
  have hcb : h₁.IsCell (s.heap.objs.size + 1 + 1) (some (.int bad t)) := X.cell "bad" _ rfl
  have B₁ := B.keep hk
  have T₁ := T.keep hk
  obtain ⟨ps, e23, hps⟩ := T₁.ex
  have h23 : 23 < s.heap.objs.size := T.lt
  refine wpAny_execs_cons (nestDef_K rfl rfl rfl ?_)
  have fin : ∀ (c' : Nat) ctv doc h' tk', KeepBut (fun b => b = 23) h₁ h' → h'.CodeRec (.ref c') doQual → TabOK h' → h₁.objs.size ≤ h'.objs.size →
      wpAny (model prog w) (A.deeper (callEnvC (ldF' pl) s.heap.objs.size 28)) (storeName (callEnvC (ldF' pl) s.heap.objs.size 28) "doing" (.ref h'.objs.size))
        (fun _ s'' => wpAny (model prog w) (A.deeper (callEnvC (ldF' pl) s.heap.objs.size 28)) (execs ((fBody (stm 3)).drop 1) (callEnvC (ldF' pl) s.heap.objs.size 28))
          (fun f s' => R (.ok (.ret (match f with | .ret v => v | _ => .none))) s')
          (fun e s' => wpAny (model prog w) (A.deeper (callEnvC (ldF' pl) s.heap.objs.size 28)) (leaving (callEnvC (ldF' pl) s.heap.objs.size 28) e) (fun _ s'' => R (.error e) s'') (fun e' s'' => R (.error e') s'') s') s'')
        (fun e s' => wpAny (model prog w) (A.deeper (callEnvC (ldF' pl) s.heap.objs.size 28)) (leaving (callEnvC (ldF' pl) s.heap.objs.size 28) e) (fun _ s'' => R (.error e) s'') (fun e' s'' => R (.error e') s'') s')
        (at_ s (h'.push (fnMade (fName doS) doQual (fArgs doS) (fBody doS) (fScope doS) [("seen", s.heap.objs.size + 1), ("bad", s.heap.objs.size + 1 + 1)] doc ((mg "__name__").getD .none) c' ctv)) tk') := by
    intro c' ctv doc h' tk' hkb hrec hT hz
    have hns' : h'.Ns s.heap.objs.size _ := hns.at' fun o e => hkb _ _ (show s.heap.objs.size ≠ 23 by omega) e
    have hz0 : s.heap.objs.size < h₁.objs.size := hns.lt
    refine wpAny_storeName_local rfl (hns'.push _) (fun h₂ hns₂ hsb => ?_) rfl
    have K₂ : ∀ (b : Nat) o, b ≠ s.heap.objs.size → h'.get? b = some o → h₂.get? b = some o := fun b o hb e => hsb.extBut b o hb (Heap.get?_push_of_some _ e)
    have hz₂ : h₂.objs.size = h'.objs.size + 1 := by rw [hsb.1]; exact Heap.size_push ..
    refine wpAny_execs_cons (wpAny_Return_some ?_)
    refine ldL (s := at_ s h₂ (tk' + 1)) hns₂ (v := .ref h'.objs.size) rfl ?_ rfl rfl (by decide)
    refine h h₂ _ h'.objs.size ⟨s.heap.objs.size + 1, s.heap.objs.size + 1 + 1, t, c', doc, (mg "__name__").getD .none, ctv, ?_, ?_, ?_, ?_⟩ (fun b o hb e => ?_) ?_ (by omega) (by omega)
    · exact hsb.extBut _ _ (show h'.objs.size ≠ s.heap.objs.size by omega) (Heap.get?_push_size _ rfl)
    · obtain ⟨o, a, b⟩ := hcs
      exact ⟨o, K₂ _ _ (by omega) (hkb _ _ (show s.heap.objs.size + 1 ≠ 23 by omega) a), b⟩
    · obtain ⟨o, a, b⟩ := hcb
      exact ⟨o, K₂ _ _ (by omega) (hkb _ _ (show s.heap.objs.size + 1 + 1 ≠ 23 by omega) a), b⟩
    · obtain ⟨c₂, o4, vs, tq, q4, e4, d4, r4⟩ := hrec
      refine ⟨c₂, o4, vs, tq, q4, K₂ _ _ (fun q => ?_) e4, d4, r4⟩
      obtain ⟨o', es, ep, e', d', _⟩ := hns'
      rw [q, e'] at e4; cases e4; rw [d'] at d4; cases d4
    · exact K₂ _ _ (fun q => by have := ltS e; omega) (hkb _ _ hb (hk b o e))
    · obtain ⟨ps', e', r'⟩ := hT.ex
      refine ⟨ps', K₂ _ _ (by omega) e', r'.imp id fun ⟨c', a, b, ⟨c₂, o4, vs, tq, q4, e4, d4, r4⟩⟩ => ⟨c', a, b, ⟨c₂, o4, vs, tq, q4, K₂ _ _ (fun q => ?_) e4, d4, r4⟩⟩⟩
      obtain ⟨o', es, ep, e', d', _⟩ := hns'
      rw [q, e'] at e4; cases e4; rw [d'] at d4; cases d4
  rcases hps with rfl | ⟨c', hc', rfl, hrec⟩
  · refine makeFunction_K (s := at_ s h₁ tk) (mg := mg) (c := 27) (P := 23) (ps := #[]) (clos := [("seen", s.heap.objs.size + 1), ("bad", s.heap.objs.size + 1 + 1)]) rfl rfl B₁.g rfl B₁.hd27 e23 trivial rfl (by decide) B₁.bat fun c' ctv doc h' tk' hx hge hlt hrec htb => ?_
    have hge' : h₁.objs.size ≤ c' := hge
    have hz0 : s.heap.objs.size < h₁.objs.size := hns.lt
    have hlt' : c' < h'.objs.size := hlt
    exact fin c' ctv doc h' tk' (fun b o hb e => hx b o hb e) hrec ⟨_, htb, .inr ⟨c', (by omega), rfl, hrec⟩⟩ (by omega)
  · refine makeFunction_hit (s := at_ s h₁ tk) (mg := mg) (c := 27) (P := 23) (clos := [("seen", s.heap.objs.size + 1), ("bad", s.heap.objs.size + 1 + 1)]) (cv := .ref c') rfl rfl B₁.g rfl B₁.hd27 e23 (by simp [TriplesOk, rawInt]) (by simp [codeAmong, rawInt]; exact ⟨rfl, rfl⟩) B₁.bat fun ctv doc h' tk' hk' hz' => ?_
    exact fin c' ctv doc h' tk' (fun b o _ e => hk' b o e) (hrec.keeps hk') (T₁.keep hk') hz'
end
end Mine
end

section
open PySem PySem.W PyProof.Rows PySem.Calls
namespace Mine

theorem fresh_hide {h : Heap} {as : List Addr} {b : Addr} (e : h.get? b = none) : (hideAll h as).get? b = none := by
  cases q : (hideAll h as).get? b with
  | none => rfl
  | some o => have := of_hideAll _ q; rw [e] at this; cases this

/-- all stays; a name space up to its slots -/
structure Near (h h' : Heap) : Prop where
  soft : h.UpToSlots h'
  same : ∀ b o, h.get? b = some o → (∀ es n, o.data ≠ .dict es n) → h'.get? b = some o
theorem Near.refl (h : Heap) : Near h h := ⟨.refl h, fun _ _ e _ => e⟩
theorem Near.of_keep {h h' : Heap} (k : Keep h h') : Near h h' := ⟨.of_keeps k, fun _ _ e _ => k _ _ e⟩
theorem Near.ns {h h' : Heap} {a : Addr} {m : Str → Option Value} (x : Near h h') (n : h.Ns a m) : h'.Ns a m := x.soft.ns n
theorem Near.trans {h h₁ h' : Heap} (x : Near h h₁) (y : Near h₁ h') : Near h h' := ⟨x.soft.trans y.soft, fun b o e d => y.same b o (x.same b o e d) d⟩
theorem Near.top {N : Nat} {h h' : Heap} (x : Near h h') : Near (top N h) (top N h') :=
  ⟨fun b o e d => let ⟨e1, e2⟩ := of_top e; let ⟨sl, q⟩ := x.soft b o e1 d; ⟨sl, top_get q e2⟩, fun b o e d => let ⟨e1, e2⟩ := of_top e; top_get (x.same b o e1 d) e2⟩
mutual
theorem Reads.near {h h' : Heap} (x : Near h h') : ∀ {v : Value} {d : PyData} {as : List Addr}, Reads h v d as → Reads h' v d as
  | _, _, _, .none => .none
  | _, _, _, .bool b => .bool b
  | _, _, _, .int i t => .int i t
  | _, _, _, .str y t => .str y t
  | _, _, _, .list h1 h2 h3 h4 => .list (x.same _ _ h1 fun es n q => by rw [h3] at q; cases q) h2 h3 (ReadsAll.near x h4)
  | _, _, _, .tuple h1 h2 h3 h4 => .tuple (x.same _ _ h1 fun es n q => by rw [h3] at q; cases q) h2 h3 (ReadsAll.near x h4)
  | _, _, _, .dict h1 h2 h3 h4 h5 => by
    obtain ⟨sl, q⟩ := x.soft _ _ h1 fun vs q => by rw [h3] at q; cases q
    exact .dict q h2 h3 (ReadsAll.near x h4) (ReadsAll.near x h5)
theorem ReadsAll.near {h h' : Heap} (x : Near h h') : ∀ {vs : List Value} {ds : List PyData} {as : List Addr}, ReadsAll h vs ds as → ReadsAll h' vs ds as
  | _, _, _, .nil => .nil
  | _, _, _, .cons h1 h2 => .cons (Reads.near x h1) (ReadsAll.near x h2)
end
theorem Rd.near {h h' : Heap} {v : Value} {d : PyData} (r : Rd h v d) (x : Near h h') : Rd h' v d := let ⟨as, q⟩ := r; ⟨as, Reads.near x q⟩
theorem RdAll.near {h h' : Heap} {vs : List Value} {ds : List PyData} (r : RdAll h vs ds) (x : Near h h') : RdAll h' vs ds := let ⟨as, q⟩ := r; ⟨as, ReadsAll.near x q⟩
theorem FnIn.near {h h' : Heap} {k : Nat} {a c : Addr} {pm : Value} (y : FnIn h k a c pm) (x : Near h h') : FnIn h' k a c pm := by
  obtain ⟨⟨o', e, d⟩, ⟨c₂, o4, vs, tq, q4, e4, d4, r4⟩⟩ := y
  exact ⟨⟨o', x.same _ _ e (fun es n q => by rw [d] at q; cases q), d⟩, ⟨c₂, o4, vs, tq, q4, x.same _ _ e4 (fun es n q => by rw [d4] at q; cases q), d4, r4⟩⟩
theorem Base.near {pm pl : Value} {mg mb : Str → Option Value} {h h' : Heap} (y : Base pm pl mg mb h) (x : Near h h') : Base pm pl mg mb h' := by
  refine ⟨x.ns y.g, x.ns y.b, let ⟨mc, a, b⟩ := y.lim; ⟨mc, x.ns a, b⟩, y.mapstar.near x, y.doing.near x, y.row.near x, y.outcome.near x, y.right.near x, y.refused.near x, ?_, ?_⟩
  · obtain ⟨o', vs, file, tf, flags, tg, inF, text, tt, e, c1, d, r⟩ := y.hd27
    exact ⟨o', vs, file, tf, flags, tg, inF, text, tt, x.same _ _ e (fun es n q => by rw [d] at q; cases q), c1, d, r⟩
  · obtain ⟨bm, o', a, b, c, d, e, f, g, r⟩ := y.bat
    exact ⟨bm, o', a, b, c, d, x.same _ _ e (fun es n q => by rw [r] at q; cases q), f, g, r⟩
theorem TabOK.near {h h' : Heap} (y : TabOK h) (x : Near h h') : TabOK h' := by
  obtain ⟨ps, e, r⟩ := y.ex
  refine ⟨ps, x.same _ _ e (fun es n q => by cases q), r.imp id fun ⟨c', a, b, ⟨c₂, o4, vs, tq, q4, e4, d4, r4⟩⟩ => ⟨c', a, b, ⟨c₂, o4, vs, tq, q4, x.same _ _ e4 (fun es n q => by rw [d4] at q; cases q), d4, r4⟩⟩⟩
theorem PlainL.near {h h' : Heap} {a : Addr} {xs : Array Value} (y : PlainL h a xs) (x : Near h h') : PlainL h' a xs := by
  obtain ⟨o, n, e, c, d, r⟩ := y
  exact ⟨o, n, x.same _ _ e (fun es n q => by rw [r] at q; cases q), c, d, r⟩
/-- what stood below the frames as, the frames being name spaces -/
theorem Near.of_base {h h' : Heap} {as : List Addr} (k : (hideAll h as).StaysIn h') (u : h.UpToSlots h') (ns : ∀ a ∈ as, ∃ m, h.Ns a m) : Near h h' :=
  ⟨u, fun b o e d => k b o (hideAll_get _ e fun hm => by
    obtain ⟨m, o', es, ep, e', d', _⟩ := ns b hm
    rw [e] at e'; cases e'; exact d es ep d')⟩

/-- frames of the call at hand, from the heap where the exception was made -/
structure Frames (h : Heap) (l : List Env) (as : List Addr) : Prop where
  kind : ∀ env ∈ l, env.scope.kind ≠ .module
  fr : ∀ env ∈ l, ∃ L m, env.frame = some L ∧ h.Ns L m ∧ L ∈ as
  all : ∀ a ∈ as, ∃ m, h.Ns a m
theorem Frames.fun {h : Heap} {as : List Addr} : ∀ {l : List Env}, Frames h l as → h.FunFrames (hideAll h as) l
  | [], _ => trivial
  | env :: r, x => by
    obtain ⟨L, m, hf, hn, hm⟩ := x.fr env (.head _)
    exact .cons (x.kind env (.head _)) hf hn (hideAll_none _ hm) (Frames.fun ⟨fun e he => x.kind e (.tail _ he), fun e he => x.fr e (.tail _ he), x.all⟩)
theorem Frames.cons {h : Heap} {as : List Addr} {l : List Env} {env : Env} {L : Addr} {m : Str → Option Value} (hk : env.scope.kind = .function) (hf : env.frame = some L) (hn : h.Ns L m) (x : Frames h l as) : Frames h (env :: l) (L :: as) :=
  ⟨fun e he => (List.mem_cons.mp he).elim (fun q => by rw [q, hk]; decide) (x.kind e), fun e he => (List.mem_cons.mp he).elim (fun q => ⟨L, m, by rw [q]; exact hf, hn, .head _⟩) fun q => let ⟨L', m', a, b, c⟩ := x.fr e q; ⟨L', m', a, b, .tail _ c⟩,
    fun a ha => (List.mem_cons.mp ha).elim (fun q => ⟨m, by rw [q]; exact hn⟩) (x.all a)⟩
theorem Frames.nil {h : Heap} : Frames h [] [] := ⟨fun _ q => (nomatch q), fun _ q => (nomatch q), fun _ q => (nomatch q)⟩

theorem sub_value_stop : isSubtype (.type "ValueError") (.type "StopIteration") = pure false := by rw [isSubtype_type]; kernel_rfl
theorem sub_value_value : isSubtype (.type "ValueError") (.type "ValueError") = pure true := by rw [isSubtype_type]; kernel_rfl

section
variable {M : Model} {A₁ A₂ : Around} {E E' : Value → Shared → Prop} {s : Shared}
/-- the exception leaves two frames -/
theorem leave_both {R : Result → Shared → Prop} {h₁ h₂ : Heap} {e : Addr} {as : List Addr} {dE mE : Env} {L2 L1 : Addr} {outer : List Env} {msg : Str} {t : Tok} {tk : Nat}
    (f1 : A₁.frames = some outer) (f2 : A₂.frames = some (mE :: outer)) (hd : dE.frame = some L2) (hm : mE.frame = some L1) (F : Frames h₁ (dE :: mE :: outer) as) (hx : Heap.MadeExcOf h₁ h₂ e (.type "ValueError") [.str msg t])
    (h : ∀ h₃ t0, Heap.FlyingW (hideAll h₁ as) outer e (.type "ValueError") (.ref t0) h₃ → h₃.TupAt t0 [.str msg t] → h₁.UpToSlots h₃ → R (.error (.ref e)) (at_ s h₃ tk)) :
    wpAny M (A₂.deeper dE) (leaving dE (.ref e)) (fun _ s'' => NoStop (.ref e) s'' ∧ wpAny M (A₁.deeper mE) (leaving mE (.ref e)) (fun _ s3 => R (.error (.ref e)) s3) E' s'') E (at_ s h₂ tk) := by
  refine wpAny_leaves_madeW (base := hideAll h₁ as) (h := h₁) (Around.frames_deeper f2) hd (fun b o q => of_hideAll _ q) F.fun hx fun h' t0 x1 x2 x3 x4 => ⟨⟨"ValueError", x1.there, sub_value_stop⟩, ?_⟩
  refine wpAny_leaves_onW (Around.frames_deeper f1) hm x1 fun h'' y1 y2 => h h'' t0 y1 (x2.of_slots y2) ((Heap.UpToSlots.of_keeps hx.keeps).trans (x4.trans y2))
end
end Mine
end

section
open PySem PySem.W PyProof.Rows PySem.Calls
namespace Mine

abbrev outF (pl : Value) : FuncData := fdOf 5 41 pl
abbrev outE (pl : Value) (L : Addr) : Env := envN (outF pl) L 42
theorem out_bind (pl : Value) (v u : Value) : bindArgs (outF pl) ⟨[v, u], []⟩ = pure [(("columns" : Str), v), (("bad" : Str), u)] := by
  rfl
theorem out_cell (pl : Value) : ∀ x ∈ (outF pl).scope.names, x.2 ≠ .cell := by
  show ∀ x ∈ (fScope (stm 5)).names, x.2 ≠ .cell
  decide
theorem out_loc (pl : Value) (v u : Value) : ∀ x ∈ ([(("columns" : Str), v), (("bad" : Str), u)] : List (Str × Value)), (outF pl).scope.names.lookup x.1 = some .local := fun x hx => by
  rcases List.mem_cons.mp hx with rfl | hx
  · rfl
  · rw [List.mem_singleton.mp hx]; rfl

/-- what doing answers -/
def outD (r : List Int) : PyData := .tuple [.int r.length, tupD r.reverse]
/-- what _law_outcome answers -/
def outcomeD (nss : List (List Int)) (n : Nat) (bad : Int) : PyData :=
  if 1 ≤ bad ∧ bad ≤ n then .tuple [.none, .str (toString bad), .list ((rowsI nss bad.toNat).map tupD)]
  else .tuple [.list ((rowsI nss n).map outD), .str "", .list ((rowsI nss n).map tupD)]

structure LawFr (A : Around) (h : Heap) (lawE : Env) (Lw : Nat) (mw : Str → Option Value) : Prop where
  frames : A.frames = some [lawE]
  fr : lawE.frame = some Lw
  kind : lawE.scope.kind = .function
  ns : h.Ns Lw mw

/-- the state of the seen list and of the answers, after i rows -/
structure Seen (sa : Nat) (nss : List (List Int)) (bad : Int) (hi i : Nat) (ys : List Value) (h : Heap) : Prop where
  ex : ∃ xs : List Value, PlainL h sa xs.toArray ∧ xs.length = i ∧ RdAll (top hi h) xs ((rowsI nss i).map tupD)
  ys : RdAll (top hi h) ys ((rowsI nss i).map outD)
  no : ∀ j : Nat, j < i → (j : Int) + 1 ≠ bad

section
variable {prog : Program} {w : World} {A : Around} {E : Value → Shared → Prop} {s : Shared} {pm pl : Value} {mg mb : Str → Option Value} {R : Result → Shared → Prop}

/-- the mapstar call of _law_outcome: it ends with the rows' answers, or the ValueError flies -/
theorem mapstar_doing {t f sa : Nat} {cols : List Col} {nss : List (List Int)} {n : Nat} {bad : Int} {as : List Addr} {outer : List Env} (N : Names mg mb) (B : Base pm pl mg mb s.heap) (T : TabOK s.heap) (rm : Room A 12 40)
    (hfr : A.frames = some outer) (F : Frames s.heap outer as) (D : DoingAt s.heap f sa bad) (hS : PlainL s.heap sa #[])
    (ht : s.heap.IsTuple t (.ref f :: cols.map fun c => Value.ref c.addr).toArray) (hat : ∀ c ∈ cols, c.at s.heap) (hI : ColsAre cols nss)
    (low : ∀ c ∈ cols, n ≤ c.items.size) (htop : ∃ c ∈ cols, c.items.size ≤ n) (fit : n ≤ 100000) (few : cols.length ≤ 50000) (hbad : bad.natAbs.log2 < 1920) (apart : ∀ c ∈ cols, sa ≠ c.addr)
    (hok : ∀ v (xs : List Value) h' tk, ¬ (1 ≤ bad ∧ bad ≤ n) → Rd (top s.heap.objs.size h') v (.list ((rowsI nss n).map outD)) → PlainL h' sa xs.toArray → xs.length = n → RdAll (top s.heap.objs.size h') xs ((rowsI nss n).map tupD) →
      KeepBut (fun b => b = sa) s.heap h' → s.heap.objs.size ≤ h'.objs.size → R (.ok (.ret v)) (at_ s h' tk))
    (herr : ∀ (e t0 : Nat) (xs : List Value) h₁ h' tk as' tt, 1 ≤ bad → bad ≤ n → PlainL h₁ sa xs.toArray → xs.length = bad.toNat → RdAll (top s.heap.objs.size h₁) xs ((rowsI nss bad.toNat).map tupD) → KeepBut (fun b => b = sa) s.heap h₁ → s.heap.objs.size ≤ h₁.objs.size →
      (∀ a ∈ as', ∃ m, h₁.Ns a m) → (∀ a ∈ as', a ∈ as ∨ s.heap.objs.size ≤ a) → Heap.FlyingW (hideAll h₁ as') outer e (.type "ValueError") (.ref t0) h' → h'.TupAt t0 [.str (toString bad) tt] → h₁.UpToSlots h' → R (.error (.ref e)) (at_ s h' tk)) :
    codeAny (model prog w) A (.call (.ref 21) ⟨[.ref t], []⟩) R s := by
  have hsal : sa < s.heap.objs.size := hS.lt
  refine mapstar_call (n := n) (X := fun b => b = sa) (J := Seen sa nss bad) N B (rm.less (by omega) (by omega)) ht
    { low := low, top := htop, fit := fit, colsAt := hat, few := few
      apart := fun b hb => by subst hb; exact ⟨hsal, apart⟩
      start := fun hi h _ hk _ => ⟨⟨[], hS.keeps hk, rfl, RdAll.nil⟩, RdAll.nil, fun j hj => absurd hj (Nat.not_lt_zero _)⟩
      frame := fun hi i ys h h' hJ _ hk _ => ?_
      step := fun L m hi i ys h tk hin hJ hl hlo hhi hkb hL hns => ?_
      done := fun hi ys hp tk S c hJ hl h1 h2 hSS hkb hz => ?_ }
  · obtain ⟨xs, a, b, c⟩ := hJ.ex
    have kt : Keep (top hi h) (top hi h') := top_keep fun b o hb e => hk b o (by omega) e
    obtain ⟨o, n', e, r⟩ := a
    exact ⟨⟨xs, ⟨o, n', hk _ _ (by omega) e, r⟩, b, c.keep kt⟩, hJ.ys.keep kt, hJ.no⟩
  · have rm' : Room (A.deeper (msE pm L)).in1.in1.in1 2 5 := (rm.less (d' := 2 + 1) (u' := 5 + 1 + 1 + 1 + 3) (by omega) (by omega)).deeper.in1.in1.in1
    obtain ⟨xs, hSx, hxl, hxs⟩ := hJ.ex
    have hrow := hI.row (i := i) fun c hc => Nat.lt_of_lt_of_le hin (low c hc)
    have hsz : xs.toArray.size = i := by simpa using hxl
    have D' : DoingAt h f sa bad := D.keepBut hS.isList hkb
    have B' : Base pm pl mg mb h := B.keepBut hS.isList hkb
    refine wpAny_call (doing_call (s := at_ s h tk) N B' D' hSx hrow (by rw [hsz]; omega) (by simp [rowAt]; omega) hbad rm' (fun v h₁ tk₁ r hne hS₁ hr hv hk₁ hz₁ => ?_) (fun h₁ h₂ tk₁ e r L2 m2 fd tt heq hS₁ hr hk₁ hns2 hL2 hz₁ hx hkd => ?_))
    · have kt : Keep (top hi h) (top hi h₁) := top_keep fun b o hb e => hk₁ b o (show ¬ b = sa by omega) e
      refine ⟨h₁, tk₁, rfl, ⟨⟨xs ++ [.ref r], by simpa using hS₁, by simp [hxl], ?_⟩, ?_, fun j hj => ?_⟩, hk₁, hz₁⟩
      · rw [rowsI_succ, List.map_append]
        exact (hxs.keep kt).append (.one (hr.keep (top_mono hhi)))
      · rw [rowsI_succ, List.map_append]
        refine (hJ.ys.keep kt).append (.one ?_)
        exact hv.keep (top_mono hhi)
      · rcases Nat.lt_succ_iff_lt_or_eq.mp hj with hj | rfl
        · exact hJ.no j hj
        · rw [hsz] at hne; exact hne
    · have hnsL : h₁.Ns L m := hns.at' fun o e => hk₁ _ _ (show L ≠ sa by omega) e
      have hkA : KeepBut (fun b => b = sa) s.heap h₁ := fun b o hb e => hk₁ b o hb (hkb b o hb e)
      have nsk : ∀ {L' m'}, s.heap.Ns L' m' → h₁.Ns L' m' := fun {L' m'} b => b.at' fun o e => hkA _ _ (fun q => by
        obtain ⟨o', _, eo, _, _, dd⟩ := hS
        obtain ⟨o₂, _, _, e₂, d₂, _⟩ := b
        rw [q, eo] at e₂; cases e₂; rw [dd] at d₂; cases d₂) e
      have F₁ : Frames h₁ outer as := ⟨F.kind, fun env he => let ⟨L', m', a, b, c⟩ := F.fr env he; ⟨L', m', a, nsk b, c⟩, fun a ha => let ⟨m', b⟩ := F.all a ha; ⟨m', nsk b⟩⟩
      have F₂ : Frames h₁ (envN fd L2 f :: msE pm L :: outer) (L2 :: L :: as) := .cons hkd rfl hns2 (.cons rfl rfl hnsL F₁)
      have kt : Keep (top hi h) (top hi h₁) := top_keep fun b o hb e => hk₁ b o (show ¬ b = sa by omega) e
      refine leave_both (R := R) (A₁ := A) (A₂ := (A.deeper (msE pm L)).in1.in1.in1) hfr (Around.frames_deeper hfr) rfl rfl F₂ hx fun h₃ t0 y1 y2 y3 => ?_
      have hib : bad = (i : Int) + 1 := by rw [hsz] at heq; exact heq.symm
      have hbn : bad.toNat = i + 1 := by omega
      refine herr e t0 (xs ++ [.ref r]) h₁ h₃ _ (L2 :: L :: as) tt (by omega) (by omega) (by simpa using hS₁) (by simp [hxl, hbn]) ?_ hkA (Nat.le_trans (Nat.le_of_lt hlo) (Nat.le_trans hhi hz₁)) F₂.all (fun a ha => ?_) y1 y2 y3
      rotate_left
      · rcases List.mem_cons.mp ha with rfl | ha
        · exact .inr (Nat.le_trans (Nat.le_of_lt hlo) (Nat.le_trans hhi hL2))
        rcases List.mem_cons.mp ha with rfl | ha
        · exact .inr hL
        · exact .inl ha
      rw [hbn, rowsI_succ, List.map_append]
      exact ((hxs.keep kt).keep (top_mono (by omega))).append (.one (hr.keep (top_mono (Nat.le_trans (Nat.le_of_lt hlo) hhi))))
  · obtain ⟨xs, hSx, hxl, hxs⟩ := hJ.ex
    refine hok _ xs _ _ (fun q => ?_) (Rd.list (top_get hSS h1) rfl rfl (by simpa using hJ.ys.keep (top_mono (by omega)))) hSx hxl (hxs.keep (top_mono (by omega))) hkb (by omega)
    exact hJ.no (bad.toNat - 1) (by omega) (by omega)
end
end Mine
end

section
open PySem PySem.W PyProof.Rows PySem.Calls
namespace Mine

theorem Col.at_data {c : Col} {h : Heap} (x : c.at h) : ∃ o n, h.get? c.addr = some o ∧ o.data = .seq c.items n := by
  unfold Col.at at x
  split at x <;> (obtain ⟨o, e, _, n, d⟩ := x; exact ⟨o, n, e, d⟩)

theorem Base.move {pm pl : Value} {mg mb : Str → Option Value} {h h' : Heap} {ps : Array Value} (y : Base pm pl mg mb h) (e23 : h.get? 23 = some (tabObj ps))
    (same : ∀ (b : Nat) o, b ≠ 23 → h.get? b = some o → (∀ es n, o.data ≠ .dict es n) → h'.get? b = some o) (ns : ∀ {L m}, h.Ns L m → h'.Ns L m) : Base pm pl mg mb h' := by
  have fn : ∀ {k a c pm}, c ≠ 23 → FnIn h k a c pm → FnIn h' k a c pm := fun {k a c pm} hc z => by
    obtain ⟨⟨o', e, d⟩, ⟨c₂, o4, vs, tq, q4, e4, d4, r4⟩⟩ := z
    exact ⟨⟨o', same _ _ (fun q => by rw [q, e23] at e; cases e; cases d) e (fun es n q => by rw [d] at q; cases q), d⟩,
      ⟨c₂, o4, vs, tq, q4, same _ _ (fun q => by cases q4; exact hc q) e4 (fun es n q => by rw [d4] at q; cases q), d4, r4⟩⟩
  refine ⟨ns y.g, ns y.b, let ⟨mc, a, b⟩ := y.lim; ⟨mc, ns a, b⟩, fn (by decide) y.mapstar, fn (by decide) y.doing, fn (by decide) y.row, fn (by decide) y.outcome, fn (by decide) y.right, fn (by decide) y.refused, ?_, ?_⟩
  · obtain ⟨o', vs, file, tf, flags, tg, inF, text, tt, e, c1, d, r⟩ := y.hd27
    exact ⟨o', vs, file, tf, flags, tg, inF, text, tt, same _ _ (by decide) e (fun es n q => by rw [d] at q; cases q), c1, d, r⟩
  · obtain ⟨bm, o', a, b, c, d, e, f, g, r⟩ := y.bat
    exact ⟨bm, o', a, b, c, d, same _ _ d e (fun es n q => by rw [r] at q; cases q), f, g, r⟩

section
variable {prog : Program} {w : World} {A : Around} {E : Value → Shared → Prop} {s : Shared} {pm pl : Value} {mg mb : Str → Option Value} {R : Result → Shared → Prop}

theorem outcome_call {a : Nat} {cols : List Col} {nss : List (List Int)} {n : Nat} {bad : Int} {tb : Tok} {lawE : Env} {Lw : Nat} {mw : Str → Option Value} (N : Names mg mb) (B : Base pm pl mg mb s.heap) (T : TabOK s.heap) (rm : Room A 20 60)
    (W : LawFr A s.heap lawE Lw mw) (ha : s.heap.IsList a (cols.map fun c => Value.ref c.addr).toArray) (hat : ∀ c ∈ cols, c.at s.heap) (hI : ColsAre cols nss)
    (low : ∀ c ∈ cols, n ≤ c.items.size) (htop : ∃ c ∈ cols, c.items.size ≤ n) (fit : n ≤ 100000) (few : cols.length ≤ 50000) (hbad : bad.natAbs.log2 < 1920)
    (h : ∀ v h' tk, Rd (top s.heap.objs.size h') v (outcomeD nss n bad) → KeepBut (fun b => b = 23 ∨ b = Lw) s.heap h' → h'.Ns Lw mw → TabOK h' → s.heap.objs.size ≤ h'.objs.size → R (.ok (.ret v)) (at_ s h' tk)) :
    codeAny (model prog w) A (.call (.ref 42) ⟨[.ref a, .int bad tb], []⟩) R s := by
  have hne : cols ≠ [] := by
    obtain ⟨c, hc, _⟩ := htop
    rintro rfl; cases hc
  obtain ⟨o, ho, hd⟩ := B.outcome.fn
  obtain ⟨oM, hoM, hdM⟩ := B.mapstar.fn
  obtain ⟨oD, hoD, hdD⟩ := B.doing.fn
  refine call_def (fd := outF pl) (body := fBody (stm 5)) (by have := rm.depth; omega) ho hd B.lim B.outcome.code rfl (out_bind pl _ _) (out_cell pl) (out_loc pl _ _) (fun h₁ tk hns hk hz => ?_) rfl rfl rfl
  have hz' : h₁.objs.size = s.heap.objs.size + 1 := hz
  refine wpAny_execs_cons (wpAny_Assign_Name (wpAny_List_spliced (args_nil ⟨by decide, ?_⟩)))
  refine wpAny_storeName_local (s := at_ s (h₁.push { cls := .type "list", data := .seq #[] }) tk) rfl (hns.push _) (fun h₂ hns₂ hsb => ?_) rfl
  have k₂ : Keep s.heap h₂ := fun b o e => hsb.extBut b o (show b ≠ s.heap.objs.size from Nat.ne_of_lt (Heap.lt_size e)) (Heap.get?_push_of_some _ (hk b o e))
  have hS₂ : PlainL h₂ h₁.objs.size #[] := ⟨_, _, hsb.extBut _ _ (show h₁.objs.size ≠ s.heap.objs.size by omega) (Heap.get?_push_size _ rfl), rfl, rfl, rfl⟩
  have hz₂ : h₂.objs.size = s.heap.objs.size + 2 := by rw [hsb.1, Heap.size_push]; omega
  have B₂ := B.keep k₂
  have T₂ := T.keep k₂
  dsimp only
  refine wpAny_execs_cons (wpAny_Try_except ?_)
  refine wpAny_execs_cons (wpAny_Return_some (wpAny_Tuple_spliced (args_cons ?_)))
  refine wpAny_Call_NameR (ldG (s := at_ s h₂ (tk + 1)) B₂ N.mapstar ?_ rfl rfl rfl (by decide))
  refine callWith_def hdM (args_cons (wpAny_BinOp (wpAny_Tuple_spliced (args_cons ?_))))
  refine wpAny_Call_NameR (ldG (s := at_ s h₂ (tk + 1)) B₂ N.doing ?_ rfl rfl rfl (by decide))
  refine callWith_def hdD (args_cons (ldL (s := at_ s h₂ (tk + 1)) hns₂ (v := .ref h₁.objs.size) rfl (args_cons (ldL (s := at_ s h₂ (tk + 1)) hns₂ (v := .int bad tb) rfl (args_nil ⟨k₂ _ _ hoD, ?_⟩) rfl rfl (by decide))) rfl rfl (by decide)))
  have rm₁ : Room (A.deeper (outE pl s.heap.objs.size)) 12 40 := (rm.less (d' := 12 + 1) (u' := 40 + 3) (by omega) (by omega)).deeper
  refine wpAny_call (law_doing_call (s := at_ s h₂ (tk + 1)) B₂ T₂ (Nat.lt_of_le_of_lt (Nat.le_add_right _ 12) rm₁.depth) fun h₃ tk₃ f D₃ hk₃ T₃ hf hz₃ => ?_)
  have h23 : 23 < s.heap.objs.size := T.lt
  have k₂₃ : KeepBut (fun b => b = 23) h₂ h₃ := hk₃
  have hz₃' : h₂.objs.size ≤ h₃.objs.size := hz₃
  have hns₃ : h₃.Ns s.heap.objs.size _ := hns₂.at' fun o e => k₂₃ _ _ (show ¬ s.heap.objs.size = 23 by omega) e
  have hS₃ : PlainL h₃ h₁.objs.size #[] := let ⟨o, n, e, r⟩ := hS₂; ⟨o, n, k₂₃ _ _ (show ¬ h₁.objs.size = 23 by omega) e, r⟩
  have B₃ : Base pm pl mg mb h₃ := B₂.keep23 T₂ hk₃
  have kd : ∀ {b : Nat} {o : Obj}, s.heap.get? b = some o → (∀ xs n, o.data = .seq xs n → o.cls ≠ .type "tuple") → True := fun _ _ => trivial
  obtain ⟨ps, e23, _⟩ := T.ex
  have k03 : ∀ (b : Nat) o, b ≠ 23 → s.heap.get? b = some o → h₃.get? b = some o := fun b o hb e => k₂₃ _ _ hb (k₂ _ _ e)
  have ne23 : ∀ {b : Nat} {o : Obj}, s.heap.get? b = some o → o ≠ tabObj ps → b ≠ 23 := fun e q r => by rw [r, e23] at e; exact q (Option.some.inj e).symm
  refine args_nil ⟨by simp [sizeLine], ?_⟩
  have kp₃ : Keep h₃ (h₃.push { cls := .type "tuple", data := .seq [Value.ref f].toArray }) := fun b o e => Heap.get?_push_of_some _ e
  refine wpAny_Call_NameR (ldB (s := at_ s (h₃.push { cls := .type "tuple", data := .seq [Value.ref f].toArray }) tk₃) (B₃.keep kp₃) (N.no _ (by decide)) N.tuple ?_ rfl rfl rfl rfl (by decide))
  refine callWith_type1 (args_cons (ldL (s := at_ s (h₃.push { cls := .type "tuple", data := .seq [Value.ref f].toArray }) tk₃) (hns₃.push _) (v := .ref a) rfl (args_nil ?_) rfl rfl (by decide)))
  have ha₃ : h₃.IsList a (cols.map fun c => Value.ref c.addr).toArray := by
    obtain ⟨o, e, c, n, d⟩ := ha
    exact ⟨o, k03 _ _ (ne23 e fun q => by rw [q] at d; cases d) e, c, n, d⟩
  have hlen : (cols.map fun c => Value.ref c.addr).toArray.size ≤ sizeLine := Nat.le_trans (by simpa using few) (by decide)
  refine call_tuple_list (s := at_ s (h₃.push { cls := .type "tuple", data := .seq [Value.ref f].toArray }) tk₃) (let ⟨o, e, r⟩ := ha₃; ⟨o, kp₃ _ _ e, r⟩) (fun h₄ hk₄ => ?_) hlen
  have hzp : (h₃.push { cls := .type "tuple", data := .seq [Value.ref f].toArray }).objs.size = h₃.objs.size + 1 := Heap.size_push ..
  have kp₄ : Keep h₃ (h₄.push { cls := .type "tuple", data := .seq (cols.map fun c => Value.ref c.addr).toArray }) := fun b o e => Heap.get?_push_of_some _ (hk₄ _ _ (kp₃ _ _ e))
  refine add_tups (t := h₃.objs.size) (b := h₄.objs.size) (vs := [.ref f]) (ws := cols.map fun c => Value.ref c.addr) ⟨_, Heap.get?_push_of_some _ (hk₄ _ _ (Heap.get?_push_size _ rfl)), rfl, _, rfl⟩
    ⟨_, Heap.get?_push_size _ rfl, rfl, _, rfl⟩ (by simp) (by simpa using hne) (fun h₅ hk₅ ht₅ hz₅ => ?_) (by simp; omega)
  have k₃₅ : Keep h₃ h₅ := fun b o e => hk₅ _ _ (kp₄ _ _ e)
  have k05 : ∀ (b : Nat) o, b ≠ 23 → s.heap.get? b = some o → h₅.get? b = some o := fun b o hb e => k₃₅ _ _ (k03 b o hb e)
  have B₅ := B₃.keep k₃₅
  have T₅ := T₃.keep k₃₅
  have hns₅ := hns₃.keeps k₃₅
  have hS₅ : PlainL h₅ h₁.objs.size #[] := hS₃.keeps k₃₅
  have D₅ : DoingAt h₅ f h₁.objs.size bad := D₃.keepBut hS₃.isList fun b o _ e => k₃₅ b o e
  have nsk : ∀ {L' m'}, s.heap.Ns L' m' → h₅.Ns L' m' := fun {L' m'} b => b.at' fun o e => k05 _ _ (fun q => by
    obtain ⟨o₂, _, _, e₂, d₂, _⟩ := b
    rw [q, e23] at e₂; cases e₂; cases d₂) e
  have F₅ : Frames h₅ [outE pl s.heap.objs.size, lawE] [s.heap.objs.size, Lw] := .cons rfl rfl hns₅ (.cons W.kind W.fr (nsk W.ns) .nil)
  have hz35 : h₃.objs.size ≤ h₅.objs.size := by
    have a1 : h₃.objs.size < h₄.objs.size := ltS (hk₄ _ _ (Heap.get?_push_size _ rfl))
    have a2 : (h₄.push { cls := .type "tuple", data := .seq (cols.map fun c => Value.ref c.addr).toArray }).objs.size = h₄.objs.size + 1 := Heap.size_push ..
    have a3 : (h₄.push { cls := .type "tuple", data := .seq (cols.map fun c => Value.ref c.addr).toArray }).objs.size ≤ h₅.objs.size := hz₅
    omega
  refine args_nil ⟨k05 _ _ (by decide) hoM, ?_⟩
  refine wpAny_call (mapstar_doing (s := at_ s h₅ tk₃) (t := _) (f := f) (sa := h₁.objs.size) N B₅ T₅ rm₁ (Around.frames_deeper W.frames) F₅ D₅ hS₅ (by simpa using ht₅) (fun c hc => ?_) hI low htop fit few hbad (fun c hc q => ?_)
    (fun v xs h₆ tk₆ hno hv hS₆ hxl hxs kb₆ hz₆ => ?_) (fun e t0 xs h₆ h₇ tk₆ as' tt b1 b2 hS₆ hxl hxs kb₆ hz₆ has hin y1 y2 y3 => ?_))
  · refine Col.at_keep (hat c hc) fun o e => k05 _ _ (ne23 e fun q => ?_) e
    obtain ⟨o', n', e', d'⟩ := Col.at_data (hat c hc)
    rw [e] at e'; cases e'; rw [q] at d'; cases d'
  · have q' : @Eq Nat c.addr h₁.objs.size := q.symm
    have : @LT.lt Nat _ c.addr s.heap.objs.size := Col.at_lt (hat c hc)
    omega
  · have hns₆ : h₆.Ns s.heap.objs.size _ := hns₅.at' fun o e => kb₆ _ _ (show ¬ s.heap.objs.size = h₁.objs.size by omega) e
    refine args_cons (wpAny_Constant_str (args_cons (ldL (s := at_ s h₆ (tk₆ + 1)) hns₆ (v := .ref h₁.objs.size) rfl (args_nil ⟨by simp [sizeLine], ?_⟩) rfl rfl (by decide))))
    have kp₆ : Keep h₆ (h₆.push { cls := .type "tuple", data := .seq #[v, .str "" tk₆, .ref h₁.objs.size] }) := fun b o e => Heap.get?_push_of_some _ e
    refine h _ _ _ ?_ (fun b o hb e => kp₆ _ _ (kb₆ _ _ (fun q => ?_) (k05 _ _ (fun q => hb (.inl q)) e))) ?_ ?_ ?_
    · rw [outcomeD, if_neg hno]
      refine Rd.tuple (n := 0) (top_get (Heap.get?_push_size _ rfl) ?_) rfl rfl (.cons ?_ (.cons .str (.one ?_)))
      · show s.heap.objs.size ≤ h₆.objs.size
        have : h₅.objs.size ≤ h₆.objs.size := hz₆
        omega
      · exact (hv.keep (top_mono (by show s.heap.objs.size ≤ h₅.objs.size; omega))).keep (top_keep fun b o _ e => kp₆ b o e)
      · refine Rd.ofList (xs := xs.toArray) (top_list ((hS₆.keeps kp₆).isList) (by show s.heap.objs.size ≤ h₁.objs.size; omega)) ?_
        have := (hxs.keep (top_mono (show s.heap.objs.size ≤ h₅.objs.size by omega))).keep (top_keep fun b o _ e => kp₆ b o e)
        simpa using this
    · have q' : @Eq Nat b h₁.objs.size := q
      have := ltS e
      omega
    · exact ((nsk W.ns).at' fun o e => kb₆ _ _ (fun q => by
        have := W.ns.lt
        have q' : @Eq Nat Lw h₁.objs.size := q
        have : @LT.lt Nat _ Lw s.heap.objs.size := this
        omega) e).keeps kp₆
    · exact (T₅.keepBut hS₅.isList kb₆).keep kp₆
    · have : h₅.objs.size ≤ h₆.objs.size := hz₆
      show s.heap.objs.size ≤ (h₆.push _).objs.size
      rw [Heap.size_push]; omega
  · have X6 : Near h₆ h₇ := .of_base y1.1 y3 has
    refine wpAny_looks_onW (Around.frames_deeper W.frames) rfl y1 fun h₈ y8 u8 => ?_
    refine wpAny_landsW y8 fun h₉ y9 u9 => ?_
    have X9 : Near h₆ h₉ := .of_base y9.1 ((y3.trans u8).trans u9) has
    have B₆ : Base pm pl mg mb h₆ := B₅.keepBut hS₅.isList kb₆
    obtain ⟨ob, hob, hobc⟩ := y9.there
    refine wpAny_handleBy_builtin_as (X := "ValueError") (T := "ValueError") (b := true) F.isExc_ValueError F.notTuple_ValueError sub_value_value
      (ldB (s := at_ s h₉ tk₆) (B₆.near X9) (N.no _ (by decide)) N.value ⟨rfl, ⟨ob, hob, hobc⟩, ?_⟩ rfl rfl rfl rfl (by decide))
    refine lands_againW y9 fun h₀ y0 u0 => ?_
    have X0 : Near h₆ h₀ := .of_base y0.1 (((y3.trans u8).trans u9).trans u0) has
    have B₀ : Base pm pl mg mb h₀ := B₆.near X0
    have hns₆ : h₆.Ns s.heap.objs.size _ := hns₅.at' fun o e => kb₆ _ _ (show ¬ s.heap.objs.size = h₁.objs.size by omega) e
    refine wpAny_storeName_local (s := at_ s h₀ tk₆) rfl (X0.ns hns₆) (fun h' hns' hsb' => ?_) rfl
    have kn : ∀ (b : Nat) o, b ≠ s.heap.objs.size → h₀.get? b = some o → h'.get? b = some o := fun b o hb e => hsb'.extBut b o hb e
    have notNs : ∀ {b : Nat} {o : Obj}, h₀.get? b = some o → (∀ es n, o.data ≠ .dict es n) → b ≠ s.heap.objs.size := fun {b o} e d q => by
      obtain ⟨o', es, ep, e', d', _⟩ := X0.ns hns₆
      rw [q, e'] at e; cases e; exact d _ _ d'
    have X' : ∀ (b : Nat) o, h₆.get? b = some o → (∀ es n, o.data ≠ .dict es n) → h'.get? b = some o := fun b o e d => by
      have e0 := X0.same b o e d
      exact kn b o (notNs e0 d) e0
    -- the text of the error
    obtain ⟨oe, ws, q1, q2, q3, q4⟩ := y0.first
    have hE : h'.ExcAt e "ValueError" (.ref t0) := ⟨oe, ws, kn _ _ (notNs q1 fun es n q => by rw [q3] at q; cases q) q1, q2, q3, q4⟩
    obtain ⟨ot, nt, p1, p2, p3⟩ := y2.of_slots ((u8.trans u9).trans u0)
    have hT : h'.TupAt t0 [.str (toString bad) tt] := ⟨ot, nt, kn _ _ (notNs p1 fun es n q => by rw [p3] at q; cases q) p1, p2, p3⟩
    have k06 : ∀ (b : Nat) o, b ≠ 23 → s.heap.get? b = some o → h₆.get? b = some o := fun b o hb e => kb₆ _ _ (fun q => by
      have q' : @Eq Nat b h₁.objs.size := q
      have := ltS e
      omega) (k05 _ _ hb e)
    have z25 : s.heap.objs.size ≤ h₅.objs.size := by omega
    have k00 : ∀ (b : Nat) o, b ≠ 23 → b ≠ Lw → s.heap.get? b = some o → h₀.get? b = some o := fun b o hb hw e => y0.1 _ _ (hideAll_get _ (k06 b o hb e) fun hm => by
      have hl := ltS e
      rcases hin b hm with hm | hm
      · rcases List.mem_cons.mp hm with hm | hm
        · have q' : @Eq Nat b s.heap.objs.size := hm
          omega
        · exact hw (List.mem_singleton.mp hm)
      · have hm' : @LE.le Nat _ h₅.objs.size b := hm
        omega)
    have k0' : ∀ (b : Nat) o, b ≠ 23 → b ≠ Lw → s.heap.get? b = some o → h'.get? b = some o := fun b o hb hw e => kn b o (by have := ltS e; omega) (k00 b o hb hw e)
    have ns6 : ∀ {L' m'}, s.heap.Ns L' m' → h₆.Ns L' m' := fun {L' m'} b => b.at' fun o e => k06 _ _ (fun q => by
      obtain ⟨o₂, _, _, e₂, d₂, _⟩ := b
      rw [q, e23] at e₂; cases e₂; cases d₂) e
    have ns' : ∀ {L' m'}, s.heap.Ns L' m' → h'.Ns L' m' := fun {L' m'} b => (X0.ns (ns6 b)).at' fun o e => kn _ _ (by
      have : @LT.lt Nat _ L' s.heap.objs.size := b.lt
      omega) e
    have B' : Base pm pl mg mb h' := B.move e23 (fun b o hb e d => X' b o (k06 b o hb e) d) ns'
    refine wpAny_execs_cons (wpAny_Return_some (wpAny_Tuple_spliced (args_cons (wpAny_Constant_none (args_cons ?_)))))
    refine wpAny_Call_NameR (ldB (s := at_ s h' (tk₆ + 1)) B' (N.no _ (by decide)) N.str ?_ rfl rfl rfl rfl (by decide))
    refine callWith_type1 (args_cons (ldL (s := at_ s h' (tk₆ + 1)) hns' (v := .ref e) rfl (args_nil ?_) rfl rfl (by decide)))
    refine P.str_of_exc_one (s := at_ s h' (tk₆ + 1)) (A := (A.deeper (outE pl s.heap.objs.size)).mark (some (.ref e))) F.excStr_ValueError (Nat.lt_of_le_of_lt (Nat.add_le_add_left (by decide) _) rm₁.units) hE hT ?_
    refine args_cons (ldL (s := at_ s h' (tk₆ + 1)) hns' (v := .ref h₁.objs.size) rfl (args_nil ⟨by simp [sizeLine], ?_⟩) rfl rfl (by decide))
    have kp' : Keep h' (h'.push { cls := .type "tuple", data := .seq [Value.none, .str (toString bad) tt, .ref h₁.objs.size].toArray }) := fun b o e => Heap.get?_push_of_some _ e
    refine wpAny_nameGoes (s := at_ s (h'.push { cls := .type "tuple", data := .seq [Value.none, .str (toString bad) tt, .ref h₁.objs.size].toArray }) (tk₆ + 1)) rfl (hns'.push _) rfl fun h'' m'' hn'' hsb'' => ?_
    have kz : ∀ (b : Nat) o, b ≠ s.heap.objs.size → h'.get? b = some o → h''.get? b = some o := fun b o hb e => hsb''.extBut b o hb (kp' b o e)
    have lLt : @LT.lt Nat _ s.heap.objs.size h'.objs.size := hns'.lt
    have z'' : h''.objs.size = h'.objs.size + 1 := by rw [hsb''.1]; exact Heap.size_push ..
    refine h _ _ _ ?_ (fun b o hb e => kz _ _ (by have := ltS e; omega) (k0' b o (fun q => hb (.inl q)) (fun q => hb (.inr q)) e)) ?_ ?_ ?_
    · rw [outcomeD, if_pos ⟨b1, b2⟩]
      refine Rd.tuple (a := h'.objs.size) (n := 0) (top_get (hsb''.extBut _ _ (show h'.objs.size ≠ s.heap.objs.size by omega) (Heap.get?_push_size _ rfl)) (by omega)) rfl rfl (.cons .none (.cons .str (.one ?_)))
      have hS' : PlainL h' h₁.objs.size xs.toArray := let ⟨o, n, e, r⟩ := Mine.PlainL.near hS₆ X0; ⟨o, n, kn _ _ (by omega) e, r⟩
      have hS'' : PlainL h'' h₁.objs.size xs.toArray := let ⟨o, n, e, r⟩ := hS'; ⟨o, n, kz _ _ (by omega) e, r⟩
      refine Rd.ofList (xs := xs.toArray) (top_list hS''.isList (by show s.heap.objs.size ≤ h₁.objs.size; omega)) ?_
      have h5 : RdAll (top h₅.objs.size h₆) xs ((rowsI nss bad.toNat).map tupD) := hxs
      have h6 := (h5.near X0.top).keep (h' := top h₅.objs.size h'') (top_keep fun b o hb e => kz _ _ (by omega) (kn _ _ (by omega) e))
      simpa using h6.keep (top_mono z25)
    · exact (ns' W.ns).at' fun o e => kz _ _ (by
        have : @LT.lt Nat _ Lw s.heap.objs.size := W.ns.lt
        omega) e
    · obtain ⟨ps', e', r'⟩ := ((T₅.keepBut hS₅.isList kb₆).near X0).ex
      refine ⟨ps', kz _ _ (by omega) (kn _ _ (by omega) e'), r'.imp id fun ⟨c', a, b, ⟨c₂, o4, vs, tq, q4, e4, d4, r4⟩⟩ => ?_⟩
      have ne : c₂ ≠ s.heap.objs.size := notNs e4 fun es n q => by rw [d4] at q; cases q
      exact ⟨c', a, b, ⟨c₂, o4, vs, tq, q4, kz _ _ ne (kn _ _ ne e4), d4, r4⟩⟩
    · show s.heap.objs.size ≤ h''.objs.size
      omega
end
end Mine
end

section
open PySem PySem.W PyProof.Rows PySem.Calls
namespace Mine

/-- the scope of a comprehension's body -/
abbrev cenvOf (scope : Scope) (cl : List (Str × Addr)) (C : Nat) (env : Env) : Env :=
  { scope := relabel scope env, locals := C, globals := env.globals, cells := cellsFrom (C + 1) scope.names cl, qual := env.qual, func := none, code := env.code, frame := env.frame, builtins := env.builtins }

/-- the holder Z of the loop's name holds v -/
def Hold (cenv : Env) (x : Str) (Z : Nat) (v : Option Value) (h : Heap) : Prop :=
  (cenv.kindOf x = some .local ∧ Z = cenv.locals ∧ ∃ m, h.Ns Z m ∧ m x = v) ∨ (cenv.kindOf x = some .cell ∧ cenv.cells.lookup x = some Z ∧ h.IsCell Z v)
theorem Hold.keep {cenv : Env} {x : Str} {Z : Nat} {v : Option Value} {h h' : Heap} (y : Hold cenv x Z v h) (k : ∀ o, h.get? Z = some o → h'.get? Z = some o) : Hold cenv x Z v h' := by
  rcases y with ⟨a, b, m, n, q⟩ | ⟨a, b, o, e, r⟩
  · exact .inl ⟨a, b, m, n.at' k, q⟩
  · exact .inr ⟨a, b, o, k _ e, r⟩
theorem Hold.lt {cenv : Env} {x : Str} {Z : Nat} {v : Option Value} {h : Heap} (y : Hold cenv x Z v h) : Z < h.objs.size := by
  rcases y with ⟨_, _, m, n, _⟩ | ⟨_, _, o, e, _⟩
  · exact n.lt
  · exact Heap.lt_size e
theorem Hold.noSeq {cenv : Env} {x : Str} {Z : Nat} {v : Option Value} {h : Heap} (y : Hold cenv x Z v h) {o : Obj} (e : h.get? Z = some o) {xs : Array Value} {n : Nat} : o.data ≠ .seq xs n := by
  rcases y with ⟨_, _, m, ⟨o', es, ep, e', d, _⟩, _⟩ | ⟨_, _, o', e', d⟩
  · rw [e] at e'; cases e'; rw [d]; exact fun q => nomatch q
  · rw [e] at e'; cases e'; rw [d]; exact fun q => nomatch q

section
variable {M : Model} {A : Around} {E : Value → Shared → Prop} {s : Shared}

theorem store_hold {cenv : Env} {x : Str} {Z : Nat} {u : Option Value} {v : Value} {Q : Unit → Shared → Prop} (y : Hold cenv x Z u s.heap) (hk : cenv.scope.kind = .function)
    (h : ∀ h' tk, Hold cenv x Z (some v) h' → Heap.SameBut Z s.heap h' → Q () (at_ s h' tk)) : wpAny M A (storeName cenv x v) Q E s := by
  rcases y with ⟨a, rfl, m, n, _⟩ | ⟨a, b, c⟩
  · exact wpAny_storeName_local a n (fun h' n' hs => h h' _ (.inl ⟨a, rfl, _, n', by simp⟩) hs) (by rw [hk]; rfl)
  · exact wpAny_storeName_cell hk a b c fun h' c' hs => h h' _ (.inr ⟨a, b, c'⟩) hs
theorem ldH {cenv : Env} {x : Str} {Z : Nat} {v : Value} {pos : Pos} {Q : Value → Shared → Prop} (y : Hold cenv x Z (some v) s.heap) (hk : cenv.scope.kind = .function) (h : Q v s) (hd : (x == ("__debug__" : Str)) = false) :
    wpAny M A (eval (.Name x pos) cenv) Q E s := by
  rcases y with ⟨a, rfl, m, n, q⟩ | ⟨a, b, c⟩
  · exact wpAny_Name (wpAny_loadName_local hk a n q h) hd
  · exact wpAny_Name (wpAny_loadName_cell hk a b c h) hd

theorem cellsFrom_app : ∀ (names : List (Str × NameKind)) (n : Nat) (acc : List (Str × Addr)), cellsFrom n names acc = cellsFrom n names [] ++ acc
  | [], _, _ => rfl
  | (x, k) :: r, n, acc => by
    unfold cellsFrom
    split
    · rw [cellsFrom_app r (n + 1) ((x, n) :: acc), cellsFrom_app r (n + 1) [(x, n)], List.append_assoc]; rfl
    · exact cellsFrom_app r n acc

theorem newCompEnv {scope : Scope} {cl : List (Str × Addr)} {env : Env} {Q : Env → Shared → Prop}
    (h : ∀ h₁, h₁.Ns s.heap.objs.size (fun _ => none) → Keep s.heap h₁ → (∀ n c, (n, c) ∈ cellsFrom (s.heap.objs.size + 1) scope.names [] → h₁.IsCell c none ∧ s.heap.objs.size < c) →
      Q { scope, locals := s.heap.objs.size, globals := env.globals, cells := cellsFrom (s.heap.objs.size + 1) scope.names cl, qual := env.qual, func := none, code := env.code, frame := env.frame, builtins := env.builtins } (at_ s h₁ s.toks)) :
    wpAny M A (newFunctionEnv scope env.globals cl [] env.qual none .none (some env)) Q E s := by
  simp only [newFunctionEnv, Option.isSome_some, if_true]
  refine wpAny_bind (wpAny_alloc ?_)
  refine wpAny_bind (wpAny_layCells _ (fun name kind cells => by cases hkc : kind == NameKind.cell <;> simp) _ _ _ _ ?_)
  have ok := cellsFrom_ok scope.names (s.heap.push { cls := .type "dict", data := .dict #[] }) (s.heap.objs.size + 1) [] ⟨fun _ _ hm => (nomatch hm), List.Pairwise.nil⟩ (by rw [Heap.size_push]; exact Nat.le_refl _)
  rw [Heap.size_push] at ok
  rw [show ({ s with heap := s.heap.push { cls := .type "dict", data := .dict #[] } } : Shared).heap.objs.size = s.heap.objs.size + 1 from Heap.size_push ..]
  refine wpAny_bind ?_
  rw [List.forIn_nil]
  refine wpAny_pure (wpAny_pure ?_)
  exact h _ ((Heap.Ns.new s.heap (.type "dict")).keeps (pushCells_keeps _ _)) (fun b o e => pushCells_keeps _ _ b o (Heap.get?_push_of_some _ e)) fun n c hm => ⟨(ok.empty n c hm).1, (ok.empty n c hm).2⟩
end

/-- what one turn of a comprehension does -/
structure CompOK (prog : Program) (w : World) (A : Around) (scope : Scope) (cl : List (Str × Addr)) (env : Env) (elt : Expr) (x : Str) (s₁ : Shared) (n : Nat) (P : Nat → Value → Prop) (J : List Value → Heap → Prop) : Prop where
  mono : ∀ ys h h', Keep h h' → J ys h → J ys h'
  nil : ∀ h, J [] h
  elt : ∀ (C Z : Nat) (i : Nat) v ys h tk (out : List Addr) E', i < n → P i v → Hold (cenvOf scope cl C env) x Z (some v) h → ys.length = i → J ys (hideAll h out) → Keep s₁.heap h → s₁.heap.objs.size ≤ C →
    (∀ b ∈ out, ∃ o, h.get? b = some o) → (∀ b ∈ out, s₁.heap.objs.size ≤ b) → s₁.heap.objs.size ≤ h.objs.size →
    wpAny (model prog w) A (eval elt (cenvOf scope cl C env)) (fun y s' => ∃ h' tk', s' = at_ s₁ h' tk' ∧ Keep h h' ∧ J (ys ++ [y]) (hideAll h' out)) E' (at_ s₁ h tk)

theorem live_lt {h h' : Heap} {out : List Addr} (x : ∀ b ∈ out, ∃ o, h.get? b = some o) (k : Keep h h') : ∀ b ∈ out, @LT.lt Nat _ b h'.objs.size := fun b hb => let ⟨_, e⟩ := x b hb; ltS (k _ _ e)
theorem hide_keep {h h' : Heap} {as : List Addr} (k : Keep h h') : Keep (hideAll h as) (hideAll h' as) := fun b o e => by
  have hn : b ∉ as := fun m => by have := hideAll_none (h := h) as m; rw [e] at this; cases this
  exact hideAll_get _ (k b o (of_hideAll _ e)) hn
theorem hide_keepBut {h h' : Heap} {as : List Addr} (k : ∀ b o, b ∉ as → h.get? b = some o → h'.get? b = some o) : Keep (hideAll h as) (hideAll h' as) := fun b o e => by
  have hn : b ∉ as := fun m => by have := hideAll_none (h := h) as m; rw [e] at this; cases this
  exact hideAll_get _ (k b o hn (of_hideAll _ e)) hn

section
variable {prog : Program} {w : World} {A : Around} {E : Value → Shared → Prop} {env : Env}

theorem comp_core {elt iter : Expr} {x : Str} {px : Pos} {scope : Scope} {cl : List (Str × Addr)} {pos : Pos} {s₁ : Shared} {h₂ : Heap} {tk₂ : Nat} {I : Nat} {fp : List Addr} {n : Nat} {P : Nat → Value → Prop} {St : Nat → Heap → Prop}
    {J : List Value → Heap → Prop} {RR : Value → Nat → Result → Shared → Prop} (W : Walks prog w A I fp [I] n P St) (hsz : n ≤ sizeLine) (hst : St 0 h₂) (hfp : ∀ b ∈ fp, @LT.lt Nat _ b h₂.objs.size) (hI : s₁.heap.objs.size ≤ I) (hlive : I < h₂.objs.size)
    (hliveI : ∀ i h, St i h → ∃ o, h.get? I = some o)
    (hk : Keep s₁.heap h₂) (hz : s₁.heap.objs.size ≤ h₂.objs.size) (hkind : scope.kind = .function)
    (hx : ∀ C : Nat, ((cenvOf scope cl C env).kindOf x = some .local) ∨ ((cenvOf scope cl C env).kindOf x = some .cell ∧ ∃ c, (x, c) ∈ cellsFrom (C + 1) scope.names [] ∧ (cenvOf scope cl C env).cells.lookup x = some c))
    (K : CompOK prog w A scope cl env elt x s₁ n P J)
    (hRR : ∀ (D C : Nat) h' tk (ys : List Value) m', ys.length = n → J ys (hideAll h' [C]) → PlainL h' D ys.toArray → h'.Ns C m' → Keep s₁.heap h' → s₁.heap.objs.size ≤ D → s₁.heap.objs.size ≤ C → D ≠ C → RR (.ref D) C (.ok .next) (at_ s₁ h' tk)) :
    wpAny (model prog w) A (newList []) (fun acc s₃ => wpAny (model prog w) A (newFunctionEnv scope env.globals cl [] env.qual none .none (some env)) (fun cenv s₄ =>
      codeAny (model prog w) A (.compStart (.ListComp elt [⟨.Name x px, iter, [], 0⟩] scope pos) 0 (.ref I) acc { cenv with scope := relabel scope env }) (RR acc cenv.locals) s₄) E s₃) E (at_ s₁ h₂ tk₂) := by
  refine wpAny_newObj_type (newCompEnv fun h₄ hns₄ hk₄ hce => ?_)
  dsimp only at hns₄ hk₄ hce ⊢
  generalize hH3 : h₂.push { cls := .type "list", dict := none, data := .seq ([] : List Value).toArray } = h₃ at hns₄ hk₄ hce ⊢
  have hC : h₃.objs.size = h₂.objs.size + 1 := by rw [← hH3, Heap.size_push]
  have k23 : Keep h₂ h₃ := fun b o e => hH3 ▸ Heap.get?_push_of_some _ e
  have hD4 : PlainL h₄ h₂.objs.size #[] := ⟨_, _, hk₄ _ _ (hH3 ▸ Heap.get?_push_size _ rfl), rfl, rfl, rfl⟩
  have hZ : ∃ Z : Nat, Hold (cenvOf scope cl h₃.objs.size env) x Z none h₄ ∧ h₃.objs.size ≤ Z := by
    rcases hx h₃.objs.size with h | ⟨h, c, hm, hl⟩
    · exact ⟨h₃.objs.size, .inl ⟨h, rfl, _, hns₄, rfl⟩, Nat.le_refl _⟩
    · exact ⟨c, .inr ⟨h, hl, (hce x c hm).1⟩, Nat.le_of_lt (hce x c hm).2⟩
  obtain ⟨Z, hZ, hZl⟩ := hZ
  have hIf : I < h₂.objs.size := hlive
  have fin : ∀ s₄ : Shared, s₄ = at_ s₁ h₄ tk₂ →
      codeAny (model prog w) A (.compLoop (.ListComp elt [⟨.Name x px, iter, [], 0⟩] scope pos) 0 (.ref I) (.ref h₂.objs.size) (cenvOf scope cl h₃.objs.size env)) (RR (.ref h₂.objs.size) h₃.objs.size) s₄ := by
    rintro s₄ rfl
    refine codeAny_compLoop_tests
      (fun k s' => ∃ h tk i ys, s' = at_ s₁ h tk ∧ St i h ∧ (∃ v, Hold (cenvOf scope cl h₃.objs.size env) x Z v h) ∧ (∃ m, h.Ns h₃.objs.size m) ∧ PlainL h h₂.objs.size ys.toArray ∧ J ys (hideAll h [Z, h₃.objs.size, h₂.objs.size, I]) ∧ ys.length = i ∧ i ≤ n ∧ k = n + 1 - i ∧ Keep s₁.heap h)
      ?_ (n + 1) ⟨h₄, tk₂, 0, [], rfl, W.frame _ _ _ hst fun b _ o e => hk₄ _ _ (k23 _ _ e), ⟨_, hZ⟩, ⟨_, hns₄⟩, hD4, K.nil _, rfl, Nat.zero_le _, rfl, fun b o e => hk₄ _ _ (k23 _ _ (hk _ _ e))⟩
    rintro k s' ⟨h, tk, i, ys, rfl, st, ⟨v0, hH⟩, ⟨m, hns⟩, hD, hJ, hl, hi, rfl, hks⟩
    have hneI : ∀ {b : Nat}, h₂.objs.size ≤ b → b ∉ [I] := fun {b} hb hm => by
      have q : @Eq Nat b I := List.mem_singleton.mp hm
      omega
    by_cases hlt : i < n
    · refine W.item i (at_ s₁ h tk) _ _ hlt st fun v h₅ tk₅ hP st₅ hk₅ => ?_
      have hH₅ : Hold (cenvOf scope cl h₃.objs.size env) x Z v0 h₅ := hH.keep fun o e => hk₅ _ _ (hneI (by omega)) e
      refine wpAny_assign_Name (store_hold (s := at_ s₁ h₅ tk₅) hH₅ hkind fun h₆ tk₆ hH₆ hs₆ => ?_)
      have k06 : ∀ b o, b ≠ Z → b ∉ [I] → h.get? b = some o → h₆.get? b = some o := fun b o hb hb' e => hs₆.extBut b o hb (hk₅ b o hb' e)
      have hDZ : h₂.objs.size ≠ Z := by omega
      have hD₆ : PlainL h₆ h₂.objs.size ys.toArray := let ⟨o, n, e, r⟩ := hD; ⟨o, n, k06 _ _ hDZ (hneI (Nat.le_refl _)) e, r⟩
      have st₆ : St (i + 1) h₆ := W.frame _ _ _ st₅ fun b hb o e => hs₆.extBut b o (fun q => by
        have := hfp b hb
        have q' : @Eq Nat b Z := q
        omega) e
      have hns₆ : ∃ m, h₆.Ns h₃.objs.size m := by
        rcases hH₆ with ⟨_, q, m', n', _⟩ | ⟨a6, _, c⟩
        · exact ⟨m', by rw [← show Z = h₃.objs.size from q]; exact n'⟩
        · refine ⟨m, hns.at' fun o e => k06 _ _ (fun q => ?_) (hneI (by omega)) e⟩
          have q' : h₃.objs.size = Z := q
          rcases hH with ⟨a, _⟩ | ⟨_, _, o', e', d'⟩
          · rw [a] at a6; cases a6
          · rw [← q', e] at e'; cases e'
            obtain ⟨o₂, es, ep, e₂, d₂, _⟩ := hns
            rw [e] at e₂; cases e₂; rw [d₂] at d'; cases d'
      have kJ : Keep (hideAll h [Z, h₃.objs.size, h₂.objs.size, I]) (hideAll h₆ [Z, h₃.objs.size, h₂.objs.size, I]) := hide_keepBut fun b o hb e => k06 b o (fun q => hb (by rw [q]; exact .head _)) (fun q => hb (by rw [List.mem_singleton.mp q]; simp)) e
      have hks₆ : Keep s₁.heap h₆ := fun b o e => k06 b o (fun q => by
        have := ltS e
        have q' : @Eq Nat b Z := q
        omega) (fun q => by
        have := ltS e
        have q' : @Eq Nat b I := List.mem_singleton.mp q
        omega) (hks b o e)
      have hI₆ : I < h₆.objs.size := let ⟨o, e⟩ := hliveI _ _ st₆; ltS e
      have hZ₆ : Z < h₆.objs.size := hH₆.lt
      have hDl : h₂.objs.size < h₆.objs.size := hD₆.lt
      refine wpAny_tests_nil ?_
      rw [if_pos rfl]
      refine wpAny_mono (K.elt h₃.objs.size Z i v ys h₆ tk₆ [Z, h₃.objs.size, h₂.objs.size, I] _ hlt hP hH₆ hl (K.mono _ _ _ kJ hJ) hks₆ (by omega) (fun b hb => ?_) (fun b hb => ?_) (by omega)) (fun y s₇ hy => ?_) fun _ _ q => q
      · rcases List.mem_cons.mp hb with q | hb
        · rw [q]
          rcases hH₆ with ⟨_, _, m', ⟨o, _, _, e, _⟩, _⟩ | ⟨_, _, o, e, _⟩
          · exact ⟨o, e⟩
          · exact ⟨o, e⟩
        rcases List.mem_cons.mp hb with q | hb
        · rw [q]
          obtain ⟨m₆, ⟨o, _, _, e, _⟩⟩ := hns₆
          exact ⟨o, e⟩
        rcases List.mem_cons.mp hb with q | hb
        · rw [q]
          obtain ⟨o, n, e, _⟩ := hD₆
          exact ⟨o, e⟩
        · rw [List.mem_singleton.mp hb]
          exact hliveI _ _ st₆
      · rcases List.mem_cons.mp hb with q | hb
        · have q' : @Eq Nat b Z := q
          show @LE.le Nat _ s₁.heap.objs.size b
          omega
        rcases List.mem_cons.mp hb with q | hb
        · have q' : @Eq Nat b h₃.objs.size := q
          show @LE.le Nat _ s₁.heap.objs.size b
          omega
        rcases List.mem_cons.mp hb with q | hb
        · have q' : @Eq Nat b h₂.objs.size := q
          show @LE.le Nat _ s₁.heap.objs.size b
          omega
        · have q' : @Eq Nat b I := List.mem_singleton.mp hb
          show @LE.le Nat _ s₁.heap.objs.size b
          omega
      · obtain ⟨h₇, tk₇, rfl, hk₇, hJ₇⟩ := hy
        refine list_append_plainL (s := at_ s₁ h₇ tk₇) (hD₆.keeps hk₇) (fun h₈ hD₈ hs₈ => ?_) (by simp; omega)
        have hns₇ := hns₆
        obtain ⟨m₆, hns₆⟩ := hns₆
        refine ⟨n + 1 - (i + 1), by omega, h₈, tk₇, i + 1, ys ++ [y], rfl, ?_, ⟨_, (hH₆.keep fun o e => hs₈.extBut _ _ (Ne.symm hDZ) (hk₇ _ _ e))⟩, ⟨m₆, hns₆.at' fun o e => hs₈.extBut _ _ (show h₃.objs.size ≠ h₂.objs.size by omega) (hk₇ _ _ e)⟩,
          by simpa using hD₈, ?_, by simp [hl], hlt, rfl, fun b o e => hs₈.extBut b o (fun q => by
            have := ltS e
            have q' : @Eq Nat b h₂.objs.size := q
            omega) (hk₇ _ _ (hks₆ b o e))⟩
        · refine W.frame _ _ _ st₆ fun b hb o e => hs₈.extBut b o (fun q => ?_) (hk₇ _ _ e)
          have := hfp b hb
          have q' : @Eq Nat b h₂.objs.size := q
          omega
        · exact K.mono _ _ _ (hide_keepBut fun b o hb e => hs₈.extBut b o (fun q => hb (by rw [q]; simp)) e) hJ₇
    · have hin : i = n := by omega
      subst hin
      refine W.done (at_ s₁ h tk) _ _ st fun h₅ tk₅ hk₅ => ?_
      refine hRR h₂.objs.size h₃.objs.size h₅ tk₅ ys m hl ?_ (let ⟨o, n, e, r⟩ := hD; ⟨o, n, hk₅ _ _ (hneI (Nat.le_refl _)) e, r⟩) (hns.at' fun o e => hk₅ _ _ (hneI (by omega)) e) (fun b o e => hk₅ _ _ (fun q => ?_) (hks b o e)) hz (by omega) (by omega)
      · refine K.mono _ _ _ (fun b o e => ?_) hJ
        have hn : b ∉ [Z, h₃.objs.size, h₂.objs.size, I] := fun mm => by have := hideAll_none (h := h) _ mm; rw [e] at this; cases this
        have e' := of_hideAll _ e
        exact hideAll_get _ (hk₅ b o (fun q => hn (by rw [List.mem_singleton.mp q]; simp)) e') fun q => hn (by rw [List.mem_singleton.mp q]; simp)
      · have := ltS e
        have q' : @Eq Nat b I := List.mem_singleton.mp q
        omega
  exact codeAny_compStart_list (fin _ rfl) (W.self 0 _ _ _ (W.frame _ _ _ hst fun b _ o e => hk₄ _ _ (k23 _ _ e)) (fin _ rfl))
end
end Mine
end

section
open PySem PySem.W PyProof.Rows PySem.Calls
namespace Mine

theorem hide_new {h : Heap} {out : List Addr} {b N : Nat} {o : Obj} (hout : ∀ b ∈ out, @LT.lt Nat _ b N) (hb : N ≤ b) (e : h.get? b = some o) : (hideAll h out).get? b = some o :=
  hideAll_get _ e fun m => by have : @LT.lt Nat _ b N := hout b m; omega

/-- the loop's name is the comprehension's own -/
abbrev OwnName (scope : Scope) (cl : List (Str × Addr)) (env : Env) (x : Str) : Prop :=
  ∀ C : Nat, ((cenvOf scope cl C env).kindOf x = some .local) ∨ ((cenvOf scope cl C env).kindOf x = some .cell ∧ ∃ c, (x, c) ∈ cellsFrom (C + 1) scope.names [] ∧ (cenvOf scope cl C env).cells.lookup x = some c)

section
variable {prog : Program} {w : World} {A : Around} {E : Value → Shared → Prop} {env : Env} {s : Shared}

/-- what is left after a comprehension: its list, in a heap that lacks the block's own frame -/
structure CompEnd (s₁ : Shared) (n : Nat) (J : List Value → Heap → Prop) (D C : Nat) (h' : Heap) (ys : List Value) (m' : Str → Option Value) : Prop where
  len : ys.length = n
  j : J ys (hideAll h' [C])
  list : PlainL h' D ys.toArray
  ns : h'.Ns C m'
  keep : Keep s₁.heap h'
  lo : s₁.heap.objs.size ≤ D
  loC : s₁.heap.objs.size ≤ C
  ne : D ≠ C

theorem comp_list_gen {elt iter : Expr} {x : Str} {px : Pos} {scope : Scope} {cl : List (Str × Addr)} {pos p1 : Pos} {use : Option (Value → Sem Unit)} {Q : Value → Shared → Prop} (hh : A.handled = none)
    (hclos : closureFor scope env = pure cl) (hkind : scope.kind = .function) (hnames : ∀ y ∈ scope.names, y.2 = .local → scope.names.lookup y.1 = some .local) (hx : OwnName scope cl env x)
    (h : wpAny (model prog w) A (eval iter env) (fun xv s₁ => ∃ (ax : Nat) (items : Array Value) (J : List Value → Heap → Prop), xv = .ref ax ∧ s₁.heap.IsList ax items ∧ items.size ≤ sizeLine ∧
      CompOK prog w A scope cl env elt x s₁ items.size (fun i v => items[i]? = some v) J ∧
      ∀ (D C : Nat) h' tk (ys : List Value) m', CompEnd s₁ items.size J D C h' ys m' → compPost (model prog w) A E use Q (.ref D) C (.ok .next) (at_ s₁ h' tk)) E s)
    (hs : ∀ x, foldedSetIterable iter env x = pure x) :
    wpAny (model prog w) A (comprehension (.ListComp elt [⟨.Name x px, iter, [], 0⟩] scope pos) scope env p1 (newList []) false (eval iter env) use) Q E s := by
  refine wpAny_comprehension_free (use := use) rfl hs hclos hkind hnames (wpAny_mono h (fun xv s₁ h₁ => ?_) fun _ _ e => e)
  obtain ⟨ax, items, J, rfl, hl, hsz, K, hQ⟩ := h₁
  refine wpAny_pyIter_list hl ?_
  have hax : @LT.lt Nat _ ax s₁.heap.objs.size := let ⟨o, e, _⟩ := hl; ltS e
  have hz : (s₁.heap.push { cls := .type "list_iterator", data := .fields #[.ref ax, .int 0 0] }).objs.size = s₁.heap.objs.size + 1 := Heap.size_push ..
  refine comp_core (s₁ := s₁) (tk₂ := s₁.toks) (J := J) (RR := fun acc C => compPost (model prog w) A E use Q acc C) (Walks.list hh s₁.heap.objs.size ax (Nat.ne_of_lt hax) items) hsz ⟨⟨_, Heap.get?_push_size _ rfl, rfl, rfl⟩, let ⟨o, e, r⟩ := hl; ⟨o, Heap.get?_push_of_some _ e, r⟩⟩ (fun b hb => ?_) (Nat.le_refl _) (by omega)
    (fun i h st => ?_) (fun b o e => Heap.get?_push_of_some _ e) (by omega) hkind hx K fun D C h' tk ys m' a b c d e f g i => hQ D C h' tk ys m' ⟨a, b, c, d, e, f, g, i⟩
  · rcases List.mem_cons.mp hb with q | hb
    · have q' : @Eq Nat b s₁.heap.objs.size := q
      omega
    · have q' : @Eq Nat b ax := List.mem_singleton.mp hb
      omega
  · obtain ⟨⟨o, e, _⟩, _⟩ := st
    exact ⟨o, e⟩

theorem comp_range_gen {elt iter : Expr} {x : Str} {px : Pos} {scope : Scope} {cl : List (Str × Addr)} {pos p1 : Pos} {use : Option (Value → Sem Unit)} {Q : Value → Shared → Prop} (hh : A.handled = none)
    (hclos : closureFor scope env = pure cl) (hkind : scope.kind = .function) (hnames : ∀ y ∈ scope.names, y.2 = .local → scope.names.lookup y.1 = some .local) (hx : OwnName scope cl env x)
    (h : wpAny (model prog w) A (eval iter env) (fun xv s₁ => ∃ (r : Nat) (a b c : Int) (t u v : Tok) (n : Nat) (J : List Value → Heap → Prop), xv = .ref r ∧ IsRange s₁.heap r a b c t u v ∧ Builtin.Range.small a b c = true ∧ Builtin.Range.rangeSize a b c = n ∧ n ≤ sizeLine ∧
      CompOK prog w A scope cl env elt x s₁ n (fun i v => ∃ t, v = .int (a + i * c) t) J ∧
      ∀ (D C : Nat) h' tk (ys : List Value) m', CompEnd s₁ n J D C h' ys m' → compPost (model prog w) A E use Q (.ref D) C (.ok .next) (at_ s₁ h' tk)) E s)
    (hs : ∀ x, foldedSetIterable iter env x = pure x) :
    wpAny (model prog w) A (comprehension (.ListComp elt [⟨.Name x px, iter, [], 0⟩] scope pos) scope env p1 (newList []) false (eval iter env) use) Q E s := by
  refine wpAny_comprehension_free (use := use) rfl hs hclos hkind hnames (wpAny_mono h (fun xv s₁ h₁ => ?_) fun _ _ e => e)
  obtain ⟨r, a, b, c, t, u, v, n, J, rfl, hr, hsm, hn, hsz, K, hQ⟩ := h₁
  refine wpAny_pyIter_range hr hsm ?_
  have hz : (s₁.heap.push { cls := .type "range_iterator", data := .fields #[rawInt a, rawInt (Builtin.Range.rangeSize a b c), rawInt c] }).objs.size = s₁.heap.objs.size + 1 := Heap.size_push ..
  refine comp_core (s₁ := s₁) (tk₂ := s₁.toks) (J := J) (RR := fun acc C => compPost (model prog w) A E use Q acc C) (Walks.range hh s₁.heap.objs.size a c n) hsz ?_ (fun b hb => ?_) (Nat.le_refl _) (by omega) (fun i h st => ⟨_, st⟩) (fun b o e => Heap.get?_push_of_some _ e) (by omega) hkind hx K
    fun D C h' tk ys m' a b c d e f g i => hQ D C h' tk ys m' ⟨a, b, c, d, e, f, g, i⟩
  · have e1 : (a + ((0 : Nat) : Int) * c) = a := by simp
    have e2 : ((n : Int) - ((0 : Nat) : Int)) = Builtin.Range.rangeSize a b c := by rw [hn]; simp
    show IsRangeIter _ _ _ _ _
    rw [e1, e2]
    exact Heap.get?_push_size _ rfl
  · have q' : @Eq Nat b s₁.heap.objs.size := List.mem_singleton.mp hb
    omega

theorem comp_post_none {s₁ : Shared} {n : Nat} {J : List Value → Heap → Prop} {D C : Nat} {h' : Heap} {tk : Nat} {ys : List Value} {m' : Str → Option Value} {Q : Value → Shared → Prop} (mono : ∀ ys h h', Keep h h' → J ys h → J ys h')
    (X : CompEnd s₁ n J D C h' ys m') (hQ : ∀ h'' tk, ys.length = n → J ys h'' → PlainL h'' D ys.toArray → Keep s₁.heap h'' → s₁.heap.objs.size ≤ D → Q (.ref D) (at_ s₁ h'' tk)) :
    compPost (model prog w) A E none Q (.ref D) C (.ok .next) (at_ s₁ h' tk) := by
  refine ⟨m', X.ns, fun h'' hs => hQ h'' _ X.len (mono _ _ _ (fun b o e => ?_) X.j) (let ⟨o, n, e, r⟩ := X.list; ⟨o, n, hs.extBut _ _ X.ne e, r⟩) (fun b o e => hs.extBut b o (fun q => ?_) (X.keep b o e)) X.lo⟩
  · refine hs.extBut b o (fun q => ?_) (of_hideAll _ e)
    have := hideAll_none (h := h') [C] (b := b) (by rw [q]; simp)
    rw [e] at this; cases this
  · have q' : @Eq Nat b C := q
    have := ltS e
    have := X.loC
    omega

theorem comp_post_store {s₁ : Shared} {n : Nat} {J : List Value → Heap → Prop} {D C : Nat} {h' : Heap} {tk : Nat} {ys : List Value} {m m' : Str → Option Value} {y : Str} {py : Pos} {Q : Value → Shared → Prop}
    (X : CompEnd s₁ n J D C h' ys m') (hy : env.kindOf y = some .local) (hp : env.scope.kind = .function) (hn : s₁.heap.Ns env.locals m)
    (hQ : ∀ h₀ h'' tk, ys.length = n → J ys h₀ → PlainL h₀ D ys.toArray → Keep s₁.heap h₀ → s₁.heap.objs.size ≤ D → h''.Ns env.locals (fun z => if z = y then some (.ref D) else m z) → KeepBut (fun b => b = env.locals) h₀ h'' → h''.objs.size = h₀.objs.size → Q .none (at_ s₁ h'' tk)) :
    compPost (model prog w) A E (some (assign (.Name y py) env)) Q (.ref D) C (.ok .next) (at_ s₁ h' tk) := by
  have hLC : env.locals ≠ C := fun q => by
    have a : @LT.lt Nat _ env.locals s₁.heap.objs.size := hn.lt
    have q' : @Eq Nat env.locals C := q
    have := X.loC
    omega
  show wpAny _ A (assign (.Name y py) env (.ref D)) _ _ _
  refine wpAny_assign_Name (wpAny_storeName_local (s := at_ s₁ h' tk) hy (hn.keeps X.keep) (fun h₂ hn₂ hs₂ => ?_) (by rw [hp]; rfl))
  refine ⟨m', X.ns.sameBut hs₂ (Ne.symm hLC), fun h₃ hs₃ => ?_⟩
  refine hQ (hideAll h' [C]) h₃ _ X.len X.j (let ⟨o, n, e, r⟩ := X.list; ⟨o, n, hideAll_get _ e (by simpa using X.ne), r⟩) (fun b o e => hideAll_get _ (X.keep b o e) fun q => ?_) X.lo (hn₂.sameBut hs₃ hLC) (fun b o hb e => ?_) ?_
  · have q' : @Eq Nat b C := List.mem_singleton.mp q
    have := ltS e
    have := X.loC
    omega
  · have hbC : b ≠ C := fun q => by
      have := hideAll_none (h := h') [C] (b := b) (by rw [q]; simp)
      rw [e] at this; cases this
    exact hs₃.extBut b o hbC (hs₂.extBut b o hb (of_hideAll _ e))
  · rw [hideAll_size, hs₃.1, hs₂.1]

theorem comp_list {elt iter : Expr} {x : Str} {px : Pos} {scope : Scope} {cl : List (Str × Addr)} {pos : Pos} {Q : Value → Shared → Prop} (hh : A.handled = none)
    (hclos : closureFor scope env = pure cl) (hkind : scope.kind = .function) (hnames : ∀ y ∈ scope.names, y.2 = .local → scope.names.lookup y.1 = some .local) (hx : OwnName scope cl env x)
    (h : wpAny (model prog w) A (eval iter env) (fun xv s₁ => ∃ (ax : Nat) (items : Array Value) (J : List Value → Heap → Prop), xv = .ref ax ∧ s₁.heap.IsList ax items ∧ items.size ≤ sizeLine ∧
      CompOK prog w A scope cl env elt x s₁ items.size (fun i v => items[i]? = some v) J ∧
      ∀ (D : Nat) h' tk (ys : List Value), ys.length = items.size → J ys h' → PlainL h' D ys.toArray → Keep s₁.heap h' → s₁.heap.objs.size ≤ D → Q (.ref D) (at_ s₁ h' tk)) E s)
    (hs : ∀ x, foldedSetIterable iter env x = pure x := by intro _; rfl) :
    wpAny (model prog w) A (eval (.ListComp elt [⟨.Name x px, iter, [], 0⟩] scope pos) env) Q E s := by
  rw [eval_ListComp]
  refine comp_list_gen hh hclos hkind hnames hx (wpAny_mono h (fun xv s₁ h₁ => ?_) fun _ _ e => e) hs
  obtain ⟨ax, items, J, a, b, c, K, hQ⟩ := h₁
  exact ⟨ax, items, J, a, b, c, K, fun D C h' tk ys m' X => comp_post_none K.mono X fun h'' tk a b c d e => hQ D h'' tk ys a b c d e⟩

theorem comp_range {elt iter : Expr} {x : Str} {px : Pos} {scope : Scope} {cl : List (Str × Addr)} {pos : Pos} {Q : Value → Shared → Prop} (hh : A.handled = none)
    (hclos : closureFor scope env = pure cl) (hkind : scope.kind = .function) (hnames : ∀ y ∈ scope.names, y.2 = .local → scope.names.lookup y.1 = some .local) (hx : OwnName scope cl env x)
    (h : wpAny (model prog w) A (eval iter env) (fun xv s₁ => ∃ (r : Nat) (a b c : Int) (t u v : Tok) (n : Nat) (J : List Value → Heap → Prop), xv = .ref r ∧ IsRange s₁.heap r a b c t u v ∧ Builtin.Range.small a b c = true ∧ Builtin.Range.rangeSize a b c = n ∧ n ≤ sizeLine ∧
      CompOK prog w A scope cl env elt x s₁ n (fun i v => ∃ t, v = .int (a + i * c) t) J ∧
      ∀ (D : Nat) h' tk (ys : List Value), ys.length = n → J ys h' → PlainL h' D ys.toArray → Keep s₁.heap h' → s₁.heap.objs.size ≤ D → Q (.ref D) (at_ s₁ h' tk)) E s)
    (hs : ∀ x, foldedSetIterable iter env x = pure x := by intro _; rfl) :
    wpAny (model prog w) A (eval (.ListComp elt [⟨.Name x px, iter, [], 0⟩] scope pos) env) Q E s := by
  rw [eval_ListComp]
  refine comp_range_gen hh hclos hkind hnames hx (wpAny_mono h (fun xv s₁ h₁ => ?_) fun _ _ e => e) hs
  obtain ⟨r, a, b, c, t, u, v, n, J, h1, h2, h3, h4, h5, K, hQ⟩ := h₁
  exact ⟨r, a, b, c, t, u, v, n, J, h1, h2, h3, h4, h5, K, fun D C h' tk ys m' X => comp_post_none K.mono X fun h'' tk a b c d e => hQ D h'' tk ys a b c d e⟩

/-- the comprehension as an assignment's value -/
theorem comp_assign {e : Expr} {y : Str} {py spos : Pos} {Q : Flow → Shared → Prop} {elt iter : Expr} {x : Str} {px : Pos} {scope : Scope} {pos : Pos} (he : e = .ListComp elt [⟨.Name x px, iter, [], 0⟩] scope pos)
    (hsw : swapsWith (.ListComp elt [⟨.Name x px, iter, [], 0⟩] scope pos) (some (.Name y py)) spos.line env = pure true)
    (h : ∀ p1, wpAny (model prog w) A (comprehension (.ListComp elt [⟨.Name x px, iter, [], 0⟩] scope pos) scope env p1 (newList []) false (eval iter env) (some (assign (.Name y py) env))) (fun _ s' => Q .next s') E s) :
    wpAny (model prog w) A (exec (.Assign [.Name y py] e spos) env) Q E s := by
  subst he
  rw [exec_Assign_Name_used _ _ _ _ hsw]
  refine wpAny_bind (wpAny_standAt (wpAny_bind ?_))
  show wpAny _ A (do let _ ← comprehension (.ListComp elt [⟨.Name x px, iter, [], 0⟩] scope pos) scope env _ (newList []) false (eval iter env) (some (assign (.Name y py) env))) _ _ s
  exact wpAny_bind (wpAny_mono (h _) (fun _ s' hq => wpAny_pure (wpAny_pure hq)) fun _ _ e => e)
end
end Mine
end

section
open PySem PySem.W PyProof.Rows PySem.Calls
namespace Mine

theorem slicePick_span (items : Array Value) (a b : Nat) (hab : a ≤ b) : slicePick items (some a) (some b) none = ((items.toList.drop a).take (b - a)).toArray := by
  rw [slicePick_plain]
  simp only [Option.elim, clipAt_nat]
  congr 1
  rcases Nat.le_total b items.size with h | h
  · rw [Nat.min_eq_left h, Nat.min_eq_left (by omega)]
  · rw [Nat.min_eq_right h]
    rcases Nat.le_total a items.size with h' | h'
    · rw [Nat.min_eq_left h', List.take_of_length_le (by simp), List.take_of_length_le (by simp; omega)]
    · rw [Nat.min_eq_right h', List.drop_of_length_le (by simp), List.drop_of_length_le (by simpa using h')]; simp

section
variable {prog : Program} {w : World} {A : Around} {E : Value → Shared → Prop} {s : Shared}

theorem List_take {env : Env} {value upper : Expr} {p pos : Pos} {Q : Value → Shared → Prop}
    (h : wpAny (model prog w) A (eval value env) (fun v s₁ => wpAny (model prog w) A (eval upper env) (fun vu s₂ => ∃ (l : Nat) (items : Array Value) (m : Nat) (u : Tok), v = .ref l ∧ vu = .int (m : Nat) u ∧ s₂.heap.IsList l items ∧ items.size ≤ 100000 ∧
      ∀ (D : Nat) h', Keep s₂.heap h' → PlainL h' D (items.toList.take m).toArray → s₂.heap.objs.size ≤ D → s₂.heap.objs.size ≤ h'.objs.size → Q (.ref D) (at_ s₂ h' s₂.toks)) E s₁) E s)
    (ht : ∀ o r, letTemporaryGo value o r = pure () := by intro _ _; rfl) :
    wpAny (model prog w) A (eval (.Subscript value (.Slice none (some upper) none p) pos) env) Q E s := by
  refine wpAny_Subscript_list_slice (wpAny_mono h (fun v s₁ h₁ => ?_) fun _ _ e => e) ht
  rw [evalPart_none, evalPart_some]
  refine wpAny_pure (wpAny_mono h₁ (fun vu s₂ h₂ => ?_) fun _ _ e => e)
  obtain ⟨l, items, m, u, rfl, rfl, hl, hsz, hQ⟩ := h₂
  refine ⟨l, items, none, some (m : Int), rfl, hl, Nat.le_trans hsz (by decide), .none, .int _ _, ?_⟩
  rw [slicePick_upto']
  have hp : (s₂.heap.push { cls := .type "slice", data := .fields #[.none, .int m u, .none] }).objs.size = s₂.heap.objs.size + 1 := Heap.size_push ..
  refine hQ (s₂.heap.objs.size + 1) _ (fun b o e => Heap.get?_push_of_some _ (Heap.get?_push_of_some _ e)) ⟨{ cls := .type "list", data := .seq (items.toList.take m).toArray }, 0, ?_, rfl, rfl, rfl⟩ (Nat.le_succ _) (by rw [Heap.size_push, hp]; omega)
  have := Heap.get?_push_size (s₂.heap.push { cls := .type "slice", data := .fields #[.none, .int m u, .none] }) (o := { cls := .type "list", data := .seq (items.toList.take m).toArray }) rfl
  rw [hp] at this
  exact this

theorem List_span {env : Env} {value lower upper : Expr} {p pos : Pos} {Q : Value → Shared → Prop}
    (h : wpAny (model prog w) A (eval value env) (fun v s₁ => wpAny (model prog w) A (eval lower env) (fun vl s₂ => wpAny (model prog w) A (eval upper env) (fun vu s₃ => ∃ (l : Nat) (items : Array Value) (a b : Nat) (t u : Tok), v = .ref l ∧ vl = .int (a : Nat) t ∧ vu = .int (b : Nat) u ∧
      s₃.heap.IsList l items ∧ items.size ≤ 100000 ∧ a ≤ b ∧
      ∀ (D : Nat) h', Keep s₃.heap h' → PlainL h' D ((items.toList.drop a).take (b - a)).toArray → s₃.heap.objs.size ≤ D → s₃.heap.objs.size ≤ h'.objs.size → Q (.ref D) (at_ s₃ h' s₃.toks)) E s₂) E s₁) E s)
    (ht : ∀ o r, letTemporaryGo value o r = pure () := by intro _ _; rfl) :
    wpAny (model prog w) A (eval (.Subscript value (.Slice (some lower) (some upper) none p) pos) env) Q E s := by
  refine wpAny_Subscript_list_slice (wpAny_mono h (fun v s₁ h₁ => ?_) fun _ _ e => e) ht
  rw [evalPart_some, evalPart_some]
  refine wpAny_mono h₁ (fun vl s₂ h₂ => wpAny_mono h₂ (fun vu s₃ h₃ => ?_) fun _ _ e => e) fun _ _ e => e
  obtain ⟨l, items, a, b, t, u, rfl, rfl, rfl, hl, hsz, hab, hQ⟩ := h₃
  refine ⟨l, items, some (a : Int), some (b : Int), rfl, hl, Nat.le_trans hsz (by decide), .int _ _, .int _ _, ?_⟩
  rw [slicePick_span _ _ _ hab]
  have hp : (s₃.heap.push { cls := .type "slice", data := .fields #[.int a t, .int b u, .none] }).objs.size = s₃.heap.objs.size + 1 := Heap.size_push ..
  refine hQ (s₃.heap.objs.size + 1) _ (fun b o e => Heap.get?_push_of_some _ (Heap.get?_push_of_some _ e)) ⟨{ cls := .type "list", data := .seq ((items.toList.drop a).take (b - a)).toArray }, 0, ?_, rfl, rfl, rfl⟩ (Nat.le_succ _) (by rw [Heap.size_push, hp]; omega)
  have := Heap.get?_push_size (s₃.heap.push { cls := .type "slice", data := .fields #[.int a t, .int b u, .none] }) (o := { cls := .type "list", data := .seq ((items.toList.drop a).take (b - a)).toArray }) rfl
  rw [hp] at this
  exact this
end
end Mine
end

section
open PySem PySem.W PyProof.Rows PySem.Calls
namespace Mine

abbrev rightF (pl : Value) : FuncData := fdOf 6 46 pl
abbrev rightE (pl : Value) (L : Addr) : Env := envN (rightF pl) L 47
theorem right_bind (pl : Value) (v u : Value) : bindArgs (rightF pl) ⟨[v, u], []⟩ = pure [(("rows" : Str), v), (("bad" : Str), u)] := by
  rfl
theorem right_cell (pl : Value) : ∀ x ∈ (rightF pl).scope.names, x.2 ≠ .cell := by
  show ∀ x ∈ (fScope (stm 6)).names, x.2 ≠ .cell
  decide
theorem right_loc (pl : Value) (v u : Value) : ∀ x ∈ ([(("rows" : Str), v), (("bad" : Str), u)] : List (Str × Value)), (rightF pl).scope.names.lookup x.1 = some .local := fun x hx => by
  rcases List.mem_cons.mp hx with rfl | hx
  · rfl
  · rw [List.mem_singleton.mp hx]; rfl
/-- what _law_right answers -/
def rightD (rs : List (List Int)) (bad : Int) : PyData :=
  if 1 ≤ bad ∧ bad ≤ rs.length then .tuple [.none, .str (toString bad), .list ((rs.take bad.toNat).map tupD)]
  else .tuple [.list (rs.map outD), .str "", .list (rs.map tupD)]

theorem RdAll.take {h : Heap} {vs : List Value} {ds : List PyData} (x : RdAll h vs ds) (n : Nat) : RdAll h (vs.take n) (ds.take n) := by
  refine RdAll.of_get (by simp [x.length]) fun i u e h1 h2 => ?_
  rw [List.getElem?_take] at h1 h2
  split at h1
  · obtain ⟨e', he', r⟩ := x.get i u h1
    rw [if_pos (by assumption)] at h2
    rw [he'] at h2; cases h2; exact r
  · cases h1
theorem take_succ' {α : Type} {l : List α} {i : Nat} {x : α} (e : l[i]? = some x) : l.take (i + 1) = l.take i ++ [x] := by rw [List.take_add_one, e]; rfl

section
variable {prog : Program} {w : World} {A : Around} {s : Shared} {pm pl : Value} {mg mb : Str → Option Value} {R : Result → Shared → Prop}

theorem right_call {a : Nat} {items : Array Value} {rs : List (List Int)} {bad : Int} {tb : Tok} (N : Names mg mb) (B : Base pm pl mg mb s.heap) (rm : Room A 4 20) (ha : s.heap.IsList a items) (hr : RdAll s.heap items.toList (rs.map tupD))
    (fit : rs.length ≤ 100000) (fit2 : ∀ r ∈ rs, r.length ≤ 100000) (hbad : bad.natAbs.log2 < 1920)
    (h : ∀ v h' tk, Rd h' v (rightD rs bad) → Keep s.heap h' → s.heap.objs.size ≤ h'.objs.size → R (.ok (.ret v)) (at_ s h' tk)) :
    codeAny (model prog w) A (.call (.ref 47) ⟨[.ref a, .int bad tb], []⟩) R s := by
  obtain ⟨o, ho, hd⟩ := B.right.fn
  have hlen : items.size = rs.length := by simpa using hr.length
  refine call_def (fd := rightF pl) (body := fBody (stm 6)) (by have := rm.depth; omega) ho hd B.lim B.right.code rfl (right_bind pl _ _) (right_cell pl) (right_loc pl _ _) (fun h₁ tk hns hk hz => ?_) rfl rfl rfl
  have B₁ := B.keep hk
  have ha₁ : h₁.IsList a items := let ⟨o, e, r⟩ := ha; ⟨o, hk _ _ e, r⟩
  have hr₁ : RdAll h₁ items.toList (rs.map tupD) := hr.keep hk
  have rm₁ : Room (A.deeper (rightE pl s.heap.objs.size)) 3 17 := (rm.less (d' := 3 + 1) (u' := 17 + 3) (by omega) (by omega)).deeper
  refine wpAny_execs_cons (wpAny_If (isTrue_chain (wpAny_Constant_int (test_link ?_))))
  refine ldL (s := at_ s h₁ (tk + 1)) hns (v := .int bad tb) rfl (le_int (wpAny_truthy_bool ?_)) rfl rfl (by decide)
  have finish : ¬ (1 ≤ bad ∧ bad ≤ rs.length) → ∀ tk', wpAny (model prog w) (A.deeper (rightE pl s.heap.objs.size)) (execs ((fBody (stm 6)).drop 1) (rightE pl s.heap.objs.size)) (fun f s' => R (.ok (.ret (match f with | .ret v => v | _ => .none))) s')
      (fun e s' => wpAny (model prog w) (A.deeper (rightE pl s.heap.objs.size)) (leaving (rightE pl s.heap.objs.size) e) (fun _ s'' => R (.error e) s'') (fun e' s'' => R (.error e') s'') s') (at_ s h₁ tk') := by
    intro hno tk'
    refine wpAny_execs_cons (wpAny_Return_some (wpAny_Tuple_spliced (args_cons ?_)))
    refine comp_list (cl := []) rm₁.hh rfl rfl (by decide) (fun _ => .inl rfl) ?_
    refine ldL (s := at_ s h₁ tk') hns (v := .ref a) rfl ⟨a, items, fun ys h => RdAll h ys ((rs.take ys.length).map outD), rfl, ha₁, by rw [hlen]; exact Nat.le_trans fit (by decide), ?_, ?_⟩ rfl rfl (by decide)
    · refine ⟨fun ys h h' k x => x.keep k, fun h => RdAll.nil, ?_⟩
      intro C Z i v ys h tk₂ out E' hi hP hH hl hJ hks hC hout hlow hzz
      obtain ⟨d, hd, hv⟩ := hr₁.get i v (by simpa using hP)
      rw [List.getElem?_map] at hd
      cases hri : rs[i]? with
      | none => rw [hri] at hd; cases hd
      | some r =>
        rw [hri] at hd; cases hd
        obtain ⟨b, xs, rfl, hb, hxs⟩ := hv.isTuple
        have hI : Ints xs.toList r := Ints.of_rd hxs
        have hbt : h.IsTuple b xs := let ⟨o, e, r⟩ := hb; ⟨o, hks _ _ e, r⟩
        have hxl : xs.size = r.length := by simpa using hI.length
        have hrl : r.length ≤ 100000 := fit2 r (List.mem_of_getElem? hri)
        have B₂ : Base pm pl mg mb h := B₁.keep hks
        refine wpAny_Tuple_spliced (args_cons ?_)
        refine wpAny_Call_NameR (ldB (s := at_ s h tk₂) B₂ (N.no _ (by decide)) N.len ?_ rfl rfl rfl rfl (by decide))
        refine callWith_builtin1 (args_cons ?_)
        refine ldH (s := at_ s h tk₂) hH rfl (args_nil ?_) (by decide)
        refine len_tuple (s := at_ s h tk₂) hbt (by rw [hxl]; omega) (args_cons (Subscript_rev ?_))
        refine ldH (s := at_ s h (tk₂ + 1 + 1)) hH rfl ⟨b, xs, rfl, hbt, by omega, fun b' h₃ tk₃ hk₃ hb₃ hlo hz₃ => args_nil ⟨by simp [sizeLine], ?_⟩⟩ (by decide)
        have hlo' : h.objs.size ≤ b' := hlo
        have hz₃' : h.objs.size ≤ h₃.objs.size := hz₃
        refine ⟨_, _, rfl, fun b o e => Heap.get?_push_of_some _ (hk₃ b o e), ?_⟩
        rw [show (rs.take (ys ++ [Value.ref h₃.objs.size]).length).map outD = (rs.take ys.length).map outD ++ [outD r] by
          rw [List.length_append, List.length_singleton, hl, take_succ' hri, List.map_append]; rfl]
        refine RdAll.append (hJ.keep (hide_keep fun b o e => Heap.get?_push_of_some _ (hk₃ b o e))) (.one ?_)
        refine Rd.tuple (n := 0) (hide_new (live_lt hout fun _ _ e => e) hz₃' (Heap.get?_push_size _ rfl)) rfl rfl (.cons ?_ (.one ?_))
        · rw [← hxl]; exact .int
        · refine Rd.ofTuple (xs := xs.toList.reverse.toArray) ?_ ?_
          · obtain ⟨o, e, r⟩ := hb₃
            exact ⟨o, hide_new (live_lt hout fun _ _ e => e) hlo' (Heap.get?_push_of_some _ e), r⟩
          · have := RdAll.reverse (hI.rd (hideAll (h₃.push { cls := .type "tuple", data := .seq #[.int xs.size (tk₂ + 1), .ref b'] }) out))
            simpa using this
    · intro D h₂ tk₂ ys hl hJ hD hk₂ hlo
      refine args_cons (wpAny_Constant_str (args_cons (ldL (s := at_ s h₂ (tk₂ + 1)) (hns.keeps hk₂) (v := .ref a) rfl (args_nil ⟨by simp [sizeLine], ?_⟩) rfl rfl (by decide))))
      have kp : Keep h₂ (h₂.push { cls := .type "tuple", data := .seq #[.ref D, .str "" tk₂, .ref a] }) := fun b o e => Heap.get?_push_of_some _ e
      refine h _ _ _ ?_ (fun b o e => kp b o (hk₂ b o (hk b o e))) ?_
      · rw [rightD, if_neg hno]
        refine Rd.tuple (n := 0) (Heap.get?_push_size _ rfl) rfl rfl (.cons ?_ (.cons .str (.one ?_)))
        · refine Rd.ofList (xs := ys.toArray) (hD.keeps kp).isList ?_
          have := hJ.keep kp
          rw [hl, hlen, List.take_of_length_le (Nat.le_refl _)] at this
          simpa using this
        · exact Rd.ofList (xs := items) (let ⟨o, e, r⟩ := ha₁; ⟨o, kp _ _ (hk₂ _ _ e), r⟩) (hr₁.keep fun b o e => kp b o (hk₂ b o e))
      · have : s.heap.objs.size < h₂.objs.size := ltS (hk₂ _ _ hns.choose_spec.choose_spec.choose_spec.1)
        show s.heap.objs.size ≤ (h₂.push _).objs.size
        rw [Heap.size_push]; omega
  by_cases h1 : 1 ≤ bad
  · rw [if_pos (by simpa using h1)]
    refine test_last ?_
    refine wpAny_Call_NameR (ldB (s := at_ s h₁ (tk + 1)) B₁ (N.no _ (by decide)) N.len ?_ rfl rfl rfl rfl (by decide))
    refine callWith_builtin1 (args_cons (ldL (s := at_ s h₁ (tk + 1)) hns (v := .ref a) rfl (args_nil ?_) rfl rfl (by decide)))
    refine call_len_list (s := at_ s h₁ (tk + 1)) ha₁ (by rw [hlen]; omega) (le_int (wpAny_truthy_bool ?_))
    rw [hlen]
    by_cases h2 : bad ≤ rs.length
    · rw [if_pos (by simpa using h2)]
      refine wpAny_execs_cons (wpAny_Return_some (wpAny_Tuple_spliced (args_cons (wpAny_Constant_none (args_cons ?_)))))
      refine wpAny_Call_NameR (ldB (s := at_ s h₁ (tk + 1 + 1 + 1)) B₁ (N.no _ (by decide)) N.str ?_ rfl rfl rfl rfl (by decide))
      refine callWith_type1 (args_cons (ldL (s := at_ s h₁ (tk + 1 + 1 + 1)) hns (v := .int bad tb) rfl (args_nil ?_) rfl rfl (by decide)))
      refine P.str_of_int hbad (args_cons (List_take ?_))
      refine ldL (s := at_ s h₁ _) hns (v := .ref a) rfl (ldL (s := at_ s h₁ _) hns (v := .int bad tb) rfl ?_ rfl rfl (by decide)) rfl rfl (by decide)
      have hbn : bad = ((bad.toNat : Nat) : Int) := by omega
      refine ⟨a, items, bad.toNat, tb, rfl, by rw [← hbn], ha₁, by omega, fun D h₂ hk₂ hD hlo hz₂ => args_nil ⟨by simp [sizeLine], ?_⟩⟩
      have hk₂' : Keep h₁ h₂ := hk₂
      refine h _ _ _ ?_ (fun b o e => Heap.get?_push_of_some _ (hk₂' b o (hk b o e))) ?_
      · rw [rightD, if_pos ⟨h1, h2⟩]
        refine Rd.tuple (n := 0) (Heap.get?_push_size _ rfl) rfl rfl (.cons .none (.cons .str (.one ?_)))
        refine Rd.ofList (xs := (items.toList.take bad.toNat).toArray) (hD.keeps fun b o e => Heap.get?_push_of_some _ e).isList ?_
        have := (hr₁.take bad.toNat).keep (h' := h₂.push { cls := .type "tuple", data := .seq [Value.none, .str (toString bad) (tk + 1 + 1 + 1), .ref D].toArray }) fun b o e => Heap.get?_push_of_some _ (hk₂' b o e)
        simpa using this
      · have hz₂' : h₁.objs.size ≤ h₂.objs.size := hz₂
        show s.heap.objs.size ≤ (h₂.push _).objs.size
        rw [Heap.size_push]; omega
    · rw [if_neg (by simpa using h2)]
      refine wpAny_execs_nil ?_
      exact finish (fun q => h2 q.2) _
  · rw [if_neg (by simpa using h1)]
    rw [if_neg Bool.false_ne_true]
    refine wpAny_execs_nil ?_
    exact finish (fun q => h1 q.1) _
end
end Mine
end

section
open PySem PySem.W PyProof.Rows PySem.Calls
namespace Mine

abbrev refF (pl : Value) : FuncData := fdOf 7 53 pl
abbrev refE (pl : Value) (L : Addr) : Env := envN (refF pl) L 54
theorem ref_bind (pl : Value) (v : Value) : bindArgs (refF pl) ⟨[v], []⟩ = pure [(("given" : Str), v)] := by
  rfl
theorem ref_cell (pl : Value) : ∀ x ∈ (refF pl).scope.names, x.2 ≠ .cell := by
  show ∀ x ∈ (fScope (stm 7)).names, x.2 ≠ .cell
  decide
theorem ref_loc (pl : Value) (v : Value) : ∀ x ∈ ([(("given" : Str), v)] : List (Str × Value)), (refF pl).scope.names.lookup x.1 = some .local := fun x hx => by
  rw [List.mem_singleton.mp hx]; rfl
theorem sub_type_type : isSubtype (.type "TypeError") (.type "TypeError") = pure true := by rw [isSubtype_type]; kernel_rfl

section
variable {prog : Program} {w : World} {A : Around} {s : Shared} {pm pl : Value} {mg mb : Str → Option Value} {R : Result → Shared → Prop}

theorem refused_call {t : Nat} {vs : List Value} {lawE : Env} {Lw : Nat} {mw : Str → Option Value} (N : Names mg mb) (B : Base pm pl mg mb s.heap) (rm : Room A 4 20) (W : LawFr A s.heap lawE Lw mw)
    (ht : s.heap.IsTuple t vs.toArray) (few : vs.length < 2)
    (h : ∀ h' tk, KeepBut (fun b => b = Lw) s.heap h' → h'.Ns Lw mw → s.heap.objs.size ≤ h'.objs.size → R (.ok (.ret (.bool true))) (at_ s h' tk)) :
    codeAny (model prog w) A (.call (.ref 54) ⟨[.ref t], []⟩) R s := by
  obtain ⟨o, ho, hd⟩ := B.refused.fn
  obtain ⟨oM, hoM, hdM⟩ := B.mapstar.fn
  refine call_def (fd := refF pl) (body := fBody (stm 7)) (by have := rm.depth; omega) ho hd B.lim B.refused.code rfl (ref_bind pl _) (ref_cell pl) (ref_loc pl _) (fun h₁ tk hns hk hz => ?_) rfl rfl rfl
  have B₁ := B.keep hk
  have ht₁ : h₁.IsTuple t vs.toArray := let ⟨o, e, r⟩ := ht; ⟨o, hk _ _ e, r⟩
  have rm₁ : Room (A.deeper (refE pl s.heap.objs.size)) 3 17 := (rm.less (d' := 3 + 1) (u' := 17 + 3) (by omega) (by omega)).deeper
  refine wpAny_execs_cons (wpAny_Try_except (wpAny_execs_cons (wpAny_Expr_any ?_)))
  refine wpAny_Call_NameR (ldG (s := at_ s h₁ tk) B₁ N.mapstar ?_ rfl rfl rfl (by decide))
  refine callWith_def hdM (args_cons (ldL (s := at_ s h₁ tk) hns (v := .ref t) rfl (args_nil ⟨hk _ _ hoM, ?_⟩) rfl rfl (by decide)))
  refine wpAny_call (mapstar_enter (s := at_ s h₁ tk) N B₁ ht₁ (by omega) (Nat.lt_of_le_of_lt (Nat.le_add_right _ 3) rm₁.depth) fun h₂ tk₂ L hL hns₂ hk₂ hz₂ => ?_)
  have hz₁ : h₁.objs.size = s.heap.objs.size + 1 := hz
  have hLe : h₁.objs.size = L := hL
  obtain ⟨m₂, hns₂⟩ := hns₂
  have k02 : Keep s.heap h₂ := fun b o e => hk₂ _ _ (hk _ _ e)
  refine call_map_few (s := at_ s h₂ tk₂) rm₁.hh few fun h₃ tk₃ e hx => ?_
  have hx' : Heap.NewExc h₂ h₃ e "TypeError" := hx
  have F₂ : Frames h₂ [msE pm L, refE pl s.heap.objs.size, lawE] [L, s.heap.objs.size, Lw] := .cons rfl rfl hns₂ (.cons rfl rfl (hns.keeps hk₂) (.cons W.kind W.fr (W.ns.keeps k02) .nil))
  obtain ⟨ob, tp, he, hcls, hdt⟩ := hx'.there
  refine wpAny_leaving_firstW (s := at_ s h₃ tk₃) (a0 := tp) (base := hideAll h₂ [L, s.heap.objs.size, Lw]) (Around.frames_deeper (Around.frames_deeper W.frames)) (F₂.fun.of_keeps fun b o hb _ => ⟨o, hx'.keeps b o hb, rfl⟩) rfl he
    (fun b o q => hx'.keeps _ _ (of_hideAll _ q)) (fresh_hide hx'.new) hdt rfl rfl fun h₄ hL4 => ?_
  obtain ⟨k1, ⟨_, _, k2⟩, k3, k4⟩ := hL4
  have y1 : Heap.FlyingW (hideAll h₂ [L, s.heap.objs.size, Lw]) [refE pl s.heap.objs.size, lawE] e (.type "TypeError") tp h₄ := ⟨k1, fresh_hide hx'.new, k2, by rw [← hcls]; exact k3⟩
  have u4 : h₂.UpToSlots h₄ := (Heap.UpToSlots.of_keeps hx'.keeps).trans k4
  refine wpAny_looks_onW (Around.frames_deeper W.frames) rfl y1 fun h₈ y8 u8 => ?_
  refine wpAny_landsW y8 fun h₉ y9 u9 => ?_
  have X9 : Near h₂ h₉ := .of_base y9.1 ((u4.trans u8).trans u9) F₂.all
  obtain ⟨ob, hob, hobc⟩ := y9.there
  refine wpAny_handleBy_builtin (X := "TypeError") (T := "TypeError") (b := true) F.isExc_TypeError F.notTuple_TypeError sub_type_type
    (ldB (s := at_ s h₉ tk₃) ((B.keep k02).near X9) (N.no _ (by decide)) N.typeE ⟨rfl, ⟨ob, hob, hobc⟩, ?_⟩ rfl rfl rfl rfl (by decide))
  refine lands_againW y9 fun h₀ y0 u0 => ?_
  have X0 : Near h₂ h₀ := .of_base y0.1 (((u4.trans u8).trans u9).trans u0) F₂.all
  refine wpAny_execs_cons (wpAny_Return_some (wpAny_Constant_bool ?_))
  refine h h₀ tk₃ (fun b o hb e => y0.1 _ _ (hideAll_get _ (k02 b o e) fun hm => ?_)) (X0.ns (W.ns.keeps k02)) ?_
  · have hl := ltS e
    rcases List.mem_cons.mp hm with hm | hm
    · have q' : @Eq Nat b L := hm
      omega
    rcases List.mem_cons.mp hm with hm | hm
    · have q' : @Eq Nat b s.heap.objs.size := hm
      omega
    · exact hb (List.mem_singleton.mp hm)
  · have : @LT.lt Nat _ s.heap.objs.size h₀.objs.size := (X0.ns (hns.keeps hk₂)).lt
    omega
end
end Mine
end

section
open PySem PySem.W PyProof.Rows PySem.Calls
namespace Mine

abbrev lawEnv (L fa : Nat) (cd : Value) : Env := envOfC (fName (stm 8)) (fScope (stm 8)) L fa cd
abbrev lawB (k : Nat) : List Stmt := (fBody (stm 8)).drop k

theorem law_room (L fa : Nat) (cd : Value) : Room (callerA.deeper (lawEnv L fa cd)) 30 100 := ⟨rfl, by show 1 + claimMargin + 1 + 30 < recursionLimit; decide, by show 4 + 3 + 100 < cLine; decide⟩

/-- the places that the law's own frame changes -/
abbrev ownsL (L : Nat) : List Addr := [23, L, L + 1, L + 2, L + 3, L + 4]
abbrev dat (L : Nat) (h : Heap) : Heap := hideAll h (ownsL L)

structure LS (L : Nat) (G : Heap) (m cm : Str → Option Value) (h : Heap) : Prop where
  tab : TabOK h
  keep : Keep G h
  ns : h.Ns L m
  step : h.IsCell (L + 1) (cm "step")
  columns : h.IsCell (L + 2) (cm "columns")
  short : h.IsCell (L + 3) (cm "short")
  rows : h.IsCell (L + 4) (cm "rows")

/-- what stands before the law runs -/
structure Law0 (L : Nat) (pm pl : Value) (mg mb : Str → Option Value) (G : Heap) : Prop where
  base : Base pm pl mg mb G
  no23 : G.get? 23 = none
  low : ∀ (b : Nat) o, G.get? b = some o → b < L
  l23 : 23 < L

theorem cell_at {h h' : Heap} {c : Addr} {v : Option Value} (x : h.IsCell c v) (k : ∀ o, h.get? c = some o → h'.get? c = some o) : h'.IsCell c v := let ⟨o, e, d⟩ := x; ⟨o, k _ e, d⟩

section
variable {L : Nat} {pm pl : Value} {mg mb : Str → Option Value} {G h h' : Heap} {m cm : Str → Option Value}
theorem LS.base (x : LS L G m cm h) (y : Law0 L pm pl mg mb G) : Base pm pl mg mb h := y.base.keep x.keep
theorem LS.kept (x : LS L G m cm h) (k : Keep h h') : LS L G m cm h' :=
  ⟨x.tab.keep k, fun b o e => k _ _ (x.keep b o e), x.ns.keeps k, cell_at x.step (k _), cell_at x.columns (k _), cell_at x.short (k _), cell_at x.rows (k _)⟩
theorem Law0.ne (y : Law0 L pm pl mg mb G) {b : Nat} {o : Obj} (e : G.get? b = some o) : b ≠ 23 ∧ b < L := ⟨fun q => absurd (q ▸ e) (by rw [y.no23]; exact fun q => nomatch q), y.low b o e⟩
theorem IsCell.notNs {h : Heap} {c : Addr} {v : Option Value} {m : Str → Option Value} (x : h.IsCell c v) (y : h.Ns c m) : False := by
  obtain ⟨o, e, d⟩ := x
  obtain ⟨o', es, ep, e', d', _⟩ := y
  rw [e] at e'; cases e'; rw [d] at d'; cases d'
theorem TabOK.keepNs {X : Nat → Prop} (x : TabOK h) (k : ∀ (b : Nat) o, ¬ X b → h.get? b = some o → h'.get? b = some o) (n : ∀ b, X b → b ≠ 23 ∧ ∀ o, h.get? b = some o → ∀ vs, o.data ≠ .fields vs) : TabOK h' := by
  obtain ⟨ps, e, r⟩ := x.ex
  refine ⟨ps, k _ _ (fun q => (n _ q).1 rfl) e, r.imp id fun ⟨c', a, b, ⟨c₂, o4, vs, tq, q4, e4, d4, r4⟩⟩ => ⟨c', a, b, ⟨c₂, o4, vs, tq, q4, k _ _ (fun q => (n _ q).2 _ e4 _ d4) e4, d4, r4⟩⟩⟩
/-- a local is stored -/
theorem LS.store {m' : Str → Option Value} (y : Law0 L pm pl mg mb G) (x : LS L G m cm h) (n : h'.Ns L m') (k : KeepBut (fun b => b = L) h h') : LS L G m' cm h' := by
  refine ⟨x.tab.keepNs (X := fun b => b = L) k fun b q => ⟨by have := y.l23; omega, fun o e vs d => ?_⟩, fun b o e => k _ _ (show ¬ b = L from Nat.ne_of_lt (y.ne e).2) (x.keep b o e), n,
    cell_at x.step (k _ · (show ¬ L + 1 = L by omega)), cell_at x.columns (k _ · (show ¬ L + 2 = L by omega)), cell_at x.short (k _ · (show ¬ L + 3 = L by omega)), cell_at x.rows (k _ · (show ¬ L + 4 = L by omega))⟩
  subst q
  obtain ⟨o', es, ep, e', d', _⟩ := x.ns
  rw [e] at e'; cases e'; rw [d] at d'; cases d'
/-- a cell is stored -/
theorem LS.cell {cm' : Str → Option Value} {c : Nat} (y : Law0 L pm pl mg mb G) (x : LS L G m cm h) (hc : L < c) (hz : c ≤ L + 4) (k : KeepBut (fun b => b = c) h h')
    (c1 : h'.IsCell (L + 1) (cm' "step")) (c2 : h'.IsCell (L + 2) (cm' "columns")) (c3 : h'.IsCell (L + 3) (cm' "short")) (c4 : h'.IsCell (L + 4) (cm' "rows")) : LS L G m cm' h' := by
  have hcl : ∃ v, h.IsCell c v := by
    have : c = L + 1 ∨ c = L + 2 ∨ c = L + 3 ∨ c = L + 4 := by omega
    rcases this with rfl | rfl | rfl | rfl
    · exact ⟨_, x.step⟩
    · exact ⟨_, x.columns⟩
    · exact ⟨_, x.short⟩
    · exact ⟨_, x.rows⟩
  refine ⟨x.tab.keepNs (X := fun b => b = c) k fun b q => ⟨by have := y.l23; omega, fun o e vs d => ?_⟩, fun b o e => k _ _ (fun q => by
    have q' : @Eq Nat b c := q
    have := (y.ne e).2
    omega) (x.keep b o e), x.ns.at' (k _ · (show ¬ L = c by omega)), c1, c2, c3, c4⟩
  subst q
  obtain ⟨v, o', e', d'⟩ := hcl
  rw [e] at e'; cases e'; rw [d] at d'; cases d'
/-- a call of _law_outcome -/
theorem LS.called (y : Law0 L pm pl mg mb G) (x : LS L G m cm h) (n : h'.Ns L m) (t : TabOK h') (k : KeepBut (fun b => b = 23 ∨ b = L) h h') : LS L G m cm h' :=
  have l := y.l23
  have kk : ∀ {c : Nat}, L < c → ∀ o, h.get? c = some o → h'.get? c = some o := fun {c} hc o e => k _ _ (show ¬ (c = 23 ∨ c = L) by omega) e
  ⟨t, fun b o e => k _ _ (fun q => q.elim (y.ne e).1 (Nat.ne_of_lt (y.ne e).2)) (x.keep b o e), n, cell_at x.step (kk (by omega)), cell_at x.columns (kk (by omega)), cell_at x.short (kk (by omega)), cell_at x.rows (kk (by omega))⟩
theorem dat_keep (k : ∀ b o, b ∉ ownsL L → h.get? b = some o → h'.get? b = some o) : Keep (dat L h) (dat L h') := hide_keepBut k
theorem dat_sub : Keep (dat L h) h := fun _ _ e => of_hideAll _ e
theorem dat_get {b : Nat} {o : Obj} (e : h.get? b = some o) (hb : L + 4 < b) (l : 23 < L) : (dat L h).get? b = some o := hideAll_get _ e fun m => by
  simp only [ownsL, List.mem_cons, List.not_mem_nil, or_false] at m
  have m' : @Eq Nat b 23 ∨ @Eq Nat b L ∨ @Eq Nat b (L + 1) ∨ @Eq Nat b (L + 2) ∨ @Eq Nat b (L + 3) ∨ @Eq Nat b (L + 4) := m
  omega
theorem dat_of {b : Nat} {o : Obj} (e : (dat L h).get? b = some o) : h.get? b = some o ∧ b ∉ ownsL L := ⟨of_hideAll _ e, fun m => by
  have := hideAll_none (h := h) _ m
  rw [e] at this; cases this⟩
end

section
variable {M : Model} {A : Around} {E : Value → Shared → Prop} {s : Shared} {env : Env}
theorem Subscript_IfExp_late {value : Expr} {t l r : Expr} {p : Pos} {pos : Pos} {Q : Value → Shared → Prop}
    (h : wpAny M A (eval value env) (fun o s₁ => wpAny M A (eval (.IfExp t l r p) env) (fun i s₂ => SubscriptOn M A o i Q E s₂) E s₁) E s)
    (ht : ∀ o r, letTemporaryGo value o r = pure () := by intro _ _; rfl) :
    wpAny M A (eval (.Subscript value (.IfExp t l r p) pos) env) Q E s := by
  rw [eval_Subscript]
  refine wpAny_bind (wpAny_mono h (fun o s₁ h₁ => wpAny_bind (wpAny_holding (wpAny_mono h₁ (fun i s₂ h₂ => wpAny_bind (wpAny_standAt ?_)) fun _ _ x => x)))
    fun _ _ x => x)
  obtain ⟨T, id, hl, hT, hg⟩ := h₂
  refine wpAny_bind ?_
  rw [getitemInPython_of_ne hT.not_modules]
  refine wpAny_bind (wpAny_specialOf hT hl ?_)
  have fin : wpAny M A (operate [o, i] (getItem o i)) (fun r s₃ => wpAny M A (letTemporaryGo value o r >>= fun _ => pure r) Q E s₃) E s₂ :=
    wpAny_operating (wpAny_mono hg (fun r s₃ h₃ => wpAny_bind (wpAny_of_eq (ht o r) (wpAny_pure h₃))) fun _ _ x => x)
  first
    | exact wpAny_pure (wpAny_bind fin)
    | exact wpAny_bind (wpAny_pure (wpAny_bind fin))
    | exact wpAny_bind fin
end

section
variable {prog : Program} {w : World} {A : Around} {E : Value → Shared → Prop} {s : Shared} {env : Env}
/-- xs[k] of a list, k within -/
theorem sub_list {l : Nat} {items : Array Value} {k : Int} {t : Tok} {x : Value} {Q : Value → Shared → Prop} (hl : s.heap.IsList l items) (h0 : 0 ≤ k) (hfit : k < 2 ^ 63) (hx : items[k.toNat]? = some x) (h : Q x s) :
    SubscriptOn (model prog w) A (.ref l) (.int k t) Q E s := ⟨"list", _, list_getitem_lookup, hl.typeIs, wpAny_getItem_list hl h0 hfit hx h⟩
theorem ldC {x : Str} {pos : Pos} {c : Addr} {v : Value} {Q : Value → Shared → Prop} (hc : env.cells.lookup x = some c) (hv : s.heap.IsCell c (some v)) (h : Q v s)
    (hk : env.scope.kind = .function) (hx : env.kindOf x = some .cell) (hd : (x == ("__debug__" : Str)) = false) : wpAny (model prog w) A (eval (.Name x pos) env) Q E s :=
  wpAny_Name (wpAny_loadName_cell hk hx hc hv h) hd
theorem Ints.are : ∀ {vs : List Value} {ns : List Int}, Ints vs ns → IntsAre vs ns
  | [], [], _ => .nil
  | [], _ :: _, x => by have := x.length; simp at this
  | v :: vs, [], x => by have := x.length; simp at this
  | v :: vs, n :: ns, x => by
    obtain ⟨e, es, he, r, q⟩ := RdAll.cons_inv x
    simp only [List.map_cons, List.cons.injEq] at he
    obtain ⟨rfl, rfl⟩ := he
    obtain ⟨t, rfl⟩ := r.isInt
    exact .cons _ _ (Ints.are q)
theorem min_K {l : Nat} {vs : List Value} {ns : List Int} {Q : Value → Shared → Prop} (hh : A.handled = none) (hl : s.heap.IsList l vs.toArray) (hi : Ints vs ns) (hne : 0 < ns.length)
    (h : ∀ h' M (t : Tok) tk, Keep s.heap h' → M ∈ ns → (∀ a, a ∈ ns → M ≤ a) → Q (.int M t) (at_ s h' tk)) : wpAny (model prog w) A (call (.builtin "min") [.ref l]) Q E s := by
  have hi := hi.are
  obtain ⟨xs, e⟩ := hi.allInts.items
  have hns : ns = xs.toList.map (·.1) := by
    rw [← hi.numsOf, ← nums_intItems, ← e]
  have hsz : 0 < xs.size := by
    have h3 := hne; rw [hns, List.length_map, Array.length_toList] at h3; exact h3
  rw [e] at hl
  refine min_intList hh hl hsz fun v h' tk hv hk => ?_
  obtain ⟨t, rfl⟩ := intItems_at hv
  obtain ⟨h1, h2⟩ := argBest_lt (numAt xs) (xs.size - 1)
  refine h _ _ t tk hk ?_ fun a ha => ?_
  · rw [hns, numAt_eq]; exact getD_mem (by rw [List.length_map, Array.length_toList]; omega)
  · rw [hns] at ha
    obtain ⟨j, hj, rfl⟩ := mem_getD ha
    rw [List.length_map, Array.length_toList] at hj
    rw [← numAt_eq]; exact h2 j (by omega)
theorem max_K {l : Nat} {vs : List Value} {ns : List Int} {Q : Value → Shared → Prop} (hh : A.handled = none) (hl : s.heap.IsList l vs.toArray) (hi : Ints vs ns) (hne : 0 < ns.length)
    (h : ∀ h' M (t : Tok) tk, Keep s.heap h' → M ∈ ns → (∀ a, a ∈ ns → a ≤ M) → Q (.int M t) (at_ s h' tk)) : wpAny (model prog w) A (call (.builtin "max") [.ref l]) Q E s := by
  have hi := hi.are
  obtain ⟨xs, e⟩ := hi.allInts.items
  have hns : ns = xs.toList.map (·.1) := by
    rw [← hi.numsOf, ← nums_intItems, ← e]
  have hsz : 0 < xs.size := by
    have h3 := hne; rw [hns, List.length_map, Array.length_toList] at h3; exact h3
  rw [e] at hl
  refine max_intList hh hl hsz fun v h' tk hv hk => ?_
  obtain ⟨t, rfl⟩ := intItems_at hv
  obtain ⟨h1, h2⟩ := argBest_gt (numAt xs) (xs.size - 1)
  refine h _ _ t tk hk ?_ fun a ha => ?_
  · rw [hns, numAt_eq]; exact getD_mem (by rw [List.length_map, Array.length_toList]; omega)
  · rw [hns] at ha
    obtain ⟨j, hj, rfl⟩ := mem_getD ha
    rw [List.length_map, Array.length_toList] at hj
    rw [← numAt_eq]; exact h2 j (by omega)
end
end Mine
end

section
open PySem PySem.W PyProof.Rows PySem.Calls
namespace Mine

def headOf (F : List Int) : Int := F.headD 0
def wideOf (F : List Int) : Int := 1 + (headOf F).fmod 3
def stepOf (F : List Int) : Int := 1 + ((headOf F).fdiv 3).fmod 4
def badOf (F : List Int) : Int := ((headOf F).fdiv 12).fmod 7

theorem set_ne {x y : Str} {v : Option Value} {m : Str → Option Value} (h : x ≠ y) : (fun z => if z = y then v else m z) x = m x := if_neg h
theorem Ints.take {vs : List Value} {ns : List Int} (x : Ints vs ns) (n : Nat) : Ints (vs.take n) (ns.take n) := by
  have := RdAll.take x n
  rw [← List.map_take] at this
  exact this

section
variable {prog : Program} {w : World} {A : Around} {E : Value → Shared → Prop} {s : Shared} {pm pl : Value} {mg mb : Str → Option Value} {Q : Flow → Shared → Prop} {L fa : Nat} {cd : Value} {G h : Heap} {m cm : Str → Option Value} {tk : Nat}

/-- few .. bad -/
theorem segA {a : Nat} {vs : List Value} {ns : List Int} (y : Law0 L pm pl mg mb G) (x : LS L G m cm h) (hm : m "script" = some (.ref a)) (ha : G.IsList a vs.toArray) (hI : Ints vs ns) (hlen : ns.length ≤ 63) (hz : L + 4 < h.objs.size)
    (k : ∀ h' tk m' cm' (fw : Nat) fvs, LS L G m' cm' h' → L + 4 < h'.objs.size → m' "few" = some (.ref fw) → (∃ t, m' "wide" = some (.int (wideOf (ns.take 25)) t)) → (∃ t, m' "bad" = some (.int (badOf (ns.take 25)) t)) → (∃ t, cm' "step" = some (.int (stepOf (ns.take 25)) t)) →
      (dat L h').IsList fw fvs.toArray → L + 4 < fw → Ints fvs (ns.take 25) → wpAny (model prog w) A (execs (lawB 5) (lawEnv L fa cd)) Q E (at_ s h' tk)) :
    wpAny (model prog w) A (execs (lawB 0) (lawEnv L fa cd)) Q E (at_ s h tk) := by
  have hvl : vs.length = ns.length := hI.length
  have l23 := y.l23
  -- few = script[:25]
  refine wpAny_execs_cons (wpAny_Assign_Name (List_take ?_))
  refine ldL (s := at_ s h tk) x.ns (v := .ref a) hm (wpAny_Constant_int ?_) rfl rfl (by decide)
  refine ⟨a, vs.toArray, 25, tk, rfl, rfl, (let ⟨o, e, r⟩ := ha; ⟨o, x.keep _ _ e, r⟩), by simp; omega, fun fw h₁ hk₁ hD₁ hlo hz₁ => ?_⟩
  have x₁ := x.kept hk₁
  refine wpAny_storeName_local (s := at_ s h₁ (tk + 1)) rfl x₁.ns (fun h₂ n₂ hs₂ => ?_) rfl
  have hfwL : L + 4 < fw := Nat.lt_of_lt_of_le hz hlo
  have x₂ := x₁.store y n₂ hs₂.extBut
  have hD₂ : PlainL h₂ fw (vs.take 25).toArray := hD₁.extBut hs₂.extBut (show fw ≠ L by omega)
  have hI₂ : Ints (vs.take 25) (ns.take 25) := hI.take 25
  have hz₂ : L + 4 < h₂.objs.size := by rw [hs₂.1]; exact Nat.lt_of_lt_of_le hz hz₁
  dsimp only
  -- head
  have tail : ∀ h₃ tk₃ m₃ t, LS L G m₃ cm h₃ → PlainL h₃ fw (vs.take 25).toArray → L + 4 < h₃.objs.size → m₃ "few" = some (.ref fw) → m₃ "head" = some (.int (headOf (ns.take 25)) t) →
      wpAny (model prog w) A (execs (lawB 2) (lawEnv L fa cd)) Q E (at_ s h₃ tk₃) := by
    intro h₃ tk₃ m₃ t x₃ hD₃ hz₃ hmf hmh
    -- wide
    refine wpAny_execs_cons (wpAny_Assign_Name (wpAny_BinOp (wpAny_Constant_int (wpAny_BinOp ?_))))
    refine ldL (s := at_ s h₃ (tk₃ + 1)) x₃.ns hmh (wpAny_Constant_int (mod_int' (by decide) (add_int ?_))) rfl rfl (by decide)
    refine wpAny_storeName_local (s := at_ s h₃ _) rfl x₃.ns (fun h₄ n₄ hs₄ => ?_) rfl
    have x₄ := x₃.store y n₄ hs₄.extBut
    have hD₄ : PlainL h₄ fw (vs.take 25).toArray := hD₃.extBut hs₄.extBut (show fw ≠ L by omega)
    dsimp only
    -- step
    refine wpAny_execs_cons (wpAny_Assign_Name (wpAny_BinOp (wpAny_Constant_int (wpAny_BinOp (wpAny_BinOp ?_)))))
    refine ldL (s := at_ s h₄ _) x₄.ns (by exact hmh) (wpAny_Constant_int (floordiv_int (by decide) (wpAny_Constant_int (mod_int' (by decide) (add_int ?_))) (Or.inl (PyProof.noPylong_small (by decide))))) rfl rfl (by decide)
    refine wpAny_storeName_cell (s := at_ s h₄ _) (c := L + 1) rfl rfl rfl x₄.step fun h₅ c₅ hs₅ => ?_
    have x₅ : LS L G _ (fun z => if z = "step" then _ else cm z) h₅ := x₄.cell y (c := L + 1) (by omega) (by omega) hs₅.extBut c₅ (cell_at x₄.columns fun o e => hs₅.extBut _ o (show L + 2 ≠ L + 1 by omega) e) (cell_at x₄.short fun o e => hs₅.extBut _ o (show L + 3 ≠ L + 1 by omega) e)
      (cell_at x₄.rows fun o e => hs₅.extBut _ o (show L + 4 ≠ L + 1 by omega) e)
    have hD₅ : PlainL h₅ fw (vs.take 25).toArray := hD₄.extBut hs₅.extBut (show fw ≠ L + 1 by omega)
    dsimp only
    -- bad
    refine wpAny_execs_cons (wpAny_Assign_Name (wpAny_BinOp (wpAny_BinOp ?_)))
    refine ldL (s := at_ s h₅ _) x₅.ns (by exact hmh) (wpAny_Constant_int (floordiv_int (by decide) (wpAny_Constant_int (mod_int' (by decide) ?_)) (Or.inl (PyProof.noPylong_small (by decide))))) rfl rfl (by decide)
    refine wpAny_storeName_local (s := at_ s h₅ _) rfl x₅.ns (fun h₆ n₆ hs₆ => ?_) rfl
    have x₆ := x₅.store y n₆ hs₆.extBut
    have hD₆ : PlainL h₆ fw (vs.take 25).toArray := hD₅.extBut hs₆.extBut (show fw ≠ L by omega)
    refine k h₆ _ _ _ fw (vs.take 25) x₆ (by rw [hs₆.1]; show L + 4 < h₅.objs.size; rw [hs₅.1]; show L + 4 < h₄.objs.size; rw [hs₄.1]; exact hz₃) ?_ ⟨_, rfl⟩ ⟨_, rfl⟩ ⟨_, rfl⟩ ?_ hfwL hI₂
    · exact hmf
    · obtain ⟨o, n, e, c, _, d⟩ := hD₆
      exact ⟨o, dat_get e hfwL l23, c, n, d⟩
  refine wpAny_execs_cons (wpAny_Assign_Name (wpAny_IfExp (wpAny_isTrue_value ?_)))
  refine ldL (s := at_ s h₂ _) n₂ (v := .ref fw) rfl (wpAny_truthy_list hD₂.isList (by simp; omega) ?_) rfl rfl (by decide)
  cases hns : ns with
  | nil =>
    have hv0 : vs = [] := List.length_eq_zero_iff.mp (by rw [hvl, hns]; rfl)
    subst hv0
    refine wpAny_Constant_int ?_
    refine wpAny_storeName_local (s := at_ s h₂ _) rfl n₂ (fun h₃ n₃ hs₃ => ?_) rfl
    exact tail h₃ _ _ _ (x₂.store y n₃ hs₃.extBut) (hD₂.extBut hs₃.extBut (show fw ≠ L by omega)) (by rw [hs₃.1]; exact hz₂) rfl (by rw [hns]; rfl)
  | cons n0 nr =>
    cases hvs : vs with
    | nil => rw [hvs, hns] at hvl; simp at hvl
    | cons v0 vr =>
      have hI' := hI
      rw [hns, hvs] at hI'
      obtain ⟨nn, t0, hn0, hv0⟩ := hI'.get (i := 0) (v := v0) rfl
      cases hn0
      have hemp : (!(List.take 25 (v0 :: vr)).toArray.isEmpty) = true := rfl
      rw [hemp, if_pos rfl]
      rw [hvs] at hD₂
      refine wpAny_Subscript_Constant_late ?_
      refine ldL (s := at_ s h₂ _) n₂ (v := .ref fw) rfl (wpAny_Constant_int (sub_list (x := v0) hD₂.isList (by decide) (by decide) rfl ?_)) rfl rfl (by decide)
      subst hv0
      refine wpAny_storeName_local (s := at_ s h₂ _) rfl n₂ (fun h₃ n₃ hs₃ => ?_) rfl
      exact tail h₃ _ _ _ (x₂.store y n₃ hs₃.extBut) (by rw [hvs]; exact hD₂.extBut hs₃.extBut (show fw ≠ L by omega)) (by rw [hs₃.1]; exact hz₂) rfl (by rw [hns]; rfl)
end
end Mine
end

section
open PySem PySem.W PyProof.Rows PySem.Calls
namespace Mine

def tgt (F : List Int) (wide k : Nat) : Nat := if (F.getD k 0).fmod 5 = 0 then 0 else (k - 1) % wide
def colsI (F : List Int) (wide : Nat) : Nat → List (List Int)
  | 0 => List.replicate wide []
  | i + 1 => (colsI F wide i).set (tgt F wide (i + 1)) ((colsI F wide i).getD (tgt F wide (i + 1)) [] ++ [F.getD (i + 1) 0])
def colsOf (F : List Int) : List (List Int) := colsI F (wideOf F).toNat (F.length - 1)
theorem colsI_length (F : List Int) (wide : Nat) : ∀ i, (colsI F wide i).length = wide
  | 0 => by simp [colsI]
  | i + 1 => by simp [colsI, colsI_length F wide i]
theorem tgt_lt (F : List Int) {wide : Nat} (h : 0 < wide) (k : Nat) : tgt F wide k < wide := by
  unfold tgt
  split
  · exact h
  · exact Nat.mod_lt _ h
theorem colsI_small (F : List Int) (wide : Nat) : ∀ i c, ((colsI F wide i).getD c []).length ≤ i
  | 0, c => by
    simp only [colsI, List.getD_eq_getElem?_getD, List.getElem?_replicate]
    split <;> simp
  | i + 1, c => by
    simp only [colsI, List.getD_eq_getElem?_getD, List.getElem?_set]
    have h1 := colsI_small F wide i (tgt F wide (i + 1))
    have h2 := colsI_small F wide i c
    rw [List.getD_eq_getElem?_getD] at h1 h2
    split
    · split
      · simp; exact h1
      · simp
    · omega
theorem wideOf_pos (F : List Int) : 1 ≤ wideOf F ∧ wideOf F ≤ 3 := by
  unfold wideOf
  have h1 := Int.fmod_nonneg_of_pos (headOf F) (show (0 : Int) < 3 by decide)
  have h2 := Int.fmod_lt_of_pos (headOf F) (show (0 : Int) < 3 by decide)
  omega
theorem stepOf_pos (F : List Int) : 1 ≤ stepOf F ∧ stepOf F ≤ 4 := by
  unfold stepOf
  have h1 := Int.fmod_nonneg_of_pos ((headOf F).fdiv 3) (show (0 : Int) < 4 by decide)
  have h2 := Int.fmod_lt_of_pos ((headOf F).fdiv 3) (show (0 : Int) < 4 by decide)
  omega
theorem badOf_pos (F : List Int) : 0 ≤ badOf F ∧ badOf F ≤ 6 := by
  unfold badOf
  have h1 := Int.fmod_nonneg_of_pos ((headOf F).fdiv 12) (show (0 : Int) < 7 by decide)
  have h2 := Int.fmod_lt_of_pos ((headOf F).fdiv 12) (show (0 : Int) < 7 by decide)
  omega

theorem cols_of {h : Heap} : ∀ (as : List Nat) (nss : List (List Int)), as.length = nss.length → (∀ c, c < as.length → ∃ vs, PlainL h (as.getD c 0) (List.toArray vs) ∧ Ints vs (nss.getD c [])) →
    ∃ cols : List Col, (cols.map fun c => Value.ref c.addr) = as.map (fun (a : Nat) => Value.ref a) ∧ (∀ c ∈ cols, c.at h) ∧ (∀ c ∈ cols, c.addr ∈ as) ∧ ColsAre cols nss
  | [], [], _, _ => ⟨[], rfl, fun _ q => (nomatch q), fun _ q => (nomatch q), .nil⟩
  | [], _ :: _, e, _ => by simp at e
  | _ :: _, [], e, _ => by simp at e
  | a :: as, ns :: nss, e, k => by
    obtain ⟨cols, h1, h2, h3, h4⟩ := cols_of as nss (by simpa using e) fun c hc => by simpa using k (c + 1) (by simp; omega)
    obtain ⟨vs, hp, hi⟩ := k 0 (by simp)
    refine ⟨⟨a, false, vs.toArray⟩ :: cols, by rw [List.map_cons, List.map_cons, h1], fun c hc => ?_, fun c hc => ?_, .cons (by simpa using hi) h4⟩
    · rcases List.mem_cons.mp hc with rfl | hc
      · exact hp.isList
      · exact h2 c hc
    · rcases List.mem_cons.mp hc with rfl | hc
      · exact .head _
      · exact .tail _ (h3 c hc)

theorem dat_list {L a : Nat} {h : Heap} {xs : Array Value} (x : h.IsList a xs) (hb : L + 4 < a) (l : 23 < L) : (dat L h).IsList a xs := let ⟨o, e, r⟩ := x; ⟨o, dat_get e hb l, r⟩
theorem list_keep {a : Nat} {h h' : Heap} {xs : Array Value} (x : h.IsList a xs) (k : ∀ o, h.get? a = some o → h'.get? a = some o) : h'.IsList a xs := let ⟨o, e, r⟩ := x; ⟨o, k _ e, r⟩

section
variable {prog : Program} {w : World} {A : Around} {E : Value → Shared → Prop} {s : Shared} {pm pl : Value} {mg mb : Str → Option Value} {Q : Flow → Shared → Prop} {L fa : Nat} {cd : Value} {G h : Heap} {m cm : Str → Option Value} {tk : Nat}

/-- columns = [[] for k in range(wide)] -/
theorem segB {F : List Int} (N : Names mg mb) (y : Law0 L pm pl mg mb G) (rm : Room A 30 100) (x : LS L G m cm h) (hz : L + 4 < h.objs.size) (hw : ∃ t, m "wide" = some (.int (wideOf F) t))
    (k : ∀ h' tk (D : Nat) (as : List Nat), LS L G m (fun z => if z = "columns" then some (.ref D) else cm z) h' → L + 4 < h'.objs.size → h'.IsList D (as.map fun (a : Nat) => Value.ref a).toArray → L + 4 < D → as.length = (wideOf F).toNat → as.Nodup → (∀ a ∈ as, L + 4 < a ∧ PlainL h' a #[] ∧ h.objs.size ≤ a) → h.objs.size ≤ D →
      KeepBut (fun b => b = L + 2) h h' → wpAny (model prog w) A (execs (lawB 6) (lawEnv L fa cd)) Q E (at_ s h' tk)) :
    wpAny (model prog w) A (execs (lawB 5) (lawEnv L fa cd)) Q E (at_ s h tk) := by
  obtain ⟨tw, hw⟩ := hw
  have hwp := wideOf_pos F
  have l23 := y.l23
  have B := x.base y
  refine wpAny_execs_cons (wpAny_Assign_Name ?_)
  refine comp_range (cl := []) rm.hh rfl rfl (by decide) (fun _ => .inl rfl) ?_
  refine wpAny_Call_NameR (ldB (s := at_ s h tk) B (N.no _ (by decide)) N.range ?_ rfl rfl rfl rfl (by decide))
  refine callWith_type1 (args_cons (ldL (s := at_ s h tk) x.ns hw (args_nil (call_range_1 ?_)) rfl rfl (by decide)))
  refine ⟨h.objs.size, 0, wideOf F, 1, _, _, _, (wideOf F).toNat, fun ys h' => ∃ as : List Nat, ys = as.map (fun (a : Nat) => Value.ref a) ∧ as.Nodup ∧ ∀ a ∈ as, PlainL h' a #[] ∧ h.objs.size ≤ a, rfl, IsRange.new .., small_one (by omega) (by omega) (by omega) (by omega), ?_, ?_, ?_, ?_⟩
  · rw [rangeSize_one]; split <;> omega
  · exact Nat.le_trans (show (wideOf F).toNat ≤ 3 by omega) (by decide)
  · refine ⟨fun ys h₁ h₂ kk ⟨as, a1, a2, a3⟩ => ⟨as, a1, a2, fun a ha => ⟨(a3 a ha).1.keeps kk, (a3 a ha).2⟩⟩, fun h₁ => ⟨[], rfl, List.nodup_nil, fun a ha => (nomatch ha)⟩, ?_⟩
    intro C Z i v ys h₁ tk₁ out E' hi hP hH hl hJ hks hC hout hlow hzz
    obtain ⟨as, a1, a2, a3⟩ := hJ
    have hzz' : h.objs.size + 1 ≤ h₁.objs.size := Nat.le_trans (Nat.le_of_eq (Heap.size_push ..).symm) hzz
    refine wpAny_List_spliced (args_nil ⟨by decide, _, _, rfl, fun b o e => Heap.get?_push_of_some _ e, as ++ [h₁.objs.size], by rw [a1]; simp, ?_, fun a ha => ?_⟩)
    · refine List.nodup_append.mpr ⟨a2, by simp, fun a ha b hb q => ?_⟩
      have q' : a = h₁.objs.size := by rw [q]; exact List.mem_singleton.mp hb
      have := (a3 a ha).1.lt
      have hl' : @LT.lt Nat _ a (hideAll h₁ out).objs.size := this
      rw [hideAll_size] at hl'
      omega
    · rcases List.mem_append.mp ha with ha | ha
      · exact ⟨(a3 a ha).1.keeps (hide_keep fun b o e => Heap.get?_push_of_some _ e), (a3 a ha).2⟩
      · rw [List.mem_singleton.mp ha]
        exact ⟨⟨_, _, hide_new (live_lt hout fun _ _ e => e) (Nat.le_refl _) (Heap.get?_push_size _ rfl), rfl, rfl, rfl⟩, by omega⟩
  · intro D h₁ tk₁ ys hl hJ hD hk₁ hlo
    obtain ⟨as, a1, a2, a3⟩ := hJ
    have hk₁' : Keep h h₁ := fun b o e => hk₁ _ _ (Heap.get?_push_of_some _ e)
    have hlo' : h.objs.size + 1 ≤ D := Nat.le_trans (Nat.le_of_eq (Heap.size_push ..).symm) hlo
    have x₁ := x.kept hk₁'
    refine wpAny_storeName_cell (s := at_ s h₁ _) (c := L + 2) rfl rfl rfl x₁.columns fun h₂ c₂ hs₂ => ?_
    have x₂ : LS L G m (fun z => if z = "columns" then some (.ref D) else cm z) h₂ := x₁.cell y (c := L + 2) (by omega) (by omega) hs₂.extBut (cell_at x₁.step fun o e => hs₂.extBut _ o (show L + 1 ≠ L + 2 by omega) e) c₂ (cell_at x₁.short fun o e => hs₂.extBut _ o (show L + 3 ≠ L + 2 by omega) e)
      (cell_at x₁.rows fun o e => hs₂.extBut _ o (show L + 4 ≠ L + 2 by omega) e)
    refine k h₂ _ D as x₂ ?_ ?_ (by omega) (by rw [← hl, a1]; simp) a2 (fun a ha => ?_) (by omega) (fun b o hb e => hs₂.extBut b o hb (hk₁' b o e))
    · rw [hs₂.1]
      have : @LT.lt Nat _ D h₁.objs.size := hD.lt
      show L + 4 < h₁.objs.size
      omega
    · rw [← a1]; exact (hD.extBut hs₂.extBut (show D ≠ L + 2 by omega)).isList
    · have := (a3 a ha).2
      exact ⟨by omega, (a3 a ha).1.extBut hs₂.extBut (show a ≠ L + 2 by omega), by omega⟩
end
end Mine
end

section
open PySem PySem.W PyProof.Rows PySem.Calls
namespace Mine

theorem fmod_nat (a b : Nat) : Int.fmod (a : Int) (b : Int) = ((a % b : Nat) : Int) := by
  rw [Int.fmod_eq_emod_of_nonneg _ (Int.natCast_nonneg b)]; rfl

section
variable {prog : Program} {w : World} {A : Around} {E : Value → Shared → Prop} {s : Shared} {pm pl : Value} {mg mb : Str → Option Value} {Q : Flow → Shared → Prop} {L fa : Nat} {cd : Value} {G h : Heap} {m cm : Str → Option Value} {tk : Nat}

theorem eval_idx {F : List Int} {fw i : Nat} {fvs : List Value} {tv tw : Tok} {p1 p2 p3 p4 p5 p6 p7 p8 p9 p10 p11 p12 p13 p14 : Pos} {k1 k2 k3 k4 : Nat} {Q : Value → Shared → Prop} (ns : h.Ns L m) (hf : h.IsList fw fvs.toArray) (hI : Ints fvs F) (hi : i + 1 < F.length) (hs : F.length ≤ 100)
    (hm : m "few" = some (.ref fw)) (hk : m "k" = some (.int ((i + 1 : Nat) : Int) tv)) (hw : m "wide" = some (.int (wideOf F) tw)) (h' : ∀ tk t, Q (.int ((tgt F (wideOf F).toNat (i + 1) : Nat) : Int) t) (at_ s h tk)) :
    wpAny (model prog w) A (eval (.IfExp (.Compare (.BinOp (.Subscript (.Name "few" p1) (.Name "k" p2) p3) .Mod (.Constant (.int 5) k1 p4) p5) [.Eq] [.Constant (.int 0) k2 p6] p7) (.Constant (.int 0) k3 p8)
      (.BinOp (.BinOp (.Name "k" p9) .Sub (.Constant (.int 1) k4 p10) p11) .Mod (.Name "wide" p12) p13) p14) (lawEnv L fa cd)) Q E (at_ s h tk) := by
  have hwp := wideOf_pos F
  have hfl : fvs.length = F.length := hI.length
  have hwn : wideOf F = (((wideOf F).toNat : Nat) : Int) := by omega
  have hlt' : i + 1 < fvs.length := by omega
  obtain ⟨f, tf, hff, hvf⟩ := hI.get (i := i + 1) (v := fvs.getD (i + 1) .none) (by simp [hlt'])
  have hfx : fvs.toArray[(((i + 1 : Nat) : Int)).toNat]? = some (.int f tf) := by rw [← hvf, Int.toNat_natCast]; simp [hlt']
  have hFd : F.getD (i + 1) 0 = f := by simp [List.getD, hff]
  refine wpAny_IfExp (wpAny_isTrue_Compare1 (wpAny_BinOp (wpAny_Subscript_Name_late ?_)))
  refine ldL (s := at_ s h tk) ns hm (ldL (s := at_ s h tk) ns hk ?_ rfl rfl (by decide)) rfl rfl (by decide)
  refine sub_list (s := at_ s h tk) hf (by omega) (by omega) hfx (wpAny_Constant_int (mod_int' (by decide) (wpAny_Constant_int (eq_int (wpAny_truthy_bool ?_)))))
  by_cases h5 : f.fmod 5 = 0
  · have e : (f.fmod 5 == 0) = true := by simpa using h5
    rw [e, if_pos rfl]
    have e2 : (((tgt F (wideOf F).toNat (i + 1) : Nat)) : Int) = 0 := by unfold tgt; rw [hFd, if_pos h5]; rfl
    rw [e2] at h'
    exact wpAny_Constant_int (h' _ _)
  · have e : (f.fmod 5 == 0) = false := by simpa using h5
    rw [e, if_neg Bool.false_ne_true]
    refine wpAny_BinOp (wpAny_BinOp ?_)
    refine ldL (s := at_ s h _) ns hk (wpAny_Constant_int (sub_int ?_)) rfl rfl (by decide)
    refine ldL (s := at_ s h _) ns hw (mod_int' (by omega) ?_) rfl rfl (by decide)
    have e3 : (((i + 1 : Nat) : Int) - 1).fmod (wideOf F) = ((tgt F (wideOf F).toNat (i + 1) : Nat) : Int) := by
      unfold tgt
      rw [hFd, if_neg h5, Nat.add_sub_cancel, ← fmod_nat, ← hwn]
      congr 1
      omega
    rw [e3]
    exact h' _ _

set_option maxHeartbeats 1000000 in
theorem segC {F : List Int} {fw D : Nat} {fvs : List Value} {as : List Nat} (N : Names mg mb) (y : Law0 L pm pl mg mb G) (rm : Room A 30 100) (x : LS L G m cm h) (hz : L + 4 < h.objs.size) (hm : m "few" = some (.ref fw)) (hw : ∃ t, m "wide" = some (.int (wideOf F) t))
    (hcol : cm "columns" = some (.ref D)) (hf : h.IsList fw fvs.toArray) (hfw : L + 4 < fw) (hI : Ints fvs F) (hF : F.length ≤ 25) (hD : h.IsList D (as.map fun (a : Nat) => Value.ref a).toArray) (hDl : L + 4 < D) (hlen : as.length = (wideOf F).toNat) (hnd : as.Nodup)
    (has : ∀ a ∈ as, L + 4 < a ∧ PlainL h a #[] ∧ a ≠ fw)
    (k : ∀ h' tk m', LS L G m' cm h' → L + 4 < h'.objs.size → (∀ z : Str, z ≠ "k" → m' z = m z) → h'.IsList D (as.map fun (a : Nat) => Value.ref a).toArray →
      (∀ c, c < as.length → ∃ vs, PlainL h' (as.getD c 0) (List.toArray vs) ∧ Ints vs ((colsOf F).getD c [])) → KeepBut (fun b => b = L ∨ b ∈ as) h h' → wpAny (model prog w) A (execs (lawB 7) (lawEnv L fa cd)) Q E (at_ s h' tk)) :
    wpAny (model prog w) A (execs (lawB 6) (lawEnv L fa cd)) Q E (at_ s h tk) := by
  obtain ⟨tw, hw⟩ := hw
  have hwp := wideOf_pos F
  have l23 := y.l23
  have hfl : fvs.length = F.length := hI.length
  have hwn : wideOf F = (((wideOf F).toNat : Nat) : Int) := by omega
  have hasl : 0 < as.length := by omega
  have hDas : D ∉ as := fun q => by
    obtain ⟨_, ⟨o, n, e, _, _, d⟩, _⟩ := has D q
    obtain ⟨o', e', _, n', d'⟩ := hD
    rw [e] at e'; cases e'
    rw [d] at d'
    have hq := (Data.seq.inj d').1
    have := congrArg Array.size hq
    simp at this
    omega
  -- the state inside, from the one before
  have LSof : ∀ h' m', KeepBut (fun b => b = L ∨ b ∈ as) h h' → h'.Ns L m' → LS L G m' cm h' := fun h' m' kb n => by
    have kk : ∀ {c : Nat}, L < c → c ≤ L + 4 → ∀ o, h.get? c = some o → h'.get? c = some o := fun {c} hc hc' o e => kb _ _ (fun q => by
      rcases q with q | q
      · have q' : @Eq Nat c L := q
        omega
      · have := (has c q).1
        omega) e
    refine ⟨x.tab.keepNs (X := fun b => b = L ∨ b ∈ as) kb fun b q => ⟨?_, fun o e vs d => ?_⟩, fun b o e => kb _ _ (fun q => ?_) (x.keep b o e), n, cell_at x.step (kk (by omega) (by omega)), cell_at x.columns (kk (by omega) (by omega)), cell_at x.short (kk (by omega) (by omega)), cell_at x.rows (kk (by omega) (by omega))⟩
    · rcases q with q | q
      · omega
      · have := (has b q).1
        omega
    · rcases q with q | q
      · subst q
        obtain ⟨o', es, ep, e', d', _⟩ := x.ns
        rw [e] at e'; cases e'; rw [d] at d'; cases d'
      · obtain ⟨_, ⟨o', n', e', _, _, d'⟩, _⟩ := has b q
        rw [e] at e'; cases e'; rw [d] at d'; cases d'
    · have hb := (y.ne e).2
      rcases q with q | q
      · have q' : @Eq Nat b L := q
        omega
      · have := (has b q).1
        have hb' : @LT.lt Nat _ b L := hb
        omega
  have fwas : ¬ (fw = L ∨ fw ∈ as) := fun q => by
    rcases q with q | q
    · omega
    · exact (has fw q).2.2 rfl
  have Das : ¬ (D = L ∨ D ∈ as) := fun q => by
    rcases q with q | q
    · omega
    · exact hDas q
  have B := x.base y
  refine wpAny_execs_cons (wpAny_For ?_)
  refine wpAny_Call_NameR (ldB (s := at_ s h tk) B (N.no _ (by decide)) N.range ?_ rfl rfl rfl rfl (by decide))
  refine callWith_type1 (args_cons (wpAny_Constant_int (args_cons ?_))) (hplain := by kernel_rfl)
  refine wpAny_Call_NameR (ldB (s := at_ s h (tk + 1)) B (N.no _ (by decide)) N.len ?_ rfl rfl rfl rfl (by decide))
  refine callWith_builtin1 (args_cons (ldL (s := at_ s h (tk + 1)) x.ns hm (args_nil ?_) rfl rfl (by decide)))
  refine call_len_list (s := at_ s h (tk + 1)) hf (by simp; omega) (args_nil (call_range_2 ?_))
  have hsz : (fvs.toArray.size : Int) = (F.length : Int) := by simp [hfl]
  rw [hsz]
  have hn : Builtin.Range.rangeSize 1 (F.length : Int) 1 = ((F.length - 1 : Nat) : Int) := by rw [rangeSize_one]; split <;> omega
  refine wpAny_pyIter_range (IsRange.new ..) (small_one (by omega) (by omega) (by omega) (by omega)) ?_
  rw [hn]
  dsimp only
  generalize hh1 : h.push { cls := .type "range", data := .fields #[.int 1 tk, .int F.length (tk + 1 + 1), .int 1 (tk + 1 + 1 + 1)] } = h₁
  have z₁ : h₁.objs.size = h.objs.size + 1 := by rw [← hh1, Heap.size_push]
  have k₁ : Keep h h₁ := fun b o e => hh1 ▸ Heap.get?_push_of_some _ e
  have ik : Keep h₁ (h₁.push { cls := .type "range_iterator", data := .fields #[rawInt 1, rawInt ((F.length - 1 : Nat) : Int), rawInt 1] }) := fun b o e => Heap.get?_push_of_some _ e
  refine codeAny_forLoop (fun kk s' => ∃ h' tk i m', s' = at_ s h' tk ∧ i ≤ F.length - 1 ∧ kk = F.length - 1 + 1 - i ∧ IsRangeIter h' h₁.objs.size (1 + (i : Nat) * 1) (((F.length - 1 : Nat) : Int) - (i : Nat)) 1 ∧ KeepBut (fun b => b = L ∨ b ∈ as) h h' ∧ h'.Ns L m' ∧ (∀ z : Str, z ≠ "k" → m' z = m z) ∧ L + 4 < h'.objs.size ∧
    (∀ c, c < as.length → ∃ vs, PlainL h' (as.getD c 0) (List.toArray vs) ∧ Ints vs ((colsI F (wideOf F).toNat i).getD c []))) ?_ (F.length - 1 + 1) ?_
  · rintro kk s' ⟨h', tk', i, m', rfl, hi, rfl, st, kb, ns, hmk, hz', hcs⟩
    have W := Walks.range (prog := prog) (w := w) rm.hh h₁.objs.size 1 1 (F.length - 1)
    by_cases hlt : i < F.length - 1
    · refine W.item i (at_ s h' tk') _ _ hlt st fun v h₂ tk₂ hP st₂ hk₂ => ?_
      obtain ⟨tv, rfl⟩ := hP
      have ek : (1 + (i : Int) * 1) = ((i + 1 : Nat) : Int) := by omega
      rw [ek]
      have kI : ∀ b o, b ≠ h₁.objs.size → h'.get? b = some o → h₂.get? b = some o := fun b o hb e => hk₂ b o (fun q => hb (List.mem_singleton.mp q)) e
      have z0 : L < h.objs.size := by omega
      refine wpAny_assign_Name (wpAny_storeName_local (s := at_ s h₂ tk₂) rfl (ns.at' fun o e => kI _ _ (show L ≠ h₁.objs.size by omega) e) (fun h₃ n₃ hs₃ => ?_) rfl)
      have k23 : ∀ b o, b ≠ L → b ≠ h₁.objs.size → h'.get? b = some o → h₃.get? b = some o := fun b o hb hb' e => hs₃.extBut b o hb (kI b o hb' e)
      have kb₃ : KeepBut (fun b => b = L ∨ b ∈ as) h h₃ := fun b o hb e => k23 b o (fun q => hb (.inl q)) (fun q => by
        have := ltS e
        have q' : @Eq Nat b h₁.objs.size := q
        omega) (kb b o hb e)
      have x₃ := LSof h₃ _ kb₃ n₃
      have hf₃ : h₃.IsList fw fvs.toArray := list_keep hf fun o e => kb₃ _ _ fwas e
      have hD₃ : h₃.IsList D (as.map fun (a : Nat) => Value.ref a).toArray := list_keep hD fun o e => kb₃ _ _ Das e
      have hlt' : i + 1 < fvs.length := by omega
      obtain ⟨f, tf, hff, hvf⟩ := hI.get (i := i + 1) (v := fvs.getD (i + 1) .none) (by simp [hlt'])
      have hfx : fvs.toArray[(((i + 1 : Nat) : Int)).toNat]? = some (.int f tf) := by rw [← hvf, Int.toNat_natCast]; simp [hlt']
      have hFd : F.getD (i + 1) 0 = f := by simp [List.getD, hff]
      have t0 := tgt_lt F (wide := (wideOf F).toNat) (by omega) (i + 1)
      have htl : tgt F (wideOf F).toNat (i + 1) < as.length := by omega
      have hmf : (fun z => if z = "k" then some (Value.int ((i + 1 : Nat) : Int) tv) else m' z) "few" = some (.ref fw) := (hmk "few" (by decide)).trans hm
      have hmw : (fun z => if z = "k" then some (Value.int ((i + 1 : Nat) : Int) tv) else m' z) "wide" = some (.int (wideOf F) tw) := (hmk "wide" (by decide)).trans hw
      refine wpAny_execs_cons (wpAny_Expr ?_ rfl rfl)
      refine wpAny_Call_append rfl rfl rfl rfl (Subscript_IfExp_late ?_)
      refine ldC (s := at_ s h₃ _) (c := L + 2) (v := .ref D) rfl (hcol ▸ x₃.columns) ?_ rfl rfl (by decide)
      refine eval_idx (F := F) n₃ hf₃ hI (by omega) (by omega) hmf rfl hmw fun tk₄ t₄ => ?_
      have hax : (as.map fun (a : Nat) => Value.ref a).toArray[(((tgt F (wideOf F).toNat (i + 1) : Nat) : Int)).toNat]? = some (.ref (as.getD (tgt F (wideOf F).toNat (i + 1)) 0)) := by
        rw [Int.toNat_natCast]; simp [htl]
      refine sub_list (s := at_ s h₃ _) hD₃ (by omega) (by omega) hax ?_
      obtain ⟨vs, hp, hiv⟩ := hcs _ htl
      have hmem : as.getD (tgt F (wideOf F).toNat (i + 1)) 0 ∈ as := by
        rw [List.getD_eq_getElem?_getD, List.getElem?_eq_getElem htl]; exact List.getElem_mem htl
      generalize hAt : as.getD (tgt F (wideOf F).toNat (i + 1)) 0 = At at hp hmem ⊢
      have hAL := (has At hmem)
      have hAlt : @LT.lt Nat _ At h.objs.size := hAL.2.1.lt
      have hp₃ : PlainL h₃ At vs.toArray := let ⟨o, n, e, r⟩ := hp; ⟨o, n, k23 _ _ (by omega) (by omega) e, r⟩
      refine ⟨At, vs.toArray, rfl, hp₃, ?_⟩
      refine wpAny_Subscript_Name_late ?_
      refine ldL (s := at_ s h₃ _) n₃ hmf (ldL (s := at_ s h₃ _) n₃ rfl ?_ rfl rfl (by decide)) rfl rfl (by decide)
      have hvl : vs.length ≤ i := by
        have := colsI_small F (wideOf F).toNat i (tgt F (wideOf F).toNat (i + 1))
        have := hiv.length
        omega
      refine sub_list (s := at_ s h₃ _) hf₃ (by omega) (by omega) hfx (list_append_plainL (s := at_ s h₃ _) hp₃ (fun h₄ hp₄ hs₄ => ?_) (Nat.le_trans (show vs.toArray.size ≤ 25 by simp; omega) (by decide)))
      refine wpAny_execs_nil ?_
      dsimp only
      have kb₄ : KeepBut (fun b => b = L ∨ b ∈ as) h h₄ := fun b o hb e => hs₄.extBut b o (fun q => hb (.inr (by rw [q]; exact hmem))) (kb₃ b o hb e)
      have st₃ : IsRangeIter h₃ h₁.objs.size (1 + ((i + 1 : Nat) : Int) * 1) (((F.length - 1 : Nat) : Int) - ((i + 1 : Nat) : Int)) 1 := hs₃.extBut _ _ (show h₁.objs.size ≠ L by omega) st₂
      refine ⟨F.length - 1 + 1 - (i + 1), by omega, h₄, _, i + 1, _, rfl, hlt, rfl, hs₄.extBut _ _ (show h₁.objs.size ≠ At by omega) st₃, kb₄, n₃.at' fun o e => hs₄.extBut _ _ (show L ≠ At by omega) e, fun z hz => ?_, ?_, fun c hc => ?_⟩
      · exact (if_neg hz).trans (hmk z hz)
      · rw [hs₄.1]
        have : @LT.lt Nat _ At h₃.objs.size := hp₃.lt
        show L + 4 < h₃.objs.size
        omega
      · show ∃ vs, PlainL h₄ (as.getD c 0) (List.toArray vs) ∧ Ints vs (((colsI F (wideOf F).toNat i).set (tgt F (wideOf F).toNat (i + 1)) ((colsI F (wideOf F).toNat i).getD (tgt F (wideOf F).toNat (i + 1)) [] ++ [F.getD (i + 1) 0])).getD c [])
        have hcl := colsI_length F (wideOf F).toNat i
        by_cases hct : c = tgt F (wideOf F).toNat (i + 1)
        · rw [← hct] at hAt hiv
          rw [hAt, ← hct]
          refine ⟨vs ++ [.int f tf], by simpa using hp₄, ?_⟩
          rw [List.getD_eq_getElem?_getD, List.getElem?_set_self (by omega), hFd]
          have := RdAll.append hiv (RdAll.one (h := {}) (v := .int f tf) (d := .int f) .int)
          rw [show ((colsI F (wideOf F).toNat i).getD c []).map PyData.int ++ [PyData.int f] = ((colsI F (wideOf F).toNat i).getD c [] ++ [f]).map PyData.int by simp] at this
          exact this
        · obtain ⟨vs', hp', hi'⟩ := hcs c hc
          have hmem' : as.getD c 0 ∈ as := by
            rw [List.getD_eq_getElem?_getD, List.getElem?_eq_getElem hc]; exact List.getElem_mem hc
          have hne : as.getD c 0 ≠ At := fun q => hct (by
            rw [← hAt, List.getD_eq_getElem?_getD, List.getD_eq_getElem?_getD, List.getElem?_eq_getElem hc, List.getElem?_eq_getElem htl] at q
            exact (List.getElem_inj hnd).mp q)
          have hl' : @LT.lt Nat _ (as.getD c 0) h.objs.size := (has _ hmem').2.1.lt
          have hL' := (has _ hmem').1
          refine ⟨vs', let ⟨o, n, e, r⟩ := hp'; ⟨o, n, hs₄.extBut _ _ hne (k23 _ _ (by omega) (by omega) e), r⟩, ?_⟩
          rw [List.getD_eq_getElem?_getD, List.getElem?_set_ne (fun q => hct q.symm), ← List.getD_eq_getElem?_getD]
          exact hi'
    · have hin : i = F.length - 1 := by omega
      subst hin
      refine W.done (at_ s h' tk') _ _ st fun h₂ tk₂ hk₂ => ?_
      have kI : ∀ b o, b ≠ h₁.objs.size → h'.get? b = some o → h₂.get? b = some o := fun b o hb e => hk₂ b o (fun q => hb (List.mem_singleton.mp q)) e
      have kb₂ : KeepBut (fun b => b = L ∨ b ∈ as) h h₂ := fun b o hb e => kI b o (fun q => by
        have := ltS e
        have q' : @Eq Nat b h₁.objs.size := q
        omega) (kb b o hb e)
      have n₂ := ns.at' fun o e => kI _ _ (show L ≠ h₁.objs.size by omega) e
      refine wpAny_execs_nil ?_
      refine k h₂ tk₂ m' (LSof h₂ m' kb₂ n₂) ?_ hmk (list_keep hD fun o e => kb₂ _ _ Das e) (fun c hc => ?_) kb₂
      · have : @LT.lt Nat _ fw h₂.objs.size := Heap.lt_size (list_keep hf fun o e => kb₂ _ _ fwas e).choose_spec.1
        omega
      · obtain ⟨vs', hp', hi'⟩ := hcs c hc
        have hmem' : as.getD c 0 ∈ as := by
          rw [List.getD_eq_getElem?_getD, List.getElem?_eq_getElem hc]; exact List.getElem_mem hc
        have hl' : @LT.lt Nat _ (as.getD c 0) h.objs.size := (has _ hmem').2.1.lt
        exact ⟨vs', let ⟨o, n, e, r⟩ := hp'; ⟨o, n, kI _ _ (by omega) e, r⟩, hi'⟩
  · refine ⟨_, _, 0, m, rfl, Nat.zero_le _, rfl, ?_, fun b o _ e => ik _ _ (k₁ _ _ e), x.ns.keeps fun b o e => ik _ _ (k₁ _ _ e), fun z _ => rfl, ?_, fun c hc => ⟨[], ?_, ?_⟩⟩
    · have e1 : (1 + ((0 : Nat) : Int) * 1) = 1 := by simp
      have e2 : (((F.length - 1 : Nat) : Int) - ((0 : Nat) : Int)) = ((F.length - 1 : Nat) : Int) := by simp
      rw [e1, e2]
      exact Heap.get?_push_size _ rfl
    · show L + 4 < (h₁.push _).objs.size
      rw [Heap.size_push]; omega
    · have hmem' : as.getD c 0 ∈ as := by
        rw [List.getD_eq_getElem?_getD, List.getElem?_eq_getElem hc]; exact List.getElem_mem hc
      exact (has _ hmem').2.1.keeps fun b o e => ik _ _ (k₁ _ _ e)
    · simp only [colsI, List.getD_eq_getElem?_getD, List.getElem?_replicate]
      split <;> exact Ints.nil
end
end Mine
end

section
open PySem PySem.W PyProof.Rows PySem.Calls
namespace Mine

/-- the columns as they stand in the heap -/
structure ColsH (L : Nat) (h : Heap) (D : Nat) (cols : List Col) (nss : List (List Int)) : Prop where
  lo : L + 4 < D
  list : (dat L h).IsList D (cols.map fun c => Value.ref c.addr).toArray
  col : ∀ c ∈ cols, c.at (dat L h)
  are : ColsAre cols nss
theorem ColsH.kept {L D : Nat} {h h' : Heap} {cols : List Col} {nss : List (List Int)} (x : ColsH L h D cols nss) (k : Keep (dat L h) (dat L h')) : ColsH L h' D cols nss :=
  ⟨x.lo, list_keep x.list (k _), fun c hc => Col.at_keep (x.col c hc) (k _), x.are⟩
theorem ColsAre.get {cols : List Col} {nss : List (List Int)} (x : ColsAre cols nss) : ∀ {i : Nat} {c : Col}, cols[i]? = some c → ∃ ns, nss[i]? = some ns ∧ Ints c.items.toList ns := by
  induction x with
  | nil => intro i c e; simp at e
  | cons hc _ ih =>
    intro i c e
    cases i with
    | zero => simp at e; subst e; exact ⟨_, rfl, hc⟩
    | succ i => exact ih (by simpa using e)
theorem old_keep {L : Nat} {h₁ h : Heap} {out : List Addr} (k : Keep h₁ h) (hlow : ∀ b ∈ out, h₁.objs.size ≤ b) : Keep (dat L h₁) (dat L (hideAll h out)) := fun b o e => by
  obtain ⟨e1, e2⟩ := dat_of e
  refine hideAll_get _ (hideAll_get _ (k _ _ e1) fun m => ?_) e2
  have a := hlow b m
  have a' : @LE.le Nat _ h₁.objs.size b := a
  have := ltS e1
  omega
theorem new_get {L : Nat} {h : Heap} {out : List Addr} {b N : Nat} {o : Obj} (hout : ∀ b ∈ out, @LT.lt Nat _ b N) (hb : N ≤ b) (hL : L + 4 < b) (l : 23 < L) (e : h.get? b = some o) : (dat L (hideAll h out)).get? b = some o :=
  dat_get (hide_new hout hb e) hL l

section
variable {prog : Program} {w : World} {A : Around} {E : Value → Shared → Prop} {s : Shared} {pm pl : Value} {mg mb : Str → Option Value} {Q : Flow → Shared → Prop} {L fa : Nat} {cd : Value} {G h : Heap} {m cm : Str → Option Value} {tk : Nat}

set_option maxHeartbeats 1000000 in
/-- kept = [tuple(column) for column in columns] -/
theorem segD {D : Nat} {cols : List Col} {nss : List (List Int)} (N : Names mg mb) (y : Law0 L pm pl mg mb G) (rm : Room A 30 100) (x : LS L G m cm h) (hz : L + 4 < h.objs.size)
    (hcol : cm "columns" = some (.ref D)) (C : ColsH L h D cols nss) (hw : nss.length ≤ 100) (hlist : ∀ c ∈ cols, c.tup = false) (hsml : ∀ ns ∈ nss, ns.length ≤ 100)
    (k : ∀ h' tk kp, LS L G (fun z => if z = "kept" then some (.ref kp) else m z) cm h' → L + 4 < h'.objs.size → ColsH L h' D cols nss → Rd (dat L h') (.ref kp) (.list (nss.map tupD)) → wpAny (model prog w) A (execs (lawB 8) (lawEnv L fa cd)) Q E (at_ s h' tk)) :
    wpAny (model prog w) A (execs (lawB 7) (lawEnv L fa cd)) Q E (at_ s h tk) := by
  have l23 := y.l23
  have hcl : cols.length = nss.length := C.are.length
  have Dlist : h.IsList D (cols.map fun c => Value.ref c.addr).toArray := list_keep C.list (dat_sub _)
  refine wpAny_execs_cons (comp_assign rfl rfl fun p1 => ?_)
  refine comp_list_gen (cl := []) rm.hh rfl rfl (by decide) (fun _ => .inl rfl) ?_ (fun _ => rfl)
  refine ldC (s := at_ s h tk) (c := L + 2) (v := .ref D) rfl (hcol ▸ x.columns) ?_ rfl rfl (by decide)
  refine ⟨D, _, fun ys h => RdAll (dat L h) ys ((nss.take ys.length).map tupD), rfl, Dlist, Nat.le_trans (show (cols.map fun c => Value.ref c.addr).toArray.size ≤ 100 by simp; omega) (by decide), ⟨fun ys h h' kk r => r.keep (hide_keep kk), fun h => RdAll.nil, ?_⟩, ?_⟩
  · intro C' Z i v ys h₁ tk₁ out E' hi hP hH hl hJ hks hC hout hlow hzz
    have hks' : Keep h h₁ := hks
    have hzz' : h.objs.size ≤ h₁.objs.size := hzz
    have hi' : i < cols.length := by simpa using hi
    obtain ⟨c, hc⟩ : ∃ c, cols[i]? = some c := ⟨_, List.getElem?_eq_getElem hi'⟩
    have hv : v = .ref c.addr := by
      have : (cols.map fun c => Value.ref c.addr)[i]? = some v := by simpa using hP
      rw [List.getElem?_map, hc] at this
      exact (Option.some.inj this).symm
    subst hv
    obtain ⟨ns, hns, hI⟩ := C.are.get hc
    have hcat : h₁.IsList c.addr c.items := by
      have := Col.at_keep (C.col c (List.mem_of_getElem? hc)) (fun o e => hks' _ _ (dat_sub _ _ e))
      unfold Col.at at this
      rw [hlist c (List.mem_of_getElem? hc)] at this
      simpa using this
    have hsz : c.items.size ≤ 100 := by
      have := hI.length
      have h2 := hsml ns (List.mem_of_getElem? hns)
      simp at this; omega
    refine wpAny_Call_NameR (ldB (s := at_ s h₁ tk₁) ((x.base y).keep hks') (N.no _ (by decide)) N.tuple ?_ rfl rfl rfl rfl (by decide))
    refine callWith_type1 (args_cons (ldH (s := at_ s h₁ tk₁) hH rfl (args_nil ?_) (by decide)))
    refine call_tuple_list (s := at_ s h₁ tk₁) hcat (fun h₂ hk₂ => ?_) (Nat.le_trans hsz (by decide))
    have a1 : D < h₂.objs.size := Heap.lt_size (list_keep (list_keep Dlist (hks' _)) (hk₂ _)).choose_spec.1
    have hlo := C.lo
    refine ⟨_, _, rfl, fun b o e => Heap.get?_push_of_some _ (hk₂ b o e), ?_⟩
    rw [show (nss.take (ys ++ [Value.ref h₂.objs.size]).length).map tupD = (nss.take ys.length).map tupD ++ [tupD ns] by
      rw [List.length_append, List.length_singleton, hl, take_succ' hns, List.map_append]; rfl]
    refine RdAll.append (hJ.keep (hide_keep (hide_keep fun b o e => Heap.get?_push_of_some _ (hk₂ b o e)))) (.one ?_)
    exact Rd.tuple (n := 0) (new_get (live_lt hout hk₂) (Nat.le_refl _) (by omega) l23 (Heap.get?_push_size _ rfl)) rfl rfl (hI.rd _)
  · intro K C' h₁ tk₁ ys m' X
    refine comp_post_store X rfl rfl x.ns fun h₀ h₂ tk₂ hl hJ hD hk hlo n₂ kb hzz => ?_
    have hk' : Keep h h₀ := hk
    have hlo' : h.objs.size ≤ K := hlo
    have kd : Keep (dat L h₀) (dat L h₂) := dat_keep fun b o hb e => kb b o (fun q => hb (by rw [show b = L from q]; simp)) e
    have kd0 : Keep (dat L h) (dat L h₀) := hide_keep hk'
    refine k h₂ tk₂ K ((x.kept hk').store y n₂ kb) ?_ (C.kept fun b o e => kd _ _ (kd0 _ _ e)) ?_
    · rw [hzz]
      have : @LT.lt Nat _ K h₀.objs.size := hD.lt
      omega
    · refine Rd.keep ?_ kd
      refine Rd.ofList (xs := ys.toArray) (dat_list hD.isList (by omega) l23) ?_
      rw [hl, show (cols.map fun c => Value.ref c.addr).toArray.size = nss.length by simp [hcl], List.take_of_length_le (Nat.le_refl _)] at hJ
      simpa using hJ
end
end Mine
end

section
open PySem PySem.W PyProof.Rows PySem.Calls
namespace Mine

/-- sh is the least length -/
structure Least (nss : List (List Int)) (sh : Nat) : Prop where
  le : ∀ ns ∈ nss, sh ≤ ns.length
  at_ : ∃ ns ∈ nss, ns.length = sh
structure Most (nss : List (List Int)) (lg : Nat) : Prop where
  le : ∀ ns ∈ nss, ns.length ≤ lg
  at_ : ∃ ns ∈ nss, ns.length = lg
def lenI (ns : List Int) : Int := (ns.length : Nat)
theorem Ints.snoc {vs : List Value} {ns : List Int} {n : Int} {t : Tok} (x : Ints vs ns) : Ints (vs ++ [.int n t]) (ns ++ [n]) := by
  have := RdAll.append x (RdAll.one (h := {}) (v := .int n t) (d := .int n) .int)
  rw [show ns.map PyData.int ++ [PyData.int n] = (ns ++ [n]).map PyData.int by simp] at this
  exact this

section
variable {prog : Program} {w : World} {A : Around} {E : Value → Shared → Prop} {s : Shared} {pm pl : Value} {mg mb : Str → Option Value} {L fa : Nat} {cd : Value} {G h : Heap} {m cm : Str → Option Value} {tk : Nat}

set_option maxHeartbeats 1000000 in
/-- [len(column) for column in columns] -/
theorem lens {D : Nat} {cols : List Col} {nss : List (List Int)} {p1 p2 p3 p4 p5 p6 : Pos} {scope : Scope} {Q : Value → Shared → Prop} (N : Names mg mb) (y : Law0 L pm pl mg mb G) (rm : Room A 30 100) (x : LS L G m cm h)
    (hcol : cm "columns" = some (.ref D)) (C : ColsH L h D cols nss) (hw : nss.length ≤ 100) (hlist : ∀ c ∈ cols, c.tup = false) (hsml : ∀ ns ∈ nss, ns.length ≤ 100)
    (hclos : closureFor scope (lawEnv L fa cd) = pure []) (hkind : scope.kind = .function) (hnames : ∀ y ∈ scope.names, y.2 = .local → scope.names.lookup y.1 = some .local) (hx : OwnName scope [] (lawEnv L fa cd) "column")
    (hl : ∀ C : Nat, (cenvOf scope [] C (lawEnv L fa cd)).kindOf "len" = some .globalImplicit)
    (k : ∀ K h' tk ys, Keep h h' → PlainL h' K (List.toArray ys) → Ints ys (nss.map lenI) → Q (.ref K) (at_ s h' tk)) :
    wpAny (model prog w) A (eval (.ListComp (.Call (.Name "len" p1) [.Name "column" p2] [] p3) [⟨.Name "column" p4, .Name "columns" p5, [], 0⟩] scope p6) (lawEnv L fa cd)) Q E (at_ s h tk) := by
  have hcl : cols.length = nss.length := C.are.length
  have Dlist : h.IsList D (cols.map fun c => Value.ref c.addr).toArray := list_keep C.list (dat_sub _)
  refine comp_list (cl := []) rm.hh hclos hkind hnames hx ?_
  refine ldC (s := at_ s h tk) (c := L + 2) (v := .ref D) rfl (hcol ▸ x.columns) ?_ rfl rfl (by decide)
  refine ⟨D, _, fun ys _ => Ints ys ((nss.take ys.length).map lenI), rfl, Dlist, Nat.le_trans (show (cols.map fun c => Value.ref c.addr).toArray.size ≤ 100 by simp; omega) (by decide), ⟨fun ys h h' kk r => r, fun h => Ints.nil, ?_⟩, ?_⟩
  · intro C' Z i v ys h₁ tk₁ out E' hi hP hH hl' hJ hks hC hout hlow hzz
    have hks' : Keep h h₁ := hks
    have hi' : i < cols.length := by simpa using hi
    obtain ⟨c, hc⟩ : ∃ c, cols[i]? = some c := ⟨_, List.getElem?_eq_getElem hi'⟩
    have hv : v = .ref c.addr := by
      have : (cols.map fun c => Value.ref c.addr)[i]? = some v := by simpa using hP
      rw [List.getElem?_map, hc] at this
      exact (Option.some.inj this).symm
    subst hv
    obtain ⟨ns, hns, hI⟩ := C.are.get hc
    have hcat : h₁.IsList c.addr c.items := by
      have := Col.at_keep (C.col c (List.mem_of_getElem? hc)) (fun o e => hks' _ _ (dat_sub _ _ e))
      unfold Col.at at this
      rw [hlist c (List.mem_of_getElem? hc)] at this
      simpa using this
    have hil : c.items.size = ns.length := by simpa using hI.length
    have h2 := hsml ns (List.mem_of_getElem? hns)
    refine wpAny_Call_NameR (ldB (s := at_ s h₁ tk₁) ((x.base y).keep hks') (N.no _ (by decide)) N.len ?_ rfl rfl hkind (hl C') (by decide))
    refine callWith_builtin1 (args_cons (ldH (s := at_ s h₁ tk₁) hH hkind (args_nil ?_) (by decide)))
    refine call_len_list (s := at_ s h₁ tk₁) hcat (by omega) ⟨h₁, _, rfl, fun _ _ e => e, ?_⟩
    rw [List.length_append, List.length_singleton, hl', take_succ' hns, List.map_append, hil]
    rw [hl'] at hJ
    exact Ints.snoc hJ
  · intro K h₁ tk₁ ys hl' hJ hD hk hlo
    refine k K h₁ tk₁ ys hk hD ?_
    rw [hl', show (cols.map fun c => Value.ref c.addr).toArray.size = nss.length by simp [hcl], List.take_of_length_le (Nat.le_refl _)] at hJ
    exact hJ

variable {Q : Flow → Shared → Prop}
set_option maxHeartbeats 1000000 in
/-- short and longest -/
theorem segE {D : Nat} {cols : List Col} {nss : List (List Int)} (N : Names mg mb) (y : Law0 L pm pl mg mb G) (rm : Room A 30 100) (x : LS L G m cm h) (hz : L + 4 < h.objs.size)
    (hcol : cm "columns" = some (.ref D)) (C : ColsH L h D cols nss) (hw : nss.length ≤ 100) (hw1 : 0 < nss.length) (hlist : ∀ c ∈ cols, c.tup = false) (hsml : ∀ ns ∈ nss, ns.length ≤ 100)
    (k : ∀ h' tk (sh lg : Nat) t1 t2, Least nss sh → Most nss lg → LS L G (fun z => if z = "longest" then some (.int lg t2) else m z) (fun z => if z = "short" then some (.int sh t1) else cm z) h' → L + 4 < h'.objs.size → Keep (dat L h) (dat L h') →
      wpAny (model prog w) A (execs (lawB 10) (lawEnv L fa cd)) Q E (at_ s h' tk)) :
    wpAny (model prog w) A (execs (lawB 8) (lawEnv L fa cd)) Q E (at_ s h tk) := by
  have l23 := y.l23
  refine wpAny_execs_cons (wpAny_Assign_Name ?_)
  refine wpAny_Call_NameR (ldB (s := at_ s h tk) (x.base y) (N.no _ (by decide)) N.min ?_ rfl rfl rfl rfl (by decide))
  refine callWith_builtin1 (args_cons (lens N y rm x hcol C hw hlist hsml rfl rfl (by decide) (fun _ => .inl rfl) (fun _ => rfl) fun K h₁ tk₁ ys hk₁ hK hI => args_nil ?_))
  refine min_K (s := at_ s h₁ tk₁) rm.hh hK.isList hI (by simpa using hw1) fun h₂ M t tk₂ hk₂ hM hle => ?_
  have hk₂' : Keep h₁ h₂ := hk₂
  obtain ⟨ns0, hns0, rfl⟩ := List.mem_map.mp hM
  have hle : ∀ a ∈ nss.map lenI, lenI ns0 ≤ a := hle
  have x₂ := x.kept fun b o e => hk₂' _ _ (hk₁ b o e)
  refine wpAny_storeName_cell (s := at_ s h₂ tk₂) (c := L + 3) rfl rfl rfl x₂.short fun h₃ c₃ hs₃ => ?_
  have x₃ : LS L G m (fun z => if z = "short" then some (.int ns0.length t) else cm z) h₃ := x₂.cell y (c := L + 3) (by omega) (by omega) hs₃.extBut (cell_at x₂.step fun o e => hs₃.extBut _ o (show L + 1 ≠ L + 3 by omega) e)
    (cell_at x₂.columns fun o e => hs₃.extBut _ o (show L + 2 ≠ L + 3 by omega) e) c₃ (cell_at x₂.rows fun o e => hs₃.extBut _ o (show L + 4 ≠ L + 3 by omega) e)
  have kd₃ : Keep (dat L h) (dat L h₃) := dat_keep fun b o hb e => hs₃.extBut b o (fun q => hb (by rw [q]; simp [ownsL])) (hk₂' _ _ (hk₁ _ _ e))
  have C₃ := C.kept kd₃
  dsimp only
  refine wpAny_execs_cons (wpAny_Assign_Name ?_)
  refine wpAny_Call_NameR (ldB (s := at_ s h₃ tk₂) (x₃.base y) (N.no _ (by decide)) N.max ?_ rfl rfl rfl rfl (by decide))
  refine callWith_builtin1 (args_cons (lens N y rm x₃ hcol C₃ hw hlist hsml rfl rfl (by decide) (fun _ => .inl rfl) (fun _ => rfl) fun K' h₄ tk₄ ys' hk₄ hK' hI' => args_nil ?_))
  refine max_K (s := at_ s h₄ tk₄) rm.hh hK'.isList hI' (by simpa using hw1) fun h₅ M' t' tk₅ hk₅ hM' hle' => ?_
  have hk₅' : Keep h₄ h₅ := hk₅
  obtain ⟨ns1, hns1, rfl⟩ := List.mem_map.mp hM'
  have x₅ := x₃.kept fun b o e => hk₅' _ _ (hk₄ b o e)
  refine wpAny_storeName_local (s := at_ s h₅ tk₅) rfl x₅.ns (fun h₆ n₆ hs₆ => ?_) rfl
  refine k h₆ _ ns0.length ns1.length t t' ⟨fun ns hm => ?_, ns0, hns0, rfl⟩ ⟨fun ns hm => ?_, ns1, hns1, rfl⟩ (x₅.store y n₆ hs₆.extBut) ?_ fun b o e => ?_
  · have := hle _ (List.mem_map.mpr ⟨ns, hm, rfl⟩)
    unfold lenI at this
    omega
  · have := hle' _ (List.mem_map.mpr ⟨ns, hm, rfl⟩)
    unfold lenI at this
    omega
  · rw [hs₆.1]
    have a1 : D < h₅.objs.size := Heap.lt_size (list_keep (list_keep C₃.list (dat_sub _)) fun o e => hk₅' _ _ (hk₄ _ _ e)).choose_spec.1
    have := C.lo
    show L + 4 < h₅.objs.size
    omega
  · exact dat_keep (h := h₃) (fun b o hb e => hs₆.extBut b o (fun q => hb (by rw [q]; show L ∈ ownsL L; simp [ownsL])) (hk₅' _ _ (hk₄ _ _ e))) _ _ (kd₃ _ _ e)
end
end Mine
end

section
open PySem PySem.W PyProof.Rows PySem.Calls
namespace Mine

def takeD (sh : Nat) (ns : List Int) : PyData := tupD (ns.take sh)
def atI (i : Nat) (ns : List Int) : Int := ns.getD i 0

section
variable {prog : Program} {w : World} {A : Around} {E : Value → Shared → Prop} {s : Shared} {pm pl : Value} {mg mb : Str → Option Value} {L fa : Nat} {cd : Value} {G h : Heap} {m cm : Str → Option Value} {tk : Nat} {Q : Flow → Shared → Prop}

set_option maxHeartbeats 2000000 in
/-- rows = [tuple([column[j] for column in columns]) for j in range(short)] -/
theorem segF {D : Nat} {cols : List Col} {nss : List (List Int)} {sh : Nat} {tsh : Tok} (N : Names mg mb) (y : Law0 L pm pl mg mb G) (rm : Room A 30 100) (x : LS L G m cm h) (hz : L + 4 < h.objs.size)
    (hcol : cm "columns" = some (.ref D)) (C : ColsH L h D cols nss) (hw : nss.length ≤ 100) (hlist : ∀ c ∈ cols, c.tup = false) (hsml : ∀ ns ∈ nss, ns.length ≤ 100) (hsh : cm "short" = some (.int sh tsh)) (hle : ∀ ns ∈ nss, sh ≤ ns.length) (hsh1 : sh ≤ 100)
    (k : ∀ h' tk rw, LS L G m (fun z => if z = "rows" then some (.ref rw) else cm z) h' → L + 4 < h'.objs.size → Keep (dat L h) (dat L h') → Rd (dat L h') (.ref rw) (.list ((rowsI nss sh).map tupD)) →
      wpAny (model prog w) A (execs (lawB 11) (lawEnv L fa cd)) Q E (at_ s h' tk)) :
    wpAny (model prog w) A (execs (lawB 10) (lawEnv L fa cd)) Q E (at_ s h tk) := by
  have l23 := y.l23
  have hcl : cols.length = nss.length := C.are.length
  have Dlist : h.IsList D (cols.map fun c => Value.ref c.addr).toArray := list_keep C.list (dat_sub _)
  have hDlo := C.lo
  refine wpAny_execs_cons (wpAny_Assign_Name ?_)
  refine comp_range (cl := [("columns", L + 2)]) rm.hh rfl rfl (by decide) (fun C => .inr ⟨rfl, C + 1, .head _, rfl⟩) ?_
  refine wpAny_Call_NameR (ldB (s := at_ s h tk) (x.base y) (N.no _ (by decide)) N.range ?_ rfl rfl rfl rfl (by decide))
  refine callWith_type1 (args_cons (ldC (s := at_ s h tk) (c := L + 3) (v := .int sh tsh) rfl (hsh ▸ x.short) (args_nil (call_range_1 ?_)) rfl rfl (by decide)))
  refine ⟨h.objs.size, 0, sh, 1, _, _, _, sh, fun ys h => RdAll (dat L h) ys ((rowsI nss ys.length).map tupD), rfl, IsRange.new .., small_one (by omega) (by omega) (by omega) (by omega), ?_, Nat.le_trans hsh1 (by decide), ⟨fun ys h h' kk r => r.keep (hide_keep kk), fun h => RdAll.nil, ?_⟩, ?_⟩
  · rw [rangeSize_one]; split <;> omega
  · intro C' Z i v ys h₁ tk₁ out E' hi hP hH hl hJ hks hC hout hlow hzz
    have hks' : Keep h h₁ := fun b o e => hks _ _ (Heap.get?_push_of_some _ e)
    obtain ⟨tj, rfl⟩ := hP
    rw [show (0 + (i : Int) * 1) = (i : Int) by omega] at hH
    have hj : h₁.IsCell (C' + 1) (some (.int (i : Nat) tj)) := by
      rcases hH with ⟨a, _⟩ | ⟨_, b, c⟩
      · exact nomatch (show some NameKind.cell = some NameKind.local from a)
      · cases (show some (C' + 1) = some Z from b)
        exact c
    have x₁ := x.kept hks'
    refine wpAny_Call_NameR (ldB (s := at_ s h₁ tk₁) (x₁.base y) (N.no _ (by decide)) N.tuple ?_ rfl rfl rfl rfl (by decide))
    refine callWith_type1 (args_cons (comp_list (cl := [("j", C' + 1)]) rm.hh rfl rfl (by decide) (fun _ => .inl rfl) ?_))
    refine ldC (s := at_ s h₁ tk₁) (c := L + 2) (v := .ref D) rfl (hcol ▸ x₁.columns) ?_ rfl rfl (by decide)
    refine ⟨D, _, fun ys _ => Ints ys ((nss.take ys.length).map (atI i)), rfl, list_keep Dlist (hks' _), Nat.le_trans (show (cols.map fun c => Value.ref c.addr).toArray.size ≤ 100 by simp; omega) (by decide), ⟨fun ys h h' kk r => r, fun h => Ints.nil, ?_⟩, ?_⟩
    · intro C₂ Z₂ i₂ v₂ ys₂ h₂ tk₂ out₂ E₂ hi₂ hP₂ hH₂ hl₂ hJ₂ hks₂ hC₂ hout₂ hlow₂ hzz₂
      have hks₂' : Keep h₁ h₂ := hks₂
      have hi' : i₂ < cols.length := by simpa using hi₂
      obtain ⟨c, hc⟩ : ∃ c, cols[i₂]? = some c := ⟨_, List.getElem?_eq_getElem hi'⟩
      have hv : v₂ = .ref c.addr := by
        have : (cols.map fun c => Value.ref c.addr)[i₂]? = some v₂ := by simpa using hP₂
        rw [List.getElem?_map, hc] at this
        exact (Option.some.inj this).symm
      subst hv
      obtain ⟨ns, hns, hI⟩ := C.are.get hc
      have hcat : h₂.IsList c.addr c.items := by
        have := Col.at_keep (C.col c (List.mem_of_getElem? hc)) (fun o e => hks₂' _ _ (hks' _ _ (dat_sub _ _ e)))
        unfold Col.at at this
        rw [hlist c (List.mem_of_getElem? hc)] at this
        simpa using this
      have hil : c.items.size = ns.length := by simpa using hI.length
      have h2 := hle ns (List.mem_of_getElem? hns)
      have h3 := hsml ns (List.mem_of_getElem? hns)
      have hlt : i < c.items.size := by omega
      obtain ⟨nv, tv, hnv, hvv⟩ := hI.get (i := i) (v := c.items[i]) (by simp [hlt])
      have hix : c.items[((i : Nat) : Int).toNat]? = some (.int nv tv) := by rw [← hvv, Int.toNat_natCast]; simp [hlt]
      refine wpAny_Subscript_Name_late (ldH (s := at_ s h₂ tk₂) hH₂ rfl (ldC (s := at_ s h₂ tk₂) (c := C' + 1) rfl (cell_at hj (hks₂' _)) ?_ rfl rfl (by decide)) (by decide))
      refine sub_list (s := at_ s h₂ tk₂) hcat (by omega) (by omega) hix ⟨h₂, _, rfl, fun _ _ e => e, ?_⟩
      rw [hl₂] at hJ₂
      rw [List.length_append, List.length_singleton, hl₂, take_succ' hns, List.map_append, show [ns].map (atI i) = [nv] by simp [atI, List.getD, hnv]]
      exact Ints.snoc hJ₂
    · intro K h₂ tk₂ ys₂ hl₂ hJ₂ hD₂ hk₂ hlo₂
      have hk₂' : Keep h₁ h₂ := hk₂
      rw [hl₂, show (cols.map fun c => Value.ref c.addr).toArray.size = nss.length by simp [hcl], List.take_of_length_le (Nat.le_refl _)] at hJ₂
      have hl₂' : ys₂.length = nss.length := by rw [hl₂]; simp [hcl]
      refine args_nil (call_tuple_list (s := at_ s h₂ tk₂) hD₂.isList (fun h₃ hk₃ => ?_) (Nat.le_trans (show ys₂.toArray.size ≤ 100 by simp; omega) (by decide)))
      have hk₃' : Keep h₂ h₃ := hk₃
      have a1 : D < h₃.objs.size := Heap.lt_size (list_keep Dlist fun o e => hk₃' _ _ (hk₂' _ _ (hks' _ _ e))).choose_spec.1
      have k13 : Keep h₁ h₃ := fun b o e => hk₃' _ _ (hk₂' b o e)
      refine ⟨_, _, rfl, fun b o e => Heap.get?_push_of_some _ (k13 b o e), ?_⟩
      rw [List.length_append, List.length_singleton, hl, rowsI_succ, List.map_append]
      rw [hl] at hJ
      refine RdAll.append (hJ.keep (hide_keep (hide_keep fun b o e => Heap.get?_push_of_some _ (k13 b o e)))) (.one ?_)
      refine Rd.tuple (n := 0) (new_get (live_lt hout k13) (Nat.le_refl _) (by omega) l23 (Heap.get?_push_size _ rfl)) rfl rfl ?_
      have := Ints.rd hJ₂ (dat L (hideAll (h₃.push { cls := .type "tuple", data := .seq ys₂.toArray }) out))
      show RdAll _ ys₂.toArray.toList ((nss.map (atI i)).map PyData.int)
      simpa using this
  · intro K h₁ tk₁ ys hl hJ hD hk hlo
    have hk' : Keep h h₁ := fun b o e => hk _ _ (Heap.get?_push_of_some _ e)
    have hlo' : h.objs.size + 1 ≤ K := Nat.le_trans (Nat.le_of_eq (Heap.size_push ..).symm) hlo
    have x₁ := x.kept hk'
    refine wpAny_storeName_cell (s := at_ s h₁ tk₁) (c := L + 4) rfl rfl rfl x₁.rows fun h₂ c₂ hs₂ => ?_
    have x₂ : LS L G m (fun z => if z = "rows" then some (.ref K) else cm z) h₂ := x₁.cell y (c := L + 4) (by omega) (by omega) hs₂.extBut (cell_at x₁.step fun o e => hs₂.extBut _ o (show L + 1 ≠ L + 4 by omega) e)
      (cell_at x₁.columns fun o e => hs₂.extBut _ o (show L + 2 ≠ L + 4 by omega) e) (cell_at x₁.short fun o e => hs₂.extBut _ o (show L + 3 ≠ L + 4 by omega) e) c₂
    have kd : Keep (dat L h₁) (dat L h₂) := dat_keep fun b o hb e => hs₂.extBut b o (fun q => hb (by rw [q]; simp [ownsL])) e
    refine k h₂ _ K x₂ ?_ (fun b o e => kd _ _ (hide_keep hk' _ _ e)) (Rd.keep ?_ kd)
    · rw [hs₂.1]
      have : @LT.lt Nat _ K h₁.objs.size := hD.lt
      show L + 4 < h₁.objs.size
      omega
    · rw [hl] at hJ
      exact Rd.ofList (xs := ys.toArray) (dat_list hD.isList (by omega) l23) (by simpa using hJ)

set_option maxHeartbeats 2000000 in
/-- back = [column[:short] for column in kept] -/
theorem segG {kp : Nat} {nss : List (List Int)} {sh : Nat} {tsh : Tok} (y : Law0 L pm pl mg mb G) (rm : Room A 30 100) (x : LS L G m cm h) (hz : L + 4 < h.objs.size)
    (hkp : m "kept" = some (.ref kp)) (hK : Rd (dat L h) (.ref kp) (.list (nss.map tupD))) (hw : nss.length ≤ 100) (hsml : ∀ ns ∈ nss, ns.length ≤ 100) (hsh : cm "short" = some (.int sh tsh)) (hle : ∀ ns ∈ nss, sh ≤ ns.length)
    (k : ∀ h' tk bk, LS L G (fun z => if z = "back" then some (.ref bk) else m z) cm h' → L + 4 < h'.objs.size → Keep (dat L h) (dat L h') → Rd (dat L h') (.ref bk) (.list (nss.map (takeD sh))) →
      wpAny (model prog w) A (execs (lawB 12) (lawEnv L fa cd)) Q E (at_ s h' tk)) :
    wpAny (model prog w) A (execs (lawB 11) (lawEnv L fa cd)) Q E (at_ s h tk) := by
  have l23 := y.l23
  obtain ⟨ka, items, hka, hl, hr⟩ := hK.isList
  cases hka
  have hil : items.size = nss.length := by simpa using hr.length
  refine wpAny_execs_cons (comp_assign rfl rfl fun p1 => ?_)
  refine comp_list_gen (cl := [("short", L + 3)]) rm.hh rfl rfl (by decide) (fun _ => .inl rfl) ?_ (fun _ => rfl)
  refine ldL (s := at_ s h tk) x.ns (v := .ref kp) hkp ?_ rfl rfl (by decide)
  refine ⟨kp, items, fun ys h => RdAll (dat L h) ys ((nss.take ys.length).map (takeD sh)), rfl, list_keep hl (dat_sub _), Nat.le_trans (show items.size ≤ 100 by omega) (by decide), ⟨fun ys h h' kk r => r.keep (hide_keep kk), fun h => RdAll.nil, ?_⟩, ?_⟩
  · intro C' Z i v ys h₁ tk₁ out E' hi hP hH hl' hJ hks hC hout hlow hzz
    have hks' : Keep h h₁ := hks
    obtain ⟨d, hd, hv⟩ := hr.get i v (by simpa using hP)
    rw [List.getElem?_map] at hd
    cases hri : nss[i]? with
    | none => rw [hri] at hd; cases hd
    | some ns =>
      rw [hri] at hd; cases hd
      obtain ⟨b, xs, rfl, hb, hxs⟩ := hv.isTuple
      have hI : Ints xs.toList ns := Ints.of_rd hxs
      have hxl : xs.size = ns.length := by simpa using hI.length
      have h2 := hle ns (List.mem_of_getElem? hri)
      have h3 := hsml ns (List.mem_of_getElem? hri)
      have hbt : h₁.IsTuple b xs := let ⟨o, e, r⟩ := hb; ⟨o, hks' _ _ (dat_sub _ _ e), r⟩
      refine Subscript_take (ldH (s := at_ s h₁ tk₁) hH rfl (ldC (s := at_ s h₁ tk₁) (c := L + 3) (v := .int sh tsh) rfl (cell_at (hsh ▸ x.short) (hks' _)) ?_ rfl rfl (by decide)) (by decide))
      refine ⟨b, xs, sh, tsh, rfl, rfl, hbt, by omega, by omega, fun b' h₂ tk₂ hk₂ hb₂ hwhere hz₂ => ⟨h₂, tk₂, rfl, hk₂, ?_⟩⟩
      have hk₂' : Keep h₁ h₂ := hk₂
      rw [List.length_append, List.length_singleton, hl', take_succ' hri, List.map_append]
      rw [hl'] at hJ
      refine RdAll.append (hJ.keep (hide_keep (hide_keep hk₂'))) (.one ?_)
      have ht : (dat L (hideAll h₂ out)).IsTuple b' (xs.toList.take sh).toArray := by
        obtain ⟨o, e, r⟩ := hb₂
        rcases hwhere with rfl | hge
        · obtain ⟨o', e', _⟩ := hb
          have e2 := old_keep (fun b o e => hk₂' b o (hks' b o e)) hlow _ _ e'
          have : h₂.get? b' = some o' := dat_sub _ _ (hide_keep (fun b o e => of_hideAll _ e) _ _ e2)
          rw [e] at this
          cases this
          exact ⟨o, e2, r⟩
        · have hge' : h₁.objs.size ≤ b' := hge
          have hzz' : h.objs.size ≤ h₁.objs.size := hzz
          exact ⟨o, new_get (live_lt hout fun _ _ e => e) hge' (by omega) l23 e, r⟩
      refine Rd.ofTuple ht ?_
      have := (hI.take sh).rd (dat L (hideAll h₂ out))
      simpa using this
  · intro K C' h₁ tk₁ ys m' X
    refine comp_post_store X rfl rfl x.ns fun h₀ h₂ tk₂ hl' hJ hD hk hlo n₂ kb hzz => ?_
    have hk' : Keep h h₀ := hk
    have hlo' : h.objs.size ≤ K := hlo
    have kd : Keep (dat L h₀) (dat L h₂) := dat_keep fun b o hb e => kb b o (fun q => hb (by rw [show b = L from q]; simp)) e
    refine k h₂ tk₂ K ((x.kept hk').store y n₂ kb) ?_ (fun b o e => kd _ _ (hide_keep hk' _ _ e)) (Rd.keep ?_ kd)
    · rw [hzz]
      have : @LT.lt Nat _ K h₀.objs.size := hD.lt
      omega
    · rw [hl', hil, List.take_of_length_le (Nat.le_refl _)] at hJ
      exact Rd.ofList (xs := ys.toArray) (dat_list hD.isList (by omega) l23) (by simpa using hJ)
end
end Mine
end

section
open PySem PySem.W PyProof.Rows PySem.Calls
namespace Mine

/-- data that compares -/
def Flat (n : Nat) (d : PyData) : Prop := d.canLay0 = true ∧ d.depth ≤ n
theorem flatAll {n : Nat} : ∀ {ds : List PyData}, (∀ d ∈ ds, Flat n d) → PyData.canLayAll0 ds = true ∧ PyData.depthAll ds ≤ n
  | [], _ => ⟨rfl, Nat.zero_le _⟩
  | d :: ds, h => by
    obtain ⟨a, b⟩ := flatAll (fun e he => h e (.tail _ he))
    obtain ⟨c, e⟩ := h d (.head _)
    exact ⟨by rw [PyData.canLayAll0, c, a]; rfl, by rw [PyData.depthAll]; exact Nat.max_le.mpr ⟨e, b⟩⟩
theorem flat_list {n : Nat} {ds : List PyData} (h : ∀ d ∈ ds, Flat n d) : Flat (n + 1) (.list ds) :=
  let ⟨a, b⟩ := flatAll h; ⟨by rw [PyData.canLay0]; exact a, by rw [PyData.depth]; omega⟩
theorem flat_tuple {n : Nat} {ds : List PyData} (h : ∀ d ∈ ds, Flat n d) : Flat (n + 1) (.tuple ds) :=
  let ⟨a, b⟩ := flatAll h; ⟨by rw [PyData.canLay0]; exact a, by rw [PyData.depth]; omega⟩
theorem flat_int (n : Nat) (i : Int) : Flat n (.int i) := ⟨rfl, by rw [PyData.depth]; omega⟩
theorem flat_none (n : Nat) : Flat n .none := ⟨rfl, by rw [PyData.depth]; omega⟩
theorem flat_str (n : Nat) {x : Str} (h : PyData.canLay0 (.str x) = true) : Flat n (.str x) := ⟨h, by rw [PyData.depth]; omega⟩
theorem Flat.le {n k : Nat} {d : PyData} (h : Flat n d) (e : n ≤ k) : Flat k d := ⟨h.1, Nat.le_trans h.2 e⟩
theorem flat_tup (r : List Int) : Flat 1 (tupD r) := flat_tuple fun d hd => by
  obtain ⟨i, _, rfl⟩ := List.mem_map.mp hd
  exact flat_int 0 i
theorem flat_out (r : List Int) : Flat 2 (outD r) := flat_tuple fun d hd => by
  rcases List.mem_cons.mp hd with rfl | hd
  · exact flat_int _ _
  · rw [List.mem_singleton.mp hd]; exact flat_tup _
theorem flat_rows (rs : List (List Int)) : Flat 2 (.list (rs.map tupD)) := flat_list fun d hd => by
  obtain ⟨r, _, rfl⟩ := List.mem_map.mp hd
  exact flat_tup r
theorem flat_right (rs : List (List Int)) {bad : Int} (h0 : 0 ≤ bad) (h6 : bad ≤ 6) : Flat 4 (rightD rs bad) := by
  unfold rightD
  have hs : PyData.canLay0 (.str (toString bad)) = true := by
    have : bad = 0 ∨ bad = 1 ∨ bad = 2 ∨ bad = 3 ∨ bad = 4 ∨ bad = 5 ∨ bad = 6 := by omega
    rw [PyData.canLay0]
    rcases this with rfl | rfl | rfl | rfl | rfl | rfl | rfl <;> decide +kernel
  split
  · refine flat_tuple fun d hd => ?_
    rcases List.mem_cons.mp hd with rfl | hd
    · exact flat_none _
    rcases List.mem_cons.mp hd with rfl | hd
    · exact flat_str _ hs
    · rw [List.mem_singleton.mp hd]; exact (flat_rows _).le (by decide)
  · refine flat_tuple fun d hd => ?_
    rcases List.mem_cons.mp hd with rfl | hd
    · refine flat_list fun d hd => ?_
      obtain ⟨r, _, rfl⟩ := List.mem_map.mp hd
      exact flat_out r
    rcases List.mem_cons.mp hd with rfl | hd
    · exact flat_str _ (by rw [PyData.canLay0]; decide +kernel)
    · rw [List.mem_singleton.mp hd]; exact (flat_rows _).le (by decide)
theorem Flat.shaped {n : Nat} {d : PyData} (h : Flat n d) (e : n ≤ 64) : SeqAt.shaped d = true := by
  unfold SeqAt.shaped
  rw [h.1, Bool.true_and]
  exact decide_eq_true (Nat.le_trans h.2 e)

theorem outcome_right (nss : List (List Int)) (n : Nat) (bad : Int) : outcomeD nss n bad = rightD (rowsI nss n) bad := by
  unfold outcomeD rightD
  have e : (rowsI nss n).length = n := by simp [rowsI]
  rw [e]
  split
  · rename_i h
    have e2 : (rowsI nss n).take bad.toNat = rowsI nss bad.toNat := by
      unfold rowsI
      rw [← List.map_take, List.take_range, Nat.min_eq_left (by omega)]
    rw [e2]
  · rfl

section
variable {prog : Program} {w : World} {A : Around} {E : Value → Shared → Prop} {s : Shared}
theorem ne_same {a b : Value} {d : PyData} {n : Nat} {Q : Value → Shared → Prop} (ra : Rd s.heap a d) (rb : Rd s.heap b d) (f : Flat n d) (hn : n ≤ 64) (hu : A.units + 64 < cLine) (h : Q (.bool false) s) :
    wpAny (model prog w) A (compareOp .NotEq a b) Q E s := by
  obtain ⟨as, ra⟩ := ra
  obtain ⟨bs, rb⟩ := rb
  refine ne_dataH ra rb (f.shaped hn) (f.shaped hn) hu ?_
  rw [SeqAt.eqv_refl d f.1]; exact h
theorem eq_same {a b : Value} {d : PyData} {n : Nat} {Q : Value → Shared → Prop} (ra : Rd s.heap a d) (rb : Rd s.heap b d) (f : Flat n d) (hn : n ≤ 64) (hu : A.units + 64 < cLine) (h : Q (.bool true) s) :
    wpAny (model prog w) A (compareOp .Eq a b) Q E s := by
  obtain ⟨as, ra⟩ := ra
  obtain ⟨bs, rb⟩ := rb
  refine eq_dataH ra rb (f.shaped hn) (f.shaped hn) hu ?_
  rw [SeqAt.eqv_refl d f.1]; exact h
end

section
variable {prog : Program} {w : World} {A : Around} {E : Value → Shared → Prop} {s : Shared} {pm pl : Value} {mg mb : Str → Option Value} {L fa : Nat} {cd : Value} {G h : Heap} {m cm : Str → Option Value} {tk : Nat}

theorem Rd.dat {v : Value} {d : PyData} (x : Rd (dat L h) v d) : Rd h v d := x.keep dat_sub

set_option maxHeartbeats 1000000 in
/-- _law_outcome(e1, bad) != _law_right(e2, bad): false -/
theorem cmpO {a b n : Nat} {cols : List Col} {nss : List (List Int)} {bad : Int} {tb : Tok} {e1 e2 : Expr} {p1 p2 p3 p4 p5 p6 : Pos} {Q : Bool → Shared → Prop} (N : Names mg mb) (y : Law0 L pm pl mg mb G) (rm : Room A 30 100) (hfr : A.frames = some [lawEnv L fa cd]) (x : LS L G m cm h) (hz : L + 4 < h.objs.size)
    (he1 : ∀ {Q : Value → Shared → Prop} {E : Value → Shared → Prop} h tk, LS L G m cm h → Q (.ref a) (at_ s h tk) → wpAny (model prog w) A (eval e1 (lawEnv L fa cd)) Q E (at_ s h tk))
    (he2 : ∀ {Q : Value → Shared → Prop} {E : Value → Shared → Prop} h tk, LS L G m cm h → Q (.ref b) (at_ s h tk) → wpAny (model prog w) A (eval e2 (lawEnv L fa cd)) Q E (at_ s h tk))
    (hse1 : starEach [e1, .Name "bad" p2] (lawEnv L fa cd) = (false, eval e1 (lawEnv L fa cd)) :: starEach [.Name "bad" p2] (lawEnv L fa cd)) (hse2 : starEach [e2, .Name "bad" p5] (lawEnv L fa cd) = (false, eval e2 (lawEnv L fa cd)) :: starEach [.Name "bad" p5] (lawEnv L fa cd))
    (hb : m "bad" = some (.int bad tb)) (hb0 : 0 ≤ bad) (hb6 : bad ≤ 6)
    (ha : (dat L h).IsList a (cols.map fun c => Value.ref c.addr).toArray) (hat : ∀ c ∈ cols, c.at (dat L h)) (hI : ColsAre cols nss) (low : ∀ c ∈ cols, n ≤ c.items.size) (htop : ∃ c ∈ cols, c.items.size ≤ n) (fit : n ≤ 100) (few : cols.length ≤ 100)
    (hrd : Rd (dat L h) (.ref b) (.list ((rowsI nss n).map tupD)))
    (k : ∀ h' tk, LS L G m cm h' → L + 4 < h'.objs.size → Keep (dat L h) (dat L h') → Q false (at_ s h' tk)) :
    wpAny (model prog w) A (eval (.Call (.Name "_law_outcome" p1) [e1, .Name "bad" p2] [] p3) (lawEnv L fa cd)) (fun a s₁ => wpAny (model prog w) A (eval (.Call (.Name "_law_right" p4) [e2, .Name "bad" p5] [] p6) (lawEnv L fa cd)) (fun b s₂ => wpAny (model prog w) A (compareOp .NotEq a b)
      (fun c s₃ => wpAny (model prog w) A (truthy c) Q E s₃) E s₂) E s₁) E (at_ s h tk) := by
  have l23 := y.l23
  have B := x.base y
  obtain ⟨oO, hoO, hdO⟩ := y.base.outcome.fn
  obtain ⟨oR, hoR, hdR⟩ := y.base.right.fn
  have hbl : bad.natAbs.log2 < 1920 := by
    have : bad = 0 ∨ bad = 1 ∨ bad = 2 ∨ bad = 3 ∨ bad = 4 ∨ bad = 5 ∨ bad = 6 := by omega
    rcases this with rfl | rfl | rfl | rfl | rfl | rfl | rfl <;> decide
  refine wpAny_Call_NameR (ldG (s := at_ s h tk) B N.outcome ?_ rfl rfl rfl (by decide))
  refine callWith_def hdO ?_ hse1
  refine args_cons (he := hse1) (he1 h tk x (args_cons (ldL (s := at_ s h tk) x.ns hb (args_nil ⟨x.keep _ _ hoO, ?_⟩) rfl rfl (by decide))))
  refine wpAny_call (outcome_call (s := at_ s h tk) (lawE := lawEnv L fa cd) (Lw := L) (mw := m) N B x.tab (rm.less (by omega) (by omega)) ⟨hfr, rfl, rfl, x.ns⟩ (list_keep ha (dat_sub _)) (fun c hc => Col.at_keep (hat c hc) (dat_sub _)) hI low htop (by omega) (by omega) hbl fun v h₁ tk₁ hv kb n₁ t₁ hz₁ => ?_)
  have hz₁' : h.objs.size ≤ h₁.objs.size := hz₁
  have x₁ : LS L G m cm h₁ := x.called y n₁ t₁ kb
  have kd : Keep (dat L h) (dat L h₁) := dat_keep fun b o hb e => kb b o (fun q => by
    rcases q with q | q
    · exact hb (by rw [q]; simp)
    · exact hb (by rw [q]; simp)) e
  have hv' : Rd (dat L h₁) v (outcomeD nss n bad) := by
    refine hv.keep fun b o e => ?_
    obtain ⟨e1, e2⟩ := of_top e
    have e2' : h.objs.size ≤ b := e2
    exact dat_get e1 (by omega) l23
  refine wpAny_Call_NameR (ldG (s := at_ s h₁ tk₁) (x₁.base y) N.right ?_ rfl rfl rfl (by decide))
  refine callWith_def hdR ?_ hse2
  refine args_cons (he := hse2) (he2 h₁ tk₁ x₁ (args_cons (ldL (s := at_ s h₁ tk₁) x₁.ns hb (args_nil ⟨x₁.keep _ _ hoR, ?_⟩) rfl rfl (by decide))))
  obtain ⟨b', items, hbb, hli, hri⟩ := (hrd.keep kd).isList
  cases hbb
  have hnl : nss.length ≤ 100 := by have := hI.length; omega
  refine wpAny_call (right_call (s := at_ s h₁ tk₁) N (x₁.base y) (rm.less (by omega) (by omega)) (list_keep hli (dat_sub _)) (hri.keep dat_sub) (by simp [rowsI]; omega) (fun r hr => ?_) hbl fun u h₂ tk₂ hu hk₂ hz₂ => ?_)
  · obtain ⟨i, _, rfl⟩ := List.mem_map.mp hr
    show (nss.map _).length ≤ 100000
    rw [List.length_map]; omega
  · have hk₂' : Keep h₁ h₂ := hk₂
    have kd₂ : Keep (dat L h₁) (dat L h₂) := hide_keep hk₂'
    refine ne_same (s := at_ s h₂ tk₂) (n := 4) (d := rightD (rowsI nss n) bad) ?_ hu (flat_right _ hb0 hb6) (by decide) (by have := rm.units; omega) (wpAny_truthy_bool ?_)
    · rw [← outcome_right]; exact (hv'.keep kd₂).dat
    · exact k h₂ tk₂ (x₁.kept hk₂') (Nat.lt_of_lt_of_le (Nat.lt_of_lt_of_le hz hz₁) hz₂) fun b o e => kd₂ _ _ (kd _ _ e)

/-- (_law_row,) + tuple(e) -/
theorem row_plus {env : Env} {e : Expr} {x1 : Nat} {p1 p2 p3 p4 p5 : Pos} {Q : Value → Shared → Prop} (N : Names mg mb) (B : Base pm pl mg mb h) (hg : env.globals = mainGlobals) (hb : env.builtins = builtinsNs) (hk : env.scope.kind = .function)
    (hr : env.kindOf "_law_row" = some .globalImplicit) (ht : env.kindOf "tuple" = some .globalImplicit) (hse : starEach [e] env = (false, eval e env) :: starEach [] env)
    (h' : ∀ h₀ tk₀, Keep h h₀ → wpAny (model prog w) A (eval e env) (fun v s₁ => ∃ (l : Nat) (items : Array Value) (h₁ : Heap) (tk₁ : Nat), v = .ref l ∧ s₁ = at_ s h₁ tk₁ ∧ Keep h₀ h₁ ∧ h₁.IsList l items ∧ 0 < items.size ∧ items.size ≤ 100 ∧
      ∀ (t : Nat) h₂, Keep h₁ h₂ → h₂.IsTuple t (.ref 35 :: items.toList).toArray → (∀ (b : Nat) o, h₁.get? b = some o → b < t) → Q (.ref t) (at_ s h₂ tk₁)) E (at_ s h₀ tk₀)) :
    wpAny (model prog w) A (eval (.BinOp (.Tuple [.Name "_law_row" p1] x1 p2) .Add (.Call (.Name "tuple" p3) [e] [] p4) p5) env) Q E (at_ s h tk) := by
  refine wpAny_BinOp (wpAny_Tuple_spliced (args_cons (ldG (s := at_ s h tk) B N.row (args_nil ⟨by decide, ?_⟩) hg hk hr (by decide))))
  have kp : Keep h (h.push { cls := .type "tuple", data := .seq [Value.ref 35].toArray }) := fun b o e => Heap.get?_push_of_some _ e
  refine wpAny_Call_NameR (ldB (s := at_ s (h.push { cls := .type "tuple", data := .seq [Value.ref 35].toArray }) tk) (B.keep kp) (N.no _ (by decide)) N.tuple ?_ hg hb hk ht (by decide))
  refine callWith_type1 ?_ hse
  refine args_cons (he := hse) (wpAny_mono (h' _ _ kp) (fun v s₁ hv => args_nil ?_) fun _ _ q => q)
  obtain ⟨l, items, h₁, tk₁, rfl, rfl, hk₁, hl, hpos, hsz, hQ⟩ := hv
  refine call_tuple_list (s := at_ s h₁ tk₁) hl (fun h₂ hk₂ => ?_) (Nat.le_trans hsz (by decide))
  have hk₂' : Keep h₁ h₂ := hk₂
  have kp₂ : Keep h₂ (h₂.push { cls := .type "tuple", data := .seq items }) := fun b o e => Heap.get?_push_of_some _ e
  have z1 : h.objs.size < h₂.objs.size := ltS (hk₂' _ _ (hk₁ _ _ (Heap.get?_push_size h (o := { cls := .type "tuple", data := .seq [Value.ref 35].toArray }) rfl)))
  refine add_tups (s := at_ s (h₂.push { cls := .type "tuple", data := .seq items }) tk₁) (t := h.objs.size) (b := h₂.objs.size) (vs := [.ref 35]) (ws := items.toList) ⟨_, kp₂ _ _ (hk₂' _ _ (hk₁ _ _ (Heap.get?_push_size _ rfl))), rfl, _, rfl⟩ ⟨_, Heap.get?_push_size _ rfl, rfl, _, rfl⟩ (by simp) (fun q => by
    have := congrArg List.length q
    simp at this
    rw [this] at hpos
    simp at hpos) (fun h₃ hk₃ ht₃ hz₃ => ?_) (by simp; omega)
  have hk₃' : Keep (h₂.push { cls := .type "tuple", data := .seq items }) h₃ := hk₃
  exact hQ _ _ (fun b o e => hk₃' _ _ (kp₂ _ _ (hk₂' _ _ e))) ht₃ fun b o e => ltS (kp₂ _ _ (hk₂' _ _ e))
end
end Mine
end

section
open PySem PySem.W PyProof.Rows PySem.Calls
namespace Mine

theorem range_getD (ns : List Int) (n : Nat) (h : n ≤ ns.length) : (List.range n).map (fun j => ns.getD j 0) = ns.take n := by
  apply List.ext_getElem?
  intro i
  rw [List.getElem?_map, List.getElem?_take]
  by_cases hi : i < n
  · rw [List.getElem?_range hi, if_pos hi]
    have : i < ns.length := by omega
    simp [List.getD, this]
  · rw [if_neg hi, List.getElem?_eq_none (by simpa using hi)]; rfl

/-- the transposed rows are the columns again, cut to the shortest -/
theorem rows_back (nss : List (List Int)) (sh : Nat) (h : ∀ ns ∈ nss, sh ≤ ns.length) : rowsI (rowsI nss sh) nss.length = nss.map (List.take sh) := by
  apply List.ext_getElem?
  intro i
  unfold rowsI
  rw [List.getElem?_map, List.getElem?_map]
  by_cases hi : i < nss.length
  · rw [List.getElem?_range hi, List.getElem?_eq_getElem hi]
    simp only [Option.map_some]
    congr 1
    unfold rowI
    rw [List.map_map, ← range_getD _ _ (h _ (List.getElem_mem hi))]
    apply List.map_congr_left
    intro j _
    show ((nss.map fun ns => ns.getD j 0).getD i 0) = _
    simp [List.getD, hi]
  · rw [List.getElem?_eq_none (by simpa using hi), List.getElem?_eq_none (by simpa using hi)]; rfl

def sl (k st : Nat) (ns : List Int) : List Int := (ns.drop k).take st
theorem sl_getD (k st i : Nat) (ns : List Int) (h : i < st) : (sl k st ns).getD i 0 = ns.getD (k + i) 0 := by
  unfold sl
  rw [List.getD_eq_getElem?_getD, List.getD_eq_getElem?_getD, List.getElem?_take, if_pos h, List.getElem?_drop]
/-- the rows of the slices are the slice of the rows -/
theorem rows_slice (nss : List (List Int)) (sh k st : Nat) : rowsI (nss.map (sl k st)) (min st (sh - k)) = ((rowsI nss sh).drop k).take st := by
  apply List.ext_getElem?
  intro i
  unfold rowsI
  rw [List.getElem?_map, List.getElem?_take, List.getElem?_drop, List.getElem?_map]
  by_cases h1 : i < st
  · rw [if_pos h1]
    by_cases h2 : k + i < sh
    · rw [List.getElem?_range (show i < min st (sh - k) by omega), List.getElem?_range h2]
      simp only [Option.map_some]
      congr 1
      unfold rowI
      rw [List.map_map]
      apply List.map_congr_left
      intro ns _
      exact sl_getD k st i ns h1
    · rw [List.getElem?_eq_none (by simp; omega), List.getElem?_eq_none (by simp; omega)]
      rfl
  · rw [if_neg h1, List.getElem?_eq_none (by simp; omega)]
    rfl

theorem ColsAre.sizes {cols : List Col} {nss : List (List Int)} (x : ColsAre cols nss) : (∀ c ∈ cols, ∃ ns ∈ nss, c.items.size = ns.length) ∧ (∀ ns ∈ nss, ∃ c ∈ cols, c.items.size = ns.length) := by
  induction x with
  | nil => exact ⟨fun _ q => (nomatch q), fun _ q => (nomatch q)⟩
  | @cons c cols ns nss hc _ ih =>
    have hl : c.items.size = ns.length := by simpa using hc.length
    refine ⟨fun d hd => ?_, fun n hn => ?_⟩
    · rcases List.mem_cons.mp hd with rfl | hd
      · exact ⟨ns, .head _, hl⟩
      · obtain ⟨n, hn, e⟩ := ih.1 d hd
        exact ⟨n, .tail _ hn, e⟩
    · rcases List.mem_cons.mp hn with rfl | hn
      · exact ⟨c, .head _, hl⟩
      · obtain ⟨d, hd, e⟩ := ih.2 n hn
        exact ⟨d, .tail _ hd, e⟩

/-- a list of tuples of ints as columns -/
theorem cols_tups {h : Heap} : ∀ {vs : List Value} {rs : List (List Int)}, RdAll h vs (rs.map tupD) → ∃ cols : List Col, vs = cols.map (fun c => Value.ref c.addr) ∧ (∀ c ∈ cols, c.at h) ∧ ColsAre cols rs
  | [], [], _ => ⟨[], rfl, fun _ q => (nomatch q), .nil⟩
  | [], _ :: _, x => by cases x.nil_inv
  | v :: vs, [], x => by obtain ⟨e, es, he, _⟩ := x.cons_inv; cases he
  | v :: vs, r :: rs, x => by
    obtain ⟨e, es, he, hv, hr⟩ := x.cons_inv
    simp only [List.map_cons, List.cons.injEq] at he
    obtain ⟨rfl, rfl⟩ := he
    obtain ⟨b, xs, rfl, hb, hxs⟩ := hv.isTuple
    obtain ⟨cols, rfl, hat, ha⟩ := cols_tups hr
    refine ⟨⟨b, true, xs⟩ :: cols, rfl, fun c hc => ?_, .cons (Ints.of_rd hxs) ha⟩
    rcases List.mem_cons.mp hc with rfl | hc
    · exact hb
    · exact hat c hc
theorem rowsI_len (nss : List (List Int)) (n : Nat) : (rowsI nss n).length = n := by simp [rowsI]
theorem rowsI_mem {nss : List (List Int)} {n : Nat} {r : List Int} (h : r ∈ rowsI nss n) : r.length = nss.length := by
  obtain ⟨i, _, rfl⟩ := List.mem_map.mp h
  simp [rowI]
end Mine
end

section
open PySem PySem.W PyProof.Rows PySem.Calls
namespace Mine

section
variable {M : Model} {A : Around} {E : Value → Shared → Prop} {s : Shared} {env : Env}
theorem all_and {x : Expr} {rest : List Expr} {Q : Bool → Shared → Prop} (h : wpAny M A (isTrue x env (eval x env)) (fun b s₁ => if b then wpAny M A (allTrue .And rest env) Q E s₁ else Q false s₁) E s) : wpAny M A (allTrue .And (x :: rest) env) Q E s := by
  rw [arm_allTrue_cons]
  refine wpAny_bind (wpAny_mono h (fun b s₁ hb => ?_) fun _ _ q => q)
  cases b with
  | true => exact hb
  | false => exact wpAny_pure hb
theorem all_or {x : Expr} {rest : List Expr} {Q : Bool → Shared → Prop} (h : wpAny M A (isTrue x env (eval x env)) (fun b s₁ => if b then Q true s₁ else wpAny M A (allTrue .Or rest env) Q E s₁) E s) : wpAny M A (allTrue .Or (x :: rest) env) Q E s := by
  rw [arm_allTrue_cons]
  refine wpAny_bind (wpAny_mono h (fun b s₁ hb => ?_) fun _ _ q => q)
  cases b with
  | true => exact wpAny_pure hb
  | false => exact hb
theorem all_nil_and {Q : Bool → Shared → Prop} (h : Q true s) : wpAny M A (allTrue .And [] env) Q E s := wpAny_pure h
theorem all_nil_or {Q : Bool → Shared → Prop} (h : Q false s) : wpAny M A (allTrue .Or [] env) Q E s := wpAny_pure h
end

/-- what the law has made by then -/
structure LP where
  D : Nat
  kp : Nat
  rw : Nat
  bk : Nat
  sh : Nat
  lg : Nat
  cols : List Col
  nss : List (List Int)
  bad : Int
  step : Int
  tb : Tok
  tst : Tok
  tsh : Tok
  tlg : Tok
structure LC (P : LP) : Prop where
  few : P.nss.length ≤ 100
  one : 0 < P.nss.length
  small : ∀ ns ∈ P.nss, ns.length ≤ 100
  least : Least P.nss P.sh
  most : Most P.nss P.lg
  b0 : 0 ≤ P.bad
  b6 : P.bad ≤ 6
  s1 : 1 ≤ P.step
  s4 : P.step ≤ 4
  lists : ∀ c ∈ P.cols, c.tup = false
structure LD (L : Nat) (G : Heap) (P : LP) (m cm : Str → Option Value) (h : Heap) : Prop where
  ls : LS L G m cm h
  hz : L + 4 < h.objs.size
  columns : cm "columns" = some (.ref P.D)
  step : cm "step" = some (.int P.step P.tst)
  short : cm "short" = some (.int P.sh P.tsh)
  rows : cm "rows" = some (.ref P.rw)
  bad : m "bad" = some (.int P.bad P.tb)
  kept : m "kept" = some (.ref P.kp)
  long : m "longest" = some (.int P.lg P.tlg)
  back : m "back" = some (.ref P.bk)
  C : ColsH L h P.D P.cols P.nss
  hK : Rd (dat L h) (.ref P.kp) (.list (P.nss.map tupD))
  hR : Rd (dat L h) (.ref P.rw) (.list ((rowsI P.nss P.sh).map tupD))
  hB : Rd (dat L h) (.ref P.bk) (.list (P.nss.map (takeD P.sh)))

theorem LC.sh100 {P : LP} (K : LC P) : P.sh ≤ 100 := by
  obtain ⟨ns, hns, e⟩ := K.least.at_
  have := K.small ns hns
  omega
theorem LC.lg100 {P : LP} (K : LC P) : P.lg ≤ 100 := by
  obtain ⟨ns, hns, e⟩ := K.most.at_
  have := K.small ns hns
  omega
theorem LD.move {L : Nat} {G h h' : Heap} {P : LP} {m cm : Str → Option Value} (X : LD L G P m cm h) (l : LS L G m cm h') (z : L + 4 < h'.objs.size) (k : Keep (dat L h) (dat L h')) : LD L G P m cm h' :=
  ⟨l, z, X.columns, X.step, X.short, X.rows, X.bad, X.kept, X.long, X.back, X.C.kept k, X.hK.keep k, X.hR.keep k, X.hB.keep k⟩
theorem LD.kept' {L : Nat} {G h h' : Heap} {P : LP} {m cm : Str → Option Value} (X : LD L G P m cm h) (k : Keep h h') : LD L G P m cm h' :=
  X.move (X.ls.kept k) (by
    have a1 : P.D < h'.objs.size := Heap.lt_size (list_keep (list_keep X.C.list (dat_sub _)) (k _)).choose_spec.1
    have := X.C.lo
    omega) (hide_keep k)
theorem LD.low {L : Nat} {G h : Heap} {P : LP} {m cm : Str → Option Value} (X : LD L G P m cm h) (K : LC P) : (∀ c ∈ P.cols, P.sh ≤ c.items.size) ∧ (∃ c ∈ P.cols, c.items.size ≤ P.sh) ∧ P.cols.length ≤ 100 := by
  obtain ⟨s1, s2⟩ := X.C.are.sizes
  refine ⟨fun c hc => ?_, ?_, by have := X.C.are.length; have := K.few; omega⟩
  · obtain ⟨ns, hns, e⟩ := s1 c hc
    rw [e]; exact K.least.le ns hns
  · obtain ⟨ns, hns, e⟩ := K.least.at_
    obtain ⟨c, hc, e'⟩ := s2 ns hns
    exact ⟨c, hc, by omega⟩

section
variable {prog : Program} {w : World} {A : Around} {E : Value → Shared → Prop} {s : Shared} {pm pl : Value} {mg mb : Str → Option Value} {L fa : Nat} {cd : Value} {G h : Heap} {m cm : Str → Option Value} {tk : Nat} {P : LP} {Q : Flow → Shared → Prop}

set_option maxHeartbeats 1000000 in
/-- if _law_outcome(columns, bad) != _law_right(rows, bad): return False -/
theorem segH (N : Names mg mb) (y : Law0 L pm pl mg mb G) (rm : Room A 30 100) (hfr : A.frames = some [lawEnv L fa cd]) (K : LC P) (X : LD L G P m cm h)
    (k : ∀ h' tk, LD L G P m cm h' → wpAny (model prog w) A (execs (lawB 13) (lawEnv L fa cd)) Q E (at_ s h' tk)) : wpAny (model prog w) A (execs (lawB 12) (lawEnv L fa cd)) Q E (at_ s h tk) := by
  obtain ⟨low, htop, few⟩ := X.low K
  refine wpAny_execs_cons (wpAny_If (wpAny_isTrue_Compare1 (cmpO (n := P.sh) N y rm hfr X.ls X.hz (a := P.D) (b := P.rw) (fun h tk x hq => ?_) (fun h tk x hq => ?_) rfl rfl X.bad K.b0 K.b6 X.C.list X.C.col X.C.are low htop K.sh100 few X.hR fun h' tk' x' hz' kd => ?_)))
  · exact ldC (s := at_ s h tk) (c := L + 2) (v := .ref P.D) rfl (X.columns ▸ x.columns) hq rfl rfl (by decide)
  · exact ldC (s := at_ s h tk) (c := L + 4) (v := .ref P.rw) rfl (X.rows ▸ x.rows) hq rfl rfl (by decide)
  · rw [if_neg Bool.false_ne_true]
    exact wpAny_execs_nil (k h' tk' (X.move x' hz' kd))

set_option maxHeartbeats 1000000 in
/-- if mapstar((_law_row,) + tuple(columns)) != rows: return False -/
theorem segI (N : Names mg mb) (y : Law0 L pm pl mg mb G) (rm : Room A 30 100) (K : LC P) (X : LD L G P m cm h)
    (k : ∀ h' tk, LD L G P m cm h' → wpAny (model prog w) A (execs (lawB 14) (lawEnv L fa cd)) Q E (at_ s h' tk)) : wpAny (model prog w) A (execs (lawB 13) (lawEnv L fa cd)) Q E (at_ s h tk) := by
  obtain ⟨low, htop, few⟩ := X.low K
  obtain ⟨oM, hoM, hdM⟩ := y.base.mapstar.fn
  have hcl := X.C.are.length
  have hone := K.one
  have hsh := K.sh100
  refine wpAny_execs_cons (wpAny_If (wpAny_isTrue_Compare1 ?_))
  refine wpAny_Call_NameR (ldG (s := at_ s h tk) (X.ls.base y) N.mapstar ?_ rfl rfl rfl (by decide))
  refine callWith_def hdM (args_cons (row_plus N (X.ls.base y) rfl rfl rfl rfl rfl rfl fun h₀ tk₀ hk₀ => ?_))
  have X₀ := X.kept' hk₀
  refine ldC (s := at_ s h₀ tk₀) (c := L + 2) (v := .ref P.D) rfl (X₀.columns ▸ X₀.ls.columns) ?_ rfl rfl (by decide)
  refine ⟨P.D, _, h₀, tk₀, rfl, rfl, fun _ _ e => e, list_keep X₀.C.list (dat_sub _), by simp; omega, by simp; omega, fun t h₂ hk₂ ht₂ _ => ?_⟩
  have X₂ := X₀.kept' hk₂
  refine args_nil ⟨X₂.ls.keep _ _ hoM, ?_⟩
  refine wpAny_call (mapstar_row (s := at_ s h₂ tk₀) N (X₂.ls.base y) (rm.less (by omega) (by omega)) (by simpa using ht₂) (fun c hc => Col.at_keep (X₂.C.col c hc) (dat_sub _)) X₂.C.are low htop (by omega) (by omega) fun v h₃ tk₃ hv hk₃ hz₃ => ?_)
  have hk₃' : Keep h₂ h₃ := hk₃
  have X₃ := X₂.kept' hk₃'
  refine ldC (s := at_ s h₃ tk₃) (c := L + 4) (v := .ref P.rw) rfl (X₃.rows ▸ X₃.ls.rows) ?_ rfl rfl (by decide)
  refine ne_same (s := at_ s h₃ tk₃) (hv.keep top_sub) X₃.hR.dat (flat_rows _) (by decide) (by have := rm.units; omega) (wpAny_truthy_bool ?_)
  rw [if_neg Bool.false_ne_true]
  exact wpAny_execs_nil (k h₃ tk₃ X₃)

set_option maxHeartbeats 1000000 in
/-- if rows and (mapstar((_law_row,) + tuple(rows)) != back or _law_outcome(rows, bad) != _law_right(back, bad)): return False -/
theorem segJ (N : Names mg mb) (y : Law0 L pm pl mg mb G) (rm : Room A 30 100) (hfr : A.frames = some [lawEnv L fa cd]) (K : LC P) (X : LD L G P m cm h)
    (k : ∀ h' tk, LD L G P m cm h' → wpAny (model prog w) A (execs (lawB 15) (lawEnv L fa cd)) Q E (at_ s h' tk)) : wpAny (model prog w) A (execs (lawB 14) (lawEnv L fa cd)) Q E (at_ s h tk) := by
  obtain ⟨oM, hoM, hdM⟩ := y.base.mapstar.fn
  have hone := K.one
  have hfew := K.few
  have hsh := K.sh100
  obtain ⟨ra, items, hra, hli, hri⟩ := X.hR.isList
  cases hra
  have hil : items.size = P.sh := by have := hri.length; simpa [rowsI_len] using this
  refine wpAny_execs_cons (wpAny_If ?_)
  rw [arm_isTrue_BoolOp]
  refine all_and (wpAny_isTrue_value ?_)
  refine ldC (s := at_ s h tk) (c := L + 4) (v := .ref P.rw) rfl (X.rows ▸ X.ls.rows) ?_ rfl rfl (by decide)
  refine wpAny_truthy_list (s := at_ s h tk) (list_keep hli (dat_sub _)) (by omega) ?_
  by_cases h0 : P.sh = 0
  · have e : (!items.isEmpty) = false := by
      have : items.size = 0 := by omega
      simp [Array.size_eq_zero_iff.mp this]
    rw [e, if_neg Bool.false_ne_true, if_neg Bool.false_ne_true]
    exact wpAny_execs_nil (k h _ X)
  · have e : (!items.isEmpty) = true := by
      have : items ≠ #[] := fun q => h0 (by rw [← hil, q]; rfl)
      simpa using this
    rw [e, if_pos rfl]
    obtain ⟨cols, hcols, hcat, hare⟩ := cols_tups hri
    have hcl : cols.length = P.sh := by have := hare.length; simpa [rowsI_len] using this
    have hsz : ∀ c ∈ cols, c.items.size = P.nss.length := fun c hc => by
      obtain ⟨r, hr, e⟩ := hare.sizes.1 c hc
      rw [e]; exact rowsI_mem hr
    have htop : ∃ c ∈ cols, c.items.size ≤ P.nss.length := by
      have : 0 < cols.length := by omega
      exact ⟨cols[0], List.getElem_mem this, Nat.le_of_eq (hsz _ (List.getElem_mem this))⟩
    have low : ∀ c ∈ cols, P.nss.length ≤ c.items.size := fun c hc => Nat.le_of_eq (hsz c hc).symm
    have hback : rowsI (rowsI P.nss P.sh) P.nss.length = P.nss.map (List.take P.sh) := rows_back _ _ K.least.le
    have hlist : (dat L h).IsList P.rw (cols.map fun c => Value.ref c.addr).toArray := by rw [← hcols]; exact hli
    refine all_and ?_
    rw [arm_isTrue_BoolOp]
    refine all_or (wpAny_isTrue_Compare1 ?_)
    refine wpAny_Call_NameR (ldG (s := at_ s h _) (X.ls.base y) N.mapstar ?_ rfl rfl rfl (by decide))
    refine callWith_def hdM (args_cons (row_plus N (X.ls.base y) rfl rfl rfl rfl rfl rfl fun h₀ tk₀ hk₀ => ?_))
    have X₀ := X.kept' hk₀
    refine ldC (s := at_ s h₀ tk₀) (c := L + 4) (v := .ref P.rw) rfl (X₀.rows ▸ X₀.ls.rows) ?_ rfl rfl (by decide)
    refine ⟨P.rw, _, h₀, tk₀, rfl, rfl, fun _ _ e => e, list_keep hlist fun o e => hk₀ _ _ (dat_sub _ _ e), by simp; omega, by simp; omega, fun t h₂ hk₂ ht₂ _ => ?_⟩
    have X₂ := X₀.kept' hk₂
    have hk02 : Keep h h₂ := fun b o e => hk₂ _ _ (hk₀ b o e)
    refine args_nil ⟨X₂.ls.keep _ _ hoM, ?_⟩
    refine wpAny_call (mapstar_row (s := at_ s h₂ tk₀) N (X₂.ls.base y) (rm.less (by omega) (by omega)) (by simpa using ht₂) (fun c hc => Col.at_keep (hcat c hc) fun o e => hk02 _ _ (dat_sub _ _ e)) hare low htop (by omega) (by omega) fun v h₃ tk₃ hv hk₃ hz₃ => ?_)
    have hk₃' : Keep h₂ h₃ := hk₃
    have X₃ := X₂.kept' hk₃'
    have hk03 : Keep h h₃ := fun b o e => hk₃' _ _ (hk02 b o e)
    have eB : P.nss.map (takeD P.sh) = (P.nss.map (List.take P.sh)).map tupD := by rw [List.map_map]; rfl
    refine ldL (s := at_ s h₃ tk₃) X₃.ls.ns X₃.back ?_ rfl rfl (by decide)
    rw [hback] at hv
    refine ne_same (s := at_ s h₃ tk₃) (hv.keep top_sub) (eB ▸ X₃.hB.dat) (flat_rows _) (by decide) (by have := rm.units; omega) (wpAny_truthy_bool ?_)
    rw [if_neg Bool.false_ne_true]
    refine all_or (wpAny_isTrue_Compare1 (cmpO (n := P.nss.length) (cols := cols) (nss := rowsI P.nss P.sh) N y rm hfr X₃.ls X₃.hz (a := P.rw) (b := P.bk) (fun h tk x hq => ?_) (fun h tk x hq => ?_) rfl rfl X₃.bad K.b0 K.b6
      (list_keep hlist fun o e => hide_keep hk03 _ _ e) (fun c hc => Col.at_keep (hcat c hc) fun o e => hide_keep hk03 _ _ e) hare low htop hfew (by omega) (by rw [hback, ← eB]; exact X₃.hB) fun h' tk' x' hz' kd => ?_))
    · exact ldC (s := at_ s h tk) (c := L + 4) (v := .ref P.rw) rfl (X₃.rows ▸ x.rows) hq rfl rfl (by decide)
    · exact ldL (s := at_ s h tk) x.ns X₃.back hq rfl rfl (by decide)
    · rw [if_neg Bool.false_ne_true]
      refine all_nil_or ?_
      rw [if_neg Bool.false_ne_true, if_neg Bool.false_ne_true]
      exact wpAny_execs_nil (k h' tk' (X₃.move x' hz' kd))
end
end Mine
end

section
open PySem PySem.W PyProof.Rows PySem.Calls
namespace Mine

theorem small_steps : ∀ lg < 101, ∀ st < 5, 1 ≤ st → Builtin.Range.small 0 (lg : Nat) (st : Nat) = true := by decide +kernel
theorem RdAll.drop {h : Heap} {vs : List Value} {ds : List PyData} (x : RdAll h vs ds) (n : Nat) : RdAll h (vs.drop n) (ds.drop n) := by
  refine RdAll.of_get (by simp [x.length]) fun i u e h1 h2 => ?_
  rw [List.getElem?_drop] at h1 h2
  obtain ⟨e', he', r⟩ := x.get _ u h1
  rw [he'] at h2; cases h2; exact r
theorem Ints.drop {vs : List Value} {ns : List Int} (x : Ints vs ns) (n : Nat) : Ints (vs.drop n) (ns.drop n) := by
  have := RdAll.drop x n
  rw [← List.map_drop] at this
  exact this
theorem ColsAre.snoc {cols : List Col} {nss : List (List Int)} {c : Col} {ns : List Int} (x : ColsAre cols nss) (y : Ints c.items.toList ns) : ColsAre (cols ++ [c]) (nss ++ [ns]) := by
  induction x with
  | nil => exact .cons y .nil
  | cons h _ ih => exact .cons h ih

section
variable {prog : Program} {w : World} {A : Around} {E : Value → Shared → Prop} {s : Shared} {pm pl : Value} {mg mb : Str → Option Value} {L fa : Nat} {cd : Value} {G h : Heap} {m cm : Str → Option Value} {tk : Nat} {P : LP} {Q : Flow → Shared → Prop}

/-- the parts of k's chunk -/
def nkOf (P : LP) (j : Nat) : Nat := min P.step.toNat (P.sh - j * P.step.toNat)

set_option maxHeartbeats 2000000 in
/-- chunks = [(_law_row,) + tuple([column[k:k + step] for column in columns]) for k in range(0, longest, step)] -/
theorem segK (N : Names mg mb) (y : Law0 L pm pl mg mb G) (rm : Room A 30 100) (K : LC P) (X : LD L G P m cm h)
    (k : ∀ h' tk (ch : Nat) (ys : List Value), LD L G P (fun z => if z = "chunks" then some (.ref ch) else m z) cm h' → (dat L h').IsList ch ys.toArray → ys.length = (Builtin.Range.rangeSize 0 P.lg P.step).toNat →
      (∀ j v, ys[j]? = some v → Chunk (dat L h') v (P.nss.map (sl (j * P.step.toNat) P.step.toNat)) (nkOf P j)) →
      wpAny (model prog w) A (execs (lawB 16) (lawEnv L fa cd)) Q E (at_ s h' tk)) : wpAny (model prog w) A (execs (lawB 15) (lawEnv L fa cd)) Q E (at_ s h tk) := by
  have l23 := y.l23
  have hs1 := K.s1
  have hs4 := K.s4
  have hlg := K.lg100
  have hsh := K.sh100
  have hst : P.step = ((P.step.toNat : Nat) : Int) := by omega
  have hcl := X.C.are.length
  have hfew := K.few
  have hone := K.one
  have hDlo := X.C.lo
  have Dlist : h.IsList P.D (P.cols.map fun c => Value.ref c.addr).toArray := list_keep X.C.list (dat_sub _)
  refine wpAny_execs_cons (comp_assign rfl rfl fun p1 => ?_)
  refine comp_range_gen (cl := [("step", L + 1), ("columns", L + 2)]) rm.hh rfl rfl (by decide) (fun C => .inr ⟨rfl, C + 1, .head _, rfl⟩) ?_ (fun _ => rfl)
  refine wpAny_Call_NameR (ldB (s := at_ s h tk) (X.ls.base y) (N.no _ (by decide)) N.range ?_ rfl rfl rfl rfl (by decide))
  refine callWith_type1 (args_cons (wpAny_Constant_int (args_cons (ldL (s := at_ s h (tk + 1)) X.ls.ns X.long (args_cons (ldC (s := at_ s h (tk + 1)) (c := L + 1) (v := .int P.step P.tst) rfl (X.step ▸ X.ls.step) (args_nil ?_) rfl rfl (by decide))) rfl rfl (by decide))))) (hplain := by kernel_rfl)
  refine call_range_3 (by omega) ?_ (Or.inl (PyProof.noPylong_small (by omega)))
  have hsml : Builtin.Range.small 0 (P.lg : Nat) P.step = true := by
    rw [hst]; exact small_steps P.lg (by omega) P.step.toNat (by omega) (by omega)
  have hnle : (Builtin.Range.rangeSize 0 (P.lg : Nat) P.step).toNat ≤ 100 := Nat.le_trans (rangeSize_toNat_le 0 (P.lg : Nat) P.step) (by omega)
  refine ⟨h.objs.size, 0, P.lg, P.step, _, _, _, (Builtin.Range.rangeSize 0 P.lg P.step).toNat, fun ys h => ∀ j v, ys[j]? = some v → Chunk (dat L h) v (P.nss.map (sl (j * P.step.toNat) P.step.toNat)) (nkOf P j), rfl, IsRange.new .., hsml,
    rangeSize_toNat _ _ _, Nat.le_trans hnle (by decide), ⟨fun ys h h' kk r j v e => (r j v e).keep (hide_keep kk), fun h j v e => by simp at e, ?_⟩, ?_⟩
  · intro C' Z i v ys h₁ tk₁ out E' hi hP hH hl hJ hks hC hout hlow hzz
    have hks' : Keep h h₁ := fun b o e => hks _ _ (Heap.get?_push_of_some _ e)
    obtain ⟨tj, rfl⟩ := hP
    have ekk : (0 + (i : Int) * P.step) = ((i * P.step.toNat : Nat) : Int) := by rw [Int.zero_add, hst, Int.toNat_natCast]; push_cast; rfl
    rw [ekk] at hH
    have hj : h₁.IsCell (C' + 1) (some (.int ((i * P.step.toNat : Nat) : Int) tj)) := by
      rcases hH with ⟨a, _⟩ | ⟨_, b, c⟩
      · exact nomatch (show some NameKind.cell = some NameKind.local from a)
      · cases (show some (C' + 1) = some Z from b)
        exact c
    have X₁ := X.kept' hks'
    refine row_plus N (X₁.ls.base y) rfl rfl rfl rfl rfl rfl fun h₀ tk₀ hk₀ => ?_
    have X₀ := X₁.kept' hk₀
    have hj₀ := cell_at hj (hk₀ _)
    refine comp_list (cl := [("step", L + 1), ("k", C' + 1)]) rm.hh rfl rfl (by decide) (fun _ => .inl rfl) ?_
    refine ldC (s := at_ s h₀ tk₀) (c := L + 2) (v := .ref P.D) rfl (X₀.columns ▸ X₀.ls.columns) ?_ rfl rfl (by decide)
    refine ⟨P.D, _, fun ys h => ∃ cols : List Col, ys = cols.map (fun c => Value.ref c.addr) ∧ (∀ c ∈ cols, c.at (dat L (hideAll h out)) ∧ c.tup = false) ∧ ColsAre cols ((P.nss.take ys.length).map (sl (i * P.step.toNat) P.step.toNat)), rfl, list_keep X₀.C.list (dat_sub _),
      Nat.le_trans (show (P.cols.map fun c => Value.ref c.addr).toArray.size ≤ 100 by simp; omega) (by decide),
      ⟨fun ys h h' kk ⟨cols, a, b, c⟩ => ⟨cols, a, fun d hd => ⟨Col.at_keep (b d hd).1 fun o e => hide_keep (hide_keep kk) _ _ e, (b d hd).2⟩, c⟩, fun h => ⟨[], rfl, fun _ q => (nomatch q), .nil⟩, ?_⟩, ?_⟩
    · intro C₂ Z₂ i₂ v₂ ys₂ h₂ tk₂ out₂ E₂ hi₂ hP₂ hH₂ hl₂ hJ₂ hks₂ hC₂ hout₂ hlow₂ hzz₂
      have hks₂' : Keep h₀ h₂ := hks₂
      have hi' : i₂ < P.cols.length := by simpa using hi₂
      obtain ⟨c, hc⟩ : ∃ c, P.cols[i₂]? = some c := ⟨_, List.getElem?_eq_getElem hi'⟩
      have hv : v₂ = .ref c.addr := by
        have : (P.cols.map fun c => Value.ref c.addr)[i₂]? = some v₂ := by simpa using hP₂
        rw [List.getElem?_map, hc] at this
        exact (Option.some.inj this).symm
      subst hv
      have X₂ := X₀.kept' hks₂'
      obtain ⟨ns, hns, hI⟩ := X.C.are.get hc
      have hcat : h₂.IsList c.addr c.items := by
        have := Col.at_keep (X₂.C.col c (List.mem_of_getElem? hc)) (fun o e => dat_sub _ _ e)
        unfold Col.at at this
        rw [K.lists c (List.mem_of_getElem? hc)] at this
        simpa using this
      have hil : c.items.size = ns.length := by simpa using hI.length
      have h3 := K.small ns (List.mem_of_getElem? hns)
      refine List_span (ldH (s := at_ s h₂ tk₂) hH₂ rfl (ldC (s := at_ s h₂ tk₂) (c := C' + 1) rfl (cell_at hj₀ (hks₂' _)) (wpAny_BinOp (ldC (s := at_ s h₂ tk₂) (c := C' + 1) rfl (cell_at hj₀ (hks₂' _))
        (ldC (s := at_ s h₂ tk₂) (c := L + 1) (v := .int P.step P.tst) rfl (X₂.step ▸ X₂.ls.step) (add_int ?_) rfl rfl (by decide)) rfl rfl (by decide))) rfl rfl (by decide)) (by decide))
      refine ⟨c.addr, c.items, i * P.step.toNat, i * P.step.toNat + P.step.toNat, tj, tk₂, rfl, rfl, ?_, hcat, by omega, Nat.le_add_right _ _, fun D₂ h₃ hk₃ hD₃ hlo₃ hz₃ => ⟨h₃, _, rfl, hk₃, ?_⟩⟩
      · have e : (((i * P.step.toNat : Nat) : Int) + P.step) = ((i * P.step.toNat + P.step.toNat : Nat) : Int) := by rw [Int.natCast_add, ← hst]
        exact congrArg (fun z => Value.int z tk₂) e
      · have hk₃' : Keep h₂ h₃ := hk₃
        obtain ⟨cols₂, a1, a2, a3⟩ := hJ₂
        rw [Nat.add_sub_cancel_left] at hD₃
        have hlo₃' : h₂.objs.size ≤ D₂ := hlo₃
        refine ⟨cols₂ ++ [⟨D₂, false, ((c.items.toList.drop (i * P.step.toNat)).take P.step.toNat).toArray⟩], by rw [a1]; simp, fun d hd => ?_, ?_⟩
        · rcases List.mem_append.mp hd with hd | hd
          · exact ⟨Col.at_keep (a2 d hd).1 fun o e => hide_keep (hide_keep (hide_keep hk₃')) _ _ e, (a2 d hd).2⟩
          · rw [List.mem_singleton.mp hd]
            refine ⟨?_, rfl⟩
            obtain ⟨o, n, e, c, _, dd⟩ := hD₃
            have e1 := hide_new (live_lt hout₂ fun _ _ e => e) hlo₃' e
            have e2 := hide_new (N := h₂.objs.size) (live_lt hout fun b o e => hks₂' _ _ (hk₀ _ _ e)) hlo₃' e1
            have a1 : P.D < h₂.objs.size := Heap.lt_size (list_keep (list_keep Dlist (hks' _)) fun o e => hks₂' _ _ (hk₀ _ _ e)).choose_spec.1
            exact ⟨o, dat_get e2 (show L + 4 < D₂ by omega) l23, c, n, dd⟩
        · rw [List.length_append, List.length_singleton, hl₂, take_succ' hns, List.map_append]
          rw [hl₂] at a3
          refine a3.snoc ?_
          unfold sl
          simpa using (hI.drop (i * P.step.toNat)).take P.step.toNat
    · intro K₂ h₂ tk₂ ys₂ hl₂ hJ₂ hD₂ hk₂ hlo₂
      have hk₂' : Keep h₀ h₂ := hk₂
      obtain ⟨cols₂, a1, a2, a3⟩ := hJ₂
      rw [hl₂, show (P.cols.map fun c => Value.ref c.addr).toArray.size = P.nss.length by simp [hcl], List.take_of_length_le (Nat.le_refl _)] at a3
      have hl₂' : ys₂.length = P.nss.length := by rw [hl₂]; simp [hcl]
      refine ⟨K₂, ys₂.toArray, h₂, tk₂, rfl, rfl, hk₂', hD₂.isList, by simp; omega, by simp; omega, fun t h₃ hk₃ ht₃ hlt => ?_⟩
      have hk₃' : Keep h₂ h₃ := hk₃
      have k13 : Keep h₁ h₃ := fun b o e => hk₃' _ _ (hk₂' _ _ (hk₀ b o e))
      refine ⟨h₃, _, rfl, k13, fun j v e => ?_⟩
      by_cases hjl : j < ys.length
      · rw [List.getElem?_append_left hjl] at e
        exact (hJ j v e).keep (hide_keep (hide_keep k13))
      · have hji : j = ys.length := by
          have := (List.getElem?_eq_some_iff.mp e).1
          simp at this
          omega
        subst hji
        simp at e
        subst e
        rw [← hl] at a3
        have tlive : ∀ b ∈ out, @LT.lt Nat _ b t := fun b hb => let ⟨o, eo⟩ := hout b hb; hlt b o (hk₂' _ _ (hk₀ _ _ eo))
        have a4 : P.D < t := hlt _ _ (list_keep (list_keep Dlist (hks' _)) fun o e => hk₂' _ _ (hk₀ _ _ e)).choose_spec.1
        obtain ⟨z1, z2⟩ := a3.sizes
        refine ⟨t, cols₂, rfl, ?_, fun c hc => Col.at_keep (a2 c hc).1 fun o e => hide_keep (hide_keep hk₃') _ _ e, a3, fun c hc => ?_, ?_, ?_, ?_⟩
        · obtain ⟨o, e, r⟩ := ht₃
          refine ⟨o, new_get (N := t) tlive (Nat.le_refl _) (by omega) l23 e, ?_⟩
          rw [a1] at r
          simpa using r
        · obtain ⟨n, hn, e⟩ := z1 c hc
          obtain ⟨ns, hns, rfl⟩ := List.mem_map.mp hn
          have := K.least.le ns hns
          rw [e]
          unfold nkOf sl
          rw [List.length_take, List.length_drop]
          omega
        · obtain ⟨ns, hns, e⟩ := K.least.at_
          obtain ⟨c, hc, e'⟩ := z2 _ (List.mem_map.mpr ⟨ns, hns, rfl⟩)
          refine ⟨c, hc, ?_⟩
          rw [e']
          unfold nkOf sl
          rw [List.length_take, List.length_drop, e]
          exact Nat.le_refl _
        · exact Nat.le_trans (Nat.min_le_left _ _) (by omega)
        · have := a3.length
          rw [List.length_map] at this
          omega
  · intro ch C' h₁ tk₁ ys m' Y
    refine comp_post_store Y rfl rfl (X.ls.ns.push _) fun h₀ h₂ tk₂ hl hJ hD hk hlo n₂ kb hzz => ?_
    have hk' : Keep h h₀ := fun b o e => hk _ _ (Heap.get?_push_of_some _ e)
    have hlo' : h.objs.size + 1 ≤ ch := Nat.le_trans (Nat.le_of_eq (Heap.size_push ..).symm) hlo
    have kd : Keep (dat L h₀) (dat L h₂) := dat_keep fun b o hb e => kb b o (fun q => hb (by rw [show b = L from q]; simp)) e
    have hz := X.hz
    have hchl : @LT.lt Nat _ ch h₀.objs.size := hD.lt
    refine k h₂ tk₂ ch ys ?_ (list_keep (dat_list hD.isList (by omega) l23) fun o e => kd _ _ e) hl (fun j v e => (hJ j v e).keep kd)
    exact ⟨(X.ls.kept hk').store y n₂ kb, by rw [hzz]; omega, X.columns, X.step, X.short, X.rows, X.bad, X.kept, X.long, X.back, X.C.kept fun b o e => kd _ _ (hide_keep hk' _ _ e),
      X.hK.keep fun b o e => kd _ _ (hide_keep hk' _ _ e), X.hR.keep fun b o e => kd _ _ (hide_keep hk' _ _ e), X.hB.keep fun b o e => kd _ _ (hide_keep hk' _ _ e)⟩
end
end Mine
end

section
open PySem PySem.W PyProof.Rows PySem.Calls
namespace Mine

/-- a slice of the rows as data -/
def cutD (P : LP) (j : Nat) : PyData := .list ((((rowsI P.nss P.sh).drop (j * P.step.toNat)).take P.step.toNat).map tupD)
theorem flat_cuts (P : LP) (n : Nat) : Flat 3 (.list ((List.range n).map (cutD P))) := flat_list fun d hd => by
  obtain ⟨j, _, rfl⟩ := List.mem_map.mp hd
  exact flat_rows _

section
variable {prog : Program} {w : World} {A : Around} {E : Value → Shared → Prop} {s : Shared} {pm pl : Value} {mg mb : Str → Option Value} {L fa : Nat} {cd : Value} {G h : Heap} {m cm : Str → Option Value} {tk : Nat} {P : LP} {Q : Flow → Shared → Prop}

set_option maxHeartbeats 2000000 in
/-- if mapstar((mapstar, chunks)) != [rows[k:k + step] for k in range(0, longest, step)]: return False -/
theorem segL {ch : Nat} {cs : List Value} (N : Names mg mb) (y : Law0 L pm pl mg mb G) (rm : Room A 30 100) (K : LC P) (X : LD L G P m cm h) (hch : m "chunks" = some (.ref ch)) (hcl : (dat L h).IsList ch cs.toArray)
    (hcn : cs.length = (Builtin.Range.rangeSize 0 P.lg P.step).toNat) (hC : ∀ j v, cs[j]? = some v → Chunk (dat L h) v (P.nss.map (sl (j * P.step.toNat) P.step.toNat)) (nkOf P j))
    (k : ∀ h' tk, LD L G P m cm h' → wpAny (model prog w) A (execs (lawB 17) (lawEnv L fa cd)) Q E (at_ s h' tk)) : wpAny (model prog w) A (execs (lawB 16) (lawEnv L fa cd)) Q E (at_ s h tk) := by
  have l23 := y.l23
  have hs1 := K.s1
  have hs4 := K.s4
  have hlg := K.lg100
  have hsh := K.sh100
  have hst : P.step = ((P.step.toNat : Nat) : Int) := by omega
  obtain ⟨oM, hoM, hdM⟩ := y.base.mapstar.fn
  have hnle : (Builtin.Range.rangeSize 0 (P.lg : Nat) P.step).toNat ≤ 100 := Nat.le_trans (rangeSize_toNat_le 0 (P.lg : Nat) P.step) (by omega)
  have hsml : Builtin.Range.small 0 (P.lg : Nat) P.step = true := by
    rw [hst]; exact small_steps P.lg (by omega) P.step.toNat (by omega) (by omega)
  refine wpAny_execs_cons (wpAny_If (wpAny_isTrue_Compare1 ?_))
  refine wpAny_Call_NameR (ldG (s := at_ s h tk) (X.ls.base y) N.mapstar ?_ rfl rfl rfl (by decide))
  refine callWith_def hdM (args_cons (wpAny_Tuple_spliced (args_cons (ldG (s := at_ s h tk) (X.ls.base y) N.mapstar (args_cons (ldL (s := at_ s h tk) X.ls.ns hch (args_nil ⟨by simp [sizeLine], args_nil ?_⟩) rfl rfl (by decide))) rfl rfl rfl (by decide)))))
  have kp : Keep h (h.push { cls := .type "tuple", data := .seq [Value.ref 21, .ref ch].toArray }) := fun b o e => Heap.get?_push_of_some _ e
  generalize hp : h.push { cls := .type "tuple", data := .seq [Value.ref 21, .ref ch].toArray } = h₁ at kp
  have ht : h₁.IsTuple h.objs.size #[.ref 21, .ref ch] := hp ▸ ⟨_, Heap.get?_push_size _ rfl, rfl, _, rfl⟩
  have X₁ := X.kept' kp
  refine ⟨X₁.ls.keep _ _ hoM, ?_⟩
  refine wpAny_call (mapstar_map (s := at_ s h₁ tk) (items := cs) (nss := fun j => P.nss.map (sl (j * P.step.toNat) P.step.toNat)) (n := nkOf P) N (X₁.ls.base y) (rm.less (by omega) (by omega)) ht (list_keep hcl fun o e => kp _ _ (dat_sub _ _ e))
    (fun i v e => (hC i v e).keep fun b o e => kp _ _ (dat_sub _ _ e)) (by omega) fun v h₂ tk₂ hv hk₂ hz₂ => ?_)
  have hk₂' : Keep h₁ h₂ := hk₂
  have X₂ := X₁.kept' hk₂'
  have hv' : Rd h₂ v (.list ((List.range (Builtin.Range.rangeSize 0 P.lg P.step).toNat).map (cutD P))) := by
    have := hv.keep top_sub
    rw [hcn] at this
    have e : (List.range (Builtin.Range.rangeSize 0 P.lg P.step).toNat).map (fun i => PyData.list ((rowsI (P.nss.map (sl (i * P.step.toNat) P.step.toNat)) (nkOf P i)).map tupD)) = (List.range (Builtin.Range.rangeSize 0 P.lg P.step).toNat).map (cutD P) := by
      apply List.map_congr_left
      intro i _
      unfold cutD nkOf
      rw [rows_slice]
    rw [e] at this
    exact this
  obtain ⟨ra, items, hra, hli, hri⟩ := X₂.hR.isList
  cases hra
  have hil : items.size = P.sh := by have := hri.length; simpa [rowsI_len] using this
  refine comp_range (cl := [("step", L + 1), ("rows", L + 4)]) rm.hh rfl rfl (by decide) (fun _ => .inl rfl) ?_
  refine wpAny_Call_NameR (ldB (s := at_ s h₂ tk₂) (X₂.ls.base y) (N.no _ (by decide)) N.range ?_ rfl rfl rfl rfl (by decide))
  refine callWith_type1 (args_cons (wpAny_Constant_int (args_cons (ldL (s := at_ s h₂ (tk₂ + 1)) X₂.ls.ns X₂.long (args_cons (ldC (s := at_ s h₂ (tk₂ + 1)) (c := L + 1) (v := .int P.step P.tst) rfl (X₂.step ▸ X₂.ls.step) (args_nil ?_) rfl rfl (by decide))) rfl rfl (by decide))))) (hplain := by kernel_rfl)
  refine call_range_3 (by omega) ?_ (Or.inl (PyProof.noPylong_small (by omega)))
  refine ⟨h₂.objs.size, 0, P.lg, P.step, _, _, _, (Builtin.Range.rangeSize 0 P.lg P.step).toNat, fun ys h => RdAll h ys ((List.range ys.length).map (cutD P)), rfl, IsRange.new .., hsml,
    rangeSize_toNat _ _ _, Nat.le_trans hnle (by decide), ⟨fun ys h h' kk r => r.keep kk, fun h => RdAll.nil, ?_⟩, ?_⟩
  · intro C' Z i v ys h₃ tk₃ out E' hi hP hH hl hJ hks hC' hout hlow hzz
    have hks' : Keep h₂ h₃ := fun b o e => hks _ _ (Heap.get?_push_of_some _ e)
    obtain ⟨tj, rfl⟩ := hP
    have ekk : (0 + (i : Int) * P.step) = ((i * P.step.toNat : Nat) : Int) := by rw [Int.zero_add, hst, Int.toNat_natCast]; push_cast; rfl
    rw [ekk] at hH
    have X₃ := X₂.kept' hks'
    refine List_span (ldC (s := at_ s h₃ tk₃) (c := L + 4) (v := .ref P.rw) rfl (X₃.rows ▸ X₃.ls.rows) (ldH (s := at_ s h₃ tk₃) hH rfl (wpAny_BinOp (ldH (s := at_ s h₃ tk₃) hH rfl
      (ldC (s := at_ s h₃ tk₃) (c := L + 1) (v := .int P.step P.tst) rfl (X₃.step ▸ X₃.ls.step) (add_int ?_) rfl rfl (by decide)) (by decide))) (by decide)) rfl rfl (by decide))
    refine ⟨P.rw, items, i * P.step.toNat, i * P.step.toNat + P.step.toNat, tj, tk₃, rfl, rfl, ?_, list_keep hli fun o e => hks' _ _ (dat_sub _ _ e), by omega, Nat.le_add_right _ _, fun D₂ h₄ hk₄ hD₄ hlo₄ hz₄ => ⟨h₄, _, rfl, hk₄, ?_⟩⟩
    · have e : (((i * P.step.toNat : Nat) : Int) + P.step) = ((i * P.step.toNat + P.step.toNat : Nat) : Int) := by rw [Int.natCast_add, ← hst]
      exact congrArg (fun z => Value.int z tk₃) e
    · have hk₄' : Keep h₃ h₄ := hk₄
      rw [Nat.add_sub_cancel_left] at hD₄
      rw [hl] at hJ
      rw [List.length_append, List.length_singleton, hl, List.range_succ, List.map_append]
      refine RdAll.append (hJ.keep (hide_keep hk₄')) (.one ?_)
      obtain ⟨o, n, e, c, _, dd⟩ := hD₄
      refine Rd.list (hide_new (live_lt hout fun _ _ e => e) hlo₄ e) c dd ?_
      have hz2 : h₂.objs.size + 1 ≤ h₃.objs.size := Nat.le_trans (Nat.le_of_eq (Heap.size_push ..).symm) hzz
      have : Keep (dat L h₂) (hideAll h₄ out) := fun b o e => by
        refine hideAll_get _ (hk₄' _ _ (hks' _ _ (dat_sub _ _ e))) fun mm => ?_
        have a := hlow b mm
        have a' : @LE.le Nat _ (h₂.objs.size + 1) b := Nat.le_trans (Nat.le_of_eq (Heap.size_push ..).symm) a
        have := ltS (dat_sub _ _ e)
        omega
      have h5 := ((hri.keep this).drop (i * P.step.toNat)).take P.step.toNat
      rw [← List.map_drop, ← List.map_take] at h5
      simpa using h5
  · intro K₃ h₃ tk₃ ys hl hJ hD hk hlo
    have hk' : Keep h₂ h₃ := fun b o e => hk _ _ (Heap.get?_push_of_some _ e)
    rw [hl] at hJ
    refine ne_same (s := at_ s h₃ tk₃) (hv'.keep hk') (Rd.ofList (xs := ys.toArray) hD.isList (by simpa using hJ)) (flat_cuts P _) (by decide) (by have := rm.units; omega) (wpAny_truthy_bool ?_)
    rw [if_neg Bool.false_ne_true]
    exact wpAny_execs_nil (k h₃ tk₃ (X₂.kept' hk'))

set_option maxHeartbeats 1000000 in
/-- if not _law_refused((_law_row,)) or not _law_refused(()): return False -/
theorem segM (N : Names mg mb) (y : Law0 L pm pl mg mb G) (rm : Room A 30 100) (hfr : A.frames = some [lawEnv L fa cd]) (X : LD L G P m cm h)
    (k : ∀ h' tk, LD L G P m cm h' → wpAny (model prog w) A (execs (lawB 18) (lawEnv L fa cd)) Q E (at_ s h' tk)) : wpAny (model prog w) A (execs (lawB 17) (lawEnv L fa cd)) Q E (at_ s h tk) := by
  obtain ⟨oR, hoR, hdR⟩ := y.base.refused.fn
  have moved : ∀ {h h' : Heap}, LD L G P m cm h → KeepBut (fun b => b = L) h h' → h'.Ns L m → h.objs.size ≤ h'.objs.size → LD L G P m cm h' := fun {h h'} X kb n z =>
    X.move (X.ls.store y n kb) (Nat.lt_of_lt_of_le X.hz z) (dat_keep fun b o hb e => kb b o (fun q => hb (by rw [show b = L from q]; simp)) e)
  refine wpAny_execs_cons (wpAny_If ?_)
  rw [arm_isTrue_BoolOp]
  refine all_or (wpAny_isTrue_Not (wpAny_isTrue_value ?_))
  refine wpAny_Call_NameR (ldG (s := at_ s h tk) (X.ls.base y) N.refused ?_ rfl rfl rfl (by decide))
  refine callWith_def hdR (args_cons (wpAny_Tuple_spliced (args_cons (ldG (s := at_ s h tk) (X.ls.base y) N.row (args_nil ⟨by decide, args_nil ?_⟩) rfl rfl rfl (by decide)))))
  have kp : Keep h (h.push { cls := .type "tuple", data := .seq [Value.ref 35].toArray }) := fun b o e => Heap.get?_push_of_some _ e
  generalize hp : h.push { cls := .type "tuple", data := .seq [Value.ref 35].toArray } = h₁ at kp
  have ht : h₁.IsTuple h.objs.size [Value.ref 35].toArray := hp ▸ ⟨_, Heap.get?_push_size _ rfl, rfl, _, rfl⟩
  have X₁ := X.kept' kp
  refine ⟨X₁.ls.keep _ _ hoR, ?_⟩
  refine wpAny_call (refused_call (s := at_ s h₁ tk) (lawE := lawEnv L fa cd) (Lw := L) (mw := m) N (X₁.ls.base y) (rm.less (by omega) (by omega)) ⟨hfr, rfl, rfl, X₁.ls.ns⟩ ht (by decide) fun h₂ tk₂ kb₂ n₂ hz₂ => ?_)
  have X₂ := moved X₁ kb₂ n₂ hz₂
  refine wpAny_truthy_bool ?_
  rw [show (!true) = false from rfl, if_neg Bool.false_ne_true]
  refine all_or (wpAny_isTrue_Not (wpAny_isTrue_value ?_))
  refine wpAny_Call_NameR (ldG (s := at_ s h₂ tk₂) (X₂.ls.base y) N.refused ?_ rfl rfl rfl (by decide))
  refine callWith_def hdR (args_cons (wpAny_Tuple_spliced (args_nil ⟨by decide, args_nil ?_⟩)))
  have kp₃ : Keep h₂ (h₂.push { cls := .type "tuple", data := .seq ([] : List Value).toArray }) := fun b o e => Heap.get?_push_of_some _ e
  generalize hp₃ : h₂.push { cls := .type "tuple", data := .seq ([] : List Value).toArray } = h₃ at kp₃
  have ht₃ : h₃.IsTuple h₂.objs.size ([] : List Value).toArray := hp₃ ▸ ⟨_, Heap.get?_push_size _ rfl, rfl, _, rfl⟩
  have X₃ := X₂.kept' kp₃
  refine ⟨X₃.ls.keep _ _ hoR, ?_⟩
  refine wpAny_call (refused_call (s := at_ s h₃ tk₂) (lawE := lawEnv L fa cd) (Lw := L) (mw := m) N (X₃.ls.base y) (rm.less (by omega) (by omega)) ⟨hfr, rfl, rfl, X₃.ls.ns⟩ ht₃ (by decide) fun h₄ tk₄ kb₄ n₄ hz₄ => ?_)
  have X₄ := moved X₃ kb₄ n₄ hz₄
  refine wpAny_truthy_bool ?_
  rw [show (!true) = false from rfl, if_neg Bool.false_ne_true]
  refine all_nil_or ?_
  rw [if_neg Bool.false_ne_true]
  exact wpAny_execs_nil (k h₄ tk₄ X₄)

set_option maxHeartbeats 1000000 in
/-- return [tuple(column) for column in columns] == kept -/
theorem segN (N : Names mg mb) (y : Law0 L pm pl mg mb G) (rm : Room A 30 100) (K : LC P) (X : LD L G P m cm h)
    (k : ∀ h' tk, LD L G P m cm h' → Q (.ret (.bool true)) (at_ s h' tk)) : wpAny (model prog w) A (execs (lawB 18) (lawEnv L fa cd)) Q E (at_ s h tk) := by
  have hcl : P.cols.length = P.nss.length := X.C.are.length
  have hfew := K.few
  have Dlist : h.IsList P.D (P.cols.map fun c => Value.ref c.addr).toArray := list_keep X.C.list (dat_sub _)
  refine wpAny_execs_cons (wpAny_Return_some (wpAny_Compare1 ?_))
  refine comp_list (cl := []) rm.hh rfl rfl (by decide) (fun _ => .inl rfl) ?_
  refine ldC (s := at_ s h tk) (c := L + 2) (v := .ref P.D) rfl (X.columns ▸ X.ls.columns) ?_ rfl rfl (by decide)
  refine ⟨P.D, _, fun ys h => RdAll h ys ((P.nss.take ys.length).map tupD), rfl, Dlist, Nat.le_trans (show (P.cols.map fun c => Value.ref c.addr).toArray.size ≤ 100 by simp; omega) (by decide), ⟨fun ys h h' kk r => r.keep kk, fun h => RdAll.nil, ?_⟩, ?_⟩
  · intro C' Z i v ys h₁ tk₁ out E' hi hP hH hl hJ hks hC hout hlow hzz
    have hks' : Keep h h₁ := hks
    have hi' : i < P.cols.length := by simpa using hi
    obtain ⟨c, hc⟩ : ∃ c, P.cols[i]? = some c := ⟨_, List.getElem?_eq_getElem hi'⟩
    have hv : v = .ref c.addr := by
      have : (P.cols.map fun c => Value.ref c.addr)[i]? = some v := by simpa using hP
      rw [List.getElem?_map, hc] at this
      exact (Option.some.inj this).symm
    subst hv
    obtain ⟨ns, hns, hI⟩ := X.C.are.get hc
    have hcat : h₁.IsList c.addr c.items := by
      have := Col.at_keep (X.C.col c (List.mem_of_getElem? hc)) (fun o e => hks' _ _ (dat_sub _ _ e))
      unfold Col.at at this
      rw [K.lists c (List.mem_of_getElem? hc)] at this
      simpa using this
    have hsz : c.items.size ≤ 100 := by
      have := hI.length
      have h2 := K.small ns (List.mem_of_getElem? hns)
      simp at this; omega
    refine wpAny_Call_NameR (ldB (s := at_ s h₁ tk₁) ((X.ls.base y).keep hks') (N.no _ (by decide)) N.tuple ?_ rfl rfl rfl rfl (by decide))
    refine callWith_type1 (args_cons (ldH (s := at_ s h₁ tk₁) hH rfl (args_nil ?_) (by decide)))
    refine call_tuple_list (s := at_ s h₁ tk₁) hcat (fun h₂ hk₂ => ?_) (Nat.le_trans hsz (by decide))
    refine ⟨_, _, rfl, fun b o e => Heap.get?_push_of_some _ (hk₂ b o e), ?_⟩
    rw [show (P.nss.take (ys ++ [Value.ref h₂.objs.size]).length).map tupD = (P.nss.take ys.length).map tupD ++ [tupD ns] by
      rw [List.length_append, List.length_singleton, hl, take_succ' hns, List.map_append]; rfl]
    refine RdAll.append (hJ.keep (hide_keep fun b o e => Heap.get?_push_of_some _ (hk₂ b o e))) (.one ?_)
    exact Rd.tuple (n := 0) (hide_new (live_lt hout hk₂) (Nat.le_refl _) (Heap.get?_push_size _ rfl)) rfl rfl (hI.rd _)
  · intro K₁ h₁ tk₁ ys hl hJ hD hk hlo
    have hk' : Keep h h₁ := hk
    have X₁ := X.kept' hk'
    refine ldL (s := at_ s h₁ tk₁) X₁.ls.ns X₁.kept ?_ rfl rfl (by decide)
    rw [hl, show (P.cols.map fun c => Value.ref c.addr).toArray.size = P.nss.length by simp [hcl], List.take_of_length_le (Nat.le_refl _)] at hJ
    exact eq_same (s := at_ s h₁ tk₁) (Rd.ofList (xs := ys.toArray) hD.isList (by simpa using hJ)) X₁.hK.dat (flat_rows _) (by decide) (by have := rm.units; omega) (k h₁ tk₁ X₁)
end
end Mine
end

section
open PySem PySem.W PyProof.Rows PySem.Calls
namespace Mine

theorem mem_getD {l : List (List Int)} {n : List Int} (h : n ∈ l) : ∃ c, c < l.length ∧ l.getD c [] = n := by
  obtain ⟨c, hc, e⟩ := List.getElem_of_mem h
  exact ⟨c, hc, by simp [List.getD, hc, e]⟩

section
variable {prog : Program} {w : World} {A : Around} {E : Value → Shared → Prop} {s : Shared} {pm pl : Value} {mg mb : Str → Option Value} {L fa : Nat} {cd : Value} {G h : Heap} {m cm : Str → Option Value} {tk : Nat} {Q : Flow → Shared → Prop}

set_option maxHeartbeats 1000000 in
theorem law_body {a : Nat} {vs : List Value} {ns : List Int} (N : Names mg mb) (y : Law0 L pm pl mg mb G) (rm : Room A 30 100) (hfr : A.frames = some [lawEnv L fa cd]) (x : LS L G m cm h) (hm : m "script" = some (.ref a)) (ha : G.IsList a vs.toArray) (hI : Ints vs ns) (hlen : ns.length ≤ 63)
    (hz : L + 4 < h.objs.size) (k : ∀ h' tk m' cm', LS L G m' cm' h' → Q (.ret (.bool true)) (at_ s h' tk)) :
    wpAny (model prog w) A (execs (lawB 0) (lawEnv L fa cd)) Q E (at_ s h tk) := by
  refine segA y x hm ha hI hlen hz fun h₁ tk₁ m₁ cm₁ fw fvs x₁ hz₁ hmf hmw hmb hcs hfl hfwl hIf => ?_
  have hF : (ns.take 25).length ≤ 25 := by rw [List.length_take]; omega
  generalize ns.take 25 = F at hmw hmb hcs hIf hF
  have hwp := wideOf_pos F
  obtain ⟨tb, hmb⟩ := hmb
  obtain ⟨tst, hcs⟩ := hcs
  have hfwlt : @LT.lt Nat _ fw h₁.objs.size := Heap.lt_size (list_keep hfl (dat_sub _)).choose_spec.1
  refine segB N y rm x₁ hz₁ hmw fun h₂ tk₂ D as x₂ hz₂ hD hDl hasl hnd has hDh kb₂ => ?_
  refine segC N y rm x₂ hz₂ hmf hmw rfl (list_keep (list_keep hfl (dat_sub _)) fun o e => kb₂ _ _ (show ¬ fw = L + 2 by omega) e) hfwl hIf hF hD hDl hasl hnd (fun a ha => ⟨(has a ha).1, (has a ha).2.1, by have := (has a ha).2.2; omega⟩) fun h₃ tk₃ m₃ x₃ hz₃ hmk hD₃ hcs₃ kb₃ => ?_
  have hnl : (colsOf F).length = (wideOf F).toNat := colsI_length F _ _
  obtain ⟨cols, hmap, hat, hadr, hare⟩ := cols_of as (colsOf F) (by rw [hasl, hnl]) hcs₃
  have hlists : ∀ c ∈ cols, c.tup = false := fun c hc => by
    obtain ⟨i, hi, e⟩ := List.getElem_of_mem (hadr c hc)
    obtain ⟨vs', ⟨o, n, e1, c1, _, _⟩, _⟩ := hcs₃ i hi
    have e2 : as.getD i 0 = c.addr := by simp [List.getD, hi, e]
    rw [e2] at e1
    have hc' := hat c hc
    cases ht : c.tup with
    | false => rfl
    | true =>
      unfold Col.at at hc'
      rw [ht] at hc'
      obtain ⟨o', e', c', _⟩ := (show h₃.IsTuple c.addr c.items by simpa using hc')
      rw [e1] at e'; cases e'
      rw [c1] at c'; exact absurd (Value.type.inj c') (by decide)
  have C : ColsH L h₃ D cols (colsOf F) := ⟨hDl, by rw [hmap]; exact dat_list hD₃ hDl y.l23, fun c hc => Col.at_keep (hat c hc) fun o e => dat_get e (has _ (hadr c hc)).1 y.l23, hare⟩
  have hsml : ∀ n ∈ colsOf F, n.length ≤ 100 := fun n hn => by
    obtain ⟨c, _, e⟩ := mem_getD hn
    have := colsI_small F (wideOf F).toNat (F.length - 1) c
    rw [← e]
    unfold colsOf
    omega
  have hw100 : (colsOf F).length ≤ 100 := by omega
  have hw1 : 0 < (colsOf F).length := by omega
  generalize colsOf F = nss at hnl hare C hsml hw100 hw1
  refine segD N y rm x₃ hz₃ rfl C hw100 hlists hsml fun h₄ tk₄ kp x₄ hz₄ C₄ hK₄ => ?_
  refine segE N y rm x₄ hz₄ rfl C₄ hw100 hw1 hlists hsml fun h₅ tk₅ sh lg t1 t2 hle hmo x₅ hz₅ kd₅ => ?_
  have hsh1 : sh ≤ 100 := by
    obtain ⟨n, hn, e⟩ := hle.at_
    have := hsml n hn
    omega
  have C₅ := C₄.kept kd₅
  have hK₅ := hK₄.keep kd₅
  refine segF (sh := sh) (tsh := t1) N y rm x₅ hz₅ rfl C₅ hw100 hlists hsml rfl hle.le hsh1 fun h₆ tk₆ rw x₆ hz₆ kd₆ hR₆ => ?_
  have C₆ := C₅.kept kd₆
  have hK₆ := hK₅.keep kd₆
  refine segG (kp := kp) (sh := sh) (tsh := t1) y rm x₆ hz₆ rfl hK₆ hw100 hsml rfl hle.le fun h₇ tk₇ bk x₇ hz₇ kd₇ hB₇ => ?_
  have hb := badOf_pos F
  have hs := stepOf_pos F
  have K : LC ⟨D, kp, rw, bk, sh, lg, cols, nss, badOf F, stepOf F, tb, tst, t1, t2⟩ := ⟨hw100, hw1, hsml, hle, hmo, hb.1, hb.2, hs.1, hs.2, hlists⟩
  have X : LD L G ⟨D, kp, rw, bk, sh, lg, cols, nss, badOf F, stepOf F, tb, tst, t1, t2⟩ _ _ h₇ := ⟨x₇, hz₇, rfl, hcs, rfl, rfl, (hmk "bad" (by decide)).trans hmb, rfl, rfl, rfl, C₆.kept kd₇, hK₆.keep kd₇, hR₆.keep kd₇, hB₇⟩
  refine segH N y rm hfr K X fun h₈ tk₈ X₈ => ?_
  refine segI N y rm K X₈ fun h₉ tk₉ X₉ => ?_
  refine segJ N y rm hfr K X₉ fun g₁ u₁ Y₁ => ?_
  refine segK N y rm K Y₁ fun g₂ u₂ ch cs Y₂ hch hcn hC => ?_
  refine segL N y rm K Y₂ rfl hch hcn hC fun g₃ u₃ Y₃ => ?_
  refine segM N y rm hfr Y₃ fun g₄ u₄ Y₄ => ?_
  exact segN N y rm K Y₄ fun g₅ u₅ Y₅ => k g₅ u₅ _ _ Y₅.ls
end
end Mine
end

section
open PySem PySem.W PyProof.Rows PySem.Calls
namespace Mine

theorem ints_of : ∀ {vs : List Value} {ns : List Int}, IntsAre vs ns → Ints vs ns
  | _, _, .nil => .nil
  | _, _, .cons _ _ x => .cons (ints_of x)
theorem mg_of {K : Frag} {G : Heap} {mg : Str → Option Value} {o : Obj} {es : Array DictEntry} {ep : Nat} (X : K.In G) (g : G.Ns 3 mg) (e : K.lookup 3 = some o) (d : o.data = .dict es ep) (x : Str) : mg x = nsFind es x := by
  obtain ⟨o', es', ep', e', d', _, f⟩ := g
  rw [X 3 o e] at e'
  cases e'
  rw [d] at d'
  cases d'
  exact (f x).symm
theorem fn_of {K : Frag} {G : Heap} {k a c : Nat} {pm : Value} {o oc : Obj} {vs : Array Value} {t : Tok} (X : K.In G) (e : K.lookup a = some o) (d : o.data = .func (fdOf k c pm)) (e2 : K.lookup c = some oc) (d2 : oc.data = .fields vs) (n : vs[1]? = some (.str (fName (stm k)) t)) : FnIn G k a c pm :=
  ⟨⟨o, X _ _ e, d⟩, ⟨c, oc, vs, t, rfl, X _ _ e2, d2, n⟩⟩
theorem tab_end {h : Heap} (x : TabOK h) : GrownAll [(27, 23)] h := ⟨let ⟨ps, e, _⟩ := x.ex; ⟨ps, e⟩, trivial⟩

theorem law_top {prog : Program} {w : World} {E : Value → Shared → Prop} {s : Shared} {pm pl : Value} {mg mb : Str → Option Value} {L fa : Nat} {cd : Value} {G h : Heap} {m : Str → Option Value} {tk : Nat} {Q : Flow → Shared → Prop} {p : Program} {loose : List Str} {mean : ExcName → Option Value}
    {a : Nat} {vs : List Value} {ns : List Int} {o1 o2 o3 o4 : Obj} (T0 : Top p loose mean mg mb G) (F : Fr G L h m) (hl : G.IsList a vs.toArray) (hI : IntsAre vs ns) (N : Names mg mb) (y : Law0 L pm pl mg mb G)
    (t : h.get? 23 = some (tabObj #[])) (c1 : h.get? (L + 1) = some o1) (d1 : o1.data = .cell none) (c2 : h.get? (L + 2) = some o2) (d2 : o2.data = .cell none) (c3 : h.get? (L + 3) = some o3) (d3 : o3.data = .cell none) (c4 : h.get? (L + 4) = some o4) (d4 : o4.data = .cell none)
    (hm : m "script" = some (.ref a)) (hlen : ns.length ≤ 63) (k : ∀ h' tk, TabOK h' → Keep G h' → Q (.ret (.bool true)) (at_ s h' tk)) :
    wpAny (model prog w) (callerA.deeper (lawEnv L fa cd)) (execs (lawB 0) (lawEnv L fa cd)) Q E (at_ s h tk) :=
  law_body (cm := fun _ => none) N y (law_room _ _ _) rfl ⟨⟨#[], t, .inl rfl⟩, F.keep, F.ns, ⟨o1, c1, d1⟩, ⟨o2, c2, d2⟩, ⟨o3, c3, d3⟩, ⟨o4, c4, d4⟩⟩ hm hl (ints_of hI) hlen (ltS c4) fun h' tk m' cm' x => k h' tk x.tab x.keep
end Mine
end

open PySem PySem.W PyProof.Rows PySem.Calls Mine
set_option maxHeartbeats 8000000 in
theorem PySem.Challenge.cw_sn0115_01_holds : PySem.Challenge.rw_sn0115_01.Holds := by
  w_on; o_law; k_head; (case hw => w_witness2); w_strict (
    k_go0
    have X := ‹Frag.In _ (ghostOf _ _)›
    have T := ‹Top _ _ _ _ _ (ghostOf _ _)›
    have F := ‹Fr (ghostOf _ _) _ _ _›
    have Nw := ‹News (ghostOf _ _) _ _ _›
    have hl := ‹Heap.IsList (ghostOf _ _) _ _›
    have hc := ‹CodeHd (ghostOf _ _) _ _›
    have hI := ‹IntsAre _ _›
    have l0 := ‹23 < Array.size _›
    have hmg := mg_of X T.g rfl rfl
    refine law_top (pm := .str "cpy313.multiprocessing.pool" 187) (pl := .str "law_sn0115_01" 196) T F hl hI ?q1 ?q2 (Nw (_, _) (.tail _ (.tail _ (.tail _ (.tail _ (.head _)))))).1 (Nw (_, _) (.tail _ (.tail _ (.tail _ (.head _))))).1 ?d1 (Nw (_, _) (.tail _ (.tail _ (.head _)))).1 ?d2 (Nw (_, _) (.tail _ (.head _))).1 ?d3 (Nw (_, _) (.head _)).1 ?d4 rfl ?q6 ?q8
    case q6 => omega
    case d1 => assumption
    case d2 => assumption
    case d3 => assumption
    case d4 => assumption
    case q1 =>
      refine ⟨(hmg _).trans rfl, (hmg _).trans rfl, (hmg _).trans rfl, (hmg _).trans rfl, (hmg _).trans rfl, (hmg _).trans rfl, ⟨_, (hmg _).trans rfl⟩, ?_, (T.builtins _ (by decide)).trans Boot.«list», (T.builtins _ (by decide)).trans Boot.«map», (T.builtins _ (by decide)).trans Boot.«len», (T.builtins _ (by decide)).trans Boot.«str», (T.builtins _ (by decide)).trans Boot.«tuple»,
        (T.builtins _ (by decide)).trans Boot.«range», (T.builtins _ (by decide)).trans Boot.«min», (T.builtins _ (by decide)).trans Boot.«max», (T.builtins _ (by decide)).trans Boot.«ValueError», (T.builtins _ (by decide)).trans Boot.«TypeError»⟩
      intro x hx
      simp only [List.mem_cons, List.not_mem_nil, or_false] at hx
      rcases hx with rfl | rfl | rfl | rfl | rfl | rfl | rfl | rfl | rfl | rfl <;> exact (hmg _).trans rfl
    case q2 =>
      refine ⟨⟨T.g, T.b, T.nolimit, fn_of X rfl rfl rfl rfl rfl, fn_of X rfl rfl rfl rfl rfl, fn_of X rfl rfl rfl rfl rfl, fn_of X rfl rfl rfl rfl rfl, fn_of X rfl rfl rfl rfl rfl, fn_of X rfl rfl rfl rfl rfl, hc, ?_⟩, hideAll_none _ (.head _), fun b o e => ltS (of_hideAll _ e), l0⟩
      obtain ⟨bm, ob, b1, b2, b3, b4, b5, b6⟩ := T.bmain
      have b7 := b1.symm.trans ((hmg _).trans rfl)
      cases b7
      exact ⟨4, ob, b1, by decide, by decide, by decide, b3, b4, b5, b6⟩
    case q8 =>
      intro h' tk' t k
      refine ⟨⟨.inl ⟨.bool true, .bool true, [], rfl, fun cls => ?r1, .bool true, ?r2, ?r3⟩, k, rfl, ?r4⟩, tab_end t⟩
      case r4 => assumption
      case r3 => exact fun _ => ⟨.nil, fun _ ha => nomatch ha⟩
      case r1 => rfl
      case r2 => kc_post)
