import PyProof.Rows.All
import Wide.All
import OpenK.AllK
import Wide.FinOn
import Lean
import PySem.Challenge.RW_bs0023_01
open PySem PySem.W PyProof.Rows
set_option Elab.async false
set_option maxRecDepth 100000
set_option maxHeartbeats 8000000
set_option linter.unusedVariables false

section
/-! part L0 -/
namespace Mine
open PySem.Calls PySem.Builtin
section
variable {prog : Program} {w : World} {A : Around} {E : Value → Shared → Prop} {s : Shared}
theorem look_bytes : typeLookup (.type "bytes") "__bytes__" = pure (some (.builtin "bytes.__bytes__")) := by rw [typeLookup_type, builtinLookup_eq_fast]; kernel_rfl
theorem bb_new {b : Array UInt8} {t : Tok} {Q : Value → Shared → Prop} (hQ : Q (.bytes b t) s) :
    codeAny (model prog w) A (.call (.builtin "bytes.__new__") ⟨[.type "bytes", .bytes b t], []⟩) (wants Q E) s := by
  refine codeAny_of_tree ?_
  show wpAny _ A.in1 (do checkBuiltinCall "bytes.__new__" ⟨[.type "bytes", .bytes b t], []⟩; again (.builtin "bytes.__new__" ⟨[.type "bytes", .bytes b t], []⟩)) _ _ s
  refine wpAny_bind (wpAny_of_eq (F.bm_newCall _) (wpAny_pure ⟨plainId_quiet F.bm_plain _, codeAny_builtin F.bm_entry ?_⟩))
  rw [Around.under_plainId F.bm_plain _]
  have hT : s.TypeIs (.bytes b t) "bytes" := typeIs_bytes s b t
  unfold Builtin.«bytes.__new__»
  refine wpAny_bind (wpAny_of_eq (a := true) rfl ?_)
  refine bm_if_false rfl ?_
  refine wpAny_bind (wpAny_of_eq F.bm_sub ?_)
  refine bm_if_false rfl ?_
  refine wpAny_bind (wpAny_of_eq (F.bm_bind _) ?_)
  refine wpAny_bind (wpAny_of_eq (a := ()) rfl ?_)
  refine wpAny_bind (wpAny_of_eq (a := ()) rfl ?_)
  refine bm_if_false rfl ?_
  refine wpAny_bind (wpAny_specialOf hT look_bytes ?_)
  refine wpAny_bind (wpAny_rule ?_)
  refine wpAny_bind (wpAny_typeOf hT ?_)
  refine bm_if_true (by decide) ?_
  show wpAny _ _ (if (Value.type "bytes" == Value.type "bytes") = true then _ else _) _ _ _
  refine bm_if_true (by decide) ?_
  first
    | exact wpAny_pure hQ
    | exact wpAny_bind (wpAny_pure (wpAny_pure hQ))
theorem call_bytes_bytes {b : Array UInt8} {t : Tok} {Q : Value → Shared → Prop} (hQ : Q (.bytes b t) s) : wpAny (model prog w) A (call (.type "bytes") [.bytes b t]) Q E s := by
  refine callType_codes (Q₁ := fun obj s₁ => s₁.TypeIs obj "bytes" ∧ Q obj s₁) F.bm_called (F.bm_typeCall _) F.entry_object_init
    (bb_new ⟨typeIs_bytes _ _ _, hQ⟩) fun obj s₁ h₁ => ?_
  exact ⟨h₁.1, F.args_object_init_2 obj _, object_init_meets F.bm_called.init.lookup F.bm_called.made (by decide) prog w A.in1 _ s₁ ⟨h₁.1, rfl, h₁.2⟩⟩
end

/-- the items at even, at odd places -/
def ev {α : Type} : List α → List α
  | a :: _ :: r => a :: ev r
  | [a] => [a]
  | [] => []
def od {α : Type} : List α → List α
  | _ :: b :: r => b :: od r
  | [_] => []
  | [] => []
theorem ev_map {α β : Type} (f : α → β) : ∀ l : List α, ev (l.map f) = (ev l).map f
  | a :: b :: r => by simp only [List.map_cons, ev]; rw [ev_map f r]
  | [a] => rfl
  | [] => rfl
theorem od_map {α β : Type} (f : α → β) : ∀ l : List α, od (l.map f) = (od l).map f
  | a :: b :: r => by simp only [List.map_cons, od]; rw [od_map f r]
  | [a] => rfl
  | [] => rfl
theorem ev_pick {α : Type} : ∀ l : List α, (List.range ((l.length + 1) / 2)).filterMap (fun k => l[2 * k]?) = ev l
  | a :: b :: r => by
    have h := ev_pick r
    have e : ((a :: b :: r).length + 1) / 2 = (r.length + 1) / 2 + 1 := by simp only [List.length_cons]; omega
    rw [e, List.range_succ_eq_map, List.filterMap_cons]
    simp only [Nat.mul_zero, List.getElem?_cons_zero, List.filterMap_map, ev]
    rw [← h]
    rfl
  | [a] => by simp [ev]
  | [] => by simp [ev]
theorem od_pick {α : Type} : ∀ l : List α, (List.range (l.length / 2)).filterMap (fun k => l[1 + 2 * k]?) = od l
  | a :: b :: r => by
    have h := od_pick r
    have e : (a :: b :: r).length / 2 = r.length / 2 + 1 := by simp only [List.length_cons]; omega
    rw [e, List.range_succ_eq_map, List.filterMap_cons]
    simp only [Nat.mul_zero, Nat.add_zero, List.getElem?_cons_succ, List.getElem?_cons_zero, List.filterMap_map, od]
    rw [← h]
    congr 2
  | [a] => by simp [od]
  | [] => by simp [od]
def pick2 (b : Array UInt8) (lo : Option Int) : Array UInt8 := Bytes.sliced b (sliceBounds lo none (some 2) b.size).1 (sliceBounds lo none (some 2) b.size).2.1 (sliceBounds lo none (some 2) b.size).2.2
theorem pick2_even (b : Array UInt8) : KBw.bInts (pick2 b none) = ev (KBw.bInts b) := by
  unfold KBw.bInts
  rw [ev_map]
  congr 1
  show (sliceRange 0 (b.size : Int) 2).filterMap (b[·]?) = ev b.toList
  rw [← ev_pick b.toList]
  unfold sliceRange
  rw [List.filterMap_map]
  have hc : (if (2 : Int) > 0 then (if (0 : Int) < (b.size : Int) then ((b.size : Int) - 0 + 2 - 1) / 2 else 0) else (if (0 : Int) > (b.size : Int) then (0 - (b.size : Int) - 2 - 1) / (-2) else 0)).toNat = (b.toList.length + 1) / 2 := by
    rw [if_pos (by decide), Array.length_toList]
    split <;> omega
  rw [hc]
  congr 1
  funext k
  show b[((0 : Int) + 2 * (k : Int)).toNat]? = b.toList[2 * k]?
  rw [show ((0 : Int) + 2 * (k : Int)).toNat = 2 * k by omega, Array.getElem?_toList]
theorem pick2_odd (b : Array UInt8) : KBw.bInts (pick2 b (some 1)) = od (KBw.bInts b) := by
  unfold KBw.bInts
  rw [od_map]
  congr 1
  show (sliceRange (max 0 (min 1 (b.size : Int))) (b.size : Int) 2).filterMap (b[·]?) = od b.toList
  rw [← od_pick b.toList]
  unfold sliceRange
  rw [List.filterMap_map]
  have hc : (if (2 : Int) > 0 then (if (max 0 (min 1 (b.size : Int))) < (b.size : Int) then ((b.size : Int) - (max 0 (min 1 (b.size : Int))) + 2 - 1) / 2 else 0) else (if (max 0 (min 1 (b.size : Int))) > (b.size : Int) then ((max 0 (min 1 (b.size : Int))) - (b.size : Int) - 2 - 1) / (-2) else 0)).toNat = b.toList.length / 2 := by
    rw [if_pos (by decide), Array.length_toList]
    split <;> omega
  rw [hc]
  by_cases h0 : b.size = 0
  · rw [show b.toList.length / 2 = 0 by rw [Array.length_toList]; omega]
    rfl
  · congr 1
    funext k
    show b[((max 0 (min 1 (b.size : Int))) + 2 * (k : Int)).toNat]? = b.toList[1 + 2 * k]?
    rw [show ((max 0 (min 1 (b.size : Int))) + 2 * (k : Int)).toNat = 1 + 2 * k by omega, Array.getElem?_toList]
theorem meets_slice2 (b : Array UInt8) (t : Tok) (a : Addr) {l : Value} {lo : Option Int} {u : Tok} (hl : IsPart l lo) :
    Meets («bytes.__getitem__» ⟨[.bytes b t, .ref a], []⟩) (fun _ R s => s.heap.IsSliceOf a l .none (.int 2 u) ∧ (pick2 b lo).size ≤ sizeLine ∧ R (.ok (.ret (.bytes (pick2 b lo) s.toks))) { s with toks := s.toks + 1 }) := by
  refine .of_wp fun prog w A R s hS => ?_
  obtain ⟨⟨o, ho, hc, hd⟩, hsz, h⟩ := hS
  have hT : s.TypeIs (.ref a) "slice" := ⟨o, ho, hc⟩
  show wpAny _ _ (Bytes.payload (.bytes b t) >>= fun r => _) _ _ s
  refine wpAny_bind (wpAny_of_eq (a := b) rfl ?_)
  show wpAny _ _ (Bytes.subscript? (.ref a) >>= fun r => _) _ _ s
  refine wpAny_bind ?_
  unfold Bytes.subscript?
  refine wpAny_bind (wpAny_specialOf hT slice_no_index (wpAny_pure ?_))
  refine wpAny_bind (wpAny_typeOf hT ?_)
  show wpAny _ _ (Bytes.sliceParts (.ref a) >>= fun r => _) _ _ s
  refine wpAny_bind ?_
  unfold Bytes.sliceParts
  refine wpAny_bind (wpAny_field (x := .int 2 u) ho hd rfl ?_)
  kby_int
  refine wpAny_ite (KBy.ite_no (show ¬ ((rawInt 2 == rawInt 0) = true) from Bool.false_ne_true) ?_)
  refine wpAny_bind (wpAny_field (x := l) ho hd rfl ?_)
  have go : wpAny (model prog w) A.in1 (sliceIndices (rawPart lo) (rawPart none) (rawPart (some 2)) b.size) (fun r s' => r = sliceBounds lo none (some 2) b.size ∧ s' = s) (fun _ _ => False) s :=
    wpAny_of_eq (sliceIndices_raw lo none (some 2) b.size (by decide)) ⟨rfl, rfl⟩
  cases hl <;> (first
    | (kby_none; (refine wpAny_bind (wpAny_field (x := .none) ho hd rfl ?_)); kby_none)
    | (kby_int; (refine wpAny_bind (wpAny_field (x := .none) ho hd rfl ?_)); kby_none)) <;> refine wpAny_pure ?_
  all_goals
    refine wpAny_bind (wpAny_mono go (fun r s' hr => ?_) fun _ _ e => e.elim)
    obtain ⟨hr1, hr2⟩ := hr
    subst hr1 hr2
    refine wpAny_ite (KBy.ite_no (by
      show ¬ ((_ == (0 : Int) && (2 : Int) == 1 && _ == _ && _) = true)
      rw [show ((2 : Int) == 1) = false from rfl, Bool.and_false, Bool.false_and, Bool.false_and]
      exact Bool.false_ne_true) ?_)
    exact wpAny_bind (wpAny_mkBytes (wpAny_pure ⟨_, rfl, h⟩) hsz)
section
variable {prog : Program} {w : World} {A : Around} {E : Value → Shared → Prop} {s : Shared} {value slice : PySem.Expr} {b : Array UInt8} {t u : Tok} {h₀ : Heap} {L : Addr} {m : PySem.Str → Option Value} {news : List (Addr × Obj)} {l : Value} {lo : Option Int} {Q : Value → Shared → Prop}
theorem slice2_N (hF : Fr h₀ L s.heap m) (hN : News h₀ L s.heap news) (hl : IsPart l lo) (hz : (pick2 b lo).size ≤ 16777216)
    (h : ∀ h' t' k, Fr h₀ L h' m → News h₀ L h' news → Q (.bytes (pick2 b lo) t') { s with heap := h', toks := k })
    (hs : subscripted slice false (.bytes b t) (.ref s.heap.objs.size) = operate [.ref s.heap.objs.size, .bytes b t] (getItem (.bytes b t) (.ref s.heap.objs.size)) := by with_unfolding_all rfl)
    (ht : ∀ r, letTemporaryGo value (.bytes b t) r = pure () := by intro _; with_unfolding_all rfl) :
    wpAny (model prog w) A (subscriptTail value slice (.bytes b t) (.ref s.heap.objs.size)) Q E { s with heap := s.heap.push { cls := .type "slice", data := .fields #[l, .none, .int 2 u] } } :=
  tail_of_ItemOn ⟨"bytes", _, FB.slot_bytes_getitem.lookup, typeIs_bytes _ _ _, getItem_meets (typeIs_bytes _ _ _) (by decide) FB.slot_bytes_getitem FB.entry_bytes_getitem (FB.args_bytes_getitem_2 _ _) (meets_slice2 b t _ hl)
    ⟨Heap.IsSliceOf.new _ _ _ _, by rw [sizeLine_eq]; exact hz, h _ _ _ (hF.push _) (News.pushKeep hN _)⟩⟩ hs ht
end
end Mine
end

section
/-! part L1 -/
namespace Mine
open PySem.Calls PySem.Builtin
section
variable {prog : Program} {w : World} {A : Around} {E : Value → Shared → Prop} {s : Shared} {b : Array UInt8} {t : Tok}
theorem nextOf_bytes_item {it : Addr} {i : Nat} {c : UInt8} {Q : Value → Shared → Prop} (hit : KBw.IsBytesIter s.heap it b t i) (hx : b[i]? = some c)
    (hQ : ∀ h', KBw.IsBytesIter h' it b t (i + 1) → Heap.SameBut it s.heap h' → Q (.int (c.toNat : Int) s.toks) { s with heap := h', toks := s.toks + 1 }) : wpAny (model prog w) A (Builtin.SmallTypes.nextOf (.ref it)) Q E s := by
  obtain ⟨o, ho, hc, hd⟩ := id hit
  unfold Builtin.SmallTypes.nextOf
  refine wpAny_bind (wpAny_callSpecial?_slot (name := PySem.Str.ofString "__next__") (KBw.iter_typeIs hit) KBw.slot_next
    (wpAny_call_entry KBw.slot_next (KBw.iter_typeIs hit) KBw.entry_next ?_ (KBw.args_next _)))
  show wpAny _ _ (field (.ref it) 0 >>= _) _ _ s
  refine wpAny_bind (wpAny_field ho hd (x := .bytes b t) rfl ?_)
  show wpAny _ _ (if (Value.bytes b t == Value.none) = true then _ else _) _ _ s
  rw [if_neg (show ¬ ((Value.bytes b t == Value.none) = true) from Bool.false_ne_true)]
  show wpAny _ _ (field (.ref it) 1 >>= _) _ _ s
  refine wpAny_bind (wpAny_field ho hd (x := .int i 0) rfl ?_)
  refine wpAny_bind (wpAny_of_eq (a := b) rfl ?_)
  simp only [Int.toNat_natCast, hx]
  refine wpAny_bind (wpAny_setField ho hd (by simp) (wpAny_bind (wpAny_mkInt (wpAny_pure ⟨_, rfl, wpAny_pure (hQ _ ?_ (Heap.SameBut.update ..))⟩))))
  exact ⟨_, Heap.get?_update_self _ ho (Obj.isFreed_of_fields (Obj.data_mapFields hd _)), (Obj.cls_mapFields ..).trans hc, by
    rw [Obj.data_mapFields hd]; simp [rawInt]⟩

theorem nextOf_bytes_end {it : Addr} {i : Nat} {Q : Value → Shared → Prop} (hh : A.handled = none) (hit : KBw.IsBytesIter s.heap it b t i) (hx : b[i]? = none)
    (hE : ∀ h' e, Heap.ExtBut it s.heap h' → (∃ o, h'.get? e = some o ∧ o.cls = .type "StopIteration") → E (.ref e) { s with heap := h' }) : wpAny (model prog w) A (Builtin.SmallTypes.nextOf (.ref it)) Q E s := by
  obtain ⟨o, ho, hc, hd⟩ := id hit
  unfold Builtin.SmallTypes.nextOf
  refine wpAny_bind (wpAny_callSpecial?_slot (name := PySem.Str.ofString "__next__") (KBw.iter_typeIs hit) KBw.slot_next
    (wpAny_call_entry KBw.slot_next (KBw.iter_typeIs hit) KBw.entry_next ?_ (KBw.args_next _)))
  show wpAny _ _ (field (.ref it) 0 >>= _) _ _ s
  refine wpAny_bind (wpAny_field ho hd (x := .bytes b t) rfl ?_)
  show wpAny _ _ (if (Value.bytes b t == Value.none) = true then _ else _) _ _ s
  rw [if_neg (show ¬ ((Value.bytes b t == Value.none) = true) from Bool.false_ne_true)]
  show wpAny _ _ (field (.ref it) 1 >>= _) _ _ s
  refine wpAny_bind (wpAny_field ho hd (x := .int i 0) rfl ?_)
  refine wpAny_bind (wpAny_of_eq (a := b) rfl ?_)
  simp only [Int.toNat_natCast, hx]
  refine wpAny_bind (wpAny_rule (wpAny_bind (wpAny_setField ho hd (by simp) ?_)))
  show wpAny _ _ (newExc (.type "StopIteration") [] >>= _) _ _ _
  refine wpAny_bind ?_
  simp only [newExc, newTuple]
  refine wpAny_bind (wpAny_newObj_type ?_ (by size_fits))
  refine wpAny_bind (m := firstArgMember _ _) (wpAny_of_eq (a := Value.none) (by first | rfl | (simp only [firstArgMember]; rfl)) ?_)
  refine wpAny_newObj_type ?_ (by size_fits)
  simp only [raiseNew]
  refine wpAny_bind (wpAny_handled ?_)
  rw [show A.in1.handled = none from hh]
  refine wpAny_bind (wpAny_pure (wpAny_throw ?_))
  exact hE _ _ (((Heap.SameBut.update ..).extBut.push _).push _) ⟨_, Heap.get?_push_size _ rfl, rfl⟩

structure ZApart (z TI TO i1 i2 : Addr) : Prop where
  TIz : TI ≠ z
  TOz : TO ≠ z
  i1z : i1 ≠ z
  i2z : i2 ≠ z
  TITO : TI ≠ TO
  TIi1 : TI ≠ i1
  TIi2 : TI ≠ i2
  TOi1 : TO ≠ i1
  TOi2 : TO ≠ i2
  i12 : i1 ≠ i2
theorem zApart_new (n : Nat) : ZApart (n + 4) (n + 2) (n + 3) n (n + 1) where
  TIz := by show @Ne Nat _ _; omega
  TOz := by show @Ne Nat _ _; omega
  i1z := by show @Ne Nat _ _; omega
  i2z := by show @Ne Nat _ _; omega
  TITO := by show @Ne Nat _ _; omega
  TIi1 := by show @Ne Nat _ _; omega
  TIi2 := by show @Ne Nat _ _; omega
  TOi1 := by show @Ne Nat _ _; omega
  TOi2 := by show @Ne Nat _ _; omega
  i12 := by show @Ne Nat _ _; omega

theorem bi_ext {h h' : Heap} {a x : Addr} {i : Nat} (y : KBw.IsBytesIter h a b t i) (hk : Heap.ExtBut x h h') (hne : a ≠ x) : KBw.IsBytesIter h' a b t i :=
  let ⟨o, ho, r⟩ := y; ⟨o, hk a o hne ho, r⟩
theorem bi_at {h h' : Heap} {a : Addr} {i : Nat} (y : KBw.IsBytesIter h a b t i) (hk : ∀ o, h.get? a = some o → h'.get? a = some o) : KBw.IsBytesIter h' a b t i :=
  let ⟨o, ho, r⟩ := y; ⟨o, hk o ho, r⟩

theorem zipB_next_item {z TI TO i1 i2 : Addr} {k1 k2 : Nat} {b1 b2 : Array UInt8} {t1 t2 : Tok} {c1 c2 : UInt8} {a0 a1 : Value} {Q : Value → Shared → Prop} (D : ZApart z TI TO i1 i2)
    (hz : IsZip s.heap z TI TO .none) (hTI : IsPair s.heap TI (.ref i1) (.ref i2)) (hTO : IsPair s.heap TO a0 a1)
    (h1 : KBw.IsBytesIter s.heap i1 b1 t1 k1) (h2 : KBw.IsBytesIter s.heap i2 b2 t2 k2) (hx : b1[k1]? = some c1) (hy : b2[k2]? = some c2)
    (hQ : ∀ h' tk u1 u2, IsZip h' z TI TO (rawInt s.heap.objs.size) → IsPair h' TO (.int (c1.toNat : Int) u1) (.int (c2.toNat : Int) u2) → KBw.IsBytesIter h' i1 b1 t1 (k1 + 1) → KBw.IsBytesIter h' i2 b2 t2 (k2 + 1) → IsPair h' s.heap.objs.size (.int (c1.toNat : Int) u1) (.int (c2.toNat : Int) u2) → h'.objs.size = s.heap.objs.size + 1 →
      (∀ c o, c ≠ z → c ≠ TO → c ≠ i1 → c ≠ i2 → s.heap.get? c = some o → h'.get? c = some o) → Q (.ref s.heap.objs.size) { s with heap := h', toks := tk }) :
    wpAny (model prog w) A (Builtin.«zip.__next__» ⟨[.ref z], []⟩) (fun fin s' => ∃ v, fin = .done (.ret v) ∧ Q v s') E s := by
  show wpAny _ _ (field (.ref z) 2 >>= _) _ _ _
  refine wpAny_bind (wpAny_field hz rfl (x := .bool false) rfl ?_)
  show wpAny _ _ (field (.ref z) 3 >>= _) _ _ _
  refine wpAny_bind (wpAny_field hz rfl (x := .ref TI) rfl ?_)
  refine wpAny_bind (wpAny_seqItems hTI rfl ?_)
  show wpAny _ _ (Builtin.SmallTypes.ownedTupleIsFree (.ref z) >>= _) _ _ _
  refine wpAny_bind ?_
  unfold Builtin.SmallTypes.ownedTupleIsFree
  refine wpAny_bind (wpAny_field hz rfl (x := .none) rfl (wpAny_pure ?_))
  simp only [if_true]
  refine wpAny_bind (wpAny_rule ?_)
  refine wpAny_bind (wpAny_field hz rfl (x := .ref TO) rfl ?_)
  refine wpAny_bind (wpAny_setField_rec hz (by simp) fun h₁ hz₁ hs₁ => ?_)
  replace hz₁ : IsZip h₁ z TI TO .ellipsis := hz₁
  refine wpAny_bind ?_
  simp only [List.zipIdx_cons, List.zipIdx_nil, List.forIn_cons, List.forIn_nil]
  refine wpAny_bind (wpAny_bind (wpAny_onRaise ?_))
  show wpAny _ _ (Builtin.SmallTypes.nextOf (.ref i1) >>= _) _ _ _
  refine wpAny_bind (nextOf_bytes_item (bi_ext h1 hs₁.extBut D.i1z) hx fun h₂ h1₂ hs₂ => wpAny_pure ?_)
  have hTO₂ : IsPair h₂ TO a0 a1 := hs₂.extBut _ _ D.TOi1 (hs₁.extBut _ _ D.TOz hTO)
  refine wpAny_bind (wpAny_seqItems hTO₂ rfl ?_)
  refine wpAny_bind (wpAny_updateSeq_pair hTO₂ fun h₃ hTO₃ hs₃ => ?_)
  refine wpAny_bind (wpAny_letGo (wpAny_pure ?_))
  refine wpAny_bind (wpAny_bind (wpAny_onRaise ?_))
  show wpAny _ _ (Builtin.SmallTypes.nextOf (.ref i2) >>= _) _ _ _
  refine wpAny_bind (nextOf_bytes_item (bi_ext (bi_ext (bi_ext h2 hs₁.extBut D.i2z) hs₂.extBut D.i12.symm) hs₃.extBut D.TOi2.symm) hy fun h₄ h2₄ hs₄ => wpAny_pure ?_)
  have hTO₄ : IsPair h₄ TO _ _ := hs₄.extBut _ _ D.TOi2 hTO₃
  refine wpAny_bind (wpAny_seqItems hTO₄ rfl ?_)
  refine wpAny_bind (wpAny_updateSeq_pair hTO₄ fun h₅ hTO₅ hs₅ => ?_)
  refine wpAny_bind (wpAny_letGo (wpAny_pure (wpAny_pure ?_)))
  refine wpAny_bind (wpAny_seqItems hTO₅ rfl ?_)
  refine wpAny_bind (wpAny_newTuple ?_ (by have hq := sizeLine_eq; simp; omega))
  have hsz : h₅.objs.size = s.heap.objs.size := by rw [hs₅.1, hs₄.1, hs₃.1, hs₂.1, hs₁.1]
  have hz₅ : IsZip h₅ z TI TO .ellipsis := hs₅.extBut _ _ D.TOz.symm (hs₄.extBut _ _ D.i2z.symm (hs₃.extBut _ _ D.TOz.symm (hs₂.extBut _ _ D.i1z.symm hz₁)))
  have hk₅ : ∀ c o, c ≠ z → c ≠ TO → c ≠ i1 → c ≠ i2 → s.heap.get? c = some o → h₅.get? c = some o := fun c o c1 c2 c3 c4 e =>
    hs₅.extBut _ _ c2 (hs₄.extBut _ _ c4 (hs₃.extBut _ _ c2 (hs₂.extBut _ _ c3 (hs₁.extBut _ _ c1 e))))
  have h1₅ : KBw.IsBytesIter h₅ i1 b1 t1 (k1 + 1) := bi_ext (bi_ext (bi_ext h1₂ hs₃.extBut D.TOi1.symm) hs₄.extBut D.i12) hs₅.extBut D.TOi1.symm
  have h2₅ : KBw.IsBytesIter h₅ i2 b2 t2 (k2 + 1) := bi_ext h2₄ hs₅.extBut D.TOi2.symm
  have hzlt : z < h₅.objs.size := Heap.lt_size hz₅
  show wpAny _ _ (Builtin.SmallTypes.ownedTupleHandOut (.ref z) (.ref h₅.objs.size) >>= _) _ _ _
  refine wpAny_bind ?_
  unfold Builtin.SmallTypes.ownedTupleHandOut
  generalize hx1 : (Value.int (c1.toNat : Int) s.toks) = X1 at *
  generalize hx2 : (Value.int (c2.toNat : Int) _) = X2 at *
  replace hTO₅ : IsPair h₅ TO X1 X2 := hTO₅
  have hz₆ : IsZip (h₅.push { cls := .type "tuple", data := .seq #[X1, X2] }) z TI TO .ellipsis := Heap.get?_push_of_some _ hz₅
  refine wpAny_bind (wpAny_setField_rec hz₆ (by simp) fun h₇ hz₇ hs₇ => ?_)
  replace hz₇ : IsZip h₇ z TI TO (rawInt h₅.objs.size) := hz₇
  refine wpAny_setField_rec hz₇ (by simp) fun h₈ hz₈ hs₈ => ?_
  replace hz₈ : IsZip h₈ z TI TO (rawInt h₅.objs.size) := hz₈
  have up : ∀ c o, c ≠ z → h₅.get? c = some o → h₈.get? c = some o := fun c o c1 e => hs₈.extBut _ _ c1 (hs₇.extBut _ _ c1 (Heap.get?_push_of_some _ e))
  have hT₈ : IsPair h₈ h₅.objs.size X1 X2 := hs₈.extBut _ _ (Nat.ne_of_gt hzlt) (hs₇.extBut _ _ (Nat.ne_of_gt hzlt) (Heap.get?_push_size _ rfl))
  have hz8 : h₈.objs.size = h₅.objs.size + 1 := by rw [hs₈.1, hs₇.1, Heap.size_push]
  rw [hsz] at hz₈ hT₈ hz8
  refine wpAny_pure ⟨_, rfl, ?_⟩
  show Q (.ref h₅.objs.size) _
  rw [hsz]
  subst hx1 hx2
  exact hQ h₈ _ _ _ hz₈ (up _ _ D.TOz hTO₅) (bi_at h1₅ fun o e => up _ o D.i1z e) (bi_at h2₅ fun o e => up _ o D.i2z e) hT₈ hz8 fun c o c1 c2 c3 c4 e => up c o c1 (hk₅ c o c1 c2 c3 c4 e)
end
end Mine
end

section
/-! part L2 -/
namespace Mine
open PySem.Calls PySem.Builtin
section
variable {prog : Program} {w : World} {A : Around} {E : Value → Shared → Prop} {s : Shared}
theorem zipB_next_end {z TI TO i1 i2 : Addr} {k1 k2 : Nat} {b1 b2 : Array UInt8} {t1 t2 : Tok} {a0 a1 : Value} {Q : Fin → Shared → Prop} (hh : A.handled = none) (D : ZApart z TI TO i1 i2)
    (hz : IsZip s.heap z TI TO .none) (hTI : IsPair s.heap TI (.ref i1) (.ref i2)) (hTO : IsPair s.heap TO a0 a1)
    (h1 : KBw.IsBytesIter s.heap i1 b1 t1 k1) (h2 : KBw.IsBytesIter s.heap i2 b2 t2 k2) (hend : b1[k1]? = none ∨ b2[k2]? = none)
    (hE : ∀ h' tk e, (∀ c o, c ≠ z → c ≠ TO → c ≠ i1 → c ≠ i2 → s.heap.get? c = some o → h'.get? c = some o) → (∃ o, h'.get? e = some o ∧ o.cls = .type "StopIteration") → E (.ref e) { s with heap := h', toks := tk }) :
    wpAny (model prog w) A (Builtin.«zip.__next__» ⟨[.ref z], []⟩) Q E s := by
  show wpAny _ _ (field (.ref z) 2 >>= _) _ _ _
  refine wpAny_bind (wpAny_field hz rfl (x := .bool false) rfl ?_)
  show wpAny _ _ (field (.ref z) 3 >>= _) _ _ _
  refine wpAny_bind (wpAny_field hz rfl (x := .ref TI) rfl ?_)
  refine wpAny_bind (wpAny_seqItems hTI rfl ?_)
  show wpAny _ _ (Builtin.SmallTypes.ownedTupleIsFree (.ref z) >>= _) _ _ _
  refine wpAny_bind ?_
  unfold Builtin.SmallTypes.ownedTupleIsFree
  refine wpAny_bind (wpAny_field hz rfl (x := .none) rfl (wpAny_pure ?_))
  simp only [if_true]
  refine wpAny_bind (wpAny_rule ?_)
  refine wpAny_bind (wpAny_field hz rfl (x := .ref TO) rfl ?_)
  refine wpAny_bind (wpAny_setField_rec hz (by simp) fun h₁ hz₁ hs₁ => ?_)
  replace hz₁ : IsZip h₁ z TI TO .ellipsis := hz₁
  refine wpAny_bind ?_
  simp only [List.zipIdx_cons, List.zipIdx_nil, List.forIn_cons, List.forIn_nil]
  refine wpAny_bind (wpAny_bind (wpAny_onRaise ?_))
  show wpAny _ _ (Builtin.SmallTypes.nextOf (.ref i1) >>= _) _ _ _
  cases hx : b1[k1]? with
  | none =>
    refine wpAny_bind (nextOf_bytes_end hh (bi_ext h1 hs₁.extBut D.i1z) hx fun h₂ e hs₂ he => ?_)
    obtain ⟨oe, hoe, hce⟩ := he
    have hz₂ : IsZip h₂ z TI TO .ellipsis := hs₂ _ _ D.i1z.symm hz₁
    have hez : e ≠ z := fun x => by subst x; rw [hz₂] at hoe; cases hoe; simp at hce
    refine wpAny_setField_rec hz₂ (by simp) fun h₃ _ hs₃ => hE h₃ _ e (fun c o c1 _ c3 _ x => hs₃.extBut _ _ c1 (hs₂ _ _ c3 (hs₁.extBut _ _ c1 x))) ⟨oe, hs₃.extBut _ _ hez hoe, hce⟩
  | some x =>
    have hy : b2[k2]? = none := by rcases hend with h | h; rw [hx] at h; cases h; exact h
    refine wpAny_bind (nextOf_bytes_item (bi_ext h1 hs₁.extBut D.i1z) hx fun h₂ h1₂ hs₂ => wpAny_pure ?_)
    have hTO₂ : IsPair h₂ TO a0 a1 := hs₂.extBut _ _ D.TOi1 (hs₁.extBut _ _ D.TOz hTO)
    refine wpAny_bind (wpAny_seqItems hTO₂ rfl ?_)
    refine wpAny_bind (wpAny_updateSeq_pair hTO₂ fun h₃ hTO₃ hs₃ => ?_)
    refine wpAny_bind (wpAny_letGo (wpAny_pure ?_))
    refine wpAny_bind (wpAny_bind (wpAny_onRaise ?_))
    show wpAny _ _ (Builtin.SmallTypes.nextOf (.ref i2) >>= _) _ _ _
    refine wpAny_bind (nextOf_bytes_end hh (bi_ext (bi_ext (bi_ext h2 hs₁.extBut D.i2z) hs₂.extBut D.i12.symm) hs₃.extBut D.TOi2.symm) hy fun h₄ e hs₄ he => ?_)
    obtain ⟨oe, hoe, hce⟩ := he
    have hz₄ : IsZip h₄ z TI TO .ellipsis := hs₄ _ _ D.i2z.symm (hs₃.extBut _ _ D.TOz.symm (hs₂.extBut _ _ D.i1z.symm hz₁))
    have hez : e ≠ z := fun x => by subst x; rw [hz₄] at hoe; cases hoe; simp at hce
    refine wpAny_setField_rec hz₄ (by simp) fun h₅ _ hs₅ => hE h₅ _ e (fun c o c1 c2 c3 c4 x => hs₅.extBut _ _ c1 (hs₄ _ _ c4 (hs₃.extBut _ _ c2 (hs₂.extBut _ _ c3 (hs₁.extBut _ _ c1 x))))) ⟨oe, hs₅.extBut _ _ hez hoe, hce⟩

/-- the state of a zip over two bytes, i items handed out -/
def ZSt (z TI TO i1 i2 : Addr) (b1 b2 : Array UInt8) (t1 t2 : Tok) (i : Nat) (h : Heap) : Prop :=
  IsZip h z TI TO .none ∧ IsPair h TI (.ref i1) (.ref i2) ∧ (∃ a b, IsPair h TO a b) ∧ KBw.IsBytesIter h i1 b1 t1 i ∧ KBw.IsBytesIter h i2 b2 t2 i
def ZMid (z TI TO i1 i2 : Addr) (b1 b2 : Array UInt8) (t1 t2 : Tok) (i : Nat) (T : Addr) (h : Heap) : Prop :=
  IsZip h z TI TO (rawInt T) ∧ IsPair h TI (.ref i1) (.ref i2) ∧ (∃ a b, IsPair h TO a b) ∧ KBw.IsBytesIter h i1 b1 t1 (i + 1) ∧ KBw.IsBytesIter h i2 b2 t2 (i + 1) ∧ T ≠ z ∧ T ≠ TO ∧ T ≠ i1 ∧ T ≠ i2

theorem walksT_zipB (hh : A.handled = none) {z TI TO i1 i2 : Addr} (D : ZApart z TI TO i1 i2) (b1 b2 : Array UInt8) (t1 t2 : Tok) :
    WalksT prog w A z [z, TI, TO, i1, i2] [z, TO, i1, i2] (min b1.size b2.size)
      (fun i vals => ∃ c1 c2 u1 u2, b1[i]? = some c1 ∧ b2[i]? = some c2 ∧ vals = #[.int (c1.toNat : Int) u1, .int (c2.toNat : Int) u2])
      (ZSt z TI TO i1 i2 b1 b2 t1 t2) (ZMid z TI TO i1 i2 b1 b2 t1 t2) where
  sub := fun c hc => by simp at hc ⊢; rcases hc with rfl | rfl | rfl | rfl <;> simp
  frame := fun i h h' hst hk => by
    obtain ⟨hz, hTI, ⟨a, b, hTO⟩, h1, h2⟩ := hst
    exact ⟨hk z (by simp) _ hz, hk TI (by simp) _ hTI, ⟨a, b, hk TO (by simp) _ hTO⟩, bi_at h1 fun o e => hk i1 (by simp) o e, bi_at h2 fun o e => hk i2 (by simp) o e⟩
  item := fun i s Q E hi hst hQ => by
    obtain ⟨hz, hTI, ⟨a, b, hTO⟩, h1, h2⟩ := hst
    have hix : i < b1.size := Nat.lt_of_lt_of_le hi (Nat.min_le_left ..)
    have hiy : i < b2.size := Nat.lt_of_lt_of_le hi (Nat.min_le_right ..)
    have hT : s.TypeIs (.ref z) "zip" := ⟨_, hz, rfl⟩
    unfold pyNext
    refine wpAny_bind (wpAny_attempt (wpAny_callSpecial?_slot (name := Str.ofString "__next__") hT F.slot_zip_next
      (wpAny_call_entry F.slot_zip_next hT F.entry_zip_next
        (zipB_next_item D hz hTI hTO h1 h2 (Array.getElem?_eq_getElem hix) (Array.getElem?_eq_getElem hiy) fun h' tk u1 u2 a1 a2 a3 a4 a5 a6 hk => wpAny_pure ?_) (F.args_zip_next_1 _))))
    have lt : ∀ {c o}, s.heap.get? c = some o → s.heap.objs.size ≠ c := fun e => Nat.ne_of_gt (Heap.lt_size e)
    exact hQ s.heap.objs.size _ h' tk ⟨_, _, u1, u2, Array.getElem?_eq_getElem hix, Array.getElem?_eq_getElem hiy, rfl⟩ (Nat.le_refl _) ⟨_, a5, rfl, _, rfl⟩
      ⟨a1, hk _ _ D.TIz D.TITO D.TIi1 D.TIi2 hTI, ⟨_, _, a2⟩, a3, a4,
        lt hz, lt hTO, (by obtain ⟨_, e, _⟩ := h1; exact lt e), (by obtain ⟨_, e, _⟩ := h2; exact lt e)⟩
      fun c o hc e => hk c o (fun x => hc (by simp [x])) (fun x => hc (by simp [x])) (fun x => hc (by simp [x])) (fun x => hc (by simp [x])) e
  go := fun elts k pos i T s Q E hm hQ => by
    obtain ⟨hz, hTI, ⟨a, b, hTO⟩, h1, h2, _⟩ := hm
    refine wpAny_letOwnedTupleGo_zip hz fun h' hz' hs' => hQ h' ⟨hz', hs'.extBut _ _ D.TIz hTI, ⟨a, b, hs'.extBut _ _ D.TOz hTO⟩, bi_ext h1 hs'.extBut D.i1z, bi_ext h2 hs'.extBut D.i2z⟩
      fun c o hc e => hs'.extBut _ _ (fun x => hc (by simp [x])) e
  apart := fun i T h hm hT => by
    obtain ⟨_, _, _, _, _, t1, t2, t3, t4⟩ := hm
    simp at hT
    rcases hT with rfl | rfl | rfl | rfl
    · exact t1 rfl
    · exact t2 rfl
    · exact t3 rfl
    · exact t4 rfl
  done := fun s Q E hst hQ => by
    obtain ⟨hz, hTI, ⟨a, b, hTO⟩, h1, h2⟩ := hst
    have hend : b1[min b1.size b2.size]? = none ∨ b2[min b1.size b2.size]? = none := by
      rcases Nat.le_total b1.size b2.size with h | h
      · exact .inl (by rw [Nat.min_eq_left h]; exact Array.getElem?_eq_none (Nat.le_refl _))
      · exact .inr (by rw [Nat.min_eq_right h]; exact Array.getElem?_eq_none (Nat.le_refl _))
    have hT : s.TypeIs (.ref z) "zip" := ⟨_, hz, rfl⟩
    unfold pyNext
    refine wpAny_bind (wpAny_attempt (wpAny_callSpecial?_slot (name := Str.ofString "__next__") hT F.slot_zip_next
      (wpAny_call_entry F.slot_zip_next hT F.entry_zip_next (zipB_next_end hh D hz hTI hTO h1 h2 hend fun h' tk e hk he => ?_) (F.args_zip_next_1 _))))
    obtain ⟨o, ho, hc⟩ := he
    refine wpAny_bind (wpAny_isInstance (T := "StopIteration") (b := true) ⟨o, ho, hc⟩ isSubtype_stop ?_)
    exact wpAny_pure (hQ h' tk fun c o hc e => hk c o (fun x => hc (by simp [x])) (fun x => hc (by simp [x])) (fun x => hc (by simp [x])) (fun x => hc (by simp [x])) e)
  self := fun i s Q E hst hQ => wpAny_pyIter_zip hst.1 hQ

abbrev zbH1 (h : Heap) (b1 : Array UInt8) (t1 : Tok) : Heap := h.push { cls := .type "bytes_iterator", data := .fields #[.bytes b1 t1, .int 0 0] }
abbrev zbH2 (h : Heap) (b1 : Array UInt8) (t1 : Tok) (b2 : Array UInt8) (t2 : Tok) : Heap := (zbH1 h b1 t1).push { cls := .type "bytes_iterator", data := .fields #[.bytes b2 t2, .int 0 0] }
abbrev zbH3 (h : Heap) (b1 : Array UInt8) (t1 : Tok) (b2 : Array UInt8) (t2 : Tok) : Heap := (zbH2 h b1 t1 b2 t2).push { cls := .type "tuple", data := .seq #[.ref h.objs.size, .ref (zbH1 h b1 t1).objs.size] }
abbrev zbH4 (h : Heap) (b1 : Array UInt8) (t1 : Tok) (b2 : Array UInt8) (t2 : Tok) : Heap := (zbH3 h b1 t1 b2 t2).push { cls := .type "tuple", data := .seq #[.none, .none] }
abbrev zbH5 (h : Heap) (b1 : Array UInt8) (t1 : Tok) (b2 : Array UInt8) (t2 : Tok) : Heap := (zbH4 h b1 t1 b2 t2).push { cls := .type "zip", data := .fields #[.none, .bool false, .bool false, .ref (zbH2 h b1 t1 b2 t2).objs.size, .ref (zbH3 h b1 t1 b2 t2).objs.size] }

theorem meets_zipB_new (b1 b2 : Array UInt8) (t1 t2 : Tok) :
    Meets (Builtin.«zip.__new__» ⟨[.type "zip", .bytes b1 t1, .bytes b2 t2], []⟩) (fun _ R s =>
      R (.ok (.ret (.ref (zbH4 s.heap b1 t1 b2 t2).objs.size))) { s with heap := zbH5 s.heap b1 t1 b2 t2 }) :=
  .of_wp fun prog w A R s h => by
    obtain ⟨hp, g, d, tk, os⟩ := s
    have hsub := sub_zip
    have p1 := fun (A : Around) (E : Value → Shared → Prop) (Q : Value → Shared → Prop) => KBw.pyIter_bytes (prog := prog) (w := w) (A := A) (E := E) (Q := Q) (s := ⟨hp, g, d, tk, os⟩) (b := b1) (t := t1)
    have p2 := fun (A : Around) (E : Value → Shared → Prop) (Q : Value → Shared → Prop) => KBw.pyIter_bytes (prog := prog) (w := w) (A := A) (E := E) (Q := Q) (s := ⟨hp.push { cls := .type "bytes_iterator", data := .fields #[.bytes b1 t1, .int 0 0] }, g, d, tk, os⟩) (b := b2) (t := t2)
    wp_walk using p1, p2
    exact ⟨_, rfl, h⟩
end
end Mine
end

section
/-! part L3 -/
namespace Mine
open PySem.Calls PySem.Builtin PyProof.Rows.LCg
section
variable {prog : Program} {w : World} {A : Around} {E : Value → Shared → Prop} {s : Shared}
theorem call_zipB {b1 b2 : Array UInt8} {t1 t2 : Tok} {Q : Value → Shared → Prop}
    (h : ∀ h', ZSt (s.heap.objs.size + 4) (s.heap.objs.size + 2) (s.heap.objs.size + 3) s.heap.objs.size (s.heap.objs.size + 1) b1 b2 t1 t2 0 h' → h'.objs.size = s.heap.objs.size + 5 →
      (∀ c o, s.heap.get? c = some o → h'.get? c = some o) → Q (.ref (s.heap.objs.size + 4)) { s with heap := h' }) :
    wpAny (model prog w) A (call (.type "zip") [.bytes b1 t1, .bytes b2 t2]) Q E s := by
  refine callType_new F.called_zip (by decide) (F.typeCall_zip_2 _ _) (F.newCall_zip_2 _ _) (fun obj => F.args_object_init_3 obj _ _) F.entry_zip_new
    (meets_zipB_new b1 b2 t1 t2) ?_
  have z1 : (zbH1 s.heap b1 t1).objs.size = s.heap.objs.size + 1 := Heap.size_push ..
  have z2 : (zbH2 s.heap b1 t1 b2 t2).objs.size = s.heap.objs.size + 2 := by rw [Heap.size_push, z1]
  have z3 : (zbH3 s.heap b1 t1 b2 t2).objs.size = s.heap.objs.size + 3 := by rw [Heap.size_push, z2]
  have z4 : (zbH4 s.heap b1 t1 b2 t2).objs.size = s.heap.objs.size + 4 := by rw [Heap.size_push, z3]
  have z5 : (zbH5 s.heap b1 t1 b2 t2).objs.size = s.heap.objs.size + 5 := by rw [Heap.size_push, z4]
  have g5 : (zbH5 s.heap b1 t1 b2 t2).get? (zbH4 s.heap b1 t1 b2 t2).objs.size = some _ := Heap.get?_push_size _ rfl
  have g4 : (zbH5 s.heap b1 t1 b2 t2).get? (zbH3 s.heap b1 t1 b2 t2).objs.size = some _ := Heap.get?_push_of_some _ (Heap.get?_push_size _ rfl)
  have g3 : (zbH5 s.heap b1 t1 b2 t2).get? (zbH2 s.heap b1 t1 b2 t2).objs.size = some _ := Heap.get?_push_of_some _ (Heap.get?_push_of_some _ (Heap.get?_push_size _ rfl))
  have g2 : (zbH5 s.heap b1 t1 b2 t2).get? (zbH1 s.heap b1 t1).objs.size = some _ := Heap.get?_push_of_some _ (Heap.get?_push_of_some _ (Heap.get?_push_of_some _ (Heap.get?_push_size _ rfl)))
  have g1 : (zbH5 s.heap b1 t1 b2 t2).get? s.heap.objs.size = some _ := Heap.get?_push_of_some _ (Heap.get?_push_of_some _ (Heap.get?_push_of_some _ (Heap.get?_push_of_some _ (Heap.get?_push_size _ rfl))))
  show _ ∧ _
  rw [z2, z3, z4] at g5
  rw [z1, z2] at g3
  rw [z3] at g4
  rw [z1] at g2
  rw [z4]
  exact ⟨⟨_, g5, rfl⟩, h _ ⟨g5, g3, ⟨_, _, g4⟩, ⟨_, g1, rfl, rfl⟩, ⟨_, g2, rfl, rfl⟩⟩ z5 fun c o x =>
    Heap.get?_push_of_some _ (Heap.get?_push_of_some _ (Heap.get?_push_of_some _ (Heap.get?_push_of_some _ (Heap.get?_push_of_some _ x))))⟩

/-- the turn of a list comprehension over pairs: what it makes of each pair is pure -/
theorem comp_block {elt iter : PySem.Expr} {a b : Str} {pa pb tp : Pos} {kk : Nat} {scope : Scope} {cl : List (Str × Addr)} {pos : Pos} {env : Env} {s₂ : Shared} {I : Addr} {fp wr : List Addr} {n : Nat} {P Md : Nat → Value → Heap → Prop} {St : Nat → Heap → Prop}
    {Pv : Nat → Value → Value → Prop} {G : Nat → Value → Prop} {RR : Value → Addr → Result → Shared → Prop}
    (W : KTurns prog w A (.Tuple [.Name a pa, .Name b pb] kk tp) I fp wr n P Md St) (hh : A.handled = none)
    (hP : ∀ i v h, P i v h → ∃ T x y, v = .ref T ∧ h.IsTuple T #[x, y] ∧ Pv i x y)
    (hself : ∀ i (s : Shared) (Q : Value → Shared → Prop) (E : Value → Shared → Prop), St i s.heap → Q (.ref I) s → wpAny (model prog w) A (pyIter (.ref I)) Q E s)
    (hsz : n ≤ sizeLine) (hst : St 0 s₂.heap) (hfp : ∀ b ∈ fp, b < s₂.heap.objs.size)
    (hcell : ∀ y ∈ scope.names, y.2 ≠ .cell) (hkind : scope.kind = .function) (hxa : scope.names.lookup a = some .local) (hxb : scope.names.lookup b = some .local) (hab : ¬ a = b)
    (helt : ∀ C i x y (s₃ : Shared) m₃ (E' : Value → Shared → Prop), Pv i x y → s₃.heap.Ns C m₃ → m₃ a = some x → m₃ b = some y →
      wpAny (model prog w) A (eval elt (compEnvC scope cl C env)) (fun y s₄ => G i y ∧ Keeps s₃ s₄) E' s₃)
    (hRR : ∀ D C h tk m' ys, s₂.heap.objs.size ≤ D → s₂.heap.objs.size ≤ C → C ≠ D → h.Ns C m' → h.get? D = some (lst ys) → ys.length = n → (∀ j v, ys[j]? = some v → G j v) →
      (∀ b o, b ∉ wr → s₂.heap.get? b = some o → h.get? b = some o) → RR (.ref D) C (.ok .next) { s₂ with heap := h, toks := tk }) :
    wpAny (model prog w) A (newList []) (fun acc s₃ => wpAny (model prog w) A (newFunctionEnv scope env.globals cl [] env.qual none .none (some env)) (fun cenv s₄ =>
      codeAny (model prog w) A (.compStart (.ListComp elt [⟨.Tuple [.Name a pa, .Name b pb] kk tp, iter, [], 0⟩] scope pos) 0 (.ref I) acc { cenv with scope := relabel scope env }) (RR acc cenv.locals) s₄) E s₃) E s₂ := by
  refine wpAny_newObj_type (wpAny_newFunctionEnv hcell (by intro y hy; simp at hy) (fun h₁ hns₁ hsb₁ => ?_) hkind)
  dsimp only at hns₁ hsb₁ ⊢
  generalize hH2 : s₂.heap.push { cls := .type "list", dict := none, data := .seq ([] : List Value).toArray } = H2 at hns₁ hsb₁ ⊢
  have hC : H2.objs.size = s₂.heap.objs.size + 1 := by rw [← hH2, Heap.size_push]
  have hDC : s₂.heap.objs.size ≠ H2.objs.size := by rw [hC]; exact Nat.ne_of_lt (Nat.lt_succ_self _)
  have below : ∀ b, b < s₂.heap.objs.size → b ≠ H2.objs.size ∧ b ≠ s₂.heap.objs.size := fun b hb => ⟨by rw [hC]; exact Nat.ne_of_lt (Nat.lt_succ_of_lt hb), Nat.ne_of_lt hb⟩
  have old : ∀ b o, s₂.heap.get? b = some o → h₁.get? b = some o := fun b o e => hsb₁.extBut b o (below b (Heap.lt_size e)).1 (Heap.get?_push_of_some _ (hH2 ▸ Heap.get?_push_of_some _ e))
  have hacc : h₁.get? s₂.heap.objs.size = some (lst []) := hsb₁.extBut _ _ hDC (Heap.get?_push_of_some _ (hH2 ▸ Heap.get?_push_size _ rfl))
  have hst₁ : St 0 h₁ := W.frame _ _ _ hst fun b _ o e => old b o e
  have hwr : ∀ b ∈ wr, b ≠ H2.objs.size ∧ b ≠ s₂.heap.objs.size := fun b hb => below b (hfp b (W.sub b hb))
  have hfp' : ∀ b ∈ fp, b ≠ H2.objs.size ∧ b ≠ s₂.heap.objs.size := fun b hb => below b (hfp b hb)
  have loop : ∀ s₃ : Shared, s₃ = { s₂ with heap := h₁, toks := s₂.toks + ([] : List (Str × Value)).length } →
      codeAny (model prog w) A (.compLoop (.ListComp elt [⟨.Tuple [.Name a pa, .Name b pb] kk tp, iter, [], 0⟩] scope pos) 0 (.ref I) (.ref s₂.heap.objs.size) (compEnvC scope cl H2.objs.size env))
        (RR (.ref s₂.heap.objs.size) H2.objs.size) s₃ := by
    rintro s₃ rfl
    refine kcp_loop
      (fun k s' => ∃ h' tk i ys m', s' = { s₂ with heap := h', toks := tk } ∧ i ≤ n ∧ k = n + 1 - i ∧ ys.length = i ∧ St i h' ∧ h'.Ns H2.objs.size m' ∧ h'.get? s₂.heap.objs.size = some (lst ys) ∧ (∀ j v, ys[j]? = some v → G j v) ∧
        (∀ b o, b ∉ wr → s₂.heap.get? b = some o → h'.get? b = some o)) ?_ (n + 1)
      ⟨h₁, _, 0, [], _, rfl, Nat.zero_le _, rfl, rfl, hst₁, hns₁, hacc, (by intro j v e; simp at e), fun b o _ e => old b o e⟩
    rintro k s' ⟨h', tk, i, ys, m', rfl, hi, rfl, hyl, hst', hn', hD', hG', hk'⟩
    by_cases hlt : i < n
    · refine W.item i _ _ _ hlt hst' fun v h₂ tk₂ hMd hk₂ => ?_
      refine W.go i v _ _ _ hMd fun h₃ hPP hst₃ hk₃ => ?_
      obtain ⟨T, x, y, rfl, hT, hPv⟩ := hP _ _ _ hPP
      have up₃ : ∀ c o, c ∉ wr → h'.get? c = some o → h₃.get? c = some o := fun c o hc e => hk₃ c o hc (hk₂ c o hc e)
      have hCw : H2.objs.size ∉ wr := fun hm => (hwr _ hm).1 rfl
      have hDw : s₂.heap.objs.size ∉ wr := fun hm => (hwr _ hm).2 rfl
      refine kcp_assign (env := compEnvC scope cl H2.objs.size env) hh hT (lookup_relabel_local hxa) (lookup_relabel_local hxb) (by simp [compEnvC, relabel, hkind]) (hn'.at' fun o e => up₃ _ o hCw e) fun h₄ tk₄ hn₄ hs₄ => ?_
      have up₄ : ∀ c o, c ∉ wr → c ≠ H2.objs.size → h'.get? c = some o → h₄.get? c = some o := fun c o h1 h2 e => hs₄ c o h2 (up₃ c o h1 e)
      have hst₄ : St (i + 1) h₄ := W.frame _ _ _ hst₃ fun b hb o e => hs₄ b o (hfp' b hb).1 e
      refine wpAny_mono (helt H2.objs.size i x y _ _ _ hPv hn₄ (by simp [hab]) (by simp)) (fun r s₅ h₅ => ?_) fun _ _ e => e
      obtain ⟨hGr, h₅, tk₅, rfl, hk₅⟩ := h₅
      have zD : h₅.get? s₂.heap.objs.size = some (lst ys) := hk₅ _ _ (up₄ _ _ hDw hDC hD')
      refine append_at (hsz := by show ys.toArray.size ≤ sizeLine; rw [List.size_toArray, hyl]; exact Nat.le_trans hi hsz) zD fun h₆ hs₆ hD₆ => ?_
      refine ⟨n + 1 - (i + 1), by omega, h₆, tk₅, i + 1, ys ++ [r], _, rfl, hlt, rfl, by rw [List.length_append, List.length_singleton, hyl],
        W.frame _ _ _ hst₄ fun b hb o e => hs₆.extBut b o (hfp' b hb).2 (hk₅ b o e), (hn₄.keeps hk₅).sameBut hs₆ (Ne.symm hDC), hD₆.trans (congrArg some (lst_snoc ys r)), ?_, ?_⟩
      · intro j v e
        rcases Nat.lt_trichotomy j ys.length with h | h | h
        · exact hG' j v (by rwa [List.getElem?_append_left h] at e)
        · subst h; simp at e; subst e; rw [hyl]; exact hGr
        · have hnone : (ys ++ [r])[j]? = none := List.getElem?_eq_none (by rw [List.length_append, List.length_singleton]; omega)
          rw [hnone] at e; cases e
      · intro b o hb e
        have hlt' := below b (Heap.lt_size e)
        exact hs₆.extBut b o hlt'.2 (hk₅ b o (up₄ b o hb hlt'.1 (hk' b o hb e)))
    · have hin : i = n := Nat.le_antisymm hi (Nat.not_lt.mp hlt)
      subst hin
      refine W.done _ _ _ hst' fun h₂ tk₂ hk₂ => ?_
      have hCw : H2.objs.size ∉ wr := fun hm => (hwr _ hm).1 rfl
      have hDw : s₂.heap.objs.size ∉ wr := fun hm => (hwr _ hm).2 rfl
      exact hRR _ _ h₂ tk₂ _ ys (Nat.le_refl _) (by rw [hC]; exact Nat.le_succ _) (Ne.symm hDC) (hn'.at' fun o e => hk₂ _ o hCw e) (hk₂ _ _ hDw hD') hyl hG' fun b o hb e => hk₂ b o hb (hk' b o hb e)
  exact codeAny_compStart_list (loop _ rfl) (hself 0 _ _ _ hst₁ (loop _ rfl))
end
end Mine
end

section
/-! part L4 -/
namespace Mine
open PySem.Calls PySem.Builtin PyProof.Rows.LCg
/-- IntsAre from the places -/
theorem ints_of_places : ∀ {ys : List Value} {ns : List Int}, ys.length = ns.length → (∀ (j : Nat) (v : Value), ys[j]? = some v → ∃ n t, ns[j]? = some n ∧ v = Value.int n t) → IntsAre ys ns
  | [], [], _, _ => .nil
  | [], _ :: _, h, _ => by simp at h
  | _ :: _, [], h, _ => by simp at h
  | y :: ys, n :: ns, h, g => by
    obtain ⟨n', t, e, rfl⟩ := g 0 y rfl
    simp only [List.getElem?_cons_zero, Option.some.injEq] at e
    subst e
    refine .cons _ _ (ints_of_places (by simpa using h) fun j v e => ?_)
    obtain ⟨n', t, e', r⟩ := g (j + 1) v (by simpa using e)
    exact ⟨n', t, by simpa using e', r⟩

section
variable {prog : Program} {w : World} {A : Around} {E : Value → Shared → Prop} {s : Shared} {h₀ : Heap} {L : Addr} {m : Str → Option Value} {news : List (Addr × Obj)} {env : Env}

/-- what the zip that the comprehension runs over is to be -/
def SrcZ (_prog : Program) (_w : World) (A : Around) (h₀ : Heap) (L : Addr) (m : Str → Option Value) (Q : Value → Shared → Prop) (g : Int → Int → Int) (xv : Value) (s₁ : Shared) : Prop :=
  ∃ z TI TO i1 i2 b1 b2 t1 t2 news, xv = .ref z ∧ A.handled = none ∧ ZApart z TI TO i1 i2 ∧ Fr h₀ L s₁.heap m ∧ News h₀ L s₁.heap news ∧ ZSt z TI TO i1 i2 b1 b2 t1 t2 0 s₁.heap ∧
    (∀ x ∈ [z, TO, i1, i2], x ≠ L ∧ h₀.get? x = none ∧ ∀ p ∈ news, p.1 ≠ x) ∧ min b1.size b2.size ≤ sizeLine ∧
    ∀ D h tk ys, Fr h₀ L h m → News h₀ L h ((D, lst ys) :: news) → (∀ p ∈ news, p.1 < D) → IntsAre ys (List.zipWith g (KBw.bInts b1) (KBw.bInts b2)) → Q (.ref D) { s₁ with heap := h, toks := tk }

theorem zipWith_at {g : Int → Int → Int} {b1 b2 : Array UInt8} {j : Nat} {c1 c2 : UInt8} (h1 : b1[j]? = some c1) (h2 : b2[j]? = some c2) :
    (List.zipWith g (KBw.bInts b1) (KBw.bInts b2))[j]? = some (g (c1.toNat : Int) (c2.toNat : Int)) := by
  rw [List.getElem?_zipWith, KBw.ints_get h1, KBw.ints_get h2]

theorem zipB_ListComp {elt iter : PySem.Expr} {a b : Str} {pa pb tp : Pos} {kk : Nat} {scope : Scope} {cl : List (Str × Addr)} {pos : Pos} {Q : Value → Shared → Prop} (g : Int → Int → Int) (_F₀ : Fr h₀ L s.heap m)
    (hclos : closureFor scope env = pure cl) (hcell : ∀ y ∈ scope.names, y.2 ≠ .cell) (hkind : scope.kind = .function)
    (hnames : ∀ y ∈ scope.names, y.2 = .local → scope.names.lookup y.1 = some .local) (hxa : scope.names.lookup a = some .local) (hxb : scope.names.lookup b = some .local) (hab : ¬ a = b)
    (helt : ∀ C (c1 c2 : UInt8) u1 u2 (s₃ : Shared) m₃ (E' : Value → Shared → Prop), s₃.heap.Ns C m₃ → m₃ a = some (.int (c1.toNat : Int) u1) → m₃ b = some (.int (c2.toNat : Int) u2) →
      wpAny (model prog w) A (eval elt (compEnvC scope cl C env)) (fun y s₄ => (∃ t, y = .int (g (c1.toNat : Int) (c2.toNat : Int)) t) ∧ Keeps s₃ s₄) E' s₃)
    (h : wpAny (model prog w) A (eval iter env) (SrcZ prog w A h₀ L m Q g) E s)
    (hs : ∀ x, foldedSetIterable iter env x = pure x := by intro _; rfl) :
    wpAny (model prog w) A (eval (.ListComp elt [⟨.Tuple [.Name a pa, .Name b pb] kk tp, iter, [], 0⟩] scope pos) env) Q E s := by
  rw [eval_ListComp]
  refine wpAny_comprehension_free (use := none) rfl hs hclos hkind hnames (wpAny_mono h (fun xv s₁ h₁ => ?_) fun _ _ e => e)
  obtain ⟨z, TI, TO, i1, i2, b1, b2, t1, t2, news, rfl, hh, D, F, N, hst, hoff, hsz, fin⟩ := h₁
  have W := KTurns.ofWalksU (elts := [.Name a pa, .Name b pb]) (k := kk) (pos := tp) (walksT_zipB (prog := prog) (w := w) hh D b1 b2 t1 t2).toU
  refine wpAny_pyIter_zip hst.1 ?_
  obtain ⟨hz, hTI, ⟨ta, tb, hTO⟩, ⟨o1, e1, r1⟩, ⟨o2, e2, r2⟩⟩ := id hst
  refine comp_block (G := fun i v => ∃ c1 c2 t, b1[i]? = some c1 ∧ b2[i]? = some c2 ∧ v = .int (g (c1.toNat : Int) (c2.toNat : Int)) t) (Pv := fun i x y => ∃ c1 c2 u1 u2, b1[i]? = some c1 ∧ b2[i]? = some c2 ∧ x = .int (c1.toNat : Int) u1 ∧ y = .int (c2.toNat : Int) u2)
    W hh ?_ (fun i s Q E st q => wpAny_pyIter_zip st.1 q) hsz hst ?_ hcell hkind hxa hxb hab ?_ ?_
  · rintro i v h ⟨T, vals, rfl, ⟨c1, c2, u1, u2, x1, x2, rfl⟩, hT⟩
    exact ⟨T, _, _, rfl, hT, c1, c2, u1, u2, x1, x2, rfl, rfl⟩
  · intro c hc
    simp only [List.mem_cons, List.not_mem_nil, or_false] at hc
    rcases hc with rfl | rfl | rfl | rfl | rfl
    · exact Heap.lt_size hz
    · exact Heap.lt_size hTI
    · exact Heap.lt_size hTO
    · exact Heap.lt_size e1
    · exact Heap.lt_size e2
  · rintro C i x y s₃ m₃ E' ⟨c1, c2, u1, u2, x1, x2, rfl, rfl⟩ hn ha hb
    refine wpAny_mono (helt C c1 c2 u1 u2 s₃ m₃ E' hn ha hb) (fun v s₄ hv => ?_) fun _ _ e => e
    obtain ⟨⟨t, rfl⟩, hk⟩ := hv
    exact ⟨⟨c1, c2, t, x1, x2, rfl⟩, hk⟩
  · intro D' C h' tk m' ys hD hC hCD hn hDg hyl hG hk
    refine ⟨m', hn, fun h'' hs'' => ?_⟩
    have hLlt : L < s₁.heap.objs.size := F.ns.lt
    have old : ∀ x o, x ∉ [z, TO, i1, i2] → s₁.heap.get? x = some o → h''.get? x = some o := fun x o hx e =>
      hs''.extBut x o (Nat.ne_of_lt (Nat.lt_of_lt_of_le (Heap.lt_size e) hC)) (hk x o hx e)
    have hLn : L ∉ [z, TO, i1, i2] := fun hm => (hoff L hm).1 rfl
    have F'' : Fr h₀ L h'' m := ⟨F.ns.at' fun o e => old L o hLn e, fun x o e => old x o (fun hm => by rw [(hoff x hm).2.1] at e; cases e) (F.keep x o e), F.above⟩
    have fresh₀ : ∀ x, s₁.heap.objs.size ≤ x → h₀.get? x = none := fun x hx => by
      cases e : h₀.get? x with
      | none => rfl
      | some o' => exact absurd (Heap.lt_size (F.keep x o' e)) (Nat.not_lt.mpr hx)
    refine fin D' h'' tk ys F'' (fun p hp => ?_) (fun p hp => Nat.lt_of_lt_of_le (Heap.lt_size (N p hp).1) hD) (ints_of_places ?_ fun j v e => ?_)
    · rcases List.mem_cons.mp hp with rfl | hp
      · exact ⟨hs''.extBut _ _ (Ne.symm hCD) hDg, fun q => absurd hLlt (by show ¬ L < _; rw [← show D' = L from q]; exact Nat.not_lt.mpr hD), fresh₀ _ hD⟩
      · exact ⟨old _ _ (fun hm => (hoff _ hm).2.2 p hp rfl) (N p hp).1, (N p hp).2⟩
    · rw [hyl, List.length_zipWith, KBw.ints_length, KBw.ints_length]
    · obtain ⟨c1, c2, t, x1, x2, rfl⟩ := hG j v e
      exact ⟨_, t, zipWith_at x1 x2, rfl⟩

theorem zipB_src {b1 b2 : Array UInt8} {t1 t2 : Tok} {Q : Value → Shared → Prop} {g : Int → Int → Int} (F : Fr h₀ L s.heap m) (N : News h₀ L s.heap news) (hh : A.handled = none) (hsz : min b1.size b2.size ≤ sizeLine)
    (fin : ∀ D h tk ys, Fr h₀ L h m → News h₀ L h ((D, lst ys) :: news) → (∀ p ∈ news, p.1 < D) → IntsAre ys (List.zipWith g (KBw.bInts b1) (KBw.bInts b2)) → Q (.ref D) { s with heap := h, toks := tk }) :
    wpAny (model prog w) A (call (.type "zip") [.bytes b1 t1, .bytes b2 t2]) (SrcZ prog w A h₀ L m Q g) E s := by
  refine call_zipB fun h' hst hsize hk => ?_
  have fresh₀ : ∀ x, s.heap.objs.size ≤ x → h₀.get? x = none := fun x hx => by
    cases e : h₀.get? x with
    | none => rfl
    | some o' => exact absurd (Heap.lt_size (F.keep x o' e)) (Nat.not_lt.mpr hx)
  refine ⟨_, _, _, _, _, b1, b2, t1, t2, news, rfl, hh, zApart_new _, F.keptAll hk, N.grown hk, hst, fun x hx => ?_, hsz, fin⟩
  have hge : s.heap.objs.size ≤ x := by
    simp only [List.mem_cons, List.not_mem_nil, or_false] at hx
    rcases hx with rfl | rfl | rfl | rfl
    · exact Nat.le_add_right _ _
    · exact Nat.le_add_right _ _
    · exact Nat.le_refl _
    · exact Nat.le_add_right _ _
  exact ⟨fun q => absurd F.ns.lt (by rw [← q]; exact Nat.not_lt.mpr hge), fresh₀ x hge, fun p hp q => absurd (Heap.lt_size (N p hp).1) (by rw [q]; exact Nat.not_lt.mpr hge)⟩
end
end Mine
end

section
/-! part L5 -/
namespace Mine
open PySem.Calls PySem.Builtin PyProof.Rows.LCg
theorem nat_and_mul (a b : Nat) (h : a < 256) : a &&& (b * 2 ^ 8) = 0 := by
  refine Nat.eq_of_testBit_eq fun i => ?_
  rw [Nat.testBit_and, Nat.zero_testBit, Nat.testBit_mul_two_pow]
  by_cases hi : 8 ≤ i
  · have : a.testBit i = false := Nat.testBit_lt_two_pow (Nat.lt_of_lt_of_le h (Nat.pow_le_pow_right (by decide) hi : 2 ^ 8 ≤ 2 ^ i))
    rw [this]; rfl
  · rw [decide_eq_false hi]; simp
theorem or_shift (a b : Nat) (h : a < 256) : bitOr (a : Int) ((b : Int) * 2 ^ Int.toNat 8) = (a : Int) + 256 * (b : Int) := by
  rw [bitOr_and]
  have e : ((b : Int) * 2 ^ Int.toNat 8) = ((b * 2 ^ 8 : Nat) : Int) := by
    rw [show Int.toNat 8 = 8 from rfl]; push_cast; rfl
  rw [e, bitAnd_pp (Int.natCast_nonneg _) (Int.natCast_nonneg _), Int.toNat_natCast, Int.toNat_natCast, nat_and_mul a b h]
  push_cast
  omega
section
variable {prog : Program} {w : World} {A : Around} {E : Value → Shared → Prop} {env : Env}
theorem elt_pair {scope : Scope} {cl : List (Str × Addr)} {a b : Str} {p1 p2 p3 p4 p5 : Pos} {k : Nat} (hkind : scope.kind = .function) (hxa : scope.names.lookup a = some .local) (hxb : scope.names.lookup b = some .local)
    (hda : (a == ("__debug__" : Str)) = false) (hdb : (b == ("__debug__" : Str)) = false) :
    ∀ C (c1 c2 : UInt8) u1 u2 (s₃ : Shared) m₃ (E' : Value → Shared → Prop), s₃.heap.Ns C m₃ → m₃ a = some (.int (c1.toNat : Int) u1) → m₃ b = some (.int (c2.toNat : Int) u2) →
      wpAny (model prog w) A (eval (.BinOp (.Name a p1) .BitOr (.BinOp (.Name b p2) .LShift (.Constant (.int 8) k p3) p4) p5) (compEnvC scope cl C env)) (fun y s₄ => (∃ t, y = .int ((fun x y : Int => x + 256 * y) (c1.toNat : Int) (c2.toNat : Int)) t) ∧ Keeps s₃ s₄) E' s₃ := by
  intro C c1 c2 u1 u2 s₃ m₃ E' hn ha hb
  refine wpAny_BinOp (wpAny_Name (wpAny_loadName_local (env := compEnvC scope cl C env) hkind (lookup_relabel_local hxa) hn ha ?_) hda)
  refine wpAny_BinOp (wpAny_Name (wpAny_loadName_local (env := compEnvC scope cl C env) hkind (lookup_relabel_local hxb) hn hb ?_) hdb)
  refine wpAny_Constant_int ?_
  have h1 := c1.toNat_lt
  have h2 := c2.toNat_lt
  refine lshift_int_small (by decide) (by decide) (by omega) ?_
  refine or_int ?_
  rw [or_shift _ _ (by omega)]
  exact ⟨⟨_, rfl⟩, s₃.heap, _, rfl, fun _ _ e => e⟩
end
end Mine
end

section
/-! part L6 -/
namespace Mine
open PySem.Calls PySem.Builtin PyProof.Rows.LCg
theorem noI_bytes_add : typeLookup (.type "bytes") (dunderI "add") = pure none := by rw [typeLookup_type, builtinLookup_eq_fast]; kernel_rfl
section
variable {prog : Program} {w : World} {A : Around} {E : Value → Shared → Prop} {s : Shared} {b c : Array UInt8} {t u : Tok} {Q : Value → Shared → Prop}
theorem iadd_bytes (hsz : b.size + c.size ≤ 16777216) (h : ∀ t' k, Q (.bytes (b ++ c) t') { s with toks := k }) : wpAny (model prog w) A (inplaceOp .Add (.bytes b t) (.bytes c u)) Q E s := by
  refine iconcat_gives (typeIs_bytes s b t) (typeIs_bytes s c u) noI_bytes_add KBy.noFill_bytes_add KBy.seq_bytes_add FB.slot_bytes_add FB.entry_bytes_add (FB.args_bytes_add_2 _ _) (KBy.gives_bytes_add (KBy.tooLong_not hsz)) ?_
  by_cases hb : b.isEmpty = true
  · rw [if_pos hb]
    have e : b = #[] := Array.isEmpty_iff.1 hb
    have h' := h u s.toks
    rw [e, Array.empty_append] at h'
    exact h'
  · rw [if_neg hb]
    by_cases hc : c.isEmpty = true
    · rw [if_pos hc]
      have e : c = #[] := Array.isEmpty_iff.1 hc
      have h' := h t s.toks
      rw [e, Array.append_empty] at h'
      exact h'
    · rw [if_neg hc]
      exact ⟨by rw [Array.size_append, sizeLine_eq]; exact hsz, h s.toks (s.toks + 1)⟩
end
theorem pick2_small (b : Array UInt8) (lo : Option Int) (h : lo = none ∨ lo = some 1) (hb : b.size ≤ 16777216) : (pick2 b lo).size ≤ 16777216 := by
  have key : ∀ l : List Int, (ev l).length ≤ l.length := by
    intro l
    induction l using ev.induct with
    | case1 a c r ih => simp only [ev, List.length_cons]; omega
    | case2 a => simp [ev]
    | case3 => simp [ev]
  have key2 : ∀ l : List Int, (od l).length ≤ l.length := by
    intro l
    induction l using od.induct with
    | case1 a c r ih => simp only [od, List.length_cons]; omega
    | case2 a => simp [od]
    | case3 => simp [od]
  rw [← KBw.ints_length]
  rcases h with rfl | rfl
  · rw [pick2_even]; have := key (KBw.bInts b); rw [KBw.ints_length] at this; omega
  · rw [pick2_odd]; have := key2 (KBw.bInts b); rw [KBw.ints_length] at this; omega
end Mine
end

section
/-! part L7 -/
namespace Mine
open PySem.Calls PySem.Builtin PyProof.Rows.LCg
section
variable {prog : Program} {w : World} {A : Around} {E : Value → Shared → Prop} {s : Shared} {env : Env} {h₀ : Heap} {x : Str} {body : List Stmt} {Q : Flow → Shared → Prop}

/-- the end of a turn of a loop over a list of the ledger that binds one name to a new list of ints -/
def RowEnd (h₀ : Heap) (L : Addr) (x y : Str) (m₀ : Str → Option Value) (I : Addr) (oI : Obj) (news : List (Addr × Obj)) (b : List Int) (s : Shared) (f : Flow) (s₂ : Shared) : Prop :=
  f = .next ∧ ∃ h' tk' m' r' us' k', s₂ = { s with heap := h', toks := tk' } ∧ Fr h₀ L h' m' ∧ m' y = some (.ref r') ∧ (∀ z, z ≠ x → z ≠ y → m' z = m₀ z) ∧
    News h₀ L h' ((r', listOf (List.toArray us') k') :: (I, oI) :: news) ∧ @LT.lt Nat _ I r' ∧ IntsAre us' b
theorem RowEnd.intro {L : Addr} {y : Str} {m₀ m' : Str → Option Value} {I r' : Addr} {oI : Obj} {news news' : List (Addr × Obj)} {b : List Int} {s : Shared} {h' : Heap} {tk' : Nat} {us' : List Value} {k' : Nat}
    (F : Fr h₀ L h' m') (N : News h₀ L h' news') (hy : m' y = some (.ref r')) (hm : ∀ z, z ≠ x → z ≠ y → m' z = m₀ z) (hr : (r', listOf (List.toArray us') k') ∈ news') (hI : (I, oI) ∈ news') (hn : ∀ p ∈ news, p ∈ news') (hne : @LT.lt Nat _ I r') (hi : IntsAre us' b) :
    RowEnd h₀ L x y m₀ I oI news b s .next { s with heap := h', toks := tk' } :=
  ⟨rfl, h', tk', m', r', us', k', rfl, F, hy, hm, fun p hp => by
    rcases List.mem_cons.mp hp with rfl | hp
    · exact N _ hr
    · rcases List.mem_cons.mp hp with rfl | hp
      · exact N _ hI
      · exact N _ (hn p hp), hne, hi⟩

theorem iter_row {l : Addr} {vs : List Value} {ns : List Int} {nn : Nat} {m₀ : Str → Option Value} {news : List (Addr × Obj)} (y : Str) (g : List Int → Int → List Int) {r₀ : Addr} {us₀ : List Value} {k₀ : Nat} {a₀ : List Int}
    (hh : A.handled = none) (hl : (l, listOf vs.toArray nn) ∈ news) (hi : IntsAre vs ns) (F : Fr h₀ env.locals s.heap m₀) (N : News h₀ env.locals s.heap news)
    (hy : m₀ y = some (.ref r₀)) (hr : (r₀, listOf (List.toArray us₀) k₀) ∈ news) (hu : IntsAre us₀ a₀) (bd : Nat) (hbd : ∀ i, i ≤ ns.length → ((ns.take i).foldl g a₀).length ≤ bd)
    (turn : ∀ i n t r us k I oI h tk, ns[i]? = some n → n ∈ ns → IntsAre us ((ns.take i).foldl g a₀) → us.length ≤ bd → Fr h₀ env.locals h (fun z => if z = x then some (.int n t) else if z = y then some (.ref r) else m₀ z) →
      News h₀ env.locals h ((r, listOf (List.toArray us) k) :: (I, oI) :: news) →
      wpAny (model prog w) A (execs body env) (RowEnd h₀ env.locals x y m₀ I oI news (g ((ns.take i).foldl g a₀) n) { s with heap := h, toks := tk }) E { s with heap := h, toks := tk })
    (done : ∀ (u : Option Value) r us k h tk, IntsAre us (ns.foldl g a₀) → us.length ≤ bd → Fr h₀ env.locals h (fun z => if z = x then u else if z = y then some (.ref r) else m₀ z) →
      News h₀ env.locals h ((r, listOf (List.toArray us) k) :: news) → Q .next { s with heap := h, toks := tk }) :
    wpAny (model prog w) A (pyIter (.ref l)) (fun it s₂ => LoopAtV prog w A h₀ env x body Q E it s₂) E s := by
  have hol : s.heap.get? l = some (listOf vs.toArray nn) := (N _ hl).1
  have hls : s.heap.IsList l vs.toArray := ⟨_, hol, rfl, nn, rfl⟩
  have hne : l ≠ s.heap.objs.size := Nat.ne_of_lt (Heap.lt_size hol)
  refine wpAny_pyIter_list hls ?_
  have W := Walks.list (prog := prog) (w := w) hh s.heap.objs.size l hne vs.toArray
  have hlen : vs.toArray.size = ns.length := by simp [hi.length]
  rw [hlen] at W
  have hoffI : ∀ p ∈ news, p.1 ≠ s.heap.objs.size := fun p hp => Nat.ne_of_lt (Heap.lt_size (N p hp).1)
  let J : Nat → (Str → Option Value) → List (Addr × Obj) → Prop := fun i m nx => ∃ r us k, nx = (r, listOf (List.toArray us) k) :: news ∧ IntsAre us ((ns.take i).foldl g a₀) ∧ m y = some (.ref r) ∧ ∀ z, z ≠ x → z ≠ y → m z = m₀ z
  refine ⟨_, _, _, ns.length, _, _, m₀, (r₀, listOf (List.toArray us₀) k₀) :: news, J, rfl, W, ?_, ?_, ?_, ⟨⟨_, Heap.get?_push_size _ rfl, rfl, rfl⟩, hls.at fun o e => Heap.get?_push_of_some _ e⟩, F.push _, (fun p hp => ?_), ⟨r₀, us₀, k₀, rfl, by simpa using hu, hy, fun _ _ _ => rfl⟩, ?_, ?_⟩
  · intro hm
    rcases List.mem_cons.mp hm with e | hm
    · exact absurd F.ns.lt (e ▸ Nat.lt_irrefl _)
    · exact (N _ hl).2.1 ((List.mem_singleton.mp hm).symm)
  · intro b hb
    rw [List.mem_singleton.mp hb]
    exact next_is_new F
  · intro p hp hI
    rcases List.mem_cons.mp hp with rfl | hp
    · exact hoffI _ hr (List.mem_singleton.mp hI)
    · exact hoffI _ hp (List.mem_singleton.mp hI)
  · rcases List.mem_cons.mp hp with rfl | hp
    · exact ⟨Heap.get?_push_of_some _ (N _ hr).1, (N _ hr).2⟩
    · exact ⟨Heap.get?_push_of_some _ (N p hp).1, (N p hp).2⟩
  · rintro i v m₁ news₁ s₁ own ⟨hh', tk', rfl⟩ hin hP ⟨r, us, k, rfl, hus, hmy, hmz⟩ hoff hown hget hfp hst F₁ N₁
    have hlt' : i < ns.length := hin
    obtain ⟨t, hx⟩ := hi.get i ns[i] (by simp [hlt'])
    have hv : v = .int ns[i] t := by
      have hP' : vs[i]? = some v := by simpa using hP
      rw [hx] at hP'; exact (Option.some.inj hP').symm
    subst hv
    obtain ⟨⟨oI, hoI, _⟩, _⟩ := hst
    have hIo : (s.heap.objs.size, oI) ∈ own := hfp _ (by simp) (next_is_new F) oI hoI
    have hmap : (fun z => if z = x then some (Value.int ns[i] t) else m₁ z) = fun z => if z = x then some (Value.int ns[i] t) else if z = y then some (.ref r) else m₀ z := by
      funext z
      by_cases h1 : z = x
      · rw [if_pos h1, if_pos h1]
      · rw [if_neg h1, if_neg h1]
        by_cases h2 : z = y
        · rw [if_pos h2, h2]; exact hmy
        · rw [if_neg h2]; exact hmz z h1 h2
    rw [hmap] at F₁
    have N₂ : News h₀ env.locals hh' ((r, listOf (List.toArray us) k) :: (s.heap.objs.size, oI) :: news) := fun p hp => by
      rcases List.mem_cons.mp hp with rfl | hp
      · exact N₁ _ (List.mem_append_right _ (List.mem_cons_self))
      · rcases List.mem_cons.mp hp with rfl | hp
        · exact N₁ _ (List.mem_append_left _ hIo)
        · exact N₁ _ (List.mem_append_right _ (List.mem_cons_of_mem _ hp))
    have hs : (ns.take (i + 1)).foldl g a₀ = g ((ns.take i).foldl g a₀) ns[i] := by
      rw [List.take_add_one, List.getElem?_eq_getElem hlt', Option.toList_some, List.foldl_append]; rfl
    refine wpAny_mono (turn i ns[i] t r us k _ oI hh' tk' (by simp [hlt']) (List.getElem_mem _) hus (by rw [hus.length]; exact hbd i (Nat.le_of_lt hlt')) F₁ N₂) (fun f s₂ p => ?_) fun _ _ e => e
    obtain ⟨rfl, h', tk2, m', r', us', k', rfl, F', hy', hm', N', hrI, hus'⟩ := p
    refine .next ⟨rfl, h', tk2, m', (r', listOf (List.toArray us') k') :: news, rfl, F', fun p hp => ?_, fun p hp hI => ?_, r', us', k', rfl, by rw [hs]; exact hus', hy', hm'⟩
    · rcases List.mem_append.mp hp with h | h
      · rcases List.mem_cons.mp (hown p h) with e1 | e1
        · have e2 := hget p h
          rw [e1] at e2
          have e3 : p = (s.heap.objs.size, oI) := Prod.ext e1 (Option.some.inj (e2.symm.trans hoI))
          rw [e3]
          exact N' _ (List.mem_cons_of_mem _ List.mem_cons_self)
        · have e4 := List.mem_singleton.mp e1
          have e2 := hget p h
          have hlo : hh'.get? l = some (listOf vs.toArray nn) := (N₂ _ (List.mem_cons_of_mem _ (List.mem_cons_of_mem _ hl))).1
          rw [e4] at e2
          have e3 : p = (l, listOf vs.toArray nn) := Prod.ext e4 (Option.some.inj (e2.symm.trans hlo))
          rw [e3]
          exact N' _ (List.mem_cons_of_mem _ (List.mem_cons_of_mem _ hl))
      · rcases List.mem_cons.mp h with rfl | h
        · exact N' _ List.mem_cons_self
        · exact N' _ (List.mem_cons_of_mem _ (List.mem_cons_of_mem _ h))
    · have hI' := List.mem_singleton.mp hI
      rcases List.mem_cons.mp hp with rfl | hp
      · exact absurd hrI (by show ¬ @LT.lt Nat _ _ _; rw [show r' = s.heap.objs.size from hI']; exact Nat.lt_irrefl _)
      · exact hoffI _ hp hI'
  · rintro h' tk m' news' F' N' _ ⟨r, us, k, rfl, hus, hmy, hmz⟩
    have hle : us.length ≤ bd := by rw [hus.length]; exact hbd _ (Nat.le_refl _)
    rw [List.take_length] at hus
    refine done (m' x) r us k h' tk hus hle ?_ N'
    have hmap : (fun z => if z = x then m' x else if z = y then some (Value.ref r) else m₀ z) = m' := by
      funext z
      by_cases h1 : z = x
      · rw [if_pos h1, h1]
      · rw [if_neg h1]
        by_cases h2 : z = y
        · rw [if_pos h2, h2]; exact hmy.symm
        · rw [if_neg h2]; exact (hmz z h1 h2).symm
    rw [hmap]; exact F'
end
end Mine
end

section
/-! part P -/
namespace Mine
/-! the plain arithmetic of the one's complement sum -/
def caa (a b : Int) : Int := (a + b) % 65536 + (a + b) / 65536
theorem caa_eq (x y : Int) : caa x y = Builtin.bitAnd (x + y) 65535 + (x + y).fdiv (2 ^ Int.toNat 16) := by
  rw [bitAnd_m16, caa, show (2:Int) ^ Int.toNat 16 = 65536 from rfl, Int.fdiv_eq_ediv_of_nonneg _ (by omega)]
def nrm (S : Int) : Int := if 0 < S then (S - 1) % 65535 + 1 else 0
theorem nrm_pos {S : Int} (h : 0 < S) : nrm S = (S - 1) % 65535 + 1 := if_pos h
theorem nrm_zero {S : Int} (h : ¬ 0 < S) : nrm S = 0 := if_neg h
theorem nrm_rng (S : Int) : 0 ≤ nrm S ∧ nrm S ≤ 65535 := by unfold nrm; split <;> omega
theorem caa_nrm {a b : Int} (h0 : 0 ≤ a) (h1 : a ≤ 65535) (h2 : 0 ≤ b) (h3 : b ≤ 65535) : caa a b = nrm (a + b) := by
  unfold caa nrm; split <;> omega
def wordsLE (ns : List Int) : List Int := List.zipWith (fun x y : Int => x + 256 * y) (ev ns) (od ns)
def ckEnd (S : Int) : Int :=
  let v := Builtin.bitAnd (Builtin.bitNot (Builtin.bitAnd S 65535 + S.fdiv (2 ^ Int.toNat 16) + (Builtin.bitAnd S 65535 + S.fdiv (2 ^ Int.toNat 16)).fdiv (2 ^ Int.toNat 16))) 65535
  (0 * 256 + v % 256) * 256 + v / 256 % 256
def pad (ns : List Int) : List Int := if (ns.length : Int).fmod 2 = 0 then ns else ns ++ [0]
def cks (ns : List Int) : Int := ckEnd (wordsLE (pad ns)).sum
theorem pad_even {ns : List Int} (h : (ns.length : Int).fmod 2 = 0) : pad ns = ns := if_pos h
theorem pad_odd {ns : List Int} (h : (ns.length : Int).fmod 2 ≠ 0) : pad ns = ns ++ [0] := if_neg h
theorem ckEnd_flat (S : Int) : ckEnd S = ((-(S % 65536 + S / 65536 + (S % 65536 + S / 65536) / 65536) - 1) % 65536 % 256) * 256 + (-(S % 65536 + S / 65536 + (S % 65536 + S / 65536) / 65536) - 1) % 65536 / 256 % 256 := by
  unfold ckEnd
  simp only [bitAnd_m16, show (2:Int) ^ Int.toNat 16 = 65536 from rfl]
  rw [Int.fdiv_eq_ediv_of_nonneg _ (by omega), Int.fdiv_eq_ediv_of_nonneg _ (by omega)]
  simp only [Builtin.bitNot]
  omega
/-- the octets of a row, in pairs, high octet first -/
def sumBE (ns : List Int) : Int := (List.zipWith (fun x y : Int => 256 * x + y) (ev ns) (od ns)).sum
theorem fold_lt {S : Int} (hS : 0 < S) (hS1 : S ≤ 4000000) : (-(S % 65536 + S / 65536 + (S % 65536 + S / 65536) / 65536) - 1) % 65536 = 65535 - ((S - 1) % 65535 + 1) := by
  obtain ⟨f, g, e, f0, f1⟩ : ∃ f g : Int, S = 65536 * g + f ∧ 0 ≤ f ∧ f < 65536 := ⟨S % 65536, S / 65536, by omega, by omega, by omega⟩
  have e1 : S % 65536 = f := by omega
  have e2 : S / 65536 = g := by omega
  rw [e1, e2]
  have g0 : 0 ≤ g ∧ g ≤ 62 := by omega
  by_cases h : f + g < 65536
  · have h1 : (f + g) / 65536 = 0 := by omega
    have h2 : (S - 1) % 65535 = f + g - 1 := by omega
    rw [h1, h2]
    omega
  · have h1 : (f + g) / 65536 = 1 := by omega
    have h2 : (S - 1) % 65535 = f + g - 65536 := by omega
    rw [h1, h2]
    omega
theorem swap_of {x y j : Int} (x0 : 1 ≤ x) (x1 : x ≤ 65535) (y0 : 1 ≤ y) (y1 : y ≤ 65535) (h : 256 * x = y + 65535 * j) : (65535 - x) % 256 * 256 + (65535 - x) / 256 % 256 = 65535 - y := by
  obtain ⟨u, v, e, v0, v1⟩ : ∃ u v : Int, 65535 - x = 256 * u + v ∧ 0 ≤ v ∧ v < 256 := ⟨(65535 - x) / 256, (65535 - x) % 256, by omega, by omega, by omega⟩
  have e1 : (65535 - x) % 256 = v := by omega
  have e2 : (65535 - x) / 256 = u := by omega
  have u0 : 0 ≤ u ∧ u ≤ 255 := by omega
  rw [e1, e2, show u % 256 = u by omega]
  have k : v * 256 + u + y = 65535 * (256 - j - u) := by omega
  omega
theorem end_of {S B H : Int} (hS : 0 ≤ S) (hS1 : S ≤ 4000000) (hB : 0 ≤ B) (hSB : S = 256 * B - 65535 * H) (hz : S = 0 → B = 0) (hz' : B = 0 → S = 0) : ckEnd S = 65535 - nrm B := by
  rw [ckEnd_flat]
  by_cases h : 0 < B
  · rw [nrm_pos h]
    have hS2 : 0 < S := by
      rcases Int.lt_or_eq_of_le hS with h1 | h1
      · exact h1
      · exact absurd (hz h1.symm) (by omega)
    rw [fold_lt hS2 hS1]
    generalize hx : (S - 1) % 65535 + 1 = x
    generalize hy : (B - 1) % 65535 + 1 = y
    have x0 : 1 ≤ x ∧ x ≤ 65535 := by omega
    have y0 : 1 ≤ y ∧ y ≤ 65535 := by omega
    obtain ⟨q, hq⟩ : ∃ q, S = 65535 * q + x := ⟨(S - 1) / 65535, by omega⟩
    obtain ⟨r, hr⟩ : ∃ r, B = 65535 * r + y := ⟨(B - 1) / 65535, by omega⟩
    exact swap_of x0.1 x0.2 y0.1 y0.2 (j := 65536 * r + y - 256 * H - 256 * q) (by omega)
  · have hB0 : B = 0 := by omega
    rw [nrm_zero h, hz' hB0]
    decide
def Oct (ns : List Int) : Prop := ∀ n ∈ ns, 0 ≤ n ∧ n < 256
theorem pairs_fact : ∀ ns : List Int, Oct ns → ∃ H : Int, (wordsLE ns).sum = 256 * sumBE ns - 65535 * H ∧ 0 ≤ (wordsLE ns).sum ∧ (wordsLE ns).sum ≤ 65535 * (ns.length : Int) ∧ 0 ≤ sumBE ns ∧ ((wordsLE ns).sum = 0 ↔ sumBE ns = 0)
  | [], _ => ⟨0, by simp [wordsLE, sumBE, ev, od]⟩
  | [a], _ => ⟨0, by simp [wordsLE, sumBE, ev, od]⟩
  | a :: b :: r, h => by
    obtain ⟨H, h1, h2, h3, h4, h5⟩ := pairs_fact r fun n hn => h n (List.mem_cons_of_mem _ (List.mem_cons_of_mem _ hn))
    have ha := h a List.mem_cons_self
    have hb := h b (List.mem_cons_of_mem _ List.mem_cons_self)
    have e1 : (wordsLE (a :: b :: r)).sum = (a + 256 * b) + (wordsLE r).sum := by simp [wordsLE, ev, od]
    have e2 : sumBE (a :: b :: r) = (256 * a + b) + sumBE r := by simp [sumBE, ev, od]
    have e3 : ((a :: b :: r).length : Int) = (r.length : Int) + 2 := by simp only [List.length_cons]; omega
    rw [e1, e2, e3]
    generalize (wordsLE r).sum = S at *
    generalize sumBE r = B at *
    refine ⟨H + a, by omega, by omega, by omega, by omega, ?_⟩
    constructor
    · intro q
      have : S = 0 := by omega
      have := h5.1 this
      omega
    · intro q
      have : B = 0 := by omega
      have := h5.2 this
      omega
theorem pad_oct {ns : List Int} (h : Oct ns) : Oct (pad ns) := by
  unfold pad
  split
  · exact h
  · intro n hn
    rcases List.mem_append.mp hn with hn | hn
    · exact h n hn
    · rw [List.mem_singleton.mp hn]; omega
theorem pad_len (ns : List Int) : (pad ns).length ≤ ns.length + 1 := by
  unfold pad
  split
  · omega
  · simp
/-- the checksum of octets -/
theorem cks_is {ns : List Int} (h : Oct ns) (hl : ns.length ≤ 60) : cks ns = 65535 - nrm (sumBE (pad ns)) := by
  obtain ⟨H, h1, h2, h3, h4, h5⟩ := pairs_fact _ (pad_oct h)
  have hl2 := pad_len ns
  exact end_of h2 (by omega) h4 h1 h5.1 h5.2
def octs (ns : List Int) : List Int := ns.foldl (fun a n => a ++ [n.fdiv 256, n.fmod 256]) []
def Wd (ws : List Int) : Prop := ∀ w ∈ ws, 0 ≤ w ∧ w < 65536
theorem octs_acc : ∀ (ns a : List Int), ns.foldl (fun a n => a ++ [n.fdiv 256, n.fmod 256]) a = a ++ octs ns
  | [], a => by simp [octs]
  | n :: r, a => by
    unfold octs
    rw [List.foldl_cons, List.foldl_cons, octs_acc r, octs_acc r ([] ++ _)]
    simp
theorem octs_cons (n : Int) (r : List Int) : octs (n :: r) = n / 256 :: n % 256 :: octs r := by
  show (n :: r).foldl _ [] = _
  rw [List.foldl_cons, octs_acc, Int.fdiv_eq_ediv_of_nonneg _ (by omega), Int.fmod_eq_emod_of_nonneg _ (by omega)]
  rfl
theorem octs_length : ∀ ns : List Int, (octs ns).length = 2 * ns.length
  | [] => rfl
  | n :: r => by rw [octs_cons, List.length_cons, List.length_cons, octs_length r, List.length_cons]; omega
theorem octs_oct : ∀ {ws : List Int}, Wd ws → Oct (octs ws)
  | [], _ => fun _ h => nomatch h
  | w :: r, h => by
    have hw := h w List.mem_cons_self
    rw [octs_cons]
    intro n hn
    rcases List.mem_cons.mp hn with rfl | hn
    · omega
    · rcases List.mem_cons.mp hn with rfl | hn
      · omega
      · exact octs_oct (fun v hv => h v (List.mem_cons_of_mem _ hv)) n hn
theorem octs_sum : ∀ {ws : List Int}, Wd ws → sumBE (octs ws) = ws.sum
  | [], _ => rfl
  | w :: r, h => by
    have hw := h w List.mem_cons_self
    have ih := octs_sum fun v hv => h v (List.mem_cons_of_mem _ hv)
    rw [octs_cons, List.sum_cons, ← ih]
    have e2 : sumBE (w / 256 :: w % 256 :: octs r) = (256 * (w / 256) + w % 256) + sumBE (octs r) := by simp [sumBE, ev, od]
    rw [e2]
    omega
theorem pad_octs (ws : List Int) : pad (octs ws) = octs ws := pad_even (by rw [octs_length, Int.fmod_eq_emod_of_nonneg _ (by omega)]; omega)
theorem lsum_is {ws : List Int} (h : Wd ws) (hl : ws.length ≤ 30) : 65535 - cks (octs ws) = nrm ws.sum := by
  rw [cks_is (octs_oct h) (by rw [octs_length]; omega), pad_octs, octs_sum h]
  omega
end Mine
end

section
/-! part P1 -/
namespace Mine
theorem nrm_add {T R : Int} (hT : 0 ≤ T) (hR : 0 ≤ R) : nrm (nrm T + R) = nrm (T + R) := by
  unfold nrm
  split <;> split <;> split <;> omega
theorem sum_nonneg : ∀ {ws : List Int}, Wd ws → 0 ≤ ws.sum
  | [], _ => by simp
  | w :: r, h => by
    have := h w List.mem_cons_self
    have := sum_nonneg fun v hv => h v (List.mem_cons_of_mem _ hv)
    rw [List.sum_cons]; omega
theorem wd_split {ws : List Int} {k : Nat} (hk : k + 1 < ws.length) : ∃ p a b q, ws = p ++ a :: b :: q ∧ p.length = k := by
  refine ⟨ws.take k, ws[k], ws[k + 1], ws.drop (k + 2), ?_, by rw [List.length_take]; omega⟩
  rw [List.getElem_cons_drop hk, List.getElem_cons_drop (by omega), List.take_append_drop]
theorem nest_step {ws : List Int} {k : Int} (h : Wd ws) (k0 : 0 ≤ k) (k1 : k < (ws.length : Int) - 1) :
    Wd (ws.take k.toNat ++ [caa (ws.getD k.toNat 0) (ws.getD (k + 1).toNat 0)] ++ ws.drop (k + 2).toNat) ∧ 1 ≤ (ws.take k.toNat ++ [caa (ws.getD k.toNat 0) (ws.getD (k + 1).toNat 0)] ++ ws.drop (k + 2).toNat).length ∧
    (ws.take k.toNat ++ [caa (ws.getD k.toNat 0) (ws.getD (k + 1).toNat 0)] ++ ws.drop (k + 2).toNat).length < ws.length ∧ nrm (ws.take k.toNat ++ [caa (ws.getD k.toNat 0) (ws.getD (k + 1).toNat 0)] ++ ws.drop (k + 2).toNat).sum = nrm ws.sum := by
  obtain ⟨n, rfl⟩ : ∃ n : Nat, k = (n : Int) := ⟨k.toNat, by omega⟩
  rw [show ((n : Int) + 1).toNat = n + 1 by omega, show ((n : Int) + 2).toNat = n + 2 by omega, show ((n : Int)).toNat = n by omega]
  obtain ⟨p, a, b, q, rfl, rfl⟩ := wd_split (ws := ws) (k := n) (by omega)
  have e1 : (p ++ a :: b :: q).take p.length = p := by simp
  have e2 : (p ++ a :: b :: q).getD p.length 0 = a := by simp [List.getD]
  have e3 : (p ++ a :: b :: q).getD (p.length + 1) 0 = b := by simp [List.getD]
  have e4 : (p ++ a :: b :: q).drop (p.length + 2) = q := by simp
  rw [e1, e2, e3, e4]
  have ha := h a (by simp)
  have hb := h b (by simp)
  have hp : Wd p := fun v hv => h v (by simp [hv])
  have hq : Wd q := fun v hv => h v (by simp [hv])
  rw [caa_nrm ha.1 (by omega) hb.1 (by omega)]
  have hn := nrm_rng (a + b)
  refine ⟨fun v hv => ?_, ?_, ?_, ?_⟩
  · rcases List.mem_append.mp hv with hv | hv
    · rcases List.mem_append.mp hv with hv | hv
      · exact hp v hv
      · rw [List.mem_singleton.mp hv]; omega
    · exact hq v hv
  · simp; omega
  · simp
  · have s1 := sum_nonneg hp
    have s2 := sum_nonneg hq
    rw [show (p ++ [nrm (a + b)] ++ q).sum = nrm (a + b) + (p.sum + q.sum) by simp; omega, nrm_add (by omega) (by omega)]
    congr 1
    simp; omega
theorem nest_end {ws : List Int} (h : Wd ws) (h1 : 1 ≤ ws.length) (h2 : ¬ (1 : Int) < (ws.length : Int)) {T : Int} (hT : nrm ws.sum = T) : ws.getD (Int.toNat 0) 0 = T := by
  match ws, h1, h2 with
  | [x], _, _ =>
    have := h x (by simp)
    rw [← hT]
    show x = nrm (x + 0)
    unfold nrm
    split <;> omega
  | _ :: _ :: _, _, h2 => exact absurd h2 (by simp; omega)
end Mine
end

section
/-! part P3 -/
namespace Mine
/-- the octets' weights: true where a high octet comes first -/
def WB : Bool → List Int → Int
  | _, [] => 0
  | true, x :: r => 256 * x + WB false r
  | false, x :: r => x + WB true r
theorem pad_two (a b : Int) (r : List Int) : pad (a :: b :: r) = a :: b :: pad r := by
  have e : ((a :: b :: r).length : Int).fmod 2 = (r.length : Int).fmod 2 := by
    rw [Int.fmod_eq_emod_of_nonneg _ (by omega), Int.fmod_eq_emod_of_nonneg _ (by omega)]
    simp only [List.length_cons]; omega
  unfold pad
  rw [e]
  split <;> rfl
theorem sumBE_two (a b : Int) (r : List Int) : sumBE (a :: b :: r) = 256 * a + b + sumBE r := by simp [sumBE, ev, od]
theorem sumBE_wb : ∀ X : List Int, sumBE (pad X) = WB true X
  | [] => by rfl
  | [a] => by
    rw [pad_odd (by rw [Int.fmod_eq_emod_of_nonneg _ (by omega), List.length_singleton]; decide)]
    show sumBE (a :: 0 :: []) = _
    rw [sumBE_two]
    show 256 * a + 0 + 0 = 256 * a + 0
    omega
  | a :: b :: r => by
    rw [pad_two, sumBE_two, sumBE_wb r]
    show _ = 256 * a + (b + WB true r)
    omega
theorem cks_wb {X : List Int} (h : Oct X) (hl : X.length ≤ 60) : cks X = 65535 - nrm (WB true X) := by rw [cks_is h hl, sumBE_wb]
def flip (c : Bool) (n : Nat) : Bool := if n % 2 = 0 then c else !c
theorem wb_app : ∀ (A B : List Int) (c : Bool), WB c (A ++ B) = WB c A + WB (flip c A.length) B
  | [], B, c => by show WB c B = WB c [] + WB c B; cases c <;> simp [WB]
  | x :: r, B, c => by
    have e : flip c (x :: r).length = flip (!c) r.length := by
      unfold flip
      rw [List.length_cons]
      by_cases h : r.length % 2 = 0
      · rw [if_neg (by omega), if_pos h]
      · rw [if_pos (by omega), if_neg h]; cases c <;> rfl
    rw [e]
    have ih := wb_app r B (!c)
    cases c with
    | true =>
      show 256 * x + WB false (r ++ B) = 256 * x + WB false r + _
      rw [show (!true) = false from rfl] at ih
      rw [ih]
      show _ = 256 * x + WB false r + WB (flip false r.length) B
      omega
    | false =>
      show x + WB true (r ++ B) = x + WB true r + _
      rw [show (!false) = true from rfl] at ih
      rw [ih]
      show _ = x + WB true r + WB (flip true r.length) B
      omega
theorem wb_swap : ∀ X : List Int, Oct X → (∃ H, WB false X = 256 * WB true X - 65535 * H) ∧ (∃ H, WB true X = 256 * WB false X - 65535 * H) ∧ 0 ≤ WB true X ∧ 0 ≤ WB false X ∧ (WB true X = 0 ↔ WB false X = 0)
  | [], _ => ⟨⟨0, by simp [WB]⟩, ⟨0, by simp [WB]⟩, by simp [WB], by simp [WB], by simp [WB]⟩
  | x :: r, h => by
    obtain ⟨⟨H0, h0⟩, ⟨H1, h1⟩, h2, h3, h4⟩ := wb_swap r fun n hn => h n (List.mem_cons_of_mem _ hn)
    have hx := h x List.mem_cons_self
    have e1 : WB true (x :: r) = 256 * x + WB false r := rfl
    have e2 : WB false (x :: r) = x + WB true r := rfl
    rw [e1, e2]
    generalize WB true r = T at *
    generalize WB false r = U at *
    refine ⟨⟨x + H1, by omega⟩, ⟨H0, by omega⟩, by omega, by omega, ?_⟩
    constructor
    · intro q
      have : U = 0 := by omega
      have := h4.2 this
      omega
    · intro q
      have : T = 0 := by omega
      have := h4.1 this
      omega
def over (w : Int) : Int := w.fmod 256 * 256 + w.fdiv 256
theorem over_eq (w : Int) : over w = w % 256 * 256 + w / 256 := by
  unfold over
  rw [Int.fmod_eq_emod_of_nonneg _ (by omega), Int.fdiv_eq_ediv_of_nonneg _ (by omega)]
theorem over_nrm {S S' H : Int} (h : S' = 256 * S - 65535 * H) (h0 : 0 ≤ S) (h1 : 0 ≤ S') (hz : S = 0 ↔ S' = 0) : over (nrm S) = nrm S' := by
  rw [over_eq]
  by_cases hS : 0 < S
  · have hS' : 0 < S' := by
      rcases Int.lt_or_eq_of_le h1 with q | q
      · exact q
      · exact absurd (hz.2 q.symm) (by omega)
    rw [nrm_pos hS, nrm_pos hS']
    generalize hx : (S - 1) % 65535 + 1 = x
    generalize hy : (S' - 1) % 65535 + 1 = y
    have x0 : 1 ≤ x ∧ x ≤ 65535 := by omega
    have y0 : 1 ≤ y ∧ y ≤ 65535 := by omega
    obtain ⟨q, hq⟩ : ∃ q, S = 65535 * q + x := ⟨(S - 1) / 65535, by omega⟩
    obtain ⟨r, hr⟩ : ∃ r, S' = 65535 * r + y := ⟨(S' - 1) / 65535, by omega⟩
    obtain ⟨u, v, e, v0, v1⟩ : ∃ u v : Int, x = 256 * u + v ∧ 0 ≤ v ∧ v < 256 := ⟨x / 256, x % 256, by omega, by omega, by omega⟩
    have e1 : x % 256 = v := by omega
    have e2 : x / 256 = u := by omega
    rw [e1, e2]
    have k : v * 256 + u - y = 65535 * (r + H - 256 * q - u) := by omega
    omega
  · have : S = 0 := by omega
    have h' := hz.1 this
    rw [nrm_zero hS, nrm_zero (by omega)]
    rfl
theorem over_not {x : Int} (_ : 0 ≤ x) (_ : x ≤ 65535) : over (65535 - x) = 65535 - over x := by
  rw [over_eq, over_eq]; omega
theorem octs_app (a b : List Int) : octs (a ++ b) = octs a ++ octs b := by
  show (a ++ b).foldl _ [] = _
  rw [List.foldl_append, octs_acc]
  rfl
theorem f1 {ns : List Int} (h : Wd ns) (hl : ns.length ≤ 10) : cks (octs ns) = 65535 - nrm ns.sum := by
  have := lsum_is h (by omega)
  omega
theorem f2 {ns : List Int} (h : Wd ns) (hl : ns.length ≤ 10) : cks (octs ns ++ octs [cks (octs ns)]) = 0 := by
  rw [f1 h hl, ← octs_app]
  have hn := nrm_rng ns.sum
  have hs := sum_nonneg h
  have hw : Wd (ns ++ [65535 - nrm ns.sum]) := fun v hv => by
    rcases List.mem_append.mp hv with hv | hv
    · exact h v hv
    · rw [List.mem_singleton.mp hv]; omega
  have := lsum_is hw (by simp; omega)
  have e : (ns ++ [65535 - nrm ns.sum]).sum = ns.sum + (65535 - nrm ns.sum) := by simp
  rw [e] at this
  have key : nrm (ns.sum + (65535 - nrm ns.sum)) = 65535 := by
    unfold nrm
    split <;> split <;> omega
  omega
theorem over_sum : ∀ {ns : List Int}, Wd ns → (∃ H, (ns.map over).sum = 256 * ns.sum - 65535 * H) ∧ 0 ≤ (ns.map over).sum ∧ (ns.sum = 0 ↔ (ns.map over).sum = 0)
  | [], _ => ⟨⟨0, by simp⟩, by simp, by simp⟩
  | w :: r, h => by
    obtain ⟨⟨H, h0⟩, h1, h2⟩ := over_sum (ns := r) fun v hv => h v (List.mem_cons_of_mem _ hv)
    have hw := h w List.mem_cons_self
    have hs := sum_nonneg (ws := r) fun v hv => h v (List.mem_cons_of_mem _ hv)
    have e := over_eq w
    rw [List.map_cons, List.sum_cons, List.sum_cons]
    generalize over w = o at *
    generalize (r.map over).sum = T at *
    generalize r.sum = U at *
    refine ⟨⟨H + w / 256, by omega⟩, by omega, ?_⟩
    constructor
    · intro q
      have : U = 0 := by omega
      have := h2.1 this
      omega
    · intro q
      have : T = 0 := by omega
      have := h2.2 this
      omega
theorem f3 {ns : List Int} (h : Wd ns) (hl : ns.length ≤ 10) (hw : Wd (ns.map over)) : cks (octs (ns.map over)) = over (cks (octs ns)) := by
  rw [f1 h hl, f1 hw (by simpa using hl)]
  have hn := nrm_rng ns.sum
  obtain ⟨⟨H, h0⟩, h1, h2⟩ := over_sum h
  rw [over_not hn.1 hn.2, over_nrm h0 (sum_nonneg h) h1 h2]
theorem f4 {X : List Int} (h : Oct X) (hl : X.length ≤ 59) : cks X = cks (X ++ [0]) := by
  have h' : Oct (X ++ [0]) := fun n hn => by
    rcases List.mem_append.mp hn with hn | hn
    · exact h n hn
    · rw [List.mem_singleton.mp hn]; omega
  rw [cks_wb h (by omega), cks_wb h' (by simp; omega), wb_app]
  have : WB (flip true X.length) [0] = 0 := by
    cases flip true X.length <;> rfl
  rw [this, Int.add_zero]
theorem f5 {X : List Int} (h : Oct X) (hl : X.length ≤ 60) {p : Nat} (hp : p ≤ X.length) :
    (p % 2 = 0 → caa (65535 - cks (X.take p)) (65535 - cks (X.drop p)) = 65535 - cks X) ∧
    (p % 2 = 1 → caa (65535 - cks (X.take p)) (over (65535 - cks (X.drop p))) = 65535 - cks X) := by
  have hA : Oct (X.take p) := fun n hn => h n (List.mem_of_mem_take hn)
  have hB : Oct (X.drop p) := fun n hn => h n (List.mem_of_mem_drop hn)
  have e : WB true X = WB true (X.take p) + WB (flip true p) (X.drop p) := by
    have := wb_app (X.take p) (X.drop p) true
    rw [List.take_append_drop, List.length_take, Nat.min_eq_left hp] at this
    exact this
  rw [cks_wb h hl, cks_wb hA (by rw [List.length_take]; omega), cks_wb hB (by rw [List.length_drop]; omega), e]
  obtain ⟨_, _, a0, _, _⟩ := wb_swap _ hA
  obtain ⟨⟨H, b0⟩, _, b1, b2, b3⟩ := wb_swap _ hB
  have s1 : ∀ a : Int, 65535 - (65535 - a) = a := by intro a; omega
  rw [s1, s1, s1]
  have nA := nrm_rng (WB true (X.take p))
  constructor
  · intro hp0
    rw [show flip true p = true by unfold flip; rw [if_pos hp0]]
    have nB := nrm_rng (WB true (X.drop p))
    rw [caa_nrm nA.1 nA.2 nB.1 nB.2, nrm_add a0 nB.1, Int.add_comm, nrm_add b1 a0, Int.add_comm]
  · intro hp1
    rw [show flip true p = false by unfold flip; rw [if_neg (by omega)]; rfl]
    rw [over_nrm b0 b1 b2 b3]
    have nB := nrm_rng (WB false (X.drop p))
    rw [caa_nrm nA.1 nA.2 nB.1 nB.2, nrm_add a0 nB.1, Int.add_comm, nrm_add b2 a0, Int.add_comm]
end Mine
end

section
/-! part L8 -/
namespace Mine
open PySem.Calls PySem.Builtin PyProof.Rows.LCg
section
variable {prog : Program} {w : World} {A : Around} {E : Value → Shared → Prop} {s : Shared} {env : Env} {h₀ : Heap} {body : List Stmt} {Q : Flow → Shared → Prop}
/-- the end of a turn of the loop that lays an order -/
def OEnd (h₀ : Heap) (L : Addr) (d : Addr) (m₀ : Str → Option Value) (ws : List Int) (n : Int) (rest : List (Addr × Obj)) (s : Shared) (f : Flow) (s₂ : Shared) : Prop :=
  f = .next ∧ ∃ h' tk' m' us' ws' k' dr' td', s₂ = { s with heap := h', toks := tk' } ∧ Fr h₀ L h' m' ∧ News h₀ L h' ((d, listOf (List.toArray us') k') :: rest) ∧ IntsAre us' ws' ∧ ws'.Perm (n :: ws) ∧
    m' "draw" = some (.int dr' td') ∧ 0 ≤ dr' ∧ dr' ≤ 1000000 ∧ m' "row" = some (.ref d) ∧ (∀ z : Str, z ≠ "word" → z ≠ "draw" → z ≠ "row" → m' z = m₀ z)
theorem frame3 {m₁ m₀ : Str → Option Value} {a b c : Str} {u v₁ v₂ : Option Value} (h1 : m₁ b = v₁) (h2 : m₁ c = v₂) (h3 : ∀ z : Str, z ≠ a → z ≠ b → z ≠ c → m₁ z = m₀ z) :
    (fun y => if y = a then u else m₁ y) = (fun z : Str => if z = a then u else if z = b then v₁ else if z = c then v₂ else m₀ z) := by
  funext z
  by_cases q1 : z = a
  · rw [if_pos q1, if_pos q1]
  · rw [if_neg q1, if_neg q1]
    by_cases q2 : z = b
    · rw [if_pos q2, q2]; exact h1
    · rw [if_neg q2]
      by_cases q3 : z = c
      · rw [if_pos q3, q3]; exact h2
      · rw [if_neg q3]; exact h3 z q1 q2 q3
theorem iter_order {l d : Addr} {vs : List Value} {ns : List Int} {nn : Nat} {m₀ : Str → Option Value} {news : List (Addr × Obj)} {k₀ : Nat} {dr₀ : Int} {t₀ : Tok}
    (hh : A.handled = none) (hl : (l, listOf vs.toArray nn) ∈ news) (hi : IntsAre vs ns) (hlen : ns.length ≤ 10) (hdn : ∀ p ∈ news, p.1 ≠ d)
    (F : Fr h₀ env.locals s.heap m₀) (N : News h₀ env.locals s.heap ((d, listOf (List.toArray []) k₀) :: news)) (hr : m₀ "row" = some (.ref d)) (hk : m₀ "draw" = some (.int dr₀ t₀)) (b0 : 0 ≤ dr₀) (b1 : dr₀ ≤ 1000000)
    (turn : ∀ rest n tn us ws k dr td h tk, OwnOff rest [d] → us.length ≤ 9 → us.length = ws.length → ws.length ≤ 9 → IntsAre us ws → 0 ≤ dr → dr ≤ 1000000 →
      Fr h₀ env.locals h (fun z : Str => if z = "word" then some (.int n tn) else if z = "draw" then some (.int dr td) else if z = "row" then some (.ref d) else m₀ z) →
      News h₀ env.locals h ((d, listOf (List.toArray us) k) :: rest) →
      wpAny (model prog w) A (execs body env) (OEnd h₀ env.locals d m₀ ws n rest { s with heap := h, toks := tk }) E { s with heap := h, toks := tk })
    (done : ∀ (u : Option Value) us ws k dr td h tk, ws.Perm ns → IntsAre us ws → Fr h₀ env.locals h (fun z : Str => if z = "word" then u else if z = "draw" then some (.int dr td) else if z = "row" then some (.ref d) else m₀ z) →
      News h₀ env.locals h ((d, listOf (List.toArray us) k) :: news) → Q .next { s with heap := h, toks := tk }) :
    wpAny (model prog w) A (pyIter (.ref l)) (fun it s₂ => LoopAtV prog w A h₀ env (Str.ofString "word") body Q E it s₂) E s := by
  refine iter_invNL (news := (d, listOf (List.toArray []) k₀) :: news)
    (fun i m nx => ∃ us ws k dr td, nx = (d, listOf (List.toArray us) k) :: news ∧ IntsAre us ws ∧ ws.Perm (ns.take i) ∧ m "draw" = some (.int dr td) ∧ 0 ≤ dr ∧ dr ≤ 1000000 ∧ m "row" = some (.ref d) ∧ (∀ z : Str, z ≠ "word" → z ≠ "draw" → z ≠ "row" → m z = m₀ z))
    hh (List.mem_cons_of_mem _ hl) hi F N ⟨[], [], k₀, dr₀, t₀, rfl, .nil, by simp, hk, b0, b1, hr, fun _ _ _ _ => rfl⟩ ?_ ?_
  · rintro i n t m₁ news₁ h tk own hn _ hoff _ ⟨us, ws, k, dr, td, rfl, hI, hP, h1, c0, c1, h2, h3⟩ F₁ N₁
    have hil : i < ns.length := (List.getElem?_eq_some_iff.mp hn).1
    have hul : us.length ≤ 9 := by
      rw [hI.length, hP.length_eq, List.length_take]; omega
    rw [frame3 h1 h2 h3] at F₁
    have hoff' : OwnOff (news ++ own) [d] := by
      intro p hp b hb
      rw [List.mem_singleton.mp hb]
      rcases List.mem_append.mp hp with hp | hp
      · exact hdn p hp
      · exact hoff p hp d (by simp)
    refine wpAny_mono (turn (news ++ own) n t us ws k dr td h tk hoff' hul hI.length (hI.length ▸ hul) hI c0 c1 F₁ N₁) (fun f s₂ p => ?_) fun _ _ e => e
    obtain ⟨rfl, h', tk', m', us', ws', k', dr', td', rfl, F', N', hI', hP', g1, g2, g3, g4, g5⟩ := p
    have hs : ns.take (i + 1) = ns.take i ++ [n] := by rw [List.take_add_one, hn]; rfl
    exact ⟨h', tk', m', _, (d, listOf (List.toArray us') k') :: news, rfl, F', N', (fun p hp => by
      rcases List.mem_cons.mp hp with rfl | hp
      · exact List.mem_cons_self
      · exact List.mem_cons_of_mem _ (List.mem_append_left _ hp)), (fun p hp => List.mem_cons_of_mem _ (List.mem_append_right _ hp)), rfl, List.mem_cons_of_mem _ hl, us', ws', k', dr', td', rfl, hI', by
        rw [hs]
        exact hP'.trans ((List.Perm.cons n hP).trans (List.perm_append_comm (l₁ := [n]))), g1, g2, g3, g4, g5⟩
  · rintro m₁ nx h tk _ ⟨us, ws, k, dr, td, rfl, hI, hP, h1, c0, c1, h2, h3⟩ F₁ N₁
    rw [List.take_length] at hP
    refine done (m₁ "word") us ws k dr td h tk hP hI ?_ N₁
    rw [← frame3 h1 h2 h3]
    have : (fun y => if y = ("word" : Str) then m₁ "word" else m₁ y) = m₁ := by
      funext y
      by_cases q : y = ("word" : Str)
      · rw [if_pos q, q]
      · rw [if_neg q]
    rw [this]; exact F₁
end
section
variable {prog : Program} {w : World} {A : Around} {E : Value → Shared → Prop} {s : Shared} {h₀ : Heap} {L D : Addr} {m : Str → Option Value} {news rest : List (Addr × Obj)}
theorem kl_ins_ints {us : List Value} {ws : List Int} (hu : IntsAre us ws) (x n : Int) (t : Tok) : ∃ ws', IntsAre (kl_ins us x (.int n t)) ws' ∧ ws'.Perm (n :: ws) := by
  unfold kl_ins
  generalize (if x < 0 then (x + (us.length : Int)).toNat else min x.toNat us.length) = k
  refine ⟨ws.take k ++ n :: ws.drop k, (hu.take k).append (.cons n t (hu.drop k)), ?_⟩
  refine List.perm_middle.trans ?_
  rw [List.take_append_drop]
theorem my_insert {us : List Value} {ws : List Int} {k : Nat} {x n : Int} {u t : Tok} {Q : Value → Shared → Prop} (F : Fr h₀ L s.heap m) (N : News h₀ L s.heap ((D, listOf (List.toArray us) k) :: rest)) (hoff : OwnOff rest [D]) (x0 : 0 ≤ x) (x1 : x ≤ 1000) (hu : IntsAre us ws) (hl : us.length ≤ 9)
    (h : ∀ us' ws' k' h', IntsAre us' ws' → ws'.Perm (n :: ws) → Fr h₀ L h' m → News h₀ L h' ((D, listOf (List.toArray us') k') :: rest) → Q .none { s with heap := h' }) :
    wpAny (model prog w) A (call (.builtin "list.insert") [.ref D, .int x u, .int n t]) Q E s := by
  obtain ⟨ws', h1, h2⟩ := kl_ins_ints hu x n t
  refine kl_insert (l := kl_ins us x (.int n t)) F N ?_ rfl (.head fun p hp => hoff p hp D (by simp)) ?_ fun h' F' N' => h _ ws' _ h' h1 h2 F' N'
  · simp only [Builtin.List.listFitsIndex, Bool.and_eq_true, decide_eq_true_eq]; omega
  · rw [List.toList_toArray, sizeLine_eq]; omega
end
section
variable {prog : Program} {w : World} {A : Around} {E : Value → Shared → Prop} {s : Shared} {env : Env} {h₀ : Heap} {L : Addr} {Q : Flow → Shared → Prop}
/-- the end of a turn of the nest's loop -/
def NEnd (h₀ : Heap) (L : Addr) (m₀ : Str → Option Value) (T : Int) (n : Nat) (news : List (Addr × Obj)) (s : Shared) (f : Flow) (s₂ : Shared) : Prop :=
  f = .next ∧ ∃ h' tk' m' r us ws k dr td, s₂ = { s with heap := h', toks := tk' } ∧ Fr h₀ L h' m' ∧ News h₀ L h' ((r, listOf (List.toArray us) k) :: news) ∧ IntsAre us ws ∧ Wd ws ∧ 1 ≤ ws.length ∧ ws.length < n ∧ nrm ws.sum = T ∧
    m' "draw" = some (.int dr td) ∧ 0 ≤ dr ∧ dr ≤ 1000000 ∧ m' "row" = some (.ref r) ∧ (∀ z : Str, z ≠ "k" → z ≠ "draw" → z ≠ "row" → m' z = m₀ z)
theorem while_nest {test : Expr} {body : List Stmt} {pos : Pos} {m₀ : Str → Option Value} {news : List (Addr × Obj)} {r₀ : Addr} {us₀ : List Value} {ws₀ : List Int} {k₀ : Nat} {dr₀ : Int} {t₀ : Tok} {T : Int}
    (F : Fr h₀ L s.heap m₀) (N : News h₀ L s.heap ((r₀, listOf (List.toArray us₀) k₀) :: news)) (hr : m₀ "row" = some (.ref r₀)) (hk : m₀ "draw" = some (.int dr₀ t₀)) (b0 : 0 ≤ dr₀) (b1 : dr₀ ≤ 1000000)
    (hi : IntsAre us₀ ws₀) (hw : Wd ws₀) (h1 : 1 ≤ ws₀.length) (h2 : ws₀.length ≤ 10) (hT : nrm ws₀.sum = T)
    (turn : ∀ r us ws k dr td (u : Option Value) h tk, us.length ≤ 10 → us.length = ws.length → ws.length ≤ 10 → 1 ≤ ws.length → IntsAre us ws → Wd ws → 0 ≤ dr → dr ≤ 1000000 → nrm ws.sum = T →
      Fr h₀ L h (fun z : Str => if z = "k" then u else if z = "draw" then some (.int dr td) else if z = "row" then some (.ref r) else m₀ z) → News h₀ L h ((r, listOf (List.toArray us) k) :: news) →
      wpAny (model prog w) A (isTrue test env (eval test env)) (fun b s₂ =>
        if b = true then wpAny (model prog w) A (execs body env) (NEnd h₀ L m₀ T ws.length news s) E s₂ else Q .next s₂) E { s with heap := h, toks := tk })
    (hE : PassesOwn (model prog w) A env E := by passes_own) :
    wpAny (model prog w) A (exec (.While test body [] pos) env) Q E s := by
  refine While_inv2 (fun n m nx => ∃ r us ws k dr td, nx = (r, listOf (List.toArray us) k) :: news ∧ ws.length = n ∧ n ≤ 10 ∧ 1 ≤ ws.length ∧ IntsAre us ws ∧ Wd ws ∧ nrm ws.sum = T ∧ m "draw" = some (.int dr td) ∧ 0 ≤ dr ∧ dr ≤ 1000000 ∧ m "row" = some (.ref r) ∧ (∀ z : Str, z ≠ "k" → z ≠ "draw" → z ≠ "row" → m z = m₀ z))
    F N ⟨r₀, us₀, ws₀, k₀, dr₀, t₀, rfl, rfl, h2, h1, hi, hw, hT, hk, b0, b1, hr, fun _ _ _ _ => rfl⟩ ?_ hE
  rintro n m₁ nx h tk F₁ N₁ ⟨r, us, ws, k, dr, td, rfl, rfl, c0, c1, hI, hW, hT', g1, g2, g3, g4, g5⟩
  have e : (fun z : Str => if z = "k" then m₁ "k" else if z = "draw" then some (.int dr td) else if z = "row" then some (.ref r) else m₀ z) = m₁ := by
    rw [← frame3 (u := m₁ "k") g1 g4 g5]
    funext y
    by_cases q : y = ("k" : Str)
    · rw [if_pos q, q]
    · rw [if_neg q]
  refine wpAny_mono (turn r us ws k dr td (m₁ "k") h tk (by rw [hI.length]; exact c0) hI.length c0 c1 hI hW g2 g3 hT' (by rw [e]; exact F₁) N₁) (fun b s₂ p => ?_) fun _ _ x => x
  cases b with
  | false => simpa using p
  | true =>
    simp only [if_true] at p ⊢
    refine wpAny_mono p (fun f s₃ q => ?_) fun _ _ x => x
    obtain ⟨rfl, h', tk', m', r', us', ws', k', dr', td', rfl, F', N', hI', hW', d1, d2, d3, e1, e2, e3, e4, e5⟩ := q
    exact ⟨h', tk', m', _, ws'.length, rfl, F', N', d2, r', us', ws', k', dr', td', rfl, rfl, by omega, d1, hI', hW', d3, e1, e2, e3, e4, e5⟩
end
theorem fm0 (a : Int) (n : Nat) : 0 ≤ a.fmod ((n : Int) + 1) := by
  rw [Int.fmod_eq_emod_of_nonneg _ (by omega)]; exact Int.emod_nonneg _ (by omega)
theorem fm1 (a : Int) {n : Nat} (h : n ≤ 999) : a.fmod ((n : Int) + 1) ≤ 1000 := by
  rw [Int.fmod_eq_emod_of_nonneg _ (by omega)]
  have := Int.emod_lt_of_pos a (show 0 < (n : Int) + 1 by omega)
  omega
theorem draw3 {d : Int} (h0 : 0 ≤ d) (h1 : d ≤ 1000000) : 0 ≤ d.fdiv 3 + d.fmod 7 ∧ d.fdiv 3 + d.fmod 7 ≤ 1000000 := by
  rw [Int.fdiv_eq_ediv_of_nonneg _ (by omega), Int.fmod_eq_emod_of_nonneg _ (by omega)]; omega
theorem draw2 {d : Int} (h0 : 0 ≤ d) (h1 : d ≤ 1000000) : 0 ≤ d.fdiv 2 + d.fmod 11 ∧ d.fdiv 2 + d.fmod 11 ≤ 1000000 := by
  rw [Int.fdiv_eq_ediv_of_nonneg _ (by omega), Int.fmod_eq_emod_of_nonneg _ (by omega)]; omega
section
variable {prog : Program} {w : World} {A : Around} {E : Value → Shared → Prop} {s : Shared} {h₀ : Heap} {L a b : Addr} {m : Str → Option Value} {news : List (Addr × Obj)} {vs ws : List Value} {ns ms : List Int} {Q : Value → Shared → Prop}
theorem mod_gen {x y : Int} {t u : Tok} (hb : 0 < y) (h : ∀ k t tk, 0 ≤ k → k < y → Q (.int k t) { s with toks := tk }) : wpAny (model prog w) A (binaryOp .Mod (.int x t) (.int y u)) Q E s := by
  refine mod_int' (by omega) (h _ _ _ ?_ ?_)
  · rw [Int.fmod_eq_emod_of_nonneg _ (by omega)]; exact Int.emod_nonneg _ (by omega)
  · rw [Int.fmod_eq_emod_of_nonneg _ (by omega)]; exact Int.emod_lt_of_pos _ hb
theorem my_add2 (F : Fr h₀ L s.heap m) (N : News h₀ L s.heap news) (ha : s.heap.IsList a vs.toArray) (hb : s.heap.IsList b ws.toArray) (hi : IntsAre vs ns) (hj : IntsAre ws ms)
    (h : ∀ D us h', Fr h₀ L h' m → News h₀ L h' ((D, listOf (List.toArray us) 0) :: news) → (∀ p ∈ news, p.1 < D) → IntsAre us (ns ++ ms) → us.length = ns.length + ms.length → Q (.ref D) { s with heap := h' })
    (hz : ns.length + ms.length ≤ 16777216) : wpAny (model prog w) A (binaryOp .Add (.ref a) (.ref b)) Q E s :=
  kmk_add_ints F N ha hb hi hj (fun D us h' F' N' l1 hI => h D us h' F' N' l1 hI (by rw [hI.length, List.length_append])) (by rw [sizeLine_eq]; exact hz)
end
end Mine
end

section
/-! part L9 -/
namespace Mine
open PySem.Calls PySem.Builtin PyProof.Rows.LCg
section
variable {prog : Program} {w : World} {A : Around} {E : Value → Shared → Prop} {s : Shared} {env : Env} {h₀ : Heap} {body : List Stmt} {Q : Flow → Shared → Prop}
/-- the end of a turn of the loop that fills the row of words -/
def FEnd (h₀ : Heap) (L : Addr) (d : Addr) (m₀ : Str → Option Value) (ws : List Int) (rest : List (Addr × Obj)) (s : Shared) (f : Flow) (s₂ : Shared) : Prop :=
  f = .next ∧ ∃ h' tk' m' us' n k', s₂ = { s with heap := h', toks := tk' } ∧ Fr h₀ L h' m' ∧ News h₀ L h' ((d, listOf (List.toArray us') k') :: rest) ∧ IntsAre us' (ws ++ [n]) ∧ 0 ≤ n ∧ n < 65536 ∧
    (∀ z : Str, z ≠ "k" → z ≠ "draw" → m' z = m₀ z)
theorem frame2 {m₁ m₀ : Str → Option Value} {a b : Str} {u : Option Value} (h3 : ∀ z : Str, z ≠ a → z ≠ b → m₁ z = m₀ z) :
    (fun y => if y = a then u else m₁ y) = (fun z : Str => if z = a then u else if z = b then m₁ b else m₀ z) := by
  funext z
  by_cases q1 : z = a
  · rw [if_pos q1, if_pos q1]
  · rw [if_neg q1, if_neg q1]
    by_cases q2 : z = b
    · rw [if_pos q2, q2]
    · rw [if_neg q2]; exact h3 z q1 q2
theorem iter_fill {r c d : Addr} {b₀ : Int} {t₀ u₀ v₀ : Tok} {m₀ : Str → Option Value} {news : List (Addr × Obj)} {k₀ : Nat} {lo : Obj}
    (hh : A.handled = none) (hr : IsRange s.heap r 0 b₀ 1 t₀ u₀ v₀) (b1 : 1 ≤ b₀) (b2 : b₀ ≤ 10) (hc : (c, lo) ∈ news) (hdn : ∀ p ∈ news, p.1 ≠ d)
    (F : Fr h₀ env.locals s.heap m₀) (N : News h₀ env.locals s.heap ((d, listOf (List.toArray []) k₀) :: news))
    (turn : ∀ rest k t us ws kk (u : Option Value) h tk, 0 ≤ k → k < b₀ → OwnOff rest [d] → (c, lo) ∈ rest → @Ne Nat c d → us.length ≤ 9 → us.length = ws.length → ws.length ≤ 9 → IntsAre us ws →
      Fr h₀ env.locals h (fun z : Str => if z = "k" then some (.int k t) else if z = "draw" then u else m₀ z) → News h₀ env.locals h ((d, listOf (List.toArray us) kk) :: rest) →
      wpAny (model prog w) A (execs body env) (FEnd h₀ env.locals d m₀ ws rest { s with heap := h, toks := tk }) E { s with heap := h, toks := tk })
    (done : ∀ (u u2 : Option Value) us ws k h tk, us.length ≤ 10 → us.length = ws.length → ws.length ≤ 10 → 1 ≤ ws.length → IntsAre us ws → Wd ws → Fr h₀ env.locals h (fun z : Str => if z = "k" then u else if z = "draw" then u2 else m₀ z) →
      News h₀ env.locals h ((d, listOf (List.toArray us) k) :: news) → Q .next { s with heap := h, toks := tk }) :
    wpAny (model prog w) A (pyIter (.ref r)) (fun it s₂ => LoopAtV prog w A h₀ env (Str.ofString "k") body Q E it s₂) E s := by
  refine kst_range (σ := List Value × List Int × Nat) (fun c => (d, listOf (List.toArray c.1) c.2.2) :: news) (fun _ => []) (fun _ => True) [Str.ofString "draw"] (fun pre c => IntsAre c.1 c.2.1 ∧ Wd c.2.1 ∧ c.2.1.length = pre.length) ([], [], k₀)
    hh hr (small_one (by omega) (by omega) (by omega) (by omega)) (rangeSize_nat _ _) F N trivial (fun _ h => nomatch h) ⟨.nil, (fun _ h => nomatch h), rfl⟩ ?_ ?_
  · rintro ⟨us, ws, kk⟩ pre k t u h tk own hk hlt hoff _ ⟨hI, hW, hL⟩ F₁ N₁
    have hlt' : pre.length < b₀.toNat := by simpa using hlt
    dsimp only at hI hW hL N₁
    have e : (fun y => if y = Str.ofString "k" then some (Value.int k t) else kstB (fun z => if List.contains [Str.ofString "draw"] z then u z else m₀ z) [] y) =
        (fun z : Str => if z = "k" then some (.int k t) else if z = "draw" then u "draw" else m₀ z) := by
      funext z
      by_cases q1 : z = ("k" : Str)
      · rw [if_pos q1, if_pos q1]
      · rw [if_neg q1, if_neg q1]
        show (if List.contains [Str.ofString "draw"] z then u z else m₀ z) = _
        by_cases q2 : z = ("draw" : Str)
        · subst q2; rfl
        · rw [if_neg q2, if_neg]
          simp [q2]
    have F₂ : Fr h₀ env.locals h (fun z : Str => if z = "k" then some (.int k t) else if z = "draw" then u "draw" else m₀ z) := by
      rw [← e]; exact F₁
    have hoff' : OwnOff (news ++ own) [d] := by
      intro p hp b hb
      rw [List.mem_singleton.mp hb]
      rcases List.mem_append.mp hp with hp | hp
      · exact hdn p hp
      · exact hoff p hp d (by simp)
    refine wpAny_mono (turn (news ++ own) k t us ws kk (u "draw") h tk (by omega) (by omega) hoff' (List.mem_append_left _ hc) (hdn _ hc) (by rw [hI.length]; omega) hI.length (by omega) hI F₂ N₁) (fun f s₂ p => ?_) fun _ _ e => e
    obtain ⟨rfl, h', tk', m', us', n, k', rfl, F', N', hI', n0, n1, g5⟩ := p
    exact ⟨h', tk', m', _, (d, listOf (List.toArray us') k') :: news, rfl, F', N', (fun p hp => by
      rcases List.mem_cons.mp hp with rfl | hp
      · exact List.mem_cons_self
      · exact List.mem_cons_of_mem _ (List.mem_append_left _ hp)), (fun p hp => List.mem_cons_of_mem _ (List.mem_append_right _ hp)), rfl, (us', ws ++ [n], k'), rfl, trivial, (fun _ h => nomatch h), (fun z z1 _ z3 => g5 z z1 (by
        intro q; subst q; simp at z3)), hI', (fun v hv => by
        rcases List.mem_append.mp hv with hv | hv
        · exact hW v hv
        · rw [List.mem_singleton.mp hv]; exact ⟨n0, n1⟩), by simp [hL]⟩
  · rintro ⟨us, ws, kk⟩ u h tk _ ⟨hI, hW, hL⟩ F₁ N₁
    dsimp only at hI hW hL N₁
    rw [rangeKs_length] at hL
    refine done (u "k") (u "draw") us ws kk h tk (by rw [hI.length]; omega) hI.length (by omega) (by omega) hI hW ?_ N₁
    have e : (fun y => if y = Str.ofString "k" then u y else kstB (fun z => if List.contains [Str.ofString "draw"] z then u z else m₀ z) [] y) =
        (fun z : Str => if z = "k" then u "k" else if z = "draw" then u "draw" else m₀ z) := by
      funext z
      by_cases q1 : z = ("k" : Str)
      · subst q1; rfl
      · rw [if_neg q1, if_neg q1]
        show (if List.contains [Str.ofString "draw"] z then u z else m₀ z) = _
        by_cases q2 : z = ("draw" : Str)
        · subst q2; rfl
        · rw [if_neg q2, if_neg]
          simp [q2]
    rw [← e]; exact F₁
end
end Mine
end

section
/-! part B1 -/
namespace Mine
open_top hd for PySem.Challenge.rw_bs0023_01

def IntCall (w : World) (f : Addr) (vs : List Value) (news : List (Addr × Obj)) (r : Int) (dd du : Nat) : Prop :=
  ∀ {loose : List Str} {mean : ExcName → Option Value} {mg mb : Str → Option Value} {dp un : Nat} {gd : Option (List Code)} {cn : Str} {cs : Scope} {a : Addr} {ccd : Value} {cl : List (Str × Addr)} {outer : List Env} {A₀ : Around} {base h₀ : Heap} {L : Addr} {m : Str → Option Value} {s : Shared} {Q E : Value → Shared → Prop},
    Below A₀ base outer h₀ → Fr h₀ L s.heap m → (hd.heap_39 w.params).In h₀ → News h₀ L s.heap news → Top hd.view_39 loose mean mg mb h₀ → cs.kind = .function → dp + dd < recursionLimit → un + du < cLine →
    (∀ t h' tk', Fr h₀ L h' m → News h₀ L h' news → Q (.int r t) { s with heap := h', toks := tk' }) →
    wpAny (model PySem.Challenge.rw_bs0023_01.row.prog w) (ktrTop dp un gd cn cs L a ccd cl outer) (call (.ref f) vs) Q E s

theorem caa_call (w : World) (news : List (Addr × Obj)) (x y : Int) (tx ty : Tok) : IntCall w 21 [.int x tx, .int y ty] news (caa x y) 2 20 := by
  w_top off
  unfold IntCall
  intro loose mean mg mb dp un gd cn cs a ccd cl outer A₀ base h₀ L m s Q E B F X N T hk hd hu hret
  k_fill
  refine wpAny_call ?_
  k_dflt cell_enter
  k_steps
  all_goals (rw [caa_eq] at hret; exact hret _ _ _ (by assumption) (by assumption))
end Mine
end

section
/-! part C1 -/
namespace Mine
open PyProof.Rows.LCg
theorem bsize {b : Array UInt8} {ns : List Int} (h : KBw.bInts b = ns) (hl : ns.length ≤ 70) : b.size ≤ 70 := by rw [← KBw.ints_length, h]; exact hl
theorem ints_zip {ys : List Value} {b : Array UInt8} {ns : List Int} (h : KBw.bInts b = ns) (hy : IntsAre ys (List.zipWith (fun x y : Int => x + 256 * y) (KBw.bInts (pick2 b none)) (KBw.bInts (pick2 b (some 1))))) : IntsAre ys (wordsLE ns) := by
  rw [pick2_even, pick2_odd, h] at hy
  exact hy
theorem bInts_pad {b : Array UInt8} {ns : List Int} (h : KBw.bInts b = ns) : KBw.bInts (b ++ #[0]) = ns ++ [0] := KBw.ints_app h rfl
local macro_rules | `(tactic| walk_at "call type:bytes") => `(tactic| ((with_reducible show wpAny _ _ (call (Value.type "bytes") [Value.bytes _ _]) _ _ _); refine call_bytes_bytes ?_))
local macro_rules | `(tactic| walk_at "subscriptTail") => `(tactic| (k_here; (with_reducible show wpAny _ _ (subscriptTail _ (Expr.Slice none none (some _) _) (Value.bytes _ _) (Value.ref _)) _ _ _); (with_reducible rename Fr _ _ _ _ => F'); (with_reducible rename News _ _ _ _ => N'); k_dflt (refine slice2_N (s := ⟨_, _, _, _, _⟩) F' N' (by constructor) (pick2_small _ _ (.inl rfl) (Nat.le_trans (bsize (by assumption) (by assumption)) (by decide))) ?_); intro _ _ _ _ _))
local macro_rules | `(tactic| walk_at "subscriptTail") => `(tactic| (k_here; (with_reducible show wpAny _ _ (subscriptTail _ (Expr.Slice (some _) none (some _) _) (Value.bytes _ _) (Value.ref _)) _ _ _); (with_reducible rename Fr _ _ _ _ => F'); (with_reducible rename News _ _ _ _ => N'); k_dflt (refine slice2_N (s := ⟨_, _, _, _, _⟩) F' N' (by constructor) (pick2_small _ _ (.inr rfl) (Nat.le_trans (bsize (by assumption) (by assumption)) (by decide))) ?_); intro _ _ _ _ _))
local macro_rules | `(tactic| walk_at "inplaceOp Add bytes bytes") => `(tactic| ((refine iadd_bytes ?sz ?_); (case sz => exact Nat.le_trans (Nat.add_le_add (bsize (by assumption) (by assumption)) (Nat.le_refl 1)) (by decide)); intro _ _))
local macro_rules | `(tactic| walk_at "eval ListComp") => `(tactic| (k_here; k_dflt ((rename Fr _ _ _ _ => lF'); (refine zipB_ListComp (cl := []) (fun x y : Int => x + 256 * y) lF' ?a1 ?a2 ?a3 ?a4 ?a5 ?a6 ?a7 ?a8 ?_ ?a10); (case a1 => rfl); (case a2 => decide); (case a3 => rfl); (case a4 => decide); (case a5 => rfl); (case a6 => rfl); (case a7 => decide); (case a8 => exact (elt_pair (by rfl) (by rfl) (by rfl) (by decide) (by decide))); (case a10 => intro _; rfl))))
local macro_rules | `(tactic| walk_at "call type:zip") => `(tactic| (k_here; (with_reducible show wpAny _ _ (call (Value.type "zip") [Value.bytes _ _, Value.bytes _ _]) _ _ _); k_dflt ((rename Fr _ _ _ _ => lF'); (rename News _ _ _ _ => lN'); refine zipB_src lF' lN' (by rfl) ?sz ?_; (case sz => exact Nat.le_trans (Nat.min_le_left _ _) (by rw [sizeLine_eq]; exact pick2_small _ _ (.inl rfl) (Nat.le_trans (bsize (by assumption) (by assumption)) (by decide)))); intro D' h' tk' ys' F' N' l1 hI'; (replace hI' := ints_zip (by assumption) hI'))))
theorem and_lo (x : Int) : 0 ≤ Builtin.bitAnd x 65535 := (bitAnd_range x (by decide)).1
theorem and_hi (x : Int) : Builtin.bitAnd x 65535 < 65536 := Int.lt_of_le_of_lt (bitAnd_range x (by decide)).2 (by decide)
local macro_rules | `(tactic| walk_at "call builtin:int.to_bytes") => `(tactic| (k_here; (with_reducible show wpAny _ _ (call (Value.builtin "int.to_bytes") [Value.int _ _, Value.int _ _, Value.str _ _]) _ _ _); (with_unfolding_all refine KTBy.to_little (k := 2) (B := 65536) (by decide) (by decide) (and_lo _) (and_hi _) ?_); intro b' t' k' ktbIn ktbLen; (simp only [KTBy.little] at ktbIn ktbLen)))
theorem ck_call (w : World) (news : List (Addr × Obj)) (bs : Array UInt8) (tx : Tok) (ns : List Int) (hb : KBw.bInts bs = ns) (hlen : ns.length ≤ 69) : IntCall w 26 [.bytes bs tx] news (cks ns) 4 40 := by
  w_top off
  unfold IntCall
  k_fill
  intro loose mean mg mb dp un gd cn cs a ccd cl outer A₀ base h₀ L m s Q E B F X N T hk hd hu hret
  have hb1 := bInts_pad hb
  have hlen1 : (ns ++ [0]).length ≤ 70 := by simp; omega
  have hlen0 : ns.length ≤ 70 := by omega
  refine wpAny_call ?_
  k_dflt cell_enter
  repeat' (first | (k_unfold; (try dsimp only)) | walk1 | (dsimp only; walk1) | (leave1; walk_say "STEP leave1"; try dsimp only))
  all_goals (rename Fr _ _ _ _ => kF; rename News _ _ _ _ => kN)
  · (rename Int.fmod _ _ ≠ 0 => hodd)
    rw [cks, pad_odd hodd] at hret
    exact hret _ _ _ kF (fun p hp => kN p (List.Mem.tail _ (List.Mem.tail _ hp)))
  · (rename Int.fmod _ _ = 0 => heven)
    rw [cks, pad_even heven] at hret
    exact hret _ _ _ kF (fun p hp => kN p (List.Mem.tail _ (List.Mem.tail _ hp)))
end Mine
end

section
/-! part D1 -/
namespace Mine
open PyProof.Rows.LCg
theorem octs_len_take (ns : List Int) : ∀ (a : List Int), (ns.foldl (fun a n => a ++ [n.fdiv 256, n.fmod 256]) a).length = a.length + 2 * ns.length := by
  induction ns with
  | nil => intro a; simp
  | cons n r ih => intro a; rw [List.foldl_cons, ih]; simp; omega
theorem octs_bd {ns : List Int} (h : ns.length ≤ 30) : ∀ i, i ≤ ns.length → ((ns.take i).foldl (fun a n => a ++ [n.fdiv 256, n.fmod 256]) []).length ≤ 60 := by
  intro i hi
  rw [octs_len_take, List.length_take, List.length_nil]
  omega
theorem octs_in_aux : ∀ (ns a : List Int), (∀ n ∈ ns, 0 ≤ n ∧ n < 65536) → KBa.In a → KBa.In (ns.foldl (fun a n => a ++ [n.fdiv 256, n.fmod 256]) a)
  | [], _, _, h => h
  | n :: r, a, hb, h => by
    refine octs_in_aux r _ (fun k hk => hb k (List.mem_cons_of_mem _ hk)) fun k hk => ?_
    have hn := hb n List.mem_cons_self
    rcases List.mem_append.mp hk with hk | hk
    · exact h k hk
    · rw [Int.fdiv_eq_ediv_of_nonneg _ (by omega), Int.fmod_eq_emod_of_nonneg _ (by omega)] at hk
      simp only [List.mem_cons, List.not_mem_nil, or_false] at hk
      rcases hk with rfl | rfl <;> omega
theorem octs_in {ns : List Int} (hb : ∀ n ∈ ns, 0 ≤ n ∧ n < 65536) : KBa.In (ns.foldl (fun a n => a ++ [n.fdiv 256, n.fmod 256]) []) := octs_in_aux ns [] hb (fun _ h => nomatch h)
theorem octs_len {ns : List Int} (h : ns.length ≤ 30) : (ns.foldl (fun a n => a ++ [n.fdiv 256, n.fmod 256]) []).length ≤ 60 := by rw [octs_len_take, List.length_nil]; omega
section
variable {prog : Program} {w : World} {A : Around} {E : Value → Shared → Prop} {s : Shared} {h₀ : Heap} {L a b : Addr} {m : Str → Option Value} {news : List (Addr × Obj)} {vs ws : List Value} {ns ms : List Int} {Q : Value → Shared → Prop}
theorem my_add_ints (F : Fr h₀ L s.heap m) (N : News h₀ L s.heap news) (ha : s.heap.IsList a vs.toArray) (hb : s.heap.IsList b ws.toArray) (hi : IntsAre vs ns) (hj : IntsAre ws ms)
    (h : ∀ D us h', Fr h₀ L h' m → News h₀ L h' ((D, listOf (List.toArray us) 0) :: news) → (∀ p ∈ news, p.1 < D) → IntsAre us (ns ++ ms) → us.length = vs.length + ws.length → Q (.ref D) { s with heap := h' })
    (hz : vs.length + ws.length ≤ 16777216) : wpAny (model prog w) A (binaryOp .Add (.ref a) (.ref b)) Q E s :=
  kmk_add_ints F N ha hb hi hj (fun D us h' F' N' l1 hI => h D us h' F' N' l1 hI (by rw [hI.length, hi.length, hj.length, List.length_append])) (by rw [← hi.length, ← hj.length, sizeLine_eq]; exact hz)
end
local macro_rules | `(tactic| walk_at "binaryOp Add ref ref") => `(tactic| (k_here; (with_reducible show wpAny _ _ (binaryOp _ (Value.ref _) (Value.ref _)) _ _ _); k_dflt (refine' my_add_ints ?F ?N ?a ?b ?i ?j ?_ ?z; (case F => k_asm); (case N => k_asm); (case a => kmk_list); (case b => kmk_list); (case i => l_ints); (case j => l_ints); (case z => ((try simp only [List.length_cons, List.length_nil]); omega))); intro D' ws' h' F' N' l1 hI' hL'; (try k_lt l1); (try k_sweep)))
local macro_rules | `(tactic| walk_at "RowEnd") => `(tactic| (k_here; k_dflt ((rename Fr _ _ _ _ => eF'); (rename News _ _ _ _ => eN'); (rename IntsAre _ _ => eI'); (refine' RowEnd.intro eF' eN' ?e1 ?e2 ?e3 ?e4 ?e5 ?e6 eI'); (case e1 => rfl); (case e2 => k_same2); (case e3 => k_mem); (case e4 => k_mem); (case e5 => (intro p hp; k_ownIn)); (case e6 => ((simp only [AllLt, and_true] at *); omega)))))
local macro_rules | `(tactic| walk_at "pyIter ref") => `(tactic| (k_here; (with_reducible show wpAny _ _ (pyIter (Value.ref _)) (fun it s₂ => LoopAtV _ _ _ _ _ _ _ _ _ it s₂) _ _); k_dflt ((rename Fr _ _ _ _ => lF'); (rename News _ _ _ _ => lN'); (refine' iter_row (y := Str.ofString "row") (g := fun a n => a ++ [n.fdiv 256, n.fmod 256]) (a₀ := []) ?q2 ?q3 ?q4 lF' lN' ?q5 ?q6 ?q7 60 ?q8 ?_ ?_); (case q2 => rfl); (case q3 => k_mem); (case q4 => assumption); (case q5 => rfl); (case q6 => k_mem); (case q7 => exact IntsAre.nil); (case q8 => exact octs_bd (by assumption)))))
local macro_rules | `(tactic| walk_at "exec For Name Name cons nil") => `(tactic| (k_here; (rename Fr _ _ _ _ => lF'); (with_unfolding_all refine' For_invVF lF' ?k1 ?k2 ?_; (case k1 => exact rfl); (case k2 => exact rfl); k_whole)))
def ListCall (w : World) (f : Addr) (vs : List Value) (news : List (Addr × Obj)) (P : List Int → Prop) (dd du : Nat) : Prop :=
  ∀ {loose : List Str} {mean : ExcName → Option Value} {mg mb : Str → Option Value} {dp un : Nat} {gd : Option (List Code)} {cn : Str} {cs : Scope} {a : Addr} {ccd : Value} {cl : List (Str × Addr)} {outer : List Env} {A₀ : Around} {base h₀ : Heap} {L : Addr} {m : Str → Option Value} {s : Shared} {Q E : Value → Shared → Prop},
    Below A₀ base outer h₀ → Fr h₀ L s.heap m → (hd.heap_39 w.params).In h₀ → News h₀ L s.heap news → Top hd.view_39 loose mean mg mb h₀ → cs.kind = .function → dp + dd < recursionLimit → un + du < cLine →
    (∀ r us ms k h' tk', IntsAre us ms → P ms → Fr h₀ L h' m → News h₀ L h' ((r, listOf (List.toArray us) k) :: news) → Q (.ref r) { s with heap := h', toks := tk' }) →
    wpAny (model PySem.Challenge.rw_bs0023_01.row.prog w) (ktrTop dp un gd cn cs L a ccd cl outer) (call (.ref f) vs) Q E s
theorem octets_call (w : World) (news : List (Addr × Obj)) (l : Addr) (vs : List Value) (nn : Nat) (ns : List Int) (hi : IntsAre vs ns) (hlen : ns.length ≤ 30) : ListCall w 33 [.ref l] ((l, listOf vs.toArray nn) :: news) (fun ms => ms = octs ns) 4 40 := by
  w_top off
  unfold ListCall
  k_fill
  intro loose mean mg mb dp un gd cn cs a ccd cl outer A₀ base h₀ L m s Q E B F X N T hk hd hu hret
  refine wpAny_call ?_
  k_dflt cell_enter
  repeat' (first | (k_unfold; (try dsimp only)) | walk1 | (dsimp only; walk1) | (leave1; walk_say "STEP leave1"; try dsimp only))
  all_goals (rename Fr _ _ _ _ => kF; rename News _ _ _ _ => kN)
  all_goals (rename IntsAre _ (List.foldl _ _ _) => kI)
  all_goals exact hret _ _ _ _ _ _ kI rfl kF (fun p hp => kN p (by rcases List.mem_cons.mp hp with rfl | hp; exact List.mem_cons_self; k_ownIn))
theorem over_call (w : World) (news : List (Addr × Obj)) (d : Int) (td : Tok) : IntCall w 40 [.int d td] news ((d.fmod 256) * 256 + d.fdiv 256) 2 20 := by
  w_top off
  unfold IntCall
  k_fill
  intro loose mean mg mb dp un gd cn cs a ccd cl outer A₀ base h₀ L m s Q E B F X N T hk hd hu hret
  refine wpAny_call ?_
  k_dflt cell_enter
  repeat' (first | (k_unfold; (try dsimp only)) | walk1 | (dsimp only; walk1) | (leave1; walk_say "STEP leave1"; try dsimp only))
  all_goals (rename Fr _ _ _ _ => kF; rename News _ _ _ _ => kN)
  all_goals exact hret _ _ _ kF (fun p hp => kN p (by k_ownIn))
end Mine
end

section
/-! part E1 -/
namespace Mine
open PyProof.Rows.LCg
local macro_rules | `(tactic| walk_at "exec For Name Name cons nil") => `(tactic| (k_here; (rename Fr _ _ _ _ => lF'); (with_unfolding_all refine' For_invVF lF' ?k1 ?k2 ?_; (case k1 => exact rfl); (case k2 => exact rfl); k_whole)))
local macro_rules | `(tactic| walk_at "pyIter ref") => `(tactic| (k_here; (with_reducible show wpAny _ _ (pyIter (Value.ref _)) (fun it s₂ => LoopAtV _ _ _ _ _ _ _ _ _ it s₂) _ _); k_dflt ((rename Fr _ _ _ _ => lF'); (rename News _ _ _ _ => lN'); (refine' iter_order ?q2 ?q3 ?q4 ?q5 ?q6 lF' lN' ?q7 ?q8 ?q9 ?qa ?_ ?_); (case q2 => rfl); (case q3 => exact List.mem_cons_self); (case q4 => assumption); (case q5 => assumption); (case q6 => k_all); (case q7 => rfl); (case q8 => rfl); (case q9 => assumption); (case qa => assumption))))
local macro_rules | `(tactic| walk_at "call builtin:list.insert") => `(tactic| (k_here; (with_reducible show wpAny _ _ (call (Value.builtin _) [Value.ref _, Value.int _ _, Value.int _ _]) _ _ _); k_dflt ((rename Fr _ _ _ _ => lF'); (rename News _ _ _ _ => lN'); (refine' my_insert lF' lN' ?q1 ?q2 ?q3 ?q4 ?q5 ?_); (case q1 => assumption); (case q2 => exact fm0 _ _); (case q3 => exact fm1 _ (by omega)); (case q4 => assumption); (case q5 => assumption)); intro _ _ _ _ hIo hPo F' N'))
theorem order_call (w : World) (news : List (Addr × Obj)) (l : Addr) (vs : List Value) (nn : Nat) (ns : List Int) (hi : IntsAre vs ns) (hlen : ns.length ≤ 10) (d : Int) (td : Tok) (d0 : 0 ≤ d) (d1 : d ≤ 1000000) : ListCall w 47 [.ref l, .int d td] ((l, listOf vs.toArray nn) :: news) (fun ms => ms.Perm ns) 4 40 := by
  w_top off
  unfold ListCall
  k_fill
  intro loose mean mg mb dp un gd cn cs a ccd cl outer A₀ base h₀ L m s Q E B F X N T hk hd hu hret
  refine wpAny_call ?_
  k_dflt cell_enter
  repeat' (first | (k_unfold; (try dsimp only)) | walk1 | (dsimp only; walk1) | (leave1; walk_say "STEP leave1"; try dsimp only))
  all_goals trace_state
  all_goals first
    | ((rename Fr _ _ _ _ => kF); (rename News _ _ _ _ => kN); (rename List.Perm _ (_ :: _) => kP); (rename IntsAre _ _ => kI)
       exact ⟨rfl, _, _, _, _, _, _, _, _, rfl, kF, kN, kI, kP, rfl, (draw3 (by assumption) (by assumption)).1, (draw3 (by assumption) (by assumption)).2, rfl, (by
         intro z e1 e2 e3
         simp only [e1, e2, e3, if_false])⟩)
    | ((rename Fr _ _ _ _ => kF); (rename News _ _ _ _ => kN); (rename List.Perm _ _ => kP); (rename IntsAre _ _ => kI)
       exact hret _ _ _ _ _ _ kI kP kF kN)
end Mine
end

section
/-! part N1 -/
namespace Mine
open PyProof.Rows.LCg
local macro_rules | `(tactic| walk_at "exec While Compare") => `(tactic| (k_here; (with_reducible show wpAny _ _ (exec (Stmt.While _ _ _ _) _) _ _ _); k_dflt ((rename Fr _ _ _ _ => lF'); (rename News _ _ _ _ => lN'); (refine' while_nest lF' lN' ?q1 ?q2 ?q3 ?q4 ?q5 ?q6 ?q7 ?q8 ?q9 ?_); (case q1 => rfl); (case q2 => rfl); (case q3 => assumption); (case q4 => assumption); (case q5 => l_ints); (case q6 => assumption); (case q7 => assumption); (case q8 => assumption); (case q9 => rfl)); intro _ _ _ _ _ _ _ _ _ hu1 hu2 hu3 hu4 hI' hW' hd0 hd1 hT' F' N'))
local macro_rules | `(tactic| walk_at "call ref") => `(tactic| (k_here; (with_reducible show wpAny _ _ (call (Value.ref 21) [Value.int _ _, Value.int _ _]) _ _ _); k_dflt (refine' caa_call _ _ _ _ _ _ ?cB ?cF ?cX ?cN ?cT ?cK ?cD ?cU ?_; (case cB => k_asm); (case cF => k_asm); (case cX => k_asm); (case cN => k_asm); (case cT => k_asm); (case cK => first | rfl | assumption); (case cD => ktr_room); (case cU => ktr_units)); intro t9 h9 tk9 F9 N9))
local macro_rules | `(tactic| walk_at "binaryOp Mod int int") => `(tactic| (k_here; (with_reducible show wpAny _ _ (binaryOp _ (Value.int _ _) (Value.int (_ - 1) _)) _ _ _); k_dflt (refine' mod_gen ?q1 ?_; (case q1 => omega)); intro _ _ _ hk0 hk1))
local macro_rules | `(tactic| walk_at "binaryOp Add ref ref") => `(tactic| (k_here; (with_reducible show wpAny _ _ (binaryOp _ (Value.ref _) (Value.ref _)) _ _ _); k_dflt (refine' my_add2 ?F ?N ?a ?b ?i ?j ?_ ?z; (case F => k_asm); (case N => k_asm); (case a => kmk_list); (case b => kmk_list); (case i => l_ints); (case j => l_ints); (case z => ((try simp only [List.length_append, List.length_take, List.length_drop, List.length_cons, List.length_nil]); omega))); intro D' ws' h' F' N' l1 hI' hL'; (try k_lt l1); (try k_sweep)))
theorem nest_call (w : World) (news : List (Addr × Obj)) (l : Addr) (vs : List Value) (nn : Nat) (ns : List Int) (hi : IntsAre vs ns) (hlen : ns.length ≤ 10) (hle1 : 1 ≤ ns.length) (hwd : Wd ns) (d : Int) (td : Tok) (d0 : 0 ≤ d) (d1 : d ≤ 1000000) : IntCall w 54 [.ref l, .int d td] ((l, listOf vs.toArray nn) :: news) (nrm ns.sum) 8 80 := by
  w_top off
  unfold IntCall
  k_fill
  intro loose mean mg mb dp un gd cn cs a ccd cl outer A₀ base h₀ L m s Q E B F X N T hk hd hu hret
  have hvl := hi.length
  have hvb : vs.length ≤ 10 := by omega
  refine wpAny_call ?_
  k_dflt cell_enter
  repeat' (first | (k_unfold; (try dsimp only)) | walk1 | (dsimp only; walk1) | (leave1; walk_say "STEP leave1"; try dsimp only))
  all_goals trace_state
  rotate_left
  · ((rename Fr _ _ _ _ => kF); (rename News _ _ _ _ => kN); (rename nrm _ = _ => kT)
     rw [nest_end (by assumption) (by assumption) (by assumption) kT]
     exact hret _ _ _ kF (fun p hp => kN p (by k_ownIn)))
  all_goals
    (rename Fr _ _ _ _ => kF; rename News _ _ _ _ => kN; rename nrm _ = _ => kT; rename IntsAre _ (_ ++ _ ++ _) => kI)
  all_goals
    have st := nest_step (by assumption) (by assumption) (by assumption)
    exact ⟨rfl, _, _, _, _, _, _, _, _, _, rfl, kF, (fun p hp => kN p (by rcases List.mem_cons.mp hp with rfl | hp; exact List.mem_cons_self; k_ownIn)), kI, st.1, st.2.1, st.2.2.1, st.2.2.2.trans kT, rfl, (draw2 (by assumption) (by assumption)).1, (draw2 (by assumption) (by assumption)).2, rfl, (by
      intro z e1 e2 e3
      simp only [e1, e2, e3, if_false])⟩
end Mine
end

section
/-! part W1 -/
namespace Mine
open PyProof.Rows.LCg
theorem news_front {h₀ h : Heap} {L l : Addr} {o : Obj} {news : List (Addr × Obj)} (N : News h₀ L h news) (hm : (l, o) ∈ news) : News h₀ L h ((l, o) :: news) := fun p hp => by
  rcases List.mem_cons.mp hp with rfl | hp
  · exact N _ hm
  · exact N p hp
theorem news_back {h₀ h : Heap} {L : Addr} {q : Addr × Obj} {news : List (Addr × Obj)} (N : News h₀ L h (q :: news)) : News h₀ L h news := fun p hp => N p (List.mem_cons_of_mem _ hp)
theorem news_mid {h₀ h : Heap} {L : Addr} {p q : Addr × Obj} {news : List (Addr × Obj)} (N : News h₀ L h (p :: q :: news)) : News h₀ L h (p :: news) := fun r hr => by
  rcases List.mem_cons.mp hr with rfl | hr
  · exact N _ List.mem_cons_self
  · exact N r (List.mem_cons_of_mem _ (List.mem_cons_of_mem _ hr))
theorem perm_sum {a b : List Int} (h : a.Perm b) : a.sum = b.sum := by
  induction h with
  | nil => rfl
  | cons x _ ih => rw [List.sum_cons, List.sum_cons, ih]
  | swap x y l => rw [List.sum_cons, List.sum_cons, List.sum_cons, List.sum_cons]; omega
  | trans _ _ i j => rw [i, j]
section
variable {w : World} {loose : List Str} {mean : ExcName → Option Value} {mg mb : Str → Option Value} {dp un : Nat} {gd : Option (List Code)} {cn : Str} {cs : Scope} {a : Addr} {ccd : Value} {cl : List (Str × Addr)} {outer : List Env} {A₀ : Around} {base h₀ : Heap} {L : Addr} {m : Str → Option Value} {s : Shared} {Q E : Value → Shared → Prop}
    {news : List (Addr × Obj)} {l : Addr} {vs : List Value} {nn : Nat} {ns : List Int} {d : Int} {td : Tok} {S : Int}
theorem order_at (B : Below A₀ base outer h₀) (F : Fr h₀ L s.heap m) (X : (hd.heap_39 w.params).In h₀) (N : News h₀ L s.heap news) (T : Top hd.view_39 loose mean mg mb h₀) (hk : cs.kind = .function) (h1 : dp + 4 < recursionLimit) (h2 : un + 40 < cLine)
    (hm : (l, listOf vs.toArray nn) ∈ news) (hi : IntsAre vs ns) (hw : Wd ns) (hlen : ns.length ≤ 10) (hge : 1 ≤ ns.length) (d0 : 0 ≤ d) (d1 : d ≤ 1000000)
    (hret : ∀ r us ms k h' tk', IntsAre us ms → us.length ≤ 10 → us.length = ms.length → Wd ms → ms.length ≤ 10 → 1 ≤ ms.length → ms.sum = ns.sum → Fr h₀ L h' m → News h₀ L h' ((r, listOf (List.toArray us) k) :: news) → Q (.ref r) { s with heap := h', toks := tk' }) :
    wpAny (model PySem.Challenge.rw_bs0023_01.row.prog w) (ktrTop dp un gd cn cs L a ccd cl outer) (call (.ref 47) [.ref l, .int d td]) Q E s :=
  order_call w news l vs nn ns hi hlen d td d0 d1 B F X (news_front N hm) T hk h1 h2 fun r us ms k h' tk' hI hP F' N' =>
    hret r us ms k h' tk' hI (by rw [hI.length, hP.length_eq]; exact hlen) hI.length (fun v hv => hw v (hP.mem_iff.mp hv)) (by rw [hP.length_eq]; exact hlen) (by rw [hP.length_eq]; exact hge) (perm_sum hP) F' (news_mid N')
theorem nest_at (B : Below A₀ base outer h₀) (F : Fr h₀ L s.heap m) (X : (hd.heap_39 w.params).In h₀) (N : News h₀ L s.heap news) (T : Top hd.view_39 loose mean mg mb h₀) (hk : cs.kind = .function) (h1 : dp + 8 < recursionLimit) (h2 : un + 80 < cLine)
    (hm : (l, listOf vs.toArray nn) ∈ news) (hi : IntsAre vs ns) (hw : Wd ns) (hlen : ns.length ≤ 10) (hge : 1 ≤ ns.length) (d0 : 0 ≤ d) (d1 : d ≤ 1000000) (hS : ns.sum = S)
    (hret : ∀ t h' tk', Fr h₀ L h' m → News h₀ L h' news → Q (.int (nrm S) t) { s with heap := h', toks := tk' }) :
    wpAny (model PySem.Challenge.rw_bs0023_01.row.prog w) (ktrTop dp un gd cn cs L a ccd cl outer) (call (.ref 54) [.ref l, .int d td]) Q E s :=
  nest_call w news l vs nn ns hi hlen hge hw d td d0 d1 B F X (news_front N hm) T hk h1 h2 fun t h' tk' F' N' => hS ▸ hret t h' tk' F' (news_back N')
theorem octets_at (B : Below A₀ base outer h₀) (F : Fr h₀ L s.heap m) (X : (hd.heap_39 w.params).In h₀) (N : News h₀ L s.heap news) (T : Top hd.view_39 loose mean mg mb h₀) (hk : cs.kind = .function) (h1 : dp + 4 < recursionLimit) (h2 : un + 40 < cLine)
    (hm : (l, listOf vs.toArray nn) ∈ news) (hi : IntsAre vs ns) (hlen : ns.length ≤ 10)
    (hret : ∀ r us k h' tk', IntsAre us (octs ns) → us.length ≤ 20 → us.length = (octs ns).length → (octs ns).length = 2 * ns.length → Fr h₀ L h' m → News h₀ L h' ((r, listOf (List.toArray us) k) :: news) → Q (.ref r) { s with heap := h', toks := tk' }) :
    wpAny (model PySem.Challenge.rw_bs0023_01.row.prog w) (ktrTop dp un gd cn cs L a ccd cl outer) (call (.ref 33) [.ref l]) Q E s :=
  octets_call w news l vs nn ns hi (by omega) B F X (news_front N hm) T hk h1 h2 fun r us ms k h' tk' hI hP F' N' => by
    subst hP
    exact hret r us k h' tk' hI (by rw [hI.length, octs_length]; omega) hI.length (octs_length _) F' (news_mid N')
end
section
variable {prog : Program} {w : World} {A : Around} {E : Value → Shared → Prop} {s : Shared} {h₀ : Heap} {L a b : Addr} {m : Str → Option Value} {news : List (Addr × Obj)} {vs ws : List Value} {ns ms : List Int} {Q : Value → Shared → Prop}
def Cells (cs : List Int) : Prop := cs.length = 15 ∧ ∀ n ∈ cs, 0 ≤ n ∧ n ≤ 1000000
theorem cells_ok (l : List Int) : Cells ((l.take 15).map (fun k' : Int => k'.fmod 1000000) ++ List.drop ((l.take 15).length : Int).toNat [9, 2, 7, 131, 4, 6543, 12, 3, 77, 210, 5, 60, 4321, 17, 8]) := by
  constructor
  · rw [List.length_append, List.length_map, List.length_drop, Int.toNat_natCast, List.length_take]
    simp only [List.length_cons, List.length_nil]
    omega
  · intro n hn
    rcases List.mem_append.mp hn with h | h
    · obtain ⟨k, _, rfl⟩ := List.mem_map.mp h
      have : 0 ≤ k.fmod 1000000 ∧ k.fmod 1000000 < 1000000 := by rw [Int.fmod_eq_emod_of_nonneg _ (by omega)]; omega
      omega
    · have h2 := List.mem_of_mem_drop h
      have key : ∀ v ∈ ([9, 2, 7, 131, 4, 6543, 12, 3, 77, 210, 5, 60, 4321, 17, 8] : List Int), 0 ≤ v ∧ v ≤ 1000000 := by decide
      exact key n h2
theorem cell_rng {cs : List Int} (h : Cells cs) (i : Nat) : 0 ≤ cs.getD i 0 ∧ cs.getD i 0 ≤ 1000000 := by
  by_cases hi : i < cs.length
  · have e : cs.getD i 0 = cs[i] := by simp [List.getD, hi]
    rw [e]
    exact h.2 _ (List.getElem_mem hi)
  · have e : cs.getD i 0 = 0 := by simp [List.getD, hi]
    rw [e]; omega
theorem my_cells (l : List Int) (F : Fr h₀ L s.heap m) (N : News h₀ L s.heap news) (ha : s.heap.IsList a vs.toArray) (hb : s.heap.IsList b ws.toArray) (hi : IntsAre vs ns) (hj : IntsAre ws ms)
    (e1 : ns = (l.take 15).map (fun k' : Int => k'.fmod 1000000)) (e2 : ms = List.drop ((l.take 15).length : Int).toNat [9, 2, 7, 131, 4, 6543, 12, 3, 77, 210, 5, 60, 4321, 17, 8])
    (h : ∀ D us cs h', Fr h₀ L h' m → News h₀ L h' ((D, listOf (List.toArray us) 0) :: news) → (∀ p ∈ news, p.1 < D) → IntsAre us cs → us.length = 15 → cs.length = 15 → Cells cs → Q (.ref D) { s with heap := h' }) :
    wpAny (model prog w) A (binaryOp .Add (.ref a) (.ref b)) Q E s := by
  have ok := cells_ok l
  rw [← e1, ← e2] at ok
  have hz : ns.length + ms.length ≤ 16777216 := by rw [← List.length_append, ok.1]; omega
  exact my_add2 F N ha hb hi hj (fun D us h' F' N' l1 hI hL => h D us _ h' F' N' l1 hI (by rw [hL, ← List.length_append]; exact ok.1) ok.1 ok) hz
end
end Mine
end

section
/-! part V1 -/
namespace Mine
open PyProof.Rows.LCg
def lawDef : List Stmt × Scope := match PySem.Challenge.pw_bs0023_01.main.body with
  | [_, _, _, _, _, _, _, _, .FunctionDef _ _ b _ _ _ s _ _ _] => (b, s)
  | _ => ([], ⟨.function, [], false, false, []⟩)
def fillBody : List Stmt := match lawDef.1 with
  | _ :: _ :: _ :: .For _ _ b _ _ :: _ => b
  | _ => []
def tailBody : List Stmt := match lawDef.1 with
  | _ :: _ :: _ :: _ :: r => r
  | _ => []
def lawScope : Scope := lawDef.2
theorem pick5 (x : Int) (i : Nat) : 0 ≤ ([0, 1, 65535, 65534, x.fmod 65536] : List Int).getD i 0 ∧ ([0, 1, 65535, 65534, x.fmod 65536] : List Int).getD i 0 < 65536 := by
  have hx : 0 ≤ x.fmod 65536 ∧ x.fmod 65536 < 65536 := by rw [Int.fmod_eq_emod_of_nonneg _ (by omega)]; omega
  match i with
  | 0 => exact (by decide : (0 : Int) ≤ 0 ∧ (0 : Int) < 65536)
  | 1 => exact (by decide : (0 : Int) ≤ 1 ∧ (1 : Int) < 65536)
  | 2 => exact (by decide : (0 : Int) ≤ 65535 ∧ (65535 : Int) < 65536)
  | 3 => exact (by decide : (0 : Int) ≤ 65534 ∧ (65534 : Int) < 65536)
  | 4 => exact hx
  | _ + 5 => exact (by decide : (0 : Int) ≤ 0 ∧ (0 : Int) < 65536)
theorem fill_turn (w : World) {loose : List Str} {mean : ExcName → Option Value} {mg mb : Str → Option Value} {dp un : Nat} {gd : Option (List Code)} {qn : Str} {fa : Addr} {cd : Value} {outer : List Env} {A₀ : Around} {base h₀ : Heap} {L : Addr} {s : Shared} {E : Value → Shared → Prop}
    (sc : Scope) (hsc : sc = lawScope) (body : List Stmt) (hbody : body = fillBody)
    (d c : Addr) (m₀ : Str → Option Value) (cv : List Value) (kc : Nat) (cs : List Int) (b₀ : Int) (b2 : b₀ ≤ 10)
    (B : Below A₀ base outer h₀) (X : (hd.heap_39 w.params).In h₀) (T : Top hd.view_39 loose mean mg mb h₀) (hdp : dp + 12 < recursionLimit) (hun : un + 100 < cLine)
    (mc : m₀ "cells" = some (.ref c)) (mw : m₀ "words" = some (.ref d))
    (hC : IntsAre cv cs) (hcv : cv.length = 15) (hcl : cs.length = 15) (hcells : Cells cs)
    (rest : List (Addr × Obj)) (k : Int) (t : Tok) (us : List Value) (ws : List Int) (kk : Nat) (u : Option Value)
    (k0 : 0 ≤ k) (k1 : k < b₀) (hoff : OwnOff rest [d]) (hm : (c, listOf (List.toArray cv) kc) ∈ rest) (hcd : @Ne Nat c d) (hub : us.length ≤ 9) (hul : us.length = ws.length) (hwl : ws.length ≤ 9) (hI : IntsAre us ws)
    (F : Fr h₀ L s.heap (fun z : Str => if z = "k" then some (.int k t) else if z = "draw" then u else m₀ z)) (N : News h₀ L s.heap ((d, listOf (List.toArray us) kk) :: rest)) :
    wpAny (model PySem.Challenge.rw_bs0023_01.row.prog w) (ktrTop dp un gd qn sc L fa cd [] outer) (execs body (envOf qn sc L fa cd)) (FEnd h₀ L d m₀ ws rest s) E s := by
  w_top off
  revert X
  k_fill
  intro X
  conv at hsc => rhs; whnf
  conv at hbody => rhs; whnf
  subst hsc hbody
  have hk9 : k ≤ 9 := by omega
  have hoff2 : OwnOff ((c, listOf (List.toArray cv) kc) :: rest) [d] := by
    intro p hp b hb
    rw [List.mem_singleton.mp hb]
    rcases List.mem_cons.mp hp with rfl | hp
    · exact hcd
    · exact hoff p hp d (by simp)
  have N2 : News h₀ L s.heap ((d, listOf (List.toArray us) kk) :: (c, listOf (List.toArray cv) kc) :: rest) := fun p hp => by
    rcases List.mem_cons.mp hp with rfl | hp
    · exact N _ List.mem_cons_self
    · rcases List.mem_cons.mp hp with rfl | hp
      · exact N _ (List.mem_cons_of_mem _ hm)
      · exact N _ (List.mem_cons_of_mem _ hp)
  have e : (fun z : Str => if z = "k" then some (.int k t) else if z = "draw" then u else m₀ z) = (fun z : Str => if z = "k" then some (.int k t) else if z = "draw" then u else if z = "cells" then some (.ref c) else if z = "words" then some (.ref d) else m₀ z) := by
    funext z
    by_cases q1 : z = ("cells" : Str)
    · subst q1; simp [mc]
    · by_cases q2 : z = ("words" : Str)
      · subst q2; simp only [mw, q1, if_false, if_true]
      · simp only [q1, q2, if_false]
  rw [e] at F
  clear N e hoff hm
  repeat' (first | (k_unfold; (try dsimp only)) | walk1 | (dsimp only; walk1) | (leave1; walk_say "STEP leave1"; try dsimp only))
  all_goals (rename Fr _ _ _ _ => kF; rename News _ _ _ _ => kN)
  all_goals
    simp only [List.push_toArray] at kN
    exact ⟨rfl, _, _, _, _, _, _, rfl, kF, (fun p hp => kN p (by
      rcases List.mem_cons.mp hp with rfl | hp
      · exact List.mem_cons_of_mem _ List.mem_cons_self
      · exact List.mem_cons_of_mem _ (List.mem_cons_of_mem _ (List.mem_cons_of_mem _ hp)))), hI.append (.cons _ _ .nil), (pick5 _ _).1, (pick5 _ _).2, (by
      intro z e1 e2
      by_cases q1 : z = ("cells" : Str)
      · subst q1; simp only [mc, e1, e2, if_false, if_true]
      · by_cases q2 : z = ("words" : Str)
        · subst q2; simp only [mw, q1, e1, e2, if_false, if_true]
        · simp only [q1, q2, e1, e2, if_false])⟩
end Mine
end

section
/-! part G1 -/
namespace Mine
open PyProof.Rows.LCg
structure WdMain (ns : List Int) : Prop where
  wd : Wd ns
def DueIs (R : Int) (s : Shared) (v : Value) (s' : Shared) : Prop := ∃ t tk, v = .int R t ∧ s' = { s with toks := tk }
theorem due_merge {prog : Program} {w : World} {A : Around} {E : Value → Shared → Prop} {s : Shared} {Q : Value → Shared → Prop} {e : Sem Value} {ns : List Int} (_ : WdMain ns)
    (h1 : wpAny (model prog w) A e (DueIs (nrm ns.sum) s) E s) (h2 : ∀ t tk, Q (.int (nrm ns.sum) t) { s with toks := tk }) : wpAny (model prog w) A e Q E s :=
  wpAny_mono h1 (fun v s' ⟨t, tk, e1, e2⟩ => by subst e1 e2; exact h2 t tk) fun _ _ e => e
theorem in_octs {ns : List Int} (h : Wd ns) : KBa.In (octs ns) := octs_oct h
theorem in_app {a b : List Int} (ha : KBa.In a) (hb : KBa.In b) : KBa.In (a ++ b) := fun n hn => (List.mem_append.mp hn).elim (ha n) (hb n)
theorem in_one (x : Int) : KBa.In [x.fmod 256] := fun n hn => by
  rw [List.mem_singleton.mp hn, Int.fmod_eq_emod_of_nonneg _ (by omega)]; omega
theorem in_zero : KBa.In [0] := fun n hn => by rw [List.mem_singleton.mp hn]; omega
theorem in_take {a : List Int} (h : KBa.In a) (k : Nat) : KBa.In (a.take k) := fun n hn => h n (List.mem_of_mem_take hn)
theorem in_drop {a : List Int} (h : KBa.In a) (k : Nat) : KBa.In (a.drop k) := fun n hn => h n (List.mem_of_mem_drop hn)
theorem wd_over {ns : List Int} (h : Wd ns) : Wd (ns.map fun w => w.fmod 256 * 256 + w.fdiv 256) := fun n hn => by
  obtain ⟨k, hk, rfl⟩ := List.mem_map.mp hn
  have := h k hk
  rw [Int.fmod_eq_emod_of_nonneg _ (by omega), Int.fdiv_eq_ediv_of_nonneg _ (by omega)]; omega
theorem wd_check {ns : List Int} (h : Wd ns) (hl : ns.length ≤ 30) : Wd [cks (octs ns)] := fun n hn => by
  rw [List.mem_singleton.mp hn]
  have := lsum_is h hl
  have := nrm_rng ns.sum
  omega
local macro_rules | `(tactic| walk_at "my octets") => `(tactic| first | exact in_octs (by assumption) | exact in_octs (wd_over (by assumption)) | exact in_octs (wd_check (by assumption) (by omega)) | exact in_one _ | exact in_zero | (refine in_app ?_ ?_ <;> walk_at "my octets") | (refine in_take ?_ _; walk_at "my octets") | (refine in_drop ?_ _; walk_at "my octets"))
local macro_rules | `(tactic| walk_at "my octets len") => `(tactic| ((try simp only [List.length_append, List.length_take, List.length_drop, octs_length, List.length_map, List.length_cons, List.length_nil]); omega))
local macro_rules | `(tactic| walk_at "call ref") => `(tactic| (k_here; (with_reducible show wpAny _ _ (call (Value.ref 47) [Value.ref _, Value.int _ _]) _ _ _); k_dflt (refine' order_at ?cB ?cF ?cX ?cN ?cT ?cK ?cD ?cU ?cM ?cI ?cW ?c1 ?c2 ?c3 ?c4 ?_; (case cB => k_asm); (case cF => k_asm); (case cX => k_asm); (case cN => k_asm); (case cT => k_asm); (case cK => first | rfl | assumption); (case cD => ktr_room); (case cU => ktr_units); (case cM => k_mem); (case cI => l_ints); (case cW => assumption); (case c1 => assumption); (case c2 => assumption); (case c3 => exact (cell_rng (by assumption) _).1); (case c4 => exact (cell_rng (by assumption) _).2)); intro r9 us9 ms9 k9 h9 tk9 hI9 hU9 hV9 hW9 hX9 hY9 hZ9 F9 N9))
local macro_rules | `(tactic| walk_at "call ref") => `(tactic| (k_here; (with_reducible show wpAny _ _ (call (Value.ref 54) [Value.ref _, Value.int _ _]) _ _ _); k_dflt (refine' nest_at ?cB ?cF ?cX ?cN ?cT ?cK ?cD ?cU ?cM ?cI ?cW ?c1 ?c2 ?c3 ?c4 ?c5 ?_; (case cB => k_asm); (case cF => k_asm); (case cX => k_asm); (case cN => k_asm); (case cT => k_asm); (case cK => first | rfl | assumption); (case cD => ktr_room); (case cU => ktr_units); (case cM => k_mem); (case cI => l_ints); (case cW => assumption); (case c1 => assumption); (case c2 => assumption); (case c3 => exact (cell_rng (by assumption) _).1); (case c4 => exact (cell_rng (by assumption) _).2); (case c5 => assumption)); intro t9 h9 tk9 F9 N9))
local macro_rules | `(tactic| walk_at "call ref") => `(tactic| (k_here; (with_reducible show wpAny _ _ (call (Value.ref 33) [Value.ref _]) _ _ _); k_dflt (refine' octets_at ?cB ?cF ?cX ?cN ?cT ?cK ?cD ?cU ?cM ?cI ?c1 ?_; (case cB => k_asm); (case cF => k_asm); (case cX => k_asm); (case cN => k_asm); (case cT => k_asm); (case cK => first | rfl | assumption); (case cD => ktr_room); (case cU => ktr_units); (case cM => k_mem); (case cI => l_ints); (case c1 => walk_at "my octets len")); intro r9 us9 k9 h9 tk9 hI9 hU9 hV9 hW9 F9 N9))
local macro_rules | `(tactic| walk_at "call ref") => `(tactic| (k_here; (with_reducible show wpAny _ _ (call (Value.ref 26) [Value.bytes _ _]) _ _ _); k_dflt (refine' ck_call _ _ _ _ _ ?b1 ?b2 ?cB ?cF ?cX ?cN ?cT ?cK ?cD ?cU ?_; (case b1 => assumption); (case b2 => walk_at "my octets len"); (case cB => k_asm); (case cF => k_asm); (case cX => k_asm); (case cN => k_asm); (case cT => k_asm); (case cK => first | rfl | assumption); (case cD => ktr_room); (case cU => ktr_units)); intro t9 h9 tk9 F9 N9))
local macro_rules | `(tactic| walk_at "call ref") => `(tactic| (k_here; (with_reducible show wpAny _ _ (call (Value.ref 40) [Value.int _ _]) _ _ _); k_dflt (refine' over_call _ _ _ _ ?cB ?cF ?cX ?cN ?cT ?cK ?cD ?cU ?_; (case cB => k_asm); (case cF => k_asm); (case cX => k_asm); (case cN => k_asm); (case cT => k_asm); (case cK => first | rfl | assumption); (case cD => ktr_room); (case cU => ktr_units)); intro t9 h9 tk9 F9 N9))
local macro_rules | `(tactic| walk_at "call ref") => `(tactic| (k_here; (with_reducible show wpAny _ _ (call (Value.ref 21) [Value.int _ _, Value.int _ _]) _ _ _); k_dflt (refine' caa_call _ _ _ _ _ _ ?cB ?cF ?cX ?cN ?cT ?cK ?cD ?cU ?_; (case cB => k_asm); (case cF => k_asm); (case cX => k_asm); (case cN => k_asm); (case cT => k_asm); (case cK => first | rfl | assumption); (case cD => ktr_room); (case cU => ktr_units)); intro t9 h9 tk9 F9 N9))
local macro_rules | `(tactic| walk_at "eval IfExp") => `(tactic| (k_here; (with_reducible show wpAny _ _ (eval (Expr.IfExp _ (Expr.Constant _ _ _) _ _) _) _ _ _); (fail_if_success (with_reducible show wpAny _ _ _ (DueIs _ _) _ _)); k_dflt ((rename WdMain _ => kW); (refine due_merge kW ?_ ?_))))
local macro_rules | `(tactic| walk_at "call type:bytes") => `(tactic| (k_here; (with_reducible show wpAny _ _ (call (Value.type "bytes") [Value.ref _]) _ _ _); k_dflt (refine' KBa.make_K ?kbaF ?kbaN ?kbah ?kbal ?kbai ?kbar ?kban ?_; (case kbaF => k_asm); (case kbaN => k_asm); (case kbah => rfl); (case kbal => kba_isList); (case kbai => l_ints); (case kbar => walk_at "my octets"); (case kban => walk_at "my octets len")); intro _ _ _ F' N' kbaIn; (have kbaE := KBa.ints_make kbaIn)))
local macro_rules | `(tactic| walk_at "binaryOp Add ref ref") => `(tactic| (k_here; (with_reducible show wpAny _ _ (binaryOp _ (Value.ref _) (Value.ref _)) _ _ _); k_dflt (refine' my_add2 ?F ?N ?a ?b ?i ?j ?_ ?z; (case F => k_asm); (case N => k_asm); (case a => kmk_list); (case b => kmk_list); (case i => l_ints); (case j => l_ints); (case z => walk_at "my octets len")); intro D' ws' h' F' N' l1 hI' hL'; (try k_lt l1); (try k_sweep)))
theorem due_z {S : Int} {s : Shared} {t : Tok} {tk : Nat} (h : S = 0) : DueIs (nrm S) s (.int 0 t) { s with toks := tk } := ⟨t, tk, by rw [h]; rfl, rfl⟩
theorem due_nz {S : Int} {s : Shared} {t : Tok} {tk : Nat} (h0 : 0 ≤ S) (h : S ≠ 0) : DueIs (nrm S) s (.int ((S - 1).fmod 65535 + 1) t) { s with toks := tk } :=
  ⟨t, tk, by rw [nrm_pos (by omega), Int.fmod_eq_emod_of_nonneg _ (by omega)], rfl⟩
theorem bad1 {S : Int} (h : nrm S ≠ nrm S) : False := h rfl
theorem bad2 {ns : List Int} (hw : Wd ns) (hl : ns.length ≤ 10) (h : cks (octs ns) ≠ 65535 - nrm ns.sum) : False := h (f1 hw hl)
theorem bad3 {ns : List Int} (hw : Wd ns) (hl : ns.length ≤ 10) (h : cks (octs ns ++ octs [cks (octs ns)]) ≠ 0) : False := h (f2 hw hl)
theorem bad4 {ns : List Int} (hw : Wd ns) (hl : ns.length ≤ 10) (h : cks (octs (ns.map fun k' => k'.fmod 256 * 256 + k'.fdiv 256)) ≠ (cks (octs ns)).fmod 256 * 256 + (cks (octs ns)).fdiv 256) : False := h (f3 hw hl (wd_over hw))
theorem in_odd {ns : List Int} (hw : Wd ns) (x : Int) : KBa.In (octs ns ++ [x.fmod 256]) := in_app (in_octs hw) (in_one x)
theorem bad5 {ns : List Int} {x : Int} (hw : Wd ns) (hl : ns.length ≤ 10) (h : cks (octs ns ++ [x.fmod 256]) ≠ cks (octs ns ++ [x.fmod 256] ++ [0])) : False :=
  h (f4 (in_odd hw x) (by simp only [List.length_append, octs_length, List.length_cons, List.length_nil]; omega))
theorem fin_odd {X : List Int} {k : Int} (h : KBa.In X) (hl : X.length ≤ 60) (k0 : 0 ≤ k) (k1 : k < (X.length : Int) + 1) (hp : k.fmod 2 = 1) :
    (caa (65535 - cks (X.take k.toNat)) ((65535 - cks (X.drop k.toNat)).fmod 256 * 256 + (65535 - cks (X.drop k.toNat)).fdiv 256) == 65535 - cks X) = true := by
  rw [Int.fmod_eq_emod_of_nonneg _ (by omega)] at hp
  have := (f5 h hl (p := k.toNat) (by omega)).2 (by omega)
  rw [beq_iff_eq]
  exact this
theorem fin_even {X : List Int} {k : Int} (h : KBa.In X) (hl : X.length ≤ 60) (k0 : 0 ≤ k) (k1 : k < (X.length : Int) + 1) (hp : k.fmod 2 ≠ 1) :
    (caa (65535 - cks (X.take k.toNat)) (65535 - cks (X.drop k.toNat)) == 65535 - cks X) = true := by
  rw [Int.fmod_eq_emod_of_nonneg _ (by omega)] at hp
  have := (f5 h hl (p := k.toNat) (by omega)).1 (by omega)
  rw [beq_iff_eq]
  exact this
local macro_rules | `(tactic| walk_at "my row len") => `(tactic| first | assumption | (simp only [List.length_append, octs_length, List.length_cons, List.length_nil] at *; omega))
local macro_rules | `(tactic| walk_at "binaryOp Mod int int") => `(tactic| (k_here; (with_reducible show wpAny _ _ (binaryOp _ (Value.int _ _) (Value.int (_ + 1) _)) _ _ _); k_dflt (refine' mod_gen ?q1 ?_; (case q1 => omega)); intro _ _ _ hk0 hk1))
theorem tail (w : World) {loose : List Str} {mean : ExcName → Option Value} {mg mb : Str → Option Value} {dp un : Nat} {gd : Option (List Code)} {qn : Str} {fa : Addr} {cd : Value} {outer : List Env} {A₀ : Around} {base h₀ : Heap} {L : Addr} {s : Shared} {Q : Flow → Shared → Prop} {E : Value → Shared → Prop}
    (sc : Scope) (hsc : sc = lawScope) (body : List Stmt) (hbody : body = tailBody)
    (d c : Addr) (m : Str → Option Value) (us cv : List Value) (k kc : Nat) (ns cs : List Int)
    (B : Below A₀ base outer h₀) (X : (hd.heap_39 w.params).In h₀) (T : Top hd.view_39 loose mean mg mb h₀) (hdp : dp + 12 < recursionLimit) (hun : un + 100 < cLine)
    (mc : m "cells" = some (.ref c)) (mw : m "words" = some (.ref d))
    (hI : IntsAre us ns) (hW : Wd ns) (hl1 : ns.length ≤ 10) (hl2 : 1 ≤ ns.length) (hul : us.length = ns.length) (hub : us.length ≤ 10)
    (hC : IntsAre cv cs) (hcv : cv.length = 15) (hcl : cs.length = 15) (hcells : Cells cs)
    (F : Fr h₀ L s.heap m) (N : News h₀ L s.heap [(d, listOf (List.toArray us) k), (c, listOf (List.toArray cv) kc)])
    (hret : ∀ h' tk' m', Fr h₀ L h' m' → News h₀ L h' [] → Q (.ret (.bool true)) { s with heap := h', toks := tk' }) :
    wpAny (model PySem.Challenge.rw_bs0023_01.row.prog w) (ktrTop dp un gd qn sc L fa cd [] outer) (execs body (envOf qn sc L fa cd)) Q E s := by
  w_top off
  revert X
  k_fill
  intro X
  conv at hsc => rhs; whnf
  conv at hbody => rhs; whnf
  subst hsc hbody
  have hMain : WdMain ns := ⟨hW⟩
  have hret2 : ∀ b h' tk' m', b = true → Fr h₀ L h' m' → Q (.ret (.bool b)) { s with heap := h', toks := tk' } := fun b h' tk' m' e F' => by
    subst e
    exact hret h' tk' m' F' (fun _ h => nomatch h)
  have e : m = (fun z : Str => if z = "cells" then some (.ref c) else if z = "words" then some (.ref d) else m z) := by
    funext z
    by_cases q1 : z = ("cells" : Str)
    · subst q1; simp only [mc, if_true]
    · by_cases q2 : z = ("words" : Str)
      · subst q2; simp only [mw, q1, if_false, if_true]
      · simp only [q1, q2, if_false]
  have F2 : Fr h₀ L s.heap (fun z : Str => if z = "cells" then some (.ref c) else if z = "words" then some (.ref d) else m z) := by rw [← e]; exact F
  clear F e mc mw
  repeat' (first | (k_unfold; (try dsimp only)) | walk1 | (dsimp only; walk1) | (leave1; walk_say "STEP leave1"; try dsimp only))
  all_goals first
    | exact due_z (by assumption)
    | exact due_nz (sum_nonneg hW) (by assumption)
    | (exfalso; first
      | exact bad1 (by assumption)
      | exact bad2 hW hl1 (by assumption)
      | exact bad3 hW hl1 (by assumption)
      | exact bad4 hW hl1 (by assumption)
      | exact bad5 hW hl1 (by assumption))
    | skip
  all_goals (rename Fr _ _ _ _ => kF)
  all_goals (try rw [show Int.toNat 13 = 13 from rfl])
  all_goals first
    | (rw [fin_odd (in_octs hW) (by walk_at "my row len") (by assumption) (by walk_at "my row len") (by assumption)]; exact hret _ _ _ kF (fun _ h => nomatch h))
    | (rw [fin_even (in_octs hW) (by walk_at "my row len") (by assumption) (by walk_at "my row len") (by assumption)]; exact hret _ _ _ kF (fun _ h => nomatch h))
    | (rw [fin_odd (in_odd hW _) (by walk_at "my row len") (by assumption) (by walk_at "my row len") (by assumption)]; exact hret _ _ _ kF (fun _ h => nomatch h))
    | (rw [fin_even (in_odd hW _) (by walk_at "my row len") (by assumption) (by walk_at "my row len") (by assumption)]; exact hret _ _ _ kF (fun _ h => nomatch h))
end Mine
end

section
/-! part H1 -/
namespace Mine
open PyProof.Rows.LCg
theorem b10 (x : Int) : 1 ≤ 1 + x.fmod 10 ∧ 1 + x.fmod 10 ≤ 10 := by rw [Int.fmod_eq_emod_of_nonneg _ (by omega)]; omega
theorem news_two {h₀ h : Heap} {L d c : Addr} {o o2 : Obj} {news : List (Addr × Obj)} (N : News h₀ L h news) (h1 : (d, o) ∈ news) (h2 : (c, o2) ∈ news) : News h₀ L h [(d, o), (c, o2)] := fun p hp => by
  rcases List.mem_cons.mp hp with rfl | hp
  · exact N _ h1
  · rw [List.mem_singleton.mp hp]; exact N _ h2
local macro_rules | `(tactic| walk_at "binaryOp Add ref ref") => `(tactic| (k_here; (with_reducible show wpAny _ _ (binaryOp _ (Value.ref _) (Value.ref _)) _ _ _); k_dflt (refine' my_cells _ ?F ?N ?a ?b ?i ?j ?e1 ?e2 ?_; (case F => k_asm); (case N => k_asm); (case a => kmk_list); (case b => kmk_list); (case i => l_ints); (case j => l_ints); (case e1 => rfl); (case e2 => rfl)); intro D' ws' cs h' F' N' l1 hI' hU' hL' hC'; (try k_lt l1); (try k_sweep)))
local macro_rules | `(tactic| walk_at "exec For Name Call cons nil") => `(tactic| (k_here; (rename Fr _ _ _ _ => lF'); (with_unfolding_all refine' For_invVF lF' ?k1 ?k2 ?_; (case k1 => exact rfl); (case k2 => exact rfl); k_whole)))
local macro_rules | `(tactic| walk_at "pyIter ref") => `(tactic| (k_here; (with_reducible show wpAny _ _ (pyIter (Value.ref _)) (fun it s₂ => LoopAtV _ _ _ _ _ _ _ _ _ it s₂) _ _); k_dflt ((rename Fr _ _ _ _ => lF'); (rename News _ _ _ _ => lN'); (rename IsRange _ _ _ _ _ _ _ _ => rgX); (refine' iter_fill ?q0 rgX ?q1 ?q2 ?q3 ?q4 ?qF ?qN ?qT ?_); (case qF => exact lF'); (case qN => exact lN'); (case q0 => rfl); (case q1 => exact (b10 _).1); (case q2 => exact (b10 _).2); (case q3 => exact List.mem_cons_self); (case q4 => k_all); (case qT => ((intro rest k t us ws kk u h tk a1 a2 a3 a4 a5 a6 a7 a8 a9 a10 a11); (refine' fill_turn _ _ rfl _ rfl _ _ _ _ _ _ _ (b10 _).2 ?cB ?cX ?cT ?cD ?cU ?mc ?mw ?cC ?cv ?cl ?ce rest k t us ws kk u a1 a2 a3 a4 a5 a6 a7 a8 a9 a10 a11); (case cB => k_asm); (case cX => k_asm); (case cT => k_asm); (case cD => ktr_room); (case cU => ktr_units); (case mc => rfl); (case mw => rfl); (case cC => assumption); (case cv => assumption); (case cl => assumption); (case ce => assumption))))))
local macro_rules | `(tactic| walk_at "execs cons") => `(tactic| (k_here; (with_reducible show wpAny _ _ (execs (Stmt.Assign [Expr.Name (Str.ofString "total") _] _ _ :: _) _) _ _ _); k_dflt ((rename Fr _ _ _ _ => lF'); (rename News _ _ _ _ => lN'); (refine' tail _ _ rfl _ rfl _ _ _ _ _ _ _ _ _ ?cB ?cX ?cT ?cD ?cU ?mc ?mw ?cI ?cW ?c1 ?c2 ?c3 ?c4 ?cC ?cv ?cl ?ce lF' ?cN ?_); (case cB => k_asm); (case cX => k_asm); (case cT => k_asm); (case cD => ktr_room); (case cU => ktr_units); (case mc => rfl); (case mw => rfl); (case cN => exact news_two lN' (by k_mem) (by k_mem)); (case cI => assumption); (case cC => assumption); (case cW => assumption); (case c1 => assumption); (case c2 => assumption); (case c3 => assumption); (case c4 => assumption); (case cv => assumption); (case cl => assumption); (case ce => assumption)); intro h9 tk9 m9 F9 N9))
theorem main : PySem.Challenge.rw_bs0023_01.Holds := hd (by
  k_go0
  all_goals try k_fold
  repeat' (first | (k_unfold; (try dsimp only)) | walk1 | (dsimp only; walk1) | (leave1; walk_say "STEP leave1"; try dsimp only))
  all_goals trace_state
  all_goals (dsimp only; wrow_close))
end Mine
end

theorem PySem.Challenge.cw_bs0023_01_holds : PySem.Challenge.rw_bs0023_01.Holds :=
  Mine.main
