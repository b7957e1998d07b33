import PyProof.Rows.All
import Wide.All
import OpenK.AllK
import Wide.FinOn
import Lean
import PySem.Challenge.RW_iw0034_01
set_option genSizeOf false
set_option bootstrap.genMatcherCode false
set_option compiler.extract_closed false
noncomputable section
open PySem
set_option Elab.async false
set_option maxRecDepth 100000
set_option linter.all false
namespace Lay
section
variable {prog : Program} {w : World}

noncomputable def IsPair (prog : Program) (w : World) (h : Heap) (k : Str × List Str) (a : Addr) : Prop :=
  ∃ o items n t b, h.get? a = some o ∧ o.cls = .type "tuple" ∧ o.data = .seq items n ∧ items.toList = [Value.str k.1 t, .ref b] ∧ IsTupleKey (PySem.strKind prog w) h k.2 b

theorem IsPair.typeIs {s : Shared} {k} {a : Addr} (x : IsPair prog w s.heap k a) : s.TypeIs (.ref a) "tuple" := let ⟨o, _, _, _, _, ho, hc, _⟩ := x; ⟨o, ho, hc⟩

theorem IsPair.inj {h : Heap} {a : Addr} {x y : Str × List Str} (hx : IsPair prog w h x a) (hy : IsPair prog w h y a) : x = y := by
  obtain ⟨o, items, n, t, b, ho, _, hd, hi, hk⟩ := hx
  obtain ⟨o', items', n', t', b', ho', _, hd', hi', hk'⟩ := hy
  obtain rfl : o = o' := Option.some.inj (ho.symm.trans ho')
  rw [hd] at hd'
  injection hd' with h1 _
  subst h1
  rw [hi] at hi'
  injection hi' with e1 e2
  injection e1 with e1 _
  injection e2 with e2 _
  injection e2 with e2
  subst e2
  exact Prod.ext e1 (hk.inj hk')

theorem IsPair.keeps {h h' : Heap} {ks : Str × List Str} {a d : Addr} {o : Obj} {es ep} (x : IsPair prog w h ks a) (ho : h.get? d = some o) (hd : o.data = .dict es ep) (hs : Heap.SameBut d h h') :
    IsPair prog w h' ks a := by
  obtain ⟨o', items, n, t, b, ho', hc, hd', hi, hk⟩ := x
  have hne : a ≠ d := by
    rintro rfl
    obtain rfl : o' = o := Option.some.inj (ho'.symm.trans ho)
    rw [hd] at hd'; exact nomatch hd'
  exact ⟨o', items, n, t, b, (hs.2 a hne).trans ho', hc, hd', hi, hk.keeps ho hd hs⟩

noncomputable def pairHash (prog : Program) (w : World) (k : Str × List Str) : Int := reduceHash (Builtin.Tuple.tupleHashOf [(PySem.strKind prog w).hash k.1, tupleKeyHash (PySem.strKind prog w) k.2])

variable {A : Around} {E : Value → Shared → Prop} {s : Shared}

theorem pyHash_pair {k : Str × List Str} {a : Addr} {Q : Int → Shared → Prop} (hu : A.units + 1 < cLine) (hk : IsPair prog w s.heap k a) (h : Q (pairHash prog w k) { s with toks := s.toks + (k.2.length + 3) }) :
    wpAny (model prog w) A (pyHash (.ref a)) Q E s := by
  have hT := hk.typeIs
  obtain ⟨o, items, n, t, b, ho, _, hd, hi, hb⟩ := hk
  unfold pyHash
  first | unfold pyHashByItsType | skip
  first | refine wpAny_bind (wpAny_cRoomFor_or (.inr (by omega)) ?_) | skip
  refine wpAny_bind (wpAny_specialOf hT F.slot_tuple_hash.lookup ?_)
  show wpAny _ _ (if (some (Value.builtin "tuple.__hash__") == some Value.none) = true then _ else _) Q E s
  rw [if_neg (by rw [beq_builtin_none]; exact Bool.false_ne_true)]
  refine wpAny_bind (wpAny_specialOf hT F.slot_tuple_hash.lookup ?_)
  show wpAny _ _ (callSpecialIfBoundUnlessNone? (.ref a) "__hash__" _ >>= _) Q E s
  refine wpAny_bind (wpAny_callSpecialIfBoundUnlessNone?_slot hT F.slot_tuple_hash (wpAny_call_entry F.slot_tuple_hash hT F.entry_tuple_hash ?_ (F.args_tuple_hash_1 _)))
  show wpAny _ _ (Builtin.Tuple.tupleItemsOf (.ref a) >>= _) _ _ s
  refine wpAny_bind (wpAny_tupleItemsOf ho hd ?_)
  refine wpAny_bind ?_
  rw [← Array.forIn_toList, hi]
  have e1 : Value.isStrOf k.1 (.str k.1 t) = true := by simp [Value.isStrOf]
  refine wpAny_forIn_list _
    (fun rest (bb : Array Int) s' => (rest = [Value.str k.1 t, .ref b] ∧ bb.toList = [] ∧ s' = s) ∨ (rest = [.ref b] ∧ bb.toList = [(PySem.strKind prog w).hash k.1] ∧ s' = { s with toks := s.toks + 1 }) ∨
      (rest = [] ∧ bb.toList = [(PySem.strKind prog w).hash k.1, tupleKeyHash (PySem.strKind prog w) k.2] ∧ s' = { s with toks := s.toks + (k.2.length + 2) }))
    _ ?_ ?_ _ _ (.inl ⟨rfl, rfl, rfl⟩)
  · rintro x rest bb s' (⟨hr, hb', rfl⟩ | ⟨hr, hb', rfl⟩ | ⟨hr, hb', rfl⟩)
    · cases hr
      refine wpAny_bind ((PySem.strKind prog w).pyHash e1 ?_)
      have fin : ∀ {P : Array Int → Prop}, P (bb.push ((PySem.strKind prog w).hash k.1)) → P (bb.push ((PySem.strKind prog w).hash k.1)) := fun h => h
      first
        | exact wpAny_pure (.inr (.inl ⟨rfl, by simp [hb'], rfl⟩))
        | exact wpAny_bind (wpAny_pure (wpAny_pure (.inr (.inl ⟨rfl, by simp [hb'], rfl⟩))))
    · cases hr
      refine wpAny_bind (wpAny_pyHash_tuple (knd := PySem.strKind prog w) (by simpa using hu) hb ?_)
      first
        | exact wpAny_pure (.inr (.inr ⟨rfl, by simp [hb'], by simp [Nat.add_assoc, Nat.add_comm, Nat.add_left_comm]⟩))
        | exact wpAny_bind (wpAny_pure (wpAny_pure (.inr (.inr ⟨rfl, by simp [hb'], by simp [Nat.add_assoc, Nat.add_comm, Nat.add_left_comm]⟩))))
    · cases hr
  · rintro bb s' (⟨hr, hb', rfl⟩ | ⟨hr, hb', rfl⟩ | ⟨hr, hb', rfl⟩)
    · cases hr
    · cases hr
    show wpAny _ _ (retInt (Builtin.Tuple.tupleHashOf bb.toList)) _ _ _
    rw [hb']
    refine wpAny_ret_mkInt ?_
    show wpAny _ _ (if (decide (-(2 : Int) ^ 63 ≤ Builtin.Tuple.tupleHashOf _) && decide (Builtin.Tuple.tupleHashOf _ < 2 ^ 63)) = true then _ else _) Q E _
    unfold pairHash reduceHash at h
    split
    · rename_i hr
      rw [if_pos hr] at h
      exact wpAny_pure (by simpa [Nat.add_assoc] using h)
    · rename_i hr
      rw [if_neg hr] at h
      exact wpAny_bind (wpAny_rule (wpAny_pure (by simpa [Nat.add_assoc] using h)))

theorem tuple_eq_pair {x y : Str × List Str} {a b : Addr} {P : Fin → Shared → Prop} (hu : A.units < cLine) (hx : IsPair prog w s.heap x a) (hy : IsPair prog w s.heap y b) (h : P (.done (.ret (.bool (decide (x = y))))) s) :
    wpAny (model prog w) A (Builtin.«tuple.__eq__» ⟨[.ref a, .ref b], []⟩) P E s := by
  have hTb := hy.typeIs
  obtain ⟨oa, xs, na, ta, pa, hoa, _, hda, hia, hka⟩ := hx
  obtain ⟨ob, ys, nb, tb, pb, hob, _, hdb, hib, hkb⟩ := hy
  show wpAny _ _ (isInstance (.ref b) (.type "tuple") >>= _) _ _ s
  refine wpAny_bind (wpAny_isInstance hTb isSubtype_tuple_tuple ?_)
  simp only [Bool.not_true, Bool.false_eq_true, if_false]
  refine wpAny_bind (wpAny_tupleItemsOf hoa hda ?_)
  refine wpAny_bind (wpAny_tupleItemsOf hob hdb ?_)
  refine wpAny_bind ?_
  have e1 : ∀ (k : Str) t, Value.isStrOf k (.str k t) = true := fun k t => by simp [Value.isStrOf]
  have hz : (xs.toList.zip ys.toList) = [(Value.str x.1 ta, Value.str y.1 tb), (.ref pa, .ref pb)] := by rw [hia, hib]; rfl
  have hl : (xs.size == ys.size) = true := by rw [← Array.length_toList, ← Array.length_toList, hia, hib]; rfl
  refine wpAny_forIn_list _
    (fun rest r s' => r.1 = none ∧ s' = s ∧ ((rest = [(Value.str x.1 ta, Value.str y.1 tb), (.ref pa, .ref pb)]) ∨ (rest = [(.ref pa, .ref pb)] ∧ x.1 = y.1) ∨ (rest = [] ∧ x = y)))
    _ ?_ ?_ _ _ ⟨rfl, rfl, .inl hz⟩
  · rintro ⟨u, v⟩ rest r s' ⟨hr, rfl, (hc | ⟨hc, e⟩ | ⟨hc, _⟩)⟩
    · cases hc
      refine wpAny_bind ((PySem.strKind prog w).eqBool (a := x.1) (b := y.1) (u := .str x.1 ta) (v := .str y.1 tb) (e1 x.1 ta) (e1 y.1 tb) ?_)
      by_cases hk : x.1 = y.1
      · rw [decide_eq_true hk]
        simp only [Bool.not_true, Bool.false_eq_true, if_false]
        exact wpAny_pure ⟨rfl, rfl, by simp [hk]⟩
      · rw [decide_eq_false hk]
        simp only [Bool.not_false, if_true]
        have hf : decide (x = y) = false := decide_eq_false fun e => hk (e ▸ rfl)
        rw [hf] at h
        exact wpAny_bind (wpAny_pure (wpAny_pure (wpAny_pure h)))
    · cases hc
      refine wpAny_bind (wpAny_eqBool_tuple (knd := PySem.strKind prog w) hu hka hkb ?_)
      by_cases hk : x.2 = y.2
      · rw [decide_eq_true hk]
        simp only [Bool.not_true, Bool.false_eq_true, if_false]
        exact wpAny_pure ⟨rfl, rfl, by simp [Prod.ext e hk]⟩
      · rw [decide_eq_false hk]
        simp only [Bool.not_false, if_true]
        have hf : decide (x = y) = false := decide_eq_false fun e => hk (e ▸ rfl)
        rw [hf] at h
        exact wpAny_bind (wpAny_pure (wpAny_pure (wpAny_pure h)))
    · cases hc
  · rintro ⟨r1, r2⟩ s' ⟨hr, rfl, (hc | ⟨hc, e⟩ | ⟨hc, e⟩)⟩
    · cases hc
    · cases hc
    simp only at hr
    subst hr
    refine wpAny_pure ?_
    show P (.done (.ret (.bool (xs.size == ys.size)))) s'
    rw [hl, ← decide_eq_true e]; exact h

theorem eqBool_pair {x y : Str × List Str} {a b : Addr} {Q : Bool → Shared → Prop} (hu : A.units + 1 < cLine) (hx : IsPair prog w s.heap x a) (hy : IsPair prog w s.heap y b) (h : Q (decide (x = y)) s) :
    wpAny (model prog w) A (eqBool (.ref a) (.ref b)) Q E s := by
  unfold eqBool
  try with_reducible refine wpAny_holding ?_
  show wpAny _ _ (if (Value.ref a == Value.ref b) = true then _ else _) Q E s
  by_cases hab : (Value.ref a == Value.ref b) = true
  · rw [if_pos hab]
    have e : a = b := by have := eq_of_beq hab; injection this
    subst e
    obtain rfl := hx.inj hy
    exact wpAny_bind (wpAny_rule (wpAny_pure (by simpa using h)))
  · rw [if_neg hab]
    exact wpAny_bind (wpAny_richCompare_same_room (op := .Eq) hx.typeIs hy.typeIs F.slot_tuple_eq
      (wpAny_call_entry F.slot_tuple_eq hx.typeIs F.entry_tuple_eq (tuple_eq_pair (by simpa using hu) hx hy ⟨_, rfl, (fun e => nomatch e), wpAny_truthy_bool h⟩) (F.args_tuple_eq_2 _ _)) (by omega))

theorem quiet_tuple {ks : List Str} {a : Addr} {n : Nat} {Q : Bool → Shared → Prop} (hk : IsTupleKey (PySem.strKind prog w) s.heap ks a) (h : Q true s) : wpAny (model prog w) A (eqIsQuiet (n + 1) (.ref a)) Q E s := by
  have hT := hk.typeIs
  obtain ⟨o, items, m, ho, _, hd, hi⟩ := hk
  unfold eqIsQuiet
  refine wpAny_bind (wpAny_specialOf hT F.slot_tuple_eq.lookup ?_)
  show wpAny _ _ (isInstance (.ref a) (.type "tuple") >>= _) _ _ s
  refine wpAny_bind (wpAny_isInstance hT isSubtype_tuple_tuple ?_)
  simp only [Bool.not_true, Bool.false_eq_true, if_false]
  refine wpAny_bind (wpAny_seqItems ho hd ?_)
  refine wpAny_bind ?_
  show wpAny _ _ (forIn items _ _) _ _ s
  rw [← Array.forIn_toList]
  refine wpAny_forIn_list _ (fun rest r s' => r.1 = none ∧ s' = s ∧ ∀ v ∈ rest, carriedByValue v = true) _ ?_ ?_ _ _ ⟨rfl, rfl, hi.byValue⟩
  · rintro v rest r s' ⟨hr, rfl, hall⟩
    rw [eqIsQuiet_byValue _ (hall v List.mem_cons_self)]
    refine wpAny_bind (wpAny_pure ?_)
    simp only [Bool.not_true, Bool.false_eq_true, if_false]
    exact wpAny_pure ⟨rfl, rfl, fun u hu' => hall u (List.mem_cons_of_mem _ hu')⟩
  · rintro ⟨r1, r2⟩ s' ⟨hr, rfl, _⟩
    simp only at hr
    subst hr
    exact wpAny_pure h

theorem quiet_pair {k : Str × List Str} {a : Addr} {Q : Bool → Shared → Prop} (hk : IsPair prog w s.heap k a) (h : Q true s) : wpAny (model prog w) A (eqIsQuiet 8 (.ref a)) Q E s := by
  have hT := hk.typeIs
  obtain ⟨o, items, m, t, b, ho, _, hd, hi, hb⟩ := hk
  unfold eqIsQuiet
  refine wpAny_bind (wpAny_specialOf hT F.slot_tuple_eq.lookup ?_)
  show wpAny _ _ (isInstance (.ref a) (.type "tuple") >>= _) _ _ s
  refine wpAny_bind (wpAny_isInstance hT isSubtype_tuple_tuple ?_)
  simp only [Bool.not_true, Bool.false_eq_true, if_false]
  refine wpAny_bind (wpAny_seqItems ho hd ?_)
  refine wpAny_bind ?_
  show wpAny _ _ (forIn items _ _) _ _ s
  rw [← Array.forIn_toList, hi]
  refine wpAny_forIn_list _ (fun rest r s' => r.1 = none ∧ s' = s ∧ ((∃ t', rest = [Value.str k.1 t', .ref b]) ∨ rest = [.ref b] ∨ rest = [])) _ ?_ ?_ _ _ ⟨rfl, rfl, .inl ⟨t, rfl⟩⟩
  · rintro v rest r s' ⟨hr, rfl, (⟨t', hc⟩ | hc | hc)⟩
    · cases hc
      rw [eqIsQuiet_byValue _ (by rfl)]
      refine wpAny_bind (wpAny_pure ?_)
      simp only [Bool.not_true, Bool.false_eq_true, if_false]
      exact wpAny_pure ⟨rfl, rfl, by simp⟩
    · cases hc
      refine wpAny_bind (quiet_tuple hb ?_)
      simp only [Bool.not_true, Bool.false_eq_true, if_false]
      exact wpAny_pure ⟨rfl, rfl, by simp⟩
    · cases hc
  · rintro ⟨r1, r2⟩ s' ⟨hr, rfl, _⟩
    simp only at hr
    subst hr
    exact wpAny_pure h
end

noncomputable def pairKind (prog : Program) (w : World) : HeapKind prog w (Str × List Str) where
  is := IsPair prog w
  hash := pairHash prog w
  draws := fun k => k.2.length + 3
  room := fun A => A.units + 1 < cLine
  inj := fun hx hy => hx.inj hy
  keeps := fun x ho hd hs => x.keeps ho hd hs
  pyHash := fun hu hk h => pyHash_pair hu hk h
  eqBool := fun hu hx hy h => eqBool_pair hu hx hy h
  quiet := fun hk h => quiet_pair hk h
end Lay
end
noncomputable section
open PySem PySem.W PyProof.Rows PySem.Calls
set_option Elab.async false
set_option maxRecDepth 100000
set_option linter.all false
namespace Lay

inductive V where
  | none | bool (b : Bool) | int (i : Int) | str (s : Str)
  | tup (xs : List V) | list (xs : List V) | inst (C : Addr) (fs : List (Str × V)) | ref (a : Addr) | raw (v : Value)

noncomputable abbrev Keep := Addr → Option Obj
noncomputable abbrev tupObj (items : Array Value) (n : Nat) : Obj := { cls := .type "tuple", dict := none, data := .seq items n, slots := #[] }
noncomputable abbrev instObj' (C dx : Addr) : Obj := { cls := .ref C, dict := some dx, data := .plain }
noncomputable abbrev lstObj (items : Array Value) (n : Nat) : Obj := { cls := .type "list", dict := none, data := .seq items n, slots := #[] }

mutual
inductive RelV (B : Keep) : Value → V → Prop
  | none : RelV B .none .none
  | bool (b) : RelV B (.bool b) (.bool b)
  | int (i t) : RelV B (.int i t) (.int i)
  | str (x t) : PyData.strOk x = true → RelV B (.str x t) (.str x)
  | tup {a items n xs} : B a = some (tupObj items n) → RelVs B items.toList xs → RelV B (.ref a) (.tup xs)
  | list {a items n xs} : B a = some (lstObj items n) → RelVs B items.toList xs → RelV B (.ref a) (.list xs)
  | inst {a C d o es ep fs} : B a = some (instObj' C d) → B d = some o → o.data = .dict es ep → RelFs B o fs → RelV B (.ref a) (.inst C fs)
  | ref (a) : RelV B (.ref a) (.ref a)
  | raw (v) : RelV B v (.raw v)
inductive RelVs (B : Keep) : List Value → List V → Prop
  | nil : RelVs B [] []
  | cons {v vs x xs} : RelV B v x → RelVs B vs xs → RelVs B (v :: vs) (x :: xs)
inductive RelFs (B : Keep) : Obj → List (Str × V) → Prop
  | nil {o} : RelFs B o []
  | cons {o k v x fs} : lookIn k o = some (some v) → RelV B v x → RelFs B o fs → RelFs B o ((k, x) :: fs)
end

noncomputable def Le (B B' : Keep) : Prop := ∀ a o, B a = some o → B' a = some o
theorem Le.refl (B : Keep) : Le B B := fun _ _ h => h
theorem Le.trans {B B' B'' : Keep} (h : Le B B') (h' : Le B' B'') : Le B B'' := fun a o e => h' a o (h a o e)

mutual
theorem RelV.mono {B B' : Keep} (h : Le B B') : ∀ {v : Value} {x : V}, RelV B v x → RelV B' v x
  | _, _, .none => .none
  | _, _, .bool b => .bool b
  | _, _, .int i t => .int i t
  | _, _, .str x t k => .str x t k
  | _, _, .tup hb r => .tup (h _ _ hb) (RelVs.mono h r)
  | _, _, .list hb r => .list (h _ _ hb) (RelVs.mono h r)
  | _, _, .inst h1 h2 h3 r => .inst (h _ _ h1) (h _ _ h2) h3 (RelFs.mono h r)
  | _, _, .ref a => .ref a
  | _, _, .raw v => .raw v
theorem RelVs.mono {B B' : Keep} (h : Le B B') : ∀ {v : List Value} {x : List V}, RelVs B v x → RelVs B' v x
  | _, _, .nil => .nil
  | _, _, .cons a r => .cons (RelV.mono h a) (RelVs.mono h r)
theorem RelFs.mono {B B' : Keep} (h : Le B B') : ∀ {o : Obj} {x : List (Str × V)}, RelFs B o x → RelFs B' o x
  | _, _, .nil => .nil
  | _, _, .cons e a r => .cons e (RelV.mono h a) (RelFs.mono h r)
end
theorem RelFs.get {B : Keep} : ∀ {o : Obj} {fs : List (Str × V)} {k : Str} {x : V}, RelFs B o fs → (fs.find? fun kv => kv.1 = k).map (·.2) = some x → ∃ v, lookIn k o = some (some v) ∧ RelV B v x
  | _, _, _, _, .nil, h => by cases h
  | o, (k', x') :: fs, k, x, .cons e a r, h => by
    rw [List.find?_cons] at h
    by_cases hk : k' = k
    · subst hk; simp at h; subst h; exact ⟨_, e, a⟩
    · simp only [hk, decide_false] at h; exact RelFs.get r h
theorem RelVs.length {B : Keep} : ∀ {vs : List Value} {xs : List V}, RelVs B vs xs → vs.length = xs.length
  | _, _, .nil => rfl
  | _, _, .cons _ r => by simp [RelVs.length r]
theorem RelVs.append {B : Keep} : ∀ {vs ws : List Value} {xs ys : List V}, RelVs B vs xs → RelVs B ws ys → RelVs B (vs ++ ws) (xs ++ ys)
  | _, _, _, _, .nil, h => h
  | _, _, _, _, .cons a r, h => .cons a (RelVs.append r h)
theorem RelVs.get {B : Keep} : ∀ {vs : List Value} {xs : List V} {i : Nat} {x : V}, RelVs B vs xs → xs[i]? = some x → ∃ v, vs[i]? = some v ∧ RelV B v x
  | _, _, _, _, .nil, h => by simp at h
  | _, _, 0, _, .cons a r, h => by simp at h; subst h; exact ⟨_, by simp, a⟩
  | _, _, i + 1, _, .cons a r, h => by
    obtain ⟨v, h1, h2⟩ := RelVs.get r (i := i) (by simpa using h)
    exact ⟨v, by simpa using h1, h2⟩
theorem RelVs.take {B : Keep} : ∀ {vs : List Value} {xs : List V} (n : Nat), RelVs B vs xs → RelVs B (vs.take n) (xs.take n)
  | _, _, 0, _ => by simp; exact .nil
  | _, _, n + 1, .nil => by simp; exact .nil
  | _, _, n + 1, .cons a r => by simp; exact .cons a (RelVs.take n r)
theorem RelVs.drop {B : Keep} : ∀ {vs : List Value} {xs : List V} (n : Nat), RelVs B vs xs → RelVs B (vs.drop n) (xs.drop n)
  | _, _, 0, h => by simpa using h
  | _, _, n + 1, .nil => by simp; exact .nil
  | _, _, n + 1, .cons a r => by simp; exact RelVs.drop n r
inductive RelKs {κ : Type} (B : Keep) : List (κ × Value) → List (κ × V) → Prop
  | nil : RelKs B [] []
  | cons {k v x vs xs} : RelV B v x → RelKs B vs xs → RelKs B ((k, v) :: vs) ((k, x) :: xs)
theorem RelKs.mono {κ : Type} {B B' : Keep} (h : Le B B') : ∀ {v : List (κ × Value)} {x : List (κ × V)}, RelKs B v x → RelKs B' v x
  | _, _, .nil => .nil
  | _, _, .cons a r => .cons (a.mono h) (RelKs.mono h r)
theorem RelKs.keys {κ : Type} {B : Keep} : ∀ {v : List (κ × Value)} {x : List (κ × V)}, RelKs B v x → v.map (·.1) = x.map (·.1)
  | _, _, .nil => rfl
  | _, _, .cons _ r => by simp [RelKs.keys r]
theorem RelKs.length {κ : Type} {B : Keep} {v : List (κ × Value)} {x : List (κ × V)} (h : RelKs B v x) : v.length = x.length := by
  have := congrArg List.length h.keys; simpa using this
theorem RelKs.append {κ : Type} {B : Keep} : ∀ {vs ws : List (κ × Value)} {xs ys : List (κ × V)}, RelKs B vs xs → RelKs B ws ys → RelKs B (vs ++ ws) (xs ++ ys)
  | _, _, _, _, .nil, h => h
  | _, _, _, _, .cons a r, h => .cons a (RelKs.append r h)

set_option genInjectivity false in
structure Hp where
  L : Addr → Option (List V) := fun _ => none
  D : Addr → Option (List (Str × V)) := fun _ => none
  P : Addr → Option (List (Str × List Str)) := fun _ => none
  S : Addr → Option ((Str → Bool) × Nat) := fun _ => none
  I : Addr → Option (Addr × Addr) := fun _ => none
  C : Addr → Option (Option V) := fun _ => none
  G : Addr → Option Nat := fun _ => none

noncomputable def up {α : Type} (f : Addr → Option α) (a : Addr) (x : α) : Addr → Option α := fun b => if b = a then some x else f b
@[simp] theorem up_self {α : Type} (f : Addr → Option α) (a : Addr) (x : α) : up f a x a = some x := by simp [up]
theorem up_ne {α : Type} {f : Addr → Option α} {a b : Addr} {x : α} (h : b ≠ a) : up f a x b = f b := by simp [up, h]

noncomputable def Hp.Own (H : Hp) (a : Addr) : Prop := H.L a ≠ none ∨ H.D a ≠ none ∨ H.P a ≠ none ∨ H.S a ≠ none ∨ H.I a ≠ none ∨ H.C a ≠ none

set_option genInjectivity false in
structure Base where
  prog : Program
  w : World
  base : Heap
  os : OsState
  lim : Addr
  saved : List (Addr × Obj)
  lo : Keep

noncomputable def relOpt (B : Keep) : Option Value → Option V → Prop
  | none, none => True
  | some v, some x => RelV B v x
  | _, _ => False
theorem relOpt.mono {B B' : Keep} (h : Le B B') {v x} (r : relOpt B v x) : relOpt B' v x := by
  cases v <;> cases x <;> first | exact trivial | exact r.elim | exact RelV.mono h r

noncomputable def pairV (k : Str × List Str) : V := .tup [.str k.1, .tup (k.2.map .str)]

structure OwnAt (c : Base) (B : Keep) (h : Heap) (H : Hp) (a : Addr) : Prop where
  out : H.Own a → B a = none ∧ c.lim < a
  l : ∀ xs, H.L a = some xs → ∃ items n, IsL h a items n ∧ RelVs B items.toList xs
  d : ∀ kvs, H.D a = some kvs → (∀ p ∈ kvs, PyData.strOk p.1 = true) ∧ ∃ cs, h.DictOf (PySem.strKind c.prog c.w) a cs ∧ RelKs B cs kvs
  p : ∀ ks, H.P a = some ks → ∃ o es ep, ∃ xs : List ((Str × List Str) × Addr × Value), h.get? a = some o ∧ o.ExactDict ∧ o.data = .dict es ep ∧ es.toList = xs.map (entryOfKey (pairKind c.prog c.w)) ∧ xs.map (·.1) = ks ∧ ks.Nodup ∧ ∀ x ∈ xs, RelV B (.ref x.2.1) (pairV x.1)
  s : ∀ S, H.S a = some S → h.SetOf (PySem.strKind c.prog c.w) a S.1 S.2
  i : ∀ Cd, H.I a = some Cd → h.get? a = some (instObj' Cd.1 Cd.2)
  c : ∀ ov, H.C a = some ov → ∃ o v, h.get? a = some o ∧ o.data = .cell v ∧ relOpt B v ov
  dp : H.D a ≠ none → H.P a = none
  g : ∀ ep, H.G a = some ep → H.D a ≠ none ∧ ∃ o es, h.get? a = some o ∧ o.data = .dict es ep

theorem OwnAt.mono {c : Base} {B B' : Keep} {h h' : Heap} {H : Hp} {a : Addr} (hB : Le B B') (hk : ∀ o, h.get? a = some o → h'.get? a = some o) (hout : H.Own a → B' a = none) (x : OwnAt c B h H a) : OwnAt c B' h' H a where
  out := fun h => ⟨hout h, (x.out h).2⟩
  l := fun xs e => let ⟨i, n, q, r⟩ := x.l xs e; ⟨i, n, hk _ q, r.mono hB⟩
  d := fun kvs e => let ⟨k, cs, ⟨o, es, ep, q, z⟩, r⟩ := x.d kvs e; ⟨k, cs, ⟨o, es, ep, hk _ q, z⟩, r.mono hB⟩
  p := fun ks e => let ⟨o, es, ep, xs, q, z1, z2, z3, z4, z5, z6⟩ := x.p ks e; ⟨o, es, ep, xs, hk _ q, z1, z2, z3, z4, z5, fun y hy => (z6 y hy).mono hB⟩
  s := fun S e => let ⟨o, q⟩ := x.s S e; by
    obtain ⟨es, ep, t, q1, q2⟩ := q
    exact ⟨o, es, ep, t, hk _ q1, q2⟩
  i := fun Cd e => hk _ (x.i Cd e)
  c := fun ov e => let ⟨o, v, q, d, r⟩ := x.c ov e; ⟨o, v, hk _ q, d, r.mono hB⟩
  dp := x.dp
  g := fun ep e => let ⟨z, o, es, q, d⟩ := x.g ep e; ⟨z, o, es, hk _ q, d⟩

theorem OwnAt.at_ {c : Base} {B : Keep} {h : Heap} {H : Hp} {a : Addr} (x : OwnAt c B h H a) (o : H.Own a) : ∃ ob, h.get? a = some ob := by
  rcases o with e | e | e | e | e | e
  · obtain ⟨xs, e⟩ := Option.ne_none_iff_exists'.mp e; obtain ⟨i, n, q, _⟩ := x.l xs e; exact ⟨_, q⟩
  · obtain ⟨xs, e⟩ := Option.ne_none_iff_exists'.mp e; obtain ⟨_, cs, ⟨o, es, ep, q, z⟩, r⟩ := x.d xs e; exact ⟨_, q⟩
  · obtain ⟨xs, e⟩ := Option.ne_none_iff_exists'.mp e; obtain ⟨o, es, ep, xs, q, _⟩ := x.p xs e; exact ⟨_, q⟩
  · obtain ⟨xs, e⟩ := Option.ne_none_iff_exists'.mp e; obtain ⟨o, es, ep, t, q, _⟩ := x.s xs e; exact ⟨_, q⟩
  · obtain ⟨xs, e⟩ := Option.ne_none_iff_exists'.mp e; exact ⟨_, x.i xs e⟩
  · obtain ⟨xs, e⟩ := Option.ne_none_iff_exists'.mp e; obtain ⟨o, v, q, _⟩ := x.c xs e; exact ⟨_, q⟩

noncomputable def Hp.SameAt (H H' : Hp) (a : Addr) : Prop := H.L a = H'.L a ∧ H.D a = H'.D a ∧ H.P a = H'.P a ∧ H.S a = H'.S a ∧ H.I a = H'.I a ∧ H.C a = H'.C a ∧ H.G a = H'.G a
theorem Hp.SameAt.own {H H' : Hp} {a : Addr} (e : H.SameAt H' a) (o : H'.Own a) : H.Own a := by
  obtain ⟨e1, e2, e3, e4, e5, e6, _⟩ := e
  unfold Hp.Own at *
  rw [e1, e2, e3, e4, e5, e6]; exact o
theorem OwnAt.same {c : Base} {B : Keep} {h : Heap} {H H' : Hp} {a : Addr} (e : H.SameAt H' a) (x : OwnAt c B h H a) : OwnAt c B h H' a := by
  have e' := e
  obtain ⟨e1, e2, e3, e4, e5, e6, e7⟩ := e
  exact ⟨fun o => x.out (e'.own o), fun y hy => x.l y (e1.trans hy), fun y hy => x.d y (e2.trans hy), fun y hy => x.p y (e3.trans hy), fun y hy => x.s y (e4.trans hy), fun y hy => x.i y (e5.trans hy), fun y hy => x.c y (e6.trans hy),
    fun z => by rw [← e3]; exact x.dp (by rw [e2]; exact z), fun y hy => by rw [← e2]; exact x.g y (e7.trans hy)⟩

noncomputable def slotOf (nm : List (Str × NameKind)) (x : Str) : Option Nat := nm.findIdx? fun p => p.1 == x
theorem slotOf_inj {nm : List (Str × NameKind)} {x y : Str} {i : Nat} (hx : slotOf nm x = some i) (hy : slotOf nm y = some i) : x = y := by
  obtain ⟨h1, h2, _⟩ := List.findIdx?_eq_some_iff_getElem.mp hx
  obtain ⟨_, h3, _⟩ := List.findIdx?_eq_some_iff_getElem.mp hy
  exact (eq_of_beq h2).symm.trans (eq_of_beq h3)

noncomputable def LocOk (B : Keep) (nm : List (Str × NameKind)) (loc : List (Option V)) (m : Str → Option Value) : Prop :=
  ∀ x i X, slotOf nm x = some i → loc[i]? = some (some X) → ∃ v, m x = some v ∧ RelV B v X
theorem LocOk.mono {B B' : Keep} (h : Le B B') {nm loc m} (x : LocOk B nm loc m) : LocOk B' nm loc m :=
  fun y i X a b => let ⟨v, e, r⟩ := x y i X a b; ⟨v, e, r.mono h⟩
theorem LocOk.set {B : Keep} {nm loc m} {x : Str} {i : Nat} {v : Value} {X : V} (h : LocOk B nm loc m) (hx : slotOf nm x = some i) (hv : RelV B v X) : LocOk B nm (loc.set i (some X)) (fun y => if y = x then some v else m y) := by
  intro y j Y hy hl
  by_cases e : y = x
  · subst e
    obtain rfl : i = j := Option.some.inj (hx.symm.trans hy)
    rw [List.getElem?_set] at hl
    simp only [if_true] at hl
    split at hl
    · cases hl; exact ⟨v, by simp, hv⟩
    · cases hl
  · have hne : i ≠ j := fun z => e (slotOf_inj hy (z ▸ hx))
    rw [List.getElem?_set_ne hne] at hl
    obtain ⟨u, e1, e2⟩ := h y j Y hy hl
    exact ⟨u, by simp [e, e1], e2⟩

structure Rel (c : Base) (L : Addr) (nm : List (Str × NameKind)) (B : Keep) (loc : List (Option V)) (H : Hp) (s : Shared) : Prop where
  keep : ∀ a o, B a = some o → s.heap.get? a = some o
  based : (∀ a o, c.base.get? a = some o → c.lo a = some o) ∧ Le c.lo B
  own : ∀ a, OwnAt c B s.heap H a
  lB : B L = none
  lH : ¬ H.Own L
  ns : ∃ m, s.heap.Ns L m ∧ LocOk B nm loc m
  gens : s.gens = #[]
  os : s.os = c.os
  lim : 1 ≤ c.lim ∧ ∃ o, c.base.get? c.lim = some o
  sv : ∀ p ∈ c.saved, (∃ o, s.heap.get? p.1 = some o ∧ o.data = p.2.data ∧ ((∀ es ep, p.2.data ≠ .dict es ep) → o = p.2)) ∧ B p.1 = none ∧ ¬ H.Own p.1 ∧ p.1 ≠ L

section
variable {c : Base} {L : Addr} {nm : List (Str × NameKind)} {B : Keep} {loc : List (Option V)} {H : Hp} {s : Shared}

theorem Rel.inBase (R : Rel c L nm B loc H s) {a : Addr} {o : Obj} (e : c.base.get? a = some o) : s.heap.get? a = some o := R.keep _ _ (R.based.2 _ _ (R.based.1 _ _ e))

theorem Rel.grow (R : Rel c L nm B loc H s) {s' : Shared} (hk : ∀ b o, s.heap.get? b = some o → s'.heap.get? b = some o) (hg : s'.gens = s.gens) (ho : s'.os = s.os) : Rel c L nm B loc H s' where
  keep := fun a o e => hk _ _ (R.keep a o e)
  based := R.based
  own := fun a => (R.own a).mono (Le.refl _) (hk a) fun h => ((R.own a).out h).1
  lB := R.lB
  lH := R.lH
  ns := let ⟨m, n, l⟩ := R.ns; ⟨m, n.keeps hk, l⟩
  gens := hg.trans R.gens
  os := ho.trans R.os
  lim := R.lim
  sv := fun p hp => let ⟨⟨o, x1, y1⟩, x2⟩ := R.sv p hp; ⟨⟨o, hk _ _ x1, y1⟩, x2⟩
theorem Rel.tok (R : Rel c L nm B loc H s) (t : Nat) : Rel c L nm B loc H { s with toks := t } := R.grow (fun _ _ e => e) rfl rfl

theorem Rel.fresh_B (R : Rel c L nm B loc H s) {a : Addr} (e : s.heap.get? a = none) : B a = none := by
  cases h : B a with
  | none => rfl
  | some o => rw [R.keep _ _ h] at e; cases e
theorem Rel.fresh_H (R : Rel c L nm B loc H s) {a : Addr} (e : s.heap.get? a = none) : ¬ H.Own a := fun h => by
  obtain ⟨o, q⟩ := (R.own a).at_ h
  rw [q] at e; cases e
theorem Rel.fresh_L (R : Rel c L nm B loc H s) {a : Addr} (e : s.heap.get? a = none) : a ≠ L := by
  rintro rfl
  obtain ⟨m, ⟨o, _, _, q, _⟩, _⟩ := R.ns
  rw [q] at e; cases e
theorem Rel.fresh (R : Rel c L nm B loc H s) {a : Addr} (hf : s.heap.objs.size ≤ a) : s.heap.get? a = none ∧ c.lim < a := by
  refine ⟨?_, ?_⟩
  · cases e : s.heap.get? a with
    | none => rfl
    | some o => exact absurd (Heap.lt_size e) (Nat.not_lt.mpr hf)
  · obtain ⟨_, o, e⟩ := R.lim
    exact Nat.lt_of_lt_of_le (Heap.lt_size (R.inBase e)) hf
theorem Rel.fresh_G (R : Rel c L nm B loc H s) {a : Addr} (e : s.heap.get? a = none) : H.G a = none := by
  cases h : H.G a with
  | none => rfl
  | some ep => obtain ⟨_, o, es, q, _⟩ := (R.own a).g _ h; rw [e] at q; cases q
theorem not_own {H : Hp} {a : Addr} (h : ¬ H.Own a) : H.L a = none ∧ H.D a = none ∧ H.P a = none ∧ H.S a = none ∧ H.I a = none ∧ H.C a = none := by
  unfold Hp.Own at h
  simp only [not_or, Decidable.not_not] at h
  exact h

noncomputable def addB (B : Keep) (a : Addr) (o : Obj) : Keep := fun b => if b = a then some o else B b
theorem addB_le {B : Keep} {a : Addr} {o : Obj} (h : B a = none) : Le B (addB B a o) := fun b p e => by
  unfold addB
  split
  · rename_i z; subst z; rw [h] at e; cases e
  · exact e

theorem Rel.hold (R : Rel c L nm B loc H s) {s' : Shared} {a : Addr} {o : Obj} (hf : s.heap.objs.size ≤ a) (hk : ∀ b o, s.heap.get? b = some o → s'.heap.get? b = some o) (ha : s'.heap.get? a = some o) (hg : s'.gens = s.gens) (ho : s'.os = s.os) :
    Rel c L nm (addB B a o) loc H s' ∧ Le B (addB B a o) ∧ addB B a o a = some o := by
  have hf := (R.fresh hf).1
  have hle := addB_le (o := o) (R.fresh_B hf)
  refine ⟨⟨fun b p e => ?_, ⟨R.based.1, R.based.2.trans hle⟩, fun b => (R.own b).mono hle (hk b) fun h => ?_, ?_, R.lH, ?_, hg.trans R.gens, ho.trans R.os, R.lim, ?_⟩, hle, by simp [addB]⟩
  · unfold addB at e
    split at e
    · rename_i z; subst z; cases e; exact ha
    · exact hk _ _ (R.keep _ _ e)
  · unfold addB
    split
    · rename_i z; subst z; exact absurd h (R.fresh_H hf)
    · exact ((R.own b).out h).1
  · unfold addB
    split
    · rename_i z; exact absurd z.symm (R.fresh_L hf)
    · exact R.lB
  · obtain ⟨m, n, l⟩ := R.ns
    exact ⟨m, n.keeps hk, l.mono hle⟩
  · intro p hp
    obtain ⟨⟨ob, x1, y1⟩, x2, x3⟩ := R.sv p hp
    refine ⟨⟨ob, hk _ _ x1, y1⟩, ?_, x3⟩
    unfold addB
    rw [if_neg]; exact x2
    rintro rfl; rw [hf] at x1; cases x1

theorem Rel.chg (R : Rel c L nm B loc H s) {s' : Shared} {H' : Hp} {a : Addr} (hB : B a = none) (hL : a ≠ L) (hS : ∀ p ∈ c.saved, p.1 ≠ a) (hk : ∀ b o, b ≠ a → s.heap.get? b = some o → s'.heap.get? b = some o) (hs : ∀ b, b ≠ a → H.SameAt H' b)
    (hn : OwnAt c B s'.heap H' a) (hg : s'.gens = s.gens) (ho : s'.os = s.os) : Rel c L nm B loc H' s' where
  keep := fun b o e => hk _ _ (fun z => by subst z; rw [hB] at e; cases e) (R.keep b o e)
  based := R.based
  own := fun b => by
    by_cases hb : b = a
    · subst hb; exact hn
    · exact ((R.own b).mono (Le.refl _) (fun o => hk b o hb) fun h => ((R.own b).out h).1).same (hs b hb)
  lB := R.lB
  lH := fun h => R.lH ((hs L (Ne.symm hL)).own h)
  ns := by
    obtain ⟨m, ⟨o, es, ep, q, z⟩, l⟩ := R.ns
    exact ⟨m, ⟨o, es, ep, hk _ _ (Ne.symm hL) q, z⟩, l⟩
  gens := hg.trans R.gens
  os := ho.trans R.os
  lim := R.lim
  sv := fun p hp => let ⟨⟨o, x1, y1⟩, x2, x3, x4⟩ := R.sv p hp; ⟨⟨o, hk _ _ (hS p hp) x1, y1⟩, x2, fun h => x3 ((hs p.1 (hS p hp)).own h), x4⟩

theorem up_same {α : Type} (f : Addr → Option α) (a : Addr) (x : α) {b : Addr} (h : b ≠ a) : f b = up f a x b := (up_ne h).symm
theorem Rel.own_ne_L (R : Rel c L nm B loc H s) {a : Addr} (h : H.Own a) : a ≠ L := fun e => R.lH (e ▸ h)


theorem OwnAt.none_of {h : Heap} {a : Addr} {o : Obj} (x : OwnAt c B h H a) (q : h.get? a = some o) :
    (o.cls ≠ .type "list" → H.L a = none) ∧ (o.cls ≠ .type "dict" → H.D a = none ∧ H.P a = none) ∧ (o.cls ≠ .type "set" → H.S a = none) ∧ ((∀ C, o.cls ≠ .ref C) → H.I a = none) ∧ ((∀ v, o.data ≠ .cell v) → H.C a = none) := by
  refine ⟨fun k => ?_, fun k => ⟨?_, ?_⟩, fun k => ?_, fun k => ?_, fun k => ?_⟩
  · cases z : H.L a with
    | none => rfl
    | some y => obtain ⟨i, n, q', _⟩ := x.l y z; have q' := q.symm.trans q'; cases q'; exact absurd rfl k
  · cases z : H.D a with
    | none => rfl
    | some y => obtain ⟨_, cs, ⟨o', es, ep, q', ⟨w, _⟩, _⟩, r⟩ := x.d y z; rw [q] at q'; cases q'; exact absurd w k
  · cases z : H.P a with
    | none => rfl
    | some y => obtain ⟨o', es, ep, xs, q', ⟨w, _⟩, _⟩ := x.p y z; rw [q] at q'; cases q'; exact absurd w k
  · cases z : H.S a with
    | none => rfl
    | some y => obtain ⟨o', es, ep, t, q', ⟨w, _⟩, _⟩ := x.s y z; rw [q] at q'; cases q'; exact absurd w k
  · cases z : H.I a with
    | none => rfl
    | some y => have q' := x.i y z; rw [q] at q'; cases q'; exact absurd rfl (k _)
  · cases z : H.C a with
    | none => rfl
    | some y => obtain ⟨o', v, q', w, _⟩ := x.c y z; rw [q] at q'; cases q'; exact absurd w (k _)

theorem Rel.of_old (R : Rel c L nm B loc H s) {s' : Shared} {a : Addr} {H' : Hp} (hw : H.Own a) (hk : ∀ b o, b ≠ a → s.heap.get? b = some o → s'.heap.get? b = some o) (hs : ∀ b, b ≠ a → H.SameAt H' b)
    (hn : OwnAt c B s'.heap H' a) (hg : s'.gens = s.gens) (ho : s'.os = s.os) : Rel c L nm B loc H' s' :=
  R.chg ((R.own a).out hw).1 (R.own_ne_L hw) (fun p hp e => (R.sv p hp).2.2.1 (e ▸ hw)) hk hs hn hg ho
theorem Rel.of_new (R : Rel c L nm B loc H s) {s' : Shared} {a : Addr} {H' : Hp} (hf : s.heap.objs.size ≤ a) (hk : ∀ b o, s.heap.get? b = some o → s'.heap.get? b = some o) (hs : ∀ b, b ≠ a → H.SameAt H' b)
    (hn : OwnAt c B s'.heap H' a) (hg : s'.gens = s.gens) (ho : s'.os = s.os) : Rel c L nm B loc H' s' :=
  R.chg (R.fresh_B (R.fresh hf).1) (R.fresh_L (R.fresh hf).1) (fun p hp e => by obtain ⟨o, h1, _⟩ := (R.sv p hp).1; rw [e, (R.fresh hf).1] at h1; cases h1) (fun b o _ e => hk b o e) hs hn hg ho

theorem Rel.setL (R : Rel c L nm B loc H s) {s' : Shared} {a : Addr} {xs xs' : List V} (e : H.L a = some xs) (hk : ∀ b o, b ≠ a → s.heap.get? b = some o → s'.heap.get? b = some o) {items : Array Value} {n : Nat} (hn : IsL s'.heap a items n) (hr : RelVs B items.toList xs') (hg : s'.gens = s.gens) (ho : s'.os = s.os) : Rel c L nm B loc { H with L := up H.L a xs' } s' := by
  have hw : H.Own a := by unfold Hp.Own; rw [e]; simp
  obtain ⟨_, _, q, _⟩ := (R.own a).l _ e
  obtain ⟨_, z2, z3, z4, z5⟩ := (R.own a).none_of q
  have y1 := (z2 (by intro h; injection h with h; exact absurd h (by decide))).1
  have y2 := (z2 (by intro h; injection h with h; exact absurd h (by decide))).2
  have y3 := z3 (by intro h; injection h with h; exact absurd h (by decide))
  have y4 := z4 (by intro C h; cases h)
  have y5 := z5 (by intro v h; cases h)
  refine R.of_old hw hk (fun b hb => ⟨up_same _ _ _ hb, rfl, rfl, rfl, rfl, rfl, rfl⟩) ⟨fun _ => (R.own a).out hw, ?_, ?_, ?_, ?_, ?_, ?_, ?_, ?_⟩ hg ho
  · intro y hy
    simp only [up_self, Option.some.injEq] at hy
    subst hy; exact ⟨_, _, hn, hr⟩
  · intro y hy; rw [y1] at hy; cases hy
  · intro y hy; rw [y2] at hy; cases hy
  · intro y hy; rw [y3] at hy; cases hy
  · intro y hy; rw [y4] at hy; cases hy
  · intro y hy; rw [y5] at hy; cases hy
  · intro _; exact y2
  · intro y hy; obtain ⟨_, o', es, q', d'⟩ := (R.own a).g y hy; rw [q] at q'; cases q'; cases d'

theorem Rel.newL (R : Rel c L nm B loc H s) {s' : Shared} {a : Addr} {xs' : List V} (hf : s.heap.objs.size ≤ a) (hk : ∀ b o, s.heap.get? b = some o → s'.heap.get? b = some o) {items : Array Value} {n : Nat} (hn : IsL s'.heap a items n) (hr : RelVs B items.toList xs') (hg : s'.gens = s.gens) (ho : s'.os = s.os) : Rel c L nm B loc { H with L := up H.L a xs' } s' := by
  obtain ⟨x1, x2, x3, x4, x5, x6⟩ := not_own (R.fresh_H (R.fresh hf).1)
  refine R.of_new hf hk (fun b hb => ⟨up_same _ _ _ hb, rfl, rfl, rfl, rfl, rfl, rfl⟩) ⟨fun _ => ⟨R.fresh_B (R.fresh hf).1, (R.fresh hf).2⟩, ?_, ?_, ?_, ?_, ?_, ?_, ?_, ?_⟩ hg ho
  · intro y hy
    simp only [up_self, Option.some.injEq] at hy
    subst hy; exact ⟨_, _, hn, hr⟩
  · intro y hy; rw [x2] at hy; cases hy
  · intro y hy; rw [x3] at hy; cases hy
  · intro y hy; rw [x4] at hy; cases hy
  · intro y hy; rw [x5] at hy; cases hy
  · intro y hy; rw [x6] at hy; cases hy
  · intro _; exact x3
  · intro y hy; have := R.fresh_G (R.fresh hf).1; simp only [this] at hy; cases hy

theorem Rel.setD (R : Rel c L nm B loc H s) {s' : Shared} {a : Addr} {kvs kvs' : List (Str × V)} (e : H.D a = some kvs) (eG : H.G a = none) (hk : ∀ b o, b ≠ a → s.heap.get? b = some o → s'.heap.get? b = some o) {cs : List (Str × Value)} (hkk : ∀ p ∈ kvs', PyData.strOk p.1 = true) (hn : s'.heap.DictOf (PySem.strKind c.prog c.w) a cs) (hr : RelKs B cs kvs') (hg : s'.gens = s.gens) (ho : s'.os = s.os) : Rel c L nm B loc { H with D := up H.D a kvs' } s' := by
  have hw : H.Own a := by unfold Hp.Own; rw [e]; simp
  obtain ⟨_, _, ⟨o, es, ep, q, ⟨w, _⟩, w2, _⟩, _⟩ := (R.own a).d _ e
  obtain ⟨z1, _, z3, z4, z5⟩ := (R.own a).none_of q
  have y1 := z1 (by rw [w]; decide)
  have y2 := (R.own a).dp (by rw [e]; simp)
  have y3 := z3 (by rw [w]; decide)
  have y4 := z4 (by intro C h; rw [w] at h; cases h)
  have y5 := z5 (by intro v h; rw [w2] at h; cases h)
  refine R.of_old hw hk (fun b hb => ⟨rfl, up_same _ _ _ hb, rfl, rfl, rfl, rfl, rfl⟩) ⟨fun _ => (R.own a).out hw, ?_, ?_, ?_, ?_, ?_, ?_, ?_, ?_⟩ hg ho
  · intro y hy; rw [y1] at hy; cases hy
  · intro y hy
    simp only [up_self, Option.some.injEq] at hy
    subst hy; exact ⟨hkk, _, hn, hr⟩
  · intro y hy; rw [y2] at hy; cases hy
  · intro y hy; rw [y3] at hy; cases hy
  · intro y hy; rw [y4] at hy; cases hy
  · intro y hy; rw [y5] at hy; cases hy
  · intro _; exact y2
  · intro y hy; simp only [eG] at hy; cases hy

theorem Rel.newD (R : Rel c L nm B loc H s) {s' : Shared} {a : Addr} {kvs' : List (Str × V)} (hf : s.heap.objs.size ≤ a) (hk : ∀ b o, s.heap.get? b = some o → s'.heap.get? b = some o) {cs : List (Str × Value)} (hkk : ∀ p ∈ kvs', PyData.strOk p.1 = true) (hn : s'.heap.DictOf (PySem.strKind c.prog c.w) a cs) (hr : RelKs B cs kvs') (hg : s'.gens = s.gens) (ho : s'.os = s.os) : Rel c L nm B loc { H with D := up H.D a kvs' } s' := by
  obtain ⟨x1, x2, x3, x4, x5, x6⟩ := not_own (R.fresh_H (R.fresh hf).1)
  refine R.of_new hf hk (fun b hb => ⟨rfl, up_same _ _ _ hb, rfl, rfl, rfl, rfl, rfl⟩) ⟨fun _ => ⟨R.fresh_B (R.fresh hf).1, (R.fresh hf).2⟩, ?_, ?_, ?_, ?_, ?_, ?_, ?_, ?_⟩ hg ho
  · intro y hy; rw [x1] at hy; cases hy
  · intro y hy
    simp only [up_self, Option.some.injEq] at hy
    subst hy; exact ⟨hkk, _, hn, hr⟩
  · intro y hy; rw [x3] at hy; cases hy
  · intro y hy; rw [x4] at hy; cases hy
  · intro y hy; rw [x5] at hy; cases hy
  · intro y hy; rw [x6] at hy; cases hy
  · intro _; exact x3
  · intro y hy; have := R.fresh_G (R.fresh hf).1; simp only [this] at hy; cases hy

theorem Rel.setP (R : Rel c L nm B loc H s) {s' : Shared} {a : Addr} {ks ks' : List (Str × List Str)} (e : H.P a = some ks) (eG : H.G a = none) (hk : ∀ b o, b ≠ a → s.heap.get? b = some o → s'.heap.get? b = some o) {o : Obj} {es : Array DictEntry} {ep : Nat} {xs : List ((Str × List Str) × Addr × Value)} (hn : s'.heap.get? a = some o) (hx : o.ExactDict) (hd : o.data = .dict es ep) (he : es.toList = xs.map (entryOfKey (pairKind c.prog c.w))) (hm : xs.map (·.1) = ks') (hu : ks'.Nodup) (hr : ∀ x ∈ xs, RelV B (.ref x.2.1) (pairV x.1)) (hg : s'.gens = s.gens) (ho : s'.os = s.os) : Rel c L nm B loc { H with P := up H.P a ks' } s' := by
  have hw : H.Own a := by unfold Hp.Own; rw [e]; simp
  obtain ⟨o, es, ep, xs, q, ⟨w, _⟩, w2, _⟩ := (R.own a).p _ e
  obtain ⟨z1, _, z3, z4, z5⟩ := (R.own a).none_of q
  have y1 := z1 (by rw [w]; decide)
  have y2 : H.D a = none := by
    cases z : H.D a with
    | none => rfl
    | some y => have := (R.own a).dp (by rw [z]; simp); rw [e] at this; cases this
  have y3 := z3 (by rw [w]; decide)
  have y4 := z4 (by intro C h; rw [w] at h; cases h)
  have y5 := z5 (by intro v h; rw [w2] at h; cases h)
  refine R.of_old hw hk (fun b hb => ⟨rfl, rfl, up_same _ _ _ hb, rfl, rfl, rfl, rfl⟩) ⟨fun _ => (R.own a).out hw, ?_, ?_, ?_, ?_, ?_, ?_, ?_, ?_⟩ hg ho
  · intro y hy; rw [y1] at hy; cases hy
  · intro y hy; rw [y2] at hy; cases hy
  · intro y hy
    simp only [up_self, Option.some.injEq] at hy
    subst hy; exact ⟨_, _, _, _, hn, hx, hd, he, hm, hu, hr⟩
  · intro y hy; rw [y3] at hy; cases hy
  · intro y hy; rw [y4] at hy; cases hy
  · intro y hy; rw [y5] at hy; cases hy
  · intro hy; exact absurd y2 hy
  · intro y hy; simp only [eG] at hy; cases hy

theorem Rel.newS (R : Rel c L nm B loc H s) {s' : Shared} {a : Addr} {S' : (Str → Bool) × Nat} (hf : s.heap.objs.size ≤ a) (hk : ∀ b o, s.heap.get? b = some o → s'.heap.get? b = some o) (hn : s'.heap.SetOf (PySem.strKind c.prog c.w) a S'.1 S'.2) (hg : s'.gens = s.gens) (ho : s'.os = s.os) : Rel c L nm B loc { H with S := up H.S a S' } s' := by
  obtain ⟨x1, x2, x3, x4, x5, x6⟩ := not_own (R.fresh_H (R.fresh hf).1)
  refine R.of_new hf hk (fun b hb => ⟨rfl, rfl, rfl, up_same _ _ _ hb, rfl, rfl, rfl⟩) ⟨fun _ => ⟨R.fresh_B (R.fresh hf).1, (R.fresh hf).2⟩, ?_, ?_, ?_, ?_, ?_, ?_, ?_, ?_⟩ hg ho
  · intro y hy; rw [x1] at hy; cases hy
  · intro y hy; rw [x2] at hy; cases hy
  · intro y hy; rw [x3] at hy; cases hy
  · intro y hy
    simp only [up_self, Option.some.injEq] at hy
    subst hy; exact hn
  · intro y hy; rw [x5] at hy; cases hy
  · intro y hy; rw [x6] at hy; cases hy
  · intro _; exact x3
  · intro y hy; have := R.fresh_G (R.fresh hf).1; simp only [this] at hy; cases hy

theorem Rel.newI (R : Rel c L nm B loc H s) {s' : Shared} {a : Addr} {Cd' : Addr × Addr} (hf : s.heap.objs.size ≤ a) (hk : ∀ b o, s.heap.get? b = some o → s'.heap.get? b = some o) (hn : s'.heap.get? a = some (instObj' Cd'.1 Cd'.2)) (hg : s'.gens = s.gens) (ho : s'.os = s.os) : Rel c L nm B loc { H with I := up H.I a Cd' } s' := by
  obtain ⟨x1, x2, x3, x4, x5, x6⟩ := not_own (R.fresh_H (R.fresh hf).1)
  refine R.of_new hf hk (fun b hb => ⟨rfl, rfl, rfl, rfl, up_same _ _ _ hb, rfl, rfl⟩) ⟨fun _ => ⟨R.fresh_B (R.fresh hf).1, (R.fresh hf).2⟩, ?_, ?_, ?_, ?_, ?_, ?_, ?_, ?_⟩ hg ho
  · intro y hy; rw [x1] at hy; cases hy
  · intro y hy; rw [x2] at hy; cases hy
  · intro y hy; rw [x3] at hy; cases hy
  · intro y hy; rw [x4] at hy; cases hy
  · intro y hy
    simp only [up_self, Option.some.injEq] at hy
    subst hy; exact hn
  · intro y hy; rw [x6] at hy; cases hy
  · intro _; exact x3
  · intro y hy; have := R.fresh_G (R.fresh hf).1; simp only [this] at hy; cases hy

theorem Rel.setC (R : Rel c L nm B loc H s) {s' : Shared} {a : Addr} {ov ov' : Option V} (e : H.C a = some ov) (hk : ∀ b o, b ≠ a → s.heap.get? b = some o → s'.heap.get? b = some o) {o : Obj} {v : Option Value} (hn : s'.heap.get? a = some o) (hd : o.data = .cell v) (hr : relOpt B v ov') (hg : s'.gens = s.gens) (ho : s'.os = s.os) : Rel c L nm B loc { H with C := up H.C a ov' } s' := by
  have hw : H.Own a := by unfold Hp.Own; rw [e]; simp
  obtain ⟨oc, _, q, w2, _⟩ := (R.own a).c _ e
  have y1 : H.L a = none := by
    cases z : H.L a with
    | none => rfl
    | some y => obtain ⟨i, n, q', _⟩ := (R.own a).l y z; have q' := q.symm.trans q'; cases q'; cases w2
  have y2 : H.D a = none := by
    cases z : H.D a with
    | none => rfl
    | some y => obtain ⟨_, cs, ⟨o', es, ep, q', _, w, _⟩, r⟩ := (R.own a).d y z; rw [q] at q'; cases q'; rw [w] at w2; cases w2
  have y3 : H.P a = none := by
    cases z : H.P a with
    | none => rfl
    | some y => obtain ⟨o', es, ep, xs, q', _, w, _⟩ := (R.own a).p y z; rw [q] at q'; cases q'; rw [w] at w2; cases w2
  have y4 : H.S a = none := by
    cases z : H.S a with
    | none => rfl
    | some y => obtain ⟨o', es, ep, t, q', _, w, _⟩ := (R.own a).s y z; rw [q] at q'; cases q'; rw [w] at w2; cases w2
  have y5 : H.I a = none := by
    cases z : H.I a with
    | none => rfl
    | some y => have q' := (R.own a).i y z; rw [q] at q'; cases q'; cases w2
  refine R.of_old hw hk (fun b hb => ⟨rfl, rfl, rfl, rfl, rfl, up_same _ _ _ hb, rfl⟩) ⟨fun _ => (R.own a).out hw, ?_, ?_, ?_, ?_, ?_, ?_, ?_, ?_⟩ hg ho
  · intro y hy; rw [y1] at hy; cases hy
  · intro y hy; rw [y2] at hy; cases hy
  · intro y hy; rw [y3] at hy; cases hy
  · intro y hy; rw [y4] at hy; cases hy
  · intro y hy; rw [y5] at hy; cases hy
  · intro y hy
    simp only [up_self, Option.some.injEq] at hy
    subst hy; exact ⟨_, _, hn, hd, hr⟩
  · intro _; exact y3
  · intro y hy; obtain ⟨_, o', es, q', d'⟩ := (R.own a).g y hy; rw [q] at q'; cases q'; rw [w2] at d'; cases d'

end
end Lay
end
noncomputable section
open PySem PySem.W PyProof.Rows PySem.Calls
set_option Elab.async false
set_option maxRecDepth 100000
set_option linter.all false
namespace Lay

set_option genInjectivity false in
structure Fx where
  c : Base
  A : Around
  env : Env
  E : Value → Shared → Prop

noncomputable abbrev Fx.M (F : Fx) : Model := model F.c.prog F.c.w
noncomputable abbrev Fx.nm (F : Fx) : List (Str × NameKind) := F.env.scope.names
noncomputable abbrev Fx.L (F : Fx) : Addr := F.env.locals
noncomputable abbrev Loc := List (Option V)
noncomputable abbrev FRel (F : Fx) (B : Keep) (loc : Loc) (H : Hp) (s : Shared) : Prop := Rel F.c F.L F.nm B loc H s

noncomputable def Post (F : Fx) {α β : Type} (ρ : Keep → α → β → Prop) (B : Keep) (Q : β → Loc → Hp → Prop) : α → Shared → Prop :=
  fun a s' => ∃ B' b loc' H', Le B B' ∧ ρ B' a b ∧ FRel F B' loc' H' s' ∧ Q b loc' H'

noncomputable def PW (F : Fx) {α β : Type} (t : Sem α) (ρ : Keep → α → β → Prop) (B : Keep) (s : Shared) (Q : β → Loc → Hp → Prop) : Prop :=
  wpAny F.M F.A t (Post F ρ B Q) F.E s

noncomputable abbrev eqR {α : Type} : Keep → α → α → Prop := fun _ a b => a = b

theorem Post.lift {F : Fx} {α β : Type} {ρ : Keep → α → β → Prop} {B B' : Keep} (h : Le B B') {Q : β → Loc → Hp → Prop} {a : α} {s' : Shared} (p : Post F ρ B' Q a s') : Post F ρ B Q a s' := by
  obtain ⟨B2, b, loc', H', l, r⟩ := p
  exact ⟨B2, b, loc', H', h.trans l, r⟩
theorem PW.lift {F : Fx} {α β : Type} {t : Sem α} {ρ : Keep → α → β → Prop} {B B' : Keep} (h : Le B B') {s : Shared} {Q : β → Loc → Hp → Prop} (p : PW F t ρ B' s Q) : PW F t ρ B s Q :=
  wpAny_mono p (fun _ _ x => x.lift h) fun _ _ x => x
theorem PW.mono {F : Fx} {α β : Type} {t : Sem α} {ρ : Keep → α → β → Prop} {B : Keep} {s : Shared} {Q Q' : β → Loc → Hp → Prop} (p : PW F t ρ B s Q) (h : ∀ b l H, Q b l H → Q' b l H) : PW F t ρ B s Q' :=
  wpAny_mono p (fun _ _ ⟨B', b, l, H, x1, x2, x3, x4⟩ => ⟨B', b, l, H, x1, x2, x3, h _ _ _ x4⟩) fun _ _ x => x
theorem Post.pure {F : Fx} {α β : Type} {ρ : Keep → α → β → Prop} {B : Keep} {Q : β → Loc → Hp → Prop} {a : α} {s : Shared} {b : β} {loc : Loc} {H : Hp} (r : ρ B a b) (R : FRel F B loc H s) (q : Q b loc H) : Post F ρ B Q a s :=
  ⟨B, b, loc, H, Le.refl _, r, R, q⟩
theorem PW.then {F : Fx} {α β : Type} {t : Sem α} {ρ : Keep → α → β → Prop} {B : Keep} {s : Shared} {Q : β → Loc → Hp → Prop} {P : α → Shared → Prop} (p : PW F t ρ B s Q)
    (k : ∀ a B' b l H s', Le B B' → ρ B' a b → FRel F B' l H s' → Q b l H → P a s') : wpAny F.M F.A t P F.E s :=
  wpAny_mono p (fun a s' ⟨B', b, l, H, x1, x2, x3, x4⟩ => k a B' b l H s' x1 x2 x3 x4) fun _ _ x => x

noncomputable def WE (F : Fx) (e : Expr) (loc : Loc) (H : Hp) (Q : V → Loc → Hp → Prop) : Prop := ∀ B s, FRel F B loc H s → PW F (eval e F.env) RelV B s Q
noncomputable def WB (F : Fx) (e : Expr) (loc : Loc) (H : Hp) (Q : Bool → Loc → Hp → Prop) : Prop := ∀ B s, FRel F B loc H s → PW F (isTrue e F.env (eval e F.env)) eqR B s Q

inductive Fl where
  | next | brk | cont | ret (x : V)
inductive RelF (B : Keep) : Flow → Fl → Prop
  | next : RelF B .next .next
  | brk : RelF B .brk .brk
  | cont : RelF B .cont .cont
  | ret {v x} : RelV B v x → RelF B (.ret v) (.ret x)
noncomputable def WS (F : Fx) (st : Stmt) (loc : Loc) (H : Hp) (Q : Fl → Loc → Hp → Prop) : Prop := ∀ B s, FRel F B loc H s → PW F (exec st F.env) RelF B s Q
noncomputable def WSs (F : Fx) (st : List Stmt) (loc : Loc) (H : Hp) (Q : Fl → Loc → Hp → Prop) : Prop := ∀ B s, FRel F B loc H s → PW F (execs st F.env) RelF B s Q

theorem WE.mono {F : Fx} {e loc H} {Q Q' : V → Loc → Hp → Prop} (h : WE F e loc H Q) (k : ∀ x l H, Q x l H → Q' x l H) : WE F e loc H Q' := fun B s R => (h B s R).mono k
theorem WB.mono {F : Fx} {e loc H} {Q Q' : Bool → Loc → Hp → Prop} (h : WB F e loc H Q) (k : ∀ x l H, Q x l H → Q' x l H) : WB F e loc H Q' := fun B s R => (h B s R).mono k
theorem WS.mono {F : Fx} {e loc H} {Q Q' : Fl → Loc → Hp → Prop} (h : WS F e loc H Q) (k : ∀ x l H, Q x l H → Q' x l H) : WS F e loc H Q' := fun B s R => (h B s R).mono k
noncomputable def Op2 (F : Fx) (t : Value → Value → Sem Value) (X Y : V) (loc : Loc) (H : Hp) (Q : V → Loc → Hp → Prop) : Prop :=
  ∀ B s a b, FRel F B loc H s → RelV B a X → RelV B b Y → PW F (t a b) RelV B s Q
noncomputable abbrev boolR : Keep → Value → Bool → Prop := fun _ v b => v = .bool b
noncomputable def Cmp (F : Fx) (op : CmpOp) (X Y : V) (loc : Loc) (H : Hp) (Q : Bool → Loc → Hp → Prop) : Prop :=
  ∀ B s a b, FRel F B loc H s → RelV B a X → RelV B b Y → PW F (compareOp op a b) boolR B s Q
noncomputable def Tru (F : Fx) (X : V) (loc : Loc) (H : Hp) (Q : Bool → Loc → Hp → Prop) : Prop :=
  ∀ B s a, FRel F B loc H s → RelV B a X → PW F (truthy a) eqR B s Q

structure Ok (F : Fx) (n : Nat) : Prop where
  fn : F.env.scope.kind = .function
  glob : F.env.globals = mainGlobals
  bi : F.env.builtins = builtinsNs
  dbg : F.nm.lookup ("__debug__" : Str) = none
  units : F.A.units + 40 * n + 200 < cLine
  depth : F.A.depth + 4 * n + 4 < recursionLimit
  handled : n ≠ 0 → F.A.handled = none
  fr : ∃ fl, F.A.frames = some fl ∧ ∀ e ∈ fl, e.scope.kind ≠ .module ∧ (e.frame = some F.L ∨ ∃ p ∈ F.c.saved, e.frame = some p.1 ∧ ∃ es ep, p.2.data = .dict es ep)
noncomputable def Top (F : Fx) : Prop := ∃ outer, F.A.frames = some (F.env :: outer) ∧ F.env.frame = some F.L

noncomputable def look : List (Str × NameKind) → Str → Option (Nat × NameKind)
  | [], _ => none
  | (y, k) :: r, x => if y == x then some (0, k) else (look r x).map fun p => (p.1 + 1, p.2)
theorem look_spec : ∀ {nm : List (Str × NameKind)} {x : Str} {i : Nat} {k : NameKind}, look nm x = some (i, k) → slotOf nm x = some i ∧ nm.lookup x = some k
  | [], _, _, _, h => by cases h
  | (y, k') :: r, x, i, k, h => by
    unfold look at h
    split at h
    · rename_i e
      cases h
      obtain rfl := eq_of_beq e
      simp [slotOf, List.findIdx?_cons]
    · rename_i e
      obtain ⟨⟨j, k2⟩, hp, he⟩ := Option.map_eq_some_iff.mp h
      cases he
      obtain ⟨h1, h2⟩ := look_spec hp
      refine ⟨?_, ?_⟩
      · unfold slotOf at h1 ⊢
        rw [List.findIdx?_cons]
        simp only [e, Bool.false_eq_true, if_false, h1, Option.map_some]
      · have e' : (x == y) = false := by
          cases z : x == y with
          | false => rfl
          | true => exact absurd (by rw [eq_of_beq z]; exact beq_self_eq_true y) e
        rw [List.lookup_cons, e']; exact h2

section
variable {F : Fx} {n : Nat} {loc : Loc} {H : Hp}

theorem not_dbg (ok : Ok F n) {x : Str} {k : NameKind} (h : F.nm.lookup x = some k) : (x == ("__debug__" : Str)) = false := by
  cases z : x == ("__debug__" : Str) with
  | false => rfl
  | true => rw [eq_of_beq z, ok.dbg] at h; cases h

theorem WE_local (ok : Ok F n) {x : Str} {pos : Pos} {i : Nat} {X : V} {Q : V → Loc → Hp → Prop} (hx : look F.nm x = some (i, .local)) (hv : loc[i]? = some (some X)) (q : Q X loc H) : WE F (.Name x pos) loc H Q := fun B s R => by
  obtain ⟨h1, h2⟩ := look_spec hx
  obtain ⟨m, hm, hl⟩ := R.ns
  obtain ⟨v, e, r⟩ := hl x i X h1 hv
  exact wpAny_Name (wpAny_loadName_local ok.fn h2 hm e (Post.pure r R q)) (not_dbg ok h2)

theorem base_le {B : Keep} {s : Shared} (R : FRel F B loc H s) : Le (fun a => F.c.base.get? a) B := fun a o e => R.based.2 _ _ (R.based.1 a o e)

theorem WE_global (ok : Ok F n) {K : Frag} {mg : Str → Option Value} (hK : K.In F.c.base) (hg : F.c.base.Ns mainGlobals mg) {x : Str} {pos : Pos} {i : Nat} {v : Value} {X : V} {Q : V → Loc → Hp → Prop} (hx : look F.nm x = some (i, .globalImplicit)) (e : nsIn K mainGlobals x = some (some v))
    (r : RelV (fun a => F.c.base.get? a) v X) (q : Q X loc H) : WE F (.Name x pos) loc H Q := fun B s R => by
  obtain ⟨h1, h2⟩ := look_spec hx
  refine Name_function_global ok.fn h2 (loadGlobal_global (mg := mg) ?_ (mg_of hK hg e) (Post.pure (r.mono (base_le R)) R q)) (not_dbg ok h2)
  rw [ok.glob]; exact hg.keeps fun b o e => R.inBase e

theorem WE_builtin (ok : Ok F n) {K : Frag} {mg mb : Str → Option Value} (hK : K.In F.c.base) (hg : F.c.base.Ns mainGlobals mg) (hb : F.c.base.Ns builtinsNs mb) (hbb : ∀ x : Str, x ≠ "__name__" → mb x = bootBuiltins x) {x : Str} {pos : Pos} {i : Nat} {v : Value} {Q : V → Loc → Hp → Prop}
    (hx : look F.nm x = some (i, .globalImplicit)) (e : nsIn K mainGlobals x = some none) (hv : bootBuiltins x = some v) (hn : x ≠ "__name__") (q : Q (.raw v) loc H) : WE F (.Name x pos) loc H Q := fun B s R => by
  obtain ⟨h1, h2⟩ := look_spec hx
  refine Name_function_global ok.fn h2 (loadGlobal_builtin (mg := mg) (mb := mb) ?_ (mg_none_of hK hg e) ?_ ((hbb x hn).trans hv) (Post.pure (.raw v) R q)) (not_dbg ok h2)
  · rw [ok.glob]; exact hg.keeps fun b o e => R.inBase e
  · rw [ok.bi]; exact hb.keeps fun b o e => R.inBase e

theorem ofString_ok (x : String) : PyData.strOk (Str.ofString x) = true := by
  rw [Str.ofString_eq_toList]
  unfold PyData.strOk
  simp only [List.all_toArray, List.all_map, List.all_eq_true, Function.comp]
  intro c _
  have h := c.valid
  have ht : c.toNat = c.val.toNat := rfl
  rcases h with h | h
  · exact decide_eq_true (by rw [ht]; omega)
  · exact decide_eq_true (by rw [ht]; exact h.2)

theorem WE_int {i : Int} {k : Nat} {pos : Pos} {Q : V → Loc → Hp → Prop} (q : Q (.int i) loc H) : WE F (.Constant (.int i) k pos) loc H Q := fun B s R =>
  wpAny_Constant_int (Post.pure (.int i _) (R.tok _) q)
theorem WE_str {x : String} {k : Nat} {pos : Pos} {Q : V → Loc → Hp → Prop} (q : Q (.str (Str.ofString x)) loc H) : WE F (.Constant (.str (Str.ofString x)) k pos) loc H Q := fun B s R =>
  Constant_str (Post.pure (.str _ _ (ofString_ok x)) (R.tok _) q)
theorem WE_bool {b : Bool} {k : Nat} {pos : Pos} {Q : V → Loc → Hp → Prop} (q : Q (.bool b) loc H) : WE F (.Constant (.bool b) k pos) loc H Q := fun B s R =>
  wpAny_pure (Post.pure (.bool b) R q)
theorem WE_none {k : Nat} {pos : Pos} {Q : V → Loc → Hp → Prop} (q : Q .none loc H) : WE F (.Constant .none k pos) loc H Q := fun B s R =>
  wpAny_pure (Post.pure .none R q)

theorem WE_BinOp {l r : Expr} {op : Operator} {pos : Pos} {Q : V → Loc → Hp → Prop} (h : WE F l loc H fun X l1 H1 => WE F r l1 H1 fun Y l2 H2 => Op2 F (binaryOp op) X Y l2 H2 Q) : WE F (.BinOp l op r pos) loc H Q := fun B s R =>
  wpAny_BinOp ((h B s R).then fun a B1 X l1 H1 s1 le1 ra R1 h1 => (h1 B1 s1 R1).then fun b B2 Y l2 H2 s2 le2 rb R2 h2 =>
    (h2 B2 s2 a b R2 (ra.mono le2) rb).lift (le1.trans le2))

theorem WB_Compare {l r : Expr} {op : CmpOp} {pos : Pos} {Q : Bool → Loc → Hp → Prop} (h : WE F l loc H fun X l1 H1 => WE F r l1 H1 fun Y l2 H2 => Cmp F op X Y l2 H2 Q) (hm : behindInMarks op r = false := by with_unfolding_all rfl) : WB F (.Compare l [op] [r] pos) loc H Q := fun B s R =>
  wpAny_isTrue_Compare1 ((h B s R).then fun a B1 X l1 H1 s1 le1 ra R1 h1 => (h1 B1 s1 R1).then fun b B2 Y l2 H2 s2 le2 rb R2 h2 =>
    (h2 B2 s2 a b R2 (ra.mono le2) rb).then fun v B3 t l3 H3 s3 le3 e R3 q => by subst e; exact wpAny_truthy_bool ((Post.pure rfl R3 q).lift (le1.trans (le2.trans le3)))) hm
theorem WE_Compare {l r : Expr} {op : CmpOp} {pos : Pos} {Q : V → Loc → Hp → Prop} (h : WE F l loc H fun X l1 H1 => WE F r l1 H1 fun Y l2 H2 => Cmp F op X Y l2 H2 fun b l3 H3 => Q (.bool b) l3 H3) (hm : behindInMarks op r = false := by with_unfolding_all rfl) : WE F (.Compare l [op] [r] pos) loc H Q := fun B s R =>
  wpAny_Compare1 ((h B s R).then fun a B1 X l1 H1 s1 le1 ra R1 h1 => (h1 B1 s1 R1).then fun b B2 Y l2 H2 s2 le2 rb R2 h2 =>
    (h2 B2 s2 a b R2 (ra.mono le2) rb).then fun v B3 t l3 H3 s3 le3 e R3 q => by subst e; exact (Post.pure (.bool t) R3 q).lift (le1.trans (le2.trans le3))) hm

theorem WB_plain {e : Expr} {Q : Bool → Loc → Hp → Prop} (h : WE F e loc H fun X l1 H1 => Tru F X l1 H1 Q) (he : isTrue e F.env (eval e F.env) = (do let v ← eval e F.env; standAt e.pos; holding [v] (truthy v)) := by rfl) : WB F e loc H Q := fun B s R =>
  isTrue_plain ((h B s R).then fun a B1 X l1 H1 s1 le1 ra R1 h1 => (h1 B1 s1 a R1 ra).lift le1) he
theorem WB_not {x : Expr} {pos : Pos} {Q : Bool → Loc → Hp → Prop} (h : WB F x loc H fun b l1 H1 => Q (!b) l1 H1) : WB F (.UnaryOp .Not x pos) loc H Q := fun B s R =>
  wpAny_isTrue_Not ((h B s R).then fun a B1 b l1 H1 s1 le1 ra R1 q => by subst ra; exact (Post.pure rfl R1 q).lift le1)
noncomputable def WAll (F : Fx) (op : BoolOp) (es : List Expr) (loc : Loc) (H : Hp) (Q : Bool → Loc → Hp → Prop) : Prop := ∀ B s, FRel F B loc H s → PW F (allTrue op es F.env) eqR B s Q
theorem WB_BoolOp {op : BoolOp} {vs : List Expr} {pos : Pos} {Q : Bool → Loc → Hp → Prop} (h : WAll F op vs loc H Q) : WB F (.BoolOp op vs pos) loc H Q := fun B s R => wpAny_isTrue_BoolOp (h B s R)
theorem WAll_and_nil {Q : Bool → Loc → Hp → Prop} (q : Q true loc H) : WAll F .And [] loc H Q := fun B s R => wpAny_allTrue_And_nil (Post.pure rfl R q)
theorem WAll_or_nil {Q : Bool → Loc → Hp → Prop} (q : Q false loc H) : WAll F .Or [] loc H Q := fun B s R => wpAny_allTrue_Or_nil (Post.pure rfl R q)
theorem WAll_and_cons {x : Expr} {rest : List Expr} {Q : Bool → Loc → Hp → Prop} (h : WB F x loc H fun b l1 H1 => (b = true → WAll F .And rest l1 H1 Q) ∧ (b = false → Q false l1 H1)) : WAll F .And (x :: rest) loc H Q := fun B s R =>
  wpAny_allTrue_And_cons ((h B s R).then fun a B1 b l1 H1 s1 le1 ra R1 q => by
    subst ra
    cases a with
    | true => exact (q.1 rfl B1 s1 R1).lift le1
    | false => exact (Post.pure rfl R1 (q.2 rfl)).lift le1)
theorem WAll_or_cons {x : Expr} {rest : List Expr} {Q : Bool → Loc → Hp → Prop} (h : WB F x loc H fun b l1 H1 => (b = true → Q true l1 H1) ∧ (b = false → WAll F .Or rest l1 H1 Q)) : WAll F .Or (x :: rest) loc H Q := fun B s R =>
  wpAny_allTrue_Or_cons ((h B s R).then fun a B1 b l1 H1 s1 le1 ra R1 q => by
    subst ra
    cases a with
    | true => exact (Post.pure rfl R1 (q.1 rfl)).lift le1
    | false => exact (q.2 rfl B1 s1 R1).lift le1)
theorem WE_IfExp {t b o : Expr} {pos : Pos} {Q : V → Loc → Hp → Prop} (h : WB F t loc H fun c l1 H1 => (c = true → WE F b l1 H1 Q) ∧ (c = false → WE F o l1 H1 Q)) : WE F (.IfExp t b o pos) loc H Q := fun B s R =>
  wpAny_IfExp ((h B s R).then fun a B1 b l1 H1 s1 le1 ra R1 q => by
    subst ra
    cases a with
    | true => exact (q.1 rfl B1 s1 R1).lift le1
    | false => exact (q.2 rfl B1 s1 R1).lift le1)

theorem WSs_nil {Q : Fl → Loc → Hp → Prop} (q : Q .next loc H) : WSs F [] loc H Q := fun B s R => wpAny_execs_nil (Post.pure .next R q)
theorem WSs_cons {st : Stmt} {rest : List Stmt} {Q : Fl → Loc → Hp → Prop} (h : WS F st loc H fun f l1 H1 => match f with | .next => WSs F rest l1 H1 Q | f => Q f l1 H1) : WSs F (st :: rest) loc H Q := fun B s R =>
  wpAny_execs_cons ((h B s R).then fun a B1 b l1 H1 s1 le1 ra R1 q => by
    cases ra with
    | next => exact PW.lift le1 (q B1 s1 R1)
    | brk => exact (Post.pure .brk R1 q).lift le1
    | cont => exact (Post.pure .cont R1 q).lift le1
    | ret r => exact (Post.pure (.ret r) R1 q).lift le1)
theorem WS_If {t : Expr} {b o : List Stmt} {pos : Pos} {Q : Fl → Loc → Hp → Prop} (h : WB F t loc H fun c l1 H1 => (c = true → WSs F b l1 H1 Q) ∧ (c = false → WSs F o l1 H1 Q)) : WS F (.If t b o pos) loc H Q := fun B s R =>
  wpAny_If ((h B s R).then fun a B1 b l1 H1 s1 le1 ra R1 q => by
    subst ra
    cases a with
    | true => exact (q.1 rfl B1 s1 R1).lift le1
    | false => exact (q.2 rfl B1 s1 R1).lift le1)
theorem WS_Pass {pos : Pos} {Q : Fl → Loc → Hp → Prop} (q : Q .next loc H) : WS F (.Pass pos) loc H Q := fun B s R => wpAny_Pass (Post.pure .next R q)
theorem WS_Break {pos : Pos} {Q : Fl → Loc → Hp → Prop} (q : Q .brk loc H) : WS F (.Break pos) loc H Q := fun B s R => wpAny_Break (Post.pure .brk R q)
theorem WS_Return {e : Expr} {pos : Pos} {Q : Fl → Loc → Hp → Prop} (h : WE F e loc H fun X l1 H1 => Q (.ret X) l1 H1) : WS F (.Return (some e) pos) loc H Q := fun B s R =>
  wpAny_Return_some ((h B s R).then fun a B1 b l1 H1 s1 le1 ra R1 q => (Post.pure (.ret ra) R1 q).lift le1)
theorem PW_store (ok : Ok F n) {x : Str} {i : Nat} {X : V} {v : Value} {B : Keep} {s : Shared} {P : Unit → Shared → Prop} (hx : look F.nm x = some (i, .local)) (R : FRel F B loc H s) (r : RelV B v X)
    (q : ∀ s', FRel F B (loc.set i (some X)) H s' → P () s') : wpAny F.M F.A (storeName F.env x v) P F.E s := by
  obtain ⟨h1, h2⟩ := look_spec hx
  obtain ⟨m, hm, hl⟩ := R.ns
  refine wpAny_storeName_local h2 hm (fun h' hn hs => q _ ⟨fun a o e => ?_, R.based, fun a => ?_, R.lB, R.lH, ⟨_, hn, hl.set h1 r⟩, R.gens, R.os, R.lim, fun p hp => let ⟨⟨o, x1, y1⟩, x2, x3, x4⟩ := R.sv p hp; ⟨⟨o, (hs.2 p.1 x4).trans x1, y1⟩, x2, x3, x4⟩⟩) (by rw [ok.fn]; rfl)
  · have hne : a ≠ F.L := fun z => by rw [z, R.lB] at e; cases e
    exact (hs.2 a hne).trans (R.keep a o e)
  · by_cases hw : H.Own a
    · exact (R.own a).mono (Le.refl _) (fun o e => (hs.2 a (R.own_ne_L hw)).trans e) fun h => ((R.own a).out h).1
    · obtain ⟨d1, d2, d3, d4, d5, d6⟩ := not_own hw
      refine ⟨fun h => absurd h hw, ?_, ?_, ?_, ?_, ?_, ?_, fun _ => d3, fun ep e => ?_⟩
      · intro y hy; rw [d1] at hy; cases hy
      · intro y hy; rw [d2] at hy; cases hy
      · intro y hy; rw [d3] at hy; cases hy
      · intro y hy; rw [d4] at hy; cases hy
      · intro y hy; rw [d5] at hy; cases hy
      · intro y hy; rw [d6] at hy; cases hy
      · exact absurd (.inr (.inl ((R.own a).g ep e).1)) hw

theorem WS_Assign (ok : Ok F n) {x : Str} {i : Nat} {e : Expr} {p pos : Pos} {Q : Fl → Loc → Hp → Prop} (hx : look F.nm x = some (i, .local)) (h : WE F e loc H fun X l1 H1 => Q .next (l1.set i (some X)) H1)
    (hs : swapsWith e (some (.Name x p)) pos.line F.env = pure false := by rfl) : WS F (.Assign [.Name x p] e pos) loc H Q := fun B s R =>
  wpAny_Assign_Name ((h B s R).then fun a B1 X l1 H1 s1 le1 ra R1 q => PW_store ok hx R1 ra fun s' R' => (Post.pure .next R' q).lift le1) hs
end
end Lay
end
noncomputable section
open PySem PySem.W PyProof.Rows PySem.Calls
set_option Elab.async false
set_option maxRecDepth 100000
set_option linter.all false
namespace Lay

mutual
noncomputable def V.toD : V → PyData
  | .none => .none
  | .bool b => .bool b
  | .int i => .int i
  | .str s => .str s
  | .tup xs => .tuple (toDs xs)
  | .list xs => .list (toDs xs)
  | .inst _ _ => .none
  | .ref _ => .none
  | .raw _ => .none
noncomputable def toDs : List V → List PyData
  | [] => []
  | x :: xs => x.toD :: toDs xs
end
theorem toDs_map : ∀ xs : List V, toDs xs = xs.map V.toD
  | [] => rfl
  | x :: xs => by rw [toDs, toDs_map xs]; rfl

noncomputable def V.isD : Nat → V → Bool
  | _, .none => true
  | _, .int _ => true
  | _, .str _ => true
  | n + 1, .tup xs => xs.all (V.isD n)
  | n + 1, .list xs => xs.all (V.isD n)
  | _, _ => false

section
variable {B : Keep} {h : Heap}
theorem reads_all_gen {n : Nat} (ih : ∀ {v : Value} {x : V}, RelV B v x → x.isD n = true → ∃ as, Reads h v x.toD as) : ∀ {xs : List V} {vs : List Value}, RelVs B vs xs → (∀ x ∈ xs, x.isD n = true) → ∃ as, ReadsAll h vs (toDs xs) as
  | [], _, r, _ => by cases r; exact ⟨_, ReadsAll.nil⟩
  | x :: xs, _, r, hk' => by
    cases r with | cons hd r => ?_
    obtain ⟨as, q⟩ := ih hd (hk' _ (.head _))
    obtain ⟨bs, p⟩ := reads_all_gen ih r fun d hm => hk' d (.tail _ hm)
    exact ⟨_, ReadsAll.cons q p⟩
theorem reads_of (hk : ∀ a o, B a = some o → h.get? a = some o) : ∀ (n : Nat) {v : Value} {x : V}, RelV B v x → x.isD n = true → ∃ as, Reads h v x.toD as := by
  intro n
  induction n with
  | zero =>
    intro v x r hd
    cases r with
    | none => exact ⟨_, Reads.none⟩
    | int i t => exact ⟨_, Reads.int i t⟩
    | str x t _ => exact ⟨_, Reads.str x t⟩
    | _ => simp [V.isD] at hd
  | succ n ih =>
    intro v x r hd
    cases r with
    | none => exact ⟨_, Reads.none⟩
    | int i t => exact ⟨_, Reads.int i t⟩
    | str x t _ => exact ⟨_, Reads.str x t⟩
    | tup hb r =>
      obtain ⟨as, q⟩ := reads_all_gen ih r (by simpa [V.isD] using hd)
      exact ⟨_, Reads.tuple (hk _ _ hb) rfl rfl q⟩
    | list hb r =>
      obtain ⟨as, q⟩ := reads_all_gen ih r (by simpa [V.isD] using hd)
      exact ⟨_, Reads.list (hk _ _ hb) rfl rfl q⟩
    | _ => simp [V.isD] at hd
theorem reads_all_of (hk : ∀ a o, B a = some o → h.get? a = some o) (n : Nat) {vs : List Value} {xs : List V} (r : RelVs B vs xs) (hd : ∀ x ∈ xs, x.isD n = true) : ∃ as, ReadsAll h vs (toDs xs) as :=
  reads_all_gen (reads_of hk n) r hd

theorem lay_all_gen {n : Nat} (ih : ∀ {v : Value} {x : V}, RelV B v x → x.isD n = true → x.toD.canLay0 = true ∧ x.toD.depth ≤ n) : ∀ {xs : List V} {vs : List Value}, RelVs B vs xs → (∀ x ∈ xs, x.isD n = true) → PyData.canLayAll0 (toDs xs) = true ∧ PyData.depthAll (toDs xs) ≤ n
  | [], _, r, _ => by simp [toDs, PyData.canLayAll0, PyData.depthAll]
  | x :: xs, _, r, hk' => by
    cases r with | cons hd r => ?_
    have h1 := ih hd (hk' _ (.head _))
    have h2 := lay_all_gen ih r fun d hm => hk' d (.tail _ hm)
    simp only [toDs, PyData.canLayAll0, PyData.depthAll, h1.1, h2.1, Bool.and_self, true_and]
    have a1 := h1.2
    have a2 := h2.2
    omega
theorem lay_of : ∀ (n : Nat) {v : Value} {x : V}, RelV B v x → x.isD n = true → x.toD.canLay0 = true ∧ x.toD.depth ≤ n := by
  intro n
  induction n with
  | zero =>
    intro v x r hd
    cases r with
    | none => simp [V.toD, PyData.canLay0, PyData.depth]
    | int i t => simp [V.toD, PyData.canLay0, PyData.depth]
    | str x t k => simp [V.toD, PyData.canLay0, PyData.depth, k]
    | _ => simp [V.isD] at hd
  | succ n ih =>
    intro v x r hd
    cases r with
    | none => simp [V.toD, PyData.canLay0, PyData.depth]
    | int i t => simp [V.toD, PyData.canLay0, PyData.depth]
    | str x t k => simp [V.toD, PyData.canLay0, PyData.depth, k]
    | tup hb r =>
      have q := lay_all_gen ih r (by simpa [V.isD] using hd)
      have q2 := q.2
      simp only [V.toD, PyData.canLay0, PyData.depth, q.1, true_and]
      omega
    | list hb r =>
      have q := lay_all_gen ih r (by simpa [V.isD] using hd)
      have q2 := q.2
      simp only [V.toD, PyData.canLay0, PyData.depth, q.1, true_and]
      omega
    | _ => simp [V.isD] at hd
theorem lay_all_of (n : Nat) {vs : List Value} {xs : List V} (r : RelVs B vs xs) (hd : ∀ x ∈ xs, x.isD n = true) : PyData.canLayAll0 (toDs xs) = true ∧ PyData.depthAll (toDs xs) ≤ n :=
  lay_all_gen (lay_of n) r hd
end

theorem isD_view {n : Nat} {x : V} (h : x.isD n = true) : x = .none ∨ (∃ i, x = .int i) ∨ (∃ s, x = .str s) ∨ (∃ m xs, n = m + 1 ∧ x = .tup xs ∧ ∀ y ∈ xs, V.isD m y = true) ∨ ∃ m xs, n = m + 1 ∧ x = .list xs ∧ ∀ y ∈ xs, V.isD m y = true := by
  cases x with
  | none => exact .inl rfl
  | int i => exact .inr (.inl ⟨i, rfl⟩)
  | str s => exact .inr (.inr (.inl ⟨s, rfl⟩))
  | tup xs =>
    cases n with
    | zero => rw [V.isD] at h <;> simp_all
    | succ m => exact .inr (.inr (.inr (.inl ⟨m, xs, rfl, rfl, List.all_eq_true.mp h⟩)))
  | list xs =>
    cases n with
    | zero => rw [V.isD] at h <;> simp_all
    | succ m => exact .inr (.inr (.inr (.inr ⟨m, xs, rfl, rfl, List.all_eq_true.mp h⟩)))
  | bool b => rw [V.isD] at h <;> simp_all
  | inst a b => rw [V.isD] at h <;> simp_all
  | ref a => rw [V.isD] at h <;> simp_all
  | raw a => rw [V.isD] at h <;> simp_all
theorem eqv_iff : ∀ (n : Nat) (d e : V) (k : Nat), d.isD n = true → e.isD k = true → (PyData.eqv d.toD e.toD = true ↔ d = e) := by
  have all : ∀ (n : Nat), (∀ d e k, V.isD n d = true → V.isD k e = true → (PyData.eqv d.toD e.toD = true ↔ d = e)) → ∀ (k : Nat) (ds es : List V), (∀ d ∈ ds, V.isD n d = true) → (∀ d ∈ es, V.isD k d = true) →
      (PyData.eqvAll (toDs ds) (toDs es) = true ↔ ds = es) := by
    intro n ih k ds
    induction ds with
    | nil => intro es _ _; cases es <;> simp [toDs, PyData.eqvAll]
    | cons d ds hi =>
      intro es h1 h2
      cases es with
      | nil => simp [toDs, PyData.eqvAll]
      | cons e es =>
        have q1 := ih d e k (h1 d (.head _)) (h2 e (.head _))
        have q2 := hi es (fun x hx => h1 x (.tail _ hx)) fun x hx => h2 x (.tail _ hx)
        simp only [toDs, PyData.eqvAll, Bool.and_eq_true, q1, q2, List.cons.injEq]
  intro n
  induction n using Nat.strongRecOn with | ind n ih => ?_
  intro d e k h1 h2
  have i1 := isD_view h1
  have i2 := isD_view h2
  clear h1 h2
  rcases i1 with rfl | ⟨i, rfl⟩ | ⟨s, rfl⟩ | ⟨m, xs, rfl, rfl, h1⟩ | ⟨m, xs, rfl, rfl, h1⟩ <;> rcases i2 with rfl | ⟨i', rfl⟩ | ⟨s', rfl⟩ | ⟨m', xs', rfl, rfl, h2⟩ | ⟨m', xs', rfl, rfl, h2⟩
  all_goals first | (clear ih; simp only [V.toD, PyData.eqv, reduceCtorEq, Bool.false_eq_true]; done) | skip
  · clear ih; simp [V.toD, PyData.eqv]
  · clear ih; simp [V.toD, PyData.eqv]
  · simp only [V.toD, PyData.eqv, V.tup.injEq]
    exact all m (ih m (Nat.lt_succ_self _)) m' xs xs' h1 h2
  · simp only [V.toD, PyData.eqv, V.list.injEq]
    exact all m (ih m (Nat.lt_succ_self _)) m' xs xs' h1 h2

open Classical in
noncomputable def inV (x : V) (xs : List V) : Bool := decide (x ∈ xs)
open Classical in
noncomputable def eqV (x y : V) : Bool := decide (x = y)
theorem inV_iff {x : V} {xs : List V} : inV x xs = true ↔ x ∈ xs := by simp [inV]
theorem eqV_iff {x y : V} : eqV x y = true ↔ x = y := by simp [eqV]
theorem inV_false {x : V} {xs : List V} : inV x xs = false ↔ x ∉ xs := by simp [inV]
theorem any_eqv {k n : Nat} {x : V} {xs : List V} (hx : x.isD k = true) (hxs : ∀ y ∈ xs, y.isD n = true) : (toDs xs).any (fun y => PyData.eqv y x.toD) = inV x xs := by
  rw [toDs_map, Bool.eq_iff_iff, inV_iff]
  simp only [List.any_eq_true, List.mem_map]
  constructor
  · rintro ⟨_, ⟨y, hy, rfl⟩, e⟩
    rw [← (eqv_iff n y x k (hxs y hy) hx).mp e]; exact hy
  · exact fun hm => ⟨_, ⟨x, hm, rfl⟩, (eqv_iff n x x k (hxs x hm) hx).mpr rfl⟩

section
variable {F : Fx} {n : Nat} {loc : Loc} {H : Hp}

noncomputable def asL (H : Hp) : V → Option (List V)
  | .list xs => some xs
  | .ref a => H.L a
  | _ => none
theorem asL_at {B : Keep} {s : Shared} (R : FRel F B loc H s) {v : Value} {X : V} {xs : List V} (r : RelV B v X) (e : asL H X = some xs) : ∃ a items m, v = .ref a ∧ IsL s.heap a items m ∧ RelVs B items.toList xs := by
  cases r with
  | list hb r => cases e; exact ⟨_, _, _, rfl, R.keep _ _ hb, r⟩
  | ref a => obtain ⟨i, m, q, z⟩ := (R.own a).l xs e; exact ⟨_, _, _, rfl, q, z⟩
  | _ => cases e

theorem Ok.u (ok : Ok F n) {k : Nat} (hk : k ≤ 40 * n + 200) : F.A.units + k < cLine := by have := ok.units; omega

theorem Cmp_in (ok : Ok F n) {X Y : V} {xs : List V} {Q : Bool → Loc → Hp → Prop} (e : asL H Y = some xs) (hx : X.isD 20 = true) (hxs : ∀ y ∈ xs, y.isD 20 = true) (q : Q (inV X xs) loc H) : Cmp F .In X Y loc H Q := fun B s a b R ra rb => by
  obtain ⟨l, items, m, rfl, hl, hr⟩ := asL_at R rb e
  obtain ⟨as, h1⟩ := reads_of R.keep 20 ra hx
  obtain ⟨bs, h2⟩ := reads_all_of R.keep 20 hr hxs
  have l1 := lay_of 20 ra hx
  have l2 := lay_all_of 20 hr hxs
  refine SeqAt.in_list_reads (Reads.list hl rfl rfl h2) h1 l2.1 l1.1 ?_ ?_
  · have := ok.u (k := 30) (by omega)
    have := l1.2; have := l2.2; omega
  · rw [any_eqv hx hxs]; exact Post.pure rfl R q
theorem Cmp_notIn (ok : Ok F n) {X Y : V} {xs : List V} {Q : Bool → Loc → Hp → Prop} (e : asL H Y = some xs) (hx : X.isD 20 = true) (hxs : ∀ y ∈ xs, y.isD 20 = true) (q : Q (!inV X xs) loc H) : Cmp F .NotIn X Y loc H Q := fun B s a b R ra rb => by
  obtain ⟨l, items, m, rfl, hl, hr⟩ := asL_at R rb e
  obtain ⟨as, h1⟩ := reads_of R.keep 20 ra hx
  obtain ⟨bs, h2⟩ := reads_all_of R.keep 20 hr hxs
  have l1 := lay_of 20 ra hx
  have l2 := lay_all_of 20 hr hxs
  refine SeqAt.notIn_list_reads (Reads.list hl rfl rfl h2) h1 l2.1 l1.1 ?_ ?_
  · have := ok.u (k := 30) (by omega)
    have := l1.2; have := l2.2; omega
  · rw [any_eqv hx hxs]; exact Post.pure rfl R q

noncomputable def asD (H : Hp) : V → V
  | .ref a => match H.L a with | some xs => .list xs | none => .ref a
  | x => x
theorem asD_reads {B : Keep} {s : Shared} (R : FRel F B loc H s) {v : Value} {X : V} {k : Nat} (r : RelV B v X) (hd : (asD H X).isD k = true) : ∃ as, Reads s.heap v (asD H X).toD as ∧ (asD H X).toD.canLay0 = true ∧ (asD H X).toD.depth ≤ k := by
  have gen : ∀ {Y}, RelV B v Y → Y.isD k = true → ∃ as, Reads s.heap v Y.toD as ∧ Y.toD.canLay0 = true ∧ Y.toD.depth ≤ k := fun ry hy =>
    let ⟨as, q⟩ := reads_of R.keep k ry hy; ⟨as, q, lay_of k ry hy⟩
  cases r with
  | ref a =>
    unfold asD at hd ⊢
    cases e : H.L a with
    | none =>
      simp only [e] at hd ⊢
      exact gen (.ref a) hd
    | some xs =>
      simp only [e] at hd ⊢
      obtain ⟨i, m, q, z⟩ := (R.own a).l xs e
      cases k with
      | zero => simp [V.isD] at hd
      | succ k =>
        have hd' : ∀ x ∈ xs, x.isD k = true := by simpa [V.isD] using hd
        obtain ⟨as, q2⟩ := reads_all_of R.keep k z hd'
        have l2 := lay_all_of k z hd'
        refine ⟨_, Reads.list q rfl rfl q2, ?_, ?_⟩
        · simp [V.toD, PyData.canLay0, l2.1]
        · have := l2.2
          simp only [V.toD, PyData.depth]; omega
  | none => exact gen .none hd
  | bool b => exact gen (.bool b) hd
  | int i t => exact gen (.int i t) hd
  | str x t z => exact gen (.str x t z) hd
  | tup a b => exact gen (.tup a b) hd
  | list a b => exact gen (.list a b) hd
  | inst a b c d => exact gen (.inst a b c d) hd
  | raw v => exact gen (.raw v) hd
theorem Cmp_ne (ok : Ok F n) {X Y : V} {Q : Bool → Loc → Hp → Prop} (hx : (asD H X).isD 20 = true) (hy : (asD H Y).isD 20 = true) (q : Q (!eqV (asD H X) (asD H Y)) loc H) : Cmp F .NotEq X Y loc H Q := fun B s a b R ra rb => by
  obtain ⟨as, h1, c1, d1⟩ := asD_reads R ra hx
  obtain ⟨bs, h2, c2, d2⟩ := asD_reads R rb hy
  refine SeqAt.compareNe_reads h1 h2 c1 c2 (by have := ok.u (k := 30) (by omega); omega) ?_
  have : PyData.eqv (asD H X).toD (asD H Y).toD = eqV (asD H X) (asD H Y) := by rw [Bool.eq_iff_iff, eqV_iff]; exact eqv_iff 20 _ _ 20 hx hy
  rw [this]; exact Post.pure rfl R q

theorem Op_add {i j : Int} {Q : V → Loc → Hp → Prop} (q : Q (.int (i + j)) loc H) : Op2 F (binaryOp .Add) (.int i) (.int j) loc H Q := fun B s a b R ra rb => by
  cases ra; cases rb; exact PySem.P.add_int (Post.pure (.int _ _) (R.tok _) q)
theorem Op_iadd {i j : Int} {Q : V → Loc → Hp → Prop} (q : Q (.int (i + j)) loc H) : Op2 F (inplaceOp .Add) (.int i) (.int j) loc H Q := fun B s a b R ra rb => by
  cases ra; cases rb; exact PySem.P.iadd_int (Post.pure (.int _ _) (R.tok _) q)
theorem Op_sub {i j : Int} {Q : V → Loc → Hp → Prop} (q : Q (.int (i - j)) loc H) : Op2 F (binaryOp .Sub) (.int i) (.int j) loc H Q := fun B s a b R ra rb => by
  cases ra; cases rb; exact PySem.P.sub_int (Post.pure (.int _ _) (R.tok _) q)
theorem Op_isub {i j : Int} {Q : V → Loc → Hp → Prop} (q : Q (.int (i - j)) loc H) : Op2 F (inplaceOp .Sub) (.int i) (.int j) loc H Q := fun B s a b R ra rb => by
  cases ra; cases rb; exact PySem.P.isub_int (Post.pure (.int _ _) (R.tok _) q)
end
end Lay
end
noncomputable section
open PySem PySem.W PyProof.Rows PySem.Calls
set_option Elab.async false
set_option maxRecDepth 100000
set_option linter.all false
namespace Lay
section
variable {F : Fx} {n : Nat} {loc : Loc} {H : Hp}

theorem Op_mod {i j : Int} {Q : V → Loc → Hp → Prop} (hj : 0 < j) (q : Q (.int (i % j)) loc H) : Op2 F (binaryOp .Mod) (.int i) (.int j) loc H Q := fun B s a b R ra rb => by
  cases ra; cases rb
  refine PyProof.Rows.mod_int' (by omega) (Post.pure ?_ (R.tok _) q)
  rw [Int.fmod_eq_emod_of_nonneg _ (by omega)]
  exact .int _ _
theorem Op_fdiv {i j : Int} {Q : V → Loc → Hp → Prop} (hj : 0 < j) (hs : j < 1000000000) (q : Q (.int (i / j)) loc H) : Op2 F (binaryOp .FloorDiv) (.int i) (.int j) loc H Q := fun B s a b R ra rb => by
  cases ra; cases rb
  refine PySem.AutoIntOps.floordiv_1 (by simp; omega) (by rw [PyProof.noPylong_small (by omega)]; simp) ?_
  show Post F RelV B Q (.int (i.fdiv j) s.toks) { s with toks := s.toks + 1 }
  rw [Int.fdiv_eq_ediv_of_nonneg _ (by omega)]
  exact Post.pure (.int _ _) (R.tok _) q

theorem Cmp_lt {i j : Int} {Q : Bool → Loc → Hp → Prop} (q : Q (decide (i < j)) loc H) : Cmp F .Lt (.int i) (.int j) loc H Q := fun B s a b R ra rb => by
  cases ra; cases rb; exact PySem.P.lt_int (Post.pure rfl R q)
theorem Cmp_gt {i j : Int} {Q : Bool → Loc → Hp → Prop} (q : Q (decide (i > j)) loc H) : Cmp F .Gt (.int i) (.int j) loc H Q := fun B s a b R ra rb => by
  cases ra; cases rb; exact PySem.P.gt_int (Post.pure rfl R q)
theorem Cmp_ge {i j : Int} {Q : Bool → Loc → Hp → Prop} (q : Q (decide (i ≥ j)) loc H) : Cmp F .GtE (.int i) (.int j) loc H Q := fun B s a b R ra rb => by
  cases ra; cases rb; exact PySem.P.ge_int (Post.pure rfl R q)
theorem Cmp_eqi {i j : Int} {Q : Bool → Loc → Hp → Prop} (q : Q (decide (i = j)) loc H) : Cmp F .Eq (.int i) (.int j) loc H Q := fun B s a b R ra rb => by
  cases ra; cases rb; exact PySem.P.eq_int (Post.pure rfl R q)
theorem Cmp_eqs {x y : Str} {Q : Bool → Loc → Hp → Prop} (q : Q (decide (x = y)) loc H) : Cmp F .Eq (.str x) (.str y) loc H Q := fun B s a b R ra rb => by
  cases ra; cases rb; exact PyProof.Rows.eq_str (Post.pure rfl R q)
theorem Cmp_nes {x y : Str} {Q : Bool → Loc → Hp → Prop} (q : Q (!decide (x = y)) loc H) : Cmp F .NotEq (.str x) (.str y) loc H Q := fun B s a b R ra rb => by
  cases ra; cases rb; exact PyProof.Rows.ne_str (Post.pure rfl R q)

noncomputable def WEs (F : Fx) (pos : Pos) (es : List Expr) (loc : Loc) (H : Hp) (Q : List V → Loc → Hp → Prop) : Prop := ∀ B s, FRel F B loc H s → PW F (spliced (backTo pos (starEach es F.env))) RelVs B s Q
theorem WEs_nil {pos : Pos} {Q : List V → Loc → Hp → Prop} (q : Q [] loc H) : WEs F pos [] loc H Q := fun B s R => spliced_nil (Post.pure .nil R q)
theorem WEs_cons {pos : Pos} {e : Expr} {rest : List Expr} {Q : List V → Loc → Hp → Prop} (h : WE F e loc H fun X l1 H1 => WEs F pos rest l1 H1 fun Xs l2 H2 => Q (X :: Xs) l2 H2)
    (he : starEach (e :: rest) F.env = (false, eval e F.env) :: starEach rest F.env := by rfl) : WEs F pos (e :: rest) loc H Q := fun B s R => by
  rw [he]
  exact spliced_cons ((h B s R).then fun a B1 X l1 H1 s1 le1 ra R1 h1 => (h1 B1 s1 R1).then fun b B2 Xs l2 H2 s2 le2 rb R2 q => (Post.pure (.cons (ra.mono le2) rb) R2 q).lift (le1.trans le2))

noncomputable def Hp.Fresh (H : Hp) (a : Addr) : Prop := ¬ H.Own a
theorem PW_newList {vs : List Value} {xs : List V} {B : Keep} {s : Shared} {P : Value → Shared → Prop} (R : FRel F B loc H s) (r : RelVs B vs xs) (hz : xs.length ≤ 1000000)
    (h : ∀ a s', H.Fresh a → FRel F B loc { H with L := up H.L a xs } s' → P (.ref a) s') : wpAny F.M F.A (newList vs) P F.E s := by
  refine wpAny_newObj_type (h s.heap.objs.size _ (R.fresh_H (R.fresh (Nat.le_refl _)).1) (R.newL (items := vs.toArray) (n := 0) (Nat.le_refl _) (fun b o e => Heap.get?_push_of_some _ e) (Heap.get?_push_size _ rfl) (by simpa using r) rfl rfl)) ?_
  show vs.toArray.size ≤ sizeLine
  rw [List.size_toArray, r.length, sizeLine_eq]; omega
theorem WE_List {es : List Expr} {pos : Pos} {Q : V → Loc → Hp → Prop} (h : WEs F pos es loc H fun Xs l1 H1 => Xs.length ≤ 1000000 ∧ ∀ a, H1.Fresh a → Q (.ref a) l1 { H1 with L := up H1.L a Xs }) : WE F (.List es pos) loc H Q := fun B s R =>
  PyProof.Rows.List_ ((h B s R).then fun a B1 Xs l1 H1 s1 le1 ra R1 q => PW_newList R1 ra q.1 fun a s' hf R' => (Post.pure (.ref a) R' (q.2 a hf)).lift le1)
theorem PW_newTuple {vs : List Value} {xs : List V} {B : Keep} {s : Shared} {P : Value → Shared → Prop} (R : FRel F B loc H s) (r : RelVs B vs xs) (hz : xs.length ≤ 1000000)
    (h : ∀ v s' B', Le B B' → RelV B' v (.tup xs) → FRel F B' loc H s' → P v s') : wpAny F.M F.A (newTuple vs) P F.E s := by
  have z := R.hold (s' := { s with heap := s.heap.push (tupObj vs.toArray 0) }) (a := s.heap.objs.size) (o := tupObj vs.toArray 0) (Nat.le_refl _) (fun b o e => Heap.get?_push_of_some _ e) (Heap.get?_push_size _ rfl) rfl rfl
  refine wpAny_newObj_type (h _ _ _ z.2.1 (.tup z.2.2 ?_) z.1) ?_
  · have := r.mono z.2.1
    simpa using this
  · show vs.toArray.size ≤ sizeLine
    rw [List.size_toArray, r.length, sizeLine_eq]; omega
theorem WE_Tuple {es : List Expr} {k : Nat} {pos : Pos} {Q : V → Loc → Hp → Prop} (h : WEs F pos es loc H fun Xs l1 H1 => Xs.length ≤ 1000000 ∧ Q (.tup Xs) l1 H1) : WE F (.Tuple es k pos) loc H Q := fun B s R =>
  PyProof.Rows.Tuple_ ((h B s R).then fun a B1 Xs l1 H1 s1 le1 ra R1 q => PW_newTuple R1 ra q.1 fun v s' B' le r R' => (Post.pure r R' q.2).lift (le1.trans le))

theorem Tru_bool {b : Bool} {Q : Bool → Loc → Hp → Prop} (q : Q b loc H) : Tru F (.bool b) loc H Q := fun B s a R ra => by
  cases ra; exact wpAny_truthy_bool (Post.pure rfl R q)
theorem Tru_none {Q : Bool → Loc → Hp → Prop} (q : Q false loc H) : Tru F .none loc H Q := fun B s a R ra => by
  cases ra; exact PyProof.Rows.truthy_none (Post.pure rfl R q)
theorem Tru_list {X : V} {xs : List V} {Q : Bool → Loc → Hp → Prop} (e : asL H X = some xs) (hz : xs.length ≤ 1000000) (q : Q (!xs.isEmpty) loc H) : Tru F X loc H Q := fun B s a R ra => by
  obtain ⟨l, items, m, rfl, hl, hr⟩ := asL_at R ra e
  have hlen := hr.length
  have hi : (!items.isEmpty) = (!xs.isEmpty) := by
    rw [Array.length_toList] at hlen
    cases xs with
    | nil => simp at hlen; simp [hlen]
    | cons x xs =>
      have : items.size ≠ 0 := by rw [hlen]; simp
      simp [Array.isEmpty, this]
  refine wpAny_truthy_list hl.isList ?_ ?_
  · rw [Array.length_toList] at hlen; rw [hlen]; omega
  · rw [hi]; exact Post.pure rfl (R.tok _) q
noncomputable def Call (F : Fx) (f : V) (Xs : List V) (loc : Loc) (H : Hp) (Q : V → Loc → Hp → Prop) : Prop :=
  ∀ B s v vs, FRel F B loc H s → RelV B v f → RelVs B vs Xs → PW F (call v vs) RelV B s Q
theorem Call_len {X : V} {xs : List V} {Q : V → Loc → Hp → Prop} (e : asL H X = some xs) (hz : xs.length ≤ 1000000) (q : Q (.int xs.length) loc H) : Call F (.raw (.builtin "len")) [X] loc H Q := fun B s v vs R rv rvs => by
  cases rv
  cases rvs with | cons ra r2 => ?_
  cases r2
  obtain ⟨l, items, m, rfl, hl, hr⟩ := asL_at R ra e
  have hlen := hr.length
  rw [Array.length_toList] at hlen
  refine PySem.Calls.call_len_list hl.isList (by rw [hlen]; omega) ?_
  rw [hlen]; exact Post.pure (.int _ _) (R.tok _) q
theorem Call_len_tup {xs : List V} {Q : V → Loc → Hp → Prop} (hz : xs.length ≤ 1000000) (q : Q (.int xs.length) loc H) : Call F (.raw (.builtin "len")) [.tup xs] loc H Q := fun B s v vs R rv rvs => by
  cases rv
  cases rvs with | cons ra r2 => ?_
  cases r2
  cases ra with | tup hb r => ?_
  have hlen := r.length
  rw [Array.length_toList] at hlen
  refine PyProof.Rows.len_tuple ⟨_, R.keep _ _ hb, rfl, _, rfl⟩ (by rw [hlen]; omega) ?_
  rw [hlen]; exact Post.pure (.int _ _) (R.tok _) q

noncomputable def Sub (F : Fx) (X Y : V) (loc : Loc) (H : Hp) (Q : V → Loc → Hp → Prop) : Prop :=
  ∀ B s o i, FRel F B loc H s → RelV B o X → RelV B i Y → SubscriptOn F.M F.A o i (Post F RelV B Q) F.E s

theorem WE_Subscript {value slice : Expr} {pos : Pos} {Q : V → Loc → Hp → Prop} (h : WE F value loc H fun X l1 H1 => WE F slice l1 H1 fun Y l2 H2 => Sub F X Y l2 H2 Q)
    (hs : ∀ o i, subscripted slice false o i = operate [o, i] (getItem o i) := by intro _ _; with_unfolding_all rfl) : WE F (.Subscript value slice pos) loc H Q := fun B s R => by
  show wpAny F.M F.A (eval (.Subscript value slice pos) F.env) _ _ _
  rw [eval_Subscript]
  refine wpAny_bind ((h B s R).then fun o B1 X l1 H1 s1 le1 ro R1 h1 => wpAny_bind (wpAny_holding ((h1 B1 s1 R1).then fun i B2 Y l2 H2 s2 le2 ri R2 h2 => wpAny_bind (wpAny_standAt ?_))))
  obtain ⟨T, id, hl, hT, hw⟩ := h2 B2 s2 o i R2 (ro.mono le2) ri
  rw [getitemInPython_of_ne hT.not_modules]
  refine wpAny_bind (wpAny_bind (wpAny_specialOf hT hl (wpAny_pure ?_)))
  show wpAny F.M F.A (subscripted slice false o i >>= _) _ _ _
  rw [hs]
  exact wpAny_bind (wpAny_operating (wpAny_mono hw (fun v s' p => wpAny_bind (wpAny_letTemporaryGo (wpAny_pure (p.lift (le1.trans le2))))) fun _ _ x => x))

theorem Sub_list {X : V} {xs : List V} {i : Int} {x : V} {Q : V → Loc → Hp → Prop} (e : asL H X = some xs) (h0 : 0 ≤ i) (hi : i < 1000000) (hx : xs[i.toNat]? = some x) (q : Q x loc H) : Sub F X (.int i) loc H Q := fun B s o j R ro rj => by
  cases rj
  obtain ⟨l, items, m, rfl, hl, hr⟩ := asL_at R ro e
  obtain ⟨v, e1, r⟩ := hr.get hx
  exact ⟨"list", _, list_getitem_lookup, hl.isList.typeIs, wpAny_getItem_list hl.isList h0 (by omega) (by simpa using e1) (Post.pure r R q)⟩
theorem Sub_tup {xs : List V} {i : Int} {x : V} {Q : V → Loc → Hp → Prop} (h0 : 0 ≤ i) (hi : i < 1000000) (hx : xs[i.toNat]? = some x) (q : Q x loc H) : Sub F (.tup xs) (.int i) loc H Q := fun B s o j R ro rj => by
  cases rj
  cases ro with | tup hb hr => ?_
  obtain ⟨v, e1, r⟩ := hr.get hx
  have ht : IsTup s.heap _ _ := ⟨_, R.keep _ _ hb, rfl, _, rfl⟩
  have hlen : i.toNat < _ := (List.getElem?_eq_some_iff.mp e1).1
  rw [Array.length_toList] at hlen
  exact ⟨"tuple", _, PySem.F.slot_tuple_getitem.lookup, ht.typeIs, PyProof.Rows.getItem_tuple ht (by omega) (by omega) (seqIndex_of h0 (by omega)) (by simpa using e1) (Post.pure r R q)⟩
end
end Lay
end
noncomputable section
open PySem PySem.W PyProof.Rows PySem.Calls
set_option Elab.async false
set_option maxRecDepth 100000
set_option linter.all false
namespace Lay

theorem bindL_eq {k : Str → Option NameKind} : ∀ (bs : List (Str × Value)) (m : Str → Option Value) (x : Str), (bs.map (·.1)).Nodup → k x = some .local → bindL k bs m x = (bs.lookup x).or (m x)
  | [], m, x, _, _ => rfl
  | (y, v) :: r, m, x, hn, hk => by
    rw [List.map_cons, List.nodup_cons] at hn
    unfold bindL
    rw [bindL_eq r _ x hn.2 hk, List.lookup_cons]
    cases e : x == y with
    | true =>
      obtain rfl := eq_of_beq e
      have : r.lookup x = none := by
        rw [List.lookup_eq_none_iff]
        intro p hp
        cases z : x == p.1 with
        | false => simp [bne, z]
        | true => exact absurd (List.mem_map.mpr ⟨p, hp, (eq_of_beq z).symm⟩) hn.1
      rw [this, if_pos hk]; simp
    | false =>
      have hne : x ≠ y := fun h => by rw [h] at e; simp at e
      split <;> simp [hne]
theorem bindC_eq {k : Str → Option NameKind} : ∀ (bs : List (Str × Value)) (m : Str → Option Value) (x : Str), (bs.map (·.1)).Nodup → k x ≠ some .local → bindC k bs m x = (bs.lookup x).or (m x)
  | [], m, x, _, _ => rfl
  | (y, v) :: r, m, x, hn, hk => by
    rw [List.map_cons, List.nodup_cons] at hn
    unfold bindC
    rw [bindC_eq r _ x hn.2 hk, List.lookup_cons]
    cases e : x == y with
    | true =>
      obtain rfl := eq_of_beq e
      have : r.lookup x = none := by
        rw [List.lookup_eq_none_iff]
        intro p hp
        cases z : x == p.1 with
        | false => simp [bne, z]
        | true => exact absurd (List.mem_map.mpr ⟨p, hp, (eq_of_beq z).symm⟩) hn.1
      rw [this, if_neg hk]; simp
    | false =>
      have hne : x ≠ y := fun h => by rw [h] at e; simp at e
      split <;> simp [hne]

noncomputable def initLoc (nm : List (Str × NameKind)) (bV : List (Str × V)) : Loc := nm.map fun p => if p.2 == .local then bV.lookup p.1 else none
noncomputable def addCells (H : Hp) (bV : List (Str × V)) : List (Str × Addr) → Hp
  | [] => H
  | (n, c) :: r => { addCells H bV r with C := up (addCells H bV r).C c (bV.lookup n) }

theorem RelKs.lookup {B : Keep} : ∀ {bs : List (Str × Value)} {bV : List (Str × V)} {x : Str}, RelKs B bs bV → relOpt B (bs.lookup x) (bV.lookup x)
  | _, _, _, .nil => trivial
  | (k, v) :: r, (_, X) :: rV, x, .cons a t => by
    rw [List.lookup_cons, List.lookup_cons]
    cases x == k with
    | true => exact a
    | false => exact RelKs.lookup t
theorem relKs_zip {B : Keep} : ∀ {pn : List Str} {vs : List Value} {xs : List V}, RelVs B vs xs → RelKs B (pn.zip vs) (pn.zip xs)
  | [], _, _, _ => by simp; exact .nil
  | p :: pn, _, _, .nil => by simp; exact .nil
  | p :: pn, _, _, .cons a r => by simp; exact .cons a (relKs_zip r)

theorem nm_at {nm : List (Str × NameKind)} {x : Str} {i : Nat} (h : slotOf nm x = some i) : ∃ k, nm[i]? = some (x, k) ∧ nm.lookup x = some k := by
  induction nm generalizing i with
  | nil => simp [slotOf] at h
  | cons p r ih =>
    obtain ⟨y, k⟩ := p
    unfold slotOf at h
    rw [List.findIdx?_cons] at h
    split at h
    · rename_i e
      cases h
      obtain rfl := eq_of_beq e
      exact ⟨k, by simp, by simp [List.lookup_cons]⟩
    · rename_i e
      obtain ⟨j, hj, he⟩ := Option.map_eq_some_iff.mp h
      subst he
      obtain ⟨k', h1, h2⟩ := ih hj
      refine ⟨k', by simpa using h1, ?_⟩
      have e' : (x == y) = false := by
        cases z : x == y with
        | false => rfl
        | true => exact absurd (by rw [eq_of_beq z]; exact beq_self_eq_true y) e
      rw [List.lookup_cons, e']; exact h2

theorem initLoc_ok {B : Keep} {nm : List (Str × NameKind)} {bs : List (Str × Value)} {bV : List (Str × V)} (r : RelKs B bs bV) (hn : (bs.map (·.1)).Nodup) :
    LocOk B nm (initLoc nm bV) (bindL (fun x => nm.lookup x) bs fun _ => none) := by
  intro x i X hx hl
  obtain ⟨k, h1, h2⟩ := nm_at hx
  unfold initLoc at hl
  rw [List.getElem?_map, h1] at hl
  simp only [Option.map_some, Option.some.injEq] at hl
  split at hl
  · rename_i hk
    obtain rfl := eq_of_beq hk
    rw [bindL_eq bs _ x hn h2]
    have q := r.lookup (x := x)
    rw [hl] at q
    cases e : bs.lookup x with
    | none => rw [e] at q; exact q.elim
    | some v => rw [e] at q; exact ⟨v, rfl, q⟩
  · cases hl

noncomputable def dropB (B : Keep) (a : Addr) : Keep := fun b => if b = a then none else B b
theorem dropB_ne {B : Keep} {a b : Addr} (h : b ≠ a) : dropB B a b = B b := by simp [dropB, h]
mutual
theorem RelV.drop {B : Keep} {a : Addr} {o : Obj} {fl} (hB : B a = some o) (hd : o.data = .fields fl) : ∀ {v : Value} {x : V}, RelV B v x → RelV (dropB B a) v x
  | _, _, .none => .none
  | _, _, .bool b => .bool b
  | _, _, .int i t => .int i t
  | _, _, .str x t k => .str x t k
  | _, _, .tup (a := a') hb r => .tup (by
      rw [dropB_ne]; exact hb
      rintro rfl; rw [hB] at hb; cases hb; cases hd) (RelVs.drop' hB hd r)
  | _, _, .list (a := a') hb r => .list (by
      rw [dropB_ne]; exact hb
      rintro rfl; rw [hB] at hb; cases hb; cases hd) (RelVs.drop' hB hd r)
  | _, _, .inst (a := a') (d := d') h1 h2 h3 r => .inst (by
      rw [dropB_ne]; exact h1
      rintro rfl; rw [hB] at h1; cases h1; cases hd) (by
      rw [dropB_ne]; exact h2
      rintro rfl; rw [hB] at h2; cases h2; rw [h3] at hd; cases hd) h3 (RelFs.drop hB hd r)
  | _, _, .ref a => .ref a
  | _, _, .raw v => .raw v
theorem RelVs.drop' {B : Keep} {a : Addr} {o : Obj} {fl} (hB : B a = some o) (hd : o.data = .fields fl) : ∀ {v : List Value} {x : List V}, RelVs B v x → RelVs (dropB B a) v x
  | _, _, .nil => .nil
  | _, _, .cons h r => .cons (RelV.drop hB hd h) (RelVs.drop' hB hd r)
theorem RelFs.drop {B : Keep} {a : Addr} {o : Obj} {fl} (hB : B a = some o) (hd : o.data = .fields fl) : ∀ {ob : Obj} {x : List (Str × V)}, RelFs B ob x → RelFs (dropB B a) ob x
  | _, _, .nil => .nil
  | _, _, .cons e h r => .cons e (RelV.drop hB hd h) (RelFs.drop hB hd r)
end
theorem RelKs.drop {κ : Type} {B : Keep} {a : Addr} {o : Obj} {fl} (hB : B a = some o) (hd : o.data = .fields fl) : ∀ {v : List (κ × Value)} {x : List (κ × V)}, RelKs B v x → RelKs (dropB B a) v x
  | _, _, .nil => .nil
  | _, _, .cons h r => .cons (h.drop hB hd) (RelKs.drop hB hd r)
theorem relOpt.drop {B : Keep} {a : Addr} {o : Obj} {fl} (hB : B a = some o) (hd : o.data = .fields fl) {v x} (r : relOpt B v x) : relOpt (dropB B a) v x := by
  cases v <;> cases x <;> first | exact trivial | exact r.elim | exact RelV.drop hB hd r
theorem LocOk.drop {B : Keep} {a : Addr} {o : Obj} {fl} (hB : B a = some o) (hd : o.data = .fields fl) {nm loc m} (x : LocOk B nm loc m) : LocOk (dropB B a) nm loc m :=
  fun y i X p q => let ⟨v, e, r⟩ := x y i X p q; ⟨v, e, r.drop hB hd⟩

noncomputable abbrev Base.sv (c : Base) (l : List (Addr × Obj)) : Base := { c with saved := l }
theorem OwnAt.sv {c : Base} {B : Keep} {h : Heap} {H : Hp} {a : Addr} {l : List (Addr × Obj)} (x : OwnAt c B h H a) : OwnAt (c.sv l) B h H a := ⟨x.out, x.l, x.d, x.p, x.s, x.i, x.c, x.dp, x.g⟩
theorem OwnAt.unsv {c : Base} {B : Keep} {h : Heap} {H : Hp} {a : Addr} {l : List (Addr × Obj)} (x : OwnAt (c.sv l) B h H a) : OwnAt c B h H a := ⟨x.out, x.l, x.d, x.p, x.s, x.i, x.c, x.dp, x.g⟩

section
variable {c : Base} {L L' : Addr} {nm nm' : List (Str × NameKind)} {B : Keep} {loc loc' : Loc} {H : Hp} {s : Shared}

theorem OwnAt.drop {h : Heap} {a b : Addr} {o : Obj} {fl} (hB : B a = some o) (hd : o.data = .fields fl) (x : OwnAt c B h H b) : OwnAt c (dropB B a) h H b where
  out := fun q => ⟨by unfold dropB; split; rfl; exact (x.out q).1, (x.out q).2⟩
  l := fun xs e => let ⟨i, n, q, r⟩ := x.l xs e; ⟨i, n, q, r.drop' hB hd⟩
  d := fun kvs e => let ⟨k, cs, q, r⟩ := x.d kvs e; ⟨k, cs, q, r.drop hB hd⟩
  p := fun ks e => let ⟨o, es, ep, xs, q, z1, z2, z3, z4, z5, z6⟩ := x.p ks e; ⟨o, es, ep, xs, q, z1, z2, z3, z4, z5, fun y hy => (z6 y hy).drop hB hd⟩
  s := x.s
  i := x.i
  c := fun ov e => let ⟨o, v, q, d, r⟩ := x.c ov e; ⟨o, v, q, d, r.drop hB hd⟩
  dp := x.dp
  g := x.g

theorem Rel.dropIt (R : Rel c L nm B loc H s) {a : Addr} {o : Obj} {fl} (hB : B a = some o) (hd : o.data = .fields fl) (hb : c.lo a = none) {s' : Shared} (hk : ∀ b o, b ≠ a → s.heap.get? b = some o → s'.heap.get? b = some o)
    (hg : s'.gens = s.gens) (ho : s'.os = s.os) : Rel c L nm (dropB B a) loc H s' where
  keep := fun b p e => by
    unfold dropB at e; split at e; cases e
    rename_i hne
    exact hk _ _ hne (R.keep _ _ e)
  based := ⟨R.based.1, fun b p e => by
    rw [dropB_ne]; exact R.based.2 _ _ e
    rintro rfl; rw [hb] at e; cases e⟩
  own := fun b => by
    by_cases hw : H.Own b
    · have hne : b ≠ a := by rintro rfl; rw [((R.own b).out hw).1] at hB; cases hB
      exact ((R.own b).drop hB hd).mono (Le.refl _) (fun p => hk b p hne) fun h => (((R.own b).drop hB hd).out h).1
    · obtain ⟨d1, d2, d3, d4, d5, d6⟩ := not_own hw
      refine ⟨fun h => absurd h hw, ?_, ?_, ?_, ?_, ?_, ?_, fun _ => d3, fun ep e => ?_⟩
      · intro y hy; rw [d1] at hy; cases hy
      · intro y hy; rw [d2] at hy; cases hy
      · intro y hy; rw [d3] at hy; cases hy
      · intro y hy; rw [d4] at hy; cases hy
      · intro y hy; rw [d5] at hy; cases hy
      · intro y hy; rw [d6] at hy; cases hy
      · exact absurd (.inr (.inl ((R.own b).g ep e).1)) hw
  lB := by unfold dropB; split; rfl; exact R.lB
  lH := R.lH
  ns := by
    obtain ⟨m, ⟨oL, es, ep, q, z⟩, l⟩ := R.ns
    refine ⟨m, ⟨oL, es, ep, hk _ _ ?_ q, z⟩, l.drop hB hd⟩
    rintro rfl; rw [R.lB] at hB; cases hB
  gens := hg.trans R.gens
  os := ho.trans R.os
  lim := R.lim
  sv := fun p hp => by
    obtain ⟨⟨ob, x1, y1⟩, x2, x3, x4⟩ := R.sv p hp
    refine ⟨⟨ob, hk _ _ (by rintro rfl; rw [x2] at hB; cases hB) x1, y1⟩, ?_, x3, x4⟩
    unfold dropB; split; rfl; exact x2

theorem Rel.back {m : Str → Option Value} {oL : Obj} (R : Rel (c.sv ((L, oL) :: c.saved)) L' nm' B loc' H s) (hs : ∀ p ∈ c.saved, p.1 ≠ L)
    (hn : s.heap.Ns L m) (hl : LocOk B nm loc m) : Rel c L nm B loc H s where
  keep := R.keep
  based := R.based
  own := fun a => (R.own a).unsv
  lB := (R.sv _ (.head _)).2.1
  lH := (R.sv _ (.head _)).2.2.1
  ns := ⟨m, hn, hl⟩
  gens := R.gens
  os := R.os
  lim := R.lim
  sv := fun p hp => let ⟨x1, x2, x3, _⟩ := R.sv p (.tail _ hp); ⟨x1, x2, x3, hs p hp⟩

theorem Rel.into {s' : Shared} {m' : Str → Option Value} {oL : Obj} (R : Rel c L nm B loc H s) (hL : s.heap.get? L = some oL) (hk : ∀ b o, s.heap.get? b = some o → s'.heap.get? b = some o) (hf : s.heap.objs.size ≤ L')
    (hn : s'.heap.Ns L' m') (hl : LocOk B nm' loc' m') (hg : s'.gens = s.gens) (ho : s'.os = s.os) : Rel (c.sv ((L, oL) :: c.saved)) L' nm' B loc' H s' where
  keep := fun a o e => hk _ _ (R.keep _ _ e)
  based := R.based
  own := fun a => ((R.own a).mono (Le.refl _) (hk a) fun h => ((R.own a).out h).1).sv
  lB := R.fresh_B (R.fresh hf).1
  lH := R.fresh_H (R.fresh hf).1
  ns := ⟨m', hn, hl⟩
  gens := hg.trans R.gens
  os := ho.trans R.os
  lim := R.lim
  sv := fun p hp => by
    cases hp with
    | head _ => exact ⟨⟨_, hk _ _ hL, rfl, fun _ => rfl⟩, R.lB, R.lH, fun e => (R.fresh_L (R.fresh hf).1) e.symm⟩
    | tail _ hp =>
      obtain ⟨⟨ob, x1, y1⟩, x2, x3, x4⟩ := R.sv p hp
      exact ⟨⟨ob, hk _ _ x1, y1⟩, x2, x3, by intro e; rw [e, (R.fresh hf).1] at x1; cases x1⟩

theorem Rel.adoptC (R : Rel c L nm B loc H s) {a : Addr} {ov : Option V} {v : Option Value} (hB : B a = none) (hO : ¬ H.Own a) (hL : a ≠ L) (hS : ∀ p ∈ c.saved, p.1 ≠ a) (hlim : c.lim < a) (hc : s.heap.IsCell a v) (r : relOpt B v ov) :
    Rel c L nm B loc { H with C := up H.C a ov } s := by
  obtain ⟨o, ho, hd⟩ := hc
  obtain ⟨d0, d1, d2, d3, d4, d5⟩ := not_own hO
  refine R.chg hB hL hS (fun b o _ e => e) (fun b hb => ⟨rfl, rfl, rfl, rfl, rfl, up_same _ _ _ hb, rfl⟩) ⟨fun _ => ⟨hB, hlim⟩, ?_, ?_, ?_, ?_, ?_, ?_, fun _ => d2, fun ep e => absurd (.inr (.inl ((R.own a).g ep e).1)) hO⟩ rfl rfl
  · intro y hy; rw [d0] at hy; cases hy
  · intro y hy; rw [d1] at hy; cases hy
  · intro y hy; rw [d2] at hy; cases hy
  · intro y hy; rw [d3] at hy; cases hy
  · intro y hy; rw [d4] at hy; cases hy
  · intro y hy
    simp only [up_self, Option.some.injEq] at hy
    subst hy; exact ⟨_, _, ho, hd, r⟩

theorem addCells_own {bV : List (Str × V)} : ∀ {cs : List (Str × Addr)} {a : Addr}, (addCells H bV cs).Own a → H.Own a ∨ ∃ n, (n, a) ∈ cs
  | [], a, h => .inl h
  | (n, c) :: r, a, h => by
    by_cases e : a = c
    · subst e; exact .inr ⟨n, .head _⟩
    · have : (addCells H bV r).Own a := by
        have h' : Hp.Own { addCells H bV r with C := up (addCells H bV r).C c (bV.lookup n) } a := h
        unfold Hp.Own at h' ⊢
        simpa only [up_ne e] using h'
      rcases addCells_own this with h | ⟨m, h⟩
      · exact .inl h
      · exact .inr ⟨m, .tail _ h⟩
theorem Rel.adopts {bV : List (Str × V)} {cm : Str → Option Value} (R : Rel c L nm B loc H s) : ∀ {cs : List (Str × Addr)}, (∀ n a, (n, a) ∈ cs → B a = none ∧ ¬ H.Own a ∧ a ≠ L ∧ (∀ p ∈ c.saved, p.1 ≠ a) ∧ c.lim < a ∧ s.heap.IsCell a (cm n) ∧ relOpt B (cm n) (bV.lookup n)) →
    cs.Pairwise (fun x y => x.2 ≠ y.2) → Rel c L nm B loc (addCells H bV cs) s
  | [], _, _ => R
  | (n, a) :: r, h, hp => by
    rw [List.pairwise_cons] at hp
    obtain ⟨h1, h2, h3, hS, h4, h5, h6⟩ := h n a (.head _)
    refine Rel.adoptC (R.adopts (fun m b hm => h m b (.tail _ hm)) hp.2) h1 (fun q => ?_) h3 hS h4 h5 h6
    rcases addCells_own q with q | ⟨m, q⟩
    · exact h2 q
    · exact hp.1 _ q rfl
end

section
variable {F : Fx} {n : Nat} {loc : Loc} {H : Hp}

noncomputable def retV : Fl → V
  | .ret x => x
  | _ => .none

structure Fn (b : Heap) (f : Addr) (fd : FuncData) (body : List Stmt) : Prop where
  at_ : ∃ o, b.get? f = some o ∧ o.data = .func fd
  nolim : b.NoLimit
  code : b.CodeRec fd.code fd.qualname
  body : fd.body = .stmts body
  clo : fd.closure = []
  nd : (fd.scope.names.map (·.1)).Nodup
  glob : fd.globals = mainGlobals
  bi : fd.builtins = builtinsNs
  kind : fd.scope.kind = .function
  co : fd.scope.isCoroutine = false
  gen : fd.scope.isGenerator = false
  dbg : fd.scope.names.lookup ("__debug__" : Str) = none

theorem cellsFrom_mem : ∀ {names : List (Str × NameKind)} {k : Nat} {acc : List (Str × Addr)} {x : Str}, ((x, NameKind.cell) ∈ names ∨ ∃ a, (x, a) ∈ acc) → ((cellsFrom k names acc).lookup x).isSome = true
  | [], k, acc, x, h => by
    rcases h with h | ⟨a, h⟩
    · cases h
    · unfold cellsFrom
      cases e : acc.lookup x with
      | some _ => rfl
      | none =>
        rw [List.lookup_eq_none_iff] at e
        have := e _ h
        simp at this
  | (y, kd) :: r, k, acc, x, h => by
    unfold cellsFrom
    split
    · refine cellsFrom_mem ?_
      rcases h with h | ⟨a, h⟩
      · cases h with
        | head _ => exact .inr ⟨k, .head _⟩
        | tail _ h => exact .inl h
      · exact .inr ⟨a, .tail _ h⟩
    · rename_i hk
      refine cellsFrom_mem ?_
      rcases h with h | ⟨a, h⟩
      · cases h with
        | head _ => exact absurd rfl hk
        | tail _ h => exact .inl h
      · exact .inr ⟨a, h⟩

theorem lookup_mem {nm : List (Str × NameKind)} {x : Str} {k : NameKind} (h : nm.lookup x = some k) : (x, k) ∈ nm := by
  induction nm with
  | nil => cases h
  | cons p r ih =>
    obtain ⟨y, k'⟩ := p
    rw [List.lookup_cons] at h
    cases e : x == y with
    | true => rw [e] at h; cases h; obtain rfl := eq_of_beq e; exact .head _
    | false => rw [e] at h; exact .tail _ (ih h)

theorem cellsFrom_keys : ∀ (names : List (Str × NameKind)) (k : Nat) (acc : List (Str × Addr)), (cellsFrom k names acc).map (·.1) = ((names.filter (·.2 == .cell)).map (·.1)).reverse ++ acc.map (·.1)
  | [], k, acc => rfl
  | (y, kd) :: r, k, acc => by
    unfold cellsFrom
    split
    · rename_i h
      rw [cellsFrom_keys r, List.filter_cons]
      simp [h]
    · rename_i h
      rw [cellsFrom_keys r, List.filter_cons]
      simp [h]
theorem lookup_of_mem {α : Type} : ∀ {l : List (Str × α)} {n : Str} {a : α}, (l.map (·.1)).Nodup → (n, a) ∈ l → l.lookup n = some a
  | (m, b) :: r, n, a, hn, h => by
    rw [List.map_cons, List.nodup_cons] at hn
    rw [List.lookup_cons]
    cases h with
    | head _ => simp
    | tail _ h =>
      have : (n == m) = false := by
        cases e : n == m with
        | false => rfl
        | true => exact absurd (List.mem_map.mpr ⟨_, h, eq_of_beq e⟩) hn.1
      rw [this]; exact lookup_of_mem hn.2 h

theorem code_call_cells {prog : Program} {w : World} {A : Around} {s : Shared} {R : Result → Shared → Prop} {a : Addr} {o : Obj} {fd : FuncData} {body : List Stmt} {args : Args} {binds : List (Str × Value)}
    (hroom : A.depth < recursionLimit) (ho : s.heap.get? a = some o) (hdata : o.data = .func fd) (hlim : s.heap.NoLimit) (hcd : s.heap.CodeRec fd.code fd.qualname)
    (hbody : fd.body = .stmts body) (hbind : Looks (model prog w) s.heap (bindArgs fd args) binds) (hclo : fd.closure = [])
    (hkind : ∀ x ∈ binds, fd.scope.names.lookup x.1 = some .local ∨ (fd.scope.names.lookup x.1 = some .cell ∧ ((cellsFrom (s.heap.objs.size + 1) fd.scope.names []).lookup x.1).isSome = true))
    (h : ∀ s₁, InCallC s (callEnvC fd s.heap.objs.size a).locals (bindL (callEnvC fd s.heap.objs.size a).kindOf binds fun _ => none) (callEnvC fd s.heap.objs.size a).cells
        (bindC (callEnvC fd s.heap.objs.size a).kindOf binds fun _ => none) s₁ →
      wpAny (model prog w) (A.deeper (callEnvC fd s.heap.objs.size a)) (execs body (callEnvC fd s.heap.objs.size a)) (fun f s' => R (.ok (.ret (match f with | .ret v => v | _ => .none))) s')
        (fun e s' => wpAny (model prog w) (A.deeper (callEnvC fd s.heap.objs.size a)) (leaving (callEnvC fd s.heap.objs.size a) e) (fun _ s'' => R (.error e) s'') (fun e' s'' => R (.error e') s'') s') s₁)
    (hco : fd.scope.isCoroutine = false) (hgen : fd.scope.isGenerator = false) (hk : fd.scope.kind = .function) :
    codeAny (model prog w) A (.call (.ref a) args) R s := by
  refine codeAny_call_function hroom ho hdata hco hgen hbody hcd ?_
  rw [hclo]
  refine hbind.here (wpAny_newFunctionEnv_cells hk hkind fun env he s' x => ?_)
  subst he
  exact ⟨hlim.keeps x.toInCall.keep, codeAny_func (h s' x)⟩

noncomputable abbrev Fx.callE (F : Fx) (R : Result → Shared → Prop) (env : Env) : Value → Shared → Prop := fun e s' => wpAny F.M (F.A.deeper env) (leaving env e) (fun _ s'' => R (.error e) s'') (fun e' s'' => R (.error e') s'') s'

theorem Code_def (ok : Ok F (n + 1)) {f : Addr} {fd : FuncData} {body : List Stmt} {kws : List Str} {Xs Ws : List V} {bV : List (Str × V)} {Q : V → Loc → Hp → Prop} {RR : Result → Shared → Prop} (W : Fn F.c.base f fd body)
    (hbind : ∀ (vs ws : List Value) (B : Keep), RelVs B vs Xs → RelVs B ws Ws → Le (fun a => F.c.base.get? a) B → ∃ bs, Looks F.M F.c.base (bindArgs fd ⟨vs, kws.zip ws⟩) bs ∧ RelKs B bs bV)
    (hnd : (bV.map (·.1)).Nodup) (hloc : ∀ x ∈ bV.map (·.1), fd.scope.names.lookup x = some .local ∨ fd.scope.names.lookup x = some .cell)
    (h : ∀ sv L, Ok ⟨F.c.sv sv, F.A.deeper (callEnvC fd L f), callEnvC fd L f, F.callE RR (callEnvC fd L f)⟩ n → Top ⟨F.c.sv sv, F.A.deeper (callEnvC fd L f), callEnvC fd L f, F.callE RR (callEnvC fd L f)⟩ → (∀ x c, (x, c) ∈ cellsFrom (L + 1) fd.scope.names [] → H.Fresh c) →
      WSs ⟨F.c.sv sv, F.A.deeper (callEnvC fd L f), callEnvC fd L f, F.callE RR (callEnvC fd L f)⟩ body (initLoc fd.scope.names bV) (addCells H bV (cellsFrom (L + 1) fd.scope.names [])) fun fl _ H' => Q (retV fl) loc H')
    {B : Keep} {s : Shared} {vs ws : List Value} (R : FRel F B loc H s) (rvs : RelVs B vs Xs) (rws : RelVs B ws Ws) (hR : ∀ v s', Post F RelV B Q v s' → RR (.ok (.ret v)) s') :
    codeAny F.M F.A (.call (.ref f) ⟨vs, kws.zip ws⟩) RR s := by
  obtain ⟨o, ho, hd⟩ := W.at_
  obtain ⟨mL, ⟨oL, esL, epL, hL, hdL, hkL⟩, hlL⟩ := R.ns
  obtain ⟨bs, hb, hks⟩ := hbind vs ws B rvs rws (base_le R)
  have hkey := hks.keys
  refine code_call_cells (by have := ok.depth; omega) (R.inBase ho) hd (W.nolim.keeps fun b o e => R.inBase e) (W.code.keeps fun b o e => R.inBase e) W.body (hb.keeps fun b o e => R.inBase e) W.clo ?_ (fun s₁ X => ?_) W.co W.gen W.kind
  · intro x hx
    have hm : x.1 ∈ bV.map (·.1) := by rw [← hkey]; exact List.mem_map.mpr ⟨_, hx, rfl⟩
    rcases hloc _ hm with h1 | h1
    · exact .inl h1
    · exact .inr ⟨h1, cellsFrom_mem (.inl (lookup_mem h1))⟩
  · obtain ⟨⟨hh, tk, rfl⟩, hns, hkeep, hfr⟩ := X.toInCall
    have hnd' : (bs.map (·.1)).Nodup := by rw [hkey]; exact hnd
    have ok' : Ok ⟨F.c.sv ((F.L, oL) :: F.c.saved), F.A.deeper (callEnvC fd s.heap.objs.size f), callEnvC fd s.heap.objs.size f, F.callE RR (callEnvC fd s.heap.objs.size f)⟩ n := by
      refine ⟨W.kind, W.glob, W.bi, W.dbg, ?_, ?_, fun _ => ok.handled (by omega), ?_⟩
      · have := ok.units
        show F.A.units + 3 + 40 * n + 200 < cLine
        omega
      · have := ok.depth
        show F.A.depth + 1 + 4 * n + 4 < recursionLimit
        omega
      · obtain ⟨fl, h1, h2⟩ := ok.fr
        refine ⟨callEnvC fd s.heap.objs.size f :: fl, by show F.A.frames.map _ = _; rw [h1]; rfl, fun e he => ?_⟩
        cases he with
        | head _ => exact ⟨(by show fd.scope.kind ≠ .module; rw [W.kind]; intro h; cases h), .inl rfl⟩
        | tail _ he =>
          obtain ⟨g1, g2⟩ := h2 e he
          refine ⟨g1, .inr ?_⟩
          rcases g2 with g2 | ⟨p, hp, g2⟩
          · exact ⟨_, .head _, g2, esL, epL, hdL⟩
          · exact ⟨p, .tail _ hp, g2⟩
    have top' : Top ⟨F.c.sv ((F.L, oL) :: F.c.saved), F.A.deeper (callEnvC fd s.heap.objs.size f), callEnvC fd s.heap.objs.size f, F.callE RR (callEnvC fd s.heap.objs.size f)⟩ := by
      obtain ⟨fl, h1, h2⟩ := ok.fr
      exact ⟨fl, by show F.A.frames.map _ = _; rw [h1]; rfl, rfl⟩
    have R1 : Rel (F.c.sv ((F.L, oL) :: F.c.saved)) s.heap.objs.size fd.scope.names B (initLoc fd.scope.names bV) H ⟨hh, s.gens, s.drawn, tk, s.os⟩ :=
      R.into (s' := ⟨hh, s.gens, s.drawn, tk, s.os⟩) hL hkeep (Nat.le_refl _) hns (initLoc_ok hks hnd') rfl rfl
    have fr : ∀ n a, (n, a) ∈ cellsFrom (s.heap.objs.size + 1) fd.scope.names [] → s.heap.objs.size < a := fun n a hm => X.above n a hm
    have R2 := R1.adopts (bV := bV) (cm := bindC (fun x => fd.scope.names.lookup x) (bs) fun _ => none) (cs := cellsFrom (s.heap.objs.size + 1) fd.scope.names []) (fun n a hm => by
      have ha := fr n a hm
      have hfa := R.fresh (Nat.le_of_lt ha)
      refine ⟨R.fresh_B hfa.1, R.fresh_H hfa.1, Nat.ne_of_gt ha, ?_, hfa.2, ?_, ?_⟩
      · intro p hp e
        cases hp with
        | head _ => exact R.fresh_L hfa.1 e.symm
        | tail _ hp => obtain ⟨ob, h1, _⟩ := (R.sv p hp).1; rw [e, hfa.1] at h1; cases h1
      · have hk := cellsFrom_keys fd.scope.names (s.heap.objs.size + 1) []
        have hnd2 : ((cellsFrom (s.heap.objs.size + 1) fd.scope.names []).map (·.1)).Nodup := by
          rw [hk]
          simp only [List.map_nil, List.append_nil]
          exact (List.reverse_perm _).nodup_iff.mpr ((List.Sublist.map _ List.filter_sublist).nodup W.nd)
        exact X.cell n a (lookup_of_mem hnd2 hm)
      · have hk := cellsFrom_keys fd.scope.names (s.heap.objs.size + 1) []
        have hm2 : n ∈ (cellsFrom (s.heap.objs.size + 1) fd.scope.names []).map (·.1) := List.mem_map.mpr ⟨_, hm, rfl⟩
        rw [hk] at hm2
        simp only [List.map_nil, List.append_nil, List.mem_reverse, List.mem_map, List.mem_filter] at hm2
        obtain ⟨⟨n', kd⟩, ⟨hm3, hm4⟩, rfl⟩ := hm2
        have hm5 : kd = NameKind.cell := eq_of_beq hm4
        subst hm5
        have hlk := lookup_of_mem W.nd hm3
        rw [bindC_eq _ _ _ hnd' (by rw [hlk]; simp)]
        simp only [Option.or_none]
        exact hks.lookup) X.apart
    refine wpAny_mono (h _ _ ok' top' (fun x c hm => R.fresh_H (R.fresh (Nat.le_of_lt (fr x c hm))).1) _ _ R2) (fun fl s' p => ?_) fun _ _ x => x
    obtain ⟨B2, b, l2, H2, le2, rf, R3, q⟩ := p
    obtain ⟨oL', hL', hd', _⟩ := (R3.sv _ (.head _)).1
    have R4 : FRel F B2 loc H2 s' := R3.back (fun p hp => (R.sv p hp).2.2.2) ⟨oL', esL, epL, hL', hd'.trans hdL, hkL⟩ (hlL.mono le2)
    refine hR _ _ ⟨B2, retV b, loc, H2, le2, ?_, R4, q⟩
    cases rf with
    | next => exact .none
    | brk => exact .none
    | cont => exact .none
    | ret r => exact r

noncomputable abbrev Fx.plainR (F : Fx) (Q : Value → Shared → Prop) : Result → Shared → Prop := fun r s' => match r with | .ok (.ret v) => Q v s' | .ok _ => False | .error e => F.E e s'
end
end Lay
end
noncomputable section
open PySem PySem.W PyProof.Rows PySem.Calls
set_option Elab.async false
set_option maxRecDepth 100000
set_option linter.all false
namespace Lay

noncomputable def dget {α : Type} (kvs : List (Str × α)) (k : Str) : Option α := (kvs.find? fun kv => kv.1 = k).map (·.2)
noncomputable def dput {α : Type} (kvs : List (Str × α)) (k : Str) (x : α) : List (Str × α) :=
  if kvs.any (fun kv => kv.1 = k) then kvs.map (fun kv => if kv.1 = k then (kv.1, x) else kv) else kvs ++ [(k, x)]
theorem find_map_ne {α : Type} {k k' : Str} {x : α} (h : ¬ k = k') : ∀ r : List (Str × α), ((r.map fun kv => if kv.1 = k then (kv.1, x) else kv).find? fun kv => kv.1 = k').map (·.2) = (r.find? fun kv => kv.1 = k').map (·.2)
  | [] => rfl
  | (a, b) :: r => by
    rw [List.map_cons, List.find?_cons, List.find?_cons]
    by_cases h4 : a = k
    · subst h4
      simp only [if_true, decide_eq_false h]
      exact find_map_ne h r
    · simp only [if_neg h4]
      by_cases h3 : a = k'
      · simp only [decide_eq_true h3]
      · simp only [decide_eq_false h3]
        exact find_map_ne h r
theorem dget_dput {α : Type} (kvs : List (Str × α)) (k k' : Str) (x : α) : dget (dput kvs k x) k' = if k' = k then some x else dget kvs k' := by
  unfold dput
  split
  · rename_i h
    by_cases e : k' = k
    · subst e
      rw [if_pos rfl]
      induction kvs with
      | nil => simp at h
      | cons p r ih =>
        obtain ⟨y, z⟩ := p
        unfold dget at ih ⊢
        rw [List.map_cons, List.find?_cons]
        by_cases h1 : y = k'
        · subst h1; simp
        · simp only [if_neg h1, decide_eq_false h1]
          exact ih (by simpa [h1] using h)
    · rw [if_neg e]
      exact find_map_ne (fun z => e z.symm) kvs
  · rename_i h
    have hn : ∀ p ∈ kvs, p.1 ≠ k := fun p hp e => h (List.any_eq_true.mpr ⟨p, hp, by simpa using e⟩)
    unfold dget
    rw [List.find?_append]
    by_cases e : k' = k
    · subst e
      have : kvs.find? (fun kv => decide (kv.1 = k')) = none := by
        rw [List.find?_eq_none]; intro p hp; simpa using hn p hp
      simp [this]
    · have e' : ¬ k = k' := fun z => e z.symm
      cases kvs.find? (fun kv => decide (kv.1 = k')) <;> simp [e, e']
theorem dput_length {α : Type} (kvs : List (Str × α)) (k : Str) (x : α) : (dput kvs k x).length ≤ kvs.length + 1 := by
  unfold dput; split <;> simp
theorem dput_new {α : Type} {kvs : List (Str × α)} {k : Str} {x : α} (h : dget kvs k = none) : dput kvs k x = kvs ++ [(k, x)] := by
  unfold dput
  rw [if_neg]
  intro hh
  obtain ⟨p, hp, e⟩ := List.any_eq_true.mp hh
  unfold dget at h
  simp only [Option.map_eq_none_iff, List.find?_eq_none] at h
  exact h p hp e
theorem dget_none_iff {α : Type} {kvs : List (Str × α)} {k : Str} : dget kvs k = none ↔ k ∉ kvs.map (·.1) := by
  unfold dget
  simp only [Option.map_eq_none_iff, List.find?_eq_none, decide_eq_true_eq, List.mem_map, not_exists, not_and]

section
variable {B : Keep}
theorem RelKs.any {cs : List (Str × Value)} {kvs : List (Str × V)} (h : RelKs B cs kvs) (k : Str) : cs.any (fun kv => kv.1 = k) = kvs.any (fun kv => kv.1 = k) := by
  induction h with
  | nil => rfl
  | cons _ _ ih => simp [ih]
theorem RelKs.stored {cs : List (Str × Value)} {kvs : List (Str × V)} {k : Str} {v : Value} {X : V} (h : RelKs B cs kvs) (r : RelV B v X) : RelKs B (stored cs k v) (dput kvs k X) := by
  unfold PySem.stored dput
  rw [h.any k]
  split
  · rename_i hx
    clear hx
    induction h with
    | nil => exact .nil
    | cons a t ih =>
      simp only [List.map_cons]
      split
      · exact .cons r ih
      · exact .cons a ih
  · exact h.append (.cons r .nil)
theorem RelKs.get {cs : List (Str × Value)} {kvs : List (Str × V)} {k : Str} (h : RelKs B cs kvs) : relOpt B (valueAt cs k) (dget kvs k) := by
  induction h with
  | nil => trivial
  | @cons k' v x vs xs a t ih =>
    unfold valueAt dget at ih ⊢
    simp only [List.find?_cons]
    by_cases e : k' = k
    · simp [e]; exact a
    · simp only [e, decide_false]; exact ih
end

theorem isStr_eq (v : Value) (x : Str) : v.isStr x = Value.isStrOf x v := by cases v <;> rfl

theorem strKind_is {prog : Program} {w : World} (x : Str) (t : Tok) : (PySem.strKind prog w).is x (.str x t) = true := by simp [PySem.strKind, Value.isStrOf]

section
variable {F : Fx} {n : Nat} {loc : Loc} {H : Hp}

noncomputable def KeepOk (F : Fx) (f : V) (loc : Loc) (H : Hp) : Prop := ∀ B s v, FRel F B loc H s → RelV B v f → ∃ k, ∀ Q : Keeper → Shared → Prop, Q k s → wpAny F.M F.A (keeperOf v) Q F.E s
theorem KeepOk_raw {v : Value} (h : ∀ a, v ≠ .ref a) : KeepOk F (.raw v) loc H := fun B s v' R r => by
  cases r
  refine ⟨.machine, fun Q q => ?_⟩
  unfold keeperOf
  cases v <;> first | exact wpAny_pure q | exact absurd rfl (h _)
theorem KeepOk_base {K : Frag} (hK : K.In F.c.base) {a : Addr} (e : keepIn K (.ref a) = true) : KeepOk F (.ref a) loc H := fun B s v' R r => by
  cases r
  obtain ⟨k, _, h⟩ := looks_keep (M := F.M) e (h := s.heap) (fun a o q => R.inBase (hK a o q))
  exact ⟨k, fun Q q => h _ _ _ s (fun _ _ e => e) q⟩

theorem callWith_gen {M : Model} {A : Around} {E : Value → Shared → Prop} {s : Shared} {pos : Pos} {f : Value} {first : List Value} {args : List (Bool × Sem Value)} {Q : Value → Shared → Prop} (hplain : args.any (·.1) = false)
    (h : wpAny M A (evalArgs f true args []) (fun a s₁ => (∃ k, ∀ Q' : Keeper → Shared → Prop, Q' k s₁ → wpAny M A (keeperOf f) Q' E s₁) ∧ wpAny M A (call f (first ++ a.pos) a.kw) Q E s₁) E s) :
    wpAny M A (callWith pos f first args []) Q E s := by
  unfold callWith
  refine wpAny_bind (wpAny_holding (wpAny_mono h (fun x s₁ h₁ => wpAny_bind (wpAny_standAt ?_)) fun _ _ x => x))
  obtain ⟨⟨k, hk⟩, hc⟩ := h₁
  have tail : ∀ {t : Sem Value}, wpAny M A t Q E s₁ → wpAny M A (t >>= fun r => holding [r] point >>= fun _ => pure r) Q E s₁ :=
    fun ht => wpAny_bind (wpAny_mono ht (fun r s₂ hr => wpAny_bind (wpAny_holding (wpAny_point (wpAny_pure hr)))) fun _ _ x => x)
  simp only [hplain, List.any_nil, Bool.or_false]
  refine wpAny_bind (m := keeperOf f) (hk _ ?_)
  cases k
  · dsimp only
    split
    · exact tail hc
    · exact tail (Calls.wpAny_keep hc)
  · dsimp only
    split
    · exact tail hc
    · exact tail (Calls.wpAny_keep hc)
  · exact tail hc
  · exact tail (wpAny_operating hc)

theorem evalArgs_gen {M : Model} {A : Around} {E : Value → Shared → Prop} {s : Shared} {f : Value} {args : List (Bool × Sem Value)} {Q : Args → Shared → Prop} (hplain : args.any (·.1) = false)
    (h : wpAny M A (spliced args) (fun vs s' => Q ⟨vs, []⟩ s') E s) : wpAny M A (evalArgs f true args []) Q E s := by
  cases args with
  | nil =>
    unfold evalArgs
    show wpAny M A (spliced [] >>= _) Q E s
    refine wpAny_bind (wpAny_mono h (fun vs s' h' => ?_) fun _ _ x => x)
    refine wpAny_holding ?_
    exact wpAny_bind (wpAny_pure (wpAny_bind (wpAny_pure (wpAny_pure h'))))
  | cons p r =>
    obtain ⟨b, x⟩ := p
    simp only [List.any_cons, Bool.or_eq_false_iff] at hplain
    obtain ⟨rfl, _⟩ := hplain
    exact evalArgs_plain h

theorem WE_CallN {x : Str} {np pos : Pos} {args : List Expr} {Q : V → Loc → Hp → Prop}
    (h : WE F (.Name x np) loc H fun f l1 H1 => WEs F pos args l1 H1 fun Xs l2 H2 => KeepOk F f l2 H2 ∧ Call F f Xs l2 H2 Q)
    (hns : (backTo pos (starEach args F.env)).any (·.1) = false := by rfl) : WE F (.Call (.Name x np) args [] pos) loc H Q := fun B s R =>
  wpAny_Call_ofName ((h B s R).then fun f B1 X l1 H1 s1 le1 rf R1 h1 => callWith_gen hns (evalArgs_gen hns ((h1 B1 s1 R1).then fun vs B2 Xs l2 H2 s2 le2 rv R2 h2 =>
    ⟨h2.1 B2 s2 f R2 (rf.mono le2), (h2.2 B2 s2 f vs R2 (rf.mono le2) rv).lift (le1.trans le2)⟩)))

noncomputable def MGet (F : Fx) (name : Str) (X : V) (loc : Loc) (H : Hp) (Q : V → List V → Loc → Hp → Prop) : Prop :=
  ∀ B s v pl, FRel F B loc H s → RelV B v X → PW F (getMethod v name pl) (fun B (p : Value × List Value) (q : V × List V) => RelV B p.1 q.1 ∧ RelVs B p.2 q.2) B s fun q => Q q.1 q.2

theorem WE_CallM {o : Expr} {name : Str} {apos pos : Pos} {args : List Expr} {Q : V → Loc → Hp → Prop}
    (h : WE F o loc H fun X l1 H1 => MGet F name X l1 H1 fun f Fs l2 H2 => WEs F pos args l2 H2 fun Xs l3 H3 => KeepOk F f l3 H3 ∧ Call F f (Fs ++ Xs) l3 H3 Q)
    (hbase : attributeBase o name F.env (eval o F.env) = eval o F.env := by rfl)
    (hfew : methodCallForm (args.length + ([] : List Keyword).length) (backTo pos (starEach args F.env)) (backToKw pos (keywordEach [] F.env)) = true := by rfl)
    (hline : (apos.endLine == pos.line) = true := by rfl)
    (hns : (backTo pos (starEach args F.env)).any (·.1) = false := by rfl) : WE F (.Call (.Attribute o name apos) args [] pos) loc H Q := fun B s R => by
  show wpAny F.M F.A (eval (.Call (.Attribute o name apos) args [] pos) F.env) _ _ _
  rw [arm_eval_Call, hbase]
  refine wpAny_bind ((h B s R).then fun v B1 X l1 H1 s1 le1 rv R1 h1 => wpAny_bind (wpAny_standAt ?_))
  show wpAny _ _ (methodCall o name apos pos F.env v _ _ _) _ _ _
  unfold methodCall
  rw [hfew]
  refine wpAny_bind (wpAny_holding ?_)
  show wpAny _ _ (getMethod v name _) _ _ _
  refine (h1 B1 s1 v _ R1 rv).then fun p B2 q l2 H2 s2 le2 rq R2 h2 => ?_
  have hp : methodCallPos true o F.env apos pos = pure pos := by unfold methodCallPos; rw [hline]; rfl
  obtain ⟨f, fs⟩ := p
  dsimp only
  refine wpAny_bind ?_
  rw [hp]
  refine wpAny_pure ?_
  refine callWith_gen hns (evalArgs_gen hns ((h2 B2 s2 R2).then fun vs B3 Xs l3 H3 s3 le3 rv' R3 h3 =>
    ⟨h3.1 B3 s3 f R3 (rq.1.mono le3), (h3.2 B3 s3 f _ R3 (rq.1.mono le3) ((rq.2.mono le3).append rv')).lift (le1.trans (le2.trans le3))⟩))

theorem MGet_slot {T : String} {name : Str} {id : String} {X : V} {Q : V → List V → Loc → Hp → Prop} (pa : PlainAttrs T) (slot : Slot T name id) (hty : typeOf (.builtin id) = pure (.type "method_descriptor"))
    (hT : ∀ B s v, FRel F B loc H s → RelV B v X → s.TypeIs v T ∧ (∀ a, v = .ref a → ∃ ob, s.heap.get? a = some ob ∧ ob.dict = none)) (q : Q (.raw (.builtin id)) [X] loc H) : MGet F name X loc H Q := fun B s v pl R r => by
  obtain ⟨h1, h2⟩ := hT B s v R r
  exact getMethod_builtin h1 pa slot hty h2 (Post.pure (b := (V.raw (.builtin id), [X])) ⟨.raw _, .cons r .nil⟩ R q)
theorem list_type {X : V} {xs : List V} (e : asL H X = some xs) : ∀ B s v, FRel F B loc H s → RelV B v X → s.TypeIs v "list" ∧ (∀ a, v = .ref a → ∃ ob, s.heap.get? a = some ob ∧ ob.dict = none) := fun B s v R r => by
  obtain ⟨l, items, m, rfl, hl, hr⟩ := asL_at R r e
  exact ⟨hl.isList.typeIs, fun a e => by cases e; exact ⟨_, hl, rfl⟩⟩
theorem MGet_append {X : V} {xs : List V} {Q : V → List V → Loc → Hp → Prop} (e : asL H X = some xs) (q : Q (.raw (.builtin "list.append")) [X] loc H) : MGet F "append" X loc H Q :=
  MGet_slot PySem.F.plainAttrs_list PySem.F.slot_list_append PySem.F.type_list_append (list_type e) q

theorem Call_append {a : Addr} {xs : List V} {Y : V} {Q : V → Loc → Hp → Prop} (e : H.L a = some xs) (hz : xs.length ≤ 1000000) (q : Q .none loc { H with L := up H.L a (xs ++ [Y]) }) :
    Call F (.raw (.builtin "list.append")) [.ref a, Y] loc H Q := fun B s v vs R rv rvs => by
  cases rv
  cases rvs with | cons ra r2 => ?_
  cases r2 with | cons ry r3 => ?_
  cases r3
  cases ra
  obtain ⟨items, m, hl, hr⟩ := (R.own a).l xs e
  have hlen := hr.length
  rw [Array.length_toList] at hlen
  rename_i vy
  have hz' : items.size ≤ sizeLine := by rw [hlen, sizeLine_eq]; omega
  refine call_meets PySem.F.slot_list_append (s := s) (self := .ref a) ⟨_, hl, rfl⟩ PySem.F.entry_list_append (PySem.F.args_list_append_2 _ _) (list_append a items m vy hz') ⟨hl, ?_⟩
  refine Post.pure .none (R.setL e (fun b o hb h => (Heap.get?_update_other _ _ (Ne.symm hb)).trans h) (hl.update _) ?_ rfl rfl) q
  simpa using hr.append (.cons ry .nil)
end
end Lay
end
noncomputable section
open PySem PySem.W PyProof.Rows PySem.Calls
set_option Elab.async false
set_option maxRecDepth 100000
set_option linter.all false
namespace Lay
section
variable {F : Fx} {n : Nat} {loc : Loc} {H : Hp}

noncomputable abbrev unitR : Keep → Unit → Unit → Prop := fun _ _ _ => True
noncomputable def WA (F : Fx) (t : Expr) (X : V) (loc : Loc) (H : Hp) (Q : Loc → Hp → Prop) : Prop := ∀ B s v, FRel F B loc H s → RelV B v X → PW F (assign t F.env v) unitR B s fun _ => Q
noncomputable def Set_ (F : Fx) (X Y Z : V) (loc : Loc) (H : Hp) (Q : Loc → Hp → Prop) : Prop := ∀ B s o i v, FRel F B loc H s → RelV B o X → RelV B i Y → RelV B v Z → PW F (setItem o i v) unitR B s fun _ => Q
noncomputable def SetA (F : Fx) (name : Str) (X Z : V) (loc : Loc) (H : Hp) (Q : Loc → Hp → Prop) : Prop := ∀ B s o v, FRel F B loc H s → RelV B o X → RelV B v Z → PW F (setAttr o name v) unitR B s fun _ => Q

theorem wpAny_release {M : Model} {A : Around} {E : Value → Shared → Prop} {s : Shared} {vs keep : List Value} {Q : Unit → Shared → Prop} (h : Q () s) : wpAny M A (release vs keep) Q E s :=
  fun Γ p hΓ => by rw [PySem.Sem.wp_release]; exact h

theorem WA_local (ok : Ok F n) {x : Str} {p : Pos} {i : Nat} {X : V} {Q : Loc → Hp → Prop} (hx : look F.nm x = some (i, .local)) (q : Q (loc.set i (some X)) H) : WA F (.Name x p) X loc H Q := fun B s v R r => by
  show wpAny F.M F.A (assign (.Name x p) F.env v) _ _ _
  rw [arm_assign_Name]
  exact wpAny_bind (wpAny_standAt (wpAny_bindName (PW_store ok hx R r fun s' R' => Post.pure (b := ()) trivial R' q)))
theorem WA_sub {o i : Expr} {p : Pos} {X : V} {Q : Loc → Hp → Prop} (h : WE F o loc H fun O l1 H1 => WE F i l1 H1 fun I l2 H2 => Set_ F O I X l2 H2 Q) : WA F (.Subscript o i p) X loc H Q := fun B s v R r => by
  show wpAny F.M F.A (assign (.Subscript o i p) F.env v) _ _ _
  rw [arm_assign_Subscript]
  refine wpAny_bind (wpAny_holding ((h B s R).then fun ov B1 O l1 H1 s1 le1 ro R1 h1 => wpAny_bind (wpAny_holding ((h1 B1 s1 R1).then fun iv B2 I l2 H2 s2 le2 ri R2 h2 => wpAny_bind (wpAny_standAt (wpAny_bind (wpAny_holding ?_)))))))
  exact wpAny_mono (h2 B2 s2 ov iv v R2 (ro.mono le2) ri (r.mono (le1.trans le2))) (fun _ s' q => wpAny_release (q.lift (le1.trans le2))) fun _ _ x => x
theorem WA_attr {o : Expr} {name : Str} {p : Pos} {X : V} {Q : Loc → Hp → Prop} (h : WE F o loc H fun O l1 H1 => SetA F name O X l1 H1 Q) : WA F (.Attribute o name p) X loc H Q := fun B s v R r => by
  show wpAny F.M F.A (assign (.Attribute o name p) F.env v) _ _ _
  rw [arm_assign_Attribute]
  refine wpAny_bind (wpAny_holding ((h B s R).then fun ov B1 O l1 H1 s1 le1 ro R1 h1 => wpAny_bind (wpAny_standAt (wpAny_bind (wpAny_holding ?_)))))
  exact wpAny_mono (h1 B1 s1 ov v R1 ro (r.mono le1)) (fun _ s' q => wpAny_release (q.lift le1)) fun _ _ x => x
noncomputable def WAs (F : Fx) : List Expr → List V → Loc → Hp → (Loc → Hp → Prop) → Prop
  | [], [], loc, H, Q => Q loc H
  | t :: ts, X :: Xs, loc, H, Q => WA F t X loc H fun l1 H1 => WAs F ts Xs l1 H1 Q
  | _, _, _, _, _ => False
theorem WAs_run {ts : List Expr} (hstar : ∀ t ∈ ts, ∀ e p, t ≠ .Starred e p) : ∀ {vs : List Value} {Xs : List V} {loc : Loc} {H : Hp} {B : Keep} {s : Shared} {Q : Loc → Hp → Prop}, FRel F B loc H s → RelVs B vs Xs → WAs F ts Xs loc H Q →
    PW F (assignInOrder ((assignEach ts F.env).map (·.2)) vs) unitR B s fun _ => Q := by
  induction ts with
  | nil =>
    intro vs Xs loc H B s Q R r h
    cases r with
    | nil => exact wpAny_pure (Post.pure (b := ()) trivial R h)
    | cons _ _ => exact h.elim
  | cons t ts ih =>
    intro vs Xs loc H B s Q R r h
    cases r with
    | nil => exact h.elim
    | @cons v vs x xs a t2 =>
      have e : assignEach (t :: ts) F.env = (false, assign t F.env) :: assignEach ts F.env := by
        cases t <;> first | rfl | exact absurd rfl (hstar _ (.head _) _ _)
      show wpAny F.M F.A (assignInOrder ((assignEach (t :: ts) F.env).map (·.2)) (v :: vs)) _ _ _
      rw [e]
      show wpAny F.M F.A (holding vs (assign t F.env v) >>= fun _ => assignInOrder ((assignEach ts F.env).map (·.2)) vs) _ _ _
      exact wpAny_bind (wpAny_holding ((h B s v R a).then fun _ B1 _ l1 H1 s1 le1 _ R1 h1 => (ih (fun t ht => hstar t (.tail _ ht)) R1 (t2.mono le1) h1).lift le1))
theorem WA_tuple (ok : Ok F (n + 1)) {ts : List Expr} {k : Nat} {p : Pos} {Xs : List V} {Q : Loc → Hp → Prop} (hl : ts.length = Xs.length) (h : WAs F ts Xs loc H Q) (hstar : ∀ t ∈ ts, ∀ e p, t ≠ .Starred e p := by simp) : WA F (.Tuple ts k p) (.tup Xs) loc H Q := fun B s v R r => by
  cases r with | tup hb hr => ?_
  have e : ∀ ts : List Expr, (∀ t ∈ ts, ∀ e p, t ≠ .Starred e p) → (assignEach ts F.env).length = ts.length ∧ (assignEach ts F.env).findIdx? (·.1) = none := by
    intro ts
    induction ts with
    | nil => intro _; exact ⟨rfl, rfl⟩
    | cons t ts ih =>
      intro hs
      have e : assignEach (t :: ts) F.env = (false, assign t F.env) :: assignEach ts F.env := by
        cases t <;> first | rfl | exact absurd rfl (hs _ (.head _) _ _)
      obtain ⟨i1, i2⟩ := ih fun t ht => hs t (.tail _ ht)
      rw [e]
      exact ⟨by simp [i1], by simp [List.findIdx?_cons, i2]⟩
  obtain ⟨e1, e2⟩ := e ts hstar
  have hlen := hr.length
  rw [Array.length_toList] at hlen
  refine wpAny_assign_Tuple (ok.handled (by omega)) ⟨_, R.keep _ _ hb, rfl, _, rfl⟩ (by rw [e1, hl, hlen]) e2 fun h' he => ?_
  exact WAs_run hstar (R.grow (s' := { s with heap := h' }) (fun b o q => he b o (Nat.ne_of_lt (Heap.lt_size q)) q) rfl rfl) hr h

theorem WS_AssignT {t e : Expr} {pos : Pos} {Q : Fl → Loc → Hp → Prop} (h : WE F e loc H fun X l1 H1 => WA F t X l1 H1 fun l2 H2 => Q .next l2 H2)
    (hs : swapsWithSole [t] e pos.line F.env = pure false := by rfl) (hw : swappedStores [t] e F.env = pure none := by rfl)
    (he : (assignEach [t] F.env).map (·.2) = [assign t F.env] := by rfl) : WS F (.Assign [t] e pos) loc H Q := fun B s R => by
  refine wpAny_Assign_stores ((h B s R).then fun v B1 X l1 H1 s1 le1 r R1 h1 => ?_) hs hw
  rw [he]
  exact wpAny_mono (h1 B1 s1 v R1 r) (fun _ s' ⟨B2, _, l2, H2, le2, _, R2, q⟩ => (Post.pure .next R2 q).lift (le1.trans le2)) fun _ _ x => x
theorem WS_Expr {e : Expr} {pos : Pos} {Q : Fl → Loc → Hp → Prop} (h : WE F e loc H fun X l1 H1 => Q .next l1 H1) (hi : interactive F.env = false := by rfl) (hs : swapsWith e none pos.line F.env = pure false := by rfl) : WS F (.Expr e pos) loc H Q := fun B s R =>
  wpAny_Expr_any ((h B s R).then fun v B1 X l1 H1 s1 le1 r R1 q => (Post.pure .next R1 q).lift le1) hi hs
theorem WS_Aug (ok : Ok F n) {x : Str} {p pos : Pos} {i : Nat} {op : Operator} {e : Expr} {X : V} {Q : Fl → Loc → Hp → Prop} (hx : look F.nm x = some (i, .local)) (hv : loc[i]? = some (some X))
    (h : WE F e loc H fun Y l1 H1 => Op2 F (inplaceOp op) X Y l1 H1 fun Z l2 H2 => Q .next (l2.set i (some Z)) H2) : WS F (.AugAssign (.Name x p) op e pos) loc H Q := fun B s R => by
  obtain ⟨h1, h2⟩ := look_spec hx
  obtain ⟨m, hm, hl⟩ := R.ns
  obtain ⟨v, ev, r⟩ := hl x i X h1 hv
  refine wpAny_AugAssign_Name (wpAny_loadName_local ok.fn h2 hm ev ((h B s R).then fun y B1 Y l1 H1 s1 le1 ry R1 h1 => (h1 B1 s1 v y R1 (r.mono le1) ry).then fun z B2 Z l2 H2 s2 le2 rz R2 q =>
    PW_store ok hx R2 rz fun s' R' => (Post.pure .next R' q).lift (le1.trans le2)))

theorem dict_at {B : Keep} {s : Shared} (R : FRel F B loc H s) {d : Addr} {kvs : List (Str × V)} (e : H.D d = some kvs) : ∃ cs, s.heap.DictOf (PySem.strKind F.c.prog F.c.w) d cs ∧ RelKs B cs kvs ∧ (d == sysModules) = false := by
  obtain ⟨_, cs, h1, h2⟩ := (R.own d).d kvs e
  refine ⟨cs, h1, h2, ?_⟩
  have hw : H.Own d := .inr (.inl (by rw [e]; simp))
  have h3 := ((R.own d).out hw).2
  have h4 := R.lim.1
  have : d ≠ 1 := Nat.ne_of_gt (Nat.lt_of_le_of_lt h4 h3)
  simpa [sysModules] using this
theorem isSome_rel {B : Keep} {v : Option Value} {x : Option V} (r : relOpt B v x) : v.isSome = x.isSome := by
  cases v <;> cases x <;> first | rfl | exact r.elim
theorem Cmp_inD {k : Str} {d : Addr} {kvs : List (Str × V)} {Q : Bool → Loc → Hp → Prop} (e : H.D d = some kvs) (q : Q (dget kvs k).isSome loc H) : Cmp F .In (.str k) (.ref d) loc H Q := fun B s a b R ra rb => by
  cases ra; cases rb
  obtain ⟨cs, h1, h2, h3⟩ := dict_at R e
  refine wpAny_in_of (strKind_is _ _) h3 h1.mapOf (Post.pure ?_ (R.tok _) q)
  rw [isSome_rel h2.get]
theorem Cmp_notInD {k : Str} {d : Addr} {kvs : List (Str × V)} {Q : Bool → Loc → Hp → Prop} (e : H.D d = some kvs) (q : Q (!(dget kvs k).isSome) loc H) : Cmp F .NotIn (.str k) (.ref d) loc H Q := fun B s a b R ra rb => by
  cases ra; cases rb
  obtain ⟨cs, h1, h2, h3⟩ := dict_at R e
  refine wpAny_notIn_of (strKind_is _ _) h3 h1.mapOf (Post.pure ?_ (R.tok _) q)
  rw [isSome_rel h2.get]
theorem Sub_dict {k : Str} {d : Addr} {kvs : List (Str × V)} {X : V} {Q : V → Loc → Hp → Prop} (e : H.D d = some kvs) (hx : dget kvs k = some X) (q : Q X loc H) : Sub F (.ref d) (.str k) loc H Q := fun B s o i R ro ri => by
  cases ro; cases ri
  obtain ⟨cs, h1, h2, h3⟩ := dict_at R e
  have h4 := h2.get (k := k)
  rw [hx] at h4
  cases e5 : valueAt cs k with
  | none => rw [e5] at h4; exact h4.elim
  | some v =>
    rw [e5] at h4
    exact ⟨"dict", _, slot_dict_getitem.lookup, h1.typeIs, wpAny_getItem_of (strKind_is _ _) h1.mapOf e5 (Post.pure h4 (R.tok _) q)⟩
theorem Set_dict {k : Str} {d : Addr} {kvs : List (Str × V)} {Z : V} {Q : Loc → Hp → Prop} (e : H.D d = some kvs) (eG : H.G d = none) (hz : kvs.length ≤ 100000) (q : Q loc { H with D := up H.D d (dput kvs k Z) }) : Set_ F (.ref d) (.str k) Z loc H Q := fun B s o i v R ro ri rv => by
  cases ro; cases ri with | str _ t hk => ?_
  obtain ⟨cs, h1, h2, h3⟩ := dict_at R e
  refine wpAny_setItem_pairs (knd := PySem.strKind F.c.prog F.c.w) (strKind_is _ _) h1 (fun h' hd' hs' => Post.pure (b := ()) trivial (R.setD (s' := { s with heap := h', toks := s.toks + 1 }) e eG (fun b o hb h => (hs'.2 b hb).trans h) ?_ hd' (h2.stored rv) rfl rfl) q) (by rw [h2.length, sizeLine_eq]; omega)
  have h5 := ((R.own d).d kvs e).1
  intro p hp
  unfold dput at hp
  split at hp
  · obtain ⟨p', hp', rfl⟩ := List.mem_map.mp hp
    split
    · exact h5 p' hp'
    · exact h5 p' hp'
  · rcases List.mem_append.mp hp with hp | hp
    · exact h5 _ hp
    · simp at hp; subst hp; exact hk
theorem PW_newDict {B : Keep} {s : Shared} {P : Value → Shared → Prop} (R : FRel F B loc H s) (h : ∀ a s', H.Fresh a → FRel F B loc { H with D := up H.D a [] } s' → P (.ref a) s') : wpAny F.M F.A newDict P F.E s := by
  refine wpAny_bind (wpAny_alloc (wpAny_pure ?_))
  refine h s.heap.objs.size _ (R.fresh_H (R.fresh (Nat.le_refl _)).1) (R.newD (cs := []) (Nat.le_refl _) (fun b o e => Heap.get?_push_of_some _ e) (fun p hp => nomatch hp) ?_ .nil rfl rfl)
  exact ⟨_, #[], 0, Heap.get?_push_size _ rfl, ⟨rfl, rfl, rfl⟩, rfl, fun _ he => by simp at he, .nil, List.nodup_nil⟩
theorem WE_Dict0 {pos : Pos} {Q : V → Loc → Hp → Prop} (q : ∀ a, H.Fresh a → Q (.ref a) loc { H with D := up H.D a [] }) : WE F (.Dict [] [] pos) loc H Q := fun B s R => by
  show wpAny F.M F.A (eval (.Dict [] [] pos) F.env) _ _ _
  rw [eval_Dict_empty]
  exact wpAny_bind (wpAny_standAt (PW_newDict R fun a s' hf R' => Post.pure (.ref a) R' (q a hf)))
theorem Tru_dict {d : Addr} {kvs : List (Str × V)} {Q : Bool → Loc → Hp → Prop} (e : H.D d = some kvs) (hz : kvs.length ≤ 100000) (q : Q (!kvs.isEmpty) loc H) : Tru F (.ref d) loc H Q := fun B s a R ra => by
  cases ra
  obtain ⟨cs, h1, h2, h3⟩ := dict_at R e
  refine wpAny_truthy_dict (knd := PySem.strKind F.c.prog F.c.w) h3 h1 (by rw [h2.length]; omega) ?_
  have : (!cs.isEmpty) = (!kvs.isEmpty) := by cases h2 <;> rfl
  rw [this]; exact Post.pure rfl (R.tok _) q

theorem inst_at {K : Frag} {B : Keep} {s : Shared} (R : FRel F B loc H s) {x C d : Addr} {fs : List (Str × V)} (eI : H.I x = some (C, d)) (eD : H.D d = some fs) :
    ∃ od es ep cs, InstAt s.heap x (instObj' C d) C (some od) ∧ s.heap.get? d = some od ∧ od.ExactDict ∧ od.data = .dict es ep ∧ KeysOf (PySem.strKind F.c.prog F.c.w) es ∧ Pairs (PySem.strKind F.c.prog F.c.w) es.toList cs ∧ (cs.map (·.1)).Nodup ∧ RelKs B cs fs := by
  obtain ⟨_, cs, ⟨od, es, ep, h1, h2, h3, h4, h5, h6⟩, h7⟩ := (R.own d).d fs eD
  exact ⟨od, es, ep, cs, ⟨(R.own x).i _ eI, rfl, rfl, h1⟩, h1, h2, h3, h4, h5, h6, h7⟩
theorem refs_none {prog : Program} {w : World} {es : Array DictEntry} (hk : KeysOf (PySem.strKind prog w) es) : es.toList.any (·.refKey) = false := by
  rw [List.any_eq_false]
  intro e he
  obtain ⟨k, hk1, _⟩ := hk e (by simpa using he)
  obtain ⟨t, ht⟩ := Value.isStrOf_shape hk1
  unfold DictEntry.refKey
  rw [ht]; simp
theorem putName_of {prog : Program} {w : World} {od : Obj} {es : Array DictEntry} {ep : Nat} {cs : List (Str × Value)} {v : Value} {t : Tok} (hx : od.ExactDict) (hd : od.data = .dict es ep) (hk : KeysOf (PySem.strKind prog w) es) (hp : Pairs (PySem.strKind prog w) es.toList cs) (hn : (cs.map (·.1)).Nodup) (name : Str) :
    ∃ es' ep', (Obj.putName name (hashStr w name) (.str name t) v od) = { od with data := .dict es' ep' } ∧ KeysOf (PySem.strKind prog w) es' ∧ Pairs (PySem.strKind prog w) es'.toList (stored cs name v) ∧ ((stored cs name v).map (·.1)).Nodup ∧ es'.size ≤ es.size + 1 := by
  rw [Obj.putName_eq]
  obtain ⟨c, d, dt, sl⟩ := od
  dsimp only at hd
  subst hd
  have e0 : (fun e : DictEntry => e.key.isStr name) = fun e => (PySem.strKind prog w).is name e.key := funext fun e => isStr_eq _ _
  have hkey : (PySem.strKind prog w).is name (.str name t) = true := strKind_is _ _
  have hidx : (es.findIdx? fun e => (PySem.strKind prog w).is name e.key) = cs.findIdx? fun kv => decide (kv.1 = name) := by
    rw [← hp.findIdx name]; obtain ⟨l⟩ := es; simp
  unfold Obj.putNameByArray
  simp only [e0]
  cases hi : es.findIdx? fun e => (PySem.strKind prog w).is name e.key with
  | some i =>
    refine ⟨_, _, rfl, hk.modify _ _, ?_, ?_, by simp⟩
    · rw [stored, if_pos (any_of_findIdx_some (hidx ▸ hi))]
      have hl : (es.toList.findIdx? fun e => (PySem.strKind prog w).is name e.key) = some i := by rw [← hi]; obtain ⟨l⟩ := es; simp
      have := hp.modify hn hl v
      obtain ⟨l⟩ := es
      simpa using this
    · rw [stored, if_pos (any_of_findIdx_some (hidx ▸ hi)), keys_map_store]; exact hn
  | none =>
    have hnot : name ∉ cs.map (·.1) := not_mem_of_findIdx_none (hidx ▸ hi)
    have hany : ¬ (cs.any fun kv => decide (kv.1 = name)) = true := by
      rw [List.any_eq_true]; rintro ⟨kv, hkv, he⟩
      exact hnot (List.mem_map.mpr ⟨kv, hkv, of_decide_eq_true he⟩)
    refine ⟨_, _, rfl, hk.push hkey _, ?_, ?_, by simp⟩
    · rw [stored, if_neg hany]
      have := hp.append hkey (hashStr w name) v
      obtain ⟨l⟩ := es
      simpa using this
    · rw [stored, if_neg hany, List.map_append, List.nodup_append]
      refine ⟨hn, by simp, ?_⟩
      intro a ha b hb
      simp only [List.map_cons, List.map_nil, List.mem_singleton] at hb
      subst hb
      exact fun e => hnot (e ▸ ha)
theorem lookIn_pairs {prog : Program} {w : World} {od : Obj} {es : Array DictEntry} {ep : Nat} {cs : List (Str × Value)} (hd : od.data = .dict es ep) (hk : KeysOf (PySem.strKind prog w) es) (hp : Pairs (PySem.strKind prog w) es.toList cs) (name : Str) : lookIn name od = some (valueAt cs name) := by
  unfold lookIn
  rw [hd]
  dsimp only
  have h := hp.find name
  have e : (fun e : DictEntry => (PySem.strKind prog w).is name e.key) = fun e => e.key.isStr name := funext fun e => (isStr_eq _ _).symm
  rw [e] at h
  have hr : es.toList.any (·.refKey) = false := by
    rw [List.any_eq_false]
    intro e he
    obtain ⟨k, hk1, _⟩ := hk e (by simpa using he)
    obtain ⟨t, ht⟩ := Value.isStrOf_shape hk1
    unfold DictEntry.refKey
    rw [ht]; simp
  cases hf : es.toList.find? (fun e => e.key.isStr name) with
  | some en => rw [hf] at h; simp only [Option.map_some] at h; rw [← h]
  | none => rw [hf] at h; simp only [Option.map_none] at h; rw [← h]; simp [hr]

noncomputable def notRaw : V → Bool
  | .raw _ => false
  | _ => true
theorem handed_of {B : Keep} {v : Value} {X : V} (r : RelV B v X) (h : notRaw X = true) : handedIn v = true := by
  cases r <;> first | rfl | cases h

noncomputable def GetA (F : Fx) (name : Str) (X : V) (loc : Loc) (H : Hp) (Q : V → Loc → Hp → Prop) : Prop := ∀ B s o, FRel F B loc H s → RelV B o X → PW F (getAttr o name true) RelV B s Q
theorem GetA_own {K : Frag} (hK : K.In F.c.base) {x C d : Addr} {fs : List (Str × V)} {name : Str} {Y : V} {Q : V → Loc → Hp → Prop} (eI : H.I x = some (C, d)) (eD : H.D d = some fs) (hy : dget fs name = some Y) (hr : notRaw Y = true)
    (hg : plainGet K C name = true) (hh : hasDictIn K C = true) (ha : findIn K (.ref C) name = some none) (q : Q Y loc H) : GetA F name (.ref x) loc H Q := fun B s o R ro => by
  cases ro
  obtain ⟨od, es, ep, cs, I, h1, h2, h3, h4, h5, h6, h7⟩ := inst_at (K := K) R eI eD
  have h8 := h7.get (k := name)
  rw [hy] at h8
  cases e5 : valueAt cs name with
  | none => rw [e5] at h8; exact h8.elim
  | some v =>
    rw [e5] at h8
    exact get_value (fun a o e => R.inBase (hK a o e)) I (plainGet_of hg).1 (findObj_own hh ha rfl (by rw [lookIn_pairs h3 h4 h5, e5])) (handed_of h8 hr) (Post.pure h8 (R.tok _) q)
theorem WE_Attr {o : Expr} {name : Str} {pos : Pos} {Q : V → Loc → Hp → Prop} (h : WE F o loc H fun X l1 H1 => GetA F name X l1 H1 Q) (hbase : attributeBase o name F.env (eval o F.env) = eval o F.env := by rfl) : WE F (.Attribute o name pos) loc H Q := fun B s R => by
  show wpAny F.M F.A (eval (.Attribute o name pos) F.env) _ _ _
  rw [arm_eval_Attribute, hbase]
  exact wpAny_bind ((h B s R).then fun v B1 X l1 H1 s1 le1 r R1 h1 => wpAny_bind (wpAny_standAt (wpAny_bind (wpAny_holding ((h1 B1 s1 v R1 r).then fun y B2 Y l2 H2 s2 le2 ry R2 q =>
    wpAny_bind (wpAny_letTemporaryGo (wpAny_pure ((Post.pure ry R2 q).lift (le1.trans le2)))))))))
theorem MGet_own {K : Frag} (hK : K.In F.c.base) {x C d f : Addr} {fs : List (Str × V)} {name : Str} {Q : V → List V → Loc → Hp → Prop} (eI : H.I x = some (C, d)) (eD : H.D d = some fs) (hy : dget fs name = none)
    (hg : plainGet K C name = true) (hf : findIn K (.ref C) name = some (some (.ref f))) (ht : isFn K (.ref f) = true) (q : Q (.ref f) [.ref x] loc H) : MGet F name (.ref x) loc H Q := fun B s o pl R ro => by
  cases ro
  obtain ⟨od, es, ep, cs, I, h1, h2, h3, h4, h5, h6, h7⟩ := inst_at (K := K) R eI eD
  have h8 := h7.get (k := name)
  rw [hy] at h8
  cases e5 : valueAt cs name with
  | some v => rw [e5] at h8; exact h8.elim
  | none =>
    refine method_fn (fun a o e => R.inBase (hK a o e)) I (plainGet_of hg).1 (plainGet_of hg).2 hf (beq_iff_eq.mp ht) ?_ (Post.pure (b := (V.ref f, [V.ref x])) ⟨.ref _, .cons (.ref _) .nil⟩ R q)
    unfold shadowIn
    simp only
    rw [lookIn_pairs h3 h4 h5, e5]; rfl

theorem SetA_own {K : Frag} (hK : K.In F.c.base) {x C d : Addr} {fs : List (Str × V)} {name : Str} {Z : V} {Q : Loc → Hp → Prop} (eI : H.I x = some (C, d)) (eD : H.D d = some fs) (eG : H.G d = none)
    (hs : findIn K (.ref C) "__setattr__" = some (some (.builtin "object.__setattr__"))) (hp : plainOver K C = true) (ht : takerIn K C name = some none) (hh : hasDictIn K C = true) (hn : PyData.strOk name = true) (hz : fs.length ≤ 900)
    (q : Q loc { H with D := up H.D d (dput fs name Z) }) : SetA F name (.ref x) Z loc H Q := fun B s o v R ro rv => by
  cases ro
  have X : K.In s.heap := fun a o e => R.inBase (hK a o e)
  obtain ⟨od, es, ep, cs, I, h1, h2, h3, h4, h5, h6, h7⟩ := inst_at (K := K) R eI eD
  refine set_plain X I hs (osa_open (s := { s with toks := s.toks + 1 }) X I hp ht fun b => ?_)
  obtain ⟨cd, hc, hd'⟩ := any_some hh
  refine wpAny_bind (wpAny_pure (wpAny_bind (wpAny_bind (wpAny_loadPart I.at_ (wpAny_bind ((looks_clsIn X hc) _ _ _ _ (fun _ _ e => e) ?_))))))
  rw [hd']
  refine wpAny_pure (a := some d) (wpAny_bind (wpAny_pure (wpAny_bind ?_)))
  unfold nsSet
  refine wpAny_bind (wpAny_bind (wpAny_askSetting (wpAny_pure (wpAny_bind (wpAny_mkText (wpAny_bind (wpAny_loadPart h1 ?_)))))))
  rw [h3]
  dsimp only
  have hr : es.toList.any (·.refKey) = false := refs_none h4
  have c : (!es.any (·.key.isStr name) && es.any (·.refKey)) = false := by
    rw [← Array.any_toList, ← Array.any_toList, hr, Bool.and_false]
  rw [aRefKeyMayBeTheName_at, c]
  refine wpAny_updatePart h1 ?_
  obtain ⟨es', ep', hd1, hd2, hd3, hd4, hd5⟩ := putName_of (v := v) (t := s.toks + 1) h2 h3 h4 h5 h6 name
  have hlen : es.size = fs.length := by
    have e1 := h5.length
    rw [Array.length_toList] at e1
    rw [e1, h7.length]
  have hup : (s.heap.update d (Obj.putName name (hashStr F.c.w name) (.str name (s.toks + 1)) v)).get? d = some { od with data := .dict es' ep' } := by
    rw [← hd1]
    refine Heap.get?_update_self _ h1 ?_
    rw [hd1]; rfl
  refine wpAny_bind (wpAny_lookBehind (o := { od with data := .dict es' ep' }) hup ?_ ?_)
  · exact pastItsLine_dict (by rw [sizeLine_eq]; omega)
  · refine wpAny_pure ?_
    refine Post.pure (b := ()) trivial (R.setD (s' := { s with heap := s.heap.update d (Obj.putName name (hashStr F.c.w name) (.str name (s.toks + 1)) v), toks := s.toks + 1 + 1 }) eD eG (fun b o hb h => (Heap.get?_update_other _ _ (Ne.symm hb)).trans h) ?_ ⟨_, es', ep', hup, h2, rfl, hd2, hd3, hd4⟩ (h7.stored rv) rfl rfl) q
    have h5 := ((R.own d).d fs eD).1
    intro p hp
    unfold dput at hp
    split at hp
    · obtain ⟨p', hp', rfl⟩ := List.mem_map.mp hp
      split
      · exact h5 p' hp'
      · exact h5 p' hp'
    · rcases List.mem_append.mp hp with hp | hp
      · exact h5 _ hp
      · simp at hp; subst hp; exact hn
end
end Lay
end
noncomputable section
open PySem PySem.W PyProof.Rows PySem.Calls
open AutoSeq1 (wpAny_loadPart')
set_option Elab.async false
set_option maxRecDepth 100000
set_option linter.all false
namespace Lay

section
variable {prog : Program} {w : World} {A : Around} {E : Value → Shared → Prop} {s : Shared}

theorem nextOf_tuple_item {it t : Addr} {i : Nat} {items} {x : Value} {Q : Value → Shared → Prop} (hit : s.heap.IsTupleIter it t i)
    (ht : s.heap.IsTuple t items) (hx : items[i]? = some x)
    (hQ : ∀ h', h'.IsTupleIter it t (i + 1) → Heap.SameBut it s.heap h' → Q x { s with heap := h' }) :
    wpAny (model prog w) A (Builtin.SmallTypes.nextOf (.ref it)) Q E s := by
  obtain ⟨o, ho, hc, hd⟩ := id hit
  obtain ⟨ol, hol, _, nl, hdl⟩ := ht
  unfold Builtin.SmallTypes.nextOf
  refine wpAny_bind (wpAny_callSpecial?_slot (name := Str.ofString "__next__") hit.typeIs PySem.F.slot_tuple_iterator_next
    (wpAny_call_entry PySem.F.slot_tuple_iterator_next hit.typeIs PySem.F.entry_tuple_iterator_next ?_ (PySem.F.args_tuple_iterator_next_1 _)))
  show wpAny _ _ (field (.ref it) 0 >>= _) _ _ s
  refine wpAny_bind (wpAny_field ho hd (x := .ref t) rfl ?_)
  show wpAny _ _ (if (Value.ref t == Value.none) = true then _ else _) _ _ s
  rw [if_neg (show ¬ ((Value.ref t == Value.none) = true) from Bool.false_ne_true)]
  show wpAny _ _ (field (.ref it) 1 >>= _) _ _ s
  refine wpAny_bind (wpAny_field ho hd (x := .int i 0) rfl ?_)
  show wpAny _ _ (seqItems? (.ref t) >>= _) _ _ s
  refine wpAny_bind (wpAny_seqItems hol hdl ?_)
  simp only [Int.toNat_natCast, hx]
  refine wpAny_bind (wpAny_setField ho hd (by simp) (wpAny_pure ⟨_, rfl, wpAny_pure (hQ _ ?_ (Heap.SameBut.update ..))⟩))
  exact ⟨_, Heap.get?_update_self _ ho (Obj.isFreed_of_fields (Obj.data_mapFields hd _)), (Obj.cls_mapFields ..).trans hc, by
    rw [Obj.data_mapFields hd]; simp [rawInt]⟩
theorem nextOf_tuple_end {it t : Addr} {i : Nat} {items} {Q : Value → Shared → Prop} (hh : A.handled = none)
    (hit : s.heap.IsTupleIter it t i) (ht : s.heap.IsTuple t items) (hx : items[i]? = none)
    (hE : ∀ h' e, Heap.ExtBut it s.heap h' → (∃ o, h'.get? e = some o ∧ o.cls = .type "StopIteration") → E (.ref e) { s with heap := h' }) :
    wpAny (model prog w) A (Builtin.SmallTypes.nextOf (.ref it)) Q E s := by
  obtain ⟨o, ho, hc, hd⟩ := id hit
  obtain ⟨ol, hol, _, nl, hdl⟩ := ht
  unfold Builtin.SmallTypes.nextOf
  refine wpAny_bind (wpAny_callSpecial?_slot (name := Str.ofString "__next__") hit.typeIs PySem.F.slot_tuple_iterator_next
    (wpAny_call_entry PySem.F.slot_tuple_iterator_next hit.typeIs PySem.F.entry_tuple_iterator_next ?_ (PySem.F.args_tuple_iterator_next_1 _)))
  show wpAny _ _ (field (.ref it) 0 >>= _) _ _ s
  refine wpAny_bind (wpAny_field ho hd (x := .ref t) rfl ?_)
  show wpAny _ _ (if (Value.ref t == Value.none) = true then _ else _) _ _ s
  rw [if_neg (show ¬ ((Value.ref t == Value.none) = true) from Bool.false_ne_true)]
  show wpAny _ _ (field (.ref it) 1 >>= _) _ _ s
  refine wpAny_bind (wpAny_field ho hd (x := .int i 0) rfl ?_)
  show wpAny _ _ (seqItems? (.ref t) >>= _) _ _ s
  refine wpAny_bind (wpAny_seqItems hol hdl ?_)
  simp only [Int.toNat_natCast, hx]
  refine wpAny_bind (wpAny_rule (wpAny_bind (wpAny_setField ho hd (by simp) ?_)))
  show wpAny _ _ (newExc (.type "StopIteration") [] >>= _) _ _ _
  refine wpAny_bind ?_
  simp only [newExc, newTuple]
  refine wpAny_bind (wpAny_newObj_type ?_ (by size_fits))
  refine wpAny_bind (m := firstArgMember _ _) (wpAny_of_eq (a := Value.none) (by first | rfl | (simp only [firstArgMember]; rfl)) ?_)
  refine wpAny_newObj_type ?_ (by size_fits)
  simp only [raiseNew]
  refine wpAny_bind (wpAny_handled ?_)
  first | rw [show A.in1.handled = none from hh] | rw [hh]
  refine wpAny_bind (wpAny_pure (wpAny_throw ?_))
  exact hE _ _ (((Heap.SameBut.update ..).extBut.push _).push _) ⟨_, Heap.get?_push_size _ rfl, rfl⟩
theorem isTuple_at {h h' : Heap} {a items} (x : h.IsTuple a items) (e : ∀ o, h.get? a = some o → h'.get? a = some o) : h'.IsTuple a items := let ⟨o, ho, r⟩ := x; ⟨o, e _ ho, r⟩
theorem isTupleIter_at {h h' : Heap} {a l i} (x : h.IsTupleIter a l i) (e : ∀ o, h.get? a = some o → h'.get? a = some o) : h'.IsTupleIter a l i := let ⟨o, ho, r⟩ := x; ⟨o, e _ ho, r⟩
theorem draws_tuple (hh : A.handled = none) (it t : Addr) (hne : t ≠ it) (items : Array Value) :
    Draws prog w A it [it, t] items.size (fun i v => items[i]? = some v) (fun i h => h.IsTupleIter it t i ∧ h.IsTuple t items) where
  live := fun _ _ st => let ⟨o, ho, _⟩ := st.1; ⟨o, ho⟩
  frame := fun _ _ _ st hk => ⟨isTupleIter_at st.1 fun o e => hk it (by simp) o e, isTuple_at st.2 fun o e => hk t (by simp) o e⟩
  item := fun i s Q E hi st hQ => by
    refine nextOf_tuple_item st.1 st.2 (x := items[i]) (by simp [hi]) fun h' hit' hs' => ?_
    exact hQ _ h' s.toks (by simp [hi]) ⟨hit', st.2.extBut hs'.extBut hne⟩ hs'
  done := fun s Q E st hE => nextOf_tuple_end hh st.1 st.2 (by simp) hE

theorem meets_enum_newT (l : Addr) (items : Array Value) (n : Nat) :
    Meets (Builtin.«enumerate.__new__» ⟨[.type "enumerate", .ref l], []⟩) (fun _ R s => s.heap.get? l = some { cls := .type "tuple", dict := none, data := .seq items n, slots := #[] } ∧
      R (.ok (.ret (.ref (s.heap.push { cls := .type "tuple_iterator", data := .fields #[.ref l, .int 0 0] }).objs.size)))
        { s with heap := (s.heap.push { cls := .type "tuple_iterator", data := .fields #[.ref l, .int 0 0] }).push { cls := .type "enumerate", data := .fields #[.none, .bool false, .ref s.heap.objs.size, rawInt 0, .none, .none] } }) :=
  .of_wp fun prog w A R s h => by
    obtain ⟨hp, g, d, tk, os⟩ := s; obtain ⟨hl, h⟩ := h
    have hsub := sub_enumerate
    have hL : Heap.IsTuple (Shared.heap ⟨hp, g, d, tk, os⟩) l items := ⟨_, hl, rfl, n, rfl⟩
    wp_walk using wpAny_loadPart' hl
    refine wpAny_stack_any fun st => wpAny_pure ?_
    split
    · rename_i c _ _ _ _ _
      cases (c == Value.type "enumerate")
      · wp_walk using wpAny_loadPart' hl, wpAny_pyIter_tuple hL
        exact ⟨_, rfl, h⟩
      · wp_walk using wpAny_loadPart' hl, wpAny_pyIter_tuple hL
        exact ⟨_, rfl, h⟩
    · wp_walk using wpAny_loadPart' hl, wpAny_pyIter_tuple hL
      exact ⟨_, rfl, h⟩
theorem call_enum_tuple {l : Addr} {items : Array Value} {n : Nat} {Q : Value → Shared → Prop}
    (hl : s.heap.get? l = some { cls := .type "tuple", dict := none, data := .seq items n, slots := #[] })
    (h : ∀ h', IsEnum h' (s.heap.objs.size + 1) s.heap.objs.size 0 .none → h'.IsTupleIter s.heap.objs.size l 0 → h'.objs.size = s.heap.objs.size + 2 →
      (∀ b o, s.heap.get? b = some o → h'.get? b = some o) → Q (.ref (s.heap.objs.size + 1)) { s with heap := h' }) :
    wpAny (model prog w) A (call (.type "enumerate") [.ref l]) Q E s := by
  refine callType_new PySem.F.called_enumerate (by decide) (PySem.F.typeCall_enumerate_1 _) (PySem.F.newCall_enumerate_1 _) (fun obj => PySem.F.args_object_init_2 obj _) PySem.F.entry_enumerate_new
    (meets_enum_newT l items n) ⟨hl, ?_⟩
  have hz : (s.heap.push { cls := .type "tuple_iterator", data := .fields #[.ref l, .int 0 0] }).objs.size = s.heap.objs.size + 1 := Heap.size_push ..
  show _ ∧ _
  rw [hz]
  have he : IsEnum ((s.heap.push { cls := .type "tuple_iterator", data := .fields #[.ref l, .int 0 0] }).push
      { cls := .type "enumerate", data := .fields #[.none, .bool false, .ref s.heap.objs.size, rawInt 0, .none, .none] }) (s.heap.objs.size + 1) s.heap.objs.size 0 .none := by
    have := Heap.get?_push_size (s.heap.push { cls := .type "tuple_iterator", data := .fields #[.ref l, .int 0 0] })
      (o := { cls := .type "enumerate", data := .fields #[.none, .bool false, .ref s.heap.objs.size, rawInt 0, .none, .none] }) rfl
    rw [hz] at this; exact this
  refine ⟨⟨_, he, rfl⟩, h _ he ⟨_, Heap.get?_push_of_some _ (Heap.get?_push_size _ rfl), rfl, rfl⟩ (by rw [Heap.size_push, hz]) fun b o y => Heap.get?_push_of_some _ (Heap.get?_push_of_some _ y)⟩
end
noncomputable def un {α : Type} (f : Addr → Option α) (a : Addr) : Addr → Option α := fun b => if b = a then none else f b
@[simp] theorem un_self {α : Type} (f : Addr → Option α) (a : Addr) : un f a a = none := by simp [un]
theorem un_ne {α : Type} {f : Addr → Option α} {a b : Addr} (h : b ≠ a) : un f a b = f b := by simp [un, h]
theorem un_up {α : Type} {f : Addr → Option α} {a : Addr} {x : α} (h : f a = none) : un (up f a x) a = f := funext fun b => by
  by_cases e : b = a
  · subst e; simp [h]
  · simp [un, up, e]
noncomputable def Hp.Sub (H' H : Hp) : Prop := ∀ a, (H'.L a = none ∨ H'.L a = H.L a) ∧ (H'.D a = none ∨ H'.D a = H.D a) ∧ (H'.P a = none ∨ H'.P a = H.P a) ∧ (H'.S a = none ∨ H'.S a = H.S a) ∧ (H'.I a = none ∨ H'.I a = H.I a) ∧
  (H'.C a = none ∨ H'.C a = H.C a) ∧ (H'.G a = none ∨ (H'.G a = H.G a ∧ H'.D a = H.D a))
noncomputable def LocSub (l' l : Loc) : Prop := ∀ (i : Nat) (X : V), l'[i]? = some (some X) → l[i]? = some (some X)
theorem LocSub.refl (l : Loc) : LocSub l l := fun _ _ h => h
theorem Hp.Sub.refl (H : Hp) : H.Sub H := fun _ => ⟨.inr rfl, .inr rfl, .inr rfl, .inr rfl, .inr rfl, .inr rfl, .inr ⟨rfl, rfl⟩⟩
theorem Hp.Sub.own {H' H : Hp} (h : H'.Sub H) {a : Addr} (o : H'.Own a) : H.Own a := by
  obtain ⟨h1, h2, h3, h4, h5, h6, _⟩ := h a
  rcases o with o | o | o | o | o | o
  · exact .inl (by rcases h1 with h1 | h1; exact absurd h1 o; rw [← h1]; exact o)
  · exact .inr (.inl (by rcases h2 with h1 | h1; exact absurd h1 o; rw [← h1]; exact o))
  · exact .inr (.inr (.inl (by rcases h3 with h1 | h1; exact absurd h1 o; rw [← h1]; exact o)))
  · exact .inr (.inr (.inr (.inl (by rcases h4 with h1 | h1; exact absurd h1 o; rw [← h1]; exact o))))
  · exact .inr (.inr (.inr (.inr (.inl (by rcases h5 with h1 | h1; exact absurd h1 o; rw [← h1]; exact o)))))
  · exact .inr (.inr (.inr (.inr (.inr (by rcases h6 with h1 | h1; exact absurd h1 o; rw [← h1]; exact o)))))
theorem or_some {α : Type} {x y : Option α} (h : x = none ∨ x = y) {a : α} (e : x = some a) : y = some a := by
  rcases h with h | h
  · rw [h] at e; cases e
  · rw [← h]; exact e
theorem OwnAt.weak {c : Base} {B : Keep} {h : Heap} {H' H : Hp} {a : Addr} (hs : H'.Sub H) (x : OwnAt c B h H a) : OwnAt c B h H' a := by
  obtain ⟨h1, h2, h3, h4, h5, h6, h7⟩ := hs a
  refine ⟨fun o => x.out (hs.own o), fun y e => x.l y (or_some h1 e), fun y e => x.d y (or_some h2 e), fun y e => x.p y (or_some h3 e), fun y e => x.s y (or_some h4 e), fun y e => x.i y (or_some h5 e), fun y e => x.c y (or_some h6 e), fun e => ?_, fun ep e => ?_⟩
  · have : H.D a ≠ none := by
      rcases h2 with h2 | h2
      · exact absurd h2 e
      · rw [← h2]; exact e
    have hp := x.dp this
    rcases h3 with h3 | h3
    · exact h3
    · rw [h3]; exact hp
  · rcases h7 with h7 | ⟨h7, h8⟩
    · rw [h7] at e; cases e
    · rw [h7] at e
      rw [h8]; exact x.g ep e
theorem Rel.weak {c : Base} {L : Addr} {nm : List (Str × NameKind)} {B : Keep} {loc loc' : Loc} {H H' : Hp} {s : Shared} (R : Rel c L nm B loc H s) (hs : H'.Sub H) (hl : LocSub loc' loc) : Rel c L nm B loc' H' s where
  keep := R.keep
  based := R.based
  own := fun a => (R.own a).weak hs
  lB := R.lB
  lH := fun o => R.lH (hs.own o)
  ns := let ⟨m, n, l⟩ := R.ns; ⟨m, n, fun x i X a b => l x i X a (hl _ _ b)⟩
  gens := R.gens
  os := R.os
  lim := R.lim
  sv := fun p hp => let ⟨x1, x2, x3, x4⟩ := R.sv p hp; ⟨x1, x2, fun o => x3 (hs.own o), x4⟩
theorem Post.weak {F : Fx} {α β : Type} {ρ : Keep → α → β → Prop} {B : Keep} {Q Q' : β → Loc → Hp → Prop} {a : α} {s : Shared} (p : Post F ρ B Q' a s) (h : ∀ b l H, Q' b l H → ∃ l' H', LocSub l' l ∧ H'.Sub H ∧ Q b l' H') : Post F ρ B Q a s := by
  obtain ⟨B', b, l, H, x1, x2, x3, x4⟩ := p
  obtain ⟨l', H', y1, y2, y3⟩ := h _ _ _ x4
  exact ⟨B', b, l', H', x1, x2, x3.weak y2 y1, y3⟩
theorem PW.weak {F : Fx} {α β : Type} {t : Sem α} {ρ : Keep → α → β → Prop} {B : Keep} {s : Shared} {Q Q' : β → Loc → Hp → Prop} (p : PW F t ρ B s Q') (h : ∀ b l H, Q' b l H → ∃ l' H', LocSub l' l ∧ H'.Sub H ∧ Q b l' H') : PW F t ρ B s Q :=
  wpAny_mono p (fun _ _ x => x.weak h) fun _ _ x => x

theorem unL_sub {H : Hp} {a : Addr} : Hp.Sub { H with L := un H.L a } H := fun b => by
  refine ⟨?_, .inr rfl, .inr rfl, .inr rfl, .inr rfl, .inr rfl, .inr ⟨rfl, rfl⟩⟩
  by_cases e : b = a
  · subst e; simp
  · exact .inr (un_ne e)
theorem unID_sub {H : Hp} {a d : Addr} (hG : H.G d = none) : Hp.Sub { H with I := un H.I a, D := un H.D d } H := fun b => by
  refine ⟨.inr rfl, ?_, .inr rfl, .inr rfl, ?_, .inr rfl, ?_⟩
  · by_cases e : b = d
    · subst e; simp
    · exact .inr (un_ne e)
  · by_cases e : b = a
    · subst e; simp
    · exact .inr (un_ne e)
  · by_cases e : b = d
    · subst e; exact .inl hG
    · exact .inr ⟨rfl, un_ne e⟩

section
variable {c : Base} {L : Addr} {nm : List (Str × NameKind)} {B : Keep} {loc : Loc} {H : Hp} {s : Shared}

theorem Rel.take (R : Rel c L nm B loc H s) {a : Addr} {o : Obj} (ha : s.heap.get? a = some o) (hB : B a = none) (hO : ¬ H.Own a) (hL : a ≠ L) (hS : ∀ p ∈ c.saved, p.1 ≠ a) :
    Rel c L nm (addB B a o) loc H s ∧ Le B (addB B a o) := by
  have hle := addB_le (o := o) hB
  refine ⟨⟨fun b p e => ?_, ⟨R.based.1, R.based.2.trans hle⟩, fun b => (R.own b).mono hle (fun _ e => e) fun h => ?_, ?_, R.lH, ?_, R.gens, R.os, R.lim, ?_⟩, hle⟩
  · unfold addB at e
    split at e
    · rename_i z; subst z; cases e; exact ha
    · exact R.keep _ _ e
  · unfold addB
    split
    · rename_i z; subst z; exact absurd h hO
    · exact ((R.own b).out h).1
  · unfold addB
    rw [if_neg (Ne.symm hL)]; exact R.lB
  · obtain ⟨m, n, l⟩ := R.ns
    exact ⟨m, n, l.mono hle⟩
  · intro p hp
    obtain ⟨x1, x2, x3⟩ := R.sv p hp
    refine ⟨x1, ?_, x3⟩
    unfold addB
    rw [if_neg (hS p hp)]; exact x2

theorem Rel.freezeL (R : Rel c L nm B loc H s) {a : Addr} {xs : List V} (e : H.L a = some xs) : ∃ B', Le B B' ∧ Rel c L nm B' loc { H with L := un H.L a } s ∧ RelV B' (.ref a) (.list xs) := by
  obtain ⟨items, n, hl, hr⟩ := (R.own a).l xs e
  have hw : H.Own a := .inl (by rw [e]; simp)
  obtain ⟨_, z2, z3, z4, z5⟩ := (R.own a).none_of hl
  have y1 := (z2 (by intro h; injection h with h; exact absurd h (by decide))).1
  have y2 := (z2 (by intro h; injection h with h; exact absurd h (by decide))).2
  have y3 := z3 (by intro h; injection h with h; exact absurd h (by decide))
  have y4 := z4 (by intro C h; cases h)
  have y5 := z5 (by intro v h; cases h)
  have R1 := R.weak (unL_sub (a := a)) (LocSub.refl _)
  have hno : ¬ Hp.Own { H with L := un H.L a } a := by unfold Hp.Own; simp [y1, y2, y3, y4, y5]
  obtain ⟨R2, le⟩ := R1.take hl ((R.own a).out hw).1 hno (R.own_ne_L hw) (fun p hp z => (R.sv p hp).2.2.1 (z ▸ hw))
  exact ⟨_, le, R2, .list (items := items) (n := n) (by simp [addB]) (hr.mono le)⟩

theorem relFs_of {prog : Program} {w : World} {od : Obj} {es : Array DictEntry} {ep : Nat} {cs : List (Str × Value)} (hd : od.data = .dict es ep) (hk : KeysOf (PySem.strKind prog w) es) (hp : Pairs (PySem.strKind prog w) es.toList cs) (hn : (cs.map (·.1)).Nodup) {fs : List (Str × V)} (h : RelKs B cs fs) :
    RelFs B od fs := by
  have gen : ∀ (cs' : List (Str × Value)) (fs' : List (Str × V)), RelKs B cs' fs' → (∀ p ∈ cs', lookIn p.1 od = some (some p.2)) → RelFs B od fs' := by
    intro cs' fs' h
    induction h with
    | nil => intro _; exact .nil
    | cons r t ih => intro hh; exact .cons (hh _ (.head _)) r (ih fun p hp => hh p (.tail _ hp))
  refine gen cs fs h fun p hp' => ?_
  rw [lookIn_pairs hd hk hp]
  have : ∀ cs : List (Str × Value), (cs.map (·.1)).Nodup → p ∈ cs → valueAt cs p.1 = some p.2 := by
    intro cs
    induction cs with
    | nil => intro _ h; cases h
    | cons q r ih =>
      intro hn hp
      rw [List.map_cons, List.nodup_cons] at hn
      unfold valueAt at ih ⊢
      rw [List.find?_cons]
      cases hp with
      | head _ => simp
      | tail _ hp =>
        have : ¬ q.1 = p.1 := fun e => hn.1 (List.mem_map.mpr ⟨_, hp, e.symm⟩)
        simp only [this, decide_false]
        exact ih hn.2 hp
  rw [this cs hn hp']

theorem Rel.freezeI (R : Rel c L nm B loc H s) {a C d : Addr} {fs : List (Str × V)} (eI : H.I a = some (C, d)) (eD : H.D d = some fs) (eG : H.G d = none) :
    ∃ B', Le B B' ∧ Rel c L nm B' loc { H with I := un H.I a, D := un H.D d } s ∧ RelV B' (.ref a) (.inst C fs) := by
  have hi := (R.own a).i _ eI
  obtain ⟨_, cs, ⟨od, es, ep, h1, h2, h3, h4, h5, h6⟩, h7⟩ := (R.own d).d fs eD
  have wa : H.Own a := .inr (.inr (.inr (.inr (.inl (by rw [eI]; simp)))))
  have wd : H.Own d := .inr (.inl (by rw [eD]; simp))
  have hne : a ≠ d := by rintro rfl; rw [hi] at h1; cases h1; cases h3
  obtain ⟨a1, a2, a3, _, a5⟩ := (R.own a).none_of hi
  obtain ⟨d1, _, d3, d4, d5⟩ := (R.own d).none_of h1
  have na1 := a1 (by intro h; cases h)
  have na2 := (a2 (by intro h; cases h)).1
  have na3 := (a2 (by intro h; cases h)).2
  have na4 := a3 (by intro h; cases h)
  have na5 := a5 (by intro v h; cases h)
  have nd1 := d1 (by rw [h2.1]; decide)
  have nd2 := (R.own d).dp (by rw [eD]; simp)
  have nd3 := d3 (by rw [h2.1]; decide)
  have nd4 := d4 (by intro C h; rw [h2.1] at h; cases h)
  have nd5 := d5 (by intro v h; rw [h3] at h; cases h)
  have R1 := R.weak (unID_sub (a := a) eG) (LocSub.refl _)
  have hna : ¬ Hp.Own { H with I := un H.I a, D := un H.D d } a := by unfold Hp.Own; simp [na1, na2, na3, na4, na5, un_ne hne]
  have hnd : ¬ Hp.Own { H with I := un H.I a, D := un H.D d } d := by unfold Hp.Own; simp [nd1, nd2, nd3, nd4, nd5, un_ne (Ne.symm hne)]
  obtain ⟨R2, le2⟩ := R1.take hi ((R.own a).out wa).1 hna (R.own_ne_L wa) (fun p hp z => (R.sv p hp).2.2.1 (z ▸ wa))
  obtain ⟨R3, le3⟩ := R2.take h1 (by unfold addB; rw [if_neg (Ne.symm hne)]; exact ((R.own d).out wd).1) hnd (R.own_ne_L wd) (fun p hp z => (R.sv p hp).2.2.1 (z ▸ wd))
  refine ⟨_, le2.trans le3, R3, .inst (d := d) (o := od) (le3 _ _ (by simp [addB])) (by simp [addB]) h3 (relFs_of h3 h4 h5 h6 (h7.mono (le2.trans le3)))⟩

theorem Rel.turnIt (R : Rel c L nm B loc H s) {a : Addr} {o o' : Obj} {fl} (hB : B a = some o) (hd : o.data = .fields fl) (hb : c.lo a = none) {s' : Shared} (hk : ∀ b o, b ≠ a → s.heap.get? b = some o → s'.heap.get? b = some o) (ha : s'.heap.get? a = some o')
    (hg : s'.gens = s.gens) (ho : s'.os = s.os) : Rel c L nm (addB (dropB B a) a o') loc H s' :=
  ((R.dropIt hB hd hb hk hg ho).take ha (by simp [dropB]) (fun w => by rw [((R.own a).out w).1] at hB; cases hB) (by rintro rfl; rw [R.lB] at hB; cases hB)
    (fun p hp z => by have := (R.sv p hp).2.1; rw [z, hB] at this; cases this)).1
end
theorem le_drop {B0 B : Keep} {a : Addr} (h : Le B0 B) (h0 : B0 a = none) : Le B0 (dropB B a) := fun b p e => by
  rw [dropB_ne]; exact h _ _ e
  rintro rfl; rw [h0] at e; cases e
theorem le_turn {B0 B : Keep} {a : Addr} {o : Obj} (h : Le B0 B) (h0 : B0 a = none) : Le B0 (addB (dropB B a) a o) := (le_drop h h0).trans (addB_le (by simp [dropB]))
theorem RelV.turn {B : Keep} {a : Addr} {o o' : Obj} {fl} (hB : B a = some o) (hd : o.data = .fields fl) {v : Value} {x : V} (r : RelV B v x) : RelV (addB (dropB B a) a o') v x := (r.drop hB hd).mono (addB_le (by simp [dropB]))

section
variable {F : Fx} {n : Nat} {loc : Loc} {H : Hp}
inductive Frz : V → Hp → V → Hp → Prop
  | list {a xs H} : H.L a = some xs → Frz (.ref a) H (.list xs) { H with L := un H.L a }
  | inst {a C d fs H} : H.I a = some (C, d) → H.D d = some fs → H.G d = none → Frz (.ref a) H (.inst C fs) { H with I := un H.I a, D := un H.D d }
theorem Rel.frz {c : Base} {L : Addr} {nm : List (Str × NameKind)} {B : Keep} {loc : Loc} {H H' : Hp} {s : Shared} {X X' : V} (R : Rel c L nm B loc H s) (f : Frz X H X' H') : ∃ B' a, X = .ref a ∧ Le B B' ∧ Rel c L nm B' loc H' s ∧ RelV B' (.ref a) X' := by
  cases f with
  | list e => obtain ⟨B', x1, x2, x3⟩ := R.freezeL e; exact ⟨B', _, rfl, x1, x2, x3⟩
  | inst e1 e2 e3 => obtain ⟨B', x1, x2, x3⟩ := R.freezeI e1 e2 e3; exact ⟨B', _, rfl, x1, x2, x3⟩
theorem Post.frz {B : Keep} {Q : V → Loc → Hp → Prop} {v : Value} {s : Shared} (p : Post F RelV B (fun X l H => ∃ X' H', Frz X H X' H' ∧ Q X' l H') v s) : Post F RelV B Q v s := by
  obtain ⟨B1, X, l, H, le, r, R, X', H', f, q⟩ := p
  obtain ⟨B2, a, rfl, le2, R2, r2⟩ := R.frz f
  cases r
  exact ⟨B2, X', l, H', le.trans le2, r2, R2, q⟩
theorem WE_frz {e : Expr} {Q : V → Loc → Hp → Prop} (h : WE F e loc H fun X l H => ∃ X' H', Frz X H X' H' ∧ Q X' l H') : WE F e loc H Q := fun B s R => wpAny_mono (h B s R) (fun _ _ p => p.frz) fun _ _ x => x
theorem Call_frz {f : V} {Xs : List V} {Q : V → Loc → Hp → Prop} (h : Call F f Xs loc H fun X l H => ∃ X' H', Frz X H X' H' ∧ Q X' l H') : Call F f Xs loc H Q := fun B s v vs R r rs => wpAny_mono (h B s v vs R r rs) (fun _ _ p => p.frz) fun _ _ x => x
theorem WE_weak {e : Expr} {Q Q' : V → Loc → Hp → Prop} (h : WE F e loc H Q') (k : ∀ b l H, Q' b l H → ∃ l' H', LocSub l' l ∧ H'.Sub H ∧ Q b l' H') : WE F e loc H Q := fun B s R => (h B s R).weak k
theorem WSs_pre {e : List Stmt} {loc' : Loc} {H' : Hp} {Q : Fl → Loc → Hp → Prop} (h : WSs F e loc' H' Q) (h1 : LocSub loc' loc) (h2 : H'.Sub H) : WSs F e loc H Q := fun B s R => h B s (R.weak h2 h1)
theorem WSs_frz {e : List Stmt} {i : Nat} {X X' : V} {H' : Hp} {Q : Fl → Loc → Hp → Prop} (hl : loc[i]? = some (some X)) (f : Frz X H X' H') (h : WSs F e (loc.set i (some X')) H' Q) : WSs F e loc H Q := fun B s R => by
  obtain ⟨B', a, rfl, le, R', r⟩ := R.frz f
  obtain ⟨m, hm, hlm⟩ := R'.ns
  have R2 : FRel F B' (loc.set i (some X')) H' s := ⟨R'.keep, R'.based, R'.own, R'.lB, R'.lH, ⟨m, hm, fun x j Y hx hj => by
    by_cases e : j = i
    · subst e
      have hlt : j < loc.length := (List.getElem?_eq_some_iff.mp hl).1
      rw [List.getElem?_set_self hlt] at hj
      cases hj
      obtain ⟨v, h1, h2⟩ := hlm x j _ hx hl
      cases h2
      exact ⟨_, h1, r⟩
    · rw [List.getElem?_set_ne (Ne.symm e)] at hj
      exact hlm x j Y hx hj⟩, R'.gens, R'.os, R'.lim, R'.sv⟩
  exact PW.lift le (h B' s R2)
end
end Lay
end
noncomputable section
open PySem PySem.W PyProof.Rows PySem.Calls
set_option Elab.async false
set_option maxRecDepth 100000
set_option linter.all false
namespace Lay

noncomputable abbrev Fx.inl (F : Fx) : Fx := { F with E := notedBy F.M F.A F.env (cameBackBy F.M F.A F.env F.E) }
theorem Ok.inl {F : Fx} {n : Nat} (ok : Ok F n) : Ok F.inl n := ⟨ok.fn, ok.glob, ok.bi, ok.dbg, ok.units, ok.depth, ok.handled, ok.fr⟩
noncomputable abbrev ItS := Keep → Keep → Addr → Prop
noncomputable def ItMono (St : ItS) : Prop := ∀ B0 B B' it, Le B B' → St B0 B it → St B0 B' it

noncomputable def Tr (B B' : Keep) : Prop := ∀ v X, RelV B v X → RelV B' v X
theorem Tr.of {B B' : Keep} (h : Le B B') : Tr B B' := fun _ _ r => r.mono h
theorem Tr.trans {B B' B'' : Keep} (h : Tr B B') (k : Tr B' B'') : Tr B B'' := fun v X r => k v X (h v X r)
theorem LocOk.tr {B B' : Keep} (h : Tr B B') {nm loc m} (x : LocOk B nm loc m) : LocOk B' nm loc m := fun y i X a b => let ⟨v, e, r⟩ := x y i X a b; ⟨v, e, h _ _ r⟩
noncomputable def Nxt (F : Fx) (target : Expr) (St : ItS) (H : Hp) (r : Option (V × ItS)) : Prop :=
  ∀ (E : Value → Shared → Prop) B0 B s it loc (N : Shared → Prop) (Y : Value → Shared → Prop), FRel F B loc H s → Le B0 B → St B0 B it →
    (∀ B' s', r = none → Le B0 B' → Tr B B' → FRel F B' loc H s' → N s') →
    (∀ X St' B' v s', r = some (X, St') → Le B0 B' → Tr B B' → FRel F B' loc H s' → St' B0 B' it → RelV B' v X → Y v s') →
    wpAny F.M F.A (pyNext (.ref it)) (fun r s1 => match r with | none => N s1 | some v => wpAny F.M F.A (letOwnedTupleGo target (.ref it) v) (fun _ s1' => Y v s1') E s1) E s

noncomputable def LoopQ (J : Loc → Hp → Prop) (Q : Fl → Loc → Hp → Prop) : Fl → Loc → Hp → Prop
  | .next => J
  | .cont => J
  | .brk => Q .next
  | .ret x => Q (.ret x)

noncomputable def ForOn (F : Fx) (target : Expr) (body orelse : List Stmt) (Q : Fl → Loc → Hp → Prop) (St : Nat → ItS) (l : Loc) (H : Hp) : Prop :=
  (∀ i, ItMono (St i)) ∧ ∃ (N : Nat) (Inv : Nat → Loc → Hp → Prop), Inv 0 l H ∧
    (∀ i l H, i < N → Inv i l H → ∃ X, Nxt F target (St i) H (some (X, St (i + 1))) ∧ WA F.inl target X l H fun l1 H1 => WSs F.inl body l1 H1 (LoopQ (Inv (i + 1)) Q)) ∧
    (∀ l H, Inv N l H → Nxt F target (St N) H none ∧ WSs F.inl orelse l H Q)

noncomputable def WIt (F : Fx) (iter : Expr) (loc : Loc) (H : Hp) (Q : (Nat → ItS) → Loc → Hp → Prop) : Prop := ∀ B s, FRel F B loc H s →
  wpAny F.M F.A (eval iter F.env) (fun x s1 => wpAny F.M F.A (pyIter x) (fun it s2 => ∃ B' a l H' St, it = .ref a ∧ Le B B' ∧ FRel F B' l H' s2 ∧ St 0 B B' a ∧ Q St l H') F.E s1) F.E s

section
variable {F : Fx} {n : Nat} {loc : Loc} {H : Hp}

theorem WS_For {target iter : Expr} {body orelse : List Stmt} {pos : Pos} {Q : Fl → Loc → Hp → Prop} (h : WIt F iter loc H fun St l H => ForOn F target body orelse Q St l H)
    (hs : ∀ x, foldedSetIterable iter F.env x = pure x := by intro _; rfl) : WS F (.For target iter body orelse pos) loc H Q := fun B s R => by
  refine wpAny_For (wpAny_mono (h B s R) (fun x s1 h1 => wpAny_mono h1 (fun it s2 h2 => ?_) fun _ _ e => e) fun _ _ e => e) hs
  obtain ⟨B', a, l, H', St, rfl, le, R', st, mono, N, Inv, h0, hitem, hend⟩ := h2
  refine codeAny_forLoop_any (fun k s' => ∃ i l H' B', i + k = N ∧ Inv i l H' ∧ Le B B' ∧ FRel F B' l H' s' ∧ St i B B' a) ?_ N ⟨0, l, H', B', by omega, h0, le, R', st⟩
  rintro k s' ⟨i, l, H', B', hk, hi, le, R', st⟩
  cases k with
  | zero =>
    obtain rfl : i = N := by omega
    obtain ⟨hn, ho⟩ := hend l H' hi
    refine hn _ B B' s' a l _ _ R' le st ?_ ?_
    · intro B2 s2 _ le2 _ R2
      refine wpAny_mono (ho B2 s2 R2) (fun f s3 p => p.lift le2) fun _ _ e => e
    · intro X St' B2 v s2 e; cases e
  | succ k =>
    obtain ⟨X, hn, ha⟩ := hitem i l H' (by omega) hi
    refine hn _ B B' s' a l _ _ R' le st ?_ ?_
    · intro B2 s2 e; cases e
    · intro X' St' B2 v s2 e le2 _ R2 st2 rv
      cases e
      refine (ha B2 s2 v R2 rv).then fun _ B3 _ l3 H3 s3 le3 _ R3 hb => (hb B3 s3 R3).then fun f B4 fl l4 H4 s4 le4 rf R4 q => ?_
      have le5 := le2.trans (le3.trans le4)
      cases rf with
      | next => exact ⟨k, by omega, i + 1, l4, H4, B4, by omega, q, le5, R4, mono _ _ _ _ _ (le3.trans le4) st2⟩
      | cont => exact ⟨k, by omega, i + 1, l4, H4, B4, by omega, q, le5, R4, mono _ _ _ _ _ (le3.trans le4) st2⟩
      | brk => exact (Post.pure (F := F) (Q := Q) (b := Fl.next) RelF.next R4 q).lift le5
      | ret r => exact (Post.pure (F := F) (Q := Q) (b := Fl.ret _) (RelF.ret r) R4 q).lift le5

theorem WS_While {test : Expr} {body orelse : List Stmt} {pos : Pos} {Q : Fl → Loc → Hp → Prop} (Inv : Nat → Loc → Hp → Prop) (k : Nat) (h0 : Inv k loc H)
    (h : ∀ k l H, Inv k l H → WB F.inl test l H fun b l1 H1 => (b = true → WSs F.inl body l1 H1 (LoopQ (fun l H => ∃ k', k' < k ∧ Inv k' l H) Q)) ∧ (b = false → WSs F.inl orelse l1 H1 Q)) :
    WS F (.While test body orelse pos) loc H Q := fun B s R => by
  refine wpAny_While (codeAny_whileLoop (fun k s' => ∃ l H' B', Inv k l H' ∧ Le B B' ∧ FRel F B' l H' s') ?_ k ⟨loc, H, B, h0, Le.refl _, R⟩)
  rintro k s' ⟨l, H', B', hi, le, R'⟩
  refine (h k l H' hi B' s' R').then fun b B1 b' l1 H1 s1 le1 e R1 q => ?_
  subst e
  have le1 := le.trans le1
  cases b with
  | false => exact wpAny_mono (q.2 rfl B1 s1 R1) (fun f s3 p => p.lift le1) fun _ _ e => e
  | true =>
    refine (q.1 rfl B1 s1 R1).then fun f B4 fl l4 H4 s4 le4 rf R4 q => ?_
    have le5 := le1.trans le4
    cases rf with
    | next => obtain ⟨k', hk, hi⟩ := q; exact ⟨k', hk, l4, H4, B4, hi, le5, R4⟩
    | cont => obtain ⟨k', hk, hi⟩ := q; exact ⟨k', hk, l4, H4, B4, hi, le5, R4⟩
    | brk => exact (Post.pure (F := F) (Q := Q) (b := Fl.next) RelF.next R4 q).lift le5
    | ret r => exact (Post.pure (F := F) (Q := Q) (b := Fl.ret _) (RelF.ret r) R4 q).lift le5

theorem base_none {B1 : Keep} (h1 : Le F.c.lo B1) {a : Addr} (h : B1 a = none) : F.c.lo a = none := by
  cases e : F.c.lo a with
  | none => rfl
  | some o => rw [h1 _ _ e] at h; cases h

noncomputable def lstSt (hb : Keep) (X : V) (i : Nat) : ItS := fun B0 B it => B0 it = none ∧ hb it = none ∧ ∃ l o, RelV B (.ref l) X ∧ B it = some o ∧ o.cls = .type "list_iterator" ∧ o.data = .fields #[.ref l, .int i 0]
theorem lstSt_mono {hb : Keep} {X : V} (i : Nat) : ItMono (lstSt hb X i) := fun B0 B B' it le ⟨h0, hb, l, o, h1, h2, h3⟩ => ⟨h0, hb, l, o, h1.mono le, le _ _ h2, h3⟩
theorem asL_ref {l : Addr} {B : Keep} {s : Shared} (R : FRel F B loc H s) {X : V} {xs : List V} (r : RelV B (.ref l) X) (e : asL H X = some xs) : ∃ items m, IsL s.heap l items m ∧ RelVs B items.toList xs := by
  obtain ⟨a, items, m, h1, h2, h3⟩ := asL_at R r e
  cases h1; exact ⟨_, _, h2, h3⟩
theorem Nxt_list {target : Expr} {X x : V} {xs : List V} {i : Nat} (e : asL H X = some xs) (hx : xs[i]? = some x) : Nxt F target (lstSt F.c.lo X i) H (some (x, lstSt F.c.lo X (i + 1))) := fun E B0 B s it loc N Y R le ⟨h0, hb, l, o, h1, h2, h3, h4⟩ _ hY => by
  obtain ⟨items, m, hl, hr⟩ := asL_ref R h1 e
  obtain ⟨v, e1, rv⟩ := hr.get hx
  have hit : s.heap.IsListIter it l i := ⟨o, R.keep _ _ h2, h3, h4⟩
  refine wpAny_pyNext_list_item hit hl.isList (x := v) (by simpa using e1) fun h' hit' hs' => ?_
  obtain ⟨o', ho', hc', hd'⟩ := id hit'
  refine letGo_listiter (s' := { s with heap := h' }) hit' (hY _ _ (addB (dropB B it) it o') v _ rfl (le_turn le h0) (fun _ _ r => r.turn h2 h4) (R.turnIt h2 h4 hb (fun b p hne q => (hs'.2 b hne).trans q) ho' rfl rfl) ⟨h0, hb, l, o', ?_, by simp [addB], hc', hd'⟩ (rv.turn h2 h4))
  exact h1.turn h2 h4
theorem Nxt_list_end {target : Expr} {X : V} {xs : List V} {i : Nat} (hh : F.A.handled = none) (e : asL H X = some xs) (hx : xs.length ≤ i) : Nxt F target (lstSt F.c.lo X i) H none := fun E B0 B s it loc N Y R le ⟨h0, hb, l, o, h1, h2, h3, h4⟩ hN _ => by
  obtain ⟨items, m, hl, hr⟩ := asL_ref R h1 e
  have hit : s.heap.IsListIter it l i := ⟨o, R.keep _ _ h2, h3, h4⟩
  have hlen := hr.length
  rw [Array.length_toList] at hlen
  refine wpAny_pyNext_list_end hh hit hl.isList (by rw [Array.getElem?_eq_none]; omega) fun h' hs' => ?_
  exact hN _ _ rfl (le_drop le h0) (fun _ _ r => r.drop h2 h4) (R.dropIt h2 h4 hb (fun b p hne q => hs' b p hne q) rfl rfl)
theorem WIt_list {iter : Expr} {Q : (Nat → ItS) → Loc → Hp → Prop} (h : WE F iter loc H fun X l H => ∃ xs, asL H X = some xs ∧ Q (lstSt F.c.lo X) l H) : WIt F iter loc H Q := fun B s R =>
  (h B s R).then fun v B1 X l1 H1 s1 le1 rv R1 ⟨xs, e, q⟩ => by
    obtain ⟨a, items, m, rfl, hl, hr⟩ := asL_at R1 rv e
    refine wpAny_pyIter_list hl.isList ?_
    have z := R1.hold (s' := { s1 with heap := s1.heap.push { cls := .type "list_iterator", data := .fields #[.ref a, .int 0 0] } }) (a := s1.heap.objs.size) (o := { cls := .type "list_iterator", data := .fields #[.ref a, .int 0 0] }) (Nat.le_refl _) (fun b o e => Heap.get?_push_of_some _ e) (Heap.get?_push_size _ rfl) rfl rfl
    have hn := (R1.fresh (Nat.le_refl _)).1
    have h1 := R1.fresh_B hn
    have h2 : B s1.heap.objs.size = none := by
      cases e : B s1.heap.objs.size with
      | none => rfl
      | some o => rw [le1 _ _ e] at h1; cases h1
    exact ⟨_, _, _, _, lstSt F.c.lo X, rfl, le1.trans z.2.1, z.1, ⟨h2, base_none R.based.2 h2, a, _, rv.mono z.2.1, z.2.2, rfl, rfl⟩, q⟩

noncomputable def tupSt (hb : Keep) (xs : List V) (i : Nat) : ItS := fun B0 B it => B0 it = none ∧ hb it = none ∧ ∃ t o, RelV B (.ref t) (.tup xs) ∧ B it = some o ∧ o.cls = .type "tuple_iterator" ∧ o.data = .fields #[.ref t, .int i 0]
theorem tupSt_mono {hb : Keep} {xs : List V} (i : Nat) : ItMono (tupSt hb xs i) := fun B0 B B' it le ⟨h0, hb, l, o, h1, h2, h3⟩ => ⟨h0, hb, l, o, h1.mono le, le _ _ h2, h3⟩
theorem tup_at {t : Addr} {B : Keep} {s : Shared} (R : FRel F B loc H s) {xs : List V} (r : RelV B (.ref t) (.tup xs)) : ∃ items m, s.heap.get? t = some (tupObj items m) ∧ s.heap.IsTuple t items ∧ RelVs B items.toList xs := by
  cases r with | tup hb hr => exact ⟨_, _, R.keep _ _ hb, ⟨_, R.keep _ _ hb, rfl, _, rfl⟩, hr⟩
theorem Nxt_tup {target : Expr} {x : V} {xs : List V} {i : Nat} (hx : xs[i]? = some x) : Nxt F target (tupSt F.c.lo xs i) H (some (x, tupSt F.c.lo xs (i + 1))) := fun E B0 B s it loc N Y R le ⟨h0, hb, l, o, h1, h2, h3, h4⟩ _ hY => by
  obtain ⟨items, m, _, hl, hr⟩ := tup_at R h1
  obtain ⟨v, e1, rv⟩ := hr.get hx
  have hit : s.heap.IsTupleIter it l i := ⟨o, R.keep _ _ h2, h3, h4⟩
  refine wpAny_pyNext_tuple_item hit hl (x := v) (by simpa using e1) fun h' hit' hs' => ?_
  obtain ⟨o', ho', hc', hd'⟩ := id hit'
  refine letGo_tupleiter (s' := { s with heap := h' }) hit' (hY _ _ (addB (dropB B it) it o') v _ rfl (le_turn le h0) (fun _ _ r => r.turn h2 h4) (R.turnIt h2 h4 hb (fun b p hne q => (hs'.2 b hne).trans q) ho' rfl rfl) ⟨h0, hb, l, o', ?_, by simp [addB], hc', hd'⟩ (rv.turn h2 h4))
  exact h1.turn h2 h4
theorem Nxt_tup_end {target : Expr} {xs : List V} {i : Nat} (hh : F.A.handled = none) (hx : xs.length ≤ i) : Nxt F target (tupSt F.c.lo xs i) H none := fun E B0 B s it loc N Y R le ⟨h0, hb, l, o, h1, h2, h3, h4⟩ hN _ => by
  obtain ⟨items, m, _, hl, hr⟩ := tup_at R h1
  have hit : s.heap.IsTupleIter it l i := ⟨o, R.keep _ _ h2, h3, h4⟩
  have hlen := hr.length
  rw [Array.length_toList] at hlen
  refine wpAny_pyNext_tuple_end hh hit hl (by rw [Array.getElem?_eq_none]; omega) fun h' hs' => ?_
  exact hN _ _ rfl (le_drop le h0) (fun _ _ r => r.drop h2 h4) (R.dropIt h2 h4 hb (fun b p hne q => hs' b p hne q) rfl rfl)
theorem WIt_tup {iter : Expr} {Q : (Nat → ItS) → Loc → Hp → Prop} (h : WE F iter loc H fun X l H => ∃ xs, X = .tup xs ∧ Q (tupSt F.c.lo xs) l H) : WIt F iter loc H Q := fun B s R =>
  (h B s R).then fun v B1 X l1 H1 s1 le1 rv R1 ⟨xs, e, q⟩ => by
    subst e
    cases rv with | @tup a items m _ hb hr => ?_
    refine wpAny_pyIter_tuple (items := items) ⟨_, R1.keep _ _ hb, rfl, _, rfl⟩ ?_
    have z := R1.hold (s' := { s1 with heap := s1.heap.push { cls := .type "tuple_iterator", data := .fields #[.ref a, .int 0 0] } }) (a := s1.heap.objs.size) (o := { cls := .type "tuple_iterator", data := .fields #[.ref a, .int 0 0] }) (Nat.le_refl _) (fun b o e => Heap.get?_push_of_some _ e) (Heap.get?_push_size _ rfl) rfl rfl
    have hn := (R1.fresh (Nat.le_refl _)).1
    have h1 := R1.fresh_B hn
    have h2 : B s1.heap.objs.size = none := by
      cases e : B s1.heap.objs.size with
      | none => rfl
      | some o => rw [le1 _ _ e] at h1; cases h1
    exact ⟨_, _, _, _, tupSt F.c.lo xs, rfl, le1.trans z.2.1, z.1, ⟨h2, base_none R.based.2 h2, a, _, (RelV.tup hb hr).mono z.2.1, z.2.2, rfl, rfl⟩, q⟩

noncomputable def rngSt (hb : Keep) (n : Nat) (i : Nat) : ItS := fun B0 B it => B0 it = none ∧ hb it = none ∧ B it = some { cls := .type "range_iterator", dict := none, data := .fields #[rawInt (i : Int), rawInt ((n : Int) - i), rawInt 1], slots := #[] }
theorem rngSt_mono {hb : Keep} {n : Nat} (i : Nat) : ItMono (rngSt hb n i) := fun B0 B B' it le ⟨h0, hb, h1⟩ => ⟨h0, hb, le _ _ h1⟩
theorem letGo_rangeiter {E : Value → Shared → Prop} {s : Shared} {M : Model} {A : Around} {target : Expr} {I : Addr} {x left step : Int} {v : Value} {Q : Unit → Shared → Prop} (hit : IsRangeIter s.heap I x left step) (h : Q () s) : wpAny M A (letOwnedTupleGo target (.ref I) v) Q E s := by
  unfold letOwnedTupleGo
  cases target <;> first
    | exact wpAny_pure h
    | (cases v <;> first
        | exact wpAny_pure h
        | (refine wpAny_bind (wpAny_load hit ?_)
           exact wpAny_pure h))
theorem Nxt_rng {target : Expr} {n i : Nat} (hi : i < n) : Nxt F target (rngSt F.c.lo n i) H (some (.int i, rngSt F.c.lo n (i + 1))) := fun E B0 B s it loc N Y R le ⟨h0, hb, h2⟩ _ hY => by
  have hit : IsRangeIter s.heap it (i : Int) ((n : Int) - i) 1 := R.keep _ _ h2
  refine wpAny_pyNext_range_item hit (by omega) fun h' hit' hs' => ?_
  refine letGo_rangeiter (s := { s with heap := h', toks := s.toks + 1 }) hit' (hY _ _ (addB (dropB B it) it _) _ _ rfl (le_turn le h0) (fun _ _ r => r.turn h2 rfl) (R.turnIt (s' := { s with heap := h', toks := s.toks + 1 }) h2 rfl hb (fun b p hne q => (hs'.2 b hne).trans q) hit' rfl rfl) ⟨h0, hb, ?_⟩ (.int _ _))
  have e1 : ((i : Int) + 1) = ((i + 1 : Nat) : Int) := by omega
  have e2 : ((n : Int) - i - 1) = (n : Int) - (i + 1 : Nat) := by omega
  simp only [addB, if_true, e1, e2]
theorem Nxt_rng_end {target : Expr} {n i : Nat} (hh : F.A.handled = none) (hi : n ≤ i) : Nxt F target (rngSt F.c.lo n i) H none := fun E B0 B s it loc N Y R le ⟨h0, hb, h2⟩ hN _ => by
  have hit : IsRangeIter s.heap it (i : Int) ((n : Int) - i) 1 := R.keep _ _ h2
  refine wpAny_pyNext_range_end hh hit (by omega) fun h' hs' => ?_
  exact hN _ _ rfl (le_drop le h0) (fun _ _ r => r.drop h2 rfl) (R.dropIt h2 rfl hb (fun b p hne q => hs' b p hne q) rfl rfl)
end
end Lay
end
noncomputable section
open PySem PySem.W PyProof.Rows PySem.Calls
set_option Elab.async false
set_option maxRecDepth 100000
set_option linter.all false
namespace Lay
section
variable {c : Base} {L : Addr} {nm : List (Str × NameKind)} {B : Keep} {loc : Loc} {H : Hp} {s : Shared}
theorem Rel.free (R : Rel c L nm B loc H s) {s' : Shared} (X : Addr → Prop) (hX : ∀ a, X a → B a = none ∧ ¬ H.Own a ∧ a ≠ L ∧ ∀ p ∈ c.saved, p.1 ≠ a) (hk : ∀ b o, ¬ X b → s.heap.get? b = some o → s'.heap.get? b = some o)
    (hg : s'.gens = s.gens) (ho : s'.os = s.os) : Rel c L nm B loc H s' where
  keep := fun b p e => hk _ _ (fun x => by rw [(hX b x).1] at e; cases e) (R.keep _ _ e)
  based := R.based
  own := fun b => by
    by_cases hw : H.Own b
    · exact (R.own b).mono (Le.refl _) (fun p => hk b p fun x => (hX b x).2.1 hw) fun h => ((R.own b).out h).1
    · obtain ⟨d1, d2, d3, d4, d5, d6⟩ := not_own hw
      refine ⟨fun h => absurd h hw, ?_, ?_, ?_, ?_, ?_, ?_, fun _ => d3, fun ep e => ?_⟩
      · intro y hy; rw [d1] at hy; cases hy
      · intro y hy; rw [d2] at hy; cases hy
      · intro y hy; rw [d3] at hy; cases hy
      · intro y hy; rw [d4] at hy; cases hy
      · intro y hy; rw [d5] at hy; cases hy
      · intro y hy; rw [d6] at hy; cases hy
      · exact absurd (.inr (.inl ((R.own b).g ep e).1)) hw
  lB := R.lB
  lH := R.lH
  ns := by
    obtain ⟨m, ⟨oL, es, ep, q, z⟩, l⟩ := R.ns
    exact ⟨m, ⟨oL, es, ep, hk _ _ (fun x => (hX L x).2.2.1 rfl) q, z⟩, l⟩
  gens := hg.trans R.gens
  os := ho.trans R.os
  lim := R.lim
  sv := fun p hp => by
    obtain ⟨⟨ob, x1, y1⟩, x2, x3, x4⟩ := R.sv p hp
    exact ⟨⟨ob, hk _ _ (fun x => (hX _ x).2.2.2 p hp rfl) x1, y1⟩, x2, x3, x4⟩
theorem Rel.nobody (R : Rel c L nm B loc H s) {a : Addr} (e : s.heap.get? a = none) : B a = none ∧ ¬ H.Own a ∧ a ≠ L ∧ ∀ p ∈ c.saved, p.1 ≠ a :=
  ⟨R.fresh_B e, R.fresh_H e, R.fresh_L e, fun p hp z => by obtain ⟨o, h1, _⟩ := (R.sv p hp).1; rw [z, e] at h1; cases h1⟩
theorem Rel.kept (R : Rel c L nm B loc H s) {a : Addr} {o : Obj} (e : B a = some o) : ¬ H.Own a ∧ a ≠ L ∧ ∀ p ∈ c.saved, p.1 ≠ a :=
  ⟨(fun w => by rw [((R.own a).out w).1] at e; cases e), (by rintro rfl; rw [R.lB] at e; cases e), (fun p hp z => by have := (R.sv p hp).2.1; rw [z, e] at this; cases this)⟩
theorem Rel.know (R : Rel c L nm B loc H s) {d : Addr} {kvs : List (Str × V)} {o : Obj} {es ep} (e : H.D d = some kvs) (ho : s.heap.get? d = some o) (hd : o.data = .dict es ep) : Rel c L nm B loc { H with G := up H.G d ep } s where
  keep := R.keep
  based := R.based
  own := fun b => by
    refine ⟨(R.own b).out, (R.own b).l, (R.own b).d, (R.own b).p, (R.own b).s, (R.own b).i, (R.own b).c, (R.own b).dp, fun ep' h => ?_⟩
    by_cases hb : b = d
    · subst hb
      simp only [up_self, Option.some.injEq] at h
      subst h; exact ⟨by rw [e]; simp, _, _, ho, hd⟩
    · simp only [up_ne hb] at h; exact (R.own b).g _ h
  lB := R.lB
  lH := R.lH
  ns := R.ns
  gens := R.gens
  os := R.os
  lim := R.lim
  sv := R.sv
end
section
variable {F : Fx} {n : Nat} {loc : Loc} {H : Hp}

theorem WIt_range {x : Str} {np pos : Pos} {arg : Expr} {Q : (Nat → ItS) → Loc → Hp → Prop}
    (h : WE F (.Name x np) loc H fun f l1 H1 => f = .raw (.type "range") ∧ WEs F pos [arg] l1 H1 fun Xs l2 H2 => ∃ n : Nat, Xs = [.int n] ∧ n < 2 ^ 60 ∧ Q (rngSt F.c.lo n) l2 H2)
    (hns : (backTo pos (starEach [arg] F.env)).any (·.1) = false := by rfl) : WIt F (.Call (.Name x np) [arg] [] pos) loc H Q := fun B s R => by
  refine wpAny_Call_ofName ((h B s R).then fun f B1 X l1 H1 s1 le1 rf R1 ⟨hX, h1⟩ => ?_)
  subst hX
  cases rf
  refine callWith_gen hns (evalArgs_gen hns ((h1 B1 s1 R1).then fun vs B2 Xs l2 H2 s2 le2 rv R2 ⟨n, hXs, hn, q⟩ => ?_))
  subst hXs
  cases rv with | cons ra r2 => ?_
  cases r2
  cases ra with | int _ t => ?_
  obtain ⟨k, hk⟩ := KeepOk_raw (F := F) (loc := l2) (H := H2) (v := .type "range") (by intro a h; cases h) B2 s2 (.type "range") R2 (.raw _)
  refine ⟨⟨k, fun Q' q' => hk Q' q'⟩, ?_⟩
  refine call_range_1 ?_
  have R3 := R2.grow (s' := { s2 with heap := s2.heap.push { cls := .type "range", data := .fields #[.int 0 s2.toks, .int n t, .int 1 (s2.toks + 1)] }, toks := s2.toks + 1 + 1 }) (fun b o e => Heap.get?_push_of_some _ e) rfl rfl
  refine wpAny_pyIter_range (a := 0) (b := n) (c := 1) (t := s2.toks) (u := t) (v := s2.toks + 1) (Heap.get?_push_size _ rfl) (small_one (by decide) (by decide) (by omega) (by omega)) ?_
  have hsz : Builtin.Range.rangeSize 0 (n : Int) 1 = (n : Int) := by
    unfold Builtin.Range.rangeSize
    split <;> simp_all <;> omega
  rw [hsz]
  have z := R3.hold (s' := { ({ s2 with heap := s2.heap.push { cls := .type "range", data := .fields #[.int 0 s2.toks, .int n t, .int 1 (s2.toks + 1)] }, toks := s2.toks + 1 + 1 } : Shared) with heap := (s2.heap.push { cls := .type "range", data := .fields #[.int 0 s2.toks, .int n t, .int 1 (s2.toks + 1)] }).push { cls := .type "range_iterator", data := .fields #[rawInt 0, rawInt n, rawInt 1] } })
    (a := (s2.heap.push { cls := .type "range", data := .fields #[.int 0 s2.toks, .int n t, .int 1 (s2.toks + 1)] }).objs.size) (o := { cls := .type "range_iterator", data := .fields #[rawInt 0, rawInt n, rawInt 1] }) (Nat.le_refl _) (fun b o e => Heap.get?_push_of_some _ e) (Heap.get?_push_size _ rfl) rfl rfl
  have hf := R3.fresh_B (R3.fresh (Nat.le_refl _)).1
  have hB : B (s2.heap.push { cls := .type "range", data := .fields #[.int 0 s2.toks, .int n t, .int 1 (s2.toks + 1)] }).objs.size = none := by
    cases e : B (s2.heap.push { cls := .type "range", data := .fields #[.int 0 s2.toks, .int n t, .int 1 (s2.toks + 1)] }).objs.size with
    | none => rfl
    | some o => have := (le1.trans le2) _ _ e; rw [hf] at this; cases this
  refine ⟨_, _, l2, H2, rngSt F.c.lo n, rfl, (le1.trans le2).trans z.2.1, z.1, ⟨hB, base_none R.based.2 hB, ?_⟩, q⟩
  simpa using z.2.2

noncomputable def keySt (hb : Keep) (d : Addr) (n ep : Nat) (i : Nat) : ItS := fun B0 B it => B0 it = none ∧ hb it = none ∧ ∃ o, B it = some o ∧ o.cls = .type "dict_keyiterator" ∧ o.data = .fields #[.ref d, .int i 0, .int n 0, .int ep 0]
theorem keySt_mono {hb : Keep} {d : Addr} {n ep : Nat} (i : Nat) : ItMono (keySt hb d n ep i) := fun B0 B B' it le ⟨h0, hb, o, h2, h3⟩ => ⟨h0, hb, o, le _ _ h2, h3⟩
theorem dictAt_of {B : Keep} {s : Shared} (R : FRel F B loc H s) {d : Addr} {kvs : List (Str × V)} {ep : Nat} (e : H.D d = some kvs) (eG : H.G d = some ep) : ∃ cs, s.heap.DictAt (PySem.strKind F.c.prog F.c.w) d cs ep ∧ RelKs B cs kvs ∧ (d == sysModules) = false ∧ ∀ p ∈ kvs, PyData.strOk p.1 = true := by
  obtain ⟨cs, ⟨o, es, ep', h1, h2, h3, h4⟩, h5, h6⟩ := dict_at R e
  obtain ⟨_, o', es', h7, h8⟩ := (R.own d).g ep eG
  rw [h1] at h7; cases h7
  rw [h3] at h8; cases h8
  exact ⟨cs, ⟨o, es, h1, h2, h3, h4⟩, h5, h6, ((R.own d).d kvs e).1⟩
theorem RelKs.at_ {κ : Type} {B : Keep} : ∀ {cs : List (κ × Value)} {kvs : List (κ × V)} {i : Nat} {k : κ} {x : V}, RelKs B cs kvs → kvs[i]? = some (k, x) → ∃ v, cs[i]? = some (k, v) ∧ RelV B v x
  | _, _, _, _, _, .nil, h => by simp at h
  | _, _, 0, _, _, .cons a r, h => by simp at h; obtain ⟨rfl, rfl⟩ := h; exact ⟨_, by simp, a⟩
  | _, _, i + 1, _, _, .cons a r, h => by
    obtain ⟨v, h1, h2⟩ := RelKs.at_ r (i := i) (by simpa using h)
    exact ⟨v, by simpa using h1, h2⟩
theorem Nxt_keys {target : Expr} {d : Addr} {kvs : List (Str × V)} {ep i n : Nat} {k : Str} {x : V} (e : H.D d = some kvs) (eG : H.G d = some ep) (hn : kvs.length = n) (hx : kvs[i]? = some (k, x)) : Nxt F target (keySt F.c.lo d n ep i) H (some (.str k, keySt F.c.lo d n ep (i + 1))) := fun E B0 B s it loc N Y R le ⟨h0, hb, o, h2, h3, h4⟩ _ hY => by
  obtain ⟨cs, hm, hr, hs, hok⟩ := dictAt_of R e eG
  obtain ⟨v, e1, rv⟩ := hr.at_ hx
  have hlen := hr.length
  have hit : s.heap.IsKeyIter it d i cs.length ep := ⟨o, R.keep _ _ h2, h3, by rw [hlen, hn]; exact h4⟩
  refine wpAny_pyNext_dict_item (knd := PySem.strKind F.c.prog F.c.w) hit hm e1 fun key h' hkey hit' hs' => ?_
  obtain ⟨t, rfl⟩ := Value.isStrOf_shape hkey
  obtain ⟨o', ho', hc', hd'⟩ := id hit'
  refine letGo_keyiter (s' := { s with heap := h' }) hit' (hY _ _ (addB (dropB B it) it o') _ _ rfl (le_turn le h0) (fun _ _ r => r.turn h2 h4) (R.turnIt h2 h4 hb (fun b p hne q => (hs'.2 b hne).trans q) ho' rfl rfl) ⟨h0, hb, o', by simp [addB], hc', ?_⟩ (.str _ _ (hok _ (List.mem_of_getElem? hx))))
  rw [hd', hlen, hn]
theorem Nxt_keys_end {target : Expr} {d : Addr} {kvs : List (Str × V)} {ep i n : Nat} (hh : F.A.handled = none) (e : H.D d = some kvs) (eG : H.G d = some ep) (hn : kvs.length = n) (hx : n ≤ i) : Nxt F target (keySt F.c.lo d n ep i) H none := fun E B0 B s it loc N Y R le ⟨h0, hb, o, h2, h3, h4⟩ hN _ => by
  obtain ⟨cs, hm, hr, hs, hok⟩ := dictAt_of R e eG
  have hlen := hr.length
  have hit : s.heap.IsKeyIter it d i cs.length ep := ⟨o, R.keep _ _ h2, h3, by rw [hlen, hn]; exact h4⟩
  refine wpAny_pyNext_dict_end (knd := PySem.strKind F.c.prog F.c.w) hh hit hm (by rw [List.getElem?_eq_none]; omega) fun h' hs' => ?_
  exact hN _ _ rfl (le_drop le h0) (fun _ _ r => r.drop h2 h4) (R.dropIt h2 h4 hb (fun b p hne q => hs' b p hne q) rfl rfl)
theorem WIt_keys {iter : Expr} {Q : (Nat → ItS) → Loc → Hp → Prop} (h : WE F iter loc H fun X l H => ∃ d kvs, X = .ref d ∧ H.D d = some kvs ∧ ∀ ep, Q (keySt F.c.lo d kvs.length ep) l { H with G := up H.G d ep }) : WIt F iter loc H Q := fun B s R =>
  (h B s R).then fun v B1 X l1 H1 s1 le1 rv R1 ⟨d, kvs, e, eD, q⟩ => by
    subst e
    cases rv
    obtain ⟨cs, hm, hr, hs⟩ := dict_at R1 eD
    obtain ⟨ep, hm⟩ := hm.dictAt
    obtain ⟨od, es, w1, w2, w3, w4⟩ := id hm
    refine wpAny_pyIter_dict hs hm ?_
    have R2 := R1.know eD w1 w3
    have hlen := hr.length
    have z := R2.hold (s' := { s1 with heap := s1.heap.push { cls := .type "dict_keyiterator", data := .fields #[.ref d, .int 0 0, .int cs.length 0, .int ep 0] } }) (a := s1.heap.objs.size) (o := { cls := .type "dict_keyiterator", data := .fields #[.ref d, .int 0 0, .int cs.length 0, .int ep 0] }) (Nat.le_refl _) (fun b o e => Heap.get?_push_of_some _ e) (Heap.get?_push_size _ rfl) rfl rfl
    have hn := (R1.fresh (Nat.le_refl _)).1
    have h1 := R1.fresh_B hn
    have h2 : B s1.heap.objs.size = none := by
      cases e : B s1.heap.objs.size with
      | none => rfl
      | some o => rw [le1 _ _ e] at h1; cases h1
    refine ⟨_, _, _, _, keySt F.c.lo d kvs.length ep, rfl, le1.trans z.2.1, z.1, ⟨h2, base_none R.based.2 h2, _, z.2.2, rfl, ?_⟩, q ep⟩
    rw [hlen]; rfl

noncomputable abbrev enumObj (it : Addr) (i : Int) (old : Value) : Obj := { cls := .type "enumerate", dict := none, data := .fields #[.none, .bool false, .ref it, rawInt i, .none, old], slots := #[] }
theorem enum_core {A : Around} {E : Value → Shared → Prop} {B0 B : Keep} {s : Shared} {e it : Addr} {fp : List Addr} {n i : Nat} {P : Nat → Value → Prop} {St : Nat → Heap → Prop} {old : Value} {oi : Obj} {fi} {elts : List Expr} {x1} {pos : Pos} {Y : Value → Shared → Prop} {N : Shared → Prop}
    (D : Draws F.c.prog F.c.w A.in1 it fp n P St) (R : FRel F B loc H s) (le : Le B0 B) (he0 : B0 e = none) (hi0 : B0 it = none) (hbe : F.c.lo e = none) (hbi : F.c.lo it = none) (hBe : B e = some (enumObj it i old)) (hBi : B it = some oi) (hoi : oi.data = .fields fi)
    (hst : St i s.heap) (hlt : i < n) (hne : e ≠ it) (hef : e ∉ fp) (hfi : ∀ h, St (i + 1) h → ∃ o fl, h.get? it = some o ∧ o.data = .fields fl)
    (k : ∀ x v s' B' o, P i x → St (i + 1) s'.heap → Le B0 B' → FRel F B' loc H s' → B' e = some (enumObj it ((i + 1 : Nat) : Int) x) → s'.heap.get? it = some o → B' it = some o → (∀ X, RelV B x X → RelV B' v (.tup [.int i, X])) → (∀ v X, RelV B v X → RelV B' v X) → Y v s') :
    wpAny F.M A (pyNext (.ref e)) (fun r s1 => match r with | none => N s1 | some v => wpAny F.M A (letOwnedTupleGo (.Tuple elts x1 pos) (.ref e) v) (fun _ s1' => Y v s1') E s1) E s := by
  have he : IsEnum s.heap e it i old := R.keep _ _ hBe
  refine wpAny_pyNext_enum_itemD D he hst hlt hne hef fun x h' tk hP hout hst' htup hsz hk => ?_
  refine wpAny_letOwnedTupleGo_enum (s := { s with heap := h', toks := tk + 1 }) hout fun h'' he'' hs'' => ?_
  have hst2 : St (i + 1) h'' := D.frame _ _ _ hst' fun b hb o q => (hs''.2 b (by rintro rfl; exact hef hb)).trans q
  obtain ⟨o, fl, ho, hfl⟩ := hfi _ hst2
  have hTe : s.heap.objs.size ≠ e := Nat.ne_of_gt (Heap.lt_size he)
  have hTi : s.heap.objs.size ≠ it := Nat.ne_of_gt (Heap.lt_size (R.keep _ _ hBi))
  have hk2 : ∀ b o, b ≠ e → b ≠ it → s.heap.get? b = some o → h''.get? b = some o := fun b o h1 h2 q => (hs''.2 b h1).trans (hk b o h1 h2 q)
  have ht2 : h''.get? s.heap.objs.size = some { cls := .type "tuple", data := .seq #[.int i tk, x] } := (hs''.2 _ hTe).trans htup
  -- drop both
  have R1 := R.dropIt hBe rfl hbe (s' := s) (fun b o _ q => q) rfl rfl
  have hB1 : dropB B e it = some oi := by rw [dropB_ne (Ne.symm hne)]; exact hBi
  have R2 := R1.dropIt hB1 hoi hbi (s' := s) (fun b o _ q => q) rfl rfl
  have n1 : dropB (dropB B e) it e = none := by rw [dropB_ne hne]; simp [dropB]
  have n2 : dropB (dropB B e) it it = none := by simp [dropB]
  have ke := R.kept hBe
  have ki := R.kept hBi
  have hT := R.nobody (a := s.heap.objs.size) (R.fresh (Nat.le_refl _)).1
  have nT : dropB (dropB B e) it s.heap.objs.size = none := by rw [dropB_ne hTi, dropB_ne hTe]; exact hT.1
  have R3 : FRel F (dropB (dropB B e) it) loc H { s with heap := h'', toks := tk + 1 } := R2.free (fun a => a = e ∨ a = it) (fun a h => by
    rcases h with rfl | rfl
    · exact ⟨n1, ke⟩
    · exact ⟨n2, ki⟩) (fun b o hb q => hk2 b o (fun z => hb (.inl z)) (fun z => hb (.inr z)) q) rfl rfl
  obtain ⟨R4, le4⟩ := R3.take (a := e) he'' n1 ke.1 ke.2.1 ke.2.2
  have n2' : addB (dropB (dropB B e) it) e (enumObj it (i + 1) x) it = none := by unfold addB; rw [if_neg (Ne.symm hne)]; exact n2
  obtain ⟨R5, le5⟩ := R4.take (a := it) ho n2' ki.1 ki.2.1 ki.2.2
  obtain ⟨R6, le6⟩ := R5.take (a := s.heap.objs.size) ht2 (by unfold addB; rw [if_neg hTi, if_neg hTe]; exact nT) hT.2.1 hT.2.2.1 hT.2.2.2
  have tr : ∀ v X, RelV B v X → RelV _ v X := fun v X r => (((r.drop hBe rfl).drop hB1 hoi).mono le4).mono (le5.trans le6)
  refine k x _ _ _ o hP hst2 (((le_drop (le_drop le he0) hi0).trans le4).trans (le5.trans le6)) R6 ?_ ho (le6 _ _ (by simp [addB])) (fun X r => ?_) tr
  · exact le6 _ _ (le5 _ _ (by simp [addB]))
  · exact .tup (items := #[.int i tk, x]) (n := 0) (by simp [addB]) (.cons (.int _ _) (.cons (tr _ _ r) .nil))

noncomputable def enlSt (hb : Keep) (X : V) (i : Nat) : ItS := fun B0 B e => B0 e = none ∧ hb e = none ∧ ∃ it l o old, e ≠ it ∧ B0 it = none ∧ hb it = none ∧ B e = some (enumObj it i old) ∧ RelV B (.ref l) X ∧ B it = some o ∧ o.cls = .type "list_iterator" ∧ o.data = .fields #[.ref l, .int i 0]
theorem enlSt_mono {hb : Keep} {X : V} (i : Nat) : ItMono (enlSt hb X i) := fun B0 B B' e le ⟨h0, hb, it, l, o, old, h1, h2, h3, h4, h5, h6, h7⟩ => ⟨h0, hb, it, l, o, old, h1, h2, h3, le _ _ h4, h5.mono le, le _ _ h6, h7⟩
theorem Nxt_enl (ok : Ok F (n + 1)) {elts : List Expr} {x1} {pos : Pos} {X x : V} {xs : List V} {i : Nat} (e : asL H X = some xs) (hx : xs[i]? = some x) : Nxt F (.Tuple elts x1 pos) (enlSt F.c.lo X i) H (some (.tup [.int i, x], enlSt F.c.lo X (i + 1))) := fun E B0 B s a loc N Y R le ⟨h0, hb, it, l, o, old, h1, h2, h3, h4, h5, h6, h7, h8⟩ _ hY => by
  obtain ⟨items, m, hl, hr⟩ := asL_ref R h5 e
  obtain ⟨v, e1, rv⟩ := hr.get hx
  have hi : i < items.size := by
    have := (List.getElem?_eq_some_iff.mp e1).1
    simpa using this
  have hit : s.heap.IsListIter it l i := ⟨o, R.keep _ _ h6, h7, h8⟩
  have hoit := R.keep _ _ h6
  have hoe := R.keep _ _ h4
  have hne : l ≠ it := by rintro rfl; rw [hl] at hoit; cases hoit; cases h8
  have hel : a ≠ l := by
    rintro rfl; rw [hl] at hoe
    have := congrArg Obj.data (Option.some.inj hoe); cases this
  refine enum_core (F := F) (B0 := B0) (Draws.list (prog := F.c.prog) (w := F.c.w) (A := F.A.in1) (ok.handled (by omega)) it l hne items) R le h0 h2 hb h3 h4 h6 h8 ⟨hit, hl.isList⟩ hi h1 (by simp [h1, hel]) (fun h st => let ⟨o, q1, _, q3⟩ := st.1; ⟨o, _, q1, q3⟩) ?_
  intro y v' s' B' o' hP hst le' R' he' ho' hi' hv ht
  obtain ⟨o2, q1, q2, q3⟩ := hst.1
  rw [ho'] at q1; cases q1
  have hy : y = v := by
    have : items[i]? = some v := by simpa using e1
    rw [hP] at this; exact Option.some.inj this
  subst hy
  exact hY _ _ B' v' s' rfl le' ht R' ⟨h0, hb, it, l, o', y, h1, h2, h3, he', ht _ _ h5, hi', q2, q3⟩ (hv _ rv)
theorem Nxt_enl_end (ok : Ok F (n + 1)) {target : Expr} {X : V} {xs : List V} {i : Nat} (e : asL H X = some xs) (hx : xs.length = i) : Nxt F target (enlSt F.c.lo X i) H none := fun E B0 B s a loc N Y R le ⟨h0, hb, it, l, o, old, h1, h2, h3, h4, h5, h6, h7, h8⟩ hN _ => by
  obtain ⟨items, m, hl, hr⟩ := asL_ref R h5 e
  have hlen := hr.length
  rw [Array.length_toList] at hlen
  have hit : s.heap.IsListIter it l i := ⟨o, R.keep _ _ h6, h7, h8⟩
  have hoit := R.keep _ _ h6
  have hne : l ≠ it := by rintro rfl; rw [hl] at hoit; cases hoit; cases h8
  have D := Draws.list (prog := F.c.prog) (w := F.c.w) (A := F.A.in1) (ok.handled (by omega)) it l hne items
  refine wpAny_pyNext_enum_endD D (R.keep _ _ h4) (by rw [hlen, hx]; exact ⟨hit, hl.isList⟩) fun h' hs' => ?_
  have R1 := R.dropIt h4 rfl hb (s' := s) (fun b o _ q => q) rfl rfl
  have hB1 : dropB B a it = some o := by rw [dropB_ne (Ne.symm h1)]; exact h6
  exact hN _ _ rfl (le_drop (le_drop le h0) h2) (fun _ _ r => (r.drop h4 rfl).drop hB1 h8) (R1.dropIt hB1 h8 h3 (fun b p hne q => hs' b p hne q) rfl rfl)

noncomputable def entSt (hb : Keep) (xs : List V) (i : Nat) : ItS := fun B0 B e => B0 e = none ∧ hb e = none ∧ ∃ it l o old, e ≠ it ∧ B0 it = none ∧ hb it = none ∧ B e = some (enumObj it i old) ∧ RelV B (.ref l) (.tup xs) ∧ B it = some o ∧ o.cls = .type "tuple_iterator" ∧ o.data = .fields #[.ref l, .int i 0]
theorem entSt_mono {hb : Keep} {xs : List V} (i : Nat) : ItMono (entSt hb xs i) := fun B0 B B' e le ⟨h0, hb, it, l, o, old, h1, h2, h3, h4, h5, h6, h7⟩ => ⟨h0, hb, it, l, o, old, h1, h2, h3, le _ _ h4, h5.mono le, le _ _ h6, h7⟩
theorem Nxt_ent (ok : Ok F (n + 1)) {elts : List Expr} {x1} {pos : Pos} {x : V} {xs : List V} {i : Nat} (hx : xs[i]? = some x) : Nxt F (.Tuple elts x1 pos) (entSt F.c.lo xs i) H (some (.tup [.int i, x], entSt F.c.lo xs (i + 1))) := fun E B0 B s a loc N Y R le ⟨h0, hb, it, l, o, old, h1, h2, h3, h4, h5, h6, h7, h8⟩ _ hY => by
  obtain ⟨items, m, ht, hl, hr⟩ := tup_at R h5
  obtain ⟨v, e1, rv⟩ := hr.get hx
  have hi : i < items.size := by
    have := (List.getElem?_eq_some_iff.mp e1).1
    simpa using this
  have hit : s.heap.IsTupleIter it l i := ⟨o, R.keep _ _ h6, h7, h8⟩
  have hoit := R.keep _ _ h6
  have hoe := R.keep _ _ h4
  have hne : l ≠ it := by rintro rfl; rw [ht] at hoit; cases hoit; cases h8
  have hel : a ≠ l := by
    rintro rfl; rw [ht] at hoe
    have := congrArg Obj.data (Option.some.inj hoe); cases this
  refine enum_core (F := F) (B0 := B0) (draws_tuple (prog := F.c.prog) (w := F.c.w) (A := F.A.in1) (ok.handled (by omega)) it l hne items) R le h0 h2 hb h3 h4 h6 h8 ⟨hit, hl⟩ hi h1 (by simp [h1, hel]) (fun h st => let ⟨o, q1, _, q3⟩ := st.1; ⟨o, _, q1, q3⟩) ?_
  intro y v' s' B' o' hP hst le' R' he' ho' hi' hv ht
  obtain ⟨o2, q1, q2, q3⟩ := hst.1
  rw [ho'] at q1; cases q1
  have hy : y = v := by
    have : items[i]? = some v := by simpa using e1
    rw [hP] at this; exact Option.some.inj this
  subst hy
  exact hY _ _ B' v' s' rfl le' ht R' ⟨h0, hb, it, l, o', y, h1, h2, h3, he', ht _ _ h5, hi', q2, q3⟩ (hv _ rv)
theorem Nxt_ent_end (ok : Ok F (n + 1)) {target : Expr} {xs : List V} {i : Nat} (hx : xs.length = i) : Nxt F target (entSt F.c.lo xs i) H none := fun E B0 B s a loc N Y R le ⟨h0, hb, it, l, o, old, h1, h2, h3, h4, h5, h6, h7, h8⟩ hN _ => by
  obtain ⟨items, m, ht, hl, hr⟩ := tup_at R h5
  have hlen := hr.length
  rw [Array.length_toList] at hlen
  have hit : s.heap.IsTupleIter it l i := ⟨o, R.keep _ _ h6, h7, h8⟩
  have hoit := R.keep _ _ h6
  have hne : l ≠ it := by rintro rfl; rw [ht] at hoit; cases hoit; cases h8
  have D := draws_tuple (prog := F.c.prog) (w := F.c.w) (A := F.A.in1) (ok.handled (by omega)) it l hne items
  refine wpAny_pyNext_enum_endD D (R.keep _ _ h4) (by rw [hlen, hx]; exact ⟨hit, hl⟩) fun h' hs' => ?_
  have R1 := R.dropIt h4 rfl hb (s' := s) (fun b o _ q => q) rfl rfl
  have hB1 : dropB B a it = some o := by rw [dropB_ne (Ne.symm h1)]; exact h6
  exact hN _ _ rfl (le_drop (le_drop le h0) h2) (fun _ _ r => (r.drop h4 rfl).drop hB1 h8) (R1.dropIt hB1 h8 h3 (fun b p hne q => hs' b p hne q) rfl rfl)
end
end Lay
end
noncomputable section
open PySem PySem.W PyProof.Rows PySem.Calls
set_option Elab.async false
set_option maxRecDepth 100000
set_option linter.all false
namespace Lay
section
variable {F : Fx} {n : Nat} {loc : Loc} {H : Hp}

theorem WIt_enum {x : Str} {np pos : Pos} {arg : Expr} {Q : (Nat → ItS) → Loc → Hp → Prop}
    (h : WE F (.Name x np) loc H fun f l1 H1 => f = .raw (.type "enumerate") ∧ WEs F pos [arg] l1 H1 fun Xs l2 H2 => ∃ X, Xs = [X] ∧ ((∃ xs, asL H2 X = some xs ∧ Q (enlSt F.c.lo X) l2 H2) ∨ (∃ xs, X = .tup xs ∧ Q (entSt F.c.lo xs) l2 H2)))
    (hns : (backTo pos (starEach [arg] F.env)).any (·.1) = false := by rfl) : WIt F (.Call (.Name x np) [arg] [] pos) loc H Q := fun B s R => by
  refine wpAny_Call_ofName ((h B s R).then fun f B1 X l1 H1 s1 le1 rf R1 ⟨hX, h1⟩ => ?_)
  subst hX
  cases rf
  refine callWith_gen hns (evalArgs_gen hns ((h1 B1 s1 R1).then fun vs B2 Xs l2 H2 s2 le2 rv R2 ⟨X, hXs, q⟩ => ?_))
  subst hXs
  cases rv with | cons ra r2 => ?_
  cases r2
  rename_i va
  obtain ⟨k, hk⟩ := KeepOk_raw (F := F) (loc := l2) (H := H2) (v := .type "enumerate") (by intro a h; cases h) B2 s2 (.type "enumerate") R2 (.raw _)
  refine ⟨⟨k, fun Q' q' => hk Q' q'⟩, ?_⟩
  have le := le1.trans le2
  have fin : ∀ (h' : Heap) (oi : Obj), IsEnum h' (s2.heap.objs.size + 1) s2.heap.objs.size 0 .none → h'.get? s2.heap.objs.size = some oi → (∀ b o, s2.heap.get? b = some o → h'.get? b = some o) →
      ∃ B', Le B2 B' ∧ FRel F B' l2 H2 { s2 with heap := h' } ∧ B (s2.heap.objs.size + 1) = none ∧ B s2.heap.objs.size = none ∧ B' (s2.heap.objs.size + 1) = some (enumObj s2.heap.objs.size 0 .none) ∧ B' s2.heap.objs.size = some oi := by
    intro h' oi he hi hkp
    have R3 : FRel F B2 l2 H2 { s2 with heap := h' } := R2.grow (s' := { s2 with heap := h' }) hkp rfl rfl
    have n1 := R2.nobody (a := s2.heap.objs.size) (R2.fresh (Nat.le_refl _)).1
    have n2 := R2.nobody (a := s2.heap.objs.size + 1) (R2.fresh (Nat.le_succ _)).1
    obtain ⟨R4, le4⟩ := R3.take hi n1.1 n1.2.1 n1.2.2.1 n1.2.2.2
    obtain ⟨R5, le5⟩ := R4.take (a := s2.heap.objs.size + 1) he (by unfold addB; rw [if_neg (Nat.succ_ne_self _)]; exact n2.1) n2.2.1 n2.2.2.1 n2.2.2.2
    have nB : ∀ a, B2 a = none → B a = none := fun a e => by
      cases z : B a with
      | none => rfl
      | some o => rw [le _ _ z] at e; cases e
    exact ⟨_, le4.trans le5, R5, nB _ n2.1, nB _ n1.1, by simp [addB], le5 _ _ (by simp [addB])⟩
  rcases q with ⟨xs, e, q⟩ | ⟨xs, e, q⟩
  · obtain ⟨a, items, m, rfl, hl, hr⟩ := asL_at R2 ra e
    refine call_enumerate_1 hl fun h' he hit hsz hkp => ?_
    refine wpAny_pyIter_enum (s := { s2 with heap := h' }) he ?_
    obtain ⟨oi, hi, hc, hd⟩ := id hit
    obtain ⟨B', le', R', b1, b2, b3, b4⟩ := fin h' oi he hi hkp
    exact ⟨B', _, l2, H2, enlSt F.c.lo X, rfl, le.trans le', R', ⟨b1, base_none R.based.2 b1, _, a, oi, .none, Nat.succ_ne_self _, b2, base_none R.based.2 b2, b3, ra.mono le', b4, hc, hd⟩, q⟩
  · subst e
    cases ra with | @tup a items m _ hb hr => ?_
    refine call_enum_tuple (R2.keep _ _ hb) fun h' he hit hsz hkp => ?_
    refine wpAny_pyIter_enum (s := { s2 with heap := h' }) he ?_
    obtain ⟨oi, hi, hc, hd⟩ := id hit
    obtain ⟨B', le', R', b1, b2, b3, b4⟩ := fin h' oi he hi hkp
    exact ⟨B', _, l2, H2, entSt F.c.lo xs, rfl, le.trans le', R', ⟨b1, base_none R.based.2 b1, _, a, oi, .none, Nat.succ_ne_self _, b2, base_none R.based.2 b2, b3, (RelV.tup hb hr).mono le', b4, hc, hd⟩, q⟩

theorem cell_at {B : Keep} {s : Shared} (R : FRel F B loc H s) {a : Addr} {ov : Option V} (e : H.C a = some ov) : ∃ v, s.heap.IsCell a v ∧ relOpt B v ov := by
  obtain ⟨o, v, h1, h2, h3⟩ := (R.own a).c ov e
  exact ⟨v, ⟨o, h1, h2⟩, h3⟩
theorem WE_cell (ok : Ok F n) {x : Str} {pos : Pos} {i : Nat} {a : Addr} {X : V} {Q : V → Loc → Hp → Prop} (hx : look F.nm x = some (i, .cell)) (hc : F.env.cells.lookup x = some a) (e : H.C a = some (some X)) (q : Q X loc H) : WE F (.Name x pos) loc H Q := fun B s R => by
  obtain ⟨h1, h2⟩ := look_spec hx
  obtain ⟨v, hv, r⟩ := cell_at R e
  cases v with
  | none => exact r.elim
  | some v => exact wpAny_Name (wpAny_loadName_cell ok.fn h2 hc hv (Post.pure r R q)) (not_dbg ok h2)
theorem PW_storeC (ok : Ok F n) {x : Str} {i : Nat} {a : Addr} {X : V} {ov : Option V} {v : Value} {B : Keep} {s : Shared} {P : Unit → Shared → Prop} (hx : look F.nm x = some (i, .cell)) (hc : F.env.cells.lookup x = some a) (e : H.C a = some ov) (R : FRel F B loc H s) (r : RelV B v X)
    (q : ∀ s', FRel F B loc { H with C := up H.C a (some X) } s' → P () s') : wpAny F.M F.A (storeName F.env x v) P F.E s := by
  obtain ⟨h1, h2⟩ := look_spec hx
  obtain ⟨v0, hv, _⟩ := cell_at R e
  refine wpAny_storeName_cell ok.fn h2 hc hv fun h' ⟨o, ho, hd⟩ hs => q _ (R.setC (s' := { s with heap := h' }) (ov' := some X) e (fun b o hb z => (hs.2 b hb).trans z) ho hd r rfl rfl)
theorem WA_cell (ok : Ok F n) {x : Str} {p : Pos} {i : Nat} {a : Addr} {X : V} {ov : Option V} {Q : Loc → Hp → Prop} (hx : look F.nm x = some (i, .cell)) (hc : F.env.cells.lookup x = some a) (e : H.C a = some ov) (q : Q loc { H with C := up H.C a (some X) }) : WA F (.Name x p) X loc H Q := fun B s v R r => by
  show wpAny F.M F.A (assign (.Name x p) F.env v) _ _ _
  rw [arm_assign_Name]
  exact wpAny_bind (wpAny_standAt (wpAny_bindName (PW_storeC ok hx hc e R r fun s' R' => Post.pure (b := ()) trivial R' q)))
theorem WS_AssignC (ok : Ok F n) {x : Str} {i : Nat} {a : Addr} {e : Expr} {p pos : Pos} {Q : Fl → Loc → Hp → Prop} (hx : look F.nm x = some (i, .cell)) (hc : F.env.cells.lookup x = some a) (h : WE F e loc H fun X l1 H1 => (∃ ov, H1.C a = some ov) ∧ Q .next l1 { H1 with C := up H1.C a (some X) })
    (hs : swapsWith e (some (.Name x p)) pos.line F.env = pure false := by rfl) : WS F (.Assign [.Name x p] e pos) loc H Q := fun B s R =>
  wpAny_Assign_Name ((h B s R).then fun a B1 X l1 H1 s1 le1 ra R1 ⟨⟨ov, e⟩, q⟩ => PW_storeC ok hx hc e R1 ra fun s' R' => (Post.pure .next R' q).lift le1) hs

noncomputable abbrev Fx.svd (F : Fx) (l : List (Addr × Obj)) : Fx := { F with c := F.c.sv l }
noncomputable abbrev CFx (F : Fx) (scope : Scope) (cl : List (Str × Addr)) (C : Addr) (sv : List (Addr × Obj)) (E : Value → Shared → Prop) : Fx := ⟨F.c.sv sv, F.A, compEnvC scope cl C F.env, E⟩
noncomputable def nones (scope : Scope) : Loc := scope.names.map fun _ => none
noncomputable def ItSelf (F : Fx) (St : ItS) : Prop := ∀ (E : Value → Shared → Prop) B0 B s it loc H (Q : Value → Shared → Prop), FRel F B loc H s → St B0 B it → Q (.ref it) s → wpAny F.M F.A (pyIter (.ref it)) Q E s
theorem lstSt_self {hb : Keep} {X : V} {i : Nat} : ItSelf F (lstSt hb X i) := fun E B0 B s it loc H Q R ⟨h0, hb, l, o, h1, h2, h3, h4⟩ q => wpAny_pyIter_listiter ⟨o, R.keep _ _ h2, h3, h4⟩ q
noncomputable def CompTurn (F : Fx) (target elt : Expr) (ifs : List Expr) (l : Loc) (H : Hp) (x : V) (out : Option V) : Prop :=
  WA F target x l H fun l1 H1 => H1 = H ∧ (match ifs with
    | [] => WE F elt l1 H fun Y _ H2 => H2 = H ∧ out = some Y
    | [c] => WB F c l1 H fun b l2 H2 => H2 = H ∧ (b = true → WE F elt l2 H fun Y _ H3 => H3 = H ∧ out = some Y) ∧ (b = false → out = none)
    | _ => False)
noncomputable def CompOk (F : Fx) (n : Nat) (target elt : Expr) (ifs : List Expr) (scope : Scope) (cl : List (Str × Addr)) (St : Nat → ItS) (xs : List V) (f : V → Option V) (H : Hp) : Prop :=
  (∀ i, ItMono (St i)) ∧ xs.length ≤ 100000 ∧ ∀ C sv E, Ok (CFx F scope cl C sv E) n → ItSelf (CFx F scope cl C sv E) (St 0) ∧
    (∀ i x, xs[i]? = some x → Nxt (CFx F scope cl C sv E) target (St i) H (some (x, St (i + 1))) ∧ CompTurn (CFx F scope cl C sv E) target elt ifs (nones scope) H x (f x)) ∧ Nxt (CFx F scope cl C sv E) target (St xs.length) H none

theorem nones_sub {scope : Scope} {l : Loc} : LocSub (nones scope) l := fun i X h => by
  unfold nones at h
  rw [List.getElem?_map] at h
  cases e : scope.names[i]? with
  | none => rw [e] at h; cases h
  | some p => rw [e] at h; cases h

theorem Rel.claim {c : Base} {L : Addr} {nm : List (Str × NameKind)} {B : Keep} {s : Shared} {D : Addr} {items : Array Value} {k : Nat} {sv : List (Addr × Obj)} {xs : List V} (R : Rel (c.sv ((D, lstObj items k) :: sv)) L nm B loc H s) (hs : ∀ p ∈ sv, p.1 ≠ D) (hl : c.lim < D) (r : RelVs B items.toList xs) :
    Rel (c.sv sv) L nm B loc { H with L := up H.L D xs } s := by
  obtain ⟨⟨o, h1, _, h2⟩, h3, h4, h5⟩ := R.sv _ (.head _)
  obtain rfl := h2 (by intro es ep h; cases h)
  have R1 : Rel (c.sv sv) L nm B loc H s := ⟨R.keep, R.based, fun a => (R.own a).unsv.sv, R.lB, R.lH, R.ns, R.gens, R.os, R.lim, fun p hp => R.sv p (.tail _ hp)⟩
  obtain ⟨x1, x2, x3, x4, x5, x6⟩ := not_own h4
  refine R1.chg h3 h5 hs (fun b o _ e => e) (fun b hb => ⟨up_same _ _ _ hb, rfl, rfl, rfl, rfl, rfl, rfl⟩) ⟨fun _ => ⟨h3, hl⟩, ?_, ?_, ?_, ?_, ?_, ?_, fun _ => x3, fun ep e => absurd (.inr (.inl ((R.own D).g ep e).1)) h4⟩ rfl rfl
  · intro y hy
    simp only [up_self, Option.some.injEq] at hy
    subst hy; exact ⟨items, k, h1, r⟩
  · intro y hy; rw [x2] at hy; cases hy
  · intro y hy; rw [x3] at hy; cases hy
  · intro y hy; rw [x4] at hy; cases hy
  · intro y hy; rw [x5] at hy; cases hy
  · intro y hy; rw [x6] at hy; cases hy
theorem Rel.aside {c : Base} {L : Addr} {nm : List (Str × NameKind)} {B : Keep} {s : Shared} {D : Addr} {sv : List (Addr × Obj)} {xs : List V} (R : Rel (c.sv sv) L nm B loc H s) (e : H.L D = some xs) :
    ∃ items k, Rel (c.sv ((D, lstObj items k) :: sv)) L nm B loc { H with L := un H.L D } s ∧ RelVs B items.toList xs := by
  obtain ⟨items, k, hl, hr⟩ := (R.own D).l xs e
  have hw : H.Own D := .inl (by rw [e]; simp)
  obtain ⟨_, z2, z3, z4, z5⟩ := (R.own D).none_of hl
  have y1 := (z2 (by intro h; injection h with h; exact absurd h (by decide))).1
  have y2 := (z2 (by intro h; injection h with h; exact absurd h (by decide))).2
  have y3 := z3 (by intro h; injection h with h; exact absurd h (by decide))
  have y4 := z4 (by intro C h; cases h)
  have y5 := z5 (by intro v h; cases h)
  have R1 := R.weak (unL_sub (a := D)) (LocSub.refl _)
  refine ⟨items, k, ⟨R1.keep, R1.based, fun a => (R1.own a).unsv.sv, R1.lB, R1.lH, R1.ns, R1.gens, R1.os, R1.lim, fun p hp => ?_⟩, hr⟩
  cases hp with
  | head _ => exact ⟨⟨_, hl, rfl, fun _ => rfl⟩, ((R.own D).out hw).1, by unfold Hp.Own; simp [y1, y2, y3, y4, y5], R.own_ne_L hw⟩
  | tail _ hp => exact R1.sv p hp
end
end Lay
end
noncomputable section
open PySem PySem.W PyProof.Rows PySem.Calls
set_option Elab.async false
set_option maxRecDepth 100000
set_option linter.all false
namespace Lay
theorem Rel.svmem {c : Base} {L : Addr} {nm : List (Str × NameKind)} {B : Keep} {loc : Loc} {H : Hp} {s : Shared} {l1 l2 : List (Addr × Obj)} (R : Rel (c.sv l1) L nm B loc H s) (h : ∀ p ∈ l2, p ∈ l1) : Rel (c.sv l2) L nm B loc H s :=
  ⟨R.keep, R.based, fun a => (R.own a).unsv.sv, R.lB, R.lH, R.ns, R.gens, R.os, R.lim, fun p hp => R.sv p (h p hp)⟩
theorem Rel.swap {c : Base} {L C : Addr} {nm nmC : List (Str × NameKind)} {B : Keep} {loc loc' : Loc} {H : Hp} {s : Shared} {oL : Obj} {sv : List (Addr × Obj)} (R : Rel (c.sv ((L, oL) :: sv)) C nmC B loc' H s) (hs : ∀ p ∈ sv, p.1 ≠ L)
    (hL : ∃ m, (∃ es ep, oL.data = .dict es ep ∧ StrKeys es ∧ ∀ name, nsFind es name = m name) ∧ LocOk B nm loc m) : ∃ oC, Rel (c.sv ((C, oC) :: sv)) L nm B loc H s ∧ ∃ m, s.heap.Ns C m := by
  obtain ⟨mC, ⟨oC, esC, epC, g1, g2, g3⟩, _⟩ := R.ns
  obtain ⟨⟨o, h1, h2, _⟩, h3, h4, h5⟩ := R.sv _ (.head _)
  obtain ⟨m, ⟨es, ep, k1, k2⟩, hl⟩ := hL
  refine ⟨oC, ⟨R.keep, R.based, fun a => (R.own a).unsv.sv, h3, h4, ⟨m, ⟨o, es, ep, h1, h2.trans k1, k2⟩, hl⟩, R.gens, R.os, R.lim, fun p hp => ?_⟩, mC, oC, esC, epC, g1, g2, g3⟩
  cases hp with
  | head _ => exact ⟨⟨oC, g1, rfl, fun _ => rfl⟩, R.lB, R.lH, Ne.symm h5⟩
  | tail _ hp =>
    obtain ⟨x1, x2, x3, x4⟩ := R.sv p (.tail _ hp)
    exact ⟨x1, x2, x3, hs p hp⟩

section
variable {F : Fx} {n : Nat} {loc : Loc} {H : Hp}

noncomputable def CompTurnG (F : Fx) (target elt : Expr) (ifs : List Expr) (l : Loc) (HH : Option V → Hp) (ov : Option V) (x : V) (out : Option V) : Prop :=
  WA F target x l (HH ov) fun l1 H1 => ∃ ov1, H1 = HH ov1 ∧ (match ifs with
    | [] => WE F elt l1 H1 fun Y _ H2 => H2 = HH ov1 ∧ out = some Y
    | [c] => WB F c l1 H1 fun b l2 H2 => H2 = HH ov1 ∧ (b = true → WE F elt l2 H2 fun Y _ H3 => H3 = HH ov1 ∧ out = some Y) ∧ (b = false → out = none)
    | _ => False)
theorem CompTurn.g {target elt : Expr} {ifs : List Expr} {l : Loc} {ov : Option V} {x : V} {out : Option V} (h : CompTurn F target elt ifs l H x out) : CompTurnG F target elt ifs l (fun _ => H) ov x out :=
  fun B s v R rv => (h B s v R rv).mono fun _ l1 H1 ⟨e, h⟩ => ⟨none, e, by
    subst e
    cases ifs with
    | nil => exact h
    | cons c r =>
      cases r with
      | nil => exact WB.mono h fun b l2 H2 ⟨e, h1, h2⟩ => ⟨e, fun hb => by rw [e]; exact h1 hb, h2⟩
      | cons d r => exact h⟩
noncomputable def CR (F : Fx) (scope : Scope) (C D : Addr) (oL : Obj) (HH : Option V → Hp) (items : Array Value) (kk : Nat) (ov : Option V) (l : Loc) (B : Keep) (s : Shared) : Prop :=
  Rel (F.c.sv ((D, lstObj items kk) :: (F.L, oL) :: F.c.saved)) C (relabel scope F.env).names B l (HH ov) s
inductive CI (xs : List V) (f : V → Option V) (B0 B : Keep) (St : Nat → ItS) (a : Addr) (R : Array Value → Nat → Option V → Loc → Keep → Shared → Prop) (k : Nat) (s : Shared) : Prop
  | mk (i : Nat) (items : Array Value) (kk : Nat) (ov : Option V) (l : Loc) (B' : Keep) (_ : i + k = xs.length) (_ : Le B0 B') (_ : Tr B B') (_ : R items kk ov l B' s) (_ : RelVs B' items.toList ((xs.take i).filterMap f)) (_ : St i B0 B' a) : CI xs f B0 B St a R k s
theorem Tr.relVs {B1 B2 : Keep} {vs : List Value} {ys : List V} (h : Tr B1 B2) : RelVs B1 vs ys → RelVs B2 vs ys := by
  induction ys generalizing vs with
  | nil => intro r; cases r; exact .nil
  | cons y ys ih => intro r; cases r with | cons a r => exact .cons (h _ _ a) (ih r)
theorem take_fm {xs : List V} {f : V → Option V} {i : Nat} {x : V} (hx : xs[i]? = some x) : (xs.take (i + 1)).filterMap f = (xs.take i).filterMap f ++ (f x).toList := by
  rw [List.take_add_one, hx, List.filterMap_append]
  cases hfx : f x <;> simp [hfx]
theorem take_fml {xs : List V} {f : V → Option V} {i : Nat} (h : xs.length ≤ 100000) : ((xs.take i).filterMap f).length ≤ 1000000 := by
  have h1 := List.length_filterMap_le f (xs.take i)
  have h3 : (xs.take i).length ≤ xs.length := by rw [List.length_take]; omega
  omega
theorem comp_emit {scope : Scope} {C D : Addr} {oL : Obj} {HH : Option V → Hp} (hHD : ∀ ov, (HH ov).L D = none) (hs : ∀ p ∈ (F.L, oL) :: F.c.saved, p.1 ≠ D) (hl : F.c.lim < D) {E : Value → Shared → Prop} {s' : Shared} {B' : Keep} {l' : Loc} {items : Array Value} {kk : Nat} {ov : Option V} {acc : List V} {y : Value} {Y : V} {P : Value → Shared → Prop}
    (R : CR F scope C D oL HH items kk ov l' B' s') (r : RelVs B' items.toList acc) (hz : acc.length ≤ 1000000) (ry : RelV B' y Y)
    (k : ∀ v s'' B'' l'' items' kk', Le B' B'' → CR F scope C D oL HH items' kk' ov l'' B'' s'' → RelVs B'' items'.toList (acc ++ [Y]) → P v s'') :
    wpAny F.M F.A (call (.builtin "list.append") [.ref D, y]) P E s' := by
  have R4 := Rel.claim R hs hl r
  have hHD := hHD ov
  unfold CR at k
  generalize HH ov = H at R4 k hHD
  have hc := Call_append (F := CFx F scope [] C ((F.L, oL) :: F.c.saved) E) (loc := l') (H := { H with L := up H.L D acc }) (a := D) (xs := acc) (Y := Y) (Q := fun X l2 H2 => H2 = { H with L := up (up H.L D acc) D (acc ++ [Y]) }) (by simp) hz rfl
  refine (hc B' s' _ [.ref D, y] R4 (.raw _) (.cons (.ref D) (.cons ry .nil))).then fun v B2 X l2 H2 s2 le2 _ R5 q => ?_
  subst q
  obtain ⟨i2, k2, R6, r6⟩ := R5.aside (D := D) (xs := acc ++ [Y]) (by simp)
  have e1 : un (up (up H.L D acc) D (acc ++ [Y])) D = H.L := by
    funext b
    by_cases z : b = D
    · subst z; simp [hHD]
    · simp [un, up, z]
  have R6 : Rel (F.c.sv ((D, lstObj i2 k2) :: (F.L, oL) :: F.c.saved)) C (relabel scope F.env).names B2 l2 ⟨un (up (up H.L D acc) D (acc ++ [Y])) D, H.D, H.P, H.S, H.I, H.C, H.G⟩ s2 := R6
  rw [e1] at R6
  exact k v s2 B2 l2 i2 k2 le2 R6 r6
theorem comp_turns {elt target iter : Expr} {ifs : List Expr} {scope : Scope} {pos : Pos} {cl : List (Str × Addr)} {St : Nat → ItS} {xs : List V} {f : V → Option V} (hifs : ifs = [] ∨ ∃ c, ifs = [c]) (Kmono : ∀ i, ItMono (St i)) (Klen : xs.length ≤ 100000)
    {C D : Addr} {oL : Obj} {HH : Option V → Hp} (hHD : ∀ ov, (HH ov).L D = none) (hs : ∀ p ∈ (F.L, oL) :: F.c.saved, p.1 ≠ D) (hl : F.c.lim < D)
    (Kt : ∀ o E, (∀ i x ov, xs[i]? = some x → Nxt (CFx F scope cl C ((D, o) :: (F.L, oL) :: F.c.saved) E) target (St i) (HH ov) (some (x, St (i + 1))) ∧ CompTurnG (CFx F scope cl C ((D, o) :: (F.L, oL) :: F.c.saved) E) target elt ifs (nones scope) HH ov x (f x)) ∧ ∀ ov, Nxt (CFx F scope cl C ((D, o) :: (F.L, oL) :: F.c.saved) E) target (St xs.length) (HH ov) none)
    {B0 B : Keep} (le : Le B0 B) {a : Addr} (st : St 0 B0 B a) {RR : Result → Shared → Prop}
    (fin : ∀ (s' : Shared) (B' : Keep) (l' : Loc) (items : Array Value) (kk : Nat) (ov : Option V), Le B0 B' → CR F scope C D oL HH items kk ov l' B' s' → RelVs B' items.toList (xs.filterMap f) → Tr B B' → RR (.ok .next) s')
    {i0 : Array Value} {k0 : Nat} {ov0 : Option V} {s3 : Shared} (R3 : CR F scope C D oL HH i0 k0 ov0 (nones scope) B s3) (r0 : RelVs B i0.toList []) :
    codeAny F.M F.A (.compLoop (.ListComp elt [⟨target, iter, ifs, 0⟩] scope pos) 0 (.ref a) (.ref D) (compEnvC scope cl C F.env)) RR s3 := by
  have I0 : CI xs f B0 B St a (CR F scope C D oL HH) xs.length s3 := ⟨0, i0, k0, ov0, _, B, by omega, le, fun _ _ r => r, R3, by simpa using r0, st⟩
  have weakC : ∀ {s' : Shared} {B' : Keep} {l' : Loc} {c : Base} {K : Hp}, Rel c C (relabel scope F.env).names B' l' K s' → Rel c C (relabel scope F.env).names B' (nones scope) K s' := fun R' => R'.weak (Hp.Sub.refl _) nones_sub
  have step : ∀ {E : Value → Shared → Prop} {k i : Nat} {x Y : V} {y : Value} {items : Array Value} {kk : Nat} {ov : Option V} {s3 : Shared} {B' B3 : Keep} {l3 : Loc}, i + (k + 1) = xs.length → xs[i]? = some x → f x = some Y → Le B0 B' → Tr B B' → RelVs B' items.toList ((xs.take i).filterMap f) → St (i + 1) B0 B' a → Le B' B3 →
      CR F scope C D oL HH items kk ov l3 B3 s3 → RelV B3 y Y → wpAny F.M F.A (call (.builtin "list.append") [.ref D, y]) (fun _ s5 => ∃ m, m < k + 1 ∧ CI xs f B0 B St a (CR F scope C D oL HH) m s5) E s3 := by
    intro E k i x Y y items kk ov s3 B' B3 l3 hik hx hf le' tr r' st' le3 R3 ry
    refine comp_emit hHD hs hl R3 (r'.mono le3) (take_fml Klen) ry fun v s'' B'' l'' items' kk' le'' R'' r'' => ⟨k, Nat.lt_succ_self _, i + 1, items', kk', ov, l'', B'', by omega, (le'.trans le3).trans le'', (tr.trans (Tr.of le3)).trans (Tr.of le''), R'', ?_, Kmono _ _ _ _ _ (le3.trans le'') st'⟩
    rw [take_fm hx, hf]; exact r''
  have hend : ∀ {E : Value → Shared → Prop} {items : Array Value} {kk : Nat} {ov : Option V} {s' : Shared} {B' : Keep} {l' : Loc} {P : Value → Shared → Prop}, Le B0 B' → Tr B B' → CR F scope C D oL HH items kk ov l' B' s' → RelVs B' items.toList (xs.filterMap f) → St xs.length B0 B' a →
      wpAny F.M F.A (pyNext (.ref a)) (fun r s1 => match r with | none => RR (.ok .next) s1 | some v => wpAny F.M F.A (letOwnedTupleGo target (.ref a) v) (fun _ s1' => P v s1') E s1) E s' := by
    intro E items kk ov s' B' l' P le' tr R' r' st'
    refine (Kt (lstObj items kk) E).2 ov _ B0 B' s' a l' _ _ R' le' st' ?_ ?_
    · intro B2 s2 _ le2 tr2 R2
      exact fin s2 B2 l' items kk ov le2 R2 (tr2.relVs r') (tr.trans tr2)
    · intro X St' B2 v s2 e; cases e
  have end0 : ∀ {i : Nat} {items : Array Value} {B' : Keep}, i + 0 = xs.length → RelVs B' items.toList ((xs.take i).filterMap f) → St i B0 B' a → RelVs B' items.toList (xs.filterMap f) ∧ St xs.length B0 B' a := by
    intro i items B' e r st
    obtain rfl : i = xs.length := e
    rw [List.take_length] at r
    exact ⟨r, st⟩
  rcases hifs with rfl | ⟨c, rfl⟩
  · refine kcp_loop (CI xs f B0 B St a (CR F scope C D oL HH)) ?_ xs.length I0
    rintro k s' ⟨i, items, kk, ov, l', B', hik, le', tr, R', r', st'⟩
    cases k with
    | zero => exact hend le' tr R' (end0 hik r' st').1 (end0 hik r' st').2
    | succ k =>
      have hi : i < xs.length := by omega
      have hx : xs[i]? = some xs[i] := List.getElem?_eq_getElem hi
      generalize xs[i] = x at hx
      obtain ⟨hn, ht⟩ := (Kt (lstObj items kk) (notedBy F.M F.A (compEnvC scope cl C F.env) fun e s' => RR (.error e) s')).1 i _ ov hx
      refine hn _ B0 B' s' a l' _ _ R' le' st' ?_ ?_
      · intro B2 s2 e; cases e
      · intro X St' B2 v s2 e le2 tr2 R2 st2 rv
        cases e
        refine (ht B2 s2 v (weakC R2) rv).then fun _ B3 _ l3 H3 s3 le3 _ R3' h3 => ?_
        obtain ⟨ov1, rfl, h3⟩ := h3
        refine (h3 B3 s3 R3').then fun y B4 Y l4 H4 s4 le4 ry R4 h4 => ?_
        obtain ⟨rfl, h4⟩ := h4
        exact step hik hx h4 le2 (tr.trans tr2) (tr2.relVs r') st2 (le3.trans le4) R4 ry
  · refine kct_loop (CI xs f B0 B St a (CR F scope C D oL HH)) ?_ xs.length I0
    rintro k s' ⟨i, items, kk, ov, l', B', hik, le', tr, R', r', st'⟩
    cases k with
    | zero => exact hend le' tr R' (end0 hik r' st').1 (end0 hik r' st').2
    | succ k =>
      have hi : i < xs.length := by omega
      have hx : xs[i]? = some xs[i] := List.getElem?_eq_getElem hi
      generalize xs[i] = x at hx
      obtain ⟨hn, ht⟩ := (Kt (lstObj items kk) (notedBy F.M F.A (compEnvC scope cl C F.env) fun e s' => RR (.error e) s')).1 i _ ov hx
      refine hn _ B0 B' s' a l' _ _ R' le' st' ?_ ?_
      · intro B2 s2 e; cases e
      · intro X St' B2 v s2 e le2 tr2 R2 st2 rv
        cases e
        refine (ht B2 s2 v (weakC R2) rv).then fun _ B3 _ l3 H3 s3 le3 _ R3' h3 => ?_
        obtain ⟨ov1, rfl, h3⟩ := h3
        refine (h3 B3 s3 R3').then fun bv B5 b l5 H5 s5 le5 eb R5 h5 => ?_
        subst eb
        obtain ⟨rfl, ht, hf⟩ := h5
        cases bv with
        | false =>
          simp only [Bool.false_eq_true, if_false]
          refine ⟨k, Nat.lt_succ_self _, i + 1, items, kk, ov1, _, B5, by omega, le2.trans (le3.trans le5), (tr.trans tr2).trans (Tr.of (le3.trans le5)), R5, ?_, Kmono _ _ _ _ _ (le3.trans le5) st2⟩
          rw [take_fm hx, hf rfl]; simpa using (tr2.relVs r').mono (le3.trans le5)
        | true =>
          simp only [if_true]
          refine (ht rfl B5 s5 R5).then fun y B4 Y l4 H4 s4 le4 ry R4 h4 => ?_
          obtain ⟨rfl, h4⟩ := h4
          exact step hik hx h4 le2 (tr.trans tr2) (tr2.relVs r') st2 (le3.trans (le5.trans le4)) R4 ry
theorem comp_new {B0 B : Keep} {s : Shared} {l : Loc} (R : FRel F B l H s) {P : Value → Shared → Prop}
    (h : ∀ D s1 i0 k0, Rel (F.c.sv ((D, lstObj i0 k0) :: F.c.saved)) F.L F.nm B l H s1 → RelVs B i0.toList [] → F.c.lim < D → (∀ p ∈ F.c.saved, p.1 ≠ D) → F.L ≠ D → H.L D = none → P (.ref D) s1) : wpAny F.M F.A (newList []) P F.E s := by
  refine PW_newList R .nil (by simp) fun D s1 hD R1 => ?_
  obtain ⟨i0, k0, R2, r0⟩ := (show Rel (F.c.sv F.c.saved) F.L F.nm B l { H with L := up H.L D [] } s1 from R1).aside (D := D) (xs := []) (by simp)
  have hHD : H.L D = none := (not_own hD).1
  refine h D s1 i0 k0 ?_ r0 ((R1.own D).out (.inl (by simp))).2 (fun p hp e => (R1.sv p hp).2.2.1 (by rw [e]; exact .inl (by simp))) (fun e => R1.lH (by rw [e]; exact .inl (by simp))) hHD
  have R2 : Rel (F.c.sv ((D, lstObj i0 k0) :: F.c.saved)) F.L F.nm B l ⟨un (up H.L D []) D, H.D, H.P, H.S, H.I, H.C, H.G⟩ s1 := R2
  rw [un_up hHD] at R2
  exact R2
theorem comp_fin {scope : Scope} {C D : Addr} {oL : Obj} {HH : Option V → Hp} (hHD : ∀ ov, (HH ov).L D = none) (hS : ∀ ov, H.Sub (HH ov)) (hs : ∀ p ∈ (F.L, oL) :: F.c.saved, p.1 ≠ D) (hl : F.c.lim < D) {s' : Shared} {B' : Keep} {l l' : Loc} {items : Array Value} {kk : Nat} {ov : Option V} {ys : List V}
    (R : CR F scope C D oL HH items kk ov l' B' s') (r : RelVs B' items.toList ys) (hsv : ∀ p ∈ F.c.saved, p.1 ≠ F.L) (hL : ∀ B2, Le B' B2 → ∃ m, (∃ es ep, oL.data = .dict es ep ∧ StrKeys es ∧ ∀ name, nsFind es name = m name) ∧ LocOk B2 F.nm l m)
    {Q : Prop} (h : ∀ B2 oC, Le B' B2 → FRel (F.svd ((C, oC) :: F.c.saved)) B2 l H s' → (∃ m, s'.heap.Ns C m) → (∀ p ∈ F.c.saved, p.1 ≠ C) → RelV B2 (.ref D) (.list ys) → Q) : Q := by
  have R4 := Rel.claim R hs hl r
  have hHD := hHD ov
  have hS := hS ov
  generalize HH ov = H1 at R4 hHD hS
  obtain ⟨B2, le2, R5, r5⟩ := R4.freezeL (a := D) (xs := ys) (by simp)
  have R5 : Rel (F.c.sv ((F.L, oL) :: F.c.saved)) C (relabel scope F.env).names B2 l' ⟨un (up H1.L D ys) D, H1.D, H1.P, H1.S, H1.I, H1.C, H1.G⟩ s' := R5
  rw [un_up hHD] at R5
  have R5 := R5.weak hS (LocSub.refl _)
  obtain ⟨oC, R6, hC6⟩ := R5.swap (nm := F.nm) (loc := l) hsv (hL B2 le2)
  exact h B2 oC le2 R6 hC6 (fun p hp => (R5.sv p (.tail _ hp)).2.2.2) r5
theorem comp_ok (ok : Ok F n) {scope : Scope} {cl : List (Str × Addr)} {C D : Addr} {oL : Obj} {esL epL} (hdL : oL.data = .dict esL epL) (hkind : scope.kind = .function) (hdbg : (relabel scope F.env).names.lookup ("__debug__" : Str) = none) (o : Obj) (E : Value → Shared → Prop) : Ok (CFx F scope cl C ((D, o) :: (F.L, oL) :: F.c.saved) E) n := ⟨hkind, ok.glob, ok.bi, hdbg, ok.units, ok.depth, ok.handled, by
  obtain ⟨fl, h1, h2⟩ := ok.fr
  refine ⟨fl, h1, fun e he => ?_⟩
  obtain ⟨g1, g2⟩ := h2 e he
  refine ⟨g1, .inr ?_⟩
  rcases g2 with g2 | ⟨p, hp, g2⟩
  · exact ⟨(F.L, oL), .tail _ (.head _), g2, esL, epL, hdL⟩
  · exact ⟨p, .tail _ (.tail _ hp), g2⟩⟩
theorem comp_core (ok : Ok F n) {elt target iter : Expr} {ifs : List Expr} {scope : Scope} {pos : Pos} {cl : List (Str × Addr)} {St : Nat → ItS} {xs : List V} {f : V → Option V} (hifs : ifs = [] ∨ ∃ c, ifs = [c])
    (hcell : ∀ y ∈ scope.names, y.2 ≠ .cell) (hkind : scope.kind = .function) (hdbg : (relabel scope F.env).names.lookup ("__debug__" : Str) = none) (K : CompOk F n target elt ifs scope cl St xs f H)
    {B0 B : Keep} {s : Shared} {a : Addr} {l : Loc} (R : FRel F B l H s) (le : Le B0 B) (st : St 0 B0 B a) {RR : Value → Addr → Result → Shared → Prop}
    (hRR : ∀ D C oC s' B', Le B0 B' → FRel (F.svd ((C, oC) :: F.c.saved)) B' l H s' → (∃ m', s'.heap.Ns C m') → (∀ p ∈ F.c.saved, p.1 ≠ C) → RelV B' (.ref D) (.list (xs.filterMap f)) → RR (.ref D) C (.ok .next) s') :
    wpAny F.M F.A (newList []) (fun acc s3 => wpAny F.M F.A (newFunctionEnv scope F.env.globals cl [] F.env.qual none .none (some F.env)) (fun cenv s4 =>
      codeAny F.M F.A (.compStart (.ListComp elt [⟨target, iter, ifs, 0⟩] scope pos) 0 (.ref a) acc { cenv with scope := relabel scope F.env }) (RR acc cenv.locals) s4) F.E s3) F.E s := by
  obtain ⟨Kmono, Klen, Kt⟩ := K
  refine comp_new (B0 := B0) R fun D s1 i0 k0 R2 r0 hlimD hsD hDL hHD => ?_
  obtain ⟨mL1, ⟨oL1, esL1, epL1, hL1, hdL1, hkL1⟩, hlL1⟩ := R2.ns
  refine wpAny_newFunctionEnv hcell (by intro y hy; simp at hy) (fun h' hns hsb => ?_) hkind
  have hk : ∀ b o, s1.heap.get? b = some o → h'.get? b = some o := fun b o e => hsb.extBut b o (Nat.ne_of_lt (Heap.lt_size e)) (Heap.get?_push_of_some _ e)
  generalize hC : s1.heap.objs.size = C at hns hsb
  have R3 : CR F scope C D oL1 (fun _ => H) i0 k0 none (nones scope) B { s1 with heap := h', toks := s1.toks + ([] : List (Str × Value)).length } := by
    refine (R2.into (s' := { s1 with heap := h', toks := s1.toks + ([] : List (Str × Value)).length }) hL1 hk (Nat.le_of_eq hC) hns (nm' := (relabel scope F.env).names) (loc' := nones scope) ?_ rfl rfl).svmem ?_
    · intro x i X _ hl
      have := nones_sub (l := []) i X hl
      simp at this
    · intro p hp
      simp only [List.mem_cons] at hp ⊢
      rcases hp with h | h | h
      · exact .inr (.inl h)
      · exact .inl h
      · exact .inr (.inr h)
  have hsD2 : ∀ p ∈ (F.L, oL1) :: F.c.saved, p.1 ≠ D := fun p hp => by
    cases hp with
    | head _ => exact hDL
    | tail _ hp => exact hsD p hp
  have loop := comp_turns (elt := elt) (target := target) (iter := iter) (pos := pos) (RR := RR (.ref D) C) hifs Kmono Klen (fun _ => hHD) hsD2 hlimD (fun o E => ⟨fun i x ov hx => ⟨((Kt C _ _ (comp_ok ok hdL1 hkind hdbg o E)).2.1 i x hx).1, ((Kt C _ _ (comp_ok ok hdL1 hkind hdbg o E)).2.1 i x hx).2.g⟩, fun ov => (Kt C _ _ (comp_ok ok hdL1 hkind hdbg o E)).2.2⟩) le st
    (fun s' B' l' items kk ov le' R' r' tr => comp_fin (l := l) (H := H) (fun _ => hHD) (fun _ => Hp.Sub.refl _) hsD2 hlimD R' r' (fun p hp => (R.sv p hp).2.2.2) (fun B2 le2 => ⟨mL1, ⟨esL1, epL1, hdL1, hkL1⟩, (hlL1.tr tr).mono le2⟩) fun B2 oC le2 R6 hC6 hne r5 => hRR D C oC s' B2 (le'.trans le2) R6 hC6 hne r5) R3 r0
  refine codeAny_compStart_list loop ?_
  exact (Kt C _ _ (comp_ok ok hdL1 hkind hdbg (lstObj i0 k0) F.E)).1 _ B0 B _ a (nones scope) H _ R3 st loop

theorem Rel.unsave {c : Base} {L C : Addr} {nm : List (Str × NameKind)} {B : Keep} {loc : Loc} {H : Hp} {s s' : Shared} {oC : Obj} {sv : List (Addr × Obj)} (R : Rel (c.sv ((C, oC) :: sv)) L nm B loc H s) (hs : ∀ p ∈ sv, p.1 ≠ C) (hk : ∀ b o, b ≠ C → s.heap.get? b = some o → s'.heap.get? b = some o) (hg : s'.gens = s.gens) (ho : s'.os = s.os) :
    Rel (c.sv sv) L nm B loc H s' := by
  obtain ⟨_, h1, h2, h3⟩ := R.sv _ (.head _)
  exact (R.svmem (fun p hp => .tail _ hp)).free (fun a => a = C) (fun a e => by subst e; exact ⟨h1, h2, h3, hs⟩) (fun b o hb q => hk b o hb q) hg ho
theorem WE_ListComp (ok : Ok F n) {elt target iter : Expr} {ifs : List Expr} {scope : Scope} {pos : Pos} {Q : V → Loc → Hp → Prop} (cl : List (Str × Addr)) (hifs : ifs = [] ∨ ∃ c, ifs = [c])
    (hclos : closureFor scope F.env = pure cl) (hcell : ∀ y ∈ scope.names, y.2 ≠ .cell) (hkind : scope.kind = .function) (hdbg : (relabel scope F.env).names.lookup ("__debug__" : Str) = none) (hnames : ∀ y ∈ scope.names, y.2 = .local → scope.names.lookup y.1 = some .local)
    (h : WIt F iter loc H fun St l H1 => ∃ xs f, CompOk F n target elt ifs scope cl St xs f H1 ∧ Q (.list (xs.filterMap f)) l H1)
    (hs : ∀ x, foldedSetIterable iter F.env x = pure x := by intro _; rfl) : WE F (.ListComp elt [⟨target, iter, ifs, 0⟩] scope pos) loc H Q := fun B s R => by
  show wpAny F.M F.A (eval (.ListComp elt [⟨target, iter, ifs, 0⟩] scope pos) F.env) _ _ _
  rw [eval_ListComp]
  refine wpAny_comprehension_free (use := none) rfl hs hclos hkind hnames (wpAny_mono (h B s R) (fun xv s₁ h₁ => wpAny_mono h₁ (fun it s₂ h₂ => ?_) fun _ _ e => e) fun _ _ e => e)
  obtain ⟨B', a, l, H', St, rfl, le, R', st, xs, f, K, q⟩ := h₂
  refine comp_core ok hifs hcell hkind hdbg K R' le st (RR := fun acc C => compPost F.M F.A F.E none (Post F RelV B Q) acc C) fun D C oC s' B2 le2 R2 ⟨m, hn⟩ hC r => ?_
  exact ⟨m, hn, fun h' hs' => ⟨B2, _, l, H', le2, r, (R2.unsave (s' := { s' with heap := h' }) hC (fun b o hb e => hs'.extBut b o hb e) rfl rfl : Rel (F.c.sv F.c.saved) F.L F.nm B2 l H' _), q⟩⟩
end
end Lay
end
noncomputable section
open PySem PySem.W PyProof.Rows PySem.Calls
set_option Elab.async false
set_option maxRecDepth 100000
set_option linter.all false
namespace Lay
section
variable {F : Fx} {n : Nat} {loc : Loc} {H : Hp}

noncomputable def WOpt (F : Fx) (e : Option Expr) (loc : Loc) (H : Hp) (Q : Option Int → Loc → Hp → Prop) : Prop := ∀ B s, FRel F B loc H s → PW F (evalPart e F.env) (fun _ => IsPart) B s Q
theorem WOpt_none {Q : Option Int → Loc → Hp → Prop} (q : Q none loc H) : WOpt F none loc H Q := fun B s R => wpAny_pure (Post.pure .none R q)
theorem WOpt_some {e : Expr} {Q : Option Int → Loc → Hp → Prop} (h : WE F e loc H fun X l H => ∃ i, X = .int i ∧ Q (some i) l H) : WOpt F (some e) loc H Q := fun B s R => by
  refine wpAny_mono (h B s R) (fun v s' p => ?_) fun _ _ e => e
  obtain ⟨B', X, l, H', le, r, R', i, rfl, q⟩ := p
  cases r
  exact ⟨B', _, l, H', le, .int _ _, R', q⟩

noncomputable def cut (xs : List V) (lo hi : Option Int) : List V := (xs.drop (lo.getD 0).toNat).take ((hi.map Int.toNat).getD xs.length - (lo.getD 0).toNat)
theorem sl_clamp {i : Int} {n : Nat} (h : 0 ≤ i) : max 0 (min (if i < 0 then i + (n : Int) else i) n) = ((min i.toNat n : Nat) : Int) := by
  rw [if_neg (Int.not_lt.mpr h)]
  obtain ⟨k, rfl⟩ := Int.eq_ofNat_of_zero_le h
  rw [Int.toNat_natCast]
  by_cases hk : k ≤ n
  · rw [Int.min_eq_left (Int.ofNat_le.mpr hk), Nat.min_eq_left hk]; exact Int.max_eq_right (Int.natCast_nonneg _)
  · have hk := Nat.le_of_lt (Nat.lt_of_not_le hk)
    rw [Int.min_eq_right (Int.ofNat_le.mpr hk), Nat.min_eq_right hk]; exact Int.max_eq_right (Int.natCast_nonneg _)
theorem cut_rel {B : Keep} {vs : List Value} {xs : List V} (r : RelVs B vs xs) {lo hi : Option Int} (h1 : ∀ i, lo = some i → 0 ≤ i) (h2 : ∀ i, hi = some i → 0 ≤ i) : RelVs B (slicePick vs.toArray lo hi none).toList (cut xs lo hi) := by
  have hlen := r.length
  have e : sliceBounds lo hi none vs.toArray.size = (((min (lo.getD 0).toNat vs.length : Nat) : Int), ((min ((hi.map Int.toNat).getD vs.length) vs.length : Nat) : Int), 1) := by
    simp only [sliceBounds, List.size_toArray, Option.getD_none]
    have lo1 : ∀ (i : Int), lo = some i → max 0 (min (if i < 0 then i + (vs.length : Int) else i) vs.length) = ((min i.toNat vs.length : Nat) : Int) := fun i e => sl_clamp (h1 i e)
    have hi1 : ∀ (i : Int), hi = some i → max 0 (min (if i < 0 then i + (vs.length : Int) else i) vs.length) = ((min i.toNat vs.length : Nat) : Int) := fun i e => sl_clamp (h2 i e)
    refine Prod.ext ?_ (Prod.ext ?_ rfl)
    · cases lo with
      | none => simp
      | some i => dsimp only; rw [if_pos (by decide)]; exact lo1 i rfl
    · cases hi with
      | none => simp
      | some i => dsimp only; rw [if_pos (by decide)]; exact hi1 i rfl
  rw [kmk_pick_nat _ e]
  have e2 : ((vs.toArray.toList.drop (min (lo.getD 0).toNat vs.length)).take (min ((hi.map Int.toNat).getD vs.length) vs.length - min (lo.getD 0).toNat vs.length)) = (vs.drop (lo.getD 0).toNat).take ((hi.map Int.toNat).getD vs.length - (lo.getD 0).toNat) := by
    simp only [List.toList_toArray]
    rw [kmk_drop_min]
    generalize (lo.getD 0).toNat = a
    generalize (hi.map Int.toNat).getD vs.length = b
    by_cases h : a ≤ vs.length
    · rw [Nat.min_eq_left h]
      by_cases h' : b ≤ vs.length
      · rw [Nat.min_eq_left h']
      · have h' := Nat.le_of_lt (Nat.lt_of_not_le h')
        rw [Nat.min_eq_right h', List.take_of_length_le (by simp), List.take_of_length_le (by rw [List.length_drop]; exact Nat.sub_le_sub_right h' _)]
    · rw [List.drop_of_length_le (Nat.le_of_lt (Nat.lt_of_not_le h))]; simp
  rw [e2]
  have := (r.drop (lo.getD 0).toNat).take ((hi.map Int.toNat).getD vs.length - (lo.getD 0).toNat)
  rw [hlen] at this
  unfold cut
  rw [hlen]
  simpa using this
theorem PW_newListF {vs : List Value} {xs : List V} {B : Keep} {s s' : Shared} {a : Addr} {k : Nat} {P : Value → Shared → Prop} (R : FRel F B loc H s) (r : RelVs B vs xs) (ha : s.heap.objs.size ≤ a) (hk : ∀ b o, s.heap.get? b = some o → s'.heap.get? b = some o) (hn : s'.heap.get? a = some (lstObj vs.toArray k)) (hg : s'.gens = s.gens) (ho : s'.os = s.os)
    (h : ∀ B', Le B B' → RelV B' (.ref a) (.list xs) → FRel F B' loc H s' → P (.ref a) s') : P (.ref a) s' := by
  obtain ⟨R1, le, e⟩ := R.hold ha hk hn hg ho
  exact h _ le (.list (items := vs.toArray) (n := k) e (by simpa using r.mono le)) R1
theorem WE_SliceL {value : Expr} {lo hi : Option Expr} {p pos : Pos} {Q : V → Loc → Hp → Prop}
    (h : WE F value loc H fun X l1 H1 => WOpt F lo l1 H1 fun a l2 H2 => WOpt F hi l2 H2 fun b l3 H3 => ∃ xs, asL H3 X = some xs ∧ xs.length ≤ 1000000 ∧ (∀ i, a = some i → 0 ≤ i) ∧ (∀ i, b = some i → 0 ≤ i) ∧ Q (.list (cut xs a b)) l3 H3)
    (ht : ∀ o r, letTemporaryGo value o r = pure () := by intro _ _; rfl) : WE F (.Subscript value (.Slice lo hi none p) pos) loc H Q := fun B s R => by
  refine wpAny_Subscript_Slice list_getitem_lookup ((h B s R).then fun v B1 X l1 H1 s1 le1 r1 R1 h1 => wpAny_Slice ((h1 B1 s1 R1).then fun va B2 a l2 H2 s2 le2 ra R2 h2 => (h2 B2 s2 R2).then fun vb B3 b l3 H3 s3 le3 rb R3 h3 => ?_)) ht
  obtain ⟨xs, e, hz, ha, hb, q⟩ := h3
  refine wpAny_pure ?_
  have R4 := R3.grow (s' := { s3 with heap := s3.heap.push { cls := .type "slice", data := .fields #[va, vb, .none] } }) (fun b o e => Heap.get?_push_of_some _ e) rfl rfl
  obtain ⟨l, items, m, rfl, hl, hr⟩ := asL_at R4 (r1.mono (le2.trans le3)) e
  have hlen := hr.length
  rw [Array.length_toList] at hlen
  refine ⟨hl.isList.typeIs, wpAny_getItem_list_slice hl.isList (Heap.IsSliceOf.new ..) ra rb .none (by simp) ?_ (by rw [hlen, sizeLine_eq]; omega)⟩
  have hc := cut_rel hr ha hb
  rw [Array.toArray_toList] at hc
  refine PW_newListF (P := Post F RelV B Q) (vs := (slicePick items a b none).toList) (k := 0) R4 hc (Nat.le_refl _) (fun b o e => Heap.get?_push_of_some _ e) (by rw [Array.toArray_toList]; exact Heap.get?_push_size _ rfl) rfl rfl fun B' le' r' R' => ?_
  exact (Post.pure r' R' q).lift ((le1.trans (le2.trans le3)).trans le')
theorem Sub_str {x : Str} {i : Int} {k : Nat} {Q : V → Loc → Hp → Prop} (hs : -1000000 < i) (hb : i < 1000000) (hc : (seqIndex? i x.length).bind (x.cps[·]?) = some k) (hk : PyData.strOk ⟨#[k]⟩ = true) (q : Q (.str ⟨#[k]⟩) loc H) : Sub F (.str x) (.int i) loc H Q := fun B s o j R ro rj => by
  cases rj; cases ro
  refine ⟨"str", _, PySem.F.slot_str_getitem.lookup, typeIs_str _ _ _, PyProof.Rows.getItem_str ?_ hc (Post.pure (.str _ _ hk) (R.tok _) q)⟩
  simp; omega
theorem Cmp_inStr {x y : Str} {Q : Bool → Loc → Hp → Prop} (q : Q (!(Builtin.Str.occurrences x y 0 x.length 1).isEmpty) loc H) : Cmp F .In (.str y) (.str x) loc H Q := fun B s a b R ra rb => by
  cases ra; cases rb
  exact PyProof.Rows.in_str (Post.pure rfl R q)

theorem Op_addL {X Y : V} {xs ys : List V} {Q : V → Loc → Hp → Prop} (ex : asL H X = some xs) (ey : asL H Y = some ys) (hz : xs.length + ys.length ≤ 1000000) (q : ∀ a, H.Fresh a → Q (.ref a) loc { H with L := up H.L a (xs ++ ys) }) : Op2 F (binaryOp .Add) X Y loc H Q := fun B s a b R ra rb => by
  obtain ⟨l, items, m, rfl, hl, hr⟩ := asL_at R ra ex
  obtain ⟨l', items', m', rfl, hl', hr'⟩ := asL_at R rb ey
  have h1 := hr.length
  have h2 := hr'.length
  rw [Array.length_toList] at h1 h2
  refine PySem.P.add_list hl hl' (Post.pure (.ref _) (R.newL (s' := { s with heap := s.heap.push { cls := .type "list", data := .seq (items ++ items') } }) (a := s.heap.objs.size) (items := items ++ items') (n := 0) (Nat.le_refl _) (fun b o e => Heap.get?_push_of_some _ e) (Heap.get?_push_size _ rfl) (by simpa using hr.append hr') rfl rfl) (q _ (R.fresh_H (R.fresh (Nat.le_refl _)).1))) (by rw [h1, h2, sizeLine_eq]; omega)
theorem Call_list {X : V} {xs : List V} {Q : V → Loc → Hp → Prop} (ex : asL H X = some xs ∨ X = .tup xs) (hz : xs.length ≤ 1000000) (q : ∀ a, H.Fresh a → Q (.ref a) loc { H with L := up H.L a xs }) : Call F (.raw (.type "list")) [X] loc H Q := fun B s v vs R rv rvs => by
  cases rv
  cases rvs with | cons ra r2 => ?_
  cases r2
  have fin : ∀ {l : Addr} {T : String} {o : Obj} {items : Array Value} {k : Nat}, (T = "list" ∨ T = "tuple") → s.heap.get? l = some o → o.cls = .type T → o.data = .seq items k → RelVs B items.toList xs → PW F (call (.type "list") [.ref l]) RelV B s Q := by
    intro l T o items k hT ho hc hd hr
    have h1 := hr.length
    rw [Array.length_toList] at h1
    refine call_list_seq l hT ho hc hd (fun h' c' hk hn => ?_) (by rw [h1, sizeLine_eq]; omega)
    exact Post.pure (.ref _) (R.newL (s' := { s with heap := h' }) (a := s.heap.objs.size) (items := items) (n := c') (Nat.le_refl _) hk hn hr rfl rfl) (q _ (R.fresh_H (R.fresh (Nat.le_refl _)).1))
  rcases ex with ex | rfl
  · obtain ⟨l, items, m, rfl, hl, hr⟩ := asL_at R ra ex
    exact fin (.inl rfl) hl rfl rfl hr
  · cases ra with | tup hb hr => exact fin (.inr rfl) (R.keep _ _ hb) rfl rfl hr
theorem Call_tuple {X : V} {xs : List V} {Q : V → Loc → Hp → Prop} (ex : asL H X = some xs) (hz : xs.length ≤ 1000000) (q : Q (.tup xs) loc H) : Call F (.raw (.type "tuple")) [X] loc H Q := fun B s v vs R rv rvs => by
  cases rv
  cases rvs with | cons ra r2 => ?_
  cases r2
  obtain ⟨l, items, m, rfl, hl, hr⟩ := asL_at R ra ex
  have h1 := hr.length
  rw [Array.length_toList] at h1
  refine call_tuple_list hl.isList (fun h' hk => ?_) (by rw [h1, sizeLine_eq]; omega)
  have R1 : FRel F B loc H { s with heap := h' } := R.grow (s' := { s with heap := h' }) hk rfl rfl
  obtain ⟨R5, le5, e5⟩ := R1.hold (s' := { s with heap := h'.push (tupObj items 0) }) (a := h'.objs.size) (o := tupObj items 0) (Nat.le_refl _) (fun b o e => Heap.get?_push_of_some _ e) (Heap.get?_push_size _ rfl) rfl rfl
  exact (Post.pure (.tup e5 (hr.mono le5)) R5 q).lift le5

theorem dict_type {d : Addr} {kvs : List (Str × V)} (e : H.D d = some kvs) : ∀ B s v, FRel F B loc H s → RelV B v (.ref d) → s.TypeIs v "dict" ∧ (∀ a, v = .ref a → ∃ ob, s.heap.get? a = some ob ∧ ob.dict = none) := fun B s v R r => by
  cases r
  obtain ⟨cs, ⟨o, es, ep, h1, ⟨h2, h3, h4⟩, h5⟩, _⟩ := dict_at R e
  exact ⟨⟨o, h1, h2⟩, fun a e => by cases e; exact ⟨o, h1, h3⟩⟩
theorem MGet_dget {d : Addr} {kvs : List (Str × V)} {Q : V → List V → Loc → Hp → Prop} (e : H.D d = some kvs) (q : Q (.raw (.builtin "dict.get")) [.ref d] loc H) : MGet F "get" (.ref d) loc H Q :=
  MGet_slot PySem.F.plainAttrs_dict PySem.F.slot_dict_get PySem.F.type_dict_get (dict_type e) q
theorem Call_dget2 {d : Addr} {kvs : List (Str × V)} {k : Str} {Z : V} {Q : V → Loc → Hp → Prop} (e : H.D d = some kvs) (q : Q ((dget kvs k).getD Z) loc H) : Call F (.raw (.builtin "dict.get")) [.ref d, .str k, Z] loc H Q := fun B s v vs R rv rvs => by
  cases rv
  cases rvs with | cons ra r2 => ?_
  cases r2 with | cons rb r3 => ?_
  cases r3 with | cons rc r4 => ?_
  cases r4; cases ra; cases rb
  obtain ⟨cs, h1, h2, h3⟩ := dict_at R e
  have h4 := h2.get (k := k)
  refine call_meetsIn PySem.F.slot_dict_get h1.typeIs PySem.F.entry_dict_get (PySem.F.args_dict_get_3 _ _ _) (meets_dict_get_default (PySem.strKind F.c.prog F.c.w) d (strKind_is _ _) h3 _) ⟨_, h1.mapOf, ?_⟩
  refine Post.pure (b := (dget kvs k).getD Z) ?_ (R.tok _) q
  rename_i vz _ _
  show RelV B ((valueAt cs k).getD vz) _
  cases e1 : valueAt cs k <;> cases e2 : dget kvs k <;> rw [e1, e2] at h4
  · exact rc
  · exact h4.elim
  · exact h4.elim
  · exact h4

theorem strsAre_of {B : Keep} : ∀ {vs : List Value} {ss : List Str}, RelVs B vs (ss.map .str) → StrsAre vs ss ∧ ∀ x ∈ ss, PyData.strOk x = true
  | _, [], r => by cases r; exact ⟨.nil, fun _ h => nomatch h⟩
  | _, x :: ss, r => by
    cases r with | cons a r => ?_
    cases a with | str _ t hk => ?_
    obtain ⟨h1, h2⟩ := strsAre_of r
    exact ⟨.cons _ _ h1, fun y hy => by cases hy with | head _ => exact hk | tail _ hy => exact h2 y hy⟩
theorem of_strsAre {B : Keep} : ∀ {vs : List Value} {ss : List Str}, StrsAre vs ss → (∀ x ∈ ss, PyData.strOk x = true) → RelVs B vs (ss.map .str)
  | _, _, .nil, _ => .nil
  | _, _, .cons y t r, h => .cons (.str _ _ (h y (.head _))) (of_strsAre r fun x hx => h x (.tail _ hx))
theorem Call_sorted {X : V} {ss : List Str} {Q : V → Loc → Hp → Prop} (e : asL H X = some (ss.map .str)) (hz : ss.length < 64) (q : ∀ ss' : List Str, ss'.Perm ss → sortedS ss' = true → Q (.list (ss'.map .str)) loc H) : Call F (.raw (.builtin "sorted")) [X] loc H Q := fun B s v vs R rv rvs => by
  cases rv
  cases rvs with | cons ra r2 => ?_
  cases r2
  obtain ⟨l, items, m, rfl, hl, hr⟩ := asL_at R ra e
  obtain ⟨hS, hok⟩ := strsAre_of hr
  have hlen := hr.length
  refine sorted_strs (vs := items.toList) (by rw [Array.toArray_toList]; exact hl.isList) hS (by rw [hlen]; simpa using hz) fun out ss' h1 h2 h3 => ?_
  obtain ⟨ep, hat⟩ := sortedAll_at s.heap items.toList out
  refine PW_newListF (P := Post F RelV B Q) (vs := out.toList) (s' := { s with heap := sortedAll s.heap items.toList out }) (k := ep) R (of_strsAre h1 fun x hx => hok x (h2.subset hx)) (Nat.le_succ _) (fun b o hb => sortedAll_old hb) (by rw [Array.toArray_toList]; exact hat) rfl rfl fun B' le' r' R' => ?_
  exact (Post.pure r' R' (q ss' h2 h3)).lift le'
end
end Lay
end
noncomputable section
open PySem PySem.W PyProof.Rows PySem.Calls
set_option Elab.async false
set_option maxRecDepth 100000
set_option linter.all false
namespace Lay
noncomputable abbrev noHeap : Heap := { objs := #[] }
theorem noHeap_none (a : Addr) : noHeap.get? a = none := by
  cases h : noHeap.get? a with
  | none => rfl
  | some o => have := Heap.lt_size h; exact absurd this (Nat.not_lt_zero _)
section
variable {c : Base} {L : Addr} {nm : List (Str × NameKind)} {B : Keep} {loc : Loc} {H : Hp} {s : Shared}
theorem Rel.slots (R : Rel c L nm B loc H s) {S : List Addr} {h' : Heap} (hS : ∀ b ∈ S, b = L ∨ ∃ p ∈ c.saved, p.1 = b ∧ ∃ es ep, p.2.data = .dict es ep) (hs : Heap.SlotsOnly S s.heap h') : Rel c L nm B loc H { s with heap := h' } where
  keep := fun a o e => by
    rw [hs.2.1 a ?_]; exact R.keep a o e
    intro hm
    rcases hS a hm with rfl | ⟨p, hp, rfl, _⟩
    · rw [R.lB] at e; cases e
    · rw [(R.sv p hp).2.1] at e; cases e
  based := R.based
  own := fun a => by
    by_cases hw : H.Own a
    · have hn : a ∉ S := fun hm => by
        rcases hS a hm with rfl | ⟨p, hp, rfl, _⟩
        · exact R.lH hw
        · exact (R.sv p hp).2.2.1 hw
      exact (R.own a).mono (Le.refl _) (fun o e => (hs.2.1 a hn).trans e) fun h => ((R.own a).out h).1
    · obtain ⟨d1, d2, d3, d4, d5, d6⟩ := not_own hw
      refine ⟨fun h => absurd h hw, ?_, ?_, ?_, ?_, ?_, ?_, fun _ => d3, fun ep e => ?_⟩
      · intro y hy; rw [d1] at hy; cases hy
      · intro y hy; rw [d2] at hy; cases hy
      · intro y hy; rw [d3] at hy; cases hy
      · intro y hy; rw [d4] at hy; cases hy
      · intro y hy; rw [d5] at hy; cases hy
      · intro y hy; rw [d6] at hy; cases hy
      · exact absurd (.inr (.inl ((R.own a).g ep e).1)) hw
  lB := R.lB
  lH := R.lH
  ns := by
    obtain ⟨m, ⟨oL, es, ep, q, d, z⟩, l⟩ := R.ns
    obtain ⟨sl, e⟩ := hs.2.2 _ _ q
    exact ⟨m, ⟨_, es, ep, e, d, z⟩, l⟩
  gens := R.gens
  os := R.os
  lim := R.lim
  sv := fun p hp => by
    obtain ⟨⟨ob, x1, y1, z1⟩, x2, x3, x4⟩ := R.sv p hp
    by_cases hm : p.1 ∈ S
    · obtain ⟨sl, e⟩ := hs.2.2 _ _ x1
      refine ⟨⟨_, e, y1, fun hn => ?_⟩, x2, x3, x4⟩
      rcases hS _ hm with h | ⟨p', hp', e', es, ep, hd⟩
      · exact absurd h x4
      · obtain ⟨⟨ob', x1', y1', _⟩, _⟩ := R.sv p' hp'
        rw [e', x1] at x1'; cases x1'
        exact absurd (y1.symm.trans (y1'.trans hd)) (hn es ep)
    · exact ⟨⟨ob, (hs.2.1 _ hm).trans x1, y1, z1⟩, x2, x3, x4⟩
end

section
variable {M : Model} {A : Around} {E : Value → Shared → Prop} {s : Shared}
theorem noteFrame_first {env : Env} {outer : List Env} {L e : Addr} {oe : Obj} {vs : Array Value} {Q : Unit → Shared → Prop} (hfr : A.frames = some (env :: outer)) (hl : s.heap.FunFrames noHeap (env :: outer)) (hf : env.frame = some L)
    (he : s.heap.get? e = some oe) (hd : oe.data = .fields vs) (h1 : vs[1]? = some .none) (heS : e ∉ (env :: outer).filterMap (·.frame))
    (h : ∀ h₁ h' T oT ts, Heap.SlotsOnly ((env :: outer).filterMap (·.frame)) s.heap h₁ → h₁.get? T = none → (∀ b o, b ≠ e → h₁.get? b = some o → h'.get? b = some o) → h'.get? e = some (oe.mapFields (·.setIfInBounds 1 (.ref T))) →
      h'.get? T = some oT → oT.data = .fields ts → ts[3]? = some (rawInt L) → Q () { s with heap := h' }) :
    wpAny M A (noteFrame (.ref e) env) Q E s := by
  have hsz : 1 < vs.size := (Array.getElem?_eq_some_iff.mp h1).1
  unfold noteFrame
  simp only [hf]
  refine wpAny_bind (wpAny_field he hd h1 ?_)
  rw [if_neg (by decide)]
  refine wpAny_bind (wpAny_frameOf_fun hfr hl hf fun h₁ hs₁ => ?_)
  refine wpAny_bind (wpAny_entryPlaceOf fun pl hpl => ?_)
  unfold EntryCells.newEntry newFields
  refine wpAny_bind (wpAny_newObj_type ?_ (hpl.sizeOk5 _ _ _ _ _))
  have he₁ : h₁.get? e = some oe := (hs₁.2.1 e heS).trans he
  have he₂ := Heap.get?_push_of_some (h := h₁) { cls := .type "traceback", dict := none, data := .fields ([Value.none, .ref L, .none, rawInt L, .none] ++ (if pl.isEmpty then List.replicate 6 Value.none else pl)).toArray } he₁
  refine wpAny_setField he₂ hd hsz ?_
  have hTe : h₁.objs.size ≠ e := Nat.ne_of_gt (Heap.lt_size he₁)
  have hd₃ := Obj.data_mapFields hd (·.setIfInBounds 1 (Value.ref h₁.objs.size))
  refine h h₁ _ h₁.objs.size { cls := .type "traceback", dict := none, data := .fields ([Value.none, .ref L, .none, rawInt L, .none] ++ (if pl.isEmpty then List.replicate 6 Value.none else pl)).toArray } _ hs₁ (Heap.get?_none_of_le (Nat.le_refl _)) (fun b o hbe hb => ?_) (Heap.get?_update_self _ he₂ (Obj.isFreed_of_fields hd₃)) ?_ rfl (by simp)
  · rw [Heap.get?_update_other _ _ (Ne.symm hbe)]
    exact Heap.get?_push_of_some _ hb
  · rw [Heap.get?_update_other _ _ (Ne.symm hTe)]
    exact Heap.get?_push_size h₁ rfl
end

section
variable {F : Fx} {n : Nat} {loc : Loc} {H : Hp}

noncomputable def Nobody (F : Fx) (B : Keep) (H : Hp) (a : Addr) : Prop := B a = none ∧ ¬ H.Own a ∧ a ≠ F.L ∧ ∀ p ∈ F.c.saved, p.1 ≠ a
noncomputable def Raised (F : Fx) (B : Keep) (loc : Loc) (H : Hp) (cls : Value) (e : Value) (s : Shared) : Prop :=
  FRel F B loc H s ∧ ∃ a ob vs, e = .ref a ∧ s.heap.get? a = some ob ∧ ob.cls = cls ∧ ob.data = .fields vs ∧ vs[1]? = some .none ∧ Nobody F B H a

theorem Sub_dict_miss {k : Str} {d : Addr} {kvs : List (Str × V)} {Q : V → Loc → Hp → Prop} (hh : F.A.handled = none) (e : H.D d = some kvs) (hx : dget kvs k = none) (hE : ∀ B s e, Raised F B loc H (.type "KeyError") e s → F.E e s) : Sub F (.ref d) (.str k) loc H Q := fun B s o i R ro ri => by
  cases ro; cases ri
  obtain ⟨cs, h1, h2, h3⟩ := dict_at R e
  have h4 := h2.get (k := k)
  rw [hx] at h4
  cases e5 : valueAt cs k with
  | some v => rw [e5] at h4; exact h4.elim
  | none =>
    refine ⟨"dict", _, slot_dict_getitem.lookup, h1.typeIs, wpAny_getItem_missing_of (strKind_is _ _) h3 hh h1.mapOf e5 fun h' ex ⟨n1, n2, ob, t, n3, n4, n5⟩ => ?_⟩
    exact hE B _ _ ⟨R.grow (s' := { s with heap := h', toks := s.toks + 1 }) n1 rfl rfl, ex, ob, _, rfl, n3, n4, n5, rfl, R.nobody n2⟩

theorem frames_ok (ok : Ok F n) {outer : List Env} (hA : F.A.frames = some (F.env :: outer)) {B : Keep} {s : Shared} (R : FRel F B loc H s) : s.heap.FunFrames noHeap (F.env :: outer) ∧ ∀ b ∈ (F.env :: outer).filterMap (·.frame), b = F.L ∨ ∃ p ∈ F.c.saved, p.1 = b ∧ ∃ es ep, p.2.data = .dict es ep := by
  obtain ⟨fl, h1, h2⟩ := ok.fr
  rw [hA] at h1
  cases h1
  generalize F.env :: outer = l at h2
  clear hA
  constructor
  · induction l with
    | nil => trivial
    | cons e l ih =>
      obtain ⟨g1, g2⟩ := h2 e (.head _)
      refine ⟨g1, ?_, ih fun e he => h2 e (.tail _ he)⟩
      rcases g2 with g2 | ⟨p, hp, g2, es, ep, g3⟩
      · obtain ⟨m, ⟨oL, es, ep, q, d, z⟩, _⟩ := R.ns
        exact ⟨_, oL, g2, noHeap_none _, q, fun vs h => by rw [d] at h; cases h⟩
      · obtain ⟨⟨ob, x1, y1, _⟩, _⟩ := R.sv p hp
        exact ⟨_, ob, g2, noHeap_none _, x1, fun vs h => by rw [y1, g3] at h; cases h⟩
  · intro b hb
    obtain ⟨e, he, hf⟩ := List.mem_filterMap.mp hb
    obtain ⟨g1, g2⟩ := h2 e he
    rcases g2 with g2 | ⟨p, hp, g2, es, ep, g3⟩
    · exact .inl (Option.some.inj (hf.symm.trans g2))
    · exact .inr ⟨p, hp, Option.some.inj (g2.symm.trans hf), es, ep, g3⟩
end
end Lay
end
noncomputable section
open PySem PySem.W PyProof.Rows PySem.Calls
set_option Elab.async false
set_option maxRecDepth 100000
set_option linter.all false
namespace Lay
section
variable {F : Fx} {n : Nat} {loc : Loc} {H : Hp}

noncomputable def Fly (F : Fx) (b : Bool) (B : Keep) (loc : Loc) (H : Hp) (cls : Value) (e : Value) (s : Shared) : Prop :=
  FRel F B loc H s ∧ ∃ a ob vs, e = .ref a ∧ s.heap.get? a = some ob ∧ ob.cls = cls ∧ ob.data = .fields vs ∧ Nobody F B H a ∧
    ((b = false ∧ vs[1]? = some .none) ∨ ∃ T oT ts, vs[1]? = some (.ref T) ∧ T ≠ a ∧ s.heap.get? T = some oT ∧ oT.data = .fields ts ∧ 3 < ts.size ∧ Nobody F B H T)
theorem Raised.fly {B : Keep} {cls e : Value} {s : Shared} (h : Raised F B loc H cls e s) : Fly F false B loc H cls e s :=
  let ⟨R, a, ob, vs, h1, h2, h3, h4, h5, h6⟩ := h; ⟨R, a, ob, vs, h1, h2, h3, h4, h6, .inl ⟨rfl, h5⟩⟩
theorem Fly.typeIs {b : Bool} {B : Keep} {e : Value} {s : Shared} {C : String} (h : Fly F b B loc H (.type C) e s) : s.TypeIs e C :=
  let ⟨_, a, ob, _, h1, h2, h3, _⟩ := h; by subst h1; exact ⟨ob, h2, h3⟩

theorem Nobody.free {B : Keep} {s s' : Shared} (R : FRel F B loc H s) {X : List Addr} (hX : ∀ a ∈ X, Nobody F B H a) (hk : ∀ b o, b ∉ X → s.heap.get? b = some o → s'.heap.get? b = some o) (hg : s'.gens = s.gens) (ho : s'.os = s.os) : FRel F B loc H s' :=
  R.free (fun a => a ∈ X) (fun a h => hX a h) hk hg ho

theorem setFlight_some {M : Model} {A : Around} {E : Value → Shared → Prop} {s : Shared} {f : Option Addr} {e T : Addr} {oe oT : Obj} {vs ts : Array Value} {Q : Unit → Shared → Prop} (he : s.heap.get? e = some oe) (hd : oe.data = .fields vs) (h1 : vs[1]? = some (.ref T))
    (hT : s.heap.get? T = some oT) (hdT : oT.data = .fields ts) (hsz : 3 < ts.size) (hf : f ≠ none ∨ True) (h : ∀ x, Q () { s with heap := s.heap.update T (Obj.mapFields (·.setIfInBounds 3 x)) }) : wpAny M A (setFlight (.ref e) f) Q E s := by
  unfold setFlight
  refine wpAny_bind (wpAny_field he hd h1 ?_)
  rw [if_pos (show (Value.ref T != Value.none) = true from by simp)]
  exact wpAny_setField hT hdT hsz (h _)

theorem Fly.flight {A : Around} {E : Value → Shared → Prop} {B : Keep} {cls e : Value} {s : Shared} {f : Option Addr} {Q : Unit → Shared → Prop} (h : Fly F true B loc H cls e s) (q : ∀ s', Fly F true B loc H cls e s' → Q () s') : wpAny F.M A (setFlight e f) Q E s := by
  obtain ⟨R, a, ob, vs, rfl, h2, h3, h4, h6, h7⟩ := h
  rcases h7 with ⟨h, _⟩ | ⟨T, oT, ts, h7, h8, h9, h10, h11, h12⟩
  · cases h
  · refine setFlight_some h2 h4 h7 h9 h10 h11 (.inr trivial) fun x => q _ ?_
    have hd := Obj.data_mapFields h10 (·.setIfInBounds 3 x)
    refine ⟨Nobody.free R (X := [T]) (by simpa using h12) (fun b o hb q => (Heap.get?_update_other _ _ (fun e => hb (by simp [e]))).trans q) rfl rfl, a, ob, vs, rfl, (Heap.get?_update_other _ _ h8).trans h2, h3, h4, h6, .inr ⟨T, _, _, h7, h8, Heap.get?_update_self _ h9 (Obj.isFreed_of_fields hd), hd, by simpa using h11, h12⟩⟩

theorem Fly.note (ok : Ok F n) (tp : Top F) {E : Value → Shared → Prop} {b : Bool} {B : Keep} {cls e : Value} {s : Shared} {Q : Unit → Shared → Prop} (h : Fly F b B loc H cls e s) (q : ∀ s', Fly F true B loc H cls e s' → Q () s') : wpAny F.M F.A (noteFrame e F.env) Q E s := by
  obtain ⟨R, a, ob, vs, rfl, h2, h3, h4, h6, h7⟩ := h
  obtain ⟨outer, t1, t2⟩ := tp
  have hnot : ∀ {x}, Nobody F B H x → x ∉ (F.env :: outer).filterMap (·.frame) := fun hx hm => by
    rcases (frames_ok ok t1 R).2 _ hm with e | ⟨p, hp, e, _⟩
    · exact hx.2.2.1 e
    · exact hx.2.2.2 p hp e
  rcases h7 with ⟨_, h7⟩ | ⟨T, oT, ts, h7, h8, h9, h10, h11, h12⟩
  · refine noteFrame_first t1 (frames_ok ok t1 R).1 t2 h2 h4 h7 (hnot h6) fun h₁ h' T oT ts g1 g2 g3 g4 g5 g6 g7 => q _ ?_
    have R1 := R.slots (frames_ok ok t1 R).2 g1
    have nT := R1.nobody (a := T) g2
    have hTa : T ≠ a := by
      rintro rfl
      have := g1.2.1 _ (hnot h6)
      rw [g2, h2] at this; cases this
    have hd := Obj.data_mapFields h4 (·.setIfInBounds 1 (.ref T))
    have hlt : 1 < vs.size := (Array.getElem?_eq_some_iff.mp h7).1
    exact ⟨Nobody.free (s := { s with heap := h₁ }) (s' := { s with heap := h' }) R1 (X := [a]) (by simpa using h6) (fun b o hb q => g3 b o (by simpa using hb) q) rfl rfl, a, _, _, rfl, g4, (Obj.cls_mapFields ..).trans h3, hd, h6, .inr ⟨T, oT, ts, by simp [hlt], hTa, g5, g6, (Array.getElem?_eq_some_iff.mp g7).1, nT⟩⟩
  · unfold noteFrame
    simp only [t2]
    refine wpAny_bind (wpAny_field h2 h4 h7 ?_)
    rw [if_pos (show (Value.ref T != Value.none) = true from by simp)]
    refine wpAny_bind (wpAny_field h9 h10 (x := ts[3]) (by simp [h11]) ?_)
    have here : Fly F true B loc H cls (.ref a) s := ⟨R, a, ob, vs, rfl, h2, h3, h4, h6, .inr ⟨T, oT, ts, h7, h8, h9, h10, h11, h12⟩⟩
    split
    · exact wpAny_pure (q _ here)
    · refine wpAny_bind (wpAny_setField h9 h10 h11 ?_)
      generalize hs1 : ({ s with heap := s.heap.update T (Obj.mapFields (·.setIfInBounds 3 .none)) } : Shared) = s1
      have hd := Obj.data_mapFields h10 (·.setIfInBounds 3 Value.none)
      have R1 : FRel F B loc H s1 := by
        subst hs1
        exact Nobody.free R (X := [T]) (by simpa using h12) (fun b o hb q => (Heap.get?_update_other _ _ (fun e => hb (by simp [e]))).trans q) rfl rfl
      have k2 : s1.heap.get? a = some ob := by subst hs1; exact (Heap.get?_update_other _ _ h8).trans h2
      refine wpAny_bind (wpAny_frameOf_fun t1 (frames_ok ok t1 R1).1 t2 fun h₁ hs₁ => ?_)
      refine wpAny_bind (wpAny_entryPlaceOf fun pl hpl => ?_)
      unfold EntryCells.newEntry newFields
      refine wpAny_bind (wpAny_newObj_type ?_ (hpl.sizeOk5 _ _ _ _ _))
      have R2 := R1.slots (frames_ok ok t1 R1).2 hs₁
      have he₁ : h₁.get? a = some ob := (hs₁.2.1 a (hnot h6)).trans k2
      have he₂ := Heap.get?_push_of_some (h := h₁) { cls := .type "traceback", dict := none, data := .fields ([Value.ref T, .ref F.L, .none, rawInt F.L, .none] ++ (if pl.isEmpty then List.replicate 6 Value.none else pl)).toArray } he₁
      have hlt : 1 < vs.size := (Array.getElem?_eq_some_iff.mp h7).1
      refine wpAny_setField he₂ h4 hlt (q _ ?_)
      have hTe : h₁.objs.size ≠ a := Nat.ne_of_gt (Heap.lt_size he₁)
      have hd₃ := Obj.data_mapFields h4 (·.setIfInBounds 1 (Value.ref h₁.objs.size))
      have nT := R2.nobody (a := h₁.objs.size) (Heap.get?_none_of_le (Nat.le_refl _))
      refine ⟨Nobody.free (s := { s1 with heap := h₁ }) R2 (X := [a]) (by simpa using h6) (fun b o hb q => ?_) rfl rfl, a, _, _, rfl, Heap.get?_update_self _ he₂ (Obj.isFreed_of_fields hd₃), (Obj.cls_mapFields ..).trans h3, hd₃, h6, .inr ⟨h₁.objs.size, _, _, by simp [hlt], hTe, (Heap.get?_update_other _ _ (Ne.symm hTe)).trans (Heap.get?_push_size h₁ rfl), rfl, by simp, nT⟩⟩
      have hb' : b ≠ a := by simpa using hb
      rw [Heap.get?_update_other _ _ (Ne.symm hb')]
      exact Heap.get?_push_of_some _ q

noncomputable def Acc (F : Fx) (cls : Value) (P : Loc → Hp → Prop) : Prop := ∀ b B l H e s, Fly F b B l H cls e s → P l H → F.E e s
theorem Acc.raised {cls : Value} {P : Loc → Hp → Prop} (h : Acc F cls P) {B : Keep} {e : Value} {s : Shared} (r : Raised F B loc H cls e s) (p : P loc H) : F.E e s := h _ _ _ _ _ _ r.fly p
theorem OwnAt.lo {c : Base} {B : Keep} {h : Heap} {H : Hp} {a : Addr} {lo : Keep} (x : OwnAt c B h H a) : OwnAt { c with lo := lo } B h H a := ⟨x.out, x.l, x.d, x.p, x.s, x.i, x.c, x.dp, x.g⟩
theorem OwnAt.unlo {c : Base} {B : Keep} {h : Heap} {H : Hp} {a : Addr} {lo : Keep} (x : OwnAt { c with lo := lo } B h H a) : OwnAt c B h H a := ⟨x.out, x.l, x.d, x.p, x.s, x.i, x.c, x.dp, x.g⟩
theorem Rel.floor {c : Base} {L : Addr} {nm : List (Str × NameKind)} {B : Keep} {loc : Loc} {H : Hp} {s : Shared} (R : Rel c L nm B loc H s) : Rel { c with lo := B } L nm B loc H s :=
  ⟨R.keep, ⟨fun a o e => R.based.2 _ _ (R.based.1 _ _ e), Le.refl _⟩, fun a => (R.own a).lo, R.lB, R.lH, R.ns, R.gens, R.os, R.lim, R.sv⟩
theorem Rel.unfloor {c : Base} {L : Addr} {nm : List (Str × NameKind)} {B : Keep} {loc : Loc} {H : Hp} {s : Shared} {lo : Keep} (R : Rel { c with lo := lo } L nm B loc H s) (h1 : ∀ a o, c.base.get? a = some o → c.lo a = some o) (h2 : Le c.lo lo) : Rel c L nm B loc H s :=
  ⟨R.keep, ⟨h1, h2.trans R.based.2⟩, fun a => (R.own a).unlo, R.lB, R.lH, R.ns, R.gens, R.os, R.lim, R.sv⟩

noncomputable abbrev Fx.tryF (F : Fx) (lo : Keep) (E : Value → Shared → Prop) : Fx := { F with c := { F.c with lo := lo }, E := E }
noncomputable abbrev Fx.exF (F : Fx) (e : Value) (E : Value → Shared → Prop) : Fx := { F with A := F.A.mark (some e), E := E }

theorem Fly.through {t : Expr} {B : Keep} {cls e : Value} {s : Shared} {PX : V → Prop} {P : Value → Shared → Prop} (f : Fly F true B loc H cls e s) (h : WE F t loc H fun X l' H' => l' = loc ∧ H' = H ∧ PX X)
    (k : ∀ c X B4 Bx s4, Le B B4 → Fly F true B4 loc H cls e s4 → RelV Bx c X → PX X → P c s4) : wpAny F.M F.A (eval t F.env) P F.E s := by
  obtain ⟨R, a, ob, vs, rfl, h2, h3, h4, h6, h7⟩ := f
  rcases h7 with ⟨z, _⟩ | ⟨T, oT, ts, h7, h8, h9, h10, h11, h12⟩
  · cases z
  obtain ⟨R1, le1⟩ := R.take h2 h6.1 h6.2.1 h6.2.2.1 h6.2.2.2
  obtain ⟨R2, le2⟩ := R1.take h9 (by unfold addB; rw [if_neg h8]; exact h12.1) h12.2.1 h12.2.2.1 h12.2.2.2
  refine (h _ s R2).then fun c B4 X l4 H4 s4 le4 rc R4 ⟨hl, hH, hx⟩ => ?_
  subst hl; subst hH
  have k1 : B4 a = some ob := le4 _ _ (le2 _ _ (by simp [addB]))
  have k2 : B4 T = some oT := le4 _ _ (by simp [addB])
  have la : F.c.lo a = none := base_none R.based.2 h6.1
  have lT : F.c.lo T = none := base_none R.based.2 h12.1
  have R5 := R4.dropIt k1 h4 la (s' := s4) (fun b o _ q => q) rfl rfl
  have k3 : dropB B4 a T = some oT := by rw [dropB_ne h8]; exact k2
  have R6 := R5.dropIt k3 h10 lT (s' := s4) (fun b o _ q => q) rfl rfl
  have na := R4.kept k1
  have nT := R4.kept k2
  refine k c X _ B4 s4 (le_drop (le_drop ((le1.trans le2).trans le4) h6.1) h12.1) ⟨R6, a, ob, vs, rfl, R4.keep _ _ k1, h3, h4, ⟨?_, na⟩, .inr ⟨T, oT, ts, h7, h8, R4.keep _ _ k2, h10, h11, ⟨?_, nT⟩⟩⟩ rc hx
  · rw [dropB_ne (Ne.symm h8)]; simp [dropB]
  · simp [dropB]

theorem WS_Try (ok : Ok F n) (tp : Top F) {body : List Stmt} {b0 : Stmt} {suite : List Stmt} {t : Expr} {hpos pos : Pos} {cls tv : Value} {Q : Fl → Loc → Hp → Prop} (PX : Loc → Hp → Prop)
    (hm : ∀ {A : Around} {E : Value → Shared → Prop} {B l H} {s : Shared} {e : Value} {b : Bool} {Q : Bool → Shared → Prop}, Fly F b B l H cls e s → Q true s → wpAny F.M A (excMatches e tv) Q E s)
    (ht : ∀ e E l H, Ok (F.exF e E) 0 → WE (F.exF e E) t l H fun X l' H' => l' = l ∧ H' = H ∧ ∀ B v, RelV B v X → v = tv)
    (hbody : ∀ lo E, Ok (F.tryF lo E) n → Top (F.tryF lo E) → Acc (F.tryF lo E) cls PX → WSs (F.tryF lo E) body loc H Q)
    (hhandler : ∀ e E l H, Ok (F.exF e E) 0 → PX l H → WSs (F.exF e E) (b0 :: suite) l H Q) :
    WS F (.Try body [.ExceptHandler (some t) none (b0 :: suite) hpos] [] [] pos) loc H Q := fun B s R => by
  refine wpAny_Try_except ?_
  generalize hE : (fun e s₁ => wpAny F.M F.A (noteFrame e F.env) (fun _ s₂ => wpAny F.M F.A (setFlight e none) (fun _ s₃ => wpAny F.M F.A (handleBy e F.env [.ExceptHandler (some t) none (b0 :: suite) hpos]) (Post F RelF B Q) F.E s₃) F.E s₂) F.E s₁) = E'
  have okB : Ok (F.tryF B E') n := ⟨ok.fn, ok.glob, ok.bi, ok.dbg, ok.units, ok.depth, ok.handled, ok.fr⟩
  have tpB : Top (F.tryF B E') := tp
  have okH : ∀ e E, Ok (F.exF e E) 0 := fun e E => ⟨ok.fn, ok.glob, ok.bi, ok.dbg, by have := ok.units; show F.A.units + 40 * 0 + 200 < cLine; omega, by have := ok.depth; show F.A.depth + 4 * 0 + 4 < recursionLimit; omega, fun h => absurd rfl h, ok.fr⟩
  have acc : Acc (F.tryF B E') cls PX := by
    intro b B1 l1 H1 e s1 f p
    subst hE
    have f0 : Fly F b B1 l1 H1 cls e s1 := ⟨f.1.unfloor R.based.1 R.based.2, f.2⟩
    have le : Le B B1 := f.1.based.2
    refine f0.note ok tp fun s2 f2 => f2.flight fun s3 f3 => ?_
    refine wpAny_handleBy_cons (codeAny_handlers_test ?_) (by
      obtain ⟨_, a, _, _, rfl, _⟩ := f3
      intro q; cases q)
    refine Fly.through (F := F.exF e _) f3 (ht e _ l1 H1 (okH e _)) fun c X B4 Bx s4 le4 f4 rc hv => ?_
    obtain rfl := hv _ _ rc
    refine hm f4 (codeAny_handlers_suite (Fly.flight (F := F.exF e _) f4 fun s5 f5 => ?_))
    exact wpAny_mono (hhandler e _ l1 H1 (okH e _) p B4 s5 f5.1) (fun fl s6 q => q.lift (le.trans le4)) fun _ _ x => x
  refine wpAny_mono (hbody B E' okB tpB acc B s R.floor) (fun fl s1 q => ?_) fun _ _ x => x
  have q' : Post F RelF B Q fl s1 := by
    obtain ⟨B1, b, l1, H1, le, rf, R1, q⟩ := q
    exact ⟨B1, b, l1, H1, le, rf, R1.unfloor R.based.1 R.based.2, q⟩
  cases fl <;> first | exact q' | exact wpAny_execs_nil q'
end
end Lay
end
noncomputable section
open PySem PySem.W PyProof.Rows PySem.Calls
set_option Elab.async false
set_option maxRecDepth 100000
set_option linter.all false
namespace Lay
section
variable {prog : Program} {w : World} {A : Around} {E : Value → Shared → Prop} {s : Shared}
theorem pyHash_none {Q : Int → Shared → Prop} (h : Q (0xFCA86420 : Int) { s with toks := s.toks + 1 }) : wpAny (model prog w) A (pyHash .none) Q E s := by
  have hT : s.TypeIs .none "NoneType" := rfl
  unfold pyHash
  first | unfold pyHashByItsType | skip
  refine wpAny_bind (wpAny_pure ?_)
  refine wpAny_bind (wpAny_specialOf hT PySem.F.slot_NoneType_hash.lookup ?_)
  show wpAny _ _ (if (some (Value.builtin "NoneType.__hash__") == some Value.none) = true then _ else _) Q E s
  rw [if_neg (by rw [beq_builtin_none]; exact Bool.false_ne_true)]
  refine wpAny_bind (wpAny_specialOf hT PySem.F.slot_NoneType_hash.lookup ?_)
  show wpAny _ _ (callSpecialIfBoundUnlessNone? .none "__hash__" _ >>= _) Q E s
  refine wpAny_bind (wpAny_callSpecialIfBoundUnlessNone?_slot hT PySem.F.slot_NoneType_hash (wpAny_call_entry PySem.F.slot_NoneType_hash hT PySem.F.entry_NoneType_hash ?_ (PySem.F.args_NoneType_hash_1 _)))
  show wpAny _ _ (retInt 0xFCA86420) _ _ s
  refine wpAny_ret_mkInt ?_
  show wpAny _ _ (if (decide (-(2 : Int) ^ 63 ≤ 0xFCA86420) && decide ((0xFCA86420 : Int) < 2 ^ 63)) = true then _ else _) Q E _
  rw [if_pos (by decide)]
  exact wpAny_pure h
theorem eqBool_none_none {Q : Bool → Shared → Prop} (h : Q true s) : wpAny (model prog w) A (eqBool .none .none) Q E s := by
  unfold eqBool
  try with_reducible refine wpAny_holding ?_
  show wpAny _ _ (if (Value.none == Value.none) = true then _ else _) Q E s
  rw [if_pos (by rfl)]
  exact wpAny_bind (wpAny_rule (wpAny_pure h))
end

noncomputable def optIs : Option Str → Value → Bool
  | none, .none => true
  | some x, v => Value.isStrOf x v
  | _, _ => false
theorem optIs_none {v : Value} (h : optIs none v = true) : v = .none := by cases v <;> first | rfl | cases h
noncomputable def optKind (prog : Program) (w : World) : KeyKind prog w (Option Str) where
  is := optIs
  hash := fun k => match k with | none => 0xFCA86420 | some x => hashStr w x
  inj := fun v a b ha hb => by
    cases a with
    | none =>
      obtain rfl := optIs_none ha
      cases b with
      | none => rfl
      | some b => cases hb
    | some a =>
      obtain ⟨t, rfl⟩ := Value.isStrOf_shape ha
      cases b with
      | none => cases hb
      | some b => exact congrArg some (Value.isStrOf_inj (.str a t) a b ha hb)
  byValue := fun k v h => by
    cases k with
    | none => obtain rfl := optIs_none h; rfl
    | some k => obtain ⟨t, rfl⟩ := Value.isStrOf_shape h; rfl
  pyHash := fun {A E s k v Q} hv h => by
    cases k with
    | none => obtain rfl := optIs_none hv; exact pyHash_none h
    | some k => obtain ⟨t, rfl⟩ := Value.isStrOf_shape hv; exact wpAny_pyHash_str h
  eqBool := fun {A E s a b u v Q} hu hv h => by
    cases a with
    | none =>
      obtain rfl := optIs_none hu
      cases b with
      | none => obtain rfl := optIs_none hv; exact eqBool_none_none (by simpa using h)
      | some b => obtain ⟨t, rfl⟩ := Value.isStrOf_shape hv; exact SeqAt.EqAt.none_str b t _ _ _ _ (by simpa using h)
    | some a =>
      obtain ⟨t, rfl⟩ := Value.isStrOf_shape hu
      cases b with
      | none => obtain rfl := optIs_none hv; exact SeqAt.EqAt.str_none a t _ _ _ _ (by simpa using h)
      | some b => obtain ⟨t', rfl⟩ := Value.isStrOf_shape hv; exact wpAny_eqBool_str (by simpa using h)
  «strs» := fun k x t v h => by
    cases k with
    | none => cases h
    | some k =>
      obtain ⟨u, hu⟩ := Value.isStrOf_shape (x := k) (v := .str x t) h
      injection hu with hx
      subst hx
      cases v <;> rfl

section
variable {F : Fx} {n : Nat} {loc : Loc} {H : Hp}
theorem dictOf_opt {prog : Program} {w : World} {h : Heap} {d : Addr} {cs : List (Str × Value)} (x : h.DictOf (PySem.strKind prog w) d cs) : ∃ f, h.MapOf (optKind prog w) d f ∧ f none = none := by
  obtain ⟨o, es, ep, h1, h2, h3, h4, h5⟩ := x
  refine ⟨fun k => findBy (optKind prog w).is es k, ⟨o, es, ep, h1, h2, h3, ?_, fun _ => rfl⟩, ?_⟩
  · intro e he
    obtain ⟨k, k1, k2⟩ := h4 e he
    exact ⟨some k, k1, k2⟩
  · unfold findBy
    have : es.find? (fun e => (optKind prog w).is none e.key) = none := by
      rw [Array.find?_eq_none]
      intro e he
      obtain ⟨k, k1, k2⟩ := h4 e he
      obtain ⟨t, ht⟩ := Value.isStrOf_shape k1
      rw [ht]; simp [optKind, optIs]
    first | rw [this]; rfl | simp [this]
theorem Call_dget2_none {d : Addr} {kvs : List (Str × V)} {Z : V} {Q : V → Loc → Hp → Prop} (e : H.D d = some kvs) (q : Q Z loc H) : Call F (.raw (.builtin "dict.get")) [.ref d, .none, Z] loc H Q := fun B s v vs R rv rvs => by
  cases rv
  cases rvs with | cons ra r2 => ?_
  cases r2 with | cons rb r3 => ?_
  cases r3 with | cons rc r4 => ?_
  cases r4; cases ra; cases rb
  obtain ⟨cs, h1, h2, h3⟩ := dict_at R e
  obtain ⟨f, hf, hn⟩ := dictOf_opt h1
  refine call_meetsIn PySem.F.slot_dict_get h1.typeIs PySem.F.entry_dict_get (PySem.F.args_dict_get_3 _ _ _) (meets_dict_get_default (optKind F.c.prog F.c.w) (k := none) d rfl h3 _) ⟨_, hf, ?_⟩
  rw [hn]
  exact Post.pure (b := Z) rc (R.tok _) q

theorem GetA_inst {K : Frag} (hK : K.In F.c.base) {C : Addr} {fs : List (Str × V)} {name : Str} {Y : V} {Q : V → Loc → Hp → Prop} (hy : dget fs name = some Y) (hr : notRaw Y = true)
    (hg : plainGet K C name = true) (hh : hasDictIn K C = true) (ha : findIn K (.ref C) name = some none) (q : Q Y loc H) : GetA F name (.inst C fs) loc H Q := fun B s o R ro => by
  cases ro with | @inst a _ d od es ep _ h1 h2 h3 r => ?_
  obtain ⟨v, e5, rv⟩ := r.get hy
  have I : InstAt s.heap a (instObj' C d) C (some od) := ⟨R.keep _ _ h1, rfl, rfl, R.keep _ _ h2⟩
  exact get_value (fun a o e => R.inBase (hK a o e)) I (plainGet_of hg).1 (findObj_own hh ha rfl e5) (handed_of rv hr) (Post.pure rv (R.tok _) q)

theorem Cmp_isNone {X : V} {b : Bool} {Q : Bool → Loc → Hp → Prop} (hX : (match X with | .none => true | .raw _ => false | _ => false) = b) (hr : notRaw X = true) (q : Q b loc H) : Cmp F .Is X .none loc H Q := fun B s v u R rv ru => by
  cases ru
  refine is_none (Post.pure ?_ R q)
  subst hX
  cases rv <;> first | rfl | cases hr

theorem Call_list_dict {d : Addr} {kvs : List (Str × V)} {Q : V → Loc → Hp → Prop} (hh : F.A.handled = none) (e : H.D d = some kvs) (hz : kvs.length ≤ 100000) (q : ∀ a, H.Fresh a → Q (.ref a) loc { H with L := up H.L a (kvs.map fun p => .str p.1) }) : Call F (.raw (.type "list")) [.ref d] loc H Q := fun B s v vs R rv rvs => by
  cases rv
  cases rvs with | cons ra r2 => ?_
  cases r2; cases ra
  obtain ⟨cs, h1, h2, h3⟩ := dict_at R e
  obtain ⟨ep, hm⟩ := h1.dictAt
  have hok := ((R.own d).d kvs e).1
  have hlen := h2.length
  refine kdl_call (kdl_dict (knd := PySem.strKind F.c.prog F.c.w) (ep := ep) h3) hh hm (by rw [hlen, sizeLine_eq]; omega) fun h' tk acc' c' hk hn hacc => ?_
  have hr : RelVs B acc'.toList (kvs.map fun p => V.str p.1) := by
    have gen : ∀ (cs : List (Str × Value)) (kvs : List (Str × V)) (vs : List Value), RelKs B cs kvs → (∀ p ∈ kvs, PyData.strOk p.1 = true) → vs.length = cs.length → (∀ (j : Nat) (v : Value), vs[j]? = some v → ∃ k x, cs[j]? = some (k, x) ∧ (PySem.strKind F.c.prog F.c.w).is k v = true) → RelVs B vs (kvs.map fun p => V.str p.1) := by
      intro cs kvs vs h
      induction h generalizing vs with
      | nil => intro _ hl _; cases vs with | nil => exact .nil | cons _ _ => cases hl
      | @cons k v x cs kvs r t ih =>
        intro hok hl hv
        cases vs with
        | nil => cases hl
        | cons u us =>
          obtain ⟨k', x', e1, e2⟩ := hv 0 u rfl
          simp at e1
          obtain ⟨rfl, rfl⟩ := e1
          obtain ⟨t', rfl⟩ := Value.isStrOf_shape e2
          exact .cons (.str _ _ (hok _ (.head _))) (ih us (fun p hp => hok p (.tail _ hp)) (by simpa using hl) fun j v hj => by simpa using hv (j + 1) v (by simpa using hj))
    refine gen cs kvs _ h2 hok ?_ ?_
    · rw [Array.length_toList]; exact hacc.1
    · intro j v hj; exact hacc.2 j v (by rw [← Array.getElem?_toList]; exact hj)
  exact Post.pure (.ref _) (R.newL (s' := { s with heap := h', toks := tk }) (a := s.heap.objs.size) (items := acc') (n := c') (Nat.le_refl _) hk hn hr rfl rfl) (q _ (R.fresh_H (R.fresh (Nat.le_refl _)).1))
theorem Call_set0 {Q : V → Loc → Hp → Prop} (q : ∀ a, H.Fresh a → Q (.ref a) loc { H with S := up H.S a (fun _ => false, 0) }) : Call F (.raw (.type "set")) [] loc H Q := fun B s v vs R rv rvs => by
  cases rv
  cases rvs
  refine call_set_0 fun led => ?_
  exact Post.pure (.ref _) (R.newS (s' := { s with heap := s.heap.push { cls := .type "set", dict := none, data := .set #[] 0 (.fresh 0 0 led) } }) (a := s.heap.objs.size) (S' := (fun _ => false, 0)) (Nat.le_refl _) (fun b o e => Heap.get?_push_of_some _ e)
    ⟨_, #[], 0, .fresh 0 0 led, Heap.get?_push_size _ rfl, ⟨rfl, rfl, rfl⟩, rfl, (fun e he => by simp at he), (fun k => by simp), (by decide), rfl, rfl⟩ rfl rfl) (q _ (R.fresh_H (R.fresh (Nat.le_refl _)).1))

theorem isPair_of {B : Keep} {s : Shared} (R : FRel F B loc H s) {k : Str × List Str} {a : Addr} (r : RelV B (.ref a) (pairV k)) : IsPair F.c.prog F.c.w s.heap k a := by
  unfold pairV at r
  cases r with | @tup _ items m _ hb hr => ?_
  obtain ⟨vs⟩ := items
  cases hr with | cons r1 r2 => ?_
  cases r2 with | cons r2 r3 => ?_
  cases r3
  cases r1 with | str _ t hk => ?_
  cases r2 with | @tup a2 items2 m2 _ hb2 hr2 => ?_
  refine ⟨_, _, m, t, a2, R.keep _ _ hb, rfl, rfl, rfl, _, items2, m2, R.keep _ _ hb2, rfl, rfl, ?_⟩
  have gen : ∀ (ks : List Str) (vs : List Value), RelVs B vs (ks.map .str) → ItemsAre (PySem.strKind F.c.prog F.c.w) ks vs := by
    intro ks
    induction ks with
    | nil => intro vs r; cases r; exact .nil
    | cons k ks ih =>
      intro vs r
      cases r with | cons r1 r2 => ?_
      cases r1
      exact .cons (strKind_is _ _) (ih _ r2)
  exact gen _ _ hr2
theorem pdict_at {B : Keep} {s : Shared} (R : FRel F B loc H s) {d : Addr} {ks : List (Str × List Str)} (e : H.P d = some ks) : ∃ xs : List ((Str × List Str) × Addr × Value), s.heap.DictOfH (pairKind F.c.prog F.c.w) d xs ∧ xs.map (·.1) = ks ∧ (∀ x ∈ xs, RelV B (.ref x.2.1) (pairV x.1)) ∧ (d == sysModules) = false := by
  obtain ⟨o, es, ep, xs, h1, h2, h3, h4, h5, h6, h7⟩ := (R.own d).p ks e
  refine ⟨xs, ⟨o, es, ep, h1, h2, h3, h4, fun x hx => isPair_of R (h7 x hx), by rw [h5]; exact h6⟩, h5, h7, ?_⟩
  have hw : H.Own d := .inr (.inr (.inl (by rw [e]; simp)))
  have h3 := ((R.own d).out hw).2
  have h4 := R.lim.1
  have : d ≠ 1 := Nat.ne_of_gt (Nat.lt_of_le_of_lt h4 h3)
  simpa [sysModules] using this
theorem atKey_isSome {K : Type} [DecidableEq K] (xs : List (K × Addr × Value)) (k : K) : (atKey xs k).isSome = decide (k ∈ xs.map (·.1)) := by
  unfold atKey
  rw [Option.isSome_map]
  induction xs with
  | nil => rfl
  | cons x xs ih =>
    rw [List.find?_cons]
    by_cases e : x.1 = k
    · simp [e]
    · simp only [e, decide_false, ih]
      simp [Ne.symm e]
theorem Cmp_inP (ok : Ok F n) {k : Str × List Str} {d : Addr} {ks : List (Str × List Str)} {Q : Bool → Loc → Hp → Prop} (e : H.P d = some ks) (q : Q (decide (k ∈ ks)) loc H) : Cmp F .In (pairV k) (.ref d) loc H Q := fun B s a b R ra rb => by
  have ra' := ra
  unfold pairV at ra
  cases ra; cases rb
  obtain ⟨xs, h1, h2, h3, h4⟩ := pdict_at R e
  refine wpAny_in_heap (knd := pairKind F.c.prog F.c.w) (by have := ok.u (k := 30) (by omega); show F.A.in1.units + 1 < cLine; show F.A.units + 1 + 1 < cLine; omega) (isPair_of R ra') h4 h1 (Post.pure ?_ (R.tok _) q)
  rw [atKey_isSome, h2]
  exact congrArg Value.bool (decide_eq_decide.mpr Iff.rfl)
theorem Set_P (ok : Ok F n) {k : Str × List Str} {d : Addr} {ks : List (Str × List Str)} {Z : V} {Q : Loc → Hp → Prop} (e : H.P d = some ks) (eG : H.G d = none) (hnew : k ∉ ks) (hz : ks.length ≤ 100000) (q : Q loc { H with P := up H.P d (ks ++ [k]) }) : Set_ F (.ref d) (pairV k) Z loc H Q := fun B s o i v R ro ri rv => by
  have ri' := ri
  unfold pairV at ri
  cases ro
  cases ri
  rename_i ai _ _ _ _
  obtain ⟨xs, h1, h2, h3, h4⟩ := pdict_at R e
  have hno : atKey xs k = none := by
    have := atKey_isSome xs k
    rw [h2] at this
    simp only [hnew, decide_false] at this
    cases z : atKey xs k with
    | none => rfl
    | some p => rw [z] at this; cases this
  have hl : xs.length = ks.length := by rw [← h2, List.length_map]
  refine wpAny_setItem_heap (knd := pairKind F.c.prog F.c.w) (by have := ok.u (k := 30) (by omega); show F.A.in1.units + 1 < cLine; show F.A.units + 1 + 1 < cLine; omega) (isPair_of R ri') h1 (fun h' hd' hs' => ?_) (by first | (rw [sizeLine_eq]; omega) | (rw [hl, sizeLine_eq]; omega))
  rw [storedH_new hno] at hd'
  obtain ⟨o', es', ep', g1, g2, g3, g4, g5, g6⟩ := hd'
  refine Post.pure (b := ()) trivial (R.setP (s' := { s with heap := h', toks := s.toks + (pairKind F.c.prog F.c.w).draws k }) e eG (fun b o hb h => (hs'.2 b hb).trans h) g1 g2 g3 g4 (ks' := ks ++ [k]) (by simp [h2]) (by simpa [h2] using g6) ?_ rfl rfl) q
  intro x hx
  rcases List.mem_append.mp hx with hx | hx
  · exact h3 x hx
  · simp at hx; subst hx; exact ri'
theorem Rel.asP {c : Base} {L : Addr} {nm : List (Str × NameKind)} {B : Keep} {s : Shared} {d : Addr} (R : Rel c L nm B loc H s) (e : H.D d = some []) (eG : H.G d = none) : Rel c L nm B loc { H with D := un H.D d, P := up H.P d [] } s := by
  obtain ⟨_, cs, ⟨o, es, ep, h1, h2, h3, h4, h5, h6⟩, h7⟩ := (R.own d).d _ e
  cases h7
  have hes : es.toList = [] := by
    have := h5.length
    simpa using this
  have hw : H.Own d := .inr (.inl (by rw [e]; simp))
  obtain ⟨z1, _, z3, z4, z5⟩ := (R.own d).none_of h1
  have y1 := z1 (by rw [h2.1]; decide)
  have y3 := z3 (by rw [h2.1]; decide)
  have y4 := z4 (by intro C h; rw [h2.1] at h; cases h)
  have y5 := z5 (by intro v h; rw [h3] at h; cases h)
  refine R.of_old hw (fun b o _ e => e) (fun b hb => ⟨rfl, (un_ne hb).symm, up_same _ _ _ hb, rfl, rfl, rfl, rfl⟩) ⟨fun _ => (R.own d).out hw, ?_, ?_, ?_, ?_, ?_, ?_, fun h => absurd (un_self _ _) h, ?_⟩ rfl rfl
  · intro y hy; rw [y1] at hy; cases hy
  · intro y hy; simp at hy
  · intro y hy
    simp only [up_self, Option.some.injEq] at hy
    subst hy
    exact ⟨o, es, ep, [], h1, h2, h3, by simpa using hes, rfl, List.nodup_nil, fun x hx => nomatch hx⟩
  · intro y hy; rw [y3] at hy; cases hy
  · intro y hy; rw [y4] at hy; cases hy
  · intro y hy; rw [y5] at hy; cases hy
  · intro y hy; simp only [eG] at hy; cases hy
theorem WE_Dict0P {pos : Pos} {Q : V → Loc → Hp → Prop} (q : ∀ a, H.Fresh a → Q (.ref a) loc { H with P := up H.P a [] }) : WE F (.Dict [] [] pos) loc H Q := fun B s R => by
  show wpAny F.M F.A (eval (.Dict [] [] pos) F.env) _ _ _
  rw [eval_Dict_empty]
  refine wpAny_bind (wpAny_standAt (PW_newDict R fun a s' hf R' => ?_))
  have hD : H.D a = none := (not_own hf).2.1
  have hG : H.G a = none := by
    cases z : H.G a with
    | none => rfl
    | some ep => exact absurd hD ((R.own a).g ep z).1
  have R2 := R'.asP (d := a) (by simp) hG
  rw [show ({ L := H.L, D := un (up H.D a []) a, P := up H.P a [], S := H.S, I := H.I, C := H.C, G := H.G } : Hp) = { H with P := up H.P a [] } by rw [un_up hD]] at R2
  exact Post.pure (.ref a) R2 (q a hf)

noncomputable def WPs (F : Fx) (ps : List (Expr × Expr)) (pos : Pos) (loc : Loc) (H : Hp) (Q : List (Str × V) → Loc → Hp → Prop) : Prop := ∀ B s, FRel F B loc H s →
  PW F (evalPairs (ps.map fun p => (eval p.1 F.env, do let x ← eval p.2 F.env; standAt pos; pure x))) (fun B vs kvs => ∃ cs, Carries (PySem.strKind F.c.prog F.c.w) vs cs ∧ RelKs B cs kvs ∧ ∀ p ∈ kvs, PyData.strOk p.1 = true) B s Q
theorem WPs_nil {pos : Pos} {Q : List (Str × V) → Loc → Hp → Prop} (q : Q [] loc H) : WPs F [] pos loc H Q := fun B s R => wpAny_pure (Post.pure (b := []) ⟨[], trivial, .nil, fun _ h => nomatch h⟩ R q)
theorem WPs_cons {k v : Expr} {ps : List (Expr × Expr)} {pos : Pos} {Q : List (Str × V) → Loc → Hp → Prop} (h : WE F k loc H fun X l1 H1 => ∃ x, X = .str x ∧ WE F v l1 H1 fun Y l2 H2 => WPs F ps pos l2 H2 fun kvs l3 H3 => Q ((x, Y) :: kvs) l3 H3) : WPs F ((k, v) :: ps) pos loc H Q := fun B s R => by
  show wpAny F.M F.A (evalPairs (((k, v) :: ps).map _)) _ _ _
  rw [List.map_cons, evalPairs]
  refine wpAny_bind ((h B s R).then fun kv B1 X l1 H1 s1 le1 rk R1 ⟨x, hX, h1⟩ => ?_)
  subst hX
  cases rk with | str _ t hk => ?_
  refine wpAny_bind (wpAny_holding (wpAny_bind ((h1 B1 s1 R1).then fun vv B2 Y l2 H2 s2 le2 rv R2 h2 => wpAny_bind (wpAny_standAt (wpAny_pure ?_)))))
  refine wpAny_bind (wpAny_holding ((h2 B2 s2 R2).then fun vs B3 kvs l3 H3 s3 le3 ⟨cs, c1, c2, c3⟩ R3 q => wpAny_pure ?_))
  refine (Post.pure (b := (x, Y) :: kvs) ⟨(x, vv) :: cs, ⟨strKind_is _ _, rfl, c1⟩, .cons (rv.mono le3) c2, fun p hp => ?_⟩ R3 q).lift (le1.trans (le2.trans le3))
  cases hp with
  | head _ => exact hk
  | tail _ hp => exact c3 p hp
theorem RelKs.merged {B : Keep} {cs : List (Str × Value)} {kvs : List (Str × V)} (h : RelKs B cs kvs) : ∀ {cs0 : List (Str × Value)} {kvs0 : List (Str × V)}, RelKs B cs0 kvs0 → RelKs B (PySem.merged cs0 cs) (kvs.foldl (fun d p => dput d p.1 p.2) kvs0) := by
  induction h with
  | nil => intro _ _ h; exact h
  | cons r t ih => intro _ _ h; exact ih (h.stored r)
theorem WE_DictD {keys : List (Option Expr)} {values : List Expr} {pos : Pos} {Q : V → Loc → Hp → Prop} (ps : List (Expr × Expr))
    (hshape : (evalEachOpt keys F.env).zip ((evalEach values F.env).map fun v => do let x ← v; standAt pos; pure x) = (ps.map fun p => (eval p.1 F.env, do let x ← eval p.2 F.env; standAt pos; pure x)).map fun p => (some p.1, p.2)) (h0 : ps ≠ []) (hlen : ps.length ≤ 15)
    (h : ∀ a, H.Fresh a → WPs F ps pos loc { H with D := up H.D a [] } fun kvs l1 H1 => H1.D a = some [] ∧ H1.G a = none ∧ Q (.ref a) l1 { H1 with D := up H1.D a (kvs.foldl (fun d p => dput d p.1 p.2) []) }) : WE F (.Dict keys values pos) loc H Q := fun B s R => by
  have hf := R.fresh_H (R.fresh (Nat.le_refl s.heap.objs.size)).1
  refine wpAny_Dict_pairs (knd := PySem.strKind F.c.prog F.c.w) hshape (by intro e; exact h0 (List.map_eq_nil_iff.mp e)) (by rw [List.length_map]; exact hlen) ?_
  have R1 : FRel F B loc { H with D := up H.D s.heap.objs.size [] } { s with heap := s.heap.push { cls := .type "dict", data := .dict #[] } } :=
    R.newD (s' := { s with heap := s.heap.push { cls := .type "dict", data := .dict #[] } }) (cs := []) (Nat.le_refl _) (fun b o e => Heap.get?_push_of_some _ e) (fun p hp => nomatch hp) ⟨_, #[], 0, Heap.get?_push_size _ rfl, ⟨rfl, rfl, rfl⟩, rfl, fun _ he => by simp at he, .nil, List.nodup_nil⟩ .nil rfl rfl
  refine (h _ hf B _ R1).then fun vs B1 kvs l1 H1 s1 le1 ⟨cs, c1, c2, c3⟩ R2 ⟨e1, e2, q⟩ => ⟨cs, c1, ?_, fun h' hd hs => ?_⟩
  · obtain ⟨_, cs', hd, hr⟩ := (R2.own _).d _ e1
    cases hr
    exact hd
  · refine (Post.pure (.ref _) (R2.setD (s' := { s1 with heap := h', toks := s1.toks + vs.length }) e1 e2 (fun b o hb z => (hs.2 b hb).trans z) ?_ hd (c2.merged .nil) rfl rfl) q).lift le1
    have gen : ∀ (kvs kvs0 : List (Str × V)), (∀ p ∈ kvs, PyData.strOk p.1 = true) → (∀ p ∈ kvs0, PyData.strOk p.1 = true) → ∀ p ∈ kvs.foldl (fun d p => dput d p.1 p.2) kvs0, PyData.strOk p.1 = true := by
      intro kvs
      induction kvs with
      | nil => intro kvs0 _ h0; exact h0
      | cons p kvs ih =>
        intro kvs0 h h0
        refine ih _ (fun q hq => h q (.tail _ hq)) ?_
        intro q hq
        change q ∈ dput kvs0 p.1 p.2 at hq
        unfold dput at hq
        split at hq
        · obtain ⟨q', hq', rfl⟩ := List.mem_map.mp hq
          split
          · exact h0 q' hq'
          · exact h0 q' hq'
        · rcases List.mem_append.mp hq with hq | hq
          · exact h0 _ hq
          · simp at hq; subst hq; exact h p (.head _)
    exact gen _ _ c3 (fun _ h => nomatch h)
end
end Lay
end
noncomputable section
open PySem PySem.W PyProof.Rows PySem.Calls
set_option Elab.async false
set_option maxRecDepth 100000
set_option linter.all false
namespace Lay
section
variable {F : Fx} {n : Nat} {loc : Loc} {H : Hp}

theorem strOk_append {x y : Str} (hx : PyData.strOk x = true) (hy : PyData.strOk y = true) : PyData.strOk (x ++ y) = true := by
  unfold PyData.strOk at *
  show (x.cps ++ y.cps).all _ = true
  rw [Array.all_append, hx, hy]; rfl
noncomputable def WFld (F : Fx) (e : Expr) (loc : Loc) (H : Hp) (Q : Str → Loc → Hp → Prop) : Prop := ∀ B s, FRel F B loc H s → PW F (eval e F.env) (fun _ v y => (∃ t, v = .str y t) ∧ PyData.strOk y = true ∧ y.length ≤ 10000) B s Q
theorem WFld_str {value : Expr} {pos : Pos} {Q : Str → Loc → Hp → Prop} (h : WE F value loc H fun X l H => ∃ y, X = .str y ∧ y.length ≤ 10000 ∧ Q y l H) : WFld F (.FormattedValue value (-1) none pos) loc H Q := fun B s R => by
  refine FormattedValue_plain ((h B s R).then fun v B1 X l1 H1 s1 le1 r R1 ⟨y, hX, hy, q⟩ => ?_)
  subst hX
  cases r with | str _ t hk => ?_
  refine formatField_str (fun t' tk => ?_) (by rw [sizeLine_eq]; omega)
  exact (Post.pure (b := y) ⟨⟨t', rfl⟩, hk, hy⟩ (R1.grow (s' := { s1 with toks := tk }) (fun _ _ e => e) rfl rfl) q).lift le1
theorem WFld_int {value : Expr} {pos : Pos} {Q : Str → Loc → Hp → Prop} (h : WE F value loc H fun X l H => ∃ i : Int, X = .int i ∧ i.natAbs.log2 < 1920 ∧ (Str.ofString (toString i)).length ≤ 10000 ∧ Q (Str.ofString (toString i)) l H) : WFld F (.FormattedValue value (-1) none pos) loc H Q := fun B s R => by
  refine FormattedValue_plain ((h B s R).then fun v B1 X l1 H1 s1 le1 r R1 ⟨i, hX, hi, hl, q⟩ => ?_)
  subst hX
  cases r
  refine formatField_int_small hi ?_
  exact (Post.pure (b := Str.ofString (toString i)) ⟨⟨_, rfl⟩, ofString_ok _, hl⟩ (R1.grow (s' := { s1 with toks := s1.toks + 1 + 1 }) (fun _ _ e => e) rfl rfl) q).lift le1
theorem WE_FStr2 {a b : Expr} {pos : Pos} {Q : V → Loc → Hp → Prop} (h : WFld F a loc H fun x l1 H1 => WFld F b l1 H1 fun y l2 H2 => Q (.str (Str.empty ++ x ++ y)) l2 H2) : WE F (.JoinedStr [a, b] pos) loc H Q := fun B s R => by
  have e : ∀ x y : Str, (x ++ y).length = x.length + y.length := strLen_append
  have e0 : Str.empty.length = 0 := rfl
  refine JoinedStr_many (joinParts_cons ((h B s R).then fun v B1 x l1 H1 s1 le1 ⟨⟨t, hv⟩, hx, lx⟩ R1 h1 => ?_))
  subst hv
  refine ⟨by rw [e, e0, sizeLine_eq]; omega, joinParts_cons ((h1 B1 s1 R1).then fun v2 B2 y l2 H2 s2 le2 ⟨⟨t2, hv2⟩, hy, ly⟩ R2 q => ?_)⟩
  subst hv2
  refine ⟨by rw [e, e, e0, sizeLine_eq]; omega, joinParts_nil ((Post.pure (.str _ _ (strOk_append (strOk_append (by simp [PyData.strOk, Str.empty]) hx) hy)) (R2.tok _) q).lift (le1.trans le2)) (by rw [e, e, e0, sizeLine_eq]; omega)⟩

noncomputable def CCall (F : Fx) (f : Addr) (Xs : List V) (kws : List Str) (Ws : List V) (loc : Loc) (H : Hp) (Q : V → Loc → Hp → Prop) : Prop :=
  ∀ B s vs ws (RR : Result → Shared → Prop), FRel F B loc H s → RelVs B vs Xs → RelVs B ws Ws → (∀ v s', Post F RelV B Q v s' → RR (.ok (.ret v)) s') → codeAny F.M F.A (.call (.ref f) ⟨vs, kws.zip ws⟩) RR s
theorem CCall_def (ok : Ok F (n + 1)) {f : Addr} {fd : FuncData} {body : List Stmt} {kws : List Str} {Xs Ws : List V} {bV : List (Str × V)} {Q : V → Loc → Hp → Prop} (W : Fn F.c.base f fd body)
    (hbind : ∀ (vs ws : List Value) (B : Keep), RelVs B vs Xs → RelVs B ws Ws → Le (fun a => F.c.base.get? a) B → ∃ bs, Looks F.M F.c.base (bindArgs fd ⟨vs, kws.zip ws⟩) bs ∧ RelKs B bs bV)
    (hnd : (bV.map (·.1)).Nodup) (hloc : ∀ x ∈ bV.map (·.1), fd.scope.names.lookup x = some .local ∨ fd.scope.names.lookup x = some .cell)
    (h : ∀ sv A L E, Ok ⟨F.c.sv sv, A, callEnvC fd L f, E⟩ n → Top ⟨F.c.sv sv, A, callEnvC fd L f, E⟩ → (∀ x c, (x, c) ∈ cellsFrom (L + 1) fd.scope.names [] → H.Fresh c) →
      WSs ⟨F.c.sv sv, A, callEnvC fd L f, E⟩ body (initLoc fd.scope.names bV) (addCells H bV (cellsFrom (L + 1) fd.scope.names [])) fun fl _ H' => Q (retV fl) loc H') : CCall F f Xs kws Ws loc H Q := fun B s vs ws RR R rvs rws hR =>
  Code_def ok W hbind hnd hloc (fun sv L ok' tp hf => h sv _ L _ ok' tp hf) R rvs rws hR

noncomputable abbrev Fx.under (F : Fx) (c : Code) : Fx := { F with A := F.A.under c }
theorem frames_call (args : Args) : Code.frames (.builtin "type.__call__" args) = 0 := by
  unfold Code.frames
  first | rfl | (simp; done)
theorem Ok.underC (ok : Ok F (n + 1)) {C : Addr} {vs : List Value} {kw : List (Str × Value)} : Ok (F.under (.builtin "type.__call__" ⟨.ref C :: vs, kw⟩)) n := by
  have hf := frames_call ⟨.ref C :: vs, kw⟩
  have hw : Code.weight (.builtin "type.__call__" ⟨.ref C :: vs, kw⟩) ≤ 2 := by
    unfold Code.weight
    rw [hf]
    have h1 : Code.isGuard (.builtin "type.__call__" ⟨.ref C :: vs, kw⟩) = false := by show guardIds.contains "type.__call__" = false; decide
    have h2 : Code.isCaller (.builtin "type.__call__" ⟨.ref C :: vs, kw⟩) = false := by rfl
    rw [h1, h2]
    split <;> simp
  have hu : Code.cUnits (.builtin "type.__call__" ⟨.ref C :: vs, kw⟩) = 1 := by
    show 1 + 3 * Code.frames _ = 1
    rw [hf]
  have he : Code.envs (.builtin "type.__call__" ⟨.ref C :: vs, kw⟩) = [] := by rfl
  refine ⟨ok.fn, ok.glob, ok.bi, ok.dbg, ?_, ?_, fun _ => ok.handled (by omega), ?_⟩
  · have := ok.units
    show F.A.units + Code.cUnits _ + 40 * n + 200 < cLine
    rw [hu]; omega
  · have := ok.depth
    show F.A.depth + Code.weight _ + 4 * n + 4 < recursionLimit
    omega
  · obtain ⟨fl, h1, h2⟩ := ok.fr
    refine ⟨fl, ?_, h2⟩
    show pushEnvs (Code.envs (.builtin "type.__call__" ⟨.ref C :: vs, kw⟩)) F.A.frames = some fl
    rw [he]; exact h1

theorem Call_cls (ok : Ok F (n + 1)) {K : Frag} (hK : K.In F.c.base) {C fI : Addr} {Xs : List V} {Q : V → Loc → Hp → Prop} (hm : makesIn K C = true) (hi : findIn K (.ref C) "__init__" = some (some (.ref fI))) (hf : typeIn K (.ref fI) = some (.type "function"))
    (h : ∀ A' x d, Ok { F with A := A' } n → H.Fresh x → H.Fresh d → d < x → CCall { F with A := A' } fI (.ref x :: Xs) [] [] loc { H with I := up H.I x (C, d), D := up H.D d [] } fun X l H' => X = .none ∧ Q (.ref x) l H') : Call F (.ref C) Xs loc H Q := fun B s v vs R rv rvs => by
  cases rv
  obtain ⟨hh, g, dr, t, os⟩ := s
  have X : K.In hh := fun a o e => R.inBase (hK a o e)
  have Y : Makes F.M hh C := makes_of X hm
  refine wpAny_call (make_core (rest := vs) (kw := []) Y (looks_findIn X hi) (fun self => bind_fn X self hf) (.inl (by simp)) ?_)
  have R1 : FRel F B loc { H with D := up H.D hh.objs.size [] } ⟨hh.push emptyDict, g, dr, t, os⟩ :=
    R.newD (s' := ⟨hh.push emptyDict, g, dr, t, os⟩) (a := hh.objs.size) (cs := []) (Nat.le_refl _) (fun b o e => Heap.get?_push_of_some _ e) (fun p hp => nomatch hp) ⟨_, #[], 0, Heap.get?_push_size _ rfl, ⟨rfl, rfl, rfl⟩, rfl, fun _ he => by simp at he, .nil, List.nodup_nil⟩ .nil rfl rfl
  have R2 : FRel F B loc { H with I := up H.I (hh.objs.size + 1) (C, hh.objs.size), D := up H.D hh.objs.size [] } ⟨(hh.push emptyDict).push (instObj C hh.objs.size), g, dr, t, os⟩ :=
    R1.newI (s' := ⟨(hh.push emptyDict).push (instObj C hh.objs.size), g, dr, t, os⟩) (a := hh.objs.size + 1) (Cd' := (C, hh.objs.size)) (by show (hh.push emptyDict).objs.size ≤ _; rw [Heap.size_push]; exact Nat.le_refl _) (fun b o e => Heap.get?_push_of_some _ e) (by
      have := Heap.get?_push_size (hh.push emptyDict) (o := instObj C hh.objs.size) rfl
      rw [Heap.size_push] at this; exact this) rfl rfl
  refine h _ (hh.objs.size + 1) hh.objs.size ok.underC (R.fresh_H (R.fresh (Nat.le_succ _)).1) (R.fresh_H (R.fresh (Nat.le_refl _)).1) (Nat.lt_succ_self _) B _ (.ref (hh.objs.size + 1) :: vs) [] _ R2 (.cons (.ref _) rvs) .nil ?_
  intro v s' p
  obtain ⟨B', b, l', H', le, r, R', rfl, q⟩ := p
  cases r
  exact ⟨rfl, B', _, l', H', le, .ref _, R', q⟩

theorem hm_KeyError {A : Around} {E : Value → Shared → Prop} {B l H} {s : Shared} {e : Value} {b : Bool} {Q : Bool → Shared → Prop} (f : Fly F b B l H (.type "KeyError") e s) (q : Q true s) : wpAny F.M A (excMatches e (.type "KeyError")) Q E s :=
  wpAny_excMatches_type (Fly.typeIs (C := "KeyError") f) (by rw [isSubtype_type]; kernel_rfl) (by kernel_rfl) (by rw [isSubtype_type]; kernel_rfl) q
end
end Lay
end
noncomputable section
open PySem PySem.W PyProof.Rows PySem.Calls
set_option Elab.async false
set_option maxRecDepth 100000
set_option linter.all false
namespace Lay
structure Wd (K : Frag) (h : Heap) : Prop where
  k : K.In h
  g : ∃ mg, h.Ns mainGlobals mg
  b : ∃ mb : Str → Option Value, h.Ns builtinsNs mb ∧ ∀ x : Str, x ≠ "__name__" → mb x = bootBuiltins x
  nolim : h.NoLimit
noncomputable def kFd (K : Frag) (a : Addr) : Option FuncData := match K.lookup a with
  | some ⟨_, _, .func fd, _⟩ => some fd
  | _ => none
noncomputable def noDup : List Str → Bool
  | [] => true
  | x :: r => !r.contains x && noDup r
theorem noDup_of : ∀ {l : List Str}, noDup l = true → l.Nodup
  | [], _ => .nil
  | x :: r, h => by
    unfold noDup at h
    simp only [Bool.and_eq_true, Bool.not_eq_true'] at h
    refine List.nodup_cons.mpr ⟨fun hm => ?_, noDup_of h.2⟩
    have := h.1
    rw [List.contains_eq_mem] at this
    simp [hm] at this
noncomputable def okFd (K : Frag) (fd : FuncData) : Bool := codeIn K fd.code fd.qualname && fd.closure.isEmpty && noDup (fd.scope.names.map (·.1)) && fd.globals == mainGlobals && fd.builtins == builtinsNs && fd.scope.kind == .function && !fd.scope.isCoroutine && !fd.scope.isGenerator && (fd.scope.names.lookup ("__debug__" : Str)).isNone
theorem Fn.of {K : Frag} {b : Heap} (W : Wd K b) {a : Addr} {fd : FuncData} {body : List Stmt} (h : kFd K a = some fd) (hb : fd.body = .stmts body) (ho : okFd K fd = true) : Fn b a fd body := by
  unfold okFd at ho
  simp only [Bool.and_eq_true, Bool.not_eq_true', beq_iff_eq, List.isEmpty_iff, Option.isNone_iff_eq_none] at ho
  obtain ⟨⟨⟨⟨⟨⟨⟨⟨h1, h2⟩, h3⟩, h4⟩, h5⟩, h6⟩, h7⟩, h8⟩, h9⟩ := ho
  refine ⟨?_, W.nolim, codeRec_of W.k h1, hb, h2, noDup_of h3, h4, h5, h6, h7, h8, h9⟩
  unfold kFd at h
  split at h
  · rename_i ho
    cases h
    exact ⟨_, W.k _ _ ho, rfl⟩
  · cases h
section
variable {F : Fx} {n : Nat} {loc : Loc} {H : Hp} {K : Frag}
theorem WE_glob (ok : Ok F n) (W : Wd K F.c.base) {x : Str} {pos : Pos} {i : Nat} {v : Value} {X : V} {Q : V → Loc → Hp → Prop} (hx : look F.nm x = some (i, .globalImplicit)) (e : nsIn K mainGlobals x = some (some v))
    (r : RelV (fun a => F.c.base.get? a) v X) (q : Q X loc H) : WE F (.Name x pos) loc H Q := by
  obtain ⟨mg, hg⟩ := W.g
  exact WE_global ok W.k hg hx e r q
theorem WE_bi (ok : Ok F n) (W : Wd K F.c.base) {x : Str} {pos : Pos} {i : Nat} {v : Value} {Q : V → Loc → Hp → Prop}
    (hx : look F.nm x = some (i, .globalImplicit)) (e : nsIn K mainGlobals x = some none) (hv : bootBuiltins x = some v) (hn : x ≠ "__name__") (q : Q (.raw v) loc H) : WE F (.Name x pos) loc H Q := by
  obtain ⟨mg, hg⟩ := W.g
  obtain ⟨mb, hb, hbb⟩ := W.b
  exact WE_builtin ok W.k hg hb hbb hx e hv hn q
theorem rel_base {h : Heap} (W : Wd K h) {a : Addr} {items : Array Value} {n : Nat} {xs : List V} (e : K.lookup a = some (lstObj items n)) (r : RelVs (fun a => h.get? a) items.toList xs) : RelV (fun a => h.get? a) (.ref a) (.list xs) := .list (W.k _ _ e) r
end
end Lay
namespace Lay
section
variable {F : Fx} {n : Nat} {loc : Loc} {H : Hp} {K : Frag}
noncomputable def setOk (K : Frag) (C : Addr) (name : Str) : Bool := findIn K (.ref C) "__setattr__" == some (some (.builtin "object.__setattr__")) && plainOver K C && takerIn K C name == some none && hasDictIn K C
noncomputable def getOk (K : Frag) (C : Addr) (name : Str) : Bool := plainGet K C name && hasDictIn K C && findIn K (.ref C) name == some none
noncomputable def metOk (K : Frag) (C : Addr) (name : Str) (f : Addr) : Bool := plainGet K C name && findIn K (.ref C) name == some (some (.ref f)) && isFn K (.ref f)
noncomputable def clsOk (K : Frag) (C fI : Addr) : Bool := makesIn K C && findIn K (.ref C) "__init__" == some (some (.ref fI)) && typeIn K (.ref fI) == some (.type "function")
theorem SetA_k (W : Wd K F.c.base) {x C d : Addr} {fs : List (Str × V)} {name : Str} {Z : V} {Q : Loc → Hp → Prop} (eI : H.I x = some (C, d)) (eD : H.D d = some fs) (eG : H.G d = none) (hz : fs.length ≤ 900)
    (q : Q loc { H with D := up H.D d (dput fs name Z) }) (ho : setOk K C name = true := by rfl) (hn : PyData.strOk name = true := by exact ofString_ok _) : SetA F name (.ref x) Z loc H Q := by
  unfold setOk at ho
  simp only [Bool.and_eq_true, beq_iff_eq] at ho
  obtain ⟨⟨⟨h1, h2⟩, h3⟩, h4⟩ := ho
  exact SetA_own W.k eI eD eG h1 h2 h3 h4 hn hz q
theorem GetA_k (W : Wd K F.c.base) {x C d : Addr} {fs : List (Str × V)} {name : Str} {Y : V} {Q : V → Loc → Hp → Prop} (eI : H.I x = some (C, d)) (eD : H.D d = some fs) (hy : dget fs name = some Y) (hr : notRaw Y = true)
    (q : Q Y loc H) (ho : getOk K C name = true := by rfl) : GetA F name (.ref x) loc H Q := by
  unfold getOk at ho
  simp only [Bool.and_eq_true, beq_iff_eq] at ho
  obtain ⟨⟨h1, h2⟩, h3⟩ := ho
  exact GetA_own W.k eI eD hy hr h1 h2 h3 q
theorem GetI_k (W : Wd K F.c.base) {C : Addr} {fs : List (Str × V)} {name : Str} {Y : V} {Q : V → Loc → Hp → Prop} (hy : dget fs name = some Y) (hr : notRaw Y = true)
    (q : Q Y loc H) (ho : getOk K C name = true := by rfl) : GetA F name (.inst C fs) loc H Q := by
  unfold getOk at ho
  simp only [Bool.and_eq_true, beq_iff_eq] at ho
  obtain ⟨⟨h1, h2⟩, h3⟩ := ho
  exact GetA_inst W.k hy hr h1 h2 h3 q
theorem MGet_k (W : Wd K F.c.base) {x C d f : Addr} {fs : List (Str × V)} {name : Str} {Q : V → List V → Loc → Hp → Prop} (eI : H.I x = some (C, d)) (eD : H.D d = some fs) (hy : dget fs name = none)
    (q : Q (.ref f) [.ref x] loc H) (ho : metOk K C name f = true := by rfl) : MGet F name (.ref x) loc H Q := by
  unfold metOk at ho
  simp only [Bool.and_eq_true, beq_iff_eq] at ho
  obtain ⟨⟨h1, h2⟩, h3⟩ := ho
  exact MGet_own W.k eI eD hy h1 h2 h3 q
theorem Call_clsK (ok : Ok F (n + 1)) (W : Wd K F.c.base) {C : Addr} (fI : Addr) {Xs : List V} {Q : V → Loc → Hp → Prop}
    (h : ∀ A' x d, Ok { F with A := A' } n → H.Fresh x → H.Fresh d → d < x → CCall { F with A := A' } fI (.ref x :: Xs) [] [] loc { H with I := up H.I x (C, d), D := up H.D d [] } fun X l H' => X = .none ∧ Q (.ref x) l H') (ho : clsOk K C fI = true := by rfl) : Call F (.ref C) Xs loc H Q := by
  unfold clsOk at ho
  simp only [Bool.and_eq_true, beq_iff_eq] at ho
  obtain ⟨⟨h1, h2⟩, h3⟩ := ho
  exact Call_cls ok W.k h1 h2 h3 h
theorem zip_keys {α : Type} : ∀ (pn : List Str) (vs : List α), ((pn.zip vs).map (·.1)).Sublist pn
  | [], vs => by simp
  | p :: r, [] => by simp
  | p :: r, v :: vs => by simpa using zip_keys r vs
noncomputable def parOk (fd : FuncData) (pn : List Str) : Bool := noDup pn && pn.all fun x => fd.scope.names.lookup x == some .local || fd.scope.names.lookup x == some .cell
theorem par_nd {fd : FuncData} {pn : List Str} (h : parOk fd pn = true) (Vs : List V) : ((pn.zip Vs).map (·.1)).Nodup ∧ ∀ x ∈ (pn.zip Vs).map (·.1), fd.scope.names.lookup x = some .local ∨ fd.scope.names.lookup x = some .cell := by
  unfold parOk at h
  simp only [Bool.and_eq_true, List.all_eq_true, Bool.or_eq_true, beq_iff_eq] at h
  exact ⟨(zip_keys pn Vs).nodup (noDup_of h.1), fun x hx => h.2 x ((zip_keys pn Vs).subset hx)⟩
noncomputable def BindTo (M : Model) (b : Heap) (fd : FuncData) (kws pn : List Str) (Xs Ws Vs : List V) : Prop :=
  ∀ (vs ws : List Value) (B : Keep), RelVs B vs Xs → RelVs B ws Ws → Le (fun a => b.get? a) B → ∃ us, Looks M b (bindArgs fd ⟨vs, kws.zip ws⟩) (pn.zip us) ∧ RelVs B us Vs
theorem CCall_k (ok : Ok F (n + 1)) (W : Wd K F.c.base) {f : Addr} {fd : FuncData} {body : List Stmt} (pn : List Str) {kws : List Str} {Xs Ws Vs : List V} {Q : V → Loc → Hp → Prop}
    (hfd : kFd K f = some fd) (hb : fd.body = .stmts body) (ho : okFd K fd = true) (hp : parOk fd pn = true) (hbind : BindTo F.M F.c.base fd kws pn Xs Ws Vs)
    (h : ∀ sv A L E, Ok ⟨F.c.sv sv, A, callEnvC fd L f, E⟩ n → Top ⟨F.c.sv sv, A, callEnvC fd L f, E⟩ → (∀ x c, (x, c) ∈ cellsFrom (L + 1) fd.scope.names [] → H.Fresh c) →
      WSs ⟨F.c.sv sv, A, callEnvC fd L f, E⟩ body (initLoc fd.scope.names (pn.zip Vs)) (addCells H (pn.zip Vs) (cellsFrom (L + 1) fd.scope.names [])) fun fl _ H' => Q (retV fl) loc H') : CCall F f Xs kws Ws loc H Q :=
  CCall_def ok (Fn.of W hfd hb ho) (fun vs ws B r1 r2 le => let ⟨us, h1, h2⟩ := hbind vs ws B r1 r2 le; ⟨_, h1, relKs_zip h2⟩) (par_nd hp Vs).1 (par_nd hp Vs).2 h
theorem Call_of {f : Addr} {Xs : List V} {Q : V → Loc → Hp → Prop} (h : CCall F f Xs [] [] loc H Q) : Call F (.ref f) Xs loc H Q := fun B s v vs R rv rvs => by
  cases rv
  exact wpAny_call (h B s vs [] (F.plainR (Post F RelV B Q)) R rvs .nil fun v s' p => p)
theorem KeepOk_k (W : Wd K F.c.base) {a : Addr} (e : keepIn K (.ref a) = true) : KeepOk F (.ref a) loc H := KeepOk_base W.k e
end
end Lay
namespace Lay
section
variable {F : Fx} {n : Nat} {loc : Loc} {H : Hp} {K : Frag}
noncomputable def noCells (fd : FuncData) : Bool := fd.scope.names.all fun p => p.2 != .cell
theorem cellsFrom_none : ∀ (names : List (Str × NameKind)) (k : Nat) (acc : List (Str × Addr)), (names.all fun p => p.2 != .cell) = true → cellsFrom k names acc = acc
  | [], _, _, _ => rfl
  | (y, kd) :: r, k, acc, h => by
    rw [List.all_cons, Bool.and_eq_true] at h
    unfold cellsFrom
    have : ¬ (kd == NameKind.cell) = true := by simpa [bne] using h.1
    first
      | (rw [if_neg this]; exact cellsFrom_none r k acc h.2)
      | (have h' : kd ≠ NameKind.cell := by simpa using h.1
         rw [if_neg h']; exact cellsFrom_none r k acc h.2)
theorem CCall_p (ok : Ok F (n + 1)) (W : Wd K F.c.base) {f : Addr} {fd : FuncData} {body : List Stmt} (pn : List Str) {kws : List Str} {Xs Ws Vs : List V} {l0 : Loc} {Q : V → Loc → Hp → Prop}
    (hfd : kFd K f = some fd) (hb : fd.body = .stmts body) (ho : okFd K fd = true) (hp : parOk fd pn = true) (hc : noCells fd = true) (hbind : BindTo F.M F.c.base fd kws pn Xs Ws Vs) (hl : initLoc fd.scope.names (pn.zip Vs) = l0)
    (h : ∀ sv A L E, Ok ⟨F.c.sv sv, A, callEnvC fd L f, E⟩ n → Top ⟨F.c.sv sv, A, callEnvC fd L f, E⟩ → WSs ⟨F.c.sv sv, A, callEnvC fd L f, E⟩ body l0 H fun fl _ H' => Q (retV fl) loc H') : CCall F f Xs kws Ws loc H Q :=
  CCall_k ok W pn hfd hb ho hp hbind fun sv A L E ok' tp _ => by
    rw [hl, cellsFrom_none _ _ _ hc]
    exact h sv A L E ok' tp
end
end Lay
end
noncomputable section
open PySem PySem.W PyProof.Rows PySem.Calls
set_option Elab.async false
set_option maxRecDepth 100000
set_option linter.all false
namespace Lay
noncomputable def FrameIs (F : Fx) (nm : List (Str × NameKind)) (cl : List (Str × Addr)) : Prop := F.env.scope.names = nm ∧ F.env.cells = cl
section
variable {F : Fx} {n : Nat} {loc : Loc} {H : Hp} {K : Frag} {nm : List (Str × NameKind)} {cl : List (Str × Addr)}

theorem gLoc (ok : Ok F n) (hF : FrameIs F nm cl) {x : Str} {pos : Pos} {i : Nat} {X : V} {Q : V → Loc → Hp → Prop} (hx : look nm x = some (i, .local)) (hv : loc[i]? = some (some X)) (q : Q X loc H) : WE F (.Name x pos) loc H Q :=
  WE_local ok (by rw [← hF.1] at hx; exact hx) hv q
theorem gCell (ok : Ok F n) (hF : FrameIs F nm cl) {x : Str} {pos : Pos} {i : Nat} {a : Addr} {X : V} {Q : V → Loc → Hp → Prop} (hx : look nm x = some (i, .cell)) (hc : cl.lookup x = some a) (e : H.C a = some (some X)) (q : Q X loc H) : WE F (.Name x pos) loc H Q :=
  WE_cell ok (by rw [← hF.1] at hx; exact hx) (by rw [hF.2]; exact hc) e q
theorem gGlob (ok : Ok F n) (W : Wd K F.c.base) (hF : FrameIs F nm cl) {x : Str} {pos : Pos} {i : Nat} {v : Value} {X : V} {Q : V → Loc → Hp → Prop} (hx : look nm x = some (i, .globalImplicit)) (e : nsIn K mainGlobals x = some (some v))
    (r : RelV (fun a => F.c.base.get? a) v X) (q : Q X loc H) : WE F (.Name x pos) loc H Q :=
  WE_glob ok W (by rw [← hF.1] at hx; exact hx) e r q
theorem gBi (ok : Ok F n) (W : Wd K F.c.base) (hF : FrameIs F nm cl) {x : Str} {pos : Pos} {i : Nat} {v : Value} {Q : V → Loc → Hp → Prop}
    (hx : look nm x = some (i, .globalImplicit)) (e : nsIn K mainGlobals x = some none) (hv : bootBuiltins x = some v) (hn : x ≠ "__name__") (q : Q (.raw v) loc H) : WE F (.Name x pos) loc H Q :=
  WE_bi ok W (by rw [← hF.1] at hx; exact hx) e hv hn q
theorem tLoc (ok : Ok F n) (hF : FrameIs F nm cl) {x : Str} {p : Pos} {i : Nat} {X : V} {Q : Loc → Hp → Prop} (hx : look nm x = some (i, .local)) (q : Q (loc.set i (some X)) H) : WA F (.Name x p) X loc H Q :=
  WA_local ok (by rw [← hF.1] at hx; exact hx) q
theorem tCell (ok : Ok F n) (hF : FrameIs F nm cl) {x : Str} {p : Pos} {i : Nat} {a : Addr} {X : V} {ov : Option V} {Q : Loc → Hp → Prop} (hx : look nm x = some (i, .cell)) (hc : cl.lookup x = some a) (e : H.C a = some ov) (q : Q loc { H with C := up H.C a (some X) }) : WA F (.Name x p) X loc H Q :=
  WA_cell ok (by rw [← hF.1] at hx; exact hx) (by rw [hF.2]; exact hc) e q
theorem sAsg (ok : Ok F n) (hF : FrameIs F nm cl) {x : Str} {i : Nat} {e : Expr} {p pos : Pos} {Q : Fl → Loc → Hp → Prop} (hx : look nm x = some (i, .local)) (h : WE F e loc H fun X l1 H1 => Q .next (l1.set i (some X)) H1)
    (hs : swapsWith e (some (.Name x p)) pos.line F.env = pure false := by rfl) : WS F (.Assign [.Name x p] e pos) loc H Q :=
  WS_Assign ok (by rw [← hF.1] at hx; exact hx) h hs
theorem sAsgC (ok : Ok F n) (hF : FrameIs F nm cl) {x : Str} {i : Nat} {a : Addr} {e : Expr} {p pos : Pos} {Q : Fl → Loc → Hp → Prop} (hx : look nm x = some (i, .cell)) (hc : cl.lookup x = some a) (h : WE F e loc H fun X l1 H1 => (∃ ov, H1.C a = some ov) ∧ Q .next l1 { H1 with C := up H1.C a (some X) })
    (hs : swapsWith e (some (.Name x p)) pos.line F.env = pure false := by rfl) : WS F (.Assign [.Name x p] e pos) loc H Q :=
  WS_AssignC ok (by rw [← hF.1] at hx; exact hx) (by rw [hF.2]; exact hc) h hs
theorem sAug (ok : Ok F n) (hF : FrameIs F nm cl) {x : Str} {p pos : Pos} {i : Nat} {op : Operator} {e : Expr} {X : V} {Q : Fl → Loc → Hp → Prop} (hx : look nm x = some (i, .local)) (hv : loc[i]? = some (some X))
    (h : WE F e loc H fun Y l1 H1 => Op2 F (inplaceOp op) X Y l1 H1 fun Z l2 H2 => Q .next (l2.set i (some Z)) H2) : WS F (.AugAssign (.Name x p) op e pos) loc H Q :=
  WS_Aug ok (by rw [← hF.1] at hx; exact hx) hv h
theorem sExpr (ok : Ok F n) {e : Expr} {pos : Pos} {Q : Fl → Loc → Hp → Prop} (h : WE F e loc H fun X l1 H1 => Q .next l1 H1) (hs : swapsWith e none pos.line F.env = pure false := by rfl) : WS F (.Expr e pos) loc H Q :=
  WS_Expr h (by unfold interactive; rw [ok.fn]; rfl) hs
theorem setA (ok : Ok F n) (W : Wd K F.c.base) {x C d : Addr} {fs : List (Str × V)} {name : Str} {Z : V} {Q : Loc → Hp → Prop} (eI : H.I x = some (C, d)) (eD : H.D d = some fs) (eG : H.G d = none) (hz : fs.length ≤ 900)
    (q : Q loc { H with D := up H.D d (dput fs name Z) }) (ho : setOk K C name = true := by rfl) (hn : PyData.strOk name = true := by exact ofString_ok _) : SetA F name (.ref x) Z loc H Q := SetA_k W eI eD eG hz q ho hn
theorem getA (ok : Ok F n) (W : Wd K F.c.base) {x C d : Addr} {fs : List (Str × V)} {name : Str} {Y : V} {Q : V → Loc → Hp → Prop} (eI : H.I x = some (C, d)) (eD : H.D d = some fs) (hy : dget fs name = some Y) (hr : notRaw Y = true)
    (q : Q Y loc H) (ho : getOk K C name = true := by rfl) : GetA F name (.ref x) loc H Q := GetA_k W eI eD hy hr q ho
theorem getI (ok : Ok F n) (W : Wd K F.c.base) {C : Addr} {fs : List (Str × V)} {name : Str} {Y : V} {Q : V → Loc → Hp → Prop} (hy : dget fs name = some Y) (hr : notRaw Y = true)
    (q : Q Y loc H) (ho : getOk K C name = true := by rfl) : GetA F name (.inst C fs) loc H Q := GetI_k W hy hr q ho
theorem getM (ok : Ok F n) (W : Wd K F.c.base) {x C d f : Addr} {fs : List (Str × V)} {name : Str} {Q : V → List V → Loc → Hp → Prop} (eI : H.I x = some (C, d)) (eD : H.D d = some fs) (hy : dget fs name = none)
    (q : Q (.ref f) [.ref x] loc H) (ho : metOk K C name f = true := by rfl) : MGet F name (.ref x) loc H Q := MGet_k W eI eD hy q ho
theorem keepK (ok : Ok F n) (W : Wd K F.c.base) {a : Addr} (e : keepIn K (.ref a) = true := by rfl) : KeepOk F (.ref a) loc H := KeepOk_k W e
theorem keepB (ok : Ok F n) {v : Value} (h : ∀ a, v ≠ .ref a := by intro a h; cases h) : KeepOk F (.raw v) loc H := KeepOk_raw h

theorem defP (ok : Ok F (n + 1)) (W : Wd K F.c.base) {f : Addr} {fd : FuncData} {body : List Stmt} (pn : List Str) {kws : List Str} {Xs Ws Vs : List V} {l0 : Loc} {nm : List (Str × NameKind)} {Q : V → Loc → Hp → Prop}
    (hfd : kFd K f = some fd) (hb : fd.body = .stmts body) (hnm : fd.scope.names = nm) (ho : okFd K fd = true) (hp : parOk fd pn = true) (hc : noCells fd = true) (hbind : BindTo F.M F.c.base fd kws pn Xs Ws Vs) (hl : initLoc nm (pn.zip Vs) = l0)
    (h : ∀ F' : Fx, Ok F' n → Top F' → Wd K F'.c.base → FrameIs F' nm [] → WSs F' body l0 H fun fl _ H' => Q (retV fl) loc H') : CCall F f Xs kws Ws loc H Q :=
  CCall_p ok W pn hfd hb ho hp hc hbind (by rw [hnm]; exact hl) fun sv A L E ok' tp => h _ ok' tp W ⟨hnm, cellsFrom_none _ _ _ hc⟩
theorem defC (ok : Ok F (n + 1)) (W : Wd K F.c.base) {f : Addr} {fd : FuncData} {body : List Stmt} (pn : List Str) {kws : List Str} {Xs Ws Vs : List V} {l0 : Loc} {nm : List (Str × NameKind)} {Q : V → Loc → Hp → Prop}
    (hfd : kFd K f = some fd) (hb : fd.body = .stmts body) (hnm : fd.scope.names = nm) (ho : okFd K fd = true) (hp : parOk fd pn = true) (hbind : BindTo F.M F.c.base fd kws pn Xs Ws Vs) (hl : initLoc nm (pn.zip Vs) = l0)
    (h : ∀ (F' : Fx) (L : Addr), Ok F' n → Top F' → Wd K F'.c.base → FrameIs F' nm (cellsFrom (L + 1) nm []) → (∀ x c, (x, c) ∈ cellsFrom (L + 1) nm [] → H.Fresh c) →
      WSs F' body l0 (addCells H (pn.zip Vs) (cellsFrom (L + 1) nm [])) fun fl _ H' => Q (retV fl) loc H') : CCall F f Xs kws Ws loc H Q := by
  subst hnm
  subst hl
  exact CCall_k ok W pn hfd hb ho hp hbind fun sv A L E ok' tp hf => h _ L ok' tp W ⟨rfl, rfl⟩ hf
theorem compF (ok : Ok F n) (hF : FrameIs F nm cl) {scope : Scope} {cl' : List (Str × Addr)} {C : Addr} {sv : List (Addr × Obj)} {E : Value → Shared → Prop} :
    FrameIs (CFx F scope cl' C sv E) (scope.names.map fun p => if (p.2 == .free && nm.lookup p.1 == some .cell) then (p.1, .cell) else p) cl' := by
  refine ⟨?_, rfl⟩
  show (relabel scope F.env).names = _
  unfold relabel
  refine List.map_congr_left fun p _ => ?_
  obtain ⟨x, k⟩ := p
  have h1 : F.env.kindOf x = nm.lookup x := by unfold Env.kindOf; rw [hF.1]
  have h2 : (F.env.scope.kind == ScopeKind.function) = true := by rw [ok.fn]; rfl
  simp only [h1, h2, Bool.and_true]
theorem compDbg (ok : Ok F n) {scope : Scope} (h : scope.names.lookup ("__debug__" : Str) = none) : (relabel scope F.env).names.lookup ("__debug__" : Str) = none := by
  unfold relabel
  have : ∀ names : List (Str × NameKind), names.lookup ("__debug__" : Str) = none → (names.map fun (n, k) => if (k == NameKind.free && F.env.scope.kind == .function && F.env.kindOf n == some .cell) then (n, NameKind.cell) else (n, k)).lookup ("__debug__" : Str) = none := by
    intro names
    induction names with
    | nil => intro _; rfl
    | cons p r ih =>
      obtain ⟨x, k⟩ := p
      intro h
      rw [List.lookup_cons] at h
      rw [List.map_cons]
      have e : ∀ k', List.lookup ("__debug__" : Str) ((x, k') :: (r.map fun (n, k) => if (k == NameKind.free && F.env.scope.kind == .function && F.env.kindOf n == some .cell) then (n, NameKind.cell) else (n, k))) = none := by
        intro k'
        rw [List.lookup_cons]
        cases z : (("__debug__" : Str) == x) with
        | true => rw [z] at h; cases h
        | false => rw [z] at h; exact ih h
      dsimp only
      split
      · exact e _
      · exact e _
  exact this scope.names h
end
end Lay
end
noncomputable section
open PySem PySem.W PyProof.Rows PySem.Calls
set_option Elab.async false
set_option maxRecDepth 100000
set_option linter.all false
namespace Lay
section
variable {L : Addr → Option (List V)} {D : Addr → Option (List (Str × V))} {P : Addr → Option (List (Str × List Str))} {S : Addr → Option ((Str → Bool) × Nat)} {I : Addr → Option (Addr × Addr)} {C : Addr → Option (Option V)} {G : Addr → Option Nat} {a b : Addr}
theorem frL {x} (h : Hp.Fresh ⟨up L b x, D, P, S, I, C, G⟩ a) : a ≠ b ∧ Hp.Fresh ⟨L, D, P, S, I, C, G⟩ a := by
  have hne : a ≠ b := by rintro rfl; exact h (.inl (by simp))
  exact ⟨hne, fun o => h (by unfold Hp.Own at o ⊢; simpa only [up_ne hne] using o)⟩
theorem frD {x} (h : Hp.Fresh ⟨L, up D b x, P, S, I, C, G⟩ a) : a ≠ b ∧ Hp.Fresh ⟨L, D, P, S, I, C, G⟩ a := by
  have hne : a ≠ b := by rintro rfl; exact h (.inr (.inl (by simp)))
  exact ⟨hne, fun o => h (by unfold Hp.Own at o ⊢; simpa only [up_ne hne] using o)⟩
theorem frI {x} (h : Hp.Fresh ⟨L, D, P, S, up I b x, C, G⟩ a) : a ≠ b ∧ Hp.Fresh ⟨L, D, P, S, I, C, G⟩ a := by
  have hne : a ≠ b := by rintro rfl; exact h (.inr (.inr (.inr (.inr (.inl (by simp))))))
  exact ⟨hne, fun o => h (by unfold Hp.Own at o ⊢; simpa only [up_ne hne] using o)⟩
end
section
variable {H : Hp} {a b : Addr}
theorem Hp.Fresh.l (h : H.Fresh a) : H.L a = none := (not_own h).1
theorem Hp.Fresh.d (h : H.Fresh a) : H.D a = none := (not_own h).2.1
theorem Hp.Fresh.p (h : H.Fresh a) : H.P a = none := (not_own h).2.2.1
theorem Hp.Fresh.s (h : H.Fresh a) : H.S a = none := (not_own h).2.2.2.1
theorem Hp.Fresh.i (h : H.Fresh a) : H.I a = none := (not_own h).2.2.2.2.1
theorem Hp.Fresh.c (h : H.Fresh a) : H.C a = none := (not_own h).2.2.2.2.2
theorem Hp.Fresh.neL (h : H.Fresh a) {x} (e : H.L b = some x) : b ≠ a := by rintro rfl; rw [h.l] at e; cases e
theorem Hp.Fresh.neD (h : H.Fresh a) {x} (e : H.D b = some x) : b ≠ a := by rintro rfl; rw [h.d] at e; cases e
theorem Hp.Fresh.neP (h : H.Fresh a) {x} (e : H.P b = some x) : b ≠ a := by rintro rfl; rw [h.p] at e; cases e
theorem Hp.Fresh.neS (h : H.Fresh a) {x} (e : H.S b = some x) : b ≠ a := by rintro rfl; rw [h.s] at e; cases e
theorem Hp.Fresh.neI (h : H.Fresh a) {x} (e : H.I b = some x) : b ≠ a := by rintro rfl; rw [h.i] at e; cases e
theorem Hp.Fresh.neC (h : H.Fresh a) {x} (e : H.C b = some x) : b ≠ a := by rintro rfl; rw [h.c] at e; cases e
end
theorem upe {α : Type} {f : Addr → Option α} {a b : Addr} {x : α} {y : Option α} (h : b ≠ a) (e : f b = y) : up f a x b = y := by rw [up_ne h]; exact e
theorem up_up {α : Type} {f : Addr → Option α} {a : Addr} {x y : α} : up (up f a x) a y = up f a y := funext fun b => by
  by_cases e : b = a <;> simp [up, e]
theorem up_comm {α : Type} {f : Addr → Option α} {a b : Addr} {x y : α} (h : a ≠ b) : up (up f a x) b y = up (up f b y) a x := funext fun c => by
  by_cases e : c = a
  · subst e; simp [up, h]
  · by_cases e' : c = b
    · subst e'; simp [up, e]
    · simp [up, e, e']
theorem up_id {α : Type} {f : Addr → Option α} {a : Addr} {x : α} (h : f a = some x) : up f a x = f := funext fun c => by
  by_cases e : c = a
  · subst e; simp [h]
  · simp [up, e]
noncomputable def Ext (ft : Addr → Prop) (H H' : Hp) : Prop := ∀ a, H.Own a → H'.Own a ∧ (¬ ft a → H'.SameAt H a)
theorem Ext.refl {ft : Addr → Prop} (H : Hp) : Ext ft H H := fun a o => ⟨o, fun _ => ⟨rfl, rfl, rfl, rfl, rfl, rfl, rfl⟩⟩
theorem Hp.SameAt.trans {H1 H2 H3 : Hp} {a : Addr} (h : H1.SameAt H2 a) (k : H2.SameAt H3 a) : H1.SameAt H3 a :=
  ⟨h.1.trans k.1, h.2.1.trans k.2.1, h.2.2.1.trans k.2.2.1, h.2.2.2.1.trans k.2.2.2.1, h.2.2.2.2.1.trans k.2.2.2.2.1, h.2.2.2.2.2.1.trans k.2.2.2.2.2.1, h.2.2.2.2.2.2.trans k.2.2.2.2.2.2⟩
theorem Ext.trans {ft : Addr → Prop} {H1 H2 H3 : Hp} (h : Ext ft H1 H2) (k : Ext ft H2 H3) : Ext ft H1 H3 := fun a o => by
  obtain ⟨o2, s2⟩ := h a o
  obtain ⟨o3, s3⟩ := k a o2
  exact ⟨o3, fun hf => (s3 hf).trans (s2 hf)⟩
theorem Ext.fresh {ft : Addr → Prop} {H H' : Hp} (h : Ext ft H H') {a : Addr} (hf : H'.Fresh a) : H.Fresh a := fun o => hf (h a o).1
section
variable {L : Addr → Option (List V)} {D : Addr → Option (List (Str × V))} {P : Addr → Option (List (Str × List Str))} {S : Addr → Option ((Str → Bool) × Nat)} {I : Addr → Option (Addr × Addr)} {C : Addr → Option (Option V)} {G : Addr → Option Nat} {a b : Addr} {ft : Addr → Prop}
theorem extL {x} (h : ft b ∨ Hp.Fresh ⟨L, D, P, S, I, C, G⟩ b) : Ext ft ⟨L, D, P, S, I, C, G⟩ ⟨up L b x, D, P, S, I, C, G⟩ := fun a o => by
  by_cases e : a = b
  · subst e
    refine ⟨.inl (by simp), fun hf => ?_⟩
    rcases h with h | h
    · exact absurd h hf
    · exact absurd o h
  · refine ⟨?_, fun _ => ⟨up_ne e, rfl, rfl, rfl, rfl, rfl, rfl⟩⟩
    unfold Hp.Own at o ⊢; simpa only [up_ne e] using o
theorem extD {x} (h : ft b ∨ Hp.Fresh ⟨L, D, P, S, I, C, G⟩ b) : Ext ft ⟨L, D, P, S, I, C, G⟩ ⟨L, up D b x, P, S, I, C, G⟩ := fun a o => by
  by_cases e : a = b
  · subst e
    refine ⟨.inr (.inl (by simp)), fun hf => ?_⟩
    rcases h with h | h
    · exact absurd h hf
    · exact absurd o h
  · refine ⟨?_, fun _ => ⟨rfl, up_ne e, rfl, rfl, rfl, rfl, rfl⟩⟩
    unfold Hp.Own at o ⊢; simpa only [up_ne e] using o
theorem extP {x} (h : ft b ∨ Hp.Fresh ⟨L, D, P, S, I, C, G⟩ b) : Ext ft ⟨L, D, P, S, I, C, G⟩ ⟨L, D, up P b x, S, I, C, G⟩ := fun a o => by
  by_cases e : a = b
  · subst e
    refine ⟨.inr (.inr (.inl (by simp))), fun hf => ?_⟩
    rcases h with h | h
    · exact absurd h hf
    · exact absurd o h
  · refine ⟨?_, fun _ => ⟨rfl, rfl, up_ne e, rfl, rfl, rfl, rfl⟩⟩
    unfold Hp.Own at o ⊢; simpa only [up_ne e] using o
theorem extS {x} (h : ft b ∨ Hp.Fresh ⟨L, D, P, S, I, C, G⟩ b) : Ext ft ⟨L, D, P, S, I, C, G⟩ ⟨L, D, P, up S b x, I, C, G⟩ := fun a o => by
  by_cases e : a = b
  · subst e
    refine ⟨.inr (.inr (.inr (.inl (by simp)))), fun hf => ?_⟩
    rcases h with h | h
    · exact absurd h hf
    · exact absurd o h
  · refine ⟨?_, fun _ => ⟨rfl, rfl, rfl, up_ne e, rfl, rfl, rfl⟩⟩
    unfold Hp.Own at o ⊢; simpa only [up_ne e] using o
theorem extI {x} (h : ft b ∨ Hp.Fresh ⟨L, D, P, S, I, C, G⟩ b) : Ext ft ⟨L, D, P, S, I, C, G⟩ ⟨L, D, P, S, up I b x, C, G⟩ := fun a o => by
  by_cases e : a = b
  · subst e
    refine ⟨.inr (.inr (.inr (.inr (.inl (by simp))))), fun hf => ?_⟩
    rcases h with h | h
    · exact absurd h hf
    · exact absurd o h
  · refine ⟨?_, fun _ => ⟨rfl, rfl, rfl, rfl, up_ne e, rfl, rfl⟩⟩
    unfold Hp.Own at o ⊢; simpa only [up_ne e] using o
end
structure Put (fs : List (Str × V)) (name : Str) (Z : V) (fs' : List (Str × V)) : Prop where
  len : fs'.length ≤ fs.length + 1
  here : dget fs' name = some Z
  there : ∀ k, k ≠ name → dget fs' k = dget fs k
theorem Put.of (fs : List (Str × V)) (name : Str) (Z : V) : Put fs name Z (dput fs name Z) := ⟨dput_length _ _ _, by rw [dget_dput, if_pos rfl], fun k h => by rw [dget_dput, if_neg h]⟩
theorem Put.old {fs fs' : List (Str × V)} {name : Str} {Z : V} (h : Put fs name Z fs') {k : Str} {Y : Option V} (e : dget fs k = Y) (hk : k ≠ name := by decide) : dget fs' k = Y := (h.there k hk).trans e
section
variable {F : Fx} {n : Nat} {loc : Loc} {H : Hp} {K : Frag}
theorem setF (ok : Ok F n) (W : Wd K F.c.base) {x C d : Addr} {fs : List (Str × V)} {name : Str} {Z : V} {Q : Loc → Hp → Prop} (eI : H.I x = some (C, d)) (eD : H.D d = some fs) (eG : H.G d = none) (hz : fs.length ≤ 900)
    (q : ∀ fs', Put fs name Z fs' → Q loc { H with D := up H.D d fs' }) (ho : setOk K C name = true := by rfl) (hn : PyData.strOk name = true := by exact ofString_ok _) : SetA F name (.ref x) Z loc H Q :=
  setA ok W eI eD eG hz (q _ (Put.of _ _ _)) ho hn
variable {L : Addr → Option (List V)} {D : Addr → Option (List (Str × V))} {P : Addr → Option (List (Str × List Str))} {S : Addr → Option ((Str → Bool) × Nat)} {I : Addr → Option (Addr × Addr)} {Cc : Addr → Option (Option V)} {G : Addr → Option Nat}
theorem setF2 (ok : Ok F n) (W : Wd K F.c.base) {x C d : Addr} {fs : List (Str × V)} {name : Str} {Z : V} {Q : Loc → Hp → Prop} (eI : I x = some (C, d)) (eG : G d = none) (hz : fs.length ≤ 900)
    (q : ∀ fs', Put fs name Z fs' → Q loc ⟨L, up D d fs', P, S, I, Cc, G⟩) (ho : setOk K C name = true := by rfl) (hn : PyData.strOk name = true := by exact ofString_ok _) : SetA F name (.ref x) Z loc ⟨L, up D d fs, P, S, I, Cc, G⟩ Q :=
  setF ok W eI (up_self _ _ _) eG hz (fun fs' h => by
    have := q fs' h
    show Q loc ⟨L, up (up D d fs) d fs', P, S, I, Cc, G⟩
    rw [up_up]; exact this) ho hn
end

section
variable {L : Addr → Option (List V)} {D : Addr → Option (List (Str × V))} {P : Addr → Option (List (Str × List Str))} {S : Addr → Option ((Str → Bool) × Nat)} {I : Addr → Option (Addr × Addr)} {C : Addr → Option (Option V)} {G : Addr → Option Nat}
theorem Hp.Sub.trans {H1 H2 H3 : Hp} (h : H1.Sub H2) (k : H2.Sub H3) : H1.Sub H3 := fun a => by
  obtain ⟨h1, h2, h3, h4, h5, h6, h7⟩ := h a
  obtain ⟨k1, k2, k3, k4, k5, k6, k7⟩ := k a
  refine ⟨?_, ?_, ?_, ?_, ?_, ?_, ?_⟩
  · rcases h1 with h | h; exact .inl h; rw [h]; exact k1
  · rcases h2 with h | h; exact .inl h; rw [h]; exact k2
  · rcases h3 with h | h; exact .inl h; rw [h]; exact k3
  · rcases h4 with h | h; exact .inl h; rw [h]; exact k4
  · rcases h5 with h | h; exact .inl h; rw [h]; exact k5
  · rcases h6 with h | h; exact .inl h; rw [h]; exact k6
  · rcases h7 with h | ⟨h, h'⟩
    · exact .inl h
    · rcases k7 with k | ⟨k, k'⟩
      · rw [h]; exact .inl k
      · exact .inr ⟨h.trans k, h'.trans k'⟩
theorem subL {u : Addr} {x : List V} (h : L u = none) : Hp.Sub ⟨L, D, P, S, I, C, G⟩ ⟨up L u x, D, P, S, I, C, G⟩ := fun a => by
  refine ⟨?_, .inr rfl, .inr rfl, .inr rfl, .inr rfl, .inr rfl, .inr ⟨rfl, rfl⟩⟩
  by_cases e : a = u
  · subst e; exact .inl h
  · exact .inr (up_ne e).symm
theorem subD {u : Addr} {x : List (Str × V)} (h : D u = none) (hg : G u = none) : Hp.Sub ⟨L, D, P, S, I, C, G⟩ ⟨L, up D u x, P, S, I, C, G⟩ := fun a => by
  refine ⟨.inr rfl, ?_, .inr rfl, .inr rfl, .inr rfl, .inr rfl, ?_⟩
  · by_cases e : a = u
    · subst e; exact .inl h
    · exact .inr (up_ne e).symm
  · by_cases e : a = u
    · subst e; exact .inl hg
    · exact .inr ⟨rfl, (up_ne e).symm⟩
theorem subG {u : Addr} {x : Nat} (h : G u = none) : Hp.Sub ⟨L, D, P, S, I, C, G⟩ ⟨L, D, P, S, I, C, up G u x⟩ := fun a => by
  refine ⟨.inr rfl, .inr rfl, .inr rfl, .inr rfl, .inr rfl, .inr rfl, ?_⟩
  by_cases e : a = u
  · subst e; exact .inl h
  · exact .inr ⟨(up_ne e).symm, rfl⟩
theorem subC {u : Addr} {x : Option V} (h : C u = none) : Hp.Sub ⟨L, D, P, S, I, C, G⟩ ⟨L, D, P, S, I, up C u x, G⟩ := fun a => by
  refine ⟨.inr rfl, .inr rfl, .inr rfl, .inr rfl, .inr rfl, ?_, .inr ⟨rfl, rfl⟩⟩
  by_cases e : a = u
  · subst e; exact .inl h
  · exact .inr (up_ne e).symm
end

theorem LocSub.same {a : Option V} {r r' : Loc} (h : LocSub r' r) : LocSub (a :: r') (a :: r) := fun i X e => by
  cases i with
  | zero => exact e
  | succ i => simp only [List.getElem?_cons_succ] at e ⊢; exact h i X e
theorem LocSub.drop {a : Option V} {r r' : Loc} (h : LocSub r' r) : LocSub (Option.none :: r') (a :: r) := fun i X e => by
  cases i with
  | zero => simp at e
  | succ i => simp only [List.getElem?_cons_succ] at e ⊢; exact h i X e

theorem up_drop {α : Type} {f : Addr → Option α} {d a : Addr} {x y z : α} : up (up (up f d x) a y) d z = up (up f a y) d z := funext fun c => by
  by_cases e : c = d
  · subst e; simp
  · by_cases e' : c = a
    · subst e'; simp [up, e]
    · simp [up, e, e']
section
variable {F : Fx} {n : Nat} {loc : Loc} {H : Hp} {K : Frag}
variable {L : Addr → Option (List V)} {D : Addr → Option (List (Str × V))} {P : Addr → Option (List (Str × List Str))} {S : Addr → Option ((Str → Bool) × Nat)} {I : Addr → Option (Addr × Addr)} {Cc : Addr → Option (Option V)} {G : Addr → Option Nat}
theorem setF3 (ok : Ok F n) (W : Wd K F.c.base) {x C d a : Addr} {fs y : List (Str × V)} {name : Str} {Z : V} {Q : Loc → Hp → Prop} (eI : I x = some (C, d)) (eG : G d = none) (hz : fs.length ≤ 900) (hne : d ≠ a)
    (q : ∀ fs', Put fs name Z fs' → Q loc ⟨L, up (up D a y) d fs', P, S, I, Cc, G⟩) (ho : setOk K C name = true := by rfl) (hn : PyData.strOk name = true := by exact ofString_ok _) : SetA F name (.ref x) Z loc ⟨L, up (up D d fs) a y, P, S, I, Cc, G⟩ Q :=
  setF ok W eI (upe hne (up_self _ _ _)) eG hz (fun fs' h => by
    have := q fs' h
    show Q loc ⟨L, up (up (up D d fs) a y) d fs', P, S, I, Cc, G⟩
    rw [up_drop]; exact this) ho hn
end
end Lay
end
noncomputable section
open PySem PySem.W PyProof.Rows PySem.Calls
set_option Elab.async false
set_option maxRecDepth 100000
set_option linter.all false
namespace Lay
noncomputable abbrev Tab := List (Str × Addr × List V)
noncomputable def adr (t : Tab) : List Addr := t.map (·.2.1)
noncomputable def kys (t : Tab) : List Str := t.map (·.1)
noncomputable def tof (t : Tab) : List (Str × V) := t.map fun e => (e.1, .ref e.2.1)
noncomputable def tcon (t : Tab) : List (Str × List V) := t.map fun e => (e.1, e.2.2)
noncomputable def tget (t : Tab) (k : Str) : Option (Addr × List V) := (t.find? fun e => e.1 = k).map (·.2)
noncomputable def tset (t : Tab) (a : Addr) (ys : List V) : Tab := t.map fun e => if e.2.1 = a then (e.1, a, ys) else e
structure Tb (H : Hp) (d : Addr) (t : Tab) : Prop where
  dict : H.D d = some (tof t)
  lst : ∀ e ∈ t, H.L e.2.1 = some e.2.2
theorem tget_mem {t : Tab} {k : Str} {a : Addr} {xs : List V} (h : tget t k = some (a, xs)) : (k, a, xs) ∈ t := by
  unfold tget at h
  cases e : t.find? fun e => decide (e.1 = k) with
  | none => rw [e] at h; cases h
  | some p =>
    rw [e] at h
    have hm := List.mem_of_find?_eq_some e
    have hp := List.find?_some e
    simp at hp h
    obtain ⟨x, y, z⟩ := p
    simp at hp h
    obtain ⟨rfl, rfl⟩ := h
    subst hp; exact hm
theorem dget_tof (t : Tab) (k : Str) : dget (tof t) k = (tget t k).map fun p => V.ref p.1 := by
  unfold dget tof tget
  rw [List.find?_map]
  cases e : t.find? ((fun kv : Str × V => decide (kv.1 = k)) ∘ fun e => (e.1, V.ref e.2.1)) with
  | none =>
    have : t.find? (fun e => decide (e.1 = k)) = none := e
    rw [this]; rfl
  | some p =>
    have : t.find? (fun e => decide (e.1 = k)) = some p := e
    rw [this]; rfl
theorem tget_none {t : Tab} {k : Str} : tget t k = none ↔ k ∉ kys t := by
  unfold tget kys
  simp only [Option.map_eq_none_iff, List.find?_eq_none, decide_eq_true_eq, List.mem_map, not_exists, not_and]
theorem tget_some {t : Tab} {k : Str} (h : k ∈ kys t) : ∃ a xs, tget t k = some (a, xs) := by
  cases e : tget t k with
  | none => exact absurd h (tget_none.mp e)
  | some p => exact ⟨p.1, p.2, rfl⟩
theorem Tb.at_ {H : Hp} {d : Addr} {t : Tab} (h : Tb H d t) {k : Str} {a : Addr} {xs : List V} (e : tget t k = some (a, xs)) : dget (tof t) k = some (.ref a) ∧ H.L a = some xs :=
  ⟨by rw [dget_tof, e]; rfl, h.lst _ (tget_mem e)⟩
theorem Tb.keep {H H' : Hp} {d : Addr} {t : Tab} (h : Tb H d t) (hd : H'.D d = H.D d) (hl : ∀ a ∈ adr t, H'.L a = H.L a) : Tb H' d t :=
  ⟨hd.trans h.dict, fun e he => (hl _ (List.mem_map.mpr ⟨e, he, rfl⟩)).trans (h.lst e he)⟩
theorem adr_tset (t : Tab) (a : Addr) (ys : List V) : adr (tset t a ys) = adr t := by
  unfold adr tset
  rw [List.map_map]
  refine List.map_congr_left fun e _ => ?_
  simp only [Function.comp]
  split
  · rename_i h; exact h.symm
  · rfl
theorem kys_tset (t : Tab) (a : Addr) (ys : List V) : kys (tset t a ys) = kys t := by
  unfold kys tset
  rw [List.map_map]
  refine List.map_congr_left fun e _ => ?_
  simp only [Function.comp]
  split <;> rfl
theorem tof_tset (t : Tab) (a : Addr) (ys : List V) : tof (tset t a ys) = tof t := by
  unfold tof tset
  rw [List.map_map]
  refine List.map_congr_left fun e _ => ?_
  simp only [Function.comp]
  split
  · rename_i h; rw [h]
  · rfl
theorem tset_other {t : Tab} {a : Addr} {ys : List V} (h : a ∉ adr t) : tset t a ys = t := by
  unfold tset
  conv => rhs; rw [← List.map_id t]
  refine List.map_congr_left fun e he => ?_
  rw [if_neg (fun z => h (List.mem_map.mpr ⟨e, he, z⟩))]; rfl
theorem Tb.set {H H' : Hp} {d : Addr} {t : Tab} {a : Addr} {ys : List V} (h : Tb H d t) (hd : H'.D d = H.D d) (ha : H'.L a = some ys) (hl : ∀ b, b ≠ a → H'.L b = H.L b) : Tb H' d (tset t a ys) := by
  refine ⟨by rw [hd, tof_tset]; exact h.dict, fun e he => ?_⟩
  obtain ⟨e', he', rfl⟩ := List.mem_map.mp he
  split
  · exact ha
  · rename_i hn
    rw [hl _ hn]; exact h.lst e' he'
theorem Tb.new {H H' : Hp} {d : Addr} {t : Tab} {k : Str} {a : Addr} {xs : List V} (h : Tb H d t) (hk : k ∉ kys t) (hd : H'.D d = some (dput (tof t) k (.ref a))) (ha : H'.L a = some xs) (hl : ∀ b ∈ adr t, H'.L b = H.L b) : Tb H' d (t ++ [(k, a, xs)]) := by
  have hn : dget (tof t) k = none := by rw [dget_tof, tget_none.mpr hk]; rfl
  refine ⟨by rw [hd, dput_new hn]; simp [tof], fun e he => ?_⟩
  rcases List.mem_append.mp he with he | he
  · rw [hl _ (List.mem_map.mpr ⟨e, he, rfl⟩)]; exact h.lst e he
  · simp at he; subst he; exact ha
theorem inj_nodup {α β : Type} {f : α → β} : ∀ {l : List α}, (l.map f).Nodup → ∀ {a b : α}, a ∈ l → b ∈ l → f a = f b → a = b
  | x :: l, h, a, b, ha, hb, e => by
    rw [List.map_cons, List.nodup_cons] at h
    cases ha with
    | head _ =>
      cases hb with
      | head _ => rfl
      | tail _ hb => exact absurd (List.mem_map.mpr ⟨b, hb, e.symm⟩) h.1
    | tail _ ha =>
      cases hb with
      | head _ => exact absurd (List.mem_map.mpr ⟨a, ha, e⟩) h.1
      | tail _ hb => exact inj_nodup h.2 ha hb e
theorem tcon_tset {t : Tab} {k : Str} {a : Addr} {xs ys : List V} (hk : (kys t).Nodup) (ha : (adr t).Nodup) (e : tget t k = some (a, xs)) : tcon (tset t a ys) = (tcon t).map fun p => if p.1 = k then (p.1, ys) else p := by
  have hm := tget_mem e
  unfold tcon tset
  rw [List.map_map, List.map_map]
  refine List.map_congr_left fun p hp => ?_
  simp only [Function.comp]
  have key : p.2.1 = a ↔ p.1 = k := by
    constructor
    · intro h
      have := inj_nodup ha hp hm h
      rw [this]
    · intro h
      have := inj_nodup hk hp hm h
      rw [this]
  by_cases h : p.2.1 = a
  · rw [if_pos h, if_pos (key.mp h)]
  · rw [if_neg h, if_neg (fun z => h (key.mpr z))]
end Lay
end
noncomputable section
open PySem PySem.W PyProof.Rows PySem.Calls
set_option Elab.async false
set_option maxRecDepth 100000
set_option linter.all false
namespace Lay
theorem up_mid {α : Type} {f : Addr → Option α} {d a : Addr} {x y z : α} (h : a ≠ d) : up (up (up f a x) d y) a z = up (up f a z) d y := by rw [up_drop, up_comm h.symm]
theorem asL_mono {H H' : Hp} {X : V} {xs : List V} (h : asL H X = some xs) (k : ∀ a xs, H.L a = some xs → H'.L a = some xs) : asL H' X = some xs := by
  cases X <;> first | exact h | exact k _ _ h
section
variable {F : Fx} {n : Nat} {loc : Loc} {H : Hp} {K : Frag}
variable {L : Addr → Option (List V)} {D : Addr → Option (List (Str × V))} {P : Addr → Option (List (Str × List Str))} {S : Addr → Option ((Str → Bool) × Nat)} {I : Addr → Option (Addr × Addr)} {Cc : Addr → Option (Option V)} {G : Addr → Option Nat}
end
set_option genInjectivity false in
structure GA where
  (g d nm nd al prods pn pm ts nts fst fol pr ups : Addr)
set_option genInjectivity false in
structure GT where
  (tT tN tR : Tab) (ps : List V) (pm : List (Str × List Str)) (fst fol pr : List (Str × V)) (ups : (Str → Bool) × Nat) (start : V)
noncomputable def gnames : List Str := ["names", "Productions", "Prodnames", "Prodmap", "Terminals", "Nonterminals", "First", "Follow", "Precedence", "UsedPrecedence", "Start"]
structure Fld (fs : List (Str × V)) (g : GA) (start : V) : Prop where
  len : fs.length ≤ 20
  names : dget fs "names" = some (.ref g.nm)
  prods : dget fs "Productions" = some (.ref g.prods)
  pn : dget fs "Prodnames" = some (.ref g.pn)
  pm : dget fs "Prodmap" = some (.ref g.pm)
  ts : dget fs "Terminals" = some (.ref g.ts)
  nts : dget fs "Nonterminals" = some (.ref g.nts)
  fst : dget fs "First" = some (.ref g.fst)
  fol : dget fs "Follow" = some (.ref g.fol)
  pr : dget fs "Precedence" = some (.ref g.pr)
  ups : dget fs "UsedPrecedence" = some (.ref g.ups)
  start : dget fs "Start" = some start
  no : ∀ k, k ∉ gnames → dget fs k = none
noncomputable def GA.dicts (g : GA) : List Addr := [g.d, g.nd, g.al, g.pn, g.ts, g.nts, g.fst, g.fol, g.pr]
noncomputable def GT.lists (g : GA) (t : GT) : List Addr := g.prods :: (adr t.tT ++ (adr t.tN ++ adr t.tR))
structure GrOk (cg cr : Addr) (H : Hp) (g : GA) (t : GT) : Prop where
  I : H.I g.g = some (cg, g.d)
  fs : ∃ fs, H.D g.d = some fs ∧ Fld fs g t.start
  nI : H.I g.nm = some (cr, g.nd)
  nD : ∃ fs, H.D g.nd = some fs ∧ dget fs "aliases" = some (.ref g.al)
  al : H.D g.al = some []
  ps : H.L g.prods = some t.ps
  pm : H.P g.pm = some t.pm
  tT : Tb H g.ts t.tT
  tN : Tb H g.nts t.tN
  tR : Tb H g.pn t.tR
  fst : H.D g.fst = some t.fst
  fol : H.D g.fol = some t.fol
  pr : H.D g.pr = some t.pr
  ups : H.S g.ups = some t.ups
  gn : ∀ a, H.G a = none
  nd : g.dicts.Nodup
  na : (GT.lists g t).Nodup
  kT : (kys t.tT).Nodup
  kN : (kys t.tN).Nodup
  kR : (kys t.tR).Nodup
noncomputable def foot (g : GA) (t : GT) (a : Addr) : Prop := a ∈ g.dicts ∨ a ∈ GT.lists g t ∨ a = g.pm ∨ a = g.ups
end Lay
end
noncomputable section
open PySem PySem.W PyProof.Rows PySem.Calls
set_option Elab.async false
set_option maxRecDepth 100000
set_option linter.all false
namespace Lay
section
variable {cg cr : Addr} {H : Hp} {g : GA} {t : GT}
theorem mem_lists_T {g : GA} {t : GT} {a : Addr} (h : a ∈ adr t.tT) : a ∈ GT.lists g t := List.mem_cons_of_mem _ (List.mem_append_left _ h)
theorem mem_lists_N {g : GA} {t : GT} {a : Addr} (h : a ∈ adr t.tN) : a ∈ GT.lists g t := List.mem_cons_of_mem _ (List.mem_append_right _ (List.mem_append_left _ h))
theorem mem_lists_R {g : GA} {t : GT} {a : Addr} (h : a ∈ adr t.tR) : a ∈ GT.lists g t := List.mem_cons_of_mem _ (List.mem_append_right _ (List.mem_append_right _ h))
theorem GrOk.ownD (h : GrOk cg cr H g t) {a : Addr} (ha : a ∈ g.dicts) : H.D a ≠ none := by
  obtain ⟨fs, e1, _⟩ := h.fs
  obtain ⟨ns, e2, _⟩ := h.nD
  simp only [GA.dicts, List.mem_cons, List.not_mem_nil, or_false] at ha
  rcases ha with rfl | rfl | rfl | rfl | rfl | rfl | rfl | rfl | rfl
  · rw [e1]; simp
  · rw [e2]; simp
  · rw [h.al]; simp
  · rw [h.tR.dict]; simp
  · rw [h.tT.dict]; simp
  · rw [h.tN.dict]; simp
  · rw [h.fst]; simp
  · rw [h.fol]; simp
  · rw [h.pr]; simp
theorem GrOk.ownL (h : GrOk cg cr H g t) {a : Addr} (ha : a ∈ GT.lists g t) : H.L a ≠ none := by
  rcases List.mem_cons.mp ha with rfl | ha
  · rw [h.ps]; simp
  · rcases List.mem_append.mp ha with ha | ha
    · obtain ⟨e, he, rfl⟩ := List.mem_map.mp ha
      rw [h.tT.lst e he]; simp
    · rcases List.mem_append.mp ha with ha | ha
      · obtain ⟨e, he, rfl⟩ := List.mem_map.mp ha
        rw [h.tN.lst e he]; simp
      · obtain ⟨e, he, rfl⟩ := List.mem_map.mp ha
        rw [h.tR.lst e he]; simp
theorem GrOk.freshL (h : GrOk cg cr H g t) {a : Addr} (hf : H.Fresh a) : a ∉ GT.lists g t := fun ha => h.ownL ha hf.l
theorem GrOk.freshD (h : GrOk cg cr H g t) {a : Addr} (hf : H.Fresh a) : a ∉ g.dicts := fun ha => h.ownD ha hf.d

theorem GrOk.keep {H' : Hp} (h : GrOk cg cr H g t) (hL : ∀ a ∈ GT.lists g t, H'.L a = H.L a) (hD : ∀ a ∈ g.dicts, H'.D a = H.D a) (hP : H'.P g.pm = H.P g.pm) (hS : H'.S g.ups = H.S g.ups) (hI : H'.I g.g = H.I g.g) (hI2 : H'.I g.nm = H.I g.nm) (hG : ∀ a, H'.G a = none) : GrOk cg cr H' g t where
  I := hI.trans h.I
  fs := by
    obtain ⟨fs, e1, e2⟩ := h.fs
    exact ⟨fs, (hD _ (by simp [GA.dicts])).trans e1, e2⟩
  nI := hI2.trans h.nI
  nD := by
    obtain ⟨fs, e1, e2⟩ := h.nD
    exact ⟨fs, (hD _ (by simp [GA.dicts])).trans e1, e2⟩
  al := (hD _ (by simp [GA.dicts])).trans h.al
  ps := (hL _ (List.mem_cons_self ..)).trans h.ps
  pm := hP.trans h.pm
  tT := h.tT.keep (hD _ (by simp [GA.dicts])) fun a ha => hL a (mem_lists_T ha)
  tN := h.tN.keep (hD _ (by simp [GA.dicts])) fun a ha => hL a (mem_lists_N ha)
  tR := h.tR.keep (hD _ (by simp [GA.dicts])) fun a ha => hL a (mem_lists_R ha)
  fst := (hD _ (by simp [GA.dicts])).trans h.fst
  fol := (hD _ (by simp [GA.dicts])).trans h.fol
  pr := (hD _ (by simp [GA.dicts])).trans h.pr
  ups := hS.trans h.ups
  gn := hG
  nd := h.nd
  na := h.na
  kT := h.kT
  kN := h.kN
  kR := h.kR

noncomputable def GT.setL (g : GA) (t : GT) (a : Addr) (ys : List V) : GT := { t with tT := tset t.tT a ys, tN := tset t.tN a ys, tR := tset t.tR a ys, ps := if g.prods = a then ys else t.ps }
theorem lists_setL {a : Addr} {ys : List V} : GT.lists g (t.setL g a ys) = GT.lists g t := by
  unfold GT.lists GT.setL
  simp only [adr_tset]
theorem GrOk.setL (h : GrOk cg cr H g t) {a : Addr} (ys : List V) : GrOk cg cr { H with L := up H.L a ys } g (t.setL g a ys) where
  I := h.I
  fs := h.fs
  nI := h.nI
  nD := h.nD
  al := h.al
  ps := by
    show up H.L a ys g.prods = some (if g.prods = a then ys else t.ps)
    by_cases e : g.prods = a
    · rw [if_pos e, e]; exact up_self _ _ _
    · rw [if_neg e, up_ne e]; exact h.ps
  pm := h.pm
  tT := h.tT.set rfl (up_self _ _ _) fun b hb => up_ne hb
  tN := h.tN.set rfl (up_self _ _ _) fun b hb => up_ne hb
  tR := h.tR.set rfl (up_self _ _ _) fun b hb => up_ne hb
  fst := h.fst
  fol := h.fol
  pr := h.pr
  ups := h.ups
  gn := h.gn
  nd := h.nd
  na := by rw [lists_setL]; exact h.na
  kT := by show (kys (tset _ _ _)).Nodup; rw [kys_tset]; exact h.kT
  kN := by show (kys (tset _ _ _)).Nodup; rw [kys_tset]; exact h.kN
  kR := by show (kys (tset _ _ _)).Nodup; rw [kys_tset]; exact h.kR
theorem GrOk.apart (h : GrOk cg cr H g t) : g.prods ∉ adr t.tT ∧ g.prods ∉ adr t.tN ∧ g.prods ∉ adr t.tR ∧ (adr t.tT).Nodup ∧ (adr t.tN).Nodup ∧ (adr t.tR).Nodup ∧ (∀ a ∈ adr t.tT, a ∉ adr t.tN ∧ a ∉ adr t.tR) ∧ (∀ a ∈ adr t.tN, a ∉ adr t.tR) := by
  have := h.na
  unfold GT.lists at this
  rw [List.nodup_cons, List.nodup_append, List.nodup_append] at this
  obtain ⟨h1, h2, ⟨h3, h4, h5⟩, h6⟩ := this
  simp only [List.mem_append, not_or] at h1
  refine ⟨h1.1, h1.2.1, h1.2.2, h2, h3, h4, fun a ha => ⟨fun hb => h6 a ha a (List.mem_append_left _ hb) rfl, fun hb => h6 a ha a (List.mem_append_right _ hb) rfl⟩, fun a ha hb => h5 a ha a hb rfl⟩
theorem setL_T (h : GrOk cg cr H g t) {a : Addr} {ys : List V} (ha : a ∈ adr t.tT) : t.setL g a ys = { t with tT := tset t.tT a ys } := by
  obtain ⟨h1, h2, h3, h4, h5, h6, h7, h8⟩ := h.apart
  unfold GT.setL
  rw [tset_other (h7 a ha).1, tset_other (h7 a ha).2, if_neg (show ¬ g.prods = a from fun e => h1 (by rw [e]; exact ha))]
theorem setL_N (h : GrOk cg cr H g t) {a : Addr} {ys : List V} (ha : a ∈ adr t.tN) : t.setL g a ys = { t with tN := tset t.tN a ys } := by
  obtain ⟨h1, h2, h3, h4, h5, h6, h7, h8⟩ := h.apart
  unfold GT.setL
  rw [tset_other (fun hb => (h7 a hb).1 ha), tset_other (h8 a ha), if_neg (show ¬ g.prods = a from fun e => h2 (by rw [e]; exact ha))]
theorem setL_R (h : GrOk cg cr H g t) {a : Addr} {ys : List V} (ha : a ∈ adr t.tR) : t.setL g a ys = { t with tR := tset t.tR a ys } := by
  obtain ⟨h1, h2, h3, h4, h5, h6, h7, h8⟩ := h.apart
  unfold GT.setL
  rw [tset_other (fun hb => (h7 a hb).2 ha), tset_other (fun hb => h8 a hb ha), if_neg (show ¬ g.prods = a from fun e => h3 (by rw [e]; exact ha))]
theorem setL_ps (h : GrOk cg cr H g t) {ys : List V} : t.setL g g.prods ys = { t with ps := ys } := by
  obtain ⟨h1, h2, h3, h4, h5, h6, h7, h8⟩ := h.apart
  unfold GT.setL
  rw [tset_other h1, tset_other h2, tset_other h3, if_pos rfl]

theorem GrOk.newN (h : GrOk cg cr H g t) {k : Str} {a : Addr} {xs : List V} (hk : k ∉ kys t.tN) (hf : H.Fresh a) : GrOk cg cr { H with L := up H.L a xs, D := up H.D g.nts (dput (tof t.tN) k (.ref a)) } g { t with tN := t.tN ++ [(k, a, xs)] } := by
  have hl := h.freshL hf
  have nd := h.nd
  have hne : ∀ b ∈ GT.lists g t, b ≠ a := fun b hb e => hl (e ▸ hb)
  have hd : ∀ b ∈ g.dicts, b ≠ g.nts → up H.D g.nts (dput (tof t.tN) k (.ref a)) b = H.D b := fun b _ e => up_ne e
  simp only [GA.dicts, List.nodup_cons, List.mem_cons, List.not_mem_nil, or_false, not_or, List.nodup_nil, not_false_eq_true, and_true] at nd
  obtain ⟨⟨a1, a2, a3, a4, a5, a6, a7, a8⟩, ⟨b1, b2, b3, b4, b5, b6, b7⟩, ⟨c1, c2, c3, c4, c5, c6⟩, ⟨d1, d2, d3, d4, d5⟩, ⟨e1, e2, e3, e4⟩, ⟨f1, f2, f3⟩, ⟨g1, g2⟩, i1⟩ := nd
  have keepT : ∀ {t' : Tab} {d : Addr}, Tb H d t' → d ≠ g.nts → (∀ b ∈ adr t', b ≠ a) → Tb { H with L := up H.L a xs, D := up H.D g.nts (dput (tof t.tN) k (.ref a)) } d t' := fun x hd hb => x.keep (up_ne hd) fun b hb' => up_ne (hb b hb')
  obtain ⟨fs, fs1, fs2⟩ := h.fs
  obtain ⟨ns, ns1, ns2⟩ := h.nD
  refine ⟨h.I, ⟨fs, upe a5 fs1, fs2⟩, h.nI, ⟨ns, upe b4 ns1, ns2⟩, upe c3 h.al, upe (hne _ (List.mem_cons_self ..)) h.ps, h.pm, keepT h.tT e1 fun b hb => hne b (mem_lists_T hb), h.tN.new hk (up_self _ _ _) (up_self _ _ _) (fun b hb => up_ne (hne b (mem_lists_N hb))), keepT h.tR d2 fun b hb => hne b (mem_lists_R hb), upe (Ne.symm f1) h.fst, upe (Ne.symm f2) h.fol, upe (Ne.symm f3) h.pr, h.ups, h.gn, h.nd, ?_, h.kT, ?_, h.kR⟩
  · have : GT.lists g { t with tN := t.tN ++ [(k, a, xs)] } = g.prods :: (adr t.tT ++ ((adr t.tN ++ [a]) ++ adr t.tR)) := by simp [GT.lists, adr]
    rw [this]
    have p : (g.prods :: (adr t.tT ++ ((adr t.tN ++ [a]) ++ adr t.tR))).Perm (a :: GT.lists g t) := by
      unfold GT.lists
      refine (List.Perm.cons _ ?_).trans (List.Perm.swap _ _ _)
      refine (List.Perm.append_left _ (List.Perm.append_right _ List.perm_append_comm)).trans ?_
      simp only [List.singleton_append, List.cons_append, List.nil_append]
      exact List.perm_middle
    rw [p.nodup_iff, List.nodup_cons]
    exact ⟨hl, h.na⟩
  · have : kys (t.tN ++ [(k, a, xs)]) = kys t.tN ++ [k] := by simp [kys]
    show (kys (t.tN ++ [(k, a, xs)])).Nodup
    rw [this, List.nodup_append]
    exact ⟨h.kN, by simp, fun b hb c hc => by simp at hc; subst hc; exact fun e => hk (e ▸ hb)⟩
theorem GrOk.newR (h : GrOk cg cr H g t) {k : Str} {a : Addr} {xs : List V} (hk : k ∉ kys t.tR) (hf : H.Fresh a) : GrOk cg cr { H with L := up H.L a xs, D := up H.D g.pn (dput (tof t.tR) k (.ref a)) } g { t with tR := t.tR ++ [(k, a, xs)] } := by
  have hl := h.freshL hf
  have nd := h.nd
  have hne : ∀ b ∈ GT.lists g t, b ≠ a := fun b hb e => hl (e ▸ hb)
  simp only [GA.dicts, List.nodup_cons, List.mem_cons, List.not_mem_nil, or_false, not_or, List.nodup_nil, not_false_eq_true, and_true] at nd
  obtain ⟨⟨a1, a2, a3, a4, a5, a6, a7, a8⟩, ⟨b1, b2, b3, b4, b5, b6, b7⟩, ⟨c1, c2, c3, c4, c5, c6⟩, ⟨d1, d2, d3, d4, d5⟩, ⟨e1, e2, e3, e4⟩, ⟨f1, f2, f3⟩, ⟨g1, g2⟩, i1⟩ := nd
  have keepT : ∀ {t' : Tab} {d : Addr}, Tb H d t' → d ≠ g.pn → (∀ b ∈ adr t', b ≠ a) → Tb { H with L := up H.L a xs, D := up H.D g.pn (dput (tof t.tR) k (.ref a)) } d t' := fun x hd hb => x.keep (up_ne hd) fun b hb' => up_ne (hb b hb')
  obtain ⟨fs, fs1, fs2⟩ := h.fs
  obtain ⟨ns, ns1, ns2⟩ := h.nD
  refine ⟨h.I, ⟨fs, upe a3 fs1, fs2⟩, h.nI, ⟨ns, upe b2 ns1, ns2⟩, upe c1 h.al, upe (hne _ (List.mem_cons_self ..)) h.ps, h.pm, keepT h.tT (Ne.symm d1) fun b hb => hne b (mem_lists_T hb), keepT h.tN (Ne.symm d2) fun b hb => hne b (mem_lists_N hb), h.tR.new hk (up_self _ _ _) (up_self _ _ _) (fun b hb => up_ne (hne b (mem_lists_R hb))), upe (Ne.symm d3) h.fst, upe (Ne.symm d4) h.fol, upe (Ne.symm d5) h.pr, h.ups, h.gn, h.nd, ?_, h.kT, h.kN, ?_⟩
  · have : GT.lists g { t with tR := t.tR ++ [(k, a, xs)] } = g.prods :: (adr t.tT ++ (adr t.tN ++ (adr t.tR ++ [a]))) := by simp [GT.lists, adr]
    rw [this]
    have p : (g.prods :: (adr t.tT ++ (adr t.tN ++ (adr t.tR ++ [a])))).Perm (a :: GT.lists g t) := by
      have e : (g.prods :: (adr t.tT ++ (adr t.tN ++ (adr t.tR ++ [a])))) = GT.lists g t ++ [a] := by simp [GT.lists]
      rw [e]; exact List.perm_append_singleton _ _
    rw [p.nodup_iff, List.nodup_cons]
    exact ⟨hl, h.na⟩
  · have : kys (t.tR ++ [(k, a, xs)]) = kys t.tR ++ [k] := by simp [kys]
    show (kys (t.tR ++ [(k, a, xs)])).Nodup
    rw [this, List.nodup_append]
    exact ⟨h.kR, by simp, fun b hb c hc => by simp at hc; subst hc; exact fun e => hk (e ▸ hb)⟩
theorem GrOk.setP (h : GrOk cg cr H g t) (ks : List (Str × List Str)) : GrOk cg cr { H with P := up H.P g.pm ks } g { t with pm := ks } :=
  ⟨h.I, h.fs, h.nI, h.nD, h.al, h.ps, up_self _ _ _, h.tT.keep rfl fun _ _ => rfl, h.tN.keep rfl fun _ _ => rfl, h.tR.keep rfl fun _ _ => rfl, h.fst, h.fol, h.pr, h.ups, h.gn, h.nd, h.na, h.kT, h.kN, h.kR⟩

noncomputable def addUse (m : List (Str × List V)) (k : Str) (v : V) : List (Str × List V) := m.map fun p => if p.1 = k then (p.1, p.2 ++ [v]) else p
noncomputable def addKey (m : List (Str × List V)) (k : Str) : List (Str × List V) := if k ∈ m.map (·.1) then m else m ++ [(k, [])]
noncomputable def useAll (v : V) : List (Str × List V) × List (Str × List V) → List Str → List (Str × List V) × List (Str × List V)
  | (T, N), [] => (T, N)
  | (T, N), s :: r => if s ∈ T.map (·.1) then useAll v (addUse T s v, N) r else useAll v (T, addUse (addKey N s) s v) r
theorem useAll_snoc (v : V) : ∀ (l : List Str) (x : List (Str × List V) × List (Str × List V)) (s : Str), useAll v x (l ++ [s]) = useAll v (useAll v x l) [s]
  | [], (T, N), s => rfl
  | a :: l, (T, N), s => by
    show (if _ then _ else _) = useAll v (if _ then _ else _) [s]
    split
    · exact useAll_snoc v l _ s
    · exact useAll_snoc v l _ s
theorem tcon_keys (t : Tab) : (tcon t).map (·.1) = kys t := by unfold tcon kys; rw [List.map_map]; rfl
theorem addUse_keys (m : List (Str × List V)) (k : Str) (v : V) : (addUse m k v).map (·.1) = m.map (·.1) := by
  unfold addUse
  rw [List.map_map]
  exact List.map_congr_left fun p _ => by simp only [Function.comp]; split <;> rfl
theorem tcon_use {t : Tab} {k : Str} {a : Addr} {xs : List V} {v : V} (hk : (kys t).Nodup) (ha : (adr t).Nodup) (e : tget t k = some (a, xs)) : tcon (tset t a (xs ++ [v])) = addUse (tcon t) k v := by
  rw [tcon_tset hk ha e]
  unfold addUse
  refine List.map_congr_left fun p hp => ?_
  by_cases h : p.1 = k
  · rw [if_pos h, if_pos h]
    obtain ⟨q, hq, rfl⟩ := List.mem_map.mp hp
    have : q = (k, a, xs) := inj_nodup hk hq (tget_mem e) h
    rw [this]
  · rw [if_neg h, if_neg h]
end
end Lay
end
noncomputable section
open PySem PySem.W PyProof.Rows PySem.Calls
set_option Elab.async false
set_option maxRecDepth 100000
set_option linter.all false
namespace Lay
section
variable {F : Fx} {n : Nat} {loc : Loc} {H : Hp}
theorem WSs_mid {st : Stmt} {rest : List Stmt} {Q : Fl → Loc → Hp → Prop} (M : Loc → Hp → Prop) (h : WS F st loc H fun f l1 H1 => match f with | .next => M l1 H1 | f => Q f l1 H1) (k : ∀ l H, M l H → WSs F rest l H Q) : WSs F (st :: rest) loc H Q :=
  WSs_cons (h.mono fun f l H q => by cases f <;> first | exact k _ _ q | exact q)
end
section
variable {cg cr : Addr} {H : Hp} {g : GA} {t : GT}
structure Sz (m : Nat) (t : GT) : Prop where
  T : (kys t.tT).length ≤ m
  N : (kys t.tN).length ≤ m
  R : (kys t.tR).length ≤ m
  lT : ∀ e ∈ t.tT, e.2.2.length ≤ m
  lN : ∀ e ∈ t.tN, e.2.2.length ≤ m
  lR : ∀ e ∈ t.tR, e.2.2.length ≤ m
  ps : t.ps.length ≤ m
  pm : t.pm.length ≤ m
theorem Sz.mono {m m' : Nat} (h : Sz m t) (k : m ≤ m') : Sz m' t :=
  ⟨Nat.le_trans h.T k, Nat.le_trans h.N k, Nat.le_trans h.R k, fun e he => Nat.le_trans (h.lT e he) k, fun e he => Nat.le_trans (h.lN e he) k, fun e he => Nat.le_trans (h.lR e he) k, Nat.le_trans h.ps k, Nat.le_trans h.pm k⟩
theorem tset_len {t : Tab} {a : Addr} {ys : List V} {m : Nat} (h : ∀ e ∈ t, e.2.2.length ≤ m) (hy : ys.length ≤ m) : ∀ e ∈ tset t a ys, e.2.2.length ≤ m := fun e he => by
  obtain ⟨e', he', rfl⟩ := List.mem_map.mp he
  split
  · exact hy
  · exact h e' he'
theorem Sz.setL {m : Nat} (h : Sz m t) {a : Addr} {ys : List V} (hy : ys.length ≤ m) : Sz m (t.setL g a ys) := by
  refine ⟨?_, ?_, ?_, tset_len h.lT hy, tset_len h.lN hy, tset_len h.lR hy, ?_, h.pm⟩
  · show (kys (tset _ _ _)).length ≤ m; rw [kys_tset]; exact h.T
  · show (kys (tset _ _ _)).length ≤ m; rw [kys_tset]; exact h.N
  · show (kys (tset _ _ _)).length ≤ m; rw [kys_tset]; exact h.R
  · show (if g.prods = a then ys else t.ps).length ≤ m
    split
    · exact hy
    · exact h.ps
theorem new_len {t : Tab} {k : Str} {a : Addr} {xs : List V} {m : Nat} (h : ∀ e ∈ t, e.2.2.length ≤ m) (hy : xs.length ≤ m) : ∀ e ∈ t ++ [(k, a, xs)], e.2.2.length ≤ m := fun e he => by
  rcases List.mem_append.mp he with he | he
  · exact h e he
  · simp at he; subst he; exact hy
theorem new_keys {t : Tab} {k : Str} {a : Addr} {xs : List V} : (kys (t ++ [(k, a, xs)])).length = (kys t).length + 1 := by simp [kys]
structure Keeps2 (t t' : GT) : Prop where
  fst : t'.fst = t.fst
  fol : t'.fol = t.fol
  pr : t'.pr = t.pr
  ups : t'.ups = t.ups
  start : t'.start = t.start
theorem foot_L {a : Addr} (h : a ∈ GT.lists g t) : foot g t a := .inr (.inl h)
theorem foot_D {a : Addr} (h : a ∈ g.dicts) : foot g t a := .inl h
noncomputable def Grown (H : Hp) (g : GA) (t t' : GT) : Prop := ∀ a ∈ GT.lists g t', a ∈ GT.lists g t ∨ H.Fresh a
theorem Grown.refl (H : Hp) (g : GA) (t : GT) : Grown H g t t := fun a h => .inl h
theorem Ext.of_foot {H1 H2 : Hp} {t' : GT} (h : Ext (foot g t) H H1) (k : Ext (foot g t') H1 H2) (gr : Grown H g t t') : Ext (foot g t) H H2 := fun a o => by
  obtain ⟨o1, s1⟩ := h a o
  obtain ⟨o2, s2⟩ := k a o1
  refine ⟨o2, fun hf => (s2 fun z => ?_).trans (s1 hf)⟩
  rcases z with z | z | z
  · exact hf (.inl z)
  · rcases gr a z with z | z
    · exact hf (.inr (.inl z))
    · exact z o
  · exact hf (.inr (.inr z))

theorem Grown.newN {k : Str} {a : Addr} {xs : List V} {t1 : GT} (h : Grown H g t t1) (hf : H.Fresh a) : Grown H g t { t1 with tN := t1.tN ++ [(k, a, xs)] } := fun b hb => by
  have : GT.lists g { t1 with tN := t1.tN ++ [(k, a, xs)] } = g.prods :: (adr t1.tT ++ ((adr t1.tN ++ [a]) ++ adr t1.tR)) := by simp [GT.lists, adr]
  rw [this] at hb
  simp only [List.mem_cons, List.mem_append, List.not_mem_nil, or_false] at hb
  rcases hb with hb | hb | (hb | hb) | hb
  · exact h b (by rw [hb]; exact List.mem_cons_self ..)
  · exact h b (mem_lists_T hb)
  · exact h b (mem_lists_N hb)
  · subst hb; exact .inr hf
  · exact h b (mem_lists_R hb)
theorem Grown.newR {k : Str} {a : Addr} {xs : List V} {t1 : GT} (h : Grown H g t t1) (hf : H.Fresh a) : Grown H g t { t1 with tR := t1.tR ++ [(k, a, xs)] } := fun b hb => by
  have : GT.lists g { t1 with tR := t1.tR ++ [(k, a, xs)] } = g.prods :: (adr t1.tT ++ (adr t1.tN ++ (adr t1.tR ++ [a]))) := by simp [GT.lists, adr]
  rw [this] at hb
  simp only [List.mem_cons, List.mem_append, List.not_mem_nil, or_false] at hb
  rcases hb with hb | hb | hb | hb | hb
  · exact h b (by rw [hb]; exact List.mem_cons_self ..)
  · exact h b (mem_lists_T hb)
  · exact h b (mem_lists_N hb)
  · exact h b (mem_lists_R hb)
  · subst hb; exact .inr hf
theorem Grown.lists {t1 t2 : GT} (h : Grown H g t t1) (e : GT.lists g t2 = GT.lists g t1) : Grown H g t t2 := fun b hb => h b (e ▸ hb)
structure ApSt (cg cr : Addr) (H : Hp) (g : GA) (t : GT) (m : Nat) (u : List (Str × List V) × List (Str × List V)) (H' : Hp) (t1 : GT) : Prop where
  gr : GrOk cg cr H' g t1
  ext : Ext (foot g t) H H'
  grown : Grown H g t t1
  sz : Sz m t1
  R : t1.tR = t.tR
  ps : t1.ps = t.ps
  pm : t1.pm = t.pm
  keeps : Keeps2 t t1
  uses : (tcon t1.tT, tcon t1.tN) = u
variable {m : Nat} {T N : List (Str × List V)} {H' : Hp} {t1 : GT}
theorem ApSt.mono {m' : Nat} {u} (h : ApSt cg cr H g t m u H' t1) (k : m ≤ m') : ApSt cg cr H g t m' u H' t1 := { h with sz := h.sz.mono k }
theorem ApSt.extL (h : ApSt cg cr H g t m (T, N) H' t1) {a : Addr} (ha : a ∈ GT.lists g t1) (ys : List V) : Ext (foot g t) H { H' with L := up H'.L a ys } :=
  h.ext.of_foot (Lay.extL (.inl (foot_L ha))) h.grown
theorem ApSt.useT (h : ApSt cg cr H g t m (T, N) H' t1) {s : Str} {a : Addr} {xs : List V} {v : V} (e : tget t1.tT s = some (a, xs)) : ApSt cg cr H g t (m + 1) (addUse T s v, N) { H' with L := up H'.L a (xs ++ [v]) } { t1 with tT := tset t1.tT a (xs ++ [v]) } := by
  have ha : a ∈ adr t1.tT := List.mem_map.mpr ⟨_, tget_mem e, rfl⟩
  have hs := setL_T (ys := xs ++ [v]) h.gr ha
  have g2 := h.gr.setL (a := a) (xs ++ [v])
  rw [hs] at g2
  have hx := h.sz.lT _ (tget_mem e)
  have s2 := (h.sz.mono (Nat.le_succ m)).setL (g := g) (a := a) (ys := xs ++ [v]) (by simp at hx ⊢; omega)
  rw [hs] at s2
  have hu := h.uses
  injection hu with u1 u2
  refine ⟨g2, h.extL (mem_lists_T ha) _, h.grown.lists (by rw [← hs]; exact lists_setL), s2, h.R, h.ps, h.pm, ⟨h.keeps.fst, h.keeps.fol, h.keeps.pr, h.keeps.ups, h.keeps.start⟩, ?_⟩
  show (tcon (tset t1.tT a (xs ++ [v])), tcon t1.tN) = _
  rw [tcon_use h.gr.kT h.gr.apart.2.2.2.1 e, u1, u2]
theorem ApSt.useN (h : ApSt cg cr H g t m (T, N) H' t1) {s : Str} {a : Addr} {xs : List V} {v : V} (e : tget t1.tN s = some (a, xs)) : ApSt cg cr H g t (m + 1) (T, addUse N s v) { H' with L := up H'.L a (xs ++ [v]) } { t1 with tN := tset t1.tN a (xs ++ [v]) } := by
  have ha : a ∈ adr t1.tN := List.mem_map.mpr ⟨_, tget_mem e, rfl⟩
  have hs := setL_N (ys := xs ++ [v]) h.gr ha
  have g2 := h.gr.setL (a := a) (xs ++ [v])
  rw [hs] at g2
  have hx := h.sz.lN _ (tget_mem e)
  have s2 := (h.sz.mono (Nat.le_succ m)).setL (g := g) (a := a) (ys := xs ++ [v]) (by simp at hx ⊢; omega)
  rw [hs] at s2
  have hu := h.uses
  injection hu with u1 u2
  refine ⟨g2, h.extL (mem_lists_N ha) _, h.grown.lists (by rw [← hs]; exact lists_setL), s2, h.R, h.ps, h.pm, ⟨h.keeps.fst, h.keeps.fol, h.keeps.pr, h.keeps.ups, h.keeps.start⟩, ?_⟩
  show (tcon t1.tT, tcon (tset t1.tN a (xs ++ [v]))) = _
  rw [tcon_use h.gr.kN h.gr.apart.2.2.2.2.1 e, u1, u2]
theorem ApSt.keyN (h : ApSt cg cr H g t m (T, N) H' t1) {s : Str} {a : Addr} (hk : s ∉ kys t1.tN) (ha : H'.Fresh a) : ApSt cg cr H g t (m + 1) (T, addKey N s) { H' with L := up H'.L a [], D := up H'.D g.nts (dput (tof t1.tN) s (.ref a)) } { t1 with tN := t1.tN ++ [(s, a, [])] } := by
  have hu := h.uses
  injection hu with u1 u2
  have hf : H.Fresh a := h.ext.fresh ha
  have sz := h.sz.mono (Nat.le_succ m)
  refine ⟨h.gr.newN hk ha, ?_, h.grown.newN hf, ⟨sz.T, ?_, sz.R, sz.lT, new_len sz.lN (by simp), sz.lR, sz.ps, sz.pm⟩, h.R, h.ps, h.pm, ⟨h.keeps.fst, h.keeps.fol, h.keeps.pr, h.keeps.ups, h.keeps.start⟩, ?_⟩
  · exact h.ext.of_foot ((Lay.extL (.inr ha)).trans (extD (.inl (foot_D (by simp [GA.dicts]))))) h.grown
  · show (kys (t1.tN ++ [(s, a, [])])).length ≤ m + 1
    rw [new_keys]; have := h.sz.N; omega
  · show (tcon t1.tT, tcon (t1.tN ++ [(s, a, [])])) = _
    have : s ∉ N.map (·.1) := by rw [← u2, tcon_keys]; exact hk
    unfold addKey
    rw [if_neg this, ← u1, ← u2]
    simp [tcon]
theorem addKey_old {s : Str} (h : s ∈ N.map (·.1)) : addKey N s = N := by unfold addKey; rw [if_pos h]
theorem ApSt.fldT (h : ApSt cg cr H g t m (T, N) H' t1) (s : Str) : s ∈ T.map (·.1) ↔ s ∈ kys t1.tT := by
  have hu := h.uses
  injection hu with u1 u2
  rw [← u1, tcon_keys]
theorem ApSt.fldN (h : ApSt cg cr H g t m (T, N) H' t1) (s : Str) : s ∈ N.map (·.1) ↔ s ∈ kys t1.tN := by
  have hu := h.uses
  injection hu with u1 u2
  rw [← u2, tcon_keys]
end
end Lay
end
noncomputable section
open PySem PySem.W PyProof.Rows PySem.Calls
set_option Elab.async false
set_option maxRecDepth 100000
set_option linter.all false
namespace Lay
noncomputable def tput (t : Tab) (k : Str) (a : Addr) (xs : List V) : Tab := if t.any (fun e => e.1 = k) then t.map (fun e => if e.1 = k then (e.1, a, xs) else e) else t ++ [(k, a, xs)]
noncomputable def fput (fi : Str → List Str) (k : Str) (xs : List Str) : Str → List Str := fun k' => if k' = k then xs else fi k'
theorem fput_self {fi : Str → List Str} {k : Str} {xs : List Str} : fput fi k xs k = xs := if_pos rfl
theorem fput_ne {fi : Str → List Str} {k k' : Str} {xs : List Str} (h : k' ≠ k) : fput fi k xs k' = fi k' := if_neg h
theorem tof_tput (t : Tab) (k : Str) (a : Addr) (xs : List V) : tof (tput t k a xs) = dput (tof t) k (.ref a) := by
  unfold tput dput tof
  have e : (t.map fun e => (e.1, V.ref e.2.1)).any (fun kv => decide (kv.1 = k)) = t.any (fun e => decide (e.1 = k)) := by rw [List.any_map]; rfl
  rw [e]
  split
  · rw [List.map_map, List.map_map]
    refine List.map_congr_left fun p _ => ?_
    simp only [Function.comp]
    split <;> rfl
  · simp
theorem any_kys {t : Tab} {k : Str} : t.any (fun e => decide (e.1 = k)) = true ↔ k ∈ kys t := by
  simp [kys, List.any_eq_true]
theorem kys_tput (t : Tab) (k : Str) (a : Addr) (xs : List V) : kys (tput t k a xs) = if k ∈ kys t then kys t else kys t ++ [k] := by
  unfold tput
  by_cases h : k ∈ kys t
  · rw [if_pos (any_kys.mpr h), if_pos h]
    unfold kys
    rw [List.map_map]
    refine List.map_congr_left fun p _ => ?_
    simp only [Function.comp]; split <;> rfl
  · rw [if_neg (fun z => h (any_kys.mp z)), if_neg h]
    simp [kys]
theorem tput_mem {t : Tab} {k : Str} {a : Addr} {xs : List V} {e : Str × Addr × List V} (h : e ∈ tput t k a xs) : e = (k, a, xs) ∨ (e ∈ t ∧ e.1 ≠ k) := by
  unfold tput at h
  split at h
  · obtain ⟨p, hp, rfl⟩ := List.mem_map.mp h
    split
    · rename_i z; left; rw [z]
    · rename_i z; exact .inr ⟨hp, z⟩
  · rename_i hn
    rcases List.mem_append.mp h with h | h
    · exact .inr ⟨h, fun z => hn (List.any_eq_true.mpr ⟨e, h, by simpa using z⟩)⟩
    · simp at h; exact .inl h
theorem adr_tput_sub {t : Tab} {k : Str} {a : Addr} {xs : List V} {b : Addr} (h : b ∈ adr (tput t k a xs)) : b = a ∨ b ∈ adr t := by
  obtain ⟨e, he, rfl⟩ := List.mem_map.mp h
  rcases tput_mem he with rfl | ⟨h, _⟩
  · exact .inl rfl
  · exact .inr (List.mem_map.mpr ⟨e, h, rfl⟩)
theorem adr_tmap_nodup {k : Str} {a : Addr} {xs : List V} : ∀ {t : Tab}, (kys t).Nodup → (adr t).Nodup → a ∉ adr t → (adr (t.map fun e => if e.1 = k then (e.1, a, xs) else e)).Nodup
  | [], _, _, _ => List.nodup_nil
  | p :: r, hk, h, ha => by
    have ih := @adr_tmap_nodup k a xs r
    simp only [adr, kys, List.map_cons, List.nodup_cons, List.mem_cons, not_or] at hk h ha ih ⊢
    refine ⟨fun hm => ?_, ih hk.2 h.2 ha.2⟩
    obtain ⟨q', hq', e⟩ := List.mem_map.mp hm
    obtain ⟨q, hq, rfl⟩ := List.mem_map.mp hq'
    by_cases e1 : q.1 = k
    · by_cases e2 : p.1 = k
      · exact hk.1 (List.mem_map.mpr ⟨q, hq, e1.trans e2.symm⟩)
      · rw [if_pos e1, if_neg e2] at e; exact ha.1 e
    · rw [if_neg e1] at e
      by_cases e2 : p.1 = k
      · rw [if_pos e2] at e; exact ha.2 (List.mem_map.mpr ⟨q, hq, e⟩)
      · rw [if_neg e2] at e; exact h.1 (List.mem_map.mpr ⟨q, hq, e⟩)
theorem adr_tput_nodup {t : Tab} {k : Str} {a : Addr} {xs : List V} (hk : (kys t).Nodup) (h : (adr t).Nodup) (ha : a ∉ adr t) : (adr (tput t k a xs)).Nodup := by
  unfold tput
  split
  · exact adr_tmap_nodup hk h ha
  · have : adr (t ++ [(k, a, xs)]) = adr t ++ [a] := by simp [adr]
    rw [this, List.nodup_append]
    exact ⟨h, by simp, fun b hb c hc => by simp at hc; subst hc; exact fun z => ha (z ▸ hb)⟩
structure Side (H : Hp) (d : Addr) (tF : Tab) (fi : Str → List Str) : Prop where
  tb : Tb H d tF
  con : ∀ e ∈ tF, e.2.2 = (fi e.1).map .str
  kd : (kys tF).Nodup
section
variable {H H' : Hp} {d a : Addr} {tF : Tab} {fi : Str → List Str} {k : Str} {xs : List Str}
theorem Side.keep (h : Side H d tF fi) (hd : H'.D d = H.D d) (hl : ∀ a ∈ adr tF, H'.L a = H.L a) : Side H' d tF fi := ⟨h.tb.keep hd hl, h.con, h.kd⟩
theorem Side.at_ (h : Side H d tF fi) (hk : k ∈ kys tF) : ∃ a, tget tF k = some (a, (fi k).map .str) ∧ dget (tof tF) k = some (.ref a) ∧ H.L a = some ((fi k).map .str) ∧ a ∈ adr tF := by
  obtain ⟨a, xs, e⟩ := tget_some hk
  have hm := tget_mem e
  have hc := h.con _ hm
  simp only at hc
  subst hc
  obtain ⟨e1, e2⟩ := h.tb.at_ e
  exact ⟨a, e, e1, e2, List.mem_map.mpr ⟨_, hm, rfl⟩⟩
theorem Side.put (h : Side H d tF fi) (ha : a ∉ adr tF) (hd : H'.D d = some (dput (tof tF) k (.ref a))) (hL : H'.L a = some (xs.map .str)) (hl : ∀ b ∈ adr tF, H'.L b = H.L b) : Side H' d (tput tF k a (xs.map .str)) (fput fi k xs) := by
  refine ⟨⟨by rw [hd, tof_tput], fun e he => ?_⟩, fun e he => ?_, ?_⟩
  · rcases tput_mem he with rfl | ⟨he, _⟩
    · exact hL
    · rw [hl _ (List.mem_map.mpr ⟨e, he, rfl⟩)]; exact h.tb.lst e he
  · rcases tput_mem he with rfl | ⟨he, hne⟩
    · rw [fput_self]
    · rw [fput_ne hne]; exact h.con e he
  · rw [kys_tput]
    split
    · exact h.kd
    · rename_i hn
      rw [List.nodup_append]
      exact ⟨h.kd, by simp, fun b hb c hc => by simp at hc; subst hc; exact fun z => hn (z ▸ hb)⟩
theorem Side.set (h : Side H d tF fi) (hn : (adr tF).Nodup) {ys : List V} (e : tget tF k = some (a, ys)) (hd : H'.D d = H.D d) (hL : H'.L a = some (xs.map .str)) (hl : ∀ b, b ≠ a → H'.L b = H.L b) : Side H' d (tset tF a (xs.map .str)) (fput fi k xs) := by
  refine ⟨h.tb.set hd hL hl, fun e' he' => ?_, by rw [kys_tset]; exact h.kd⟩
  obtain ⟨p, hp, rfl⟩ := List.mem_map.mp he'
  have hm := tget_mem e
  split
  · rename_i z
    have : p = (k, a, ys) := inj_nodup (f := fun e : Str × Addr × List V => e.2.1) hn hp hm z
    rw [this, fput_self]
  · rename_i z
    have : p.1 ≠ k := fun e => z (by rw [inj_nodup (f := fun e : Str × Addr × List V => e.1) h.kd hp hm e])
    rw [fput_ne this]; exact h.con p hp
end
section
variable {cg cr : Addr} {H : Hp} {g : GA} {t : GT}
theorem GrOk.setFst (h : GrOk cg cr H g t) (kvs : List (Str × V)) : GrOk cg cr { H with D := up H.D g.fst kvs } g { t with fst := kvs } := by
  have nd := h.nd
  simp only [GA.dicts, List.nodup_cons, List.mem_cons, List.not_mem_nil, or_false, not_or, List.nodup_nil, not_false_eq_true, and_true] at nd
  obtain ⟨⟨a1, a2, a3, a4, a5, a6, a7, a8⟩, ⟨b1, b2, b3, b4, b5, b6, b7⟩, ⟨c1, c2, c3, c4, c5, c6⟩, ⟨d1, d2, d3, d4, d5⟩, ⟨e1, e2, e3, e4⟩, ⟨f1, f2, f3⟩, ⟨g1, g2⟩, i1⟩ := nd
  obtain ⟨fs, fs1, fs2⟩ := h.fs
  obtain ⟨ns, ns1, ns2⟩ := h.nD
  exact ⟨h.I, ⟨fs, upe a6 fs1, fs2⟩, h.nI, ⟨ns, upe b5 ns1, ns2⟩, upe c4 h.al, h.ps, h.pm, h.tT.keep (up_ne e2) fun _ _ => rfl, h.tN.keep (up_ne f1) fun _ _ => rfl, h.tR.keep (up_ne d3) fun _ _ => rfl, up_self _ _ _, upe (Ne.symm g1) h.fol, upe (Ne.symm g2) h.pr, h.ups, h.gn, h.nd, h.na, h.kT, h.kN, h.kR⟩
theorem GrOk.setFol (h : GrOk cg cr H g t) (kvs : List (Str × V)) : GrOk cg cr { H with D := up H.D g.fol kvs } g { t with fol := kvs } := by
  have nd := h.nd
  simp only [GA.dicts, List.nodup_cons, List.mem_cons, List.not_mem_nil, or_false, not_or, List.nodup_nil, not_false_eq_true, and_true] at nd
  obtain ⟨⟨a1, a2, a3, a4, a5, a6, a7, a8⟩, ⟨b1, b2, b3, b4, b5, b6, b7⟩, ⟨c1, c2, c3, c4, c5, c6⟩, ⟨d1, d2, d3, d4, d5⟩, ⟨e1, e2, e3, e4⟩, ⟨f1, f2, f3⟩, ⟨g1, g2⟩, i1⟩ := nd
  obtain ⟨fs, fs1, fs2⟩ := h.fs
  obtain ⟨ns, ns1, ns2⟩ := h.nD
  exact ⟨h.I, ⟨fs, upe a7 fs1, fs2⟩, h.nI, ⟨ns, upe b6 ns1, ns2⟩, upe c5 h.al, h.ps, h.pm, h.tT.keep (up_ne e3) fun _ _ => rfl, h.tN.keep (up_ne f2) fun _ _ => rfl, h.tR.keep (up_ne d4) fun _ _ => rfl, upe g1 h.fst, up_self _ _ _, upe (Ne.symm i1) h.pr, h.ups, h.gn, h.nd, h.na, h.kT, h.kN, h.kR⟩
theorem GrOk.keepL (h : GrOk cg cr H g t) {a : Addr} (ha : a ∉ GT.lists g t) (ys : List V) : GrOk cg cr { H with L := up H.L a ys } g t :=
  h.keep (fun b hb => up_ne (fun e => ha (e ▸ hb))) (fun _ _ => rfl) rfl rfl rfl rfl h.gn
structure Cs (cg cr : Addr) (H0 : Hp) (g : GA) (t : GT) (H : Hp) (tF tW : Tab) (fi fo : Str → List Str) : Prop where
  gr : GrOk cg cr H g { t with fst := tof tF, fol := tof tW }
  sF : Side H g.fst tF fi
  sW : Side H g.fol tW fo
  nd : (adr tF ++ adr tW).Nodup
  dis : ∀ a ∈ adr tF ++ adr tW, a ∉ GT.lists g t
  ext : Ext (foot g t) H0 H
  fr : ∀ a ∈ adr tF ++ adr tW, H0.Fresh a
variable {H0 : Hp} {tF tW : Tab} {fi fo : Str → List Str} {k : Str} {a : Addr} {xs : List Str}
theorem Cs.out (h : Cs cg cr H0 g t H tF tW fi fo) (hf : H.Fresh a) : a ∉ adr tF ++ adr tW := fun hm => by
  rcases List.mem_append.mp hm with hm | hm
  · obtain ⟨e, he, rfl⟩ := List.mem_map.mp hm
    have := h.sF.tb.lst e he
    rw [hf.l] at this; cases this
  · obtain ⟨e, he, rfl⟩ := List.mem_map.mp hm
    have := h.sW.tb.lst e he
    rw [hf.l] at this; cases this
theorem GrOk.fst_ne (h : GrOk cg cr H g t) : g.fst ≠ g.fol ∧ g.fst ≠ g.ts ∧ g.fst ≠ g.nts ∧ g.fol ≠ g.ts ∧ g.fol ≠ g.nts := by
  have nd := h.nd
  simp only [GA.dicts, List.nodup_cons, List.mem_cons, List.not_mem_nil, or_false, not_or, List.nodup_nil, not_false_eq_true, and_true] at nd
  obtain ⟨⟨a1, a2, a3, a4, a5, a6, a7, a8⟩, ⟨b1, b2, b3, b4, b5, b6, b7⟩, ⟨c1, c2, c3, c4, c5, c6⟩, ⟨d1, d2, d3, d4, d5⟩, ⟨e1, e2, e3, e4⟩, ⟨f1, f2, f3⟩, ⟨g1, g2⟩, i1⟩ := nd
  exact ⟨g1, Ne.symm e2, Ne.symm f1, Ne.symm e3, Ne.symm f2⟩
theorem Cs.putF (h : Cs cg cr H0 g t H tF tW fi fo) (hf : H.Fresh a) : Cs cg cr H0 g t { H with L := up H.L a (xs.map .str), D := up H.D g.fst (dput (tof tF) k (.ref a)) } (tput tF k a (xs.map .str)) tW (fput fi k xs) fo := by
  have ho := h.out hf
  rw [List.mem_append, not_or] at ho
  have hl := h.gr.freshL hf
  have hn := List.nodup_append.mp h.nd
  refine ⟨?_, h.sF.put ho.1 (up_self _ _ _) (up_self _ _ _) (fun b hb => up_ne (fun e => ho.1 (e ▸ hb))), h.sW.keep (up_ne (Ne.symm h.gr.fst_ne.1)) (fun b hb => up_ne (fun e => ho.2 (e ▸ hb))), ?_, fun b hb => ?_, ?_, fun b hb => ?_⟩
  · rw [tof_tput]
    exact (h.gr.keepL hl _).setFst _
  · rw [List.nodup_append]
    refine ⟨adr_tput_nodup h.sF.kd hn.1 ho.1, hn.2.1, fun b hb c hc e => ?_⟩
    subst e
    rcases adr_tput_sub hb with rfl | hb
    · exact ho.2 hc
    · exact hn.2.2 b hb b hc rfl
  · rcases List.mem_append.mp hb with hb | hb
    · rcases adr_tput_sub hb with rfl | hb
      · exact hl
      · exact h.dis b (List.mem_append_left _ hb)
    · exact h.dis b (List.mem_append_right _ hb)
  · exact h.ext.trans ((extL (.inr hf)).trans (extD (.inl (foot_D (by simp [GA.dicts])))))
  · rcases List.mem_append.mp hb with hb | hb
    · rcases adr_tput_sub hb with rfl | hb
      · exact h.ext.fresh hf
      · exact h.fr b (List.mem_append_left _ hb)
    · exact h.fr b (List.mem_append_right _ hb)
theorem Cs.putW (h : Cs cg cr H0 g t H tF tW fi fo) (hf : H.Fresh a) : Cs cg cr H0 g t { H with L := up H.L a (xs.map .str), D := up H.D g.fol (dput (tof tW) k (.ref a)) } tF (tput tW k a (xs.map .str)) fi (fput fo k xs) := by
  have ho := h.out hf
  rw [List.mem_append, not_or] at ho
  have hl := h.gr.freshL hf
  have hn := List.nodup_append.mp h.nd
  refine ⟨?_, h.sF.keep (up_ne h.gr.fst_ne.1) (fun b hb => up_ne (fun e => ho.1 (e ▸ hb))), h.sW.put ho.2 (up_self _ _ _) (up_self _ _ _) (fun b hb => up_ne (fun e => ho.2 (e ▸ hb))), ?_, fun b hb => ?_, ?_, fun b hb => ?_⟩
  · rw [tof_tput]
    exact (h.gr.keepL hl _).setFol _
  · rw [List.nodup_append]
    refine ⟨hn.1, adr_tput_nodup h.sW.kd hn.2.1 ho.2, fun b hb c hc e => ?_⟩
    subst e
    rcases adr_tput_sub hc with rfl | hc
    · exact ho.1 hb
    · exact hn.2.2 b hb b hc rfl
  · rcases List.mem_append.mp hb with hb | hb
    · exact h.dis b (List.mem_append_left _ hb)
    · rcases adr_tput_sub hb with rfl | hb
      · exact hl
      · exact h.dis b (List.mem_append_right _ hb)
  · exact h.ext.trans ((extL (.inr hf)).trans (extD (.inl (foot_D (by simp [GA.dicts])))))
  · rcases List.mem_append.mp hb with hb | hb
    · exact h.fr b (List.mem_append_left _ hb)
    · rcases adr_tput_sub hb with rfl | hb
      · exact h.ext.fresh hf
      · exact h.fr b (List.mem_append_right _ hb)
theorem Ext.ownFresh {ft : Addr → Prop} {H1 : Hp} (h : Ext ft H0 H1) (hf : H0.Fresh a) (ys : List V) : Ext ft H0 { H1 with L := up H1.L a ys } := fun b o => by
  have hne : b ≠ a := by rintro rfl; exact hf o
  obtain ⟨o1, s1⟩ := h b o
  refine ⟨?_, fun z => ?_⟩
  · unfold Hp.Own at o1 ⊢; simpa only [up_ne hne] using o1
  · obtain ⟨e1, e2⟩ := s1 z
    exact ⟨(up_ne hne).trans e1, e2⟩
theorem Cs.appF (h : Cs cg cr H0 g t H tF tW fi fo) {ys : List V} (e : tget tF k = some (a, ys)) : Cs cg cr H0 g t { H with L := up H.L a (xs.map .str) } (tset tF a (xs.map .str)) tW (fput fi k xs) fo := by
  have ha : a ∈ adr tF := List.mem_map.mpr ⟨_, tget_mem e, rfl⟩
  have hn := List.nodup_append.mp h.nd
  refine ⟨?_, h.sF.set hn.1 e rfl (up_self _ _ _) fun b hb => up_ne hb, h.sW.keep rfl fun b hb => up_ne (fun z => hn.2.2 a ha b hb z.symm), by rw [adr_tset]; exact h.nd, by rw [adr_tset]; exact h.dis, h.ext.ownFresh (h.fr a (List.mem_append_left _ ha)) _, by rw [adr_tset]; exact h.fr⟩
  rw [tof_tset]
  exact h.gr.keepL (h.dis a (List.mem_append_left _ ha)) _
theorem Cs.appW (h : Cs cg cr H0 g t H tF tW fi fo) {ys : List V} (e : tget tW k = some (a, ys)) : Cs cg cr H0 g t { H with L := up H.L a (xs.map .str) } tF (tset tW a (xs.map .str)) fi (fput fo k xs) := by
  have ha : a ∈ adr tW := List.mem_map.mpr ⟨_, tget_mem e, rfl⟩
  have hn := List.nodup_append.mp h.nd
  refine ⟨?_, h.sF.keep rfl fun b hb => up_ne (fun z => hn.2.2 b hb a ha z), h.sW.set hn.2.1 e rfl (up_self _ _ _) fun b hb => up_ne hb, by rw [adr_tset]; exact h.nd, by rw [adr_tset]; exact h.dis, h.ext.ownFresh (h.fr a (List.mem_append_right _ ha)) _, by rw [adr_tset]; exact h.fr⟩
  rw [tof_tset]
  exact h.gr.keepL (h.dis a (List.mem_append_right _ ha)) _
end
end Lay
end
noncomputable section
open PySem PySem.W PyProof.Rows PySem.Calls
set_option Elab.async false
set_option maxRecDepth 100000
set_option linter.all false
namespace Lay
section
variable {prog : Program} {w : World} {A : Around} {E : Value → Shared → Prop} {s : Shared} {env : Env}
theorem wpAny_Subscript_SliceA {value : Expr} {lower upper : Option Expr} {p pos : Pos} {T id : String} {Q : Value → Shared → Prop}
    (hl : typeLookup (.type T) "__getitem__" = pure (some (.builtin id)))
    (h : wpAny (model prog w) A (eval value env) (fun o s₁ => wpAny (model prog w) A (eval (.Slice lower upper none p) env) (fun i s₂ => s₂.TypeIs o T ∧ wpAny (model prog w) A (getItem o i) Q E s₂) E s₁) E s) :
    wpAny (model prog w) A (eval (.Subscript value (.Slice lower upper none p) pos) env) Q E s := by
  rw [eval_Subscript]
  refine wpAny_bind (wpAny_mono h (fun o s₁ h₁ => wpAny_bind (wpAny_holding (wpAny_mono h₁ (fun i s₂ h₂ => wpAny_bind (wpAny_standAt ?_)) fun _ _ x => x))) fun _ _ x => x)
  have fin : wpAny (model prog w) A (operate [i, o] (getItem o i)) (fun r s₃ => wpAny (model prog w) A (letTemporaryGo value o r >>= fun _ => pure r) Q E s₃) E s₂ :=
    wpAny_operating (wpAny_mono h₂.2 (fun r s₃ h₃ => wpAny_bind (wpAny_letTemporaryGo (wpAny_pure h₃))) fun _ _ x => x)
  first
    | (refine wpAny_bind ?_
       rw [getitemInPython_of_ne h₂.1.not_modules]
       refine wpAny_bind (wpAny_specialOf h₂.1 hl ?_)
       first
         | exact wpAny_pure (wpAny_bind fin)
         | exact wpAny_bind (wpAny_pure (wpAny_bind fin))
         | exact wpAny_bind fin)
    | (refine wpAny_bind (wpAny_specialOf h₂.1 hl ?_)
       first
         | exact wpAny_bind (wpAny_pure (wpAny_bind fin))
         | exact wpAny_bind fin)
end
section
variable {F : Fx} {n : Nat} {loc : Loc} {H : Hp}
theorem WE_SliceLA {value : Expr} {lo hi : Option Expr} {p pos : Pos} {Q : V → Loc → Hp → Prop}
    (h : WE F value loc H fun X l1 H1 => WOpt F lo l1 H1 fun a l2 H2 => WOpt F hi l2 H2 fun b l3 H3 => ∃ xs, asL H3 X = some xs ∧ xs.length ≤ 1000000 ∧ (∀ i, a = some i → 0 ≤ i) ∧ (∀ i, b = some i → 0 ≤ i) ∧ Q (.list (cut xs a b)) l3 H3) : WE F (.Subscript value (.Slice lo hi none p) pos) loc H Q := fun B s R => by
  refine wpAny_Subscript_SliceA list_getitem_lookup ((h B s R).then fun v B1 X l1 H1 s1 le1 r1 R1 h1 => wpAny_Slice ((h1 B1 s1 R1).then fun va B2 a l2 H2 s2 le2 ra R2 h2 => (h2 B2 s2 R2).then fun vb B3 b l3 H3 s3 le3 rb R3 h3 => ?_))
  obtain ⟨xs, e, hz, ha, hb, q⟩ := h3
  refine wpAny_pure ?_
  have R4 := R3.grow (s' := { s3 with heap := s3.heap.push { cls := .type "slice", data := .fields #[va, vb, .none] } }) (fun b o e => Heap.get?_push_of_some _ e) rfl rfl
  obtain ⟨l, items, m, rfl, hl, hr⟩ := asL_at R4 (r1.mono (le2.trans le3)) e
  have hlen := hr.length
  rw [Array.length_toList] at hlen
  refine ⟨hl.isList.typeIs, wpAny_getItem_list_slice hl.isList (Heap.IsSliceOf.new ..) ra rb .none (by simp) ?_ (by rw [hlen, sizeLine_eq]; omega)⟩
  have hc := cut_rel hr ha hb
  rw [Array.toArray_toList] at hc
  refine PW_newListF (P := Post F RelV B Q) (vs := (slicePick items a b none).toList) (k := 0) R4 hc (Nat.le_refl _) (fun b o e => Heap.get?_push_of_some _ e) (by rw [Array.toArray_toList]; exact Heap.get?_push_size _ rfl) rfl rfl fun B' le' r' R' => ?_
  exact (Post.pure r' R' q).lift ((le1.trans (le2.trans le3)).trans le')
theorem WE_SliceTA {value : Expr} {lo : Expr} {p pos : Pos} {Q : V → Loc → Hp → Prop}
    (h : WE F value loc H fun X l1 H1 => WE F lo l1 H1 fun Y l2 H2 => ∃ xs k, X = .tup xs ∧ Y = .int (k : Nat) ∧ 1 ≤ k ∧ k ≤ xs.length ∧ xs.length ≤ 1000000 ∧ Q (.tup (xs.drop k)) l2 H2) : WE F (.Subscript value (.Slice (some lo) none none p) pos) loc H Q := fun B s R => by
  refine wpAny_Subscript_SliceA PySem.F.slot_tuple_getitem.lookup ((h B s R).then fun v B1 X l1 H1 s1 le1 r1 R1 h1 => wpAny_Slice ((h1 B1 s1 R1).then fun va B2 a l2 H2 s2 le2 ra R2 h2 => wpAny_pure (wpAny_pure ?_)))
  obtain ⟨xs, k, rfl, rfl, h1, h2, hz, q⟩ := h2
  cases ra with | int _ t => ?_
  have r2 := r1.mono le2
  cases r2 with | @tup x items m _ hb hr => ?_
  have R4 := R2.grow (s' := { s2 with heap := s2.heap.push { cls := .type "slice", data := .fields #[.int k t, .none, .none] } }) (fun b o e => Heap.get?_push_of_some _ e) rfl rfl
  have hlen := hr.length
  rw [Array.length_toList] at hlen
  have htup : IsTup (s2.heap.push { cls := .type "slice", data := .fields #[.int k t, .none, .none] }) x items := ⟨_, R4.keep _ _ hb, rfl, _, rfl⟩
  refine ⟨htup.typeIs (s := { s2 with heap := s2.heap.push { cls := .type "slice", data := .fields #[.int k t, .none, .none] } }), getItem_tuple_from htup (Heap.IsSliceOf.new ..) h1 (by omega) ?_ (by rw [hlen, sizeLine_eq]; omega)⟩
  obtain ⟨R5, le5, e5⟩ := R4.hold (s' := { s2 with heap := (s2.heap.push { cls := .type "slice", data := .fields #[.int k t, .none, .none] }).push (tupObj (items.toList.drop k).toArray 0) }) (o := tupObj (items.toList.drop k).toArray 0) (Nat.le_refl _) (fun b o e => Heap.get?_push_of_some _ e) (Heap.get?_push_size _ rfl) rfl rfl
  refine (Post.pure (.tup (items := (items.toList.drop k).toArray) (n := 0) e5 ?_) R5 q).lift ((le1.trans le2).trans le5)
  simpa using (hr.drop k).mono le5

end
end Lay
end
noncomputable section
open PySem PySem.W PyProof.Rows PySem.Calls
set_option Elab.async false
set_option maxRecDepth 100000
set_option linter.all false
namespace Lay
theorem cellsFrom_zero : ∀ (names : List (Str × NameKind)) (k : Nat) (acc : List (Str × Addr)), names.filter (·.2 == .cell) = [] → cellsFrom k names acc = acc
  | [], _, _, _ => rfl
  | (x, kd) :: r, k, acc, h => by
    rw [List.filter_cons] at h
    unfold cellsFrom
    split at h
    · cases h
    · rename_i hn
      simp only at hn
      rw [if_neg hn]; exact cellsFrom_zero r k acc h
theorem pushCells_zero : ∀ (names : List (Str × NameKind)) (hp : Heap), names.filter (·.2 == .cell) = [] → pushCells hp names = hp
  | [], _, _ => rfl
  | (x, kd) :: r, hp, h => by
    rw [List.filter_cons] at h
    unfold pushCells
    split at h
    · cases h
    · rename_i hn
      simp only at hn
      rw [if_neg hn]; exact pushCells_zero r hp h
theorem cellsFrom_one {x0 : Str} : ∀ (names : List (Str × NameKind)) (k : Nat) (acc : List (Str × Addr)), names.filter (·.2 == .cell) = [(x0, .cell)] → cellsFrom k names acc = (x0, k) :: acc
  | [], _, _, h => by cases h
  | (x, kd) :: r, k, acc, h => by
    rw [List.filter_cons] at h
    unfold cellsFrom
    split at h
    · rename_i hn
      simp only at hn
      injection h with h1 h2
      injection h1 with h1 h3
      subst h1
      rw [if_pos hn]; exact cellsFrom_zero r _ _ h2
    · rename_i hn
      simp only at hn
      rw [if_neg hn]; exact cellsFrom_one r k acc h
theorem pushCells_one {x0 : Str} : ∀ (names : List (Str × NameKind)) (hp : Heap), names.filter (·.2 == .cell) = [(x0, .cell)] → pushCells hp names = hp.push { cls := .type "cell", data := .cell none }
  | [], _, h => by cases h
  | (x, kd) :: r, hp, h => by
    rw [List.filter_cons] at h
    unfold pushCells
    split at h
    · rename_i hn
      simp only at hn
      injection h with h1 h2
      rw [if_pos hn]; exact pushCells_zero r _ h2
    · rename_i hn
      simp only at hn
      rw [if_neg hn]; exact pushCells_one r hp h
theorem newEnv_comp {prog : Program} {w : World} {A : Around} {E : Value → Shared → Prop} {s : Shared} {scope : Scope} {globals : Addr} {cl : List (Str × Addr)} {qual : Str} {outer : Env} {x0 : Str} {Q : Env → Shared → Prop} (hone : scope.names.filter (·.2 == .cell) = [(x0, .cell)])
    (hQ : Q (newEnv scope s.heap.objs.size globals ((x0, s.heap.objs.size + 1) :: cl) qual none .none (some outer) builtinsNs) { s with heap := (s.heap.push { cls := .type "dict", data := .dict #[] }).push { cls := .type "cell", data := .cell none } }) :
    wpAny (model prog w) A (newFunctionEnv scope globals cl [] qual none .none (some outer)) Q E s := by
  simp only [newFunctionEnv, Option.isSome_some, if_true]
  refine wpAny_bind (wpAny_alloc ?_)
  refine wpAny_bind (wpAny_layCells _ (fun name kind cells => by cases hkc : kind == NameKind.cell <;> simp [hkc]) _ _ _ _ ?_)
  rw [show ({ s with heap := s.heap.push { cls := .type "dict", data := .dict #[] } } : Shared).heap.objs.size = s.heap.objs.size + 1 from Heap.size_push .., cellsFrom_one _ _ _ hone, pushCells_one _ _ hone]
  exact wpAny_bind (wpAny_pure (wpAny_pure hQ))
noncomputable abbrev Hp.cel (H : Hp) (a : Addr) (ov : Option V) : Hp := ⟨H.L, H.D, H.P, H.S, H.I, up H.C a ov, H.G⟩
section
variable {F : Fx} {n : Nat} {loc : Loc} {H : Hp}
noncomputable abbrev CompTurnC (F : Fx) (target elt : Expr) (ifs : List Expr) (l : Loc) (H : Hp) (ca : Addr) (ov : Option V) (x : V) (out : Option V) : Prop := CompTurnG F target elt ifs l (H.cel ca) ov x out
noncomputable def CompOkC (F : Fx) (n : Nat) (target elt : Expr) (ifs : List Expr) (scope : Scope) (x0 : Str) (cl : List (Str × Addr)) (St : Nat → ItS) (xs : List V) (f : V → Option V) (H : Hp) : Prop :=
  (∀ i, ItMono (St i)) ∧ xs.length ≤ 100000 ∧ ∀ C sv E, H.Fresh (C + 1) → Ok (CFx F scope ((x0, C + 1) :: cl) C sv E) n → ItSelf (CFx F scope ((x0, C + 1) :: cl) C sv E) (St 0) ∧
    (∀ i x ov, xs[i]? = some x → Nxt (CFx F scope ((x0, C + 1) :: cl) C sv E) target (St i) (H.cel (C + 1) ov) (some (x, St (i + 1))) ∧ CompTurnC (CFx F scope ((x0, C + 1) :: cl) C sv E) target elt ifs (nones scope) H (C + 1) ov x (f x)) ∧ ∀ ov, Nxt (CFx F scope ((x0, C + 1) :: cl) C sv E) target (St xs.length) (H.cel (C + 1) ov) none
theorem comp_coreC (ok : Ok F n) {elt target iter : Expr} {ifs : List Expr} {scope : Scope} {pos : Pos} {cl : List (Str × Addr)} {St : Nat → ItS} {xs : List V} {f : V → Option V} (hifs : ifs = [] ∨ ∃ c, ifs = [c])
    {x0 : Str} (hone : scope.names.filter (·.2 == .cell) = [(x0, .cell)]) (hkind : scope.kind = .function) (hdbg : (relabel scope F.env).names.lookup ("__debug__" : Str) = none) (K : CompOkC F n target elt ifs scope x0 cl St xs f H)
    {B0 B : Keep} {s : Shared} {a : Addr} {l : Loc} (R : FRel F B l H s) (le : Le B0 B) (st : St 0 B0 B a) {RR : Value → Addr → Result → Shared → Prop}
    (hRR : ∀ D C oC s' B', Le B0 B' → FRel (F.svd ((C, oC) :: F.c.saved)) B' l H s' → (∃ m', s'.heap.Ns C m') → (∀ p ∈ F.c.saved, p.1 ≠ C) → RelV B' (.ref D) (.list (xs.filterMap f)) → RR (.ref D) C (.ok .next) s') :
    wpAny F.M F.A (newList []) (fun acc s3 => wpAny F.M F.A (newFunctionEnv scope F.env.globals cl [] F.env.qual none .none (some F.env)) (fun cenv s4 =>
      codeAny F.M F.A (.compStart (.ListComp elt [⟨target, iter, ifs, 0⟩] scope pos) 0 (.ref a) acc { cenv with scope := relabel scope F.env }) (RR acc cenv.locals) s4) F.E s3) F.E s := by
  obtain ⟨Kmono, Klen, Kt⟩ := K
  refine comp_new (B0 := B0) R fun D s1 i0 k0 R2 r0 hlimD hsD hDL hHD => ?_
  obtain ⟨mL1, ⟨oL1, esL1, epL1, hL1, hdL1, hkL1⟩, hlL1⟩ := R2.ns
  refine newEnv_comp hone ?_
  have hk : ∀ b o, s1.heap.get? b = some o → ((s1.heap.push { cls := .type "dict", data := .dict #[] }).push { cls := .type "cell", data := .cell none }).get? b = some o := fun b o e => Heap.get?_push_of_some _ (Heap.get?_push_of_some _ e)
  have hns : ((s1.heap.push { cls := .type "dict", data := .dict #[] }).push { cls := .type "cell", data := .cell none }).Ns s1.heap.objs.size (fun _ => none) := (Heap.Ns.new s1.heap (.type "dict")).keeps fun b o e => Heap.get?_push_of_some _ e
  have hcel : ((s1.heap.push { cls := .type "dict", data := .dict #[] }).push { cls := .type "cell", data := .cell none }).IsCell (s1.heap.objs.size + 1) none := by
    have := Heap.get?_push_size (s1.heap.push { cls := .type "dict", data := .dict #[] }) (o := { cls := .type "cell", data := .cell none }) rfl
    rw [Heap.size_push] at this
    exact ⟨_, this, rfl⟩
  generalize ((s1.heap.push { cls := .type "dict", data := .dict #[] }).push { cls := .type "cell", data := .cell none }) = h' at hk hns hcel
  have hf1 := R2.fresh (a := s1.heap.objs.size + 1) (Nat.le_succ _)
  have hn1 := R2.nobody hf1.1
  have hFr : H.Fresh (s1.heap.objs.size + 1) := R2.fresh_H hf1.1
  generalize hC : s1.heap.objs.size = C at hns hcel hf1 hn1 hFr
  have R3 : CR F scope C D oL1 (H.cel (C + 1)) i0 k0 none (nones scope) B { s1 with heap := h' } := by
    have Ra := (R2.into (s' := { s1 with heap := h' }) hL1 hk (Nat.le_of_eq hC) hns (nm' := (relabel scope F.env).names) (loc' := nones scope) (by
      intro x i X _ hl
      have := nones_sub (l := []) i X hl
      simp at this) rfl rfl).svmem (l2 := (D, lstObj i0 k0) :: (F.L, oL1) :: F.c.saved) (fun p hp => by
      simp only [List.mem_cons] at hp ⊢
      rcases hp with h | h | h
      · exact .inr (.inl h)
      · exact .inl h
      · exact .inr (.inr h))
    have Rb := Ra.adopts (bV := []) (cm := fun _ => none) (cs := [(x0, C + 1)]) (fun n a hm => by
      simp only [List.mem_singleton] at hm
      injection hm with e1 e2
      subst e1; subst e2
      refine ⟨hn1.1, hFr, Nat.succ_ne_self _, ?_, hf1.2, hcel, trivial⟩
      intro p hp e
      simp only [List.mem_cons] at hp
      rcases hp with h | h | h
      · exact hn1.2.2.2 p (by rw [h]; exact .head _) e
      · rw [h] at e; exact hn1.2.2.1 e.symm
      · exact hn1.2.2.2 p (.tail _ h) e) (List.pairwise_singleton _ _)
    exact Rb
  clear hk hns hcel hf1 hn1
  have hsD2 : ∀ p ∈ (F.L, oL1) :: F.c.saved, p.1 ≠ D := fun p hp => by
    cases hp with
    | head _ => exact hDL
    | tail _ hp => exact hsD p hp
  have loop := comp_turns (HH := H.cel (C + 1)) (elt := elt) (target := target) (iter := iter) (pos := pos) (RR := RR (.ref D) C) hifs Kmono Klen (fun _ => hHD) hsD2 hlimD (fun o E => (Kt C _ _ hFr (comp_ok ok hdL1 hkind hdbg o E)).2) le st
    (fun s' B' l' items kk ov le' R' r' tr => comp_fin (HH := H.cel (C + 1)) (l := l) (H := H) (fun _ => hHD) (fun _ => subC hFr.c) hsD2 hlimD R' r' (fun p hp => (R.sv p hp).2.2.2) (fun B2 le2 => ⟨mL1, ⟨esL1, epL1, hdL1, hkL1⟩, (hlL1.tr tr).mono le2⟩) fun B2 oC le2 R6 hC6 hne r5 => hRR D C oC s' B2 (le'.trans le2) R6 hC6 hne r5) R3 r0
  refine codeAny_compStart_list loop ?_
  exact (Kt C _ _ hFr (comp_ok ok hdL1 hkind hdbg (lstObj i0 k0) F.E)).1 _ B0 B _ a (nones scope) (H.cel (C + 1) none) _ R3 st loop

theorem WE_ListCompC (ok : Ok F n) {elt target iter : Expr} {ifs : List Expr} {scope : Scope} {pos : Pos} {Q : V → Loc → Hp → Prop} (x0 : Str) (cl : List (Str × Addr)) (hifs : ifs = [] ∨ ∃ c, ifs = [c])
    (hclos : closureFor scope F.env = pure cl) (hone : scope.names.filter (·.2 == .cell) = [(x0, .cell)]) (hkind : scope.kind = .function) (hdbg : (relabel scope F.env).names.lookup ("__debug__" : Str) = none) (hnames : ∀ y ∈ scope.names, y.2 = .local → scope.names.lookup y.1 = some .local)
    (h : WIt F iter loc H fun St l H1 => ∃ xs f, CompOkC F n target elt ifs scope x0 cl St xs f H1 ∧ Q (.list (xs.filterMap f)) l H1)
    (hs : ∀ x, foldedSetIterable iter F.env x = pure x := by intro _; rfl) : WE F (.ListComp elt [⟨target, iter, ifs, 0⟩] scope pos) loc H Q := fun B s R => by
  show wpAny F.M F.A (eval (.ListComp elt [⟨target, iter, ifs, 0⟩] scope pos) F.env) _ _ _
  rw [eval_ListComp]
  refine wpAny_comprehension_free (use := none) rfl hs hclos hkind hnames (wpAny_mono (h B s R) (fun xv s₁ h₁ => wpAny_mono h₁ (fun it s₂ h₂ => ?_) fun _ _ e => e) fun _ _ e => e)
  obtain ⟨B', a, l, H', St, rfl, le, R', st, xs, f, K, q⟩ := h₂
  refine comp_coreC ok hifs hone hkind hdbg K R' le st (RR := fun acc C => compPost F.M F.A F.E none (Post F RelV B Q) acc C) fun D C oC s' B2 le2 R2 ⟨m, hn⟩ hC r => ?_
  exact ⟨m, hn, fun h' hs' => ⟨B2, _, l, H', le2, r, (R2.unsave (s' := { s' with heap := h' }) hC (fun b o hb e => hs'.extBut b o hb e) rfl rfl : Rel (F.c.sv F.c.saved) F.L F.nm B2 l H' _), q⟩⟩
end
end Lay
end
noncomputable section
open PySem PySem.W PyProof.Rows PySem.Calls
set_option Elab.async false
set_option maxRecDepth 100000
set_option linter.all false
namespace Lay
noncomputable def closW (cl0 : List (Str × Addr)) : List (Str × NameKind) → List (Str × Addr) → Option (List (Str × Addr))
  | [], acc => some acc
  | (x, k) :: r, acc => if k == .free then match cl0.lookup x with | some a => closW cl0 r ((x, a) :: acc) | none => none else closW cl0 r acc
theorem closK {F : Fx} {nm : List (Str × NameKind)} {cl0 cl : List (Str × Addr)} {scope : Scope} (hF : FrameIs F nm cl0) (h : closW cl0 scope.names [] = some cl) : closureFor scope F.env = pure cl := by
  have key : ∀ (names : List (Str × NameKind)) (acc cl : List (Str × Addr)), closW cl0 names acc = some cl →
      (forIn names acc fun (x : Str × NameKind) (cs : List (Str × Addr)) => (do if x.2 == .free then let a ← cellOf F.env x.1; pure (ForInStep.yield ((x.1, a) :: cs)) else pure (ForInStep.yield cs) : Sem (ForInStep (List (Str × Addr))))) = (pure cl : Sem (List (Str × Addr))) := by
    intro names
    induction names with
    | nil => intro acc cl h; cases h; rfl
    | cons p r ih =>
      obtain ⟨x, k⟩ := p
      intro acc cl h
      unfold closW at h
      rw [List.forIn_cons]
      dsimp only
      split at h
      · rename_i hk
        rw [if_pos hk]
        split at h
        · rename_i a ha
          have e : cellOf F.env x = pure a := by unfold cellOf; rw [hF.2, ha]
          rw [e, pure_bind, pure_bind]
          exact ih _ _ h
        · cases h
      · rename_i hk
        rw [if_neg hk, pure_bind]
        exact ih _ _ h
  unfold closureFor
  have := key scope.names [] cl h
  refine Eq.trans ?_ ((congrArg (· >>= fun cs => pure cs) this).trans (pure_bind _ _))
  refine congrArg (· >>= fun cs => pure cs) ?_
  refine congrArg (forIn scope.names []) ?_
  funext x cs
  obtain ⟨x, k⟩ := x
  rfl
section
variable {F : Fx} {n : Nat} {loc : Loc} {H : Hp}
theorem frzNew {a : Addr} {xs : List V} {Q : V → Loc → Hp → Prop} (hf : H.Fresh a) (q : Q (.list xs) loc H) : ∃ X' H', Frz (.ref a) { H with L := up H.L a xs } X' H' ∧ Q X' loc H' :=
  ⟨_, _, Frz.list (up_self _ _ _), by rw [un_up hf.l]; exact q⟩
theorem WE_ListF {es : List Expr} {pos : Pos} {Q : V → Loc → Hp → Prop} (h : WEs F pos es loc H fun Xs l1 H1 => Xs.length ≤ 1000000 ∧ Q (.list Xs) l1 H1) : WE F (.List es pos) loc H Q :=
  WE_frz (WE_List fun B s R => (h B s R).mono fun Xs l1 H1 q => ⟨q.1, fun a ha => frzNew ha q.2⟩)
theorem compTurnC_cell (ok : Ok F n) {nm : List (Str × NameKind)} {cl : List (Str × Addr)} (hF : FrameIs F nm cl) {x0 : Str} {p : Pos} {i : Nat} {ca : Addr} {elt c : Expr} {l : Loc} {ov : Option V} {x : V} {out : Option V} (hx : look nm x0 = some (i, .cell)) (hc : cl.lookup x0 = some ca)
    (h : WB F c l (H.cel ca (some x)) fun b l2 H2 => H2 = H.cel ca (some x) ∧ (b = true → WE F elt l2 H2 fun Y _ H3 => H3 = H.cel ca (some x) ∧ out = some Y) ∧ (b = false → out = none)) : CompTurnC F (.Name x0 p) elt [c] l H ca ov x out := by
  have e : ({ H.cel ca ov with C := up (H.cel ca ov).C ca (some x) } : Hp) = H.cel ca (some x) := by unfold Hp.cel; rw [up_up]
  refine tCell ok hF hx hc (up_self _ _ _) ⟨some x, e, ?_⟩
  rw [e]
  exact h
noncomputable def unS : V → Str
  | .str s => s
  | _ => ⟨#[]⟩
theorem unS_map (l : List Str) : (l.map V.str).map unS = l := by
  rw [List.map_map]
  exact (List.map_congr_left fun _ _ => rfl).trans (List.map_id _)
theorem kindK {nm : List (Str × NameKind)} {cl : List (Str × Addr)} (hF : FrameIs F nm cl) {x : Str} {i : Nat} {k : NameKind} (hx : look nm x = some (i, k)) : F.env.kindOf x = some k := by
  show F.env.scope.names.lookup x = some k
  rw [hF.1]; exact (look_spec hx).2
theorem swC {nm : List (Str × NameKind)} {cl : List (Str × Addr)} (hF : FrameIs F nm cl) {x : Str} {i : Nat} (hx : look nm x = some (i, .cell)) {elt : Expr} {gs : List Comprehension} {scope : Scope} {pos p : Pos} {line : Nat} :
    swapsWith (.ListComp elt gs scope pos) (some (.Name x p)) line F.env = pure false := by
  have e := kindK hF hx
  show (pure (_ && F.env.kindOf x == some .local && _ && _) : Sem Bool) = pure false
  rw [e, show (some NameKind.cell == some NameKind.local) = false from rfl, Bool.and_false, Bool.false_and, Bool.false_and]
end
end Lay
end
noncomputable section
open PySem PySem.W PyProof.Rows PySem.Calls
set_option Elab.async false
set_option maxRecDepth 100000
set_option linter.all false
namespace Lay
noncomputable def leS (x y : Str) : Prop := ¬ (y.cps.toList < x.cps.toList)
theorem leS_of {x y : Str} (h : (!Spec.ltCps y.cps.toList x.cps.toList) = true) : leS x y := by
  unfold leS
  rw [ltCps_eq] at h
  simpa using h
theorem leS_trans {x y z : Str} (h : leS x y) (k : leS y z) : leS x z := by
  unfold leS at *
  exact fun c => (List.le_trans (α := Nat) (l₁ := x.cps.toList) (l₂ := y.cps.toList) (l₃ := z.cps.toList) h k) c
theorem leS_antisymm {x y : Str} (h : leS x y) (k : leS y x) : x = y := by
  have e : x.cps.toList = y.cps.toList := List.le_antisymm (α := Nat) h k
  have e2 : x.cps = y.cps := Array.toList_inj.mp e
  cases x; cases y; simpa using e2
theorem rising_pair : ∀ {l : List Str} {p : Str}, risingS p l = true → (p :: l).Pairwise leS
  | [], p, _ => List.pairwise_singleton _ _
  | x :: r, p, h => by
    unfold risingS at h
    rw [Bool.and_eq_true] at h
    have h1 := leS_of h.1
    have h2 := rising_pair h.2
    refine List.pairwise_cons.mpr ⟨fun y hy => ?_, h2⟩
    rcases List.mem_cons.mp hy with rfl | hy
    · exact h1
    · exact leS_trans h1 ((List.pairwise_cons.mp h2).1 y hy)
theorem sorted_pair : ∀ {l : List Str}, sortedS l = true → l.Pairwise leS
  | [], _ => .nil
  | x :: r, h => rising_pair h
theorem sorted_unique {l m : List Str} (hp : l.Perm m) (hl : sortedS l = true) (hm : sortedS m = true) : l = m :=
  hp.eq_of_pairwise (le := leS) (fun a b _ _ h k => leS_antisymm h k) (sorted_pair hl) (sorted_pair hm)
theorem perm_of_mem : ∀ {l m : List Str}, l.Nodup → m.Nodup → (∀ x, x ∈ l ↔ x ∈ m) → l.Perm m := fun hl hm h => (List.perm_ext_iff_of_nodup hl hm).mpr h
section
variable {F : Fx} {n : Nat} {loc : Loc} {H : Hp}
theorem WE_mid {e : Expr} {Q : V → Loc → Hp → Prop} (M : V → Loc → Hp → Prop) (h : WE F e loc H M) (k : ∀ X l H, M X l H → Q X l H) : WE F e loc H Q := h.mono k
theorem WE_Dict2 {k1 k2 v1 v2 : Expr} {pos : Pos} {Q : V → Loc → Hp → Prop}
    (h : ∀ a, H.Fresh a → WPs F [(k1, v1), (k2, v2)] pos loc { H with D := up H.D a [] } fun kvs l1 H1 => H1.D a = some [] ∧ H1.G a = none ∧ Q (.ref a) l1 { H1 with D := up H1.D a (kvs.foldl (fun d p => dput d p.1 p.2) []) }) : WE F (.Dict [some k1, some k2] [v1, v2] pos) loc H Q :=
  WE_DictD [(k1, v1), (k2, v2)] rfl (by simp) (by simp) h
theorem isD_slist (ss : List Str) : (V.list (ss.map .str)).isD 20 = true := by
  show ((ss.map V.str).all (V.isD 19)) = true
  rw [List.all_map, List.all_eq_true]
  intro x _; rfl
theorem WE_ListCallF {x : Str} {np pos : Pos} {e : Expr} {Q : V → Loc → Hp → Prop} (ok : Ok F n)
    (h : WE F (.Name x np) loc H fun f l1 H1 => f = .raw (.type "list") ∧ WE F e l1 H1 fun X l2 H2 => ∃ xs, (asL H2 X = some xs ∨ X = .tup xs) ∧ xs.length ≤ 1000000 ∧ Q (.list xs) l2 H2)
    (hns : (backTo pos (starEach [e] F.env)).any (·.1) = false := by rfl) (he : starEach (e :: []) F.env = (false, eval e F.env) :: starEach [] F.env := by rfl) : WE F (.Call (.Name x np) [e] [] pos) loc H Q :=
  WE_frz (WE_CallN (h.mono fun f l1 H1 ⟨hf, hx⟩ => hf ▸ WEs_cons (hx.mono fun X l2 H2 ⟨xs, ex, hz, q⟩ => WEs_nil ⟨KeepOk_raw (fun a h => by cases h), Call_list ex hz fun a ha => frzNew ha q⟩) he) hns)
theorem WE_ListCallDF {x : Str} {np pos : Pos} {e : Expr} {Q : V → Loc → Hp → Prop} (ok : Ok F (n + 1))
    (h : WE F (.Name x np) loc H fun f l1 H1 => f = .raw (.type "list") ∧ WE F e l1 H1 fun X l2 H2 => ∃ d kvs, X = .ref d ∧ H2.D d = some kvs ∧ kvs.length ≤ 100000 ∧ Q (.list (kvs.map fun p => .str p.1)) l2 H2)
    (hns : (backTo pos (starEach [e] F.env)).any (·.1) = false := by rfl) (he : starEach (e :: []) F.env = (false, eval e F.env) :: starEach [] F.env := by rfl) : WE F (.Call (.Name x np) [e] [] pos) loc H Q :=
  WE_frz (WE_CallN (h.mono fun f l1 H1 ⟨hf, hx⟩ => hf ▸ WEs_cons (hx.mono fun X l2 H2 ⟨d, kvs, ex, ed, hz, q⟩ => ex ▸ WEs_nil ⟨KeepOk_raw (fun a h => by cases h), Call_list_dict (ok.handled (by omega)) ed hz fun a ha => frzNew ha q⟩) he) hns)
theorem Cmp_neSorted (ok : Ok F n) {ss tt : List Str} {Q : Bool → Loc → Hp → Prop} (hs : sortedS ss = true) (ht : sortedS tt = true) (hp : ss.Perm tt) (q : Q false loc H) : Cmp F .NotEq (.list (ss.map .str)) (.list (tt.map .str)) loc H Q := by
  refine Cmp_ne ok (isD_slist _) (isD_slist _) ?_
  rw [sorted_unique hp hs ht]
  show Q (!eqV (.list (tt.map .str)) (.list (tt.map .str))) loc H
  rw [eqV_iff.mpr rfl]; exact q
structure CellAt (H : Hp) (c : Addr) (ov : Option V) : Prop where
  C : H.C c = some ov
  L : H.L c = none
  D : H.D c = none
  P : H.P c = none
  S : H.S c = none
theorem CellAt.ext {H H' : Hp} {c : Addr} {ov : Option V} {ft : Addr → Prop} (h : CellAt H c ov) (e : Ext ft H H') (hn : ¬ ft c) : CellAt H' c ov := by
  obtain ⟨e1, e2, e3, e4, e5, e6, e7⟩ := (e c (by unfold Hp.Own; rw [h.C]; simp)).2 hn
  exact ⟨e6.trans h.C, e1.trans h.L, e2.trans h.D, e3.trans h.P, e4.trans h.S⟩
theorem foot_of {cg cr : Addr} {H : Hp} {g : GA} {t : GT} (gr : GrOk cg cr H g t) {a : Addr} (hL : H.L a = none) (hD : H.D a = none) (hP : H.P a = none) (hS : H.S a = none) : ¬ foot g t a := by
  rintro (h | h | rfl | rfl)
  · exact gr.ownD h hD
  · exact gr.ownL h hL
  · have := gr.pm; rw [hP] at this; cases this
  · have := gr.ups; rw [hS] at this; cases this
theorem CellAt.foot {cg cr : Addr} {H : Hp} {g : GA} {t : GT} {c : Addr} {ov : Option V} (h : CellAt H c ov) (gr : GrOk cg cr H g t) : ¬ Lay.foot g t c := foot_of gr h.L h.D h.P h.S
theorem Hp.Fresh.foot {cg cr : Addr} {H : Hp} {g : GA} {t : GT} {a : Addr} (h : H.Fresh a) (gr : GrOk cg cr H g t) : ¬ Lay.foot g t a := foot_of gr h.l h.d h.p h.s
structure DictAt (H : Hp) (d : Addr) (kvs : List (Str × V)) : Prop where
  D : H.D d = some kvs
  L : H.L d = none
  P : H.P d = none
  S : H.S d = none
theorem DictAt.ext {H H' : Hp} {d : Addr} {kvs : List (Str × V)} {ft : Addr → Prop} (h : DictAt H d kvs) (e : Ext ft H H') (hn : ¬ ft d) : DictAt H' d kvs := by
  obtain ⟨e1, e2, e3, e4, e5, e6, e7⟩ := (e d (by unfold Hp.Own; rw [h.D]; simp)).2 hn
  exact ⟨e2.trans h.D, e1.trans h.L, e3.trans h.P, e4.trans h.S⟩
theorem GrOk.putD {cg cr : Addr} {H : Hp} {g : GA} {t : GT} (gr : GrOk cg cr H g t) {d : Addr} (kvs : List (Str × V)) (hd : d ∉ g.dicts) : GrOk cg cr { H with D := up H.D d kvs } g t :=
  gr.keep (fun _ _ => rfl) (fun a ha => up_ne fun e => hd (e ▸ ha)) rfl rfl rfl rfl gr.gn
theorem dget_mem {α : Type} : ∀ {kvs : List (Str × α)} {k : Str} {v : α}, (kvs.map (·.1)).Nodup → (k, v) ∈ kvs → dget kvs k = some v
  | (k', v') :: r, k, v, hn, h => by
    unfold dget
    rw [List.find?_cons]
    rw [List.map_cons, List.nodup_cons] at hn
    rcases List.mem_cons.mp h with h | h
    · cases h; simp
    · have hne : ¬ k' = k := fun e => hn.1 (List.mem_map.mpr ⟨_, h, e.symm⟩)
      simp only [hne, decide_false]
      exact dget_mem hn.2 h
end
end Lay
end
noncomputable section
open PySem PySem.W PyProof.Rows PySem.Calls
set_option Elab.async false
set_option maxRecDepth 100000
set_option linter.all false
namespace Lay
noncomputable abbrev noHp : Hp := ⟨fun _ => none, fun _ => none, fun _ => none, fun _ => none, fun _ => none, fun _ => none, fun _ => none⟩
noncomputable abbrev baseOf (prog : Program) (w : World) (s₁ : Shared) (lim : Addr) : Base := ⟨prog, w, s₁.heap, s₁.os, lim, [], fun a => s₁.heap.get? a⟩
theorem enter_rel {prog : Program} {w : World} {s₁ : Shared} {lim L : Addr} {h₁ : Heap} {tk : Nat} {m : Str → Option Value} {nm : List (Str × NameKind)} {loc : Loc} (hg : s₁.gens = #[]) (hl : 1 ≤ lim ∧ ∃ o, s₁.heap.get? lim = some o) (F : Fr s₁.heap L h₁ m) (hloc : LocOk (fun a => s₁.heap.get? a) nm loc m) :
    Rel (baseOf prog w s₁ lim) L nm (fun a => s₁.heap.get? a) loc noHp ⟨h₁, s₁.gens, s₁.drawn, tk, s₁.os⟩ where
  keep := F.keep
  based := ⟨fun _ _ e => e, Le.refl _⟩
  own := fun a => by
    refine ⟨fun h => absurd h (by simp [Hp.Own]), ?_, ?_, ?_, ?_, ?_, ?_, fun _ => rfl, ?_⟩ <;> (intro _ h; cases h)
  lB := by
    show s₁.heap.get? L = none
    cases e : s₁.heap.get? L with
    | none => rfl
    | some o => exact absurd (Heap.lt_size e) (Nat.not_lt.mpr F.above)
  lH := by simp [Hp.Own]
  ns := ⟨m, F.ns, hloc⟩
  gens := hg
  os := rfl
  lim := hl
  sv := fun p hp => nomatch hp
theorem enter_rel1 {prog : Program} {w : World} {s₁ : Shared} {lim L c : Addr} {h₁ : Heap} {tk : Nat} {m : Str → Option Value} {nm : List (Str × NameKind)} {loc : Loc} {oc : Obj} {v : Option Value} {ov : Option V} (hg : s₁.gens = #[]) (hl : 1 ≤ lim ∧ ∃ o, s₁.heap.get? lim = some o) (F : Fr s₁.heap L h₁ m) (hloc : LocOk (fun a => s₁.heap.get? a) nm loc m)
    (N : News s₁.heap L h₁ [(c, oc)]) (hc : oc.data = .cell v) (hcs : s₁.heap.objs.size ≤ c) (r : relOpt (fun a => s₁.heap.get? a) v ov) :
    Rel (baseOf prog w s₁ lim) L nm (fun a => s₁.heap.get? a) loc { noHp with C := up noHp.C c ov } ⟨h₁, s₁.gens, s₁.drawn, tk, s₁.os⟩ := by
  obtain ⟨n1, n2, n3⟩ := N (c, oc) (.head _)
  refine (enter_rel (tk := tk) hg hl F hloc).adoptC n3 (by simp [Hp.Own]) n2 (fun p hp => nomatch hp) ?_ ⟨oc, n1, hc⟩ r
  obtain ⟨_, o, e⟩ := hl
  exact Nat.lt_of_lt_of_le (Heap.lt_size e) hcs
theorem ints_rel {P : Params} {h : Heap} {B : Keep} : ∀ {vs : List Value} {ns : List Int}, WellAll P h vs (ofPys (ns.map PyData.int)) → RelVs B vs (ns.map .int)
  | _, [], w => by cases w; exact .nil
  | _, n :: ns, w => by
    cases w with
    | cons a r =>
      cases a
      exact .cons (.int _ _) (ints_rel r)
theorem list_rel {P : Params} {h : Heap} {a : Addr} {ns : List Int} (w : Well P h (.ref a) (ofPy (.list (ns.map .int)))) : RelV (fun a => h.get? a) (.ref a) (.list (ns.map .int)) := by
  unfold ofPy at w
  cases w with
  | list h1 h2 => exact .list (n := 0) h1 (by simpa using ints_rel h2)
end Lay
end
noncomputable section
open PySem PySem.W PyProof.Rows PySem.Calls
set_option Elab.async false
set_option maxRecDepth 100000
set_option linter.all false
namespace Lay
structure Bk (M : Loc → Hp → Prop) (Q Q' : Fl → Loc → Hp → Prop) : Prop where
  n : ∀ {l H}, M l H → Q' .next l H
  c : ∀ {l H}, Q .cont l H → Q' .cont l H
  b : ∀ {l H}, Q .brk l H → Q' .brk l H
  r : ∀ {x l H}, Q (.ret x) l H → Q' (.ret x) l H
structure Bt (M : Loc → Hp → Prop) (Q Q' : Fl → Loc → Hp → Prop) : Prop where
  n : ∀ {l H}, M l H → Q' .next l H
  c : ∀ {l H}, M l H → Q' .cont l H
  b : ∀ {l H}, Q .next l H → Q' .brk l H
  r : ∀ {x l H}, Q (.ret x) l H → Q' (.ret x) l H
section
variable {F : Fx} {loc : Loc} {H : Hp}
theorem WSs_midV {st : Stmt} {rest : List Stmt} {Q : Fl → Loc → Hp → Prop} (M : Loc → Hp → Prop) (h : ∀ Q', Bk M Q Q' → WS F st loc H Q') (k : ∀ l H, M l H → WSs F rest l H Q) : WSs F (st :: rest) loc H Q :=
  WSs_mid M (h (fun f l1 H1 => match f with | .next => M l1 H1 | f => Q f l1 H1) ⟨fun x => x, fun x => x, fun x => x, fun x => x⟩) k
theorem ForOnV {target : Expr} {body orelse : List Stmt} {Q : Fl → Loc → Hp → Prop} {St : Nat → ItS} (hm : ∀ i, ItMono (St i)) (N : Nat) (Inv : Nat → Loc → Hp → Prop) (h0 : Inv 0 loc H)
    (hs : ∀ i Q', Bt (Inv (i + 1)) Q Q' → ∀ l H, i < N → Inv i l H → ∃ X, Nxt F target (St i) H (some (X, St (i + 1))) ∧ WA F.inl target X l H fun l1 H1 => WSs F.inl body l1 H1 Q')
    (he : ∀ l H, Inv N l H → Nxt F target (St N) H none ∧ WSs F.inl orelse l H Q) : ForOn F target body orelse Q St loc H :=
  ⟨hm, N, Inv, h0, fun i l H hi x => hs i (LoopQ (Inv (i + 1)) Q) ⟨fun x => x, fun x => x, fun x => x, fun x => x⟩ l H hi x, he⟩
theorem WS_WhileV {test : Expr} {body orelse : List Stmt} {pos : Pos} {Q : Fl → Loc → Hp → Prop} (Inv : Nat → Loc → Hp → Prop) (k : Nat) (h0 : Inv k loc H)
    (h : ∀ k Q', Bt (fun l H => ∃ k', k' < k ∧ Inv k' l H) Q Q' → ∀ l H, Inv k l H → WB F.inl test l H fun b l1 H1 => (b = true → WSs F.inl body l1 H1 Q') ∧ (b = false → WSs F.inl orelse l1 H1 Q)) :
    WS F (.While test body orelse pos) loc H Q :=
  WS_While Inv k h0 fun k l H x => h k (LoopQ (fun l H => ∃ k', k' < k ∧ Inv k' l H) Q) ⟨fun x => x, fun x => x, fun x => x, fun x => x⟩ l H x
end
end Lay
end
noncomputable section
open PySem PySem.W PyProof.Rows PySem.Calls
set_option Elab.async false
set_option linter.all false
namespace Lay
section
variable {B : Keep} {vs : List Value} {M : List Value → Prop}
theorem RelVs.e0 (r : RelVs B vs []) (h : M []) : M vs := by cases r; exact h
theorem RelVs.ec {X : V} {Xs : List V} (r : RelVs B vs (X :: Xs)) (h : ∀ v ws, RelV B v X → RelVs B ws Xs → M (v :: ws)) : M vs := by
  cases r with | cons a r => exact h _ _ a r
theorem RelVs.e1 {X : V} (r : RelVs B vs [X]) (h : ∀ v, RelV B v X → M [v]) : M vs := r.ec fun _ _ a r => r.e0 (M := fun l => M (_ :: l)) (h _ a)
theorem RelVs.e2 {X Y : V} (r : RelVs B vs [X, Y]) (h : ∀ v w, RelV B v X → RelV B w Y → M [v, w]) : M vs := r.ec fun _ _ a r => r.e1 (M := fun l => M (_ :: l)) fun _ b => h _ _ a b
theorem RelVs.e3 {X Y Z : V} (r : RelVs B vs [X, Y, Z]) (h : ∀ v w u, RelV B v X → RelV B w Y → RelV B u Z → M [v, w, u]) : M vs := r.ec fun _ _ a r => r.e2 (M := fun l => M (_ :: l)) fun _ _ b c => h _ _ _ a b c
theorem RelVs.e9 {X1 X2 X3 X4 X5 X6 X7 X8 X9 : V} (r : RelVs B vs [X1, X2, X3, X4, X5, X6, X7, X8, X9]) (h : ∀ a b c d e f g i j, RelVs B [a, b, c, d, e, f, g, i, j] [X1, X2, X3, X4, X5, X6, X7, X8, X9] → M [a, b, c, d, e, f, g, i, j]) : M vs :=
  r.ec (M := fun l => M (l)) fun a _ ra r => r.ec (M := fun l => M (a :: l)) fun b _ rb r => r.ec (M := fun l => M (a :: b :: l)) fun c _ rc r => r.ec (M := fun l => M (a :: b :: c :: l)) fun d _ rd r => r.ec (M := fun l => M (a :: b :: c :: d :: l)) fun e _ re r => r.ec (M := fun l => M (a :: b :: c :: d :: e :: l)) fun f _ rf r => r.ec (M := fun l => M (a :: b :: c :: d :: e :: f :: l)) fun g _ rg r => r.ec (M := fun l => M (a :: b :: c :: d :: e :: f :: g :: l)) fun i _ ri r => r.ec (M := fun l => M (a :: b :: c :: d :: e :: f :: g :: i :: l)) fun j _ rj r => r.e0 (M := fun l => M (a :: b :: c :: d :: e :: f :: g :: i :: j :: l)) (h _ _ _ _ _ _ _ _ _ (.cons ra (.cons rb (.cons rc (.cons rd (.cons re (.cons rf (.cons rg (.cons ri (.cons rj .nil))))))))))
end
theorem kys_len {t : Tab} : (kys t).length = t.length := by simp [kys]
theorem tof_len {t : Tab} {m n : Nat} (h : (kys t).length ≤ m) (hm : m ≤ n := by decide) : (tof t).length ≤ n := by rw [tof, List.length_map, ← kys_len]; exact Nat.le_trans h hm
theorem tof_len' {t : Tab} {m n : Nat} (h : t.length ≤ m) (hm : m ≤ n := by decide) : (tof t).length ≤ n := by rw [tof, List.length_map]; exact Nat.le_trans h hm
theorem lt_of_dec {α β : Type} {f : α → β} {p : Nat} {xs : List α} (h : decide ((p : Int) < ((xs.map f).length : Int)) = true) : p < xs.length := by
  have := of_decide_eq_true h
  rw [List.length_map] at this
  exact Int.ofNat_lt.mp this
theorem eq_of_dec {α β : Type} {f : α → β} {p : Nat} {xs : List α} (h : decide ((p : Int) < ((xs.map f).length : Int)) = false) (hp : p ≤ xs.length) : p = xs.length := by
  have := of_decide_eq_false h
  rw [List.length_map] at this
  exact Nat.le_antisymm hp (Nat.le_of_not_lt fun z => this (Int.ofNat_lt.mpr z))
theorem step_k {k p N : Nat} (h : k + p = N) (hp : p < N) : k - 1 < k ∧ (k - 1) + (p + 1) = N := by
  cases k with
  | zero => rw [Nat.zero_add] at h; exact absurd h (Nat.ne_of_lt hp)
  | succ k => exact ⟨Nat.lt_succ_self k, by rw [← h, Nat.add_right_comm]; rfl⟩
theorem nat_lt_big {p m : Nat} (h : p < m) (hm : m ≤ 1000000 := by decide) : (p : Int) < 1000000 := Int.ofNat_lt.mpr (Nat.lt_of_lt_of_le h hm)
theorem notin_take {α : Type} {l : List α} {i : Nat} (h : l.Nodup) (hi : i < l.length) : l[i] ∉ l.take i := by
  intro hm
  obtain ⟨j, hj, e⟩ := List.mem_take_iff_getElem.mp hm
  have e := (List.getElem_inj h).mp e
  exact Nat.ne_of_lt (Nat.lt_of_lt_of_le hj (Nat.min_le_left _ _)) e
theorem take_snoc {α : Type} {l : List α} {i : Nat} (hi : i < l.length) : l.take (i + 1) = l.take i ++ [l[i]] := by rw [List.take_add_one, List.getElem?_eq_getElem hi]; rfl
theorem len_map_le {α β : Type} {f : α → β} {xs : List α} {m n : Nat} (h : xs.length ≤ m) (hm : m ≤ n := by decide) : (xs.map f).length ≤ n := by rw [List.length_map]; exact Nat.le_trans h hm
theorem len_take_le {α : Type} {l : List α} {i m n : Nat} (h : l.length ≤ m) (hm : m ≤ n := by decide) : (l.take i).length ≤ n := by rw [List.length_take]; exact Nat.le_trans (Nat.min_le_right _ _) (Nat.le_trans h hm)
end Lay
end
noncomputable section
open PySem PySem.W PyProof.Rows PySem.Calls
set_option Elab.async false
set_option maxRecDepth 100000
set_option linter.all false
set_option maxHeartbeats 8000000
namespace Lay.W1
noncomputable abbrev rw0 := PySem.Challenge.rw_iw0034_01
noncomputable abbrev pw := PySem.Challenge.pw_iw0034_01
noncomputable def tops : List Stmt := pw.main.body
noncomputable def ta (i : Nat) : Option Stmt := tops[i]?
noncomputable def clB : Option Stmt → List Stmt
  | some (.ClassDef _ _ _ b _ _ _ _ _ _ _) => b
  | _ => []
noncomputable def tm (i j : Nat) : Option Stmt := (clB (ta i))[j]?
noncomputable def fnA : Option Stmt → Arguments
  | some (.FunctionDef _ a _ _ _ _ _ _ _ _) => a
  | _ => { posonlyargs := [], args := [], vararg := none, kwonlyargs := [], kw_defaults := [], kwarg := none, defaults := [] }
noncomputable def fnB : Option Stmt → List Stmt
  | some (.FunctionDef _ _ b _ _ _ _ _ _ _) => b
  | _ => []
noncomputable def en (P : Params) (k : Str) (t : Tok) (v : Value) : DictEntry := { hash := PyData.keyHash P k, key := .str k t, val := v }
noncomputable def tp (xs : Array Value) : Obj := { cls := .type "tuple", data := Data.seq xs }
noncomputable def K (P : Params) : Frag :=
[(2, { cls := .none, data := Data.dict #[en P "type.__subclasses__.Exception.0" 212 (.int 31 0), en P "type.__subclasses__.Exception.n" 213 (.int 1 0)] 2 }),
 (3, { cls := .type "dict", data := Data.dict #[en P "__name__" 165 (.str "law_iw0034_01" 535), en P "__doc__" 166 (.none), en P "__package__" 167 (.none), en P "__loader__" 168 (.builtin "__main__.__loader__#opaque"), en P "__spec__" 169 (.none), en P "__annotations__" 170 (.ref 6), en P "__builtins__" 171 (.ref 4), en P "__file__" 173 (.str "/claim/cut.py" 172), en P "__cached__" 174 (.none), en P "_wall" 193 (.ref 21), en P "YaccError" 215 (.ref 31), en P "Production" 294 (.ref 68), en P "rightmost_terminal" 303 (.ref 79), en P "GrammarError" 319 (.ref 89), en P "Grammar" 505 (.ref 217), en P "RuleNames" 534 (.ref 238), en P "_law_tokens" 540 (.ref 243), en P "_law_rules" 556 (.ref 250), en P "_law_gone" 562 (.ref 255), en P "_law_corner" 572 (.ref 262), en P "_law_begins" 578 (.ref 267), en P "_law_all" 584 (.ref 272), en P "law" 590 (.ref 277)] 23 }),
 (15, tp #[]),
 (17, tp #[.str "k" 190]),
 (18, tp #[]),
 (20, { cls := .type "code", data := Data.fields #[.str "_wall" 187, .str "_wall" 188, .str "/claim/cut.py" 189, .int 1 0, .int 1 0, .int 0 0, .int 0 0, .int 3 0, .ref 15, .bool true, .int 181 0, .ref 16, .none, .ref 17, .ref 18, .ref 19, .int 191 0, .int 1 0, .str "/claim/cut.py" 192] }),
 (21, { cls := .type "function", data := Data.func { name := "_wall", qualname := "_wall", params := fnA (ta 0), body := .stmts (fnB (ta 0)), scope := { kind := .function, names := [("k", .local)], isGenerator := false, isCoroutine := false }, globals := 3, closure := [], defaults := .none, kwdefaults := .none, pyModule := .str "__main__" 164, code := .ref 20 } }),
 (22, tp #[.type "Exception"]),
 (29, tp #[]),
 (30, { cls := .type "dict", data := Data.dict #[en P "__module__" 203 (.str "sly.yacc" 194), en P "__firstlineno__" 207 (.int 5 206), en P "__static_attributes__" 208 (.ref 29), en P "__weakref__" 210 (.ref 32), en P "__doc__" 211 (.none)] 3 }),
 (31, { cls := .type "type", data := Data.cls { name := "YaccError", bases := [.type "Exception"], mro := [.ref 31, .type "Exception", .type "BaseException", .type "object"], ns := 30, qualname := "YaccError", subclasses := [.ref 89] }, slots := #[some (.ref 22), none, some (.str "YaccError" 196), some (.str "YaccError" 204), some (.builtin "Exception.__new__"), some (.bool true)] }),
 (32, { cls := .type "getset_descriptor", data := Data.fields #[.str "__weakref__" 209, .ref 31, .builtin "ExceptionGroup.__weakref__", .none] }),
 (35, tp #[.type "object"]),
 (42, tp #[.str "right" 232, .int 0 233]),
 (43, tp #[]),
 (44, tp #[.ref 42, .none, .str "" 234, .int 0 235, .ref 43]),
 (45, tp #[]),
 (47, tp #[.str "self" 239, .str "number" 240, .str "name" 241, .str "prod" 242, .str "precedence" 243, .str "func" 244, .str "file" 245, .str "line" 246, .str "aliases" 247, .str "n" 248, .str "s" 249, .str "namecount" 250, .str "key" 251, .str "nameuse" 252, .str "namemap" 253, .str "index" 254, .str "k" 255, .str "alias" 256]),
 (48, tp #[]),
 (50, { cls := .type "code", data := Data.fields #[.str "__init__" 236, .str "Production.__init__" 237, .str "/claim/cut.py" 238, .int 11 0, .int 9 0, .int 0 0, .int 0 0, .int 3 0, .ref 45, .bool true, .int 181 0, .ref 46, .none, .ref 47, .ref 48, .ref 49, .int 257 0, .int 11 0, .str "/claim/cut.py" 258] }),
 (51, { cls := .type "function", data := Data.func { name := "__init__", qualname := "Production.__init__", params := fnA (tm 3 2), body := .stmts (fnB (tm 3 2)), scope := { kind := .function, names := [("self", .local), ("number", .local), ("name", .local), ("prod", .local), ("precedence", .local), ("func", .local), ("file", .local), ("line", .local), ("aliases", .local), ("n", .local), ("s", .local), ("namecount", .local), ("key", .local), ("nameuse", .local), ("namemap", .local), ("index", .local), ("k", .local), ("alias", .local), ("tuple", .globalImplicit), ("len", .globalImplicit), ("enumerate", .globalImplicit)], isGenerator := false, isCoroutine := false }, globals := 3, closure := [], defaults := .ref 44, kwdefaults := .none, pyModule := .str "sly.yacc" 194, code := .ref 50 } }),
 (52, tp #[]),
 (54, tp #[.str "self" 263]),
 (55, tp #[]),
 (57, { cls := .type "code", data := Data.fields #[.str "__len__" 260, .str "Production.__len__" 261, .str "/claim/cut.py" 262, .int 51 0, .int 1 0, .int 0 0, .int 0 0, .int 3 0, .ref 52, .bool true, .int 181 0, .ref 53, .none, .ref 54, .ref 55, .ref 56, .int 264 0, .int 51 0, .str "/claim/cut.py" 265] }),
 (58, { cls := .type "function", data := Data.func { name := "__len__", qualname := "Production.__len__", params := fnA (tm 3 3), body := .stmts (fnB (tm 3 3)), scope := { kind := .function, names := [("self", .local), ("len", .globalImplicit)], isGenerator := false, isCoroutine := false }, globals := 3, closure := [], defaults := .none, kwdefaults := .none, pyModule := .str "sly.yacc" 194, code := .ref 57 } }),
 (59, tp #[]),
 (61, tp #[.str "self" 270, .str "index" 271]),
 (62, tp #[]),
 (64, { cls := .type "code", data := Data.fields #[.str "__getitem__" 267, .str "Production.__getitem__" 268, .str "/claim/cut.py" 269, .int 54 0, .int 2 0, .int 0 0, .int 0 0, .int 3 0, .ref 59, .bool true, .int 181 0, .ref 60, .none, .ref 61, .ref 62, .ref 63, .int 272 0, .int 54 0, .str "/claim/cut.py" 273] }),
 (65, { cls := .type "function", data := Data.func { name := "__getitem__", qualname := "Production.__getitem__", params := fnA (tm 3 4), body := .stmts (fnB (tm 3 4)), scope := { kind := .function, names := [("self", .local), ("index", .local)], isGenerator := false, isCoroutine := false }, globals := 3, closure := [], defaults := .none, kwdefaults := .none, pyModule := .str "sly.yacc" 194, code := .ref 64 } }),
 (66, tp #[.str "file" 275, .str "func" 276, .str "len" 277, .str "line" 278, .str "lr_items" 279, .str "lr_next" 280, .str "name" 281, .str "namemap" 282, .str "number" 283, .str "prec" 284, .str "prod" 285, .str "usyms" 286]),
 (67, { cls := .type "dict", data := Data.dict #[en P "__module__" 223 (.str "sly.yacc" 194), en P "__firstlineno__" 227 (.int 7 226), en P "reduced" 229 (.int 0 228), en P "lr0_added" 231 (.int 0 230), en P "__init__" 259 (.ref 51), en P "__len__" 266 (.ref 58), en P "__getitem__" 274 (.ref 65), en P "__static_attributes__" 287 (.ref 66), en P "__dict__" 289 (.ref 69), en P "__weakref__" 291 (.ref 70), en P "__doc__" 292 (.none)] 4 }),
 (68, { cls := .type "type", data := Data.cls { name := "Production", bases := [.type "object"], mro := [.ref 68, .type "object"], ns := 67, qualname := "Production" }, slots := #[some (.ref 35), none, some (.str "Production" 216), some (.str "Production" 224), some (.builtin "object.__new__"), some (.bool true)] }),
 (69, { cls := .type "getset_descriptor", data := Data.fields #[.str "__dict__" 288, .ref 68, .builtin "function.__dict__", .builtin "function.__dict__#set"] }),
 (70, { cls := .type "getset_descriptor", data := Data.fields #[.str "__weakref__" 290, .ref 68, .builtin "ExceptionGroup.__weakref__", .none] }),
 (73, tp #[]),
 (75, tp #[.str "symbols" 298, .str "terminals" 299, .str "i" 300]),
 (76, tp #[]),
 (78, { cls := .type "code", data := Data.fields #[.str "rightmost_terminal" 295, .str "rightmost_terminal" 296, .str "/claim/cut.py" 297, .int 56 0, .int 2 0, .int 0 0, .int 0 0, .int 3 0, .ref 73, .bool true, .int 181 0, .ref 74, .none, .ref 75, .ref 76, .ref 77, .int 301 0, .int 56 0, .str "/claim/cut.py" 302] }),
 (79, { cls := .type "function", data := Data.func { name := "rightmost_terminal", qualname := "rightmost_terminal", params := fnA (ta 4), body := .stmts (fnB (ta 4)), scope := { kind := .function, names := [("symbols", .local), ("terminals", .local), ("i", .local), ("len", .globalImplicit)], isGenerator := false, isCoroutine := false }, globals := 3, closure := [], defaults := .none, kwdefaults := .none, pyModule := .str "sly.yacc" 194, code := .ref 78 } }),
 (80, tp #[.ref 31]),
 (87, tp #[]),
 (88, { cls := .type "dict", data := Data.dict #[en P "__module__" 311 (.str "sly.yacc" 194), en P "__firstlineno__" 315 (.int 63 314), en P "__static_attributes__" 316 (.ref 87), en P "__doc__" 317 (.none)] 2 }),
 (89, { cls := .type "type", data := Data.cls { name := "GrammarError", bases := [.ref 31], mro := [.ref 89, .ref 31, .type "Exception", .type "BaseException", .type "object"], ns := 88, qualname := "GrammarError" }, slots := #[some (.ref 80), none, some (.str "GrammarError" 304), some (.str "GrammarError" 312), some (.builtin "Exception.__new__"), some (.bool true)] }),
 (92, tp #[.type "object"]),
 (99, tp #[.none]),
 (100, tp #[]),
 (102, tp #[.str "self" 335, .str "terminals" 336, .str "names" 337, .str "term" 338]),
 (103, tp #[]),
 (105, { cls := .type "code", data := Data.fields #[.str "__init__" 332, .str "Grammar.__init__" 333, .str "/claim/cut.py" 334, .int 67 0, .int 3 0, .int 0 0, .int 0 0, .int 3 0, .ref 100, .bool true, .int 181 0, .ref 101, .none, .ref 102, .ref 103, .ref 104, .int 339 0, .int 67 0, .str "/claim/cut.py" 340] }),
 (106, { cls := .type "function", data := Data.func { name := "__init__", qualname := "Grammar.__init__", params := fnA (tm 6 0), body := .stmts (fnB (tm 6 0)), scope := { kind := .function, names := [("self", .local), ("terminals", .local), ("names", .local), ("term", .local), ("RuleNames", .globalImplicit), ("set", .globalImplicit)], isGenerator := false, isCoroutine := false }, globals := 3, closure := [], defaults := .ref 99, kwdefaults := .none, pyModule := .str "sly.yacc" 194, code := .ref 105 } }),
 (107, tp #[]),
 (109, tp #[.str "self" 345]),
 (110, tp #[]),
 (112, { cls := .type "code", data := Data.fields #[.str "__len__" 342, .str "Grammar.__len__" 343, .str "/claim/cut.py" 344, .int 83 0, .int 1 0, .int 0 0, .int 0 0, .int 3 0, .ref 107, .bool true, .int 181 0, .ref 108, .none, .ref 109, .ref 110, .ref 111, .int 346 0, .int 83 0, .str "/claim/cut.py" 347] }),
 (113, { cls := .type "function", data := Data.func { name := "__len__", qualname := "Grammar.__len__", params := fnA (tm 6 1), body := .stmts (fnB (tm 6 1)), scope := { kind := .function, names := [("self", .local), ("len", .globalImplicit)], isGenerator := false, isCoroutine := false }, globals := 3, closure := [], defaults := .none, kwdefaults := .none, pyModule := .str "sly.yacc" 194, code := .ref 112 } }),
 (114, tp #[]),
 (116, tp #[.str "self" 352, .str "index" 353]),
 (117, tp #[]),
 (119, { cls := .type "code", data := Data.fields #[.str "__getitem__" 349, .str "Grammar.__getitem__" 350, .str "/claim/cut.py" 351, .int 86 0, .int 2 0, .int 0 0, .int 0 0, .int 3 0, .ref 114, .bool true, .int 181 0, .ref 115, .none, .ref 116, .ref 117, .ref 118, .int 354 0, .int 86 0, .str "/claim/cut.py" 355] }),
 (120, { cls := .type "function", data := Data.func { name := "__getitem__", qualname := "Grammar.__getitem__", params := fnA (tm 6 2), body := .stmts (fnB (tm 6 2)), scope := { kind := .function, names := [("self", .local), ("index", .local)], isGenerator := false, isCoroutine := false }, globals := 3, closure := [], defaults := .none, kwdefaults := .none, pyModule := .str "sly.yacc" 194, code := .ref 119 } }),
 (121, tp #[]),
 (123, tp #[.str "self" 360, .str "term" 361, .str "assoc" 362, .str "level" 363]),
 (124, tp #[]),
 (126, { cls := .type "code", data := Data.fields #[.str "set_precedence" 357, .str "Grammar.set_precedence" 358, .str "/claim/cut.py" 359, .int 89 0, .int 4 0, .int 0 0, .int 0 0, .int 3 0, .ref 121, .bool true, .int 181 0, .ref 122, .none, .ref 123, .ref 124, .ref 125, .int 364 0, .int 89 0, .str "/claim/cut.py" 365] }),
 (127, { cls := .type "function", data := Data.func { name := "set_precedence", qualname := "Grammar.set_precedence", params := fnA (tm 6 3), body := .stmts (fnB (tm 6 3)), scope := { kind := .function, names := [("self", .local), ("term", .local), ("assoc", .local), ("level", .local), ("_wall", .globalImplicit)], isGenerator := false, isCoroutine := false }, globals := 3, closure := [], defaults := .none, kwdefaults := .none, pyModule := .str "sly.yacc" 194, code := .ref 126 } }),
 (128, tp #[.none, .str "" 367, .int 0 368]),
 (129, tp #[]),
 (131, tp #[.str "self" 372, .str "prodname" 373, .str "syms" 374, .str "func" 375, .str "file" 376, .str "line" 377, .str "n" 378, .str "s" 379, .str "c" 380, .str "precname" 381, .str "prodprec" 382, .str "map" 383, .str "pnumber" 384, .str "t" 385, .str "p" 386]),
 (132, tp #[]),
 (134, { cls := .type "code", data := Data.fields #[.str "add_production" 369, .str "Grammar.add_production" 370, .str "/claim/cut.py" 371, .int 92 0, .int 6 0, .int 0 0, .int 0 0, .int 3 0, .ref 129, .bool true, .int 181 0, .ref 130, .none, .ref 131, .ref 132, .ref 133, .int 387 0, .int 92 0, .str "/claim/cut.py" 388] }),
 (135, { cls := .type "function", data := Data.func { name := "add_production", qualname := "Grammar.add_production", params := fnA (tm 6 4), body := .stmts (fnB (tm 6 4)), scope := { kind := .function, names := [("self", .local), ("prodname", .local), ("syms", .local), ("func", .local), ("file", .local), ("line", .local), ("n", .local), ("s", .local), ("c", .local), ("precname", .local), ("prodprec", .local), ("map", .local), ("pnumber", .local), ("t", .local), ("p", .local), ("GrammarError", .globalImplicit), ("enumerate", .globalImplicit), ("len", .globalImplicit), ("rightmost_terminal", .globalImplicit), ("tuple", .globalImplicit), ("Production", .globalImplicit), ("KeyError", .globalImplicit)], isGenerator := false, isCoroutine := false }, globals := 3, closure := [], defaults := .ref 128, kwdefaults := .none, pyModule := .str "sly.yacc" 194, code := .ref 134 } }),
 (136, tp #[.none]),
 (137, tp #[]),
 (139, tp #[.str "self" 393, .str "start" 394]),
 (140, tp #[]),
 (142, { cls := .type "code", data := Data.fields #[.str "set_start" 390, .str "Grammar.set_start" 391, .str "/claim/cut.py" 392, .int 142 0, .int 2 0, .int 0 0, .int 0 0, .int 3 0, .ref 137, .bool true, .int 181 0, .ref 138, .none, .ref 139, .ref 140, .ref 141, .int 395 0, .int 142 0, .str "/claim/cut.py" 396] }),
 (143, { cls := .type "function", data := Data.func { name := "set_start", qualname := "Grammar.set_start", params := fnA (tm 6 5), body := .stmts (fnB (tm 6 5)), scope := { kind := .function, names := [("self", .local), ("start", .local), ("_wall", .globalImplicit)], isGenerator := false, isCoroutine := false }, globals := 3, closure := [], defaults := .ref 136, kwdefaults := .none, pyModule := .str "sly.yacc" 194, code := .ref 142 } }),
 (144, tp #[]),
 (146, tp #[.str "self" 401]),
 (147, tp #[]),
 (149, { cls := .type "code", data := Data.fields #[.str "find_unreachable" 398, .str "Grammar.find_unreachable" 399, .str "/claim/cut.py" 400, .int 145 0, .int 1 0, .int 0 0, .int 0 0, .int 3 0, .ref 144, .bool true, .int 181 0, .ref 145, .none, .ref 146, .ref 147, .ref 148, .int 402 0, .int 145 0, .str "/claim/cut.py" 403] }),
 (150, { cls := .type "function", data := Data.func { name := "find_unreachable", qualname := "Grammar.find_unreachable", params := fnA (tm 6 6), body := .stmts (fnB (tm 6 6)), scope := { kind := .function, names := [("self", .local), ("_wall", .globalImplicit)], isGenerator := false, isCoroutine := false }, globals := 3, closure := [], defaults := .none, kwdefaults := .none, pyModule := .str "sly.yacc" 194, code := .ref 149 } }),
 (151, tp #[]),
 (153, tp #[.str "self" 408]),
 (154, tp #[]),
 (156, { cls := .type "code", data := Data.fields #[.str "infinite_cycles" 405, .str "Grammar.infinite_cycles" 406, .str "/claim/cut.py" 407, .int 148 0, .int 1 0, .int 0 0, .int 0 0, .int 3 0, .ref 151, .bool true, .int 181 0, .ref 152, .none, .ref 153, .ref 154, .ref 155, .int 409 0, .int 148 0, .str "/claim/cut.py" 410] }),
 (157, { cls := .type "function", data := Data.func { name := "infinite_cycles", qualname := "Grammar.infinite_cycles", params := fnA (tm 6 7), body := .stmts (fnB (tm 6 7)), scope := { kind := .function, names := [("self", .local), ("_wall", .globalImplicit)], isGenerator := false, isCoroutine := false }, globals := 3, closure := [], defaults := .none, kwdefaults := .none, pyModule := .str "sly.yacc" 194, code := .ref 156 } }),
 (158, tp #[]),
 (160, tp #[.str "self" 415]),
 (161, tp #[]),
 (163, { cls := .type "code", data := Data.fields #[.str "undefined_symbols" 412, .str "Grammar.undefined_symbols" 413, .str "/claim/cut.py" 414, .int 151 0, .int 1 0, .int 0 0, .int 0 0, .int 3 0, .ref 158, .bool true, .int 181 0, .ref 159, .none, .ref 160, .ref 161, .ref 162, .int 416 0, .int 151 0, .str "/claim/cut.py" 417] }),
 (164, { cls := .type "function", data := Data.func { name := "undefined_symbols", qualname := "Grammar.undefined_symbols", params := fnA (tm 6 8), body := .stmts (fnB (tm 6 8)), scope := { kind := .function, names := [("self", .local), ("_wall", .globalImplicit)], isGenerator := false, isCoroutine := false }, globals := 3, closure := [], defaults := .none, kwdefaults := .none, pyModule := .str "sly.yacc" 194, code := .ref 163 } }),
 (165, tp #[]),
 (167, tp #[.str "self" 422]),
 (168, tp #[]),
 (170, { cls := .type "code", data := Data.fields #[.str "unused_terminals" 419, .str "Grammar.unused_terminals" 420, .str "/claim/cut.py" 421, .int 154 0, .int 1 0, .int 0 0, .int 0 0, .int 3 0, .ref 165, .bool true, .int 181 0, .ref 166, .none, .ref 167, .ref 168, .ref 169, .int 423 0, .int 154 0, .str "/claim/cut.py" 424] }),
 (171, { cls := .type "function", data := Data.func { name := "unused_terminals", qualname := "Grammar.unused_terminals", params := fnA (tm 6 9), body := .stmts (fnB (tm 6 9)), scope := { kind := .function, names := [("self", .local), ("_wall", .globalImplicit)], isGenerator := false, isCoroutine := false }, globals := 3, closure := [], defaults := .none, kwdefaults := .none, pyModule := .str "sly.yacc" 194, code := .ref 170 } }),
 (172, tp #[]),
 (174, tp #[.str "self" 429]),
 (175, tp #[]),
 (177, { cls := .type "code", data := Data.fields #[.str "unused_rules" 426, .str "Grammar.unused_rules" 427, .str "/claim/cut.py" 428, .int 157 0, .int 1 0, .int 0 0, .int 0 0, .int 3 0, .ref 172, .bool true, .int 181 0, .ref 173, .none, .ref 174, .ref 175, .ref 176, .int 430 0, .int 157 0, .str "/claim/cut.py" 431] }),
 (178, { cls := .type "function", data := Data.func { name := "unused_rules", qualname := "Grammar.unused_rules", params := fnA (tm 6 10), body := .stmts (fnB (tm 6 10)), scope := { kind := .function, names := [("self", .local), ("_wall", .globalImplicit)], isGenerator := false, isCoroutine := false }, globals := 3, closure := [], defaults := .none, kwdefaults := .none, pyModule := .str "sly.yacc" 194, code := .ref 177 } }),
 (179, tp #[]),
 (181, tp #[.str "self" 436]),
 (182, tp #[]),
 (184, { cls := .type "code", data := Data.fields #[.str "unused_precedence" 433, .str "Grammar.unused_precedence" 434, .str "/claim/cut.py" 435, .int 160 0, .int 1 0, .int 0 0, .int 0 0, .int 3 0, .ref 179, .bool true, .int 181 0, .ref 180, .none, .ref 181, .ref 182, .ref 183, .int 437 0, .int 160 0, .str "/claim/cut.py" 438] }),
 (185, { cls := .type "function", data := Data.func { name := "unused_precedence", qualname := "Grammar.unused_precedence", params := fnA (tm 6 11), body := .stmts (fnB (tm 6 11)), scope := { kind := .function, names := [("self", .local), ("_wall", .globalImplicit)], isGenerator := false, isCoroutine := false }, globals := 3, closure := [], defaults := .none, kwdefaults := .none, pyModule := .str "sly.yacc" 194, code := .ref 184 } }),
 (186, tp #[]),
 (188, tp #[.str "self" 443, .str "beta" 444, .str "result" 445, .str "x" 446, .str "x_produces_empty" 447, .str "f" 448]),
 (189, tp #[]),
 (191, { cls := .type "code", data := Data.fields #[.str "_first" 440, .str "Grammar._first" 441, .str "/claim/cut.py" 442, .int 163 0, .int 2 0, .int 0 0, .int 0 0, .int 3 0, .ref 186, .bool true, .int 181 0, .ref 187, .none, .ref 188, .ref 189, .ref 190, .int 449 0, .int 163 0, .str "/claim/cut.py" 450] }),
 (192, { cls := .type "function", data := Data.func { name := "_first", qualname := "Grammar._first", params := fnA (tm 6 12), body := .stmts (fnB (tm 6 12)), scope := { kind := .function, names := [("self", .local), ("beta", .local), ("result", .local), ("x", .local), ("x_produces_empty", .local), ("f", .local)], isGenerator := false, isCoroutine := false }, globals := 3, closure := [], defaults := .none, kwdefaults := .none, pyModule := .str "sly.yacc" 194, code := .ref 191 } }),
 (193, tp #[]),
 (195, tp #[.str "self" 455, .str "t" 456, .str "n" 457, .str "some_change" 458, .str "p" 459, .str "f" 460]),
 (196, tp #[]),
 (198, { cls := .type "code", data := Data.fields #[.str "compute_first" 452, .str "Grammar.compute_first" 453, .str "/claim/cut.py" 454, .int 180 0, .int 1 0, .int 0 0, .int 0 0, .int 3 0, .ref 193, .bool true, .int 181 0, .ref 194, .none, .ref 195, .ref 196, .ref 197, .int 461 0, .int 180 0, .str "/claim/cut.py" 462] }),
 (199, { cls := .type "function", data := Data.func { name := "compute_first", qualname := "Grammar.compute_first", params := fnA (tm 6 13), body := .stmts (fnB (tm 6 13)), scope := { kind := .function, names := [("self", .local), ("t", .local), ("n", .local), ("some_change", .local), ("p", .local), ("f", .local)], isGenerator := false, isCoroutine := false }, globals := 3, closure := [], defaults := .none, kwdefaults := .none, pyModule := .str "sly.yacc" 194, code := .ref 198 } }),
 (200, tp #[.none]),
 (201, tp #[]),
 (203, tp #[.str "self" 467, .str "start" 468, .str "k" 469, .str "didadd" 470, .str "p" 471, .str "i" 472, .str "B" 473, .str "fst" 474, .str "hasempty" 475, .str "f" 476]),
 (204, tp #[]),
 (206, { cls := .type "code", data := Data.fields #[.str "compute_follow" 464, .str "Grammar.compute_follow" 465, .str "/claim/cut.py" 466, .int 200 0, .int 2 0, .int 0 0, .int 0 0, .int 3 0, .ref 201, .bool true, .int 181 0, .ref 202, .none, .ref 203, .ref 204, .ref 205, .int 477 0, .int 200 0, .str "/claim/cut.py" 478] }),
 (207, { cls := .type "function", data := Data.func { name := "compute_follow", qualname := "Grammar.compute_follow", params := fnA (tm 6 14), body := .stmts (fnB (tm 6 14)), scope := { kind := .function, names := [("self", .local), ("start", .local), ("k", .local), ("didadd", .local), ("p", .local), ("i", .local), ("B", .local), ("fst", .local), ("hasempty", .local), ("f", .local), ("enumerate", .globalImplicit), ("len", .globalImplicit)], isGenerator := false, isCoroutine := false }, globals := 3, closure := [], defaults := .ref 200, kwdefaults := .none, pyModule := .str "sly.yacc" 194, code := .ref 206 } }),
 (208, tp #[]),
 (210, tp #[.str "self" 483]),
 (211, tp #[]),
 (213, { cls := .type "code", data := Data.fields #[.str "build_lritems" 480, .str "Grammar.build_lritems" 481, .str "/claim/cut.py" 482, .int 232 0, .int 1 0, .int 0 0, .int 0 0, .int 3 0, .ref 208, .bool true, .int 181 0, .ref 209, .none, .ref 210, .ref 211, .ref 212, .int 484 0, .int 232 0, .str "/claim/cut.py" 485] }),
 (214, { cls := .type "function", data := Data.func { name := "build_lritems", qualname := "Grammar.build_lritems", params := fnA (tm 6 15), body := .stmts (fnB (tm 6 15)), scope := { kind := .function, names := [("self", .local), ("_wall", .globalImplicit)], isGenerator := false, isCoroutine := false }, globals := 3, closure := [], defaults := .none, kwdefaults := .none, pyModule := .str "sly.yacc" 194, code := .ref 213 } }),
 (215, tp #[.str "First" 487, .str "Follow" 488, .str "Nonterminals" 489, .str "Precedence" 490, .str "Prodmap" 491, .str "Prodnames" 492, .str "Productions" 493, .str "Start" 494, .str "Terminals" 495, .str "UsedPrecedence" 496, .str "names" 497]),
 (216, { cls := .type "dict", data := Data.dict #[en P "__module__" 327 (.str "sly.yacc" 194), en P "__firstlineno__" 331 (.int 65 330), en P "__init__" 341 (.ref 106), en P "__len__" 348 (.ref 113), en P "__getitem__" 356 (.ref 120), en P "set_precedence" 366 (.ref 127), en P "add_production" 389 (.ref 135), en P "set_start" 397 (.ref 143), en P "find_unreachable" 404 (.ref 150), en P "infinite_cycles" 411 (.ref 157), en P "undefined_symbols" 418 (.ref 164), en P "unused_terminals" 425 (.ref 171), en P "unused_rules" 432 (.ref 178), en P "unused_precedence" 439 (.ref 185), en P "_first" 451 (.ref 192), en P "compute_first" 463 (.ref 199), en P "compute_follow" 479 (.ref 207), en P "build_lritems" 486 (.ref 214), en P "__static_attributes__" 498 (.ref 215), en P "__dict__" 500 (.ref 218), en P "__weakref__" 502 (.ref 219), en P "__doc__" 503 (.none)] 4 }),
 (217, { cls := .type "type", data := Data.cls { name := "Grammar", bases := [.type "object"], mro := [.ref 217, .type "object"], ns := 216, qualname := "Grammar" }, slots := #[some (.ref 92), none, some (.str "Grammar" 320), some (.str "Grammar" 328), some (.builtin "object.__new__"), some (.bool true)] }),
 (218, { cls := .type "getset_descriptor", data := Data.fields #[.str "__dict__" 499, .ref 217, .builtin "function.__dict__", .builtin "function.__dict__#set"] }),
 (219, { cls := .type "getset_descriptor", data := Data.fields #[.str "__weakref__" 501, .ref 217, .builtin "ExceptionGroup.__weakref__", .none] }),
 (229, tp #[]),
 (231, tp #[.str "self" 521]),
 (232, tp #[]),
 (234, { cls := .type "code", data := Data.fields #[.str "__init__" 518, .str "RuleNames.__init__" 519, .str "/claim/cut.py" 520, .int 236 0, .int 1 0, .int 0 0, .int 0 0, .int 3 0, .ref 229, .bool true, .int 181 0, .ref 230, .none, .ref 231, .ref 232, .ref 233, .int 522 0, .int 236 0, .str "/claim/cut.py" 523] }),
 (235, { cls := .type "function", data := Data.func { name := "__init__", qualname := "RuleNames.__init__", params := fnA (tm 7 0), body := .stmts (fnB (tm 7 0)), scope := { kind := .function, names := [("self", .local)], isGenerator := false, isCoroutine := false }, globals := 3, closure := [], defaults := .none, kwdefaults := .none, pyModule := .str "sly.yacc" 194, code := .ref 234 } }),
 (236, tp #[.str "aliases" 525, .str "gencount" 526]),
 (237, { cls := .type "dict", data := Data.dict #[en P "__module__" 513 (.str "sly.yacc" 194), en P "__firstlineno__" 517 (.int 234 516), en P "__init__" 524 (.ref 235), en P "__static_attributes__" 527 (.ref 236), en P "__dict__" 529 (.ref 239), en P "__weakref__" 531 (.ref 240), en P "__doc__" 532 (.none)] 4 }),
 (238, { cls := .type "type", data := Data.cls { name := "RuleNames", bases := [.type "object"], mro := [.ref 238, .type "object"], ns := 237, qualname := "RuleNames" }, slots := #[none, none, some (.str "RuleNames" 506), some (.str "RuleNames" 514), some (.builtin "object.__new__"), some (.bool true)] }),
 (239, { cls := .type "getset_descriptor", data := Data.fields #[.str "__dict__" 528, .ref 238, .builtin "function.__dict__", .builtin "function.__dict__#set"] }),
 (240, { cls := .type "getset_descriptor", data := Data.fields #[.str "__weakref__" 530, .ref 238, .builtin "ExceptionGroup.__weakref__", .none] }),
 (243, { cls := .type "list", data := Data.seq #[.str "x" 537, .str "y" 538, .str "z" 539] }),
 (244, tp #[]),
 (246, tp #[.str "script" 544, .str "numbers" 545, .str "heads" 546, .str "number" 547, .str "signs" 548, .str "rules" 549, .str "rest" 550, .str "size" 551, .str "body" 552, .str "k" 553]),
 (247, tp #[]),
 (249, { cls := .type "code", data := Data.fields #[.str "_law_rules" 541, .str "_law_rules" 542, .str "/claim/cut.py" 543, .int 241 0, .int 1 0, .int 0 0, .int 0 0, .int 3 0, .ref 244, .bool true, .int 181 0, .ref 245, .none, .ref 246, .ref 247, .ref 248, .int 554 0, .int 241 0, .str "/claim/cut.py" 555] }),
 (250, { cls := .type "function", data := Data.func { name := "_law_rules", qualname := "_law_rules", params := fnA (ta 10), body := .stmts (fnB (ta 10)), scope := { kind := .function, names := [("script", .local), ("numbers", .local), ("heads", .local), ("number", .local), ("signs", .local), ("rules", .local), ("rest", .local), ("size", .local), ("body", .local), ("k", .local), ("_law_tokens", .globalImplicit), ("range", .globalImplicit), ("len", .globalImplicit)], isGenerator := false, isCoroutine := false }, globals := 3, closure := [], defaults := .none, kwdefaults := .none, pyModule := .str "law_iw0034_01" 535, code := .ref 249 } }),
 (251, tp #[]),
 (254, { cls := .type "code", data := Data.fields #[.str "_law_gone" 557, .str "_law_gone" 558, .str "/claim/cut.py" 559, .int 260 0, .int 2 0, .int 0 0, .int 0 0, .int 3 0, .ref 251, .bool true, .int 181 0, .ref 252, .none, .none, .none, .ref 253, .int 560 0, .int 260 0, .str "/claim/cut.py" 561] }),
 (255, { cls := .type "function", data := Data.func { name := "_law_gone", qualname := "_law_gone", params := fnA (ta 11), body := .stmts (fnB (ta 11)), scope := { kind := .function, names := [("rules", .cell), ("heads", .local), ("gone", .cell), ("height", .local), ("range", .globalImplicit), ("len", .globalImplicit)], isGenerator := false, isCoroutine := false, more := [("fast", Const.str "rules"), ("fast", Const.str "heads"), ("fast", Const.str "gone"), ("fast", Const.str "height"), ("fast", Const.str "head"), ("fast", Const.str "name"), ("fast", Const.str "body"), ("fast", Const.str "s")] }, globals := 3, closure := [], defaults := .none, kwdefaults := .none, pyModule := .str "law_iw0034_01" 535, code := .ref 254 } }),
 (256, tp #[]),
 (258, tp #[.str "line" 566, .str "body" 567, .str "gone" 568, .str "sign" 569]),
 (259, tp #[]),
 (261, { cls := .type "code", data := Data.fields #[.str "_law_corner" 563, .str "_law_corner" 564, .str "/claim/cut.py" 565, .int 265 0, .int 3 0, .int 0 0, .int 0 0, .int 3 0, .ref 256, .bool true, .int 181 0, .ref 257, .none, .ref 258, .ref 259, .ref 260, .int 570 0, .int 265 0, .str "/claim/cut.py" 571] }),
 (262, { cls := .type "function", data := Data.func { name := "_law_corner", qualname := "_law_corner", params := fnA (ta 12), body := .stmts (fnB (ta 12)), scope := { kind := .function, names := [("line", .local), ("body", .local), ("gone", .local), ("sign", .local)], isGenerator := false, isCoroutine := false }, globals := 3, closure := [], defaults := .none, kwdefaults := .none, pyModule := .str "law_iw0034_01" 535, code := .ref 261 } }),
 (263, tp #[]),
 (266, { cls := .type "code", data := Data.fields #[.str "_law_begins" 573, .str "_law_begins" 574, .str "/claim/cut.py" 575, .int 272 0, .int 3 0, .int 0 0, .int 0 0, .int 3 0, .ref 263, .bool true, .int 181 0, .ref 264, .none, .none, .none, .ref 265, .int 576 0, .int 272 0, .str "/claim/cut.py" 577] }),
 (267, { cls := .type "function", data := Data.func { name := "_law_begins", qualname := "_law_begins", params := fnA (ta 13), body := .stmts (fnB (ta 13)), scope := { kind := .function, names := [("rules", .local), ("gone", .local), ("row", .local), ("line", .local), ("place", .local), ("head", .local), ("body", .local), ("_law_corner", .globalImplicit), ("len", .globalImplicit)], isGenerator := false, isCoroutine := false, more := [("fast", Const.str "rules"), ("fast", Const.str "gone"), ("fast", Const.str "row"), ("fast", Const.str "line"), ("fast", Const.str "place"), ("fast", Const.str "head"), ("fast", Const.str "body"), ("fast", Const.str "sign")] }, globals := 3, closure := [], defaults := .none, kwdefaults := .none, pyModule := .str "law_iw0034_01" 535, code := .ref 266 } }),
 (268, tp #[]),
 (271, { cls := .type "code", data := Data.fields #[.str "_law_all" 579, .str "_law_all" 580, .str "/claim/cut.py" 581, .int 281 0, .int 2 0, .int 0 0, .int 0 0, .int 3 0, .ref 268, .bool true, .int 181 0, .ref 269, .none, .none, .none, .ref 270, .int 582 0, .int 281 0, .str "/claim/cut.py" 583] }),
 (272, { cls := .type "function", data := Data.func { name := "_law_all", qualname := "_law_all", params := fnA (ta 14), body := .stmts (fnB (ta 14)), scope := { kind := .function, names := [("row", .local), ("gone", .cell), ("len", .globalImplicit)], isGenerator := false, isCoroutine := false, more := [("fast", Const.str "row"), ("fast", Const.str "gone"), ("fast", Const.str "sign")] }, globals := 3, closure := [], defaults := .none, kwdefaults := .none, pyModule := .str "law_iw0034_01" 535, code := .ref 271 } }),
 (273, tp #[]),
 (276, { cls := .type "code", data := Data.fields #[.str "law" 585, .str "law" 586, .str "/claim/cut.py" 587, .int 283 0, .int 1 0, .int 0 0, .int 0 0, .int 3 0, .ref 273, .bool true, .int 181 0, .ref 274, .none, .none, .none, .ref 275, .int 588 0, .int 283 0, .str "/claim/cut.py" 589] }),
 (277, { cls := .type "function", data := Data.func { name := "law", qualname := "law", params := fnA (ta 15), body := .stmts (fnB (ta 15)), scope := { kind := .function, names := [("script", .local), ("heads", .local), ("rules", .local), ("grammar", .local), ("head", .local), ("body", .local), ("gone", .local), ("due", .local), ("token", .local), ("behind", .local), ("told", .local), ("sign", .local), ("places", .local), ("k", .local), ("rest", .local), ("name", .local), ("line", .local), ("found", .cell), ("at", .local), ("begins", .local), ("_law_rules", .globalImplicit), ("Grammar", .globalImplicit), ("list", .globalImplicit), ("_law_tokens", .globalImplicit), ("_law_gone", .globalImplicit), ("_law_begins", .globalImplicit), ("len", .globalImplicit), ("sorted", .globalImplicit), ("range", .globalImplicit), ("_law_all", .globalImplicit)], isGenerator := false, isCoroutine := false, more := [("fast", Const.str "script"), ("fast", Const.str "heads"), ("fast", Const.str "rules"), ("fast", Const.str "grammar"), ("fast", Const.str "head"), ("fast", Const.str "body"), ("fast", Const.str "gone"), ("fast", Const.str "due"), ("fast", Const.str "token"), ("fast", Const.str "behind"), ("fast", Const.str "told"), ("fast", Const.str "sign"), ("fast", Const.str "places"), ("fast", Const.str "k"), ("fast", Const.str "rest"), ("fast", Const.str "name"), ("fast", Const.str "line"), ("fast", Const.str "found"), ("fast", Const.str "at"), ("fast", Const.str "begins")] }, globals := 3, closure := [], defaults := .none, kwdefaults := .none, pyModule := .str "law_iw0034_01" 535, code := .ref 276 } })]

noncomputable def kAdr : List Addr := [2, 3, 15, 17, 18, 20, 21, 22, 29, 30, 31, 32, 35, 42, 43, 44, 45, 47, 48, 50, 51, 52, 54, 55, 57, 58, 59, 61, 62, 64, 65, 66, 67, 68, 69, 70, 73, 75, 76, 78, 79, 80, 87, 88, 89, 92, 99, 100, 102, 103, 105, 106, 107, 109, 110, 112, 113, 114, 116, 117, 119, 120, 121, 123, 124, 126, 127, 128, 129, 131, 132, 134, 135, 136, 137, 139, 140, 142, 143, 144, 146, 147, 149, 150, 151, 153, 154, 156, 157, 158, 160, 161, 163, 164, 165, 167, 168, 170, 171, 172, 174, 175, 177, 178, 179, 181, 182, 184, 185, 186, 188, 189, 191, 192, 193, 195, 196, 198, 199, 200, 201, 203, 204, 206, 207, 208, 210, 211, 213, 214, 215, 216, 217, 218, 219, 229, 231, 232, 234, 235, 236, 237, 238, 239, 240, 243, 244, 246, 247, 249, 250, 251, 254, 255, 256, 258, 259, 261, 262, 263, 266, 267, 268, 271, 272, 273, 276, 277]
theorem kAdr_eq : ∀ P : Params, kAdr = (K P).map (·.1) := fun P => by kernel_rfl
noncomputable def kH : Hook := kHook K kAdr kAdr_eq
noncomputable def qv : Program := PySem.W.view pw [15]
noncomputable def qLoose : List PySem.Str := ["_wall", "__name__", "YaccError", "Production", "rightmost_terminal", "GrammarError", "Grammar", "RuleNames", "_law_tokens", "_law_rules", "_law_gone", "_law_corner", "_law_begins", "_law_all"]
noncomputable def qX (s : Shared) : Bool := xlAt qv [] s && recOk (RowW.records rw0.row.toRowW) s
theorem left_q (w : World) : ((((PySem.W.Fast.tw10274390034422433532 PySem.W.Fast.tw14364793385576792824 (opening pw) w 4102 (PySem.W.Fast.tw1435165496053646825 (opening pw)).1 (PySem.W.Fast.tw1435165496053646825 (opening pw)).2).bind (PySem.W.Fast.tw14289696077712309145 pw)).bind fun s₀ => match s₀.heap.isNs mainGlobals && s₀.gens.size == 0 with
  | true => (PySem.W.Fast.tw14082659384304107361 PySem.W.Fast.tw14364793385576792824 pw w s₀.heap.objs.size (PySem.W.Fast.tw8920871248978507458 s₀.heap mainGlobals "__annotations__") 4102 s₀ (topStub pw)).bind fun s₁ => match staticsOk (importedModules pw.main.body) s₀.heap s₁.heap && namesBound pw s₁.heap && gensDone s₁ && laidKept s₀.heap s₁.heap with
      | true => some s₁
      | false => none
  | false => none).map fun s => (PySem.W.Fast.tw4187177175401517315 qv qLoose (importedModules pw.main.body) qX true s, Hook.obs kH s)) = some (openGood qv qLoose, Hook.val kH w) := by kernel_rfl
theorem left_ : LeftO pw qv qLoose qX (Hook.obs kH) (Hook.val kH) 4102 := fun w => by
  have h := left_q w
  rw [← PySem.W.Fast.te10274390034422433532, ← PySem.W.Fast.te14364793385576792824, ← PySem.W.Fast.te1435165496053646825, ← PySem.W.Fast.te14289696077712309145, ← PySem.W.Fast.te14082659384304107361, ← PySem.W.Fast.te8920871248978507458, ← PySem.W.Fast.te4187177175401517315] at h
  exact h
theorem said_q : PySem.W.Fast.tw9446332074065402090 rw0 = true := by kernel_rfl
theorem said_ : rw0.wellSaid = true := by
  have h := said_q
  rw [← PySem.W.Fast.te9446332074065402090] at h
  exact h
end Lay.W1
end
noncomputable section
open PySem PySem.W PyProof.Rows PySem.Calls
set_option Elab.async false
set_option maxRecDepth 100000
set_option linter.all false
namespace Lay.W1
variable {P : Params} {F : Fx} {n : Nat} {loc : Loc} {H : Hp}

theorem rn_init {L : Addr → Option (List V)} {D : Addr → Option (List (Str × V))} {Pd : Addr → Option (List (Str × List Str))} {S : Addr → Option ((Str → Bool) × Nat)} {I : Addr → Option (Addr × Addr)} {C : Addr → Option (Option V)} {G : Addr → Option Nat}
    (ok : Ok F (n + 1)) (W : Wd (K P) F.c.base) {x d : Addr} {Q : V → Loc → Hp → Prop} (eI : I x = some (238, d)) (eG : G d = none)
    (q : ∀ a fs, a ≠ d → Hp.Fresh ⟨L, D, Pd, S, I, C, G⟩ a → dget fs "aliases" = some (.ref a) → Q .none loc ⟨L, up (up D a []) d fs, Pd, S, I, C, G⟩) : CCall F 235 [.ref x] [] [] loc ⟨L, up D d [], Pd, S, I, C, G⟩ Q := by
  refine defP ok W ["self"] (Vs := [.ref x]) rfl rfl rfl rfl rfl rfl ?_ rfl ?_
  · intro vs ws B r1 r2 le
    apply r2.e0
    apply r1.e1
    intro _ a
    exact ⟨[_], Looks.of_peek W.k rfl, .cons a .nil⟩
  · intro F' ok tp W hF
    refine WSs_cons (WS_AssignT (WE_int (WA_attr (gLoc ok hF (X := .ref x) rfl rfl (setF2 ok W eI eG (by decide) fun f1 p1 => ?_)))))
    have l1 : f1.length ≤ 1 := p1.len
    refine WSs_cons (WS_AssignT (WE_Dict0 fun a ha => WA_attr (gLoc ok hF (X := .ref x) rfl rfl (setF3 ok W eI eG (by omega) (frD ha).1.symm fun f2 p2 => ?_))))
    exact WSs_nil (q a f2 (frD ha).1 (frD ha).2 p2.here)
end Lay.W1
end
noncomputable section
open PySem PySem.W PyProof.Rows PySem.Calls
set_option Elab.async false
set_option maxRecDepth 100000
set_option linter.all false
namespace Lay.W1
variable {P : Params} {F : Fx} {n : Nat} {loc : Loc} {H H1 : Hp}
theorem txt_small : ∀ z : Nat, z ≤ 100 → (Str.ofString (toString (z : Int))).length ≤ 10000 := by decide +kernel
theorem upE {α : Type} {f : Addr → Option α} {a b : Addr} {x : α} {y : Option α} (h : b ≠ a) (e : f b = y) : up f a x b = y := upe h e
noncomputable def PrF (fs : List (Str × V)) (num : Int) (nm : Str) (syms : List Str) (prec : V) : Prop :=
  dget fs "name" = some (.str nm) ∧ dget fs "prod" = some (.tup (syms.map .str)) ∧ dget fs "number" = some (.int num) ∧ dget fs "prec" = some prec
theorem up_two {α : Type} {f : Addr → Option α} {a b : Addr} {x y x' y' : α} (h : a ≠ b) : up (up (up (up f a x) b y) a x') b y' = up (up f a x') b y' := by
  funext c
  by_cases e : c = b
  · subst e; rw [up_self, up_self]
  · rw [up_ne e, up_ne e]
    by_cases e' : c = a
    · subst e'; rw [up_self, up_self]
    · rw [up_ne e', up_ne e', up_ne e, up_ne e']
structure PB (H H1 : Hp) (x d : Addr) (f : List (Str × V)) : Prop where
  e : H1 = { H with D := up H.D d f }
  eI : H.I x = some (68, d)
  eG : ∀ a, H.G a = none
theorem PB.I {x d f} (h : PB H H1 x d f) : H1.I x = some (68, d) := by rw [h.e]; exact h.eI
theorem PB.D {x d f} (h : PB H H1 x d f) : H1.D d = some f := by rw [h.e]; exact up_self _ _ _
theorem PB.G {x d f} (h : PB H H1 x d f) (a : Addr) : H1.G a = none := by rw [h.e]; exact h.eG a
theorem setP (ok : Ok F n) (W : Wd (K P) F.c.base) {x d : Addr} {fs : List (Str × V)} {name : Str} {Z : V} {Q : Loc → Hp → Prop} (h : PB H H1 x d fs) (hz : fs.length ≤ 900)
    (q : ∀ fs' H2, Put fs name Z fs' → PB H H2 x d fs' → Q loc H2) (ho : setOk (K P) 68 name = true := by rfl) (hn : PyData.strOk name = true := by exact ofString_ok _) : SetA F name (.ref x) Z loc H1 Q :=
  setF ok W h.I h.D (h.G d) hz (fun fs' hp => q _ _ hp ⟨by rw [h.e]; simp [up_up], h.eI, h.eG⟩) ho hn
noncomputable def PL (x al : Addr) (a9 a10 a11 a12 a13 a14 a15 a16 : Option V) : Loc := [some (.ref x), none, none, none, none, none, none, none, some (.ref al), a9, a10, a11, a12, a13, a14, a15, a16, none, none, none, none]
inductive Pi1 (x : Addr) (d : Addr) (al : Addr) (H : Hp) (u : Addr) (fs : List (Str × V)) (i : Nat) (l : Loc) (H' : Hp) : Prop
  | mk (us : List Str) (a9 : Option V) (a10 : Option V) (_ : List.length (α := Str) us ≤ i) (_ : l = PL x al a9 a10 none none none none none none) (_ : { H with L := up H.L u (us.map .str), D := up H.D d fs } = H') : Pi1 x d al H u fs i l H'
inductive Pi2 (x : Addr) (al : Addr) (syms : List Str) (H : Hp) (nc : Addr) (i : Nat) (l : Loc) (H' : Hp) : Prop
  | mk (cs : List (Str × V)) (a12 : Option V) (_ : List.length cs ≤ i) (_ : (∀ k, (∃ z : Nat, dget cs k = some (.int z) ∧ 1 ≤ z ∧ z ≤ i) ∨ (dget cs k = none ∧ k ∉ syms.take i))) (_ : l = PL x al none none (some (.ref nc)) a12 none none none none) (_ : { H with D := up H.D nc cs } = H') : Pi2 x al syms H nc i l H'
inductive Pi3 (x : Addr) (al : Addr) (H : Hp) (nc : Addr) (cs : List (Str × V)) (nu : Addr) (mp : Addr) (i : Nat) (l : Loc) (H' : Hp) : Prop
  | mk (us : List (Str × V)) (ms : List (Str × V)) (a12 : Option V) (a15 : Option V) (a16 : Option V) (_ : List.length us ≤ i) (_ : List.length ms ≤ i) (_ : (∀ k, (∃ z : Nat, (dget us k).getD (.int 0) = .int z ∧ z ≤ i))) (_ : l = PL x al none none (some (.ref nc)) a12 (some (.ref nu)) (some (.ref mp)) a15 a16) (_ : { H with D := up (up (up H.D nc cs) nu us) mp ms } = H') : Pi3 x al H nc cs nu mp i l H'
theorem pr_init (ok : Ok F (n + 2)) (W : Wd (K P) F.c.base) {x d al : Addr} {num : Int} {nm : Str} {PV prec fn fi li : V} {syms : List Str} {Q : V → Loc → Hp → Prop}
    (eI : H.I x = some (68, d)) (eD : H.D d = some []) (hG : ∀ a, H.G a = none) (eA : H.D al = some []) (hne : al ≠ d) (eP : asL H PV = some (syms.map .str)) (hz : syms.length ≤ 100) (hl : ∀ s ∈ syms, s.length ≤ 1000)
    (q : ∀ fs, PrF fs num nm syms prec → Q .none loc { H with D := up H.D d fs }) :
    CCall F 51 [.ref x, .int num, .str nm, PV, prec, fn, fi, li, .ref al] [] [] loc H Q := by
  refine defP ok W ["self", "number", "name", "prod", "precedence", "func", "file", "line", "aliases"] (Vs := [.ref x, .int num, .str nm, PV, prec, fn, fi, li, .ref al]) rfl rfl rfl rfl rfl rfl ?_ rfl ?_
  · intro vs ws B r1 r2 le
    apply r2.e0
    apply r1.e9
    intro a b c d e f g i j r
    exact ⟨_, Looks.of_peek W.k rfl, r⟩
  · intro F' ok tp W hF
    have hz' : (syms.map V.str).length ≤ 1000000 := by rw [List.length_map]; omega
    have b0 : PB H H x d [] := ⟨by rw [up_id eD], eI, hG⟩
    refine WSs_cons (WS_AssignT (gLoc ok hF rfl rfl (WA_attr (gLoc ok hF rfl rfl (setP ok W b0 (by decide) fun f1 H1 p1 b1 => ?_)))))
    have l1 : f1.length ≤ 1 := p1.len
    have eP1 : asL H1 PV = some (syms.map .str) := by rw [b1.e]; exact eP
    refine WSs_cons (WS_AssignT (WE_CallN (gBi ok W hF rfl rfl (by boot_by_name) (by decide) (WEs_cons (gLoc ok hF rfl rfl (WEs_nil ⟨keepB ok, Call_tuple (xs := syms.map .str) eP1 hz' (WA_attr (gLoc ok hF rfl rfl (setP ok W b1 (Nat.le_trans l1 (by decide)) fun f2 H2 p2 b2 => ?_)))⟩))))))
    have l2 : f2.length ≤ 2 := Nat.le_trans p2.len (Nat.succ_le_succ l1)
    refine WSs_cons (WS_AssignT (gLoc ok hF rfl rfl (WA_attr (gLoc ok hF rfl rfl (setP ok W b2 (Nat.le_trans l2 (by decide)) fun f3 H3 p3 b3 => ?_)))))
    have l3 : f3.length ≤ 3 := Nat.le_trans p3.len (Nat.succ_le_succ l2)
    refine WSs_cons (WS_AssignT (gLoc ok hF rfl rfl (WA_attr (gLoc ok hF rfl rfl (setP ok W b3 (Nat.le_trans l3 (by decide)) fun f4 H4 p4 b4 => ?_)))))
    have l4 : f4.length ≤ 4 := Nat.le_trans p4.len (Nat.succ_le_succ l3)
    refine WSs_cons (WS_AssignT (gLoc ok hF rfl rfl (WA_attr (gLoc ok hF rfl rfl (setP ok W b4 (Nat.le_trans l4 (by decide)) fun f5 H5 p5 b5 => ?_)))))
    have l5 : f5.length ≤ 5 := Nat.le_trans p5.len (Nat.succ_le_succ l4)
    refine WSs_cons (WS_AssignT (gLoc ok hF rfl rfl (WA_attr (gLoc ok hF rfl rfl (setP ok W b5 (Nat.le_trans l5 (by decide)) fun f6 H6 p6 b6 => ?_)))))
    have l6 : f6.length ≤ 6 := Nat.le_trans p6.len (Nat.succ_le_succ l5)
    refine WSs_cons (WS_AssignT (gLoc ok hF rfl rfl (WA_attr (gLoc ok hF rfl rfl (setP ok W b6 (Nat.le_trans l6 (by decide)) fun f7 H7 p7 b7 => ?_)))))
    have l7 : f7.length ≤ 7 := Nat.le_trans p7.len (Nat.succ_le_succ l6)
    have g7 : PrF f7 num nm syms prec := ⟨p7.old (p6.old (p5.old (p4.old (p3.old (p2.old p1.here))))), p7.old (p6.old (p5.old (p4.old (p3.old p2.here)))), p7.old (p6.old (p5.old (p4.old p3.here))), p7.here⟩
    refine WSs_pre (loc' := PL x al none none none none none none none none) (H' := H7) ?_ (by unfold PL; exact (by repeat (first | exact LocSub.refl _ | refine LocSub.same ?_ | refine LocSub.drop ?_))) (Hp.Sub.refl _)
    clear p1 p2 p3 p4 p5 p6 p7 b0 b1 b2 b3 b4 b5 b6 l1 l2 l3 l4 l5 l6 eP1 eP
    refine WSs_cons (WS_AssignT (WE_CallN (gBi ok W hF rfl rfl (by boot_by_name) (by decide) (WEs_cons (WE_Attr (gLoc ok hF rfl rfl (getA ok W b7.I b7.D g7.2.1 rfl (WEs_nil ⟨keepB ok, Call_len_tup hz' (WA_attr (gLoc ok hF rfl rfl (setP ok W b7 (Nat.le_trans l7 (by decide)) fun f8 H8 p8 b8 => ?_)))⟩))))))))
    have l8 : f8.length ≤ 8 := Nat.le_trans p8.len (Nat.succ_le_succ l7)
    have g8 : PrF f8 num nm syms prec := ⟨p8.old g7.1, p8.old g7.2.1, p8.old g7.2.2.1, p8.old g7.2.2.2⟩
    have q8 : ∀ fs, PrF fs num nm syms prec → Q .none loc { H8 with D := up H8.D d fs } := fun fs h => by
      have := q fs h
      rw [b8.e]; simpa only [up_up] using this
    have eI : H8.I x = some (68, d) := b8.I
    have eD : H8.D d = some f8 := b8.D
    have hG : ∀ a, H8.G a = none := b8.G
    have eA : H8.D al = some [] := by rw [b8.e]; exact upe hne eA
    clear p8 g7 b7 b8 q l7
    generalize H8 = H at *
    refine WSs_cons (WS_AssignT (WE_List (WEs_nil ⟨by decide, fun u hu => WA_attr (gLoc ok hF rfl rfl (setF ok W eI eD (hG d) (Nat.le_trans l8 (by decide)) fun fs p9 => ?_))⟩)))
    have g1 : PrF fs num nm syms prec := ⟨p9.old g8.1, p9.old g8.2.1, p9.old g8.2.2.1, p9.old g8.2.2.2⟩
    have g2 : dget fs "usyms" = some (.ref u) := p9.here
    have g3 : fs.length ≤ 9 := Nat.le_trans p9.len (Nat.succ_le_succ l8)
    have hul : H.L u = none := hu.l
    clear p9 g8 hu l8
    -- the first loop
    refine WSs_cons (WS_For (WIt_enum (gBi ok W hF rfl rfl (by boot_by_name) (by decide) ⟨rfl, WEs_cons (WE_Attr (gLoc ok hF rfl rfl (getA ok W eI (up_self _ _ _) g1.2.1 rfl (WEs_nil ⟨_, rfl, .inr ⟨_, rfl, ?_⟩⟩))))⟩)))
    refine ForOnV (fun i => entSt_mono i) (syms.map V.str).length (Pi1 x d al H u fs) ⟨[], none, none, by simp, rfl, rfl⟩ ?_ ?_
    · rintro i Q1 b1 l H' hi ⟨us, a9, a10, hus, rfl, rfl⟩
      have hi' : i < syms.length := by simpa using hi
      have hx : (syms.map V.str)[i]? = some (.str syms[i]) := by simp [hi']
      generalize syms[i] = s at hx
      refine ⟨.tup [.int i, .str s], Nxt_ent ok hx, ?_⟩
      refine WA_tuple ok.inl rfl (tLoc ok.inl hF rfl (tLoc ok.inl hF rfl ?_))
      refine WSs_cons (WS_If (WB_Compare (gLoc ok.inl hF rfl rfl (WE_Attr (gLoc ok.inl hF rfl rfl (getA ok.inl W eI (up_self _ _ _) g2 rfl (Cmp_notIn ok.inl (xs := us.map .str) (up_self _ _ _) rfl (by simp [V.isD]) ⟨fun _ => ?_, fun _ => ?_⟩)))))))
      · refine WSs_cons (sExpr ok.inl (WE_CallM (WE_Attr (gLoc ok.inl hF rfl rfl (getA ok.inl W eI (up_self _ _ _) g2 rfl (MGet_append (up_self _ _ _) (WEs_cons (gLoc ok.inl hF rfl rfl (WEs_nil ⟨keepB ok.inl, Call_append (xs := us.map .str) (up_self _ _ _) (by rw [List.length_map]; omega) (WSs_nil (WSs_nil (b1.n ⟨us ++ [s], _, _, by rw [List.length_append]; exact Nat.succ_le_succ hus, rfl, by rw [up_up]; simp⟩)))⟩)))))))))
      · exact WSs_nil (WSs_nil (b1.n ⟨us, _, _, Nat.le_succ_of_le hus, rfl, rfl⟩))
    · rintro l H' ⟨us, a9, a10, hus, rfl, rfl⟩
      refine ⟨Nxt_ent_end ok rfl, WSs_nil ?_⟩
      refine WSs_pre (loc' := PL x al none none none none none none none none) (H' := { H with D := up H.D d fs }) ?_ (by unfold PL; exact (by repeat (first | exact LocSub.refl _ | refine LocSub.same ?_ | refine LocSub.drop ?_))) (subL hul)
      have eA : (up H.D d fs) al = some [] := upe hne eA
      have eD : (up H.D d fs) d = some fs := up_self _ _ _
      have q : ∀ fs', PrF fs' num nm syms prec → Q .none loc { ({ H with D := up H.D d fs } : Hp) with D := up (up H.D d fs) d fs' } := fun fs' h => by
        have := q8 fs' h
        simpa only [up_up] using this
      have eI : ({ H with D := up H.D d fs } : Hp).I x = some (68, d) := eI
      have hG : ∀ a, ({ H with D := up H.D d fs } : Hp).G a = none := hG
      change ({ H with D := up H.D d fs } : Hp).D al = _ at eA
      change ({ H with D := up H.D d fs } : Hp).D d = _ at eD
      change ∀ fs', _ → Q .none loc { ({ H with D := up H.D d fs } : Hp) with D := up ({ H with D := up H.D d fs } : Hp).D d fs' } at q
      clear g2 hus us a9 a10 hul q8
      generalize ({ H with D := up H.D d fs } : Hp) = H at *
      -- the counts
      refine WSs_cons (sAsg ok hF rfl (WE_Dict0 fun nc hnc => ?_))
      have hncd : d ≠ nc := hnc.neD eD
      have hnca : al ≠ nc := hnc.neD eA
      have hncD := hnc.d
      refine WSs_cons (WS_For (WIt_tup (WE_Attr (gLoc ok hF rfl rfl (getA ok W eI (upe hncd eD) g1.2.1 rfl ⟨_, rfl, ?_⟩)))))
      refine ForOnV (fun i => tupSt_mono i) (syms.map V.str).length (Pi2 x al syms H nc) ⟨[], none, by simp, fun k => .inr ⟨rfl, by simp⟩, rfl, rfl⟩ ?_ ?_
      · rintro i Q2 b2 l H' hi ⟨cs, a12, hcl, hcs, rfl, rfl⟩
        have hi' : i < syms.length := by simpa using hi
        have hx : (syms.map V.str)[i]? = some (.str syms[i]) := by simp [hi']
        have htk : syms.take (i + 1) = syms.take i ++ [syms[i]] := take_snoc hi'
        have hi9 : i ≤ 100000 := by omega
        generalize syms[i] = s at hx htk
        refine ⟨.str s, Nxt_tup hx, tLoc ok.inl hF rfl ?_⟩
        have eNC : (up H.D nc cs) nc = some cs := up_self _ _ _
        refine WSs_cons (WS_AssignT (WE_BinOp (WE_CallM (gLoc ok.inl hF rfl rfl (MGet_dget eNC (WEs_cons (gLoc ok.inl hF rfl rfl (WEs_cons (WE_int (WEs_nil ⟨keepB ok.inl, Call_dget2 eNC ?_⟩))))))))))
        obtain ⟨z, hz1, hz2⟩ : ∃ z : Nat, (dget cs s).getD (.int 0) = .int z ∧ z ≤ i := by
          rcases hcs s with ⟨z, h1, h2, h3⟩ | ⟨h1, _⟩
          · exact ⟨z, by rw [h1]; rfl, h3⟩
          · exact ⟨0, by rw [h1]; rfl, Nat.zero_le _⟩
        rw [hz1]
        refine WE_int (Op_add (WA_sub (gLoc ok.inl hF rfl rfl (gLoc ok.inl hF rfl rfl (Set_dict eNC (hG nc) (Nat.le_trans hcl hi9) ?_)))))
        refine WSs_cons (WS_If (WB_Compare (gLoc ok.inl hF rfl rfl (gLoc ok.inl hF rfl rfl (Cmp_inD (kvs := []) (upe hnca (upe hnca eA)) ⟨(fun h => absurd h (by simp [dget])), fun _ => WSs_nil (WSs_nil (b2.n ⟨dput cs s (V.int ((z : Int) + 1)), _, Nat.le_trans (dput_length _ _ _) (Nat.succ_le_succ hcl), fun k => ?_, rfl, by rw [up_up]⟩))⟩)))))
        by_cases hk : k = s
        · subst hk
          refine .inl ⟨z + 1, by rw [dget_dput, if_pos rfl]; rfl, Nat.succ_le_succ (Nat.zero_le _), Nat.succ_le_succ hz2⟩
        · rw [dget_dput, if_neg hk]
          rcases hcs k with ⟨z', h1, h2, h3⟩ | ⟨h1, h2⟩
          · exact .inl ⟨z', h1, h2, Nat.le_succ_of_le h3⟩
          · refine .inr ⟨h1, ?_⟩
            rw [htk, List.mem_append, List.mem_singleton, not_or]
            exact ⟨h2, hk⟩
      · rintro l H' ⟨cs, a12, hcl, hcs, rfl, rfl⟩
        refine ⟨Nxt_tup_end (ok.handled (Nat.succ_ne_zero _)) (Nat.le_refl _), WSs_nil ?_⟩
        have hcs' : ∀ s ∈ syms, ∃ z : Nat, dget cs s = some (.int z) ∧ 1 ≤ z := fun s hs => by
          rcases hcs s with ⟨z, h1, h2, _⟩ | ⟨_, h2⟩
          · exact ⟨z, h1, h2⟩
          · simp [hs] at h2
        clear hcs hcl
        refine WSs_cons (sAsg ok hF rfl (WE_Dict0 fun nu hnu => ?_))
        have hnud : d ≠ nu := hnu.neD (upe hncd eD)
        have hnua : al ≠ nu := hnu.neD (upe hnca eA)
        have hnunc : nc ≠ nu := hnu.neD (up_self _ _ _)
        have hnuD : H.D nu = none := (up_ne hnunc.symm).symm.trans hnu.d
        refine WSs_cons (sAsg ok hF rfl (WE_Dict0 fun mp hmp => ?_))
        have hmpd : d ≠ mp := hmp.neD (upe hnud (upe hncd eD))
        have hmpa : al ≠ mp := hmp.neD (upe hnua (upe hnca eA))
        have hmpnu : nu ≠ mp := hmp.neD (up_self _ _ _)
        have hmpnc : nc ≠ mp := hmp.neD (upe hnunc (up_self _ _ _))
        have hmpD : H.D mp = none := (up_ne hmpnc.symm).symm.trans ((up_ne hmpnu.symm).symm.trans hmp.d)
        clear hnc hnu hmp
        refine WSs_cons (WS_For (WIt_enum (gBi ok W hF rfl rfl (by boot_by_name) (by decide) ⟨rfl, WEs_cons (WE_Attr (gLoc ok hF rfl rfl (getA ok W eI (upe hmpd (upe hnud (upe hncd eD))) g1.2.1 rfl (WEs_nil ⟨_, rfl, .inr ⟨_, rfl, ?_⟩⟩))))⟩)))
        refine ForOnV (fun i => entSt_mono i) (syms.map V.str).length (Pi3 x al H nc cs nu mp) ⟨[], [], a12, none, none, by simp, by simp, fun k => ⟨0, rfl, by simp⟩, rfl, rfl⟩ ?_ ?_
        · rintro i Q3 b3 l H' hi ⟨us, ms, a12, a15, a16, hul, hml, hus, rfl, rfl⟩
          have hi' : i < syms.length := by simpa using hi
          have hx : (syms.map V.str)[i]? = some (.str syms[i]) := by simp [hi']
          have hl1 := hl _ (List.getElem_mem hi')
          obtain ⟨z, hz1, hz2⟩ := hcs' syms[i] (List.getElem_mem _)
          have hi9 : i ≤ 100000 := by omega
          generalize syms[i] = s at hx hl1 hz1
          refine ⟨.tup [.int i, .str s], Nxt_ent ok hx, ?_⟩
          refine WA_tuple ok.inl rfl (tLoc ok.inl hF rfl (tLoc ok.inl hF rfl ?_))
          have eNC : ({ H with D := up (up (up H.D nc cs) nu us) mp ms } : Hp).D nc = some cs := upe hmpnc (upe hnunc (up_self _ _ _))
          have eNU : ({ H with D := up (up (up H.D nc cs) nu us) mp ms } : Hp).D nu = some us := upe hmpnu (up_self _ _ _)
          have eMP : ({ H with D := up (up (up H.D nc cs) nu us) mp ms } : Hp).D mp = some ms := up_self _ _ _
          have eAL : ({ H with D := up (up (up H.D nc cs) nu us) mp ms } : Hp).D al = some [] := upe hmpa (upe hnua (upe hnca eA))
          have hG3 : ∀ a, ({ H with D := up (up (up H.D nc cs) nu us) mp ms } : Hp).G a = none := hG
          have k3 : ∀ {l : Loc} us' ms' a12 a15 a16, List.length us' ≤ i + 1 → List.length ms' ≤ i + 1 → (∀ k, (∃ z : Nat, (dget us' k).getD (.int 0) = .int z ∧ z ≤ i + 1)) → l = PL x al none none (some (.ref nc)) a12 (some (.ref nu)) (some (.ref mp)) a15 a16 → Q3 .next l { ({ H with D := up (up (up H.D nc cs) nu us) mp ms } : Hp) with D := up (up (({ H with D := up (up (up H.D nc cs) nu us) mp ms } : Hp).D) nu us') mp ms' } := fun us' ms' b1 b2 b3' h1 h2 h3 h4 => b3.n ⟨us', ms', b1, b2, b3', h1, h2, h3, h4, by
            show (⟨_, _, _, _, _, _, _⟩ : Hp) = ⟨_, up (up (up (up (up H.D nc cs) nu us) mp ms) nu us') mp ms', _, _, _, _, _⟩
            rw [up_two hmpnu]⟩
          clear b3 hz2
          generalize ({ H with D := up (up (up H.D nc cs) nu us) mp ms } : Hp) = H3 at *
          refine WSs_cons (WS_If (WB_Compare (WE_Subscript (gLoc ok.inl hF rfl rfl (gLoc ok.inl hF rfl rfl (Sub_dict eNC hz1 (WE_int (Cmp_gt ⟨fun _ => ?_, fun _ => ?_⟩))))))))
          · obtain ⟨z', hz1', hz2'⟩ := hus s
            refine WSs_cons (sAsg ok.inl hF rfl (WE_FStr2 (WFld_str (gLoc ok.inl hF rfl rfl ⟨_, rfl, Nat.le_trans hl1 (by decide), WFld_int (WE_CallM (gLoc ok.inl hF rfl rfl (MGet_dget eNU (WEs_cons (gLoc ok.inl hF rfl rfl (WEs_cons (WE_int (WEs_nil ⟨keepB ok.inl, Call_dget2 eNU ?_⟩))))))))⟩))))
            rw [hz1']
            refine ⟨z', rfl, Nat.lt_of_le_of_lt (Nat.log2_le_self _) (by simp; omega), txt_small z' (by omega), ?_⟩
            refine WSs_cons (WS_AssignT (WE_BinOp (WE_CallM (gLoc ok.inl hF rfl rfl (MGet_dget eNU (WEs_cons (gLoc ok.inl hF rfl rfl (WEs_cons (WE_int (WEs_nil ⟨keepB ok.inl, Call_dget2 eNU ?_⟩))))))))))
            rw [hz1']
            refine WE_int (Op_add (WA_sub (gLoc ok.inl hF rfl rfl (gLoc ok.inl hF rfl rfl (Set_dict eNU (hG3 nu) (Nat.le_trans hul hi9) (WSs_nil ?_))))))
            refine WSs_cons (WS_AssignT (WE_Tuple (WEs_cons (gLoc ok.inl hF rfl rfl (WEs_cons (WE_none (WEs_nil ⟨by simp, WA_sub (gLoc ok.inl hF rfl rfl (gLoc ok.inl hF rfl rfl (Set_dict (upe hmpnu.symm eMP) (hG3 mp) (Nat.le_trans hml hi9) ?_)))⟩)))))))
            refine WSs_cons (WS_If (WB_Compare (gLoc ok.inl hF rfl rfl (gLoc ok.inl hF rfl rfl (Cmp_inD (kvs := []) (upe hmpa (upe hnua eAL)) ⟨(fun h => absurd h (by simp [dget])), fun _ => WSs_nil (WSs_nil (k3 _ _ _ _ _ (Nat.le_trans (dput_length _ _ _) (Nat.succ_le_succ hul)) (Nat.le_trans (dput_length _ _ _) (Nat.succ_le_succ hml)) (fun k => ?_) rfl))⟩)))))
            by_cases hk : k = s
            · subst hk; exact ⟨z' + 1, by rw [dget_dput, if_pos rfl]; rfl, Nat.succ_le_succ hz2'⟩
            · rw [dget_dput, if_neg hk]
              obtain ⟨z2, h1, h2⟩ := hus k
              exact ⟨z2, h1, Nat.le_succ_of_le h2⟩
          · refine WSs_cons (sAsg ok.inl hF rfl (gLoc ok.inl hF rfl rfl (WSs_nil ?_)))
            refine WSs_cons (WS_AssignT (WE_Tuple (WEs_cons (gLoc ok.inl hF rfl rfl (WEs_cons (WE_none (WEs_nil ⟨by simp, WA_sub (gLoc ok.inl hF rfl rfl (gLoc ok.inl hF rfl rfl (Set_dict eMP (hG3 mp) (Nat.le_trans hml hi9) ?_)))⟩)))))))
            have k4 := fun {l : Loc} ms' a12 a15 a16 h2 => @k3 l us ms' a12 a15 a16 (Nat.le_succ_of_le hul) h2 fun k => (hus k).elim fun z2 h => ⟨z2, h.1, Nat.le_succ_of_le h.2⟩
            rw [up_id eNU] at k4
            exact WSs_cons (WS_If (WB_Compare (gLoc ok.inl hF rfl rfl (gLoc ok.inl hF rfl rfl (Cmp_inD (kvs := []) (upe hmpa eAL) ⟨(fun h => absurd h (by simp [dget])), fun _ => WSs_nil (WSs_nil (k4 _ _ _ _ (Nat.le_trans (dput_length _ _ _) (Nat.succ_le_succ hml)) rfl))⟩)))))
        · rintro l H' ⟨us, ms, a12, a15, a16, hul, hml, hus, rfl, rfl⟩
          refine ⟨Nxt_ent_end ok rfl, WSs_nil ?_⟩
          refine WSs_pre (loc' := PL x al none none none none none (some (.ref mp)) none none) (H' := H) ?_ (by unfold PL; exact (by repeat (first | exact LocSub.refl _ | refine LocSub.same ?_ | refine LocSub.drop ?_))) ((subD hncD (hG nc)).trans ((subD (upE hnunc.symm hnuD) (hG nu)).trans (subD (upE hmpnu.symm (upE hmpnc.symm hmpD)) (hG mp))))
          clear hul hml hus hcs' us ms a12 a15 a16 hncd hnca hncD hnud hnua hnunc hnuD hmpd hmpa hmpnu hmpnc hmpD
          refine WSs_cons (WS_AssignT (gLoc ok hF rfl rfl (WA_attr (gLoc ok hF rfl rfl (setF ok W eI eD (hG d) (Nat.le_trans g3 (by decide)) fun f2 p2 => ?_)))))
          have k2 : f2.length ≤ 10 := Nat.le_trans p2.len (Nat.succ_le_succ g3)
          refine WSs_cons (WS_AssignT (WE_List (WEs_nil ⟨by decide, fun u hu => WA_attr (gLoc ok hF rfl rfl (setF2 ok W eI (hG d) (Nat.le_trans k2 (by decide)) fun f3 p3 => ?_))⟩)))
          have k3 : f3.length ≤ 11 := Nat.le_trans p3.len (Nat.succ_le_succ k2)
          refine WSs_cons (WS_AssignT (WE_none (WA_attr (gLoc ok hF rfl rfl (setF2 ok W eI (hG d) (Nat.le_trans k3 (by decide)) fun f4 p4 => ?_)))))
          refine WSs_pre (loc' := []) (H' := { H with D := up H.D d f4 }) (WSs_nil (q f4 ?_)) (fun i X h => by simp at h) (subL (frD hu).2.l)
          exact ⟨p4.old (p3.old (p2.old g1.1)), p4.old (p3.old (p2.old g1.2.1)), p4.old (p3.old (p2.old g1.2.2.1)), p4.old (p3.old (p2.old g1.2.2.2))⟩

theorem pr_call (ok : Ok F (n + 3)) (W : Wd (K P) F.c.base) {al : Addr} {num : Int} {nm : Str} {PV prec fn fi li : V} {syms : List Str} {Q : V → Loc → Hp → Prop}
    (hG : ∀ a, H.G a = none) (eA : H.D al = some []) (eP : asL H PV = some (syms.map .str)) (hz : syms.length ≤ 100) (hl : ∀ s ∈ syms, s.length ≤ 1000)
    (q : ∀ fs, PrF fs num nm syms prec → Q (.inst 68 fs) loc H) : Call F (.ref 68) [.int num, .str nm, PV, prec, fn, fi, li, .ref al] loc H Q := by
  refine Call_frz (Call_clsK ok W 51 fun A' x d ok' hx hd hlt => ?_)
  have hne : al ≠ d := hd.neD eA
  refine pr_init (F := { F with A := A' }) ok' W (up_self _ _ _) (up_self _ _ _) hG (upe hne eA) hne eP hz hl fun fs hfs => ⟨rfl, _, _, Frz.inst (up_self _ _ _) (up_self _ _ _) (hG d), ?_⟩
  have e : ({ L := H.L, D := un (up (up H.D d []) d fs) d, P := H.P, S := H.S, I := un (up H.I x (68, d)) x, C := H.C, G := H.G } : Hp) = H := by
    rw [up_up, un_up hd.d, un_up hx.i]
  rw [e]
  exact q fs hfs
end Lay.W1
end
noncomputable section
open PySem PySem.W PyProof.Rows PySem.Calls
set_option Elab.async false
set_option maxRecDepth 100000
set_option linter.all false
set_option maxHeartbeats 4000000
namespace Lay.W1
variable {P : Params} {F : Fx} {n : Nat} {loc : Loc} {H H' : Hp}
noncomputable abbrev Gr (H : Hp) (g : GA) (t : GT) : Prop := GrOk 217 238 H g t
theorem getG (ok : Ok F n) (W : Wd (K P) F.c.base) {g : GA} {t : GT} {name : Str} {Y : V} {Q : V → Loc → Hp → Prop} (gr : Gr H g t) (hy : ∀ {fs}, Fld fs g t.start → dget fs name = some Y) (hr : notRaw Y = true) (q : Q Y loc H') (hI : H'.I = H.I := by rfl) (hD : H'.D = H.D := by rfl) (ho : getOk (K P) 217 name = true := by rfl) : GetA F name (.ref g.g) loc H' Q := by
  obtain ⟨fs, efs, fld⟩ := gr.fs
  exact getA ok W (by rw [hI]; exact gr.I) (by rw [hD]; exact efs) (hy fld) hr q ho
theorem getGM (ok : Ok F n) (W : Wd (K P) F.c.base) {g : GA} {t : GT} {f : Addr} {name : Str} {Q : V → List V → Loc → Hp → Prop} (gr : Gr H g t) (hn : name ∉ gnames) (q : Q (.ref f) [.ref g.g] loc H') (hI : H'.I = H.I := by rfl) (hD : H'.D = H.D := by rfl) (ho : metOk (K P) 217 name f = true := by rfl) : MGet F name (.ref g.g) loc H' Q := by
  obtain ⟨fs, efs, fld⟩ := gr.fs
  exact getM ok W (by rw [hI]; exact gr.I) (by rw [hD]; exact efs) (fld.no _ hn) q ho
structure Bgn (H H' : Hp) (x d nm nd : Addr) (f : List (Str × V)) (Ds : List (Addr × List (Str × V))) (Ls : List (Addr × List V)) (Ps : List (Addr × List (Str × List Str))) (Ss : List (Addr × ((Str → Bool) × Nat))) : Prop where
  I : H'.I x = some (217, d)
  N : H'.I nm = some (238, nd)
  dd : H'.D d = some f
  D : ∀ p ∈ Ds, H'.D p.1 = some p.2
  dn : (d :: Ds.map (·.1)).Nodup
  L : ∀ p ∈ Ls, H'.L p.1 = some p.2
  ln : (Ls.map (·.1)).Nodup
  P : ∀ p ∈ Ps, H'.P p.1 = some p.2
  S : ∀ p ∈ Ss, H'.S p.1 = some p.2
  G : ∀ a, H'.G a = none
  K : ∀ a xs, H.L a = some xs → H'.L a = some xs
  fr : ∀ p ∈ Ds, H.Fresh p.1
  ext : Ext (fun a => a = d) H H'
section
variable {x d nm nd a : Addr} {f f' k k' : List (Str × V)} {Ds : List (Addr × List (Str × V))} {Ls : List (Addr × List V)} {Ps : List (Addr × List (Str × List Str))} {Ss : List (Addr × ((Str → Bool) × Nat))} {xs : List V} {ps : List (Str × List Str)} {ss : (Str → Bool) × Nat}
theorem Bgn.setd (b : Bgn H H' x d nm nd f Ds Ls Ps Ss) : Bgn H { H' with D := up H'.D d f' } x d nm nd f' Ds Ls Ps Ss :=
  ⟨b.I, b.N, up_self _ _ _, fun p hp => upe (fun e => (List.nodup_cons.mp b.dn).1 (e ▸ List.mem_map.mpr ⟨p, hp, rfl⟩)) (b.D p hp), b.dn, b.L, b.ln, b.P, b.S, b.G, b.K, b.fr, b.ext.trans (extD (.inl rfl))⟩
theorem Bgn.newD (b : Bgn H H' x d nm nd f Ds Ls Ps Ss) (h : H'.Fresh a) : Bgn H { H' with D := up H'.D a k } x d nm nd f ((a, k) :: Ds) Ls Ps Ss := by
  have h1 : d ≠ a := h.neD b.dd
  have h2 : ∀ p ∈ Ds, p.1 ≠ a := fun p hp => h.neD (b.D p hp)
  have h3 := List.nodup_cons.mp b.dn
  refine ⟨b.I, b.N, upe h1 b.dd, fun p hp => ?_, ?_, b.L, b.ln, b.P, b.S, b.G, b.K, fun p hp => ?_, b.ext.trans (extD (.inr h))⟩
  · rcases List.mem_cons.mp hp with rfl | hp
    · exact up_self _ _ _
    · exact upe (h2 p hp) (b.D p hp)
  · show (d :: a :: Ds.map (·.1)).Nodup
    rw [List.nodup_cons, List.nodup_cons, List.mem_cons]
    refine ⟨fun z => z.elim h1 h3.1, fun z => ?_, h3.2⟩
    obtain ⟨p, hp, e⟩ := List.mem_map.mp z
    exact h2 p hp e
  · rcases List.mem_cons.mp hp with rfl | hp
    · exact b.ext.fresh h
    · exact b.fr p hp
theorem Bgn.put (b : Bgn H H' x d nm nd f ((a, k) :: Ds) Ls Ps Ss) : Bgn H { H' with D := up H'.D a k' } x d nm nd f ((a, k') :: Ds) Ls Ps Ss := by
  have h3 := List.nodup_cons.mp b.dn
  have h4 := List.nodup_cons.mp h3.2
  have h1 : d ≠ a := fun e => h3.1 (e ▸ .head _)
  have hf := b.fr _ (.head _)
  refine ⟨b.I, b.N, upe h1 b.dd, fun p hp => ?_, b.dn, b.L, b.ln, b.P, b.S, b.G, b.K, fun p hp => ?_, fun c o => ?_⟩
  · rcases List.mem_cons.mp hp with rfl | hp
    · exact up_self _ _ _
    · exact upe (fun e => h4.1 (e ▸ List.mem_map.mpr ⟨p, hp, rfl⟩)) (b.D p (.tail _ hp))
  · rcases List.mem_cons.mp hp with rfl | hp
    · exact hf
    · exact b.fr p (.tail _ hp)
  · have hne : c ≠ a := by rintro rfl; exact hf o
    obtain ⟨o1, s1⟩ := b.ext c o
    refine ⟨?_, fun z => ?_⟩
    · unfold Hp.Own at o1 ⊢; simpa only [up_ne hne] using o1
    · obtain ⟨e1, e2, e3⟩ := s1 z
      exact ⟨e1, (up_ne hne).trans e2, e3⟩
theorem Bgn.newL (b : Bgn H H' x d nm nd f Ds Ls Ps Ss) (h : H'.Fresh a) : Bgn H { H' with L := up H'.L a xs } x d nm nd f Ds (Ls ++ [(a, xs)]) Ps Ss := by
  have h2 : ∀ p ∈ Ls, p.1 ≠ a := fun p hp => h.neL (b.L p hp)
  refine ⟨b.I, b.N, b.dd, b.D, b.dn, fun p hp => ?_, ?_, b.P, b.S, b.G, fun c ys e => upe ((b.ext.fresh h).neL e) (b.K c ys e), b.fr, b.ext.trans (extL (.inr h))⟩
  · rcases List.mem_append.mp hp with hp | hp
    · exact upe (h2 p hp) (b.L p hp)
    · rw [List.mem_singleton.mp hp]; exact up_self _ _ _
  · rw [List.map_append, List.nodup_append]
    refine ⟨b.ln, List.pairwise_singleton _ _, fun c hc e he z => ?_⟩
    obtain ⟨p, hp, e1⟩ := List.mem_map.mp hc
    rw [List.map_singleton, List.mem_singleton] at he
    exact h2 p hp (e1.trans (z.trans he))
theorem Bgn.newP (b : Bgn H H' x d nm nd f Ds Ls Ps Ss) (h : H'.Fresh a) : Bgn H { H' with P := up H'.P a ps } x d nm nd f Ds Ls ((a, ps) :: Ps) Ss := by
  refine ⟨b.I, b.N, b.dd, b.D, b.dn, b.L, b.ln, fun p hp => ?_, b.S, b.G, b.K, b.fr, b.ext.trans (extP (.inr h))⟩
  rcases List.mem_cons.mp hp with rfl | hp
  · exact up_self _ _ _
  · exact upe (h.neP (b.P p hp)) (b.P p hp)
theorem Bgn.newS (b : Bgn H H' x d nm nd f Ds Ls Ps Ss) (h : H'.Fresh a) : Bgn H { H' with S := up H'.S a ss } x d nm nd f Ds Ls Ps ((a, ss) :: Ss) := by
  refine ⟨b.I, b.N, b.dd, b.D, b.dn, b.L, b.ln, b.P, fun p hp => ?_, b.G, b.K, b.fr, b.ext.trans (extS (.inr h))⟩
  rcases List.mem_cons.mp hp with rfl | hp
  · exact up_self _ _ _
  · exact upe (h.neS (b.S p hp)) (b.S p hp)
theorem Bgn.go {M : Loc → Hp → Prop} (b : Bgn H H' x d nm nd f Ds Ls Ps Ss) (h : ∀ H', Bgn H H' x d nm nd f Ds Ls Ps Ss → M loc H') : M loc H' := h _ b
end
noncomputable abbrev cel (t : Tab) : List (Addr × List V) := t.map fun e => (e.2.1, e.2.2)
theorem gr_begun {x d nm nd al pl pn pm ts nts fst fol pr us : Addr} {f nfs : List (Str × V)} {t : Tab}
    (b : Bgn H H' x d nm nd f [(pr, []), (fol, []), (fst, []), (nts, []), (ts, tof t), (pn, []), (al, []), (nd, nfs)] ((pl, [.none]) :: cel t) [(pm, [])] [(us, (fun _ => false, 0))])
    (hal : dget nfs "aliases" = some (.ref al)) (hn : (kys t).Nodup) (hf : Fld f ⟨x, d, nm, nd, al, pl, pn, pm, ts, nts, fst, fol, pr, us⟩ .none) :
    Gr H' ⟨x, d, nm, nd, al, pl, pn, pm, ts, nts, fst, fol, pr, us⟩ ⟨t, [], [], [.none], [], [], [], [], (fun _ => false, 0), .none⟩ := by
  have hD : ∀ a k, (a, k) ∈ [(pr, []), (fol, []), (fst, []), (nts, []), (ts, tof t), (pn, []), (al, []), (nd, nfs)] → H'.D a = some k := fun a k h => b.D (a, k) h
  refine ⟨b.I, ⟨f, b.dd, hf⟩, b.N, ⟨nfs, hD _ _ (by simp), hal⟩, hD _ _ (by simp), b.L (pl, _) (.head _), b.P (pm, _) (.head _), ⟨hD _ _ (by simp), fun e he => b.L (e.2.1, e.2.2) (.tail _ (List.mem_map.mpr ⟨e, he, rfl⟩))⟩, ⟨hD _ _ (by simp [tof]), fun e h => nomatch h⟩, ⟨hD _ _ (by simp [tof]), fun e h => nomatch h⟩, hD _ _ (by simp), hD _ _ (by simp), hD _ _ (by simp), b.S (us, _) (.head _), b.G, ?_, ?_, hn, .nil, .nil⟩
  · have := b.dn
    rw [List.nodup_cons] at this
    show (d :: [nd, al, pn, ts, nts, fst, fol, pr]).Nodup
    rw [List.nodup_cons]
    refine ⟨fun z => this.1 ?_, ((List.reverse_perm [nd, al, pn, ts, nts, fst, fol, pr]).nodup_iff).mp this.2⟩
    rw [← List.mem_reverse] at z
    exact z
  · have := b.ln
    show (pl :: (adr t ++ ([] ++ []))).Nodup
    rw [List.append_nil, List.append_nil]
    rw [List.map_cons, List.map_map] at this
    exact this
theorem tcon_nil : ∀ (t : Tab), (∀ e ∈ t, e.2.2 = []) → tcon t = (kys t).map fun k => (k, []) := by
  intro t ht
  unfold tcon kys
  rw [List.map_map]
  exact List.map_congr_left fun e he => by simp only [Function.comp]; rw [ht e he]
theorem cel_snoc {t : Tab} {k : Str} {a : Addr} {pl : Addr} : (pl, [V.none]) :: cel (t ++ [(k, a, [])]) = ((pl, [V.none]) :: cel t) ++ [(a, [])] := by simp [cel]
theorem tof_snoc {t : Tab} {k : Str} {a : Addr} (h : k ∉ kys t) : dput (tof t) k (.ref a) = tof (t ++ [(k, a, [])]) := by
  rw [dput_new (by rw [dget_tof, tget_none.mpr h]; rfl)]; simp [tof]
inductive Gi1 (H : Hp) (x : Addr) (d : Addr) (TV : V) (ns : List Str) (nm : Addr) (nd : Addr) (al : Addr) (nfs : List (Str × V)) (pl : Addr) (pn : Addr) (pm : Addr) (ts : Addr) (f5 : List (Str × V)) (i : Nat) (l : Loc) (H' : Hp) : Prop
  | mk (t : Tab) (a3 : Option V) (_ : kys t = ns.take i) (_ : (∀ e ∈ t, e.2.2 = [])) (_ : Bgn H H' x d nm nd f5 [(ts, tof t), (pn, []), (al, []), (nd, nfs)] ((pl, [V.none]) :: cel t) [(pm, [])] []) (_ : l = [some (.ref x), some TV, some .none, a3, none, none]) : Gi1 H x d TV ns nm nd al nfs pl pn pm ts f5 i l H'
theorem gr_init (ok : Ok F (n + 3)) (W : Wd (K P) F.c.base) {x d : Addr} {TV : V} {ns : List Str} {Q : V → Loc → Hp → Prop} (eI : H.I x = some (217, d)) (eD : H.D d = some []) (hG : ∀ a, H.G a = none) (eT : asL H TV = some (ns.map .str)) (hn : ns.Nodup) (herr : Str.ofString "error" ∉ ns) (hz : ns.length ≤ 100)
    (q : ∀ g t H', g.g = x → g.d = d → Gr H' g t → tcon t.tT = (ns ++ [Str.ofString "error"]).map (fun k => (k, [])) → t.tN = [] → t.tR = [] → t.ps = [.none] → t.pm = [] → t.fst = [] → t.fol = [] → t.pr = [] → t.ups = (fun _ => false, 0) → t.start = .none → Ext (fun a => a = d) H H' → Q .none loc H') :
    CCall F 106 [.ref x, TV] [] [] loc H Q := by
  refine defP ok W ["self", "terminals", "names"] (Vs := [.ref x, TV, .none]) rfl rfl rfl rfl rfl rfl ?_ rfl ?_
  · intro vs ws B r1 r2 le
    apply r2.e0
    apply r1.e2
    intro _ _ a b
    exact ⟨[_, _, .none], Looks.of_peek W.k rfl, .cons a (.cons b (.cons .none .nil))⟩
  · intro F' ok tp W hF
    refine WSs_cons (WS_AssignT (WE_IfExp (WB_Compare (gLoc ok hF rfl rfl (WE_none (Cmp_isNone rfl rfl ⟨fun _ => ?_, fun h => by cases h⟩))))))
    refine WE_CallN (gGlob ok W hF rfl rfl (.ref 238) (WEs_nil ⟨keepK ok W, Call_clsK ok W 235 fun A' nm nd ok' hnm hnd hlt => ?_⟩))
    have hne : nd ≠ nm := fun e => by rw [e] at hlt; exact absurd hlt (Nat.lt_irrefl _)
    refine rn_init (F := { F' with A := A' }) ok' W (up_self _ _ _) (hG nd) fun al nfs haln hal hal3 => ⟨rfl, ?_⟩
    have b : Bgn H ⟨H.L, up (up H.D al []) nd nfs, H.P, H.S, up H.I nm (238, nd), H.C, H.G⟩ x d nm nd [] [(al, []), (nd, nfs)] [] [] [] := by
      have hf := (frI hal).2
      have h1 : d ≠ nd := hnd.neD eD
      have h2 : d ≠ al := hf.neD eD
      refine ⟨upe (hnm.neI eI) eI, up_self _ _ _, upe h1 (upe h2 eD), fun p hp => ?_, by simp [h1, h2, haln], fun p hp => (by cases hp), List.nodup_nil, fun p hp => (by cases hp), fun p hp => (by cases hp), hG, fun _ _ e => e, fun p hp => ?_, ((extI (.inr hnm)).trans (extD (.inr hal))).trans (extD (.inr (fun o => ?_)))⟩
      · rcases List.mem_cons.mp hp with rfl | hp
        · exact upe haln (up_self _ _ _)
        · rw [List.mem_singleton.mp hp]; exact up_self _ _ _
      · rcases List.mem_cons.mp hp with rfl | hp
        · exact hf
        · rw [List.mem_singleton.mp hp]; exact hnd
      · refine hnd ?_
        unfold Hp.Own at o ⊢
        simpa only [up_ne haln.symm, up_ne hne] using o
    refine WA_attr (gLoc ok hF rfl rfl ?_)
    refine b.go (M := fun l H => SetA F' _ (.ref x) (.ref nm) l H _) fun H1 b => ?_
    clear hal haln hnm hnd hne hlt
    refine setF ok W b.I b.dd (b.G d) (by decide) fun f1 p1 => ?_
    refine b.setd.go (M := fun l H => WSs F' _ l H _) fun H1 b => ?_
    have l1 : f1.length ≤ 1 := p1.len
    refine WSs_cons (WS_AssignT (WE_List (WEs_cons (WE_none (WEs_nil ⟨by simp, fun pl hpl => WA_attr (gLoc ok hF rfl rfl (setF ok W b.I b.dd (b.G d) (Nat.le_trans l1 (by decide)) fun f2 p2 => (b.newL hpl).setd.go (M := fun l H => WSs F' _ l H _) fun H1 b => ?_))⟩)))))
    have l2 : f2.length ≤ 2 := Nat.le_trans p2.len (Nat.succ_le_succ l1)
    refine WSs_cons (WS_AssignT (WE_Dict0 fun pn hpn => WA_attr (gLoc ok hF rfl rfl (setF ok W b.I (b.newD hpn).dd (b.G d) (Nat.le_trans l2 (by decide)) fun f3 p3 => (b.newD hpn).setd.go (M := fun l H => WSs F' _ l H _) fun H1 b => ?_))))
    have l3 : f3.length ≤ 3 := Nat.le_trans p3.len (Nat.succ_le_succ l2)
    refine WSs_cons (WS_AssignT (WE_Dict0P fun pm hpm => WA_attr (gLoc ok hF rfl rfl (setF ok W b.I b.dd (b.G d) (Nat.le_trans l3 (by decide)) fun f4 p4 => (b.newP hpm).setd.go (M := fun l H => WSs F' _ l H _) fun H1 b => ?_))))
    have l4 : f4.length ≤ 4 := Nat.le_trans p4.len (Nat.succ_le_succ l3)
    refine WSs_cons (WS_AssignT (WE_Dict0 fun ts hts => WA_attr (gLoc ok hF rfl rfl (setF ok W b.I (b.newD hts).dd (b.G d) (Nat.le_trans l4 (by decide)) fun f5 p5 => (b.newD hts).setd.go (M := fun l H => WSs F' _ l H _) fun H1 b => ?_))))
    have l5 : f5.length ≤ 5 := Nat.le_trans p5.len (Nat.succ_le_succ l4)
    have h5 := p5.here
    have fld : dget f5 "names" = some (.ref nm) ∧ dget f5 "Productions" = some (.ref pl) ∧ dget f5 "Prodnames" = some (.ref pn) ∧ dget f5 "Prodmap" = some (.ref pm) ∧ ∀ k, k ∉ gnames → dget f5 k = none := by
      refine ⟨p5.old (p4.old (p3.old (p2.old p1.here))), p5.old (p4.old (p3.old p2.here)), p5.old (p4.old p3.here), p5.old p4.here, fun k hk => ?_⟩
      have hk' : k ≠ "names" ∧ k ≠ "Productions" ∧ k ≠ "Prodnames" ∧ k ≠ "Prodmap" ∧ k ≠ "Terminals" ∧ k ≠ "Nonterminals" ∧ k ≠ "First" ∧ k ≠ "Follow" ∧ k ≠ "Precedence" ∧ k ≠ "UsedPrecedence" ∧ k ≠ "Start" := by
        simpa [gnames] using hk
      obtain ⟨k1, k2, k3, k4, k5, _⟩ := hk'
      rw [p5.there k k5, p4.there k k4, p3.there k k3, p2.there k k2, p1.there k k1]; rfl
    clear p1 p2 p3 p4 p5 l1 l2 l3 l4 hpl hpn hpm hts
    -- the tokens
    refine WSs_cons (WS_For (WIt_list (gLoc ok hF rfl rfl ⟨_, asL_mono eT b.K, ?_⟩)))
    refine ForOnV (fun i => lstSt_mono i) (ns.map V.str).length (Gi1 H x d TV ns nm nd al nfs pl pn pm ts f5) ⟨[], none, by simp [kys], (fun e h => nomatch h), b, rfl⟩ ?_ ?_
    · clear b
      rintro i Q1 b1 l H' hi ⟨t, a3, hk, he, b, rfl⟩
      have hi' : i < ns.length := by simpa using hi
      have hkn : ns[i] ∉ kys t := by
        rw [hk]
        intro hm
        obtain ⟨j, hj, e⟩ := List.mem_take_iff_getElem.mp hm
        exact (List.pairwise_iff_getElem.mp hn) j i (by omega) hi' (by omega) e
      have htk : ns.take (i + 1) = ns.take i ++ [ns[i]] := take_snoc hi'
      have hlen : (tof t).length ≤ 100 := by
        have : (tof t).length = (ns.take i).length := by rw [← hk]; simp [tof, kys]
        rw [this, List.length_take]; omega
      have hx : (ns.map V.str)[i]? = some (.str ns[i]) := by simp [hi']
      generalize ns[i] = s at hkn htk hx
      refine ⟨.str s, Nxt_list (asL_mono eT b.K) hx, tLoc ok.inl hF rfl ?_⟩
      refine WSs_cons (WS_AssignT (WE_List (WEs_nil ⟨by simp, fun a ha => WA_sub (WE_Attr (gLoc ok.inl hF rfl rfl (getA ok.inl W b.I b.dd h5 rfl (gLoc ok.inl hF rfl rfl (Set_dict (b.D (ts, tof t) (.head _)) (b.G ts) (show (tof t).length ≤ 100000 by omega) (WSs_nil (b1.n ⟨t ++ [(s, a, [])], _, ?_, ?_, ?_, rfl⟩)))))))⟩)))
      · rw [htk, ← hk]; simp [kys]
      · intro e he'
        rcases List.mem_append.mp he' with h | h
        · exact he e h
        · rw [List.mem_singleton.mp h]
      · rw [cel_snoc, ← tof_snoc hkn]
        exact (b.newL ha).put
    · clear b
      rintro l H' ⟨t, a3, hk, he, b, rfl⟩
      refine ⟨Nxt_list_end (ok.handled (Nat.succ_ne_zero _)) (asL_mono eT b.K) (Nat.le_refl _), WSs_nil ?_⟩
      have hk : kys t = ns := by rw [hk, List.length_map, List.take_length]
      have hlen : (tof t).length ≤ 100 := by
        have : (tof t).length = ns.length := by rw [← hk]; simp [tof, kys]
        omega
      have hkn : Str.ofString "error" ∉ kys t := by rw [hk]; exact herr
      refine WSs_cons (WS_AssignT (WE_List (WEs_nil ⟨by simp, fun a ha => WA_sub (WE_Attr (gLoc ok hF rfl rfl (getA ok W b.I b.dd h5 rfl (WE_str (Set_dict (b.D (ts, tof t) (.head _)) (b.G ts) (show (tof t).length ≤ 100000 by omega) ?_)))))⟩)))
      rw [tof_snoc hkn]
      have b2 := (b.newL (xs := []) ha).put (k' := tof (t ++ [(Str.ofString "error", a, [])]))
      rw [← cel_snoc (k := Str.ofString "error")] at b2
      have hc : tcon (t ++ [(Str.ofString "error", a, [])]) = (ns ++ [Str.ofString "error"]).map fun k => (k, []) := by
        rw [tcon_nil, show kys (t ++ [(Str.ofString "error", a, [])]) = ns ++ [Str.ofString "error"] by rw [← hk]; simp [kys]]
        intro e he'
        rcases List.mem_append.mp he' with h | h
        · exact he e h
        · rw [List.mem_singleton.mp h]
      have hkk : (kys (t ++ [(Str.ofString "error", a, [])])).Nodup := by
        rw [show kys (t ++ [(Str.ofString "error", a, [])]) = ns ++ [Str.ofString "error"] by rw [← hk]; simp [kys], List.nodup_append]
        refine ⟨hn, by simp, ?_⟩
        intro b hb c hc
        simp at hc; subst hc
        exact fun e => herr (e ▸ hb)
      generalize t ++ [(Str.ofString "error", a, [])] = t at b2 hc hkk
      refine b2.go (M := fun l H => WSs F' _ l H _) fun H1 b => ?_
      clear hk he hlen hkn b2 ha
      refine WSs_cons (WS_AssignT (WE_Dict0 fun nts hnts => WA_attr (gLoc ok hF rfl rfl (setF ok W b.I (b.newD hnts).dd (b.G d) (Nat.le_trans l5 (by decide)) fun f6 p6 => (b.newD hnts).setd.go (M := fun l H => WSs F' _ l H _) fun H1 b => ?_))))
      have l6 : f6.length ≤ 6 := Nat.le_trans p6.len (Nat.succ_le_succ l5)
      refine WSs_cons (WS_AssignT (WE_Dict0 fun fst hfst => WA_attr (gLoc ok hF rfl rfl (setF ok W b.I (b.newD hfst).dd (b.G d) (Nat.le_trans l6 (by decide)) fun f7 p7 => (b.newD hfst).setd.go (M := fun l H => WSs F' _ l H _) fun H1 b => ?_))))
      have l7 : f7.length ≤ 7 := Nat.le_trans p7.len (Nat.succ_le_succ l6)
      refine WSs_cons (WS_AssignT (WE_Dict0 fun fol hfol => WA_attr (gLoc ok hF rfl rfl (setF ok W b.I (b.newD hfol).dd (b.G d) (Nat.le_trans l7 (by decide)) fun f8 p8 => (b.newD hfol).setd.go (M := fun l H => WSs F' _ l H _) fun H1 b => ?_))))
      have l8 : f8.length ≤ 8 := Nat.le_trans p8.len (Nat.succ_le_succ l7)
      refine WSs_cons (WS_AssignT (WE_Dict0 fun pr hpr => WA_attr (gLoc ok hF rfl rfl (setF ok W b.I (b.newD hpr).dd (b.G d) (Nat.le_trans l8 (by decide)) fun f9 p9 => (b.newD hpr).setd.go (M := fun l H => WSs F' _ l H _) fun H1 b => ?_))))
      have l9 : f9.length ≤ 9 := Nat.le_trans p9.len (Nat.succ_le_succ l8)
      refine WSs_cons (WS_AssignT (WE_CallN (gBi ok W hF rfl rfl (by boot_by_name) (by decide) (WEs_nil ⟨keepB ok, Call_set0 fun us hus => WA_attr (gLoc ok hF rfl rfl (setF ok W b.I b.dd (b.G d) (Nat.le_trans l9 (by decide)) fun f10 p10 => (b.newS hus).setd.go (M := fun l H => WSs F' _ l H _) fun H1 b => ?_))⟩))))
      have l10 : f10.length ≤ 10 := Nat.le_trans p10.len (Nat.succ_le_succ l9)
      refine WSs_cons (WS_AssignT (WE_none (WA_attr (gLoc ok hF rfl rfl (setF ok W b.I b.dd (b.G d) (Nat.le_trans l10 (by decide)) fun f11 p11 => b.setd.go (M := fun l H => WSs F' _ l H _) fun H1 b => ?_)))))
      have l11 : f11.length ≤ 11 := Nat.le_trans p11.len (Nat.succ_le_succ l10)
      obtain ⟨e1, e2, e3, e4, e5⟩ := fld
      refine WSs_nil (q ⟨x, d, nm, nd, al, pl, pn, pm, ts, nts, fst, fol, pr, us⟩ ⟨t, [], [], [.none], [], [], [], [], (fun _ => false, 0), .none⟩ _ rfl rfl (gr_begun b hal3 hkk ?_) hc rfl rfl rfl rfl rfl rfl rfl rfl rfl b.ext)
      have o6 : ∀ {k : Str} {Y : Option V}, dget f5 k = Y → k ≠ "Nonterminals" → k ≠ "First" → k ≠ "Follow" → k ≠ "Precedence" → k ≠ "UsedPrecedence" → k ≠ "Start" → dget f11 k = Y := fun e k1 k2 k3 k4 k5 k6 => (p11.there _ k6).trans ((p10.there _ k5).trans ((p9.there _ k4).trans ((p8.there _ k3).trans ((p7.there _ k2).trans ((p6.there _ k1).trans e)))))
      refine ⟨by omega, o6 e1 (by decide) (by decide) (by decide) (by decide) (by decide) (by decide), o6 e2 (by decide) (by decide) (by decide) (by decide) (by decide) (by decide), o6 e3 (by decide) (by decide) (by decide) (by decide) (by decide) (by decide), o6 e4 (by decide) (by decide) (by decide) (by decide) (by decide) (by decide), o6 h5 (by decide) (by decide) (by decide) (by decide) (by decide) (by decide), p11.old (p10.old (p9.old (p8.old (p7.old p6.here)))), p11.old (p10.old (p9.old (p8.old p7.here))), p11.old (p10.old (p9.old p8.here)), p11.old (p10.old p9.here), p11.old p10.here, p11.here, fun k hk => ?_⟩
      have hk' : k ≠ "names" ∧ k ≠ "Productions" ∧ k ≠ "Prodnames" ∧ k ≠ "Prodmap" ∧ k ≠ "Terminals" ∧ k ≠ "Nonterminals" ∧ k ≠ "First" ∧ k ≠ "Follow" ∧ k ≠ "Precedence" ∧ k ≠ "UsedPrecedence" ∧ k ≠ "Start" := by
        simpa [gnames] using hk
      obtain ⟨k1, k2, k3, k4, k5, k6, k7, k8, k9, k10, k11⟩ := hk'
      exact o6 (e5 k hk) k6 k7 k8 k9 k10 k11
end Lay.W1
end
noncomputable section
open PySem PySem.W PyProof.Rows PySem.Calls
set_option Elab.async false
set_option maxRecDepth 100000
set_option linter.all false
set_option maxHeartbeats 4000000
namespace Lay.W1
variable {P : Params} {F : Fx} {n : Nat} {loc : Loc} {H : Hp}
noncomputable def rm (p : Str → Bool) (l : List Str) : Option Str := l.reverse.find? p
theorem rm_take {p : Str → Bool} {l : List Str} {j : Nat} (h : j < l.length) : rm p (l.take (j + 1)) = if p l[j] then some l[j] else rm p (l.take j) := by
  unfold rm
  rw [List.take_add_one, List.getElem?_eq_getElem h]
  simp only [Option.toList_some, List.reverse_append, List.reverse_cons, List.reverse_nil, List.nil_append, List.singleton_append, List.find?_cons]
  split <;> simp_all
noncomputable def orNone : Option Str → V
  | none => .none
  | some s => .str s
theorem rt_call (ok : Ok F (n + 1)) (W : Wd (K P) F.c.base) {SV : V} {ts : Addr} {kvs : List (Str × V)} {syms : List Str} {Q : V → Loc → Hp → Prop} (eS : asL H SV = some (syms.map .str)) (eT : H.D ts = some kvs) (hz : syms.length ≤ 1000)
    (q : Q (orNone (rm (fun s => (dget kvs s).isSome) syms)) loc H) : Call F (.ref 79) [SV, .ref ts] loc H Q := by
  refine Call_of (defP ok W ["symbols", "terminals"] (Vs := [SV, .ref ts]) rfl rfl rfl rfl rfl rfl ?_ rfl ?_)
  · intro vs ws B r1 r2 le
    apply r2.e0
    apply r1.e2
    intro _ _ a b
    exact ⟨[_, _], Looks.of_peek W.k rfl, .cons a (.cons b .nil)⟩
  · intro F' ok tp W hF
    have hz' : (syms.map V.str).length ≤ 1000000 := by rw [List.length_map]; omega
    refine WSs_cons (sAsg ok hF rfl (WE_BinOp (WE_CallN (gBi ok W hF rfl rfl (by boot_by_name) (by decide) (WEs_cons (gLoc ok hF rfl rfl (WEs_nil ⟨keepB ok, Call_len eS hz' (WE_int (Op_sub ?_))⟩)))))))
    rw [List.length_map]
    refine WSs_cons (WS_While (fun k l H' => k ≤ syms.length ∧ rm (fun s => (dget kvs s).isSome) syms = rm (fun s => (dget kvs s).isSome) (syms.take k) ∧ l = [some SV, some (.ref ts), some (.int ((k : Int) - 1)), none] ∧ H' = H) syms.length ⟨Nat.le_refl _, by rw [List.take_length], rfl, rfl⟩ ?_)
    rintro k l H' ⟨hk, hr, rfl, rfl⟩
    refine WB_Compare (gLoc ok.inl hF rfl rfl (WE_int (Cmp_ge ⟨fun h => ?_, fun h => ?_⟩)))
    · have h0 : 1 ≤ k := by have := of_decide_eq_true h; omega
      obtain ⟨j, rfl⟩ : ∃ j, k = j + 1 := ⟨k - 1, by omega⟩
      have hj : j < syms.length := by omega
      have hx : (syms.map V.str)[(((j + 1 : Nat) : Int) - 1).toNat]? = some (.str syms[j]) := by
        have : (((j + 1 : Nat) : Int) - 1).toNat = j := by omega
        rw [this]; simp [hj]
      have m0 : (0 : Int) ≤ ((j + 1 : Nat) : Int) - 1 := by omega
      have m1 : ((j + 1 : Nat) : Int) - 1 < 1000000 := by omega
      refine WSs_cons (WS_If (WB_Compare (WE_Subscript (gLoc ok.inl hF rfl rfl (gLoc ok.inl hF rfl rfl (Sub_list eS m0 m1 hx (gLoc ok.inl hF rfl rfl (Cmp_inD eT ⟨fun hp => ?_, fun hp => ?_⟩))))))))
      · refine WSs_cons (WS_Return (WE_Subscript (gLoc ok.inl hF rfl rfl (gLoc ok.inl hF rfl rfl (Sub_list eS m0 m1 hx ?_)))))
        rw [hr, rm_take hj, if_pos hp] at q
        exact q
      · refine WSs_nil (WSs_cons (sAug ok.inl hF rfl rfl (WE_int (Op_isub (WSs_nil ⟨j, Nat.lt_succ_self _, by omega, ?_, ?_, rfl⟩)))))
        · rw [hr, rm_take hj, if_neg (by rw [hp]; decide)]
        · have : ((j + 1 : Nat) : Int) - 1 - 1 = (j : Int) - 1 := by omega
          rw [this]; rfl
    · have h0 : k = 0 := by have := of_decide_eq_false h; omega
      subst h0
      refine WSs_nil (WSs_cons (WS_Return (WE_none ?_)))
      rw [hr] at q
      exact q
end Lay.W1
end
noncomputable section
open PySem PySem.W PyProof.Rows PySem.Calls
set_option Elab.async false
set_option maxRecDepth 100000
set_option linter.all false
set_option maxHeartbeats 8000000
namespace Lay.W1
variable {P : Params} {F : Fx} {n : Nat} {loc : Loc} {H : Hp}
noncomputable def Plain (s : Str) : Prop := s.length ≤ 1000 ∧ ∃ c, (seqIndex? 0 s.length).bind (s.cps[·]?) = some c ∧ PyData.strOk ⟨#[c]⟩ = true ∧ (Builtin.Str.occurrences (Str.ofString "'\"") ⟨#[c]⟩ 0 (Str.ofString "'\"").length 1).isEmpty = true
noncomputable def precOf (pr : List (Str × V)) (r : Option Str) : V := match r with
  | none => .tup [.str "right", .int 0]
  | some k => (dget pr k).getD (.tup [.str "right", .int 0])
structure ApOk (t : GT) (h : Str) (syms : List Str) : Prop where
  hT : h ∉ kys t.tT
  he : h ≠ "error"
  sg : ∀ s ∈ syms, Plain s
  np : Str.ofString "%prec" ∉ syms
  nd : (h, syms) ∉ t.pm
  sz : syms.length ≤ 20
  szt : Sz 1000 t

noncomputable def AL (x : Addr) (h : Str) (S : List V) (a6 a7 a9 a10 a11 a12 a13 a14 : Option V) : Loc := [some (.ref x), some (.str h), some (.list S), some .none, some (.str (Str.ofString "")), some (.int 0), a6, a7, none, a9, a10, a11, a12, a13, a14, none, none, none, none, none, none, none]
inductive Ap1 (H : Hp) (g : GA) (h : Str) (syms : List Str) (i : Nat) (l : Loc) (H' : Hp) : Prop
  | mk (a6 : Option V) (a7 : Option V) (_ : l = AL g.g h (syms.map .str) a6 a7 none none none none none none) (_ : H = H') : Ap1 H g h syms i l H'
inductive Ap2 (H : Hp) (g : GA) (h : Str) (syms : List Str) (pv : V) (l : Loc) (H' : Hp) : Prop
  | mk (a6 : Option V) (a7 : Option V) (a9 : Option V) (_ : H = H') (_ : l = AL g.g h (syms.map .str) a6 a7 a9 (some pv) none none none none) : Ap2 H g h syms pv l H'
inductive Ap3 (H : Hp) (g : GA) (t : GT) (h : Str) (syms : List Str) (pv : V) (a6 : Option V) (a7 : Option V) (a9 : Option V) (l : Loc) (H' : Hp) : Prop
  | mk (t1 : GT) (_ : ApSt 217 238 H g t 1001 (tcon t.tT, addKey (tcon t.tN) h) H' t1) (_ : l = AL g.g h (syms.map .str) a6 a7 a9 (some pv) (some (pairV (h, syms))) (some (.int t.ps.length)) none none) : Ap3 H g t h syms pv a6 a7 a9 l H'
inductive Ap4 (H : Hp) (g : GA) (t : GT) (h : Str) (syms : List Str) (pv : V) (a6 : Option V) (a7 : Option V) (a9 : Option V) (i : Nat) (l : Loc) (H' : Hp) : Prop
  | mk (t1 : GT) (a13 : Option V) (_ : ApSt 217 238 H g t (1001 + 2 * i) (useAll (.int t.ps.length) (tcon t.tT, addKey (tcon t.tN) h) (syms.take i)) H' t1) (_ : l = AL g.g h (syms.map .str) a6 a7 a9 (some pv) (some (pairV (h, syms))) (some (.int t.ps.length)) a13 none) : Ap4 H g t h syms pv a6 a7 a9 i l H'
inductive Ap5 (H : Hp) (g : GA) (t : GT) (h : Str) (syms : List Str) (pv : V) (a6 : Option V) (a7 : Option V) (a9 : Option V) (i : Nat) (hi' : i < syms.length) (T : List (Str × List V)) (N : List (Str × List V)) (l : Loc) (H' : Hp) : Prop
  | mk (t2 : GT) (_ : ApSt 217 238 H g t (1001 + 2 * i + 1) (T, addKey N syms[i]) H' t2) (_ : l = AL g.g h (syms.map .str) a6 a7 a9 (some pv) (some (pairV (h, syms))) (some (.int t.ps.length)) (some (.str syms[i])) none) : Ap5 H g t h syms pv a6 a7 a9 i hi' T N l H'
theorem ap_call (ok : Ok F (n + 5)) (W : Wd (K P) F.c.base) {g : GA} {t : GT} {h : Str} {syms : List Str} {Q : V → Loc → Hp → Prop} (gr : Gr H g t) (ho : ApOk t h syms)
    (q : ∀ t' H' fs, Gr H' g t' → Ext (foot g t) H H' → Grown H g t t' → Keeps2 t t' → PrF fs (t.ps.length : Nat) h syms (precOf t.pr (rm (fun s => (dget (tof t.tT) s).isSome) syms)) → t'.ps = t.ps ++ [.inst 68 fs] → t'.pm = t.pm ++ [(h, syms)] →
      (tcon t'.tT, tcon t'.tN) = useAll (.int (t.ps.length : Nat)) (tcon t.tT, addKey (tcon t.tN) h) syms → tcon t'.tR = addUse (addKey (tcon t.tR) h) h (.inst 68 fs) → Q .none loc H') :
    CCall F 135 [.ref g.g, .str h, .list (syms.map .str)] [] [] loc H Q := by
  refine defP ok W ["self", "prodname", "syms", "func", "file", "line"] (Vs := [.ref g.g, .str h, .list (syms.map .str), .none, .str (Str.ofString ""), .int 0]) rfl rfl rfl rfl rfl rfl ?_ rfl ?_
  · intro vs ws B r1 r2 le
    apply r2.e0
    apply r1.e3
    intro _ _ _ a b c
    exact ⟨[_, _, _, _, _, _], Looks.of_peek W.k rfl, .cons a (.cons b (.cons c (.cons .none (.cons (.str _ _ (ofString_ok _)) (.cons (.int _ _) .nil)))))⟩
  · intro F' ok tp W hF
    have hz' : (syms.map V.str).length ≤ 1000000 := len_map_le ho.sz
    have eT : dget (tof t.tT) h = none := by rw [dget_tof, tget_none.mpr ho.hT]; rfl
    refine WSs_cons (WS_If (WB_Compare (gLoc ok hF rfl rfl (WE_Attr (gLoc ok hF rfl rfl (getG ok W gr Fld.ts rfl (Cmp_inD gr.tT.dict ⟨fun h => absurd h (by rw [eT]; simp), fun _ => WSs_nil ?_⟩)))))))
    refine WSs_cons (WS_If (WB_Compare (gLoc ok hF rfl rfl (WE_str (Cmp_eqs ⟨fun h => absurd (of_decide_eq_true h) ho.he, fun _ => WSs_nil ?_⟩)))))
    refine WSs_cons (WS_For (WIt_enum (gBi ok W hF rfl rfl (by boot_by_name) (by decide) ⟨rfl, WEs_cons (gLoc ok hF rfl rfl (WEs_nil ⟨_, rfl, .inl ⟨_, rfl, ?_⟩⟩))⟩)))
    refine ForOnV (fun i => enlSt_mono i) (syms.map V.str).length (Ap1 H g h syms) ⟨none, none, rfl, rfl⟩ ?_ ?_
    · rintro i Q1 b1 l H' hi ⟨a6, a7, rfl, rfl⟩
      have hi' : i < syms.length := by simpa using hi
      obtain ⟨sl, c, c1, c2, c3⟩ := ho.sg syms[i] (List.getElem_mem _)
      refine ⟨.tup [.int i, .str syms[i]], Nxt_enl (xs := syms.map .str) ok rfl (by simp [hi']), WA_tuple ok.inl rfl (tLoc ok.inl hF rfl (tLoc ok.inl hF rfl ?_))⟩
      refine WSs_cons (WS_If (WB_BoolOp (WAll_and_cons (WB_Compare (WE_Subscript (gLoc ok.inl hF rfl rfl (WE_int (Sub_str (by decide) (by decide) c1 c2 (WE_str (Cmp_inStr ⟨fun hh => absurd hh (by rw [c3]; decide), fun _ => ?_⟩))))))))))
      exact ⟨fun h => absurd h (by decide), fun _ => WSs_nil (WSs_nil (b1.n ⟨_, _, rfl, rfl⟩))⟩
    · rintro l H' ⟨a6, a7, rfl, rfl⟩
      refine ⟨Nxt_enl_end (xs := syms.map .str) ok rfl rfl, WSs_nil ?_⟩
      have hp : inV (V.str (Str.ofString "%prec")) (syms.map .str) = false := by
        rw [inV_false]
        intro hm
        obtain ⟨s, hs, e⟩ := List.mem_map.mp hm
        injection e with e
        exact ho.np (e ▸ hs)
      generalize hpv : precOf t.pr (rm (fun s => (dget (tof t.tT) s).isSome) syms) = pv at q
      refine WSs_midV (Ap2 H g h syms pv) (fun Q2 b2 => WS_If (WB_Compare (WE_str (gLoc ok hF rfl rfl (Cmp_in ok (xs := syms.map .str) rfl rfl (by simp [V.isD]) ⟨fun h => absurd h (by rw [hp]; decide), fun _ => ?_⟩))))) ?_
      · refine WSs_cons (sAsg ok hF rfl (WE_CallN (gGlob ok W hF rfl rfl (.ref 79) (WEs_cons (gLoc ok hF rfl rfl (WEs_cons (WE_Attr (gLoc ok hF rfl rfl (getG ok W gr Fld.ts rfl (WEs_nil ⟨keepK ok W, ?_⟩))))))))))
        refine rt_call (n := n + 3) (syms := syms) ok W rfl gr.tT.dict (Nat.le_trans ho.sz (by decide)) ?_
        refine WSs_cons (sAsg ok hF rfl (WE_CallM (WE_Attr (gLoc ok hF rfl rfl (getG ok W gr Fld.pr rfl (MGet_dget gr.pr (WEs_cons (gLoc ok hF rfl rfl (WEs_cons (WE_Tuple (WEs_cons (WE_str (WEs_cons (WE_int (WEs_nil ⟨by simp, WEs_nil ⟨keepB ok, ?_⟩⟩)))))))))))))))
        generalize rm (fun s => (dget (tof t.tT) s).isSome) syms = r at hpv
        cases r with
        | none => exact Call_dget2_none gr.pr (WSs_nil (b2.n ⟨_, _, _, rfl, by rw [← hpv]; rfl⟩))
        | some k => exact Call_dget2 gr.pr (WSs_nil (b2.n ⟨_, _, _, rfl, by rw [← hpv]; rfl⟩))
      · rintro l H' ⟨a6, a7, a9, rfl, rfl⟩
        refine WSs_cons (sAsg ok hF rfl (WE_Tuple (WEs_cons (gLoc ok hF rfl rfl (WEs_cons (WE_CallN (gBi ok W hF rfl rfl (by boot_by_name) (by decide) (WEs_cons (gLoc ok hF rfl rfl (WEs_nil ⟨keepB ok, Call_tuple (xs := syms.map .str) rfl hz' (WEs_nil ⟨by simp, ?_⟩)⟩))))))))))
        refine WSs_cons (WS_If (WB_Compare (gLoc ok hF rfl rfl (WE_Attr (gLoc ok hF rfl rfl (getG ok W gr Fld.pm rfl (Cmp_inP (k := (h, syms)) ok gr.pm ⟨fun hh => absurd (of_decide_eq_true hh) ho.nd, fun _ => WSs_nil ?_⟩)))))))
        refine WSs_cons (sAsg ok hF rfl (WE_CallN (gBi ok W hF rfl rfl (by boot_by_name) (by decide) (WEs_cons (WE_Attr (gLoc ok hF rfl rfl (getG ok W gr Fld.prods rfl (WEs_nil ⟨keepB ok, Call_len gr.ps (Nat.le_trans ho.szt.ps (by decide)) ?_⟩))))))))
        -- the name of the rule
        have st0 : ApSt 217 238 H g t 1000 (tcon t.tT, tcon t.tN) H t := ⟨gr, Ext.refl H, Grown.refl H g t, ho.szt, rfl, rfl, rfl, ⟨rfl, rfl, rfl, rfl, rfl⟩, rfl⟩
        refine WSs_midV (Ap3 H g t h syms pv a6 a7 a9) (fun Q3 b3 => WS_If (WB_Compare (gLoc ok hF rfl rfl (WE_Attr (gLoc ok hF rfl rfl (getG ok W gr Fld.nts rfl (Cmp_notInD gr.tN.dict ⟨fun hh => ?_, fun hh => ?_⟩))))))) ?_
        · have hk : h ∉ kys t.tN := by
            intro hm
            obtain ⟨a, xs, e⟩ := tget_some hm
            rw [dget_tof, e] at hh; cases hh
          refine WSs_cons (WS_AssignT (WE_List (WEs_nil ⟨by simp, fun a ha => WA_sub (WE_Attr (gLoc ok hF rfl rfl (getG ok W gr Fld.nts rfl (gLoc ok hF rfl rfl (Set_dict gr.tN.dict (gr.gn _) (tof_len ho.szt.N) (WSs_nil ?_))))))⟩)))
          exact b3.n ⟨_, st0.keyN hk ha, rfl⟩
        · have hk : h ∈ kys t.tN := by
            apply Classical.byContradiction
            intro hm
            rw [dget_tof, tget_none.mpr hm] at hh; cases hh
          refine WSs_nil (b3.n ⟨t, ?_, rfl⟩)
          rw [addKey_old (by rw [tcon_keys]; exact hk)]
          exact st0.mono (by decide)
        rintro l H' ⟨t1, st1, rfl⟩
        -- the signs
        refine WSs_cons (WS_For (WIt_list (gLoc ok hF rfl rfl ⟨_, rfl, ?_⟩)))
        refine ForOnV (fun i => lstSt_mono i) (syms.map V.str).length (Ap4 H g t h syms pv a6 a7 a9) ⟨t1, none, st1, rfl⟩ ?_ ?_
        · rintro i Q4 b4 l H' hi ⟨t1, a13, st, rfl⟩
          have hi' : i < syms.length := by simpa using hi
          have hi2 : 1001 + 2 * i ≤ 1041 := Nat.add_le_add_left (Nat.mul_le_mul_left 2 (Nat.le_trans (Nat.le_of_lt hi') ho.sz)) 1001
          refine ⟨.str syms[i], Nxt_list (xs := syms.map .str) rfl (by simp [hi']), tLoc ok.inl hF rfl ?_⟩
          have hnext : syms.take (i + 1) = syms.take i ++ [syms[i]] := take_snoc hi'
          generalize hu : useAll (V.int t.ps.length) (tcon t.tT, addKey (tcon t.tN) h) (syms.take i) = u at st
          obtain ⟨T, N⟩ := u
          have hT := st.fldT syms[i]
          have hN := st.fldN syms[i]
          have inT : ∀ {d : List (Str × V)}, d = tof t1.tT → ((dget d syms[i]).isSome = true ↔ syms[i] ∈ kys t1.tT) := by
            rintro d rfl
            rw [dget_tof, Option.isSome_map]
            constructor
            · intro hh
              apply Classical.byContradiction
              intro hm
              rw [tget_none.mpr hm] at hh; cases hh
            · intro hk
              obtain ⟨a, xs, e⟩ := tget_some hk
              rw [e]; rfl
          refine WSs_cons (WS_If (WB_Compare (gLoc ok.inl hF rfl rfl (WE_Attr (gLoc ok.inl hF rfl rfl (getG ok.inl W st.gr Fld.ts rfl (Cmp_inD st.gr.tT.dict ⟨fun hh => ?_, fun hh => ?_⟩)))))))
          · have hk := (inT rfl).mp hh
            obtain ⟨a, xs, e⟩ := tget_some hk
            obtain ⟨e1, e2⟩ := st.gr.tT.at_ e
            refine WSs_cons (sExpr ok.inl (WE_CallM (WE_Subscript (WE_Attr (gLoc ok.inl hF rfl rfl (getG ok.inl W st.gr Fld.ts rfl (gLoc ok.inl hF rfl rfl (Sub_dict st.gr.tT.dict e1 (MGet_append e2 (WEs_cons (gLoc ok.inl hF rfl rfl (WEs_nil ⟨keepB ok.inl, Call_append e2 (Nat.le_trans (st.sz.lT _ (tget_mem e)) (Nat.le_trans hi2 (by decide))) (WSs_nil (WSs_nil ?_))⟩))))))))))))
            refine b4.n ⟨{ t1 with tT := tset t1.tT a (xs ++ [V.int t.ps.length]) }, _, ?_, rfl⟩
            rw [hnext, useAll_snoc, hu, show useAll (V.int t.ps.length) (T, N) [syms[i]] = (addUse T syms[i] (V.int t.ps.length), N) from if_pos (hT.mpr hk)]
            exact (st.useT e).mono (Nat.le_succ _)
          · have hk : syms[i] ∉ kys t1.tT := fun hm => by rw [(inT rfl).mpr hm] at hh; cases hh
            have hstep : useAll (V.int t.ps.length) (T, N) [syms[i]] = (T, addUse (addKey N syms[i]) syms[i] (V.int t.ps.length)) := if_neg (fun hm => hk (hT.mp hm))
            refine WSs_midV (Ap5 H g t h syms pv a6 a7 a9 i hi' T N) (fun Q5 b5 => WS_If (WB_Compare (gLoc ok.inl hF rfl rfl (WE_Attr (gLoc ok.inl hF rfl rfl (getG ok.inl W st.gr Fld.nts rfl (Cmp_notInD st.gr.tN.dict ⟨fun hh => ?_, fun hh => ?_⟩))))))) ?_
            · have hkn : syms[i] ∉ kys t1.tN := by
                intro hm
                obtain ⟨a, xs, e⟩ := tget_some hm
                rw [dget_tof, e] at hh; cases hh
              refine WSs_cons (WS_AssignT (WE_List (WEs_nil ⟨by simp, fun a ha => WA_sub (WE_Attr (gLoc ok.inl hF rfl rfl (getG ok.inl W st.gr Fld.nts rfl (gLoc ok.inl hF rfl rfl (Set_dict st.gr.tN.dict (st.gr.gn _) (tof_len (Nat.le_trans st.sz.N hi2)) (WSs_nil ?_))))))⟩)))
              exact b5.n ⟨_, st.keyN hkn ha, rfl⟩
            · have hkn : syms[i] ∈ kys t1.tN := by
                apply Classical.byContradiction
                intro hm
                rw [dget_tof, tget_none.mpr hm] at hh; cases hh
              refine WSs_nil (b5.n ⟨t1, ?_, rfl⟩)
              rw [addKey_old (hN.mpr hkn)]
              exact st.mono (Nat.le_succ _)
            rintro l H' ⟨t2, st2, rfl⟩
            have hk2 : syms[i] ∈ kys t2.tN := by
              rw [← st2.fldN syms[i]]
              unfold addKey
              split
              · assumption
              · simp
            obtain ⟨a, xs, e⟩ := tget_some hk2
            obtain ⟨e1, e2⟩ := st2.gr.tN.at_ e
            refine WSs_cons (sExpr ok.inl (WE_CallM (WE_Subscript (WE_Attr (gLoc ok.inl hF rfl rfl (getG ok.inl W st2.gr Fld.nts rfl (gLoc ok.inl hF rfl rfl (Sub_dict st2.gr.tN.dict e1 (MGet_append e2 (WEs_cons (gLoc ok.inl hF rfl rfl (WEs_nil ⟨keepB ok.inl, Call_append e2 (Nat.le_trans (st2.sz.lN _ (tget_mem e)) (Nat.le_trans (Nat.succ_le_succ hi2) (by decide))) (WSs_nil (WSs_nil ?_))⟩))))))))))))
            refine b4.n ⟨{ t2 with tN := tset t2.tN a (xs ++ [V.int t.ps.length]) }, _, ?_, rfl⟩
            rw [hnext, useAll_snoc, hu, hstep]
            exact (st2.useN e).mono (Nat.le_refl _)
        · rintro l H' ⟨t1, a13, st, rfl⟩
          have hi2 : 1001 + 2 * syms.length ≤ 1041 := Nat.add_le_add_left (Nat.mul_le_mul_left 2 ho.sz) 1001
          rw [List.length_map, List.take_length] at st
          refine ⟨Nxt_list_end (xs := syms.map .str) (ok.handled (Nat.succ_ne_zero _)) rfl (Nat.le_refl _), WSs_nil ?_⟩
          obtain ⟨ns, ens, nfld⟩ := st.gr.nD
          generalize hu : useAll (V.int t.ps.length) (tcon t.tT, addKey (tcon t.tN) h) syms = u at st
          obtain ⟨T, N⟩ := u
          refine WSs_cons (sAsg ok hF rfl (WE_CallN (gGlob ok W hF rfl rfl (.ref 68) (WEs_cons (gLoc ok hF rfl rfl (WEs_cons (gLoc ok hF rfl rfl (WEs_cons (gLoc ok hF rfl rfl (WEs_cons (gLoc ok hF rfl rfl (WEs_cons (gLoc ok hF rfl rfl (WEs_cons (gLoc ok hF rfl rfl (WEs_cons (gLoc ok hF rfl rfl (WEs_cons (WE_Attr (WE_Attr (gLoc ok hF rfl rfl (getG ok W st.gr Fld.names rfl (getA ok W st.gr.nI ens nfld rfl (WEs_nil ⟨keepK ok W, ?_⟩))))))))))))))))))))))))
          refine pr_call (n := n + 1) (syms := syms) ok W st.gr.gn st.gr.al rfl (Nat.le_trans ho.sz (by decide)) (fun s hs => (ho.sg s hs).1) fun pf hpf => ?_
          refine WSs_cons (sExpr ok (WE_CallM (WE_Attr (gLoc ok hF rfl rfl (getG ok W st.gr Fld.prods rfl (MGet_append st.gr.ps (WEs_cons (gLoc ok hF rfl rfl (WEs_nil ⟨keepB ok, Call_append st.gr.ps (Nat.le_trans st.sz.ps (Nat.le_trans hi2 (by decide))) ?_⟩)))))))))
          have g2 := st.gr.setL (a := g.prods) (t1.ps ++ [V.inst 68 pf])
          rw [setL_ps st.gr] at g2
          have x2 := st.extL (List.mem_cons_self ..) (t1.ps ++ [V.inst 68 pf])
          have w2 : Grown H g t { t1 with ps := t1.ps ++ [V.inst 68 pf] } := st.grown.lists rfl
          have hnd : (h, syms) ∉ t1.pm := by rw [st.pm]; exact ho.nd
          refine WSs_cons (WS_AssignT (gLoc ok hF rfl rfl (WA_sub (WE_Attr (gLoc ok hF rfl rfl (getG ok W g2 Fld.pm rfl (gLoc ok hF rfl rfl (Set_P (k := (h, syms)) ok g2.pm (g2.gn _) hnd (Nat.le_trans (show t1.pm.length ≤ _ from st.sz.pm) (Nat.le_trans hi2 (by decide))) ?_))))))))
          have g3 := g2.setP (t1.pm ++ [(h, syms)])
          have x3 : Ext (foot g t) H { L := up H'.L g.prods (t1.ps ++ [V.inst 68 pf]), D := H'.D, P := up H'.P g.pm (t1.pm ++ [(h, syms)]), S := H'.S, I := H'.I, C := H'.C, G := H'.G } := x2.of_foot (t' := t) (extP (.inl (.inr (.inr (.inl rfl))))) (Grown.refl _ _ _)
          have w3 : Grown H g t { t1 with ps := t1.ps ++ [V.inst 68 pf], pm := t1.pm ++ [(h, syms)] } := st.grown.lists rfl
          have k3 : Keeps2 t { t1 with ps := t1.ps ++ [V.inst 68 pf], pm := t1.pm ++ [(h, syms)] } := ⟨st.keeps.fst, st.keeps.fol, st.keeps.pr, st.keeps.ups, st.keeps.start⟩
          have hT3 : (tcon t1.tT, tcon t1.tN) = (T, N) := st.uses
          generalize hH3 : ({ L := up H'.L g.prods (t1.ps ++ [V.inst 68 pf]), D := H'.D, P := up H'.P g.pm (t1.pm ++ [(h, syms)]), S := H'.S, I := H'.I, C := H'.C, G := H'.G } : Hp) = H3 at g3 x3
          refine WSs_cons (WS_Try (tv := .type "KeyError") ok tp (fun l H' => l = AL g.g h (syms.map .str) a6 a7 a9 (some pv) (some (pairV (h, syms))) (some (.int t.ps.length)) a13 (some (.inst 68 pf)) ∧ H3 = H' ∧ h ∉ kys t.tR) hm_KeyError (fun e E l H ok' => gBi ok' W hF rfl rfl (by boot_by_name) (by decide) ⟨rfl, rfl, fun B v r => by cases r; rfl⟩) ?_ ?_)
          · intro lo E okb tpb acc
            cases htg : tget t1.tR h with
            | some p =>
              obtain ⟨a, xs⟩ := p
              obtain ⟨e1, e2⟩ := g3.tR.at_ htg
              refine WSs_cons (sExpr okb (WE_CallM (WE_Subscript (WE_Attr (gLoc okb hF rfl rfl (getG okb W g3 Fld.pn rfl (gLoc okb hF rfl rfl (Sub_dict g3.tR.dict e1 (MGet_append e2 (WEs_cons (gLoc okb hF rfl rfl (WEs_nil ⟨keepB okb, Call_append e2 (Nat.le_trans (st.sz.lR _ (tget_mem htg)) (Nat.le_trans hi2 (by decide))) (WSs_nil (WSs_nil ?_))⟩))))))))))))
              have ha : a ∈ adr t1.tR := List.mem_map.mpr ⟨_, tget_mem htg, rfl⟩
              have g4 := g3.setL (a := a) (xs ++ [V.inst 68 pf])
              rw [setL_R g3 ha] at g4
              refine q _ _ pf g4 (x3.of_foot (Lay.extL (.inl (foot_L (mem_lists_R ha)))) w3) (w3.lists (by simp [GT.lists, adr_tset])) ⟨k3.fst, k3.fol, k3.pr, k3.ups, k3.start⟩ hpf (by show t1.ps ++ _ = _; rw [st.ps]) (by show t1.pm ++ _ = _; rw [st.pm]) (by rw [hu]; exact hT3) ?_
              show tcon (tset t1.tR a (xs ++ [V.inst 68 pf])) = _
              rw [tcon_use st.gr.kR st.gr.apart.2.2.2.2.2.1 htg, st.R, addKey_old]
              rw [tcon_keys, ← st.R]
              apply Classical.byContradiction
              intro hm
              rw [tget_none.mpr hm] at htg; cases htg
            | none =>
              have hk : h ∉ kys t1.tR := tget_none.mp htg
              refine WSs_cons (sExpr okb (WE_CallM (WE_Subscript (WE_Attr (gLoc okb hF rfl rfl (getG okb W g3 Fld.pn rfl (gLoc okb hF rfl rfl (Sub_dict_miss (okb.handled (Nat.succ_ne_zero _)) g3.tR.dict (by rw [dget_tof, htg]; rfl) fun B s e r => acc.raised r ⟨rfl, rfl, by rw [← st.R]; exact hk⟩))))))))
          · rintro e E l H4 okh ⟨rfl, rfl, hk⟩
            have hk1 : h ∉ kys t1.tR := by rw [st.R]; exact hk
            refine WSs_cons (WS_AssignT (WE_List (WEs_cons (gLoc okh hF rfl rfl (WEs_nil ⟨by simp, fun a ha => WA_sub (WE_Attr (gLoc okh hF rfl rfl (getG okh W g3 Fld.pn rfl (gLoc okh hF rfl rfl (Set_dict g3.tR.dict (g3.gn _) (tof_len (Nat.le_trans st.sz.R hi2)) (WSs_nil (WSs_nil ?_)))))))⟩)))))
            have g4 := g3.newR (xs := [V.inst 68 pf]) hk1 ha
            refine q _ _ pf g4 (x3.of_foot ((Lay.extL (.inr ha)).trans (extD (.inl (foot_D (by simp [GA.dicts]))))) w3) (w3.newR (x3.fresh ha)) ⟨k3.fst, k3.fol, k3.pr, k3.ups, k3.start⟩ hpf (by show t1.ps ++ _ = _; rw [st.ps]) (by show t1.pm ++ _ = _; rw [st.pm]) (by rw [hu]; exact hT3) ?_
            show tcon (t1.tR ++ [(h, a, [V.inst 68 pf])]) = _
            rw [st.R]
            unfold addKey
            rw [if_neg (by rw [tcon_keys]; exact hk)]
            have : addUse (tcon t.tR) h (V.inst 68 pf) = tcon t.tR := by
              unfold addUse
              conv => rhs; rw [← List.map_id (tcon t.tR)]
              refine List.map_congr_left fun p hp => ?_
              rw [if_neg (fun e => hk (by rw [← tcon_keys, ← e]; exact List.mem_map.mpr ⟨p, hp, rfl⟩))]; rfl
            have e1 : addUse (tcon t.tR ++ [(h, [])]) h (V.inst 68 pf) = addUse (tcon t.tR) h (V.inst 68 pf) ++ [(h, [V.inst 68 pf])] := by simp [addUse]
            rw [e1, this]
            simp [tcon]
end Lay.W1
end
noncomputable section
open PySem PySem.W PyProof.Rows PySem.Calls
set_option Elab.async false
set_option maxRecDepth 100000
set_option linter.all false
set_option maxHeartbeats 8000000
namespace Lay.W1
variable {P : Params} {F : Fx} {n : Nat} {loc : Loc} {H : Hp}
noncomputable abbrev eps : Str := "<empty>"
noncomputable def fsAdd (acc : List Str) : List Str → List Str
  | [] => acc
  | f :: r => if f = eps then fsAdd acc r else if f ∈ acc then fsAdd acc r else fsAdd (acc ++ [f]) r
noncomputable def fsRun (fi : Str → List Str) (acc : List Str) : List Str → List Str
  | [] => acc ++ [eps]
  | x :: r => if eps ∈ fi x then fsRun fi (fsAdd acc (fi x)) r else fsAdd acc (fi x)
theorem inV_str {f : Str} {xs : List Str} : inV (.str f) (xs.map .str) = decide (f ∈ xs) := by
  unfold inV
  congr 1
  refine propext ⟨fun h => ?_, fun h => List.mem_map.mpr ⟨f, h, rfl⟩⟩
  obtain ⟨s, hs, e⟩ := List.mem_map.mp h
  injection e with e
  exact e ▸ hs
theorem isD_strs {xs : List Str} : ∀ y ∈ xs.map V.str, y.isD 20 = true := fun y hy => by
  obtain ⟨s, _, rfl⟩ := List.mem_map.mp hy
  simp [V.isD]
theorem drop_at {α : Type} {l : List α} {i : Nat} (h : i < l.length) : l.drop i = l[i] :: l.drop (i + 1) := List.drop_eq_getElem_cons h
inductive Fi1 (H : Hp) (gg : Addr) (fi : Str → List Str) (syms : List Str) (a0 : Addr) (l : Loc) (H' : Hp) : Prop
  | mk (a3 : Option V) (a4 : Option V) (a5 : Option V) (_ : l = [some (.ref gg), some (.tup (syms.map .str)), some (.ref a0), a3, a4, a5]) (_ : { H with L := up H.L a0 ((fsRun fi [] syms).map .str) } = H') : Fi1 H gg fi syms a0 l H'
inductive Fi2 (H : Hp) (gg : Addr) (fi : Str → List Str) (syms : List Str) (a0 : Addr) (i : Nat) (l : Loc) (H' : Hp) : Prop
  | mk (acc : List Str) (a3 : Option V) (a4 : Option V) (a5 : Option V) (_ : fsRun fi [] syms = fsRun fi acc (syms.drop i)) (_ : acc.length ≤ 1000 * i) (_ : l = [some (.ref gg), some (.tup (syms.map .str)), some (.ref a0), a3, a4, a5]) (_ : { H with L := up H.L a0 (acc.map .str) } = H') : Fi2 H gg fi syms a0 i l H'
inductive Fi3 (H : Hp) (gg : Addr) (fi : Str → List Str) (syms : List Str) (a0 : Addr) (i : Nat) (acc : List Str) (x : Str) (l : Loc) (H' : Hp) : Prop
  | mk (a5 : Option V) (_ : l = [some (.ref gg), some (.tup (syms.map .str)), some (.ref a0), some (.str x), some (.bool (decide (eps ∈ fi x))), a5]) (_ : (fsAdd acc (fi x)).length ≤ 1000 * (i + 1)) (_ : { H with L := up H.L a0 ((fsAdd acc (fi x)).map .str) } = H') : Fi3 H gg fi syms a0 i acc x l H'
inductive Fi4 (H : Hp) (gg : Addr) (fi : Str → List Str) (syms : List Str) (a0 : Addr) (i : Nat) (acc : List Str) (x : Str) (j : Nat) (l : Loc) (H' : Hp) : Prop
  | mk (acc' : List Str) (a5 : Option V) (_ : fsAdd acc (fi x) = fsAdd acc' ((fi x).drop j)) (_ : acc'.length ≤ 1000 * i + j) (_ : l = [some (.ref gg), some (.tup (syms.map .str)), some (.ref a0), some (.str x), some (.bool (decide (eps ∈ (fi x).take j))), a5]) (_ : { H with L := up H.L a0 (acc'.map .str) } = H') : Fi4 H gg fi syms a0 i acc x j l H'
theorem fi_call (ok : Ok F (n + 2)) (W : Wd (K P) F.c.base) {gg d fa : Addr} {fs kvs : List (Str × V)} {fi : Str → List Str} {syms : List Str} {Q : V → Loc → Hp → Prop} (eI : H.I gg = some (217, d)) (eD : H.D d = some fs) (ef : dget fs "First" = some (.ref fa)) (eF : H.D fa = some kvs)
    (tb : ∀ x ∈ syms, ∃ a, dget kvs x = some (.ref a) ∧ H.L a = some ((fi x).map .str)) (hz : syms.length ≤ 20) (sz : ∀ x ∈ syms, (fi x).length ≤ 1000)
    (q : Q (.list ((fsRun fi [] syms).map .str)) loc H) : CCall F 192 [.ref gg, .tup (syms.map .str)] [] [] loc H Q := by
  refine defP ok W ["self", "beta"] (Vs := [.ref gg, .tup (syms.map .str)]) rfl rfl rfl rfl rfl rfl ?_ rfl ?_
  · intro vs ws B r1 r2 le
    apply r2.e0
    apply r1.e2
    intro _ _ a b
    exact ⟨[_, _], Looks.of_peek W.k rfl, .cons a (.cons b .nil)⟩
  · intro F' ok tp W hF
    refine WSs_cons (sAsg ok hF rfl (WE_List (WEs_nil ⟨by simp, fun a0 ha => ?_⟩)))
    have hget : ∀ (acc : List Str), asL { H with L := up H.L a0 (acc.map .str) } (.ref a0) = some (acc.map .str) := fun acc => up_self _ _ _
    have oth : ∀ {a xs}, H.L a = some xs → ∀ (acc : List V), up H.L a0 acc a = some xs := fun {a xs} h acc => upe (fun e => by rw [e, ha.l] at h; cases h) h
    refine WSs_midV (Fi1 H gg fi syms a0) (fun Q1 b1 => WS_For (WIt_tup (gLoc ok hF rfl rfl ⟨_, rfl, ?_⟩))) ?_
    · refine ForOnV (fun i => tupSt_mono i) (syms.map V.str).length (Fi2 H gg fi syms a0) ⟨[], none, none, none, rfl, Nat.zero_le _, rfl, rfl⟩ ?_ ?_
      · rintro i Q2 b2 l H' hi ⟨acc, a3, a4, a5, hr, hl, rfl, rfl⟩
        have hi' : i < syms.length := by simpa using hi
        obtain ⟨a, t1, t2⟩ := tb syms[i] (List.getElem_mem _)
        have s1 := sz syms[i] (List.getElem_mem _)
        rw [drop_at hi'] at hr
        generalize hx : syms[i] = x at *
        refine ⟨.str x, Nxt_tup (by simp [hi', hx]), tLoc ok.inl hF rfl ?_⟩
        refine WSs_cons (sAsg ok.inl hF rfl (WE_bool ?_))
        refine WSs_midV (Fi3 H gg fi syms a0 i acc x) (fun Q3 b3 => WS_For (WIt_list (WE_Subscript (WE_Attr (gLoc ok.inl hF rfl rfl (getA ok.inl W eI eD ef rfl (gLoc ok.inl hF rfl rfl (Sub_dict eF t1 ⟨_, oth t2 _, ?_⟩)))))))) ?_
        · refine ForOnV (fun i => lstSt_mono i) ((fi x).map V.str).length (Fi4 H gg fi syms a0 i acc x) ⟨acc, a5, rfl, by omega, by simp, rfl⟩ ?_ ?_
          · rintro j Q4 b4 l H' hj ⟨acc', a5, hr', hl', rfl, rfl⟩
            have hj' : j < (fi x).length := by simpa using hj
            rw [drop_at hj'] at hr'
            have htk : (fi x).take (j + 1) = (fi x).take j ++ [(fi x)[j]] := take_snoc hj'
            generalize hf : (fi x)[j] = f at *
            refine ⟨.str f, Nxt_list (oth t2 _) (by simp [hj', hf]), tLoc ok.inl.inl hF rfl ?_⟩
            refine WSs_cons (WS_If (WB_Compare (gLoc ok.inl.inl hF rfl rfl (WE_str (Cmp_eqs ⟨fun h => ?_, fun h => ?_⟩)))))
            · have h := of_decide_eq_true h
              refine WSs_cons (sAsg ok.inl.inl hF rfl (WE_bool (WSs_nil (WSs_nil (b4.n ⟨acc', some (.str f), ?_, by omega, ?_, rfl⟩)))))
              · rw [hr', fsAdd, if_pos h]
              · rw [htk, decide_eq_true (show eps ∈ (fi x).take j ++ [f] by rw [h]; simp)]; rfl
            · have h := of_decide_eq_false h
              have hb : decide (eps ∈ (fi x).take j) = decide (eps ∈ (fi x).take (j + 1)) := by
                rw [htk]; congr 1
                refine propext ⟨fun z => List.mem_append_left _ z, fun z => ?_⟩
                rcases List.mem_append.mp z with z | z
                · exact z
                · simp at z; exact absurd z.symm h
              refine WSs_cons (WS_If (WB_Compare (gLoc ok.inl.inl hF rfl rfl (gLoc ok.inl.inl hF rfl rfl (Cmp_notIn ok.inl.inl (hget acc') (by simp [V.isD]) isD_strs ⟨fun hh => ?_, fun hh => ?_⟩)))))
              · rw [inV_str] at hh
                have hn : f ∉ acc' := by simpa using hh
                refine WSs_cons (sExpr ok.inl.inl (WE_CallM (gLoc ok.inl.inl hF rfl rfl (MGet_append (hget acc') (WEs_cons (gLoc ok.inl.inl hF rfl rfl (WEs_nil ⟨keepB ok.inl.inl, Call_append (hget acc') (by rw [List.length_map]; omega) (WSs_nil (WSs_nil (WSs_nil (b4.n ⟨acc' ++ [f], some (.str f), ?_, ?_, ?_, ?_⟩))))⟩)))))))
                · rw [hr', fsAdd, if_neg h, if_neg hn]
                · simp; omega
                · rw [hb]; rfl
                · simp [up_up]
              · rw [inV_str] at hh
                have hn : f ∈ acc' := by simpa using hh
                refine WSs_nil (WSs_nil (WSs_nil (b4.n ⟨acc', some (.str f), ?_, by omega, ?_, rfl⟩)))
                · rw [hr', fsAdd, if_neg h, if_pos hn]
                · rw [hb]; rfl
          · rintro l H' ⟨acc', a5, hr', hl', rfl, rfl⟩
            rw [List.length_map] at hr' hl' ⊢
            rw [List.drop_length] at hr'
            refine ⟨Nxt_list_end (ok.inl.handled (Nat.succ_ne_zero _)) (oth t2 _) (by simp), WSs_nil (b3.n ⟨a5, ?_, ?_, ?_⟩)⟩
            · rw [List.take_length]
            · rw [hr', fsAdd]; omega
            · rw [hr', fsAdd]
        · rintro l H' ⟨a5, rfl, hl2, rfl⟩
          refine WSs_cons (WS_If (WB_plain (gLoc ok.inl hF rfl rfl (Tru_bool ⟨fun h => ?_, fun h => ?_⟩))))
          · have h := of_decide_eq_true h
            refine WSs_cons (WS_Pass (WSs_nil (WSs_nil (b2.n ⟨fsAdd acc (fi x), _, _, _, ?_, hl2, rfl, rfl⟩))))
            rw [hr, fsRun, if_pos h]
          · have h := of_decide_eq_false h
            refine WSs_cons (WS_Break (b2.b (b1.n ⟨_, _, _, rfl, ?_⟩)))
            rw [hr, fsRun, if_neg h]
      · rintro l H' ⟨acc, a3, a4, a5, hr, hl, rfl, rfl⟩
        rw [List.length_map] at hr hl
        rw [List.drop_length] at hr
        refine ⟨Nxt_tup_end (ok.handled (Nat.succ_ne_zero _)) (by simp), ?_⟩
        refine WSs_cons (sExpr ok.inl (WE_CallM (gLoc ok.inl hF rfl rfl (MGet_append (hget acc) (WEs_cons (WE_str (WEs_nil ⟨keepB ok.inl, Call_append (hget acc) (by rw [List.length_map]; omega) (WSs_nil (b1.n ⟨_, _, _, rfl, ?_⟩))⟩)))))))
        rw [hr, fsRun]
        simp [up_up]
    · rintro l H' ⟨a3, a4, a5, rfl, rfl⟩
      refine WSs_cons (WS_Return (WE_frz (gLoc ok hF rfl rfl ⟨_, _, Frz.list (up_self _ _ _), ?_⟩)))
      rw [un_up ha.l]
      exact q
end Lay.W1
end
noncomputable section
open PySem PySem.W PyProof.Rows PySem.Calls
set_option Elab.async false
set_option maxRecDepth 100000
set_option linter.all false
set_option maxHeartbeats 8000000
namespace Lay.W1
variable {P : Params} {F : Fx} {n : Nat} {loc : Loc} {H : Hp}
noncomputable def ProdV (v : V) (nm : Str) (syms : List Str) : Prop := ∃ pf num prec, v = V.inst 68 pf ∧ PrF pf num nm syms prec
noncomputable def bodies (rules : List (Str × List Str)) (n : Str) : List (List Str) := (rules.filter fun r => r.1 = n).map (·.2)
theorem mem_bodies {rules : List (Str × List Str)} {n : Str} {b : List Str} : b ∈ bodies rules n ↔ (n, b) ∈ rules := by
  unfold bodies
  simp only [List.mem_map, List.mem_filter, decide_eq_true_eq]
  constructor
  · rintro ⟨⟨x, y⟩, ⟨h, rfl⟩, rfl⟩; exact h
  · intro h; exact ⟨_, ⟨h, rfl⟩, rfl⟩
structure Gc (t : GT) (T N : List Str) (rules : List (Str × List Str)) : Prop where
  kT : kys t.tT = T
  kN : kys t.tN = N
  ps : ∃ vs, t.ps = .none :: vs ∧ vs.length = rules.length ∧ ∀ i (h : i < vs.length) (h' : i < rules.length), ProdV vs[i] rules[i].1 rules[i].2
  R : ∀ n ∈ N, ∃ a xs, tget t.tR n = some (a, xs) ∧ xs.length = (bodies rules n).length ∧ ∀ i (h : i < xs.length) (h' : i < (bodies rules n).length), ProdV xs[i] n (bodies rules n)[i]
  ln : ∀ r ∈ rules, r.2.length ≤ 20
  sg : ∀ r ∈ rules, ∀ s ∈ r.2, s ∈ T ∨ s ∈ N
  hd : ∀ r ∈ rules, r.1 ∈ N
  nT : T.Nodup
  nN : N.Nodup
  dis : ∀ s ∈ T, s ∉ N
  eT : Str.ofString "$end" ∉ T
  eN : Str.ofString "$end" ∉ N
  zT : T.length ≤ 50
  zN : N.length ≤ 50
  zR : rules.length ≤ 100
noncomputable abbrev fin : Str := "$end"
noncomputable def FCl (T : List Str) (rules : List (Str × List Str)) (φ : Str → Str → Prop) : Prop :=
  (∀ s ∈ T ++ [fin], φ s s) ∧ ∀ r ∈ rules, ∀ fi : Str → List Str, (∀ s ∈ r.2, ∀ f ∈ fi s, φ s f) → ∀ f ∈ fsRun fi [] r.2, φ r.1 f
structure Fm (T N : List Str) (rules : List (Str × List Str)) (fi : Str → List Str) : Prop where
  base : ∀ s ∈ T ++ [fin], fi s = [s]
  nd : ∀ s ∈ N, (fi s).Nodup
  least : ∀ φ, FCl T rules φ → ∀ s ∈ T ++ fin :: N, ∀ f ∈ fi s, φ s f
structure FirstIs (T N : List Str) (rules : List (Str × List Str)) (fi : Str → List Str) : Prop extends Fm T N rules fi where
  closed : ∀ r ∈ rules, ∀ f ∈ fsRun fi [] r.2, f ∈ fi r.1
theorem fsAdd_mem {f : Str} : ∀ {l acc : List Str}, f ∈ fsAdd acc l → f ∈ acc ∨ f ∈ l
  | [], acc, h => .inl h
  | x :: r, acc, h => by
    unfold fsAdd at h
    split at h
    · rcases fsAdd_mem h with h | h
      · exact .inl h
      · exact .inr (List.mem_cons_of_mem _ h)
    · split at h
      · rcases fsAdd_mem h with h | h
        · exact .inl h
        · exact .inr (List.mem_cons_of_mem _ h)
      · rcases fsAdd_mem h with h | h
        · rcases List.mem_append.mp h with h | h
          · exact .inl h
          · simp at h; subst h; exact .inr (List.mem_cons_self ..)
        · exact .inr (List.mem_cons_of_mem _ h)
theorem fsRun_mem {fi : Str → List Str} {f : Str} : ∀ {l acc : List Str}, f ∈ fsRun fi acc l → f ∈ acc ∨ f = eps ∨ ∃ s ∈ l, f ∈ fi s
  | [], acc, h => by
    rcases List.mem_append.mp h with h | h
    · exact .inl h
    · simp at h; exact .inr (.inl h)
  | x :: r, acc, h => by
    unfold fsRun at h
    split at h
    · rcases fsRun_mem h with h | h | ⟨s, hs, h⟩
      · rcases fsAdd_mem h with h | h
        · exact .inl h
        · exact .inr (.inr ⟨x, List.mem_cons_self .., h⟩)
      · exact .inr (.inl h)
      · exact .inr (.inr ⟨s, List.mem_cons_of_mem _ hs, h⟩)
    · rcases fsAdd_mem h with h | h
      · exact .inl h
      · exact .inr (.inr ⟨x, List.mem_cons_self .., h⟩)
theorem nodup_len : ∀ {l m : List Str}, l.Nodup → (∀ x ∈ l, x ∈ m) → l.length ≤ m.length
  | [], _, _, _ => Nat.zero_le _
  | x :: r, m, hn, h => by
    rw [List.nodup_cons] at hn
    have hx := h x (List.mem_cons_self ..)
    have ih := @nodup_len r (m.erase x) hn.2 fun y hy => by
      have hne : y ≠ x := fun e => hn.1 (e ▸ hy)
      exact (List.mem_erase_of_ne hne).mpr (h y (List.mem_cons_of_mem _ hy))
    rw [List.length_erase_of_mem hx] at ih
    have : 0 < m.length := List.length_pos_of_mem hx
    simp only [List.length_cons]; omega
noncomputable def sumN (N : List Str) (fi : Str → List Str) : Nat := (N.map fun n => (fi n).length).sum
theorem sumN_le {fi : Str → List Str} {c : Nat} : ∀ {N : List Str}, (∀ s ∈ N, (fi s).length ≤ c) → sumN N fi ≤ N.length * c
  | [], _ => Nat.zero_le _
  | x :: r, h => by
    have ih := @sumN_le fi c r fun s hs => h s (List.mem_cons_of_mem _ hs)
    have h0 := h x (List.mem_cons_self ..)
    have h3 : (x :: r).length * c = r.length * c + c := by rw [List.length_cons, Nat.add_mul, Nat.one_mul]
    unfold sumN at ih ⊢
    rw [List.map_cons, List.sum_cons]; omega
theorem sumN_mono {fi fi' : Str → List Str} : ∀ {N : List Str}, (∀ s, (fi s).length ≤ (fi' s).length) → sumN N fi ≤ sumN N fi'
  | [], _ => Nat.le_refl _
  | x :: r, h => by
    have ih := @sumN_mono fi fi' r h
    have h0 := h x
    unfold sumN at ih ⊢
    rw [List.map_cons, List.sum_cons, List.map_cons, List.sum_cons]; omega
theorem fput_le {fi : Str → List Str} {k f : Str} (s : Str) : (fi s).length ≤ (fput fi k (fi k ++ [f]) s).length := by
  by_cases h : s = k
  · subst h; rw [fput_self]; simp
  · rw [fput_ne h]; exact Nat.le_refl _
theorem sumN_grow {fi : Str → List Str} {k f : Str} : ∀ {N : List Str}, k ∈ N → sumN N fi < sumN N (fput fi k (fi k ++ [f]))
  | x :: r, h => by
    have h0 : (fi x).length ≤ _ := fput_le (fi := fi) (k := k) (f := f) x
    have h1 : sumN r fi ≤ sumN r (fput fi k (fi k ++ [f])) := sumN_mono fput_le
    by_cases e : x = k
    · subst e
      unfold sumN at h1 ⊢
      rw [List.map_cons, List.sum_cons, List.map_cons, List.sum_cons, fput_self]
      simp only [List.length_append, List.length_cons, List.length_nil]
      omega
    · have ih := @sumN_grow fi k f r ((List.mem_cons.mp h).resolve_left (Ne.symm e))
      unfold sumN at ih ⊢
      rw [List.map_cons, List.sum_cons, List.map_cons, List.sum_cons]
      omega
theorem FCl_univ {T : List Str} {rules : List (Str × List Str)} : FCl T rules fun _ f => f ∈ eps :: fin :: T := by
  refine ⟨fun s hs => ?_, fun r hr fi h f hf => ?_⟩
  · rcases List.mem_append.mp hs with hs | hs
    · exact List.mem_cons_of_mem _ (List.mem_cons_of_mem _ hs)
    · simp at hs; subst hs; simp
  · rcases fsRun_mem hf with hf | hf | ⟨s, hs, hf⟩
    · cases hf
    · subst hf; simp
    · exact h s hs f hf
variable {T N : List Str} {rules : List (Str × List Str)} {fi fi0 fo : Str → List Str} {t : GT} {g : GA} {H0 : Hp}
theorem Fm.len (h : Fm T N rules fi) (hT : T.length ≤ 50) {s : Str} (hs : s ∈ T ++ fin :: N) : (fi s).length ≤ 52 := by
  rcases List.mem_append.mp hs with h1 | h1
  · rw [h.base s (List.mem_append_left _ h1)]; simp
  · rcases List.mem_cons.mp h1 with h1 | h1
    · subst h1; rw [h.base _ (List.mem_append_right _ (List.mem_singleton.mpr rfl))]; simp
    · have := nodup_len (h.nd s h1) fun f hf => h.least _ FCl_univ s hs f hf
      simp only [List.length_cons] at this; omega
structure PS (N : List Str) (fi0 fi : Str → List Str) (b : Bool) (D : Prop) : Prop where
  f : b = false → fi = fi0 ∧ D
  t : b = true → sumN N fi0 < sumN N fi
  m : sumN N fi0 ≤ sumN N fi
theorem PS.weaken {b : Bool} {D D' : Prop} (h : PS N fi0 fi b D) (k : D → D') : PS N fi0 fi b D' := ⟨fun z => ⟨(h.f z).1, k (h.f z).2⟩, h.t, h.m⟩
theorem Fm.app (h : Fm T N rules fi) (gc : Gc t T N rules) {m f : Str} (hm : m ∈ N) (hf : f ∉ fi m) (hφ : ∀ φ, FCl T rules φ → φ m f) : Fm T N rules (fput fi m (fi m ++ [f])) := by
  have hmT : ∀ s ∈ T ++ [fin], s ≠ m := fun s hs e => by
    subst e
    rcases List.mem_append.mp hs with hs | hs
    · exact gc.dis s hs hm
    · simp at hs; subst hs; exact gc.eN hm
  refine ⟨fun s hs => by rw [fput_ne (hmT s hs)]; exact h.base s hs, fun s hs => ?_, fun φ hc s hs f' hf' => ?_⟩
  · by_cases e : s = m
    · subst e
      rw [fput_self, List.nodup_append]
      exact ⟨h.nd s hs, by simp, fun a ha b hb e => by simp at hb; subst hb; subst e; exact hf ha⟩
    · rw [fput_ne e]; exact h.nd s hs
  · by_cases e : s = m
    · subst e
      rw [fput_self] at hf'
      rcases List.mem_append.mp hf' with hf' | hf'
      · exact h.least φ hc s hs f' hf'
      · simp at hf'; subst hf'; exact hφ φ hc
    · rw [fput_ne e] at hf'; exact h.least φ hc s hs f' hf'
end Lay.W1
end
noncomputable section
open PySem PySem.W PyProof.Rows PySem.Calls
set_option Elab.async false
set_option maxRecDepth 100000
set_option linter.all false
set_option maxHeartbeats 8000000
namespace Lay.W1
variable {P : Params} {F : Fx} {n : Nat} {loc : Loc} {H : Hp}
variable {T N : List Str} {rules : List (Str × List Str)} {fi fi0 fo : Str → List Str} {t : GT} {g : GA} {H0 : Hp} {tF tW : Tab}
noncomputable abbrev Cx := Cs 217 238
theorem cf_done (ok : Ok F (n + 2)) (W : Wd (K P) F.c.base) (cs : Cx H0 g t H tF tW fi fo) (hne : tF ≠ []) (hz : tF.length ≤ 1000) {Q : V → Loc → Hp → Prop} (q : Q (.ref g.fst) loc H) : CCall F 199 [.ref g.g] [] [] loc H Q := by
  refine defP ok W ["self"] (Vs := [.ref g.g]) rfl rfl rfl rfl rfl rfl ?_ rfl ?_
  · intro vs ws B r1 r2 le
    apply r2.e0
    apply r1.e1
    intro _ a
    exact ⟨[_], Looks.of_peek W.k rfl, .cons a .nil⟩
  · intro F' ok tp W hF
    refine WSs_cons (WS_If (WB_plain (WE_Attr (gLoc ok hF rfl rfl (getG ok W cs.gr Fld.fst rfl (Tru_dict cs.gr.fst (tof_len' hz) ⟨fun h => ?_, fun h => ?_⟩))))))
    · exact WSs_cons (WS_Return (WE_Attr (gLoc ok hF rfl rfl (getG ok W cs.gr Fld.fst rfl q))))
    · exfalso
      cases tF with
      | nil => exact hne rfl
      | cons p r => simp [tof] at h
inductive Cf1 (T : List Str) (fo : Str → List Str) (t : GT) (g : GA) (H0 : Hp) (tW : Tab) (ep : Nat) (i : Nat) (l : Loc) (H' : Hp) : Prop
  | mk (H1 : Hp) (tF : Tab) (fi1 : Str → List Str) (a1 : Option V) (_ : l = [some (.ref g.g), a1, none, none, none, none]) (_ : Cx H0 g t H1 tF tW fi1 fo) (_ : kys tF = T.take i) (_ : (∀ s ∈ T.take i, fi1 s = [s])) (_ : { H1 with G := up H1.G g.ts ep } = H') : Cf1 T fo t g H0 tW ep i l H'
inductive Cf2 (T : List Str) (N : List Str) (fo : Str → List Str) (t : GT) (g : GA) (H0 : Hp) (tW : Tab) (a1 : Option V) (ep : Nat) (i : Nat) (l : Loc) (H' : Hp) : Prop
  | mk (H1 : Hp) (tF : Tab) (fi1 : Str → List Str) (a2 : Option V) (_ : l = [some (.ref g.g), a1, a2, none, none, none]) (_ : Cx H0 g t H1 tF tW fi1 fo) (_ : kys tF = T ++ fin :: N.take i) (_ : (∀ s ∈ T ++ [fin], fi1 s = [s])) (_ : (∀ s ∈ N.take i, fi1 s = [])) (_ : { H1 with G := up H1.G g.nts ep } = H') : Cf2 T N fo t g H0 tW a1 ep i l H'
inductive Cf3 (T : List Str) (N : List Str) (rules : List (Str × List Str)) (fo : Str → List Str) (t : GT) (g : GA) (H0 : Hp) (tW : Tab) (k : Nat) (l : Loc) (H' : Hp) : Prop
  | mk (tF : Tab) (fi1 : Str → List Str) (a1 : Option V) (a2 : Option V) (a3 : Option V) (a4 : Option V) (a5 : Option V) (_ : l = [some (.ref g.g), a1, a2, a3, a4, a5]) (_ : Cx H0 g t H' tF tW fi1 fo) (_ : kys tF = T ++ fin :: N) (_ : Fm T N rules fi1) (_ : k = N.length * 52 - sumN N fi1) : Cf3 T N rules fo t g H0 tW k l H'
inductive Cf4 (T : List Str) (N : List Str) (rules : List (Str × List Str)) (fo : Str → List Str) (t : GT) (g : GA) (H0 : Hp) (tW : Tab) (fi1 : Str → List Str) (ep : Nat) (i : Nat) (l : Loc) (H' : Hp) : Prop
  | mk (H2 : Hp) (tF : Tab) (fi2 : Str → List Str) (b : Bool) (a1 : Option V) (a2 : Option V) (a4 : Option V) (a5 : Option V) (_ : l = [some (.ref g.g), a1, a2, some (.bool b), a4, a5]) (_ : Cx H0 g t H2 tF tW fi2 fo) (_ : kys tF = T ++ fin :: N) (_ : Fm T N rules fi2) (_ : PS N fi1 fi2 b (∀ j (h : j < N.length), j < i → ∀ bd ∈ bodies rules N[j], ∀ f ∈ fsRun fi1 [] bd, f ∈ fi1 N[j])) (_ : { H2 with G := up H2.G g.nts ep } = H') : Cf4 T N rules fo t g H0 tW fi1 ep i l H'
inductive Cf5 (T : List Str) (N : List Str) (rules : List (Str × List Str)) (fo : Str → List Str) (t : GT) (g : GA) (H0 : Hp) (tW : Tab) (fi1 : Str → List Str) (ep : Nat) (D1 : Prop) (ni : Str) (j : Nat) (l : Loc) (H' : Hp) : Prop
  | mk (H2 : Hp) (tF : Tab) (fi2 : Str → List Str) (b : Bool) (a1 : Option V) (a4 : Option V) (a5 : Option V) (_ : l = [some (.ref g.g), a1, some (.str ni), some (.bool b), a4, a5]) (_ : Cx H0 g t H2 tF tW fi2 fo) (_ : kys tF = T ++ fin :: N) (_ : Fm T N rules fi2) (_ : PS N fi1 fi2 b (D1 ∧ ∀ j' (h : j' < (bodies rules ni).length), j' < j → ∀ f ∈ fsRun fi1 [] (bodies rules ni)[j'], f ∈ fi1 ni)) (_ : { H2 with G := up H2.G g.nts ep } = H') : Cf5 T N rules fo t g H0 tW fi1 ep D1 ni j l H'
inductive Cf6 (T : List Str) (N : List Str) (rules : List (Str × List Str)) (fo : Str → List Str) (t : GT) (g : GA) (H0 : Hp) (tW : Tab) (fi1 : Str → List Str) (ep : Nat) (D1 : Prop) (ni : Str) (pf : List (Str × V)) (D2 : Prop) (bd : List Str) (R : List Str) (q : Nat) (l : Loc) (H' : Hp) : Prop
  | mk (H4 : Hp) (tF : Tab) (fi4 : Str → List Str) (b : Bool) (a1 : Option V) (a5 : Option V) (_ : l = [some (.ref g.g), a1, some (.str ni), some (.bool b), some (.inst 68 pf), a5]) (_ : Cx H0 g t H4 tF tW fi4 fo) (_ : kys tF = T ++ fin :: N) (_ : Fm T N rules fi4) (_ : PS N fi1 fi4 b ((D1 ∧ D2) ∧ R = fsRun fi1 [] bd ∧ ∀ f ∈ R.take q, f ∈ fi1 ni)) (_ : { H4 with G := up H4.G g.nts ep } = H') : Cf6 T N rules fo t g H0 tW fi1 ep D1 ni pf D2 bd R q l H'
theorem cf_call (ok : Ok F (n + 3)) (W : Wd (K P) F.c.base) (cs : Cx H0 g t H [] tW fi fo) (gc : Gc t T N rules) {Q : V → Loc → Hp → Prop}
    (q : ∀ H' tF fi', Cx H0 g t H' tF tW fi' fo → kys tF = T ++ fin :: N → FirstIs T N rules fi' → Q (.ref g.fst) loc H') : CCall F 199 [.ref g.g] [] [] loc H Q := by
  have hzT := gc.zT
  have hzN := gc.zN
  refine defP ok W ["self"] (Vs := [.ref g.g]) rfl rfl rfl rfl rfl rfl ?_ rfl ?_
  · intro vs ws B r1 r2 le
    apply r2.e0
    apply r1.e1
    intro _ a
    exact ⟨[_], Looks.of_peek W.k rfl, .cons a .nil⟩
  · intro F' ok tp W hF
    refine WSs_cons (WS_If (WB_plain (WE_Attr (gLoc ok hF rfl rfl (getG ok W cs.gr Fld.fst rfl (Tru_dict cs.gr.fst (by simp [tof]) ⟨fun h => absurd h (by simp [tof]), fun _ => WSs_nil ?_⟩))))))
    -- the tokens
    refine WSs_cons (WS_For (WIt_keys (WE_Attr (gLoc ok hF rfl rfl (getG ok W cs.gr Fld.ts rfl ⟨_, _, rfl, cs.gr.tT.dict, fun ep => ?_⟩)))))
    have lenT : (tof t.tT).length = T.length := by rw [← gc.kT]; simp [tof, kys]
    refine ForOnV (fun i => keySt_mono i) (tof t.tT).length (Cf1 T fo t g H0 tW ep) ⟨H, [], fi, none, rfl, cs, rfl, by simp, rfl⟩ ?_ ?_
    · rintro i Q1 b1 l H' hi ⟨H1, tF, fi1, a1, rfl, cs1, kF, hb, rfl⟩
      have hi' : i < T.length := lenT ▸ hi
      have hx : (tof t.tT)[i]? = some (T[i], (tof t.tT)[i].2) := by
        rw [List.getElem?_eq_getElem hi]
        have : (tof t.tT)[i].1 = T[i] := by simp [tof, ← gc.kT, kys]
        rw [← this]
      refine ⟨.str T[i], Nxt_keys cs1.gr.tT.dict (up_self _ _ _) rfl hx, tLoc ok.inl hF rfl ?_⟩
      have hk : T[i] ∉ kys tF := by
        rw [kF]
        exact notin_take gc.nT hi'
      have hz1 : tF.length ≤ 50 := by
        rw [← kys_len, kF]; exact len_take_le hzT
      refine WSs_cons (WS_AssignT (WE_List (WEs_cons (gLoc ok.inl hF rfl rfl (WEs_nil ⟨by simp, fun a ha => WA_sub (WE_Attr (gLoc ok.inl hF rfl rfl (getG ok.inl W cs1.gr Fld.fst rfl (gLoc ok.inl hF rfl rfl (Set_dict cs1.gr.fst (upe cs1.gr.fst_ne.2.1 (cs1.gr.gn _)) (tof_len' hz1) (WSs_nil ?_))))))⟩)))))
      refine b1.n ⟨_, _, _, some (.str T[i]), rfl, cs1.putF (xs := [T[i]]) (k := T[i]) ha, ?_, ?_, rfl⟩
      · rw [kys_tput, if_neg hk, kF, List.take_add_one, List.getElem?_eq_getElem hi']; rfl
      · intro s hs
        by_cases e : s = T[i]
        · rw [e, fput_self]
        · rw [fput_ne e]
          rw [List.take_add_one, List.getElem?_eq_getElem hi'] at hs
          rcases List.mem_append.mp hs with hs | hs
          · exact hb s hs
          · simp at hs; exact absurd hs e
    · rintro l H' ⟨H1, tF, fi1, a1, rfl, cs1, kF, hb, rfl⟩
      refine ⟨Nxt_keys_end (ok.handled (Nat.succ_ne_zero _)) cs1.gr.tT.dict (up_self _ _ _) rfl (Nat.le_refl _), WSs_nil ?_⟩
      rw [lenT, List.take_length] at kF hb
      refine WSs_pre ?_ (LocSub.refl _) (subG (cs1.gr.gn _))
      have hz1 : tF.length ≤ 50 := by
        have : (kys tF).length = tF.length := by simp [kys]
        rw [← this, kF]; omega
      refine WSs_cons (WS_AssignT (WE_List (WEs_cons (WE_str (WEs_nil ⟨by simp, fun a ha => WA_sub (WE_Attr (gLoc ok hF rfl rfl (getG ok W cs1.gr Fld.fst rfl (WE_str (Set_dict cs1.gr.fst (cs1.gr.gn _) (tof_len' hz1) ?_)))))⟩)))))
      have cs2 := cs1.putF (xs := [fin]) (k := fin) ha
      have kF2 : kys (tput tF fin a ([fin].map .str)) = T ++ [fin] := by rw [kys_tput, if_neg (by rw [kF]; exact gc.eT), kF]
      have hb2 : ∀ s ∈ T ++ [fin], fput fi1 fin [fin] s = [s] := fun s hs => by
        by_cases e : s = fin
        · rw [e, fput_self]
        · rw [fput_ne e]
          rcases List.mem_append.mp hs with hs | hs
          · exact hb s hs
          · simp at hs; exact absurd hs e
      generalize hH2 : ({ L := up H1.L a ([fin].map .str), D := up H1.D g.fst (dput (tof tF) fin (.ref a)), P := H1.P, S := H1.S, I := H1.I, C := H1.C, G := H1.G } : Hp) = H2 at cs2
      generalize tput tF fin a ([fin].map .str) = tF2 at cs2 kF2
      generalize fput fi1 fin [fin] = fi2 at cs2 hb2
      refine WSs_pre (H' := H2) ?_ (LocSub.refl _) (by rw [← hH2]; exact Hp.Sub.refl _)
      -- the names
      refine WSs_cons (WS_For (WIt_keys (WE_Attr (gLoc ok hF rfl rfl (getG ok W cs2.gr Fld.nts rfl ⟨_, _, rfl, cs2.gr.tN.dict, fun ep => ?_⟩)))))
      have lenN : (tof t.tN).length = N.length := by rw [← gc.kN]; simp [tof, kys]
      have hN : ∀ i (hi : i < (tof t.tN).length), ∃ hi' : i < N.length, (tof t.tN)[i]? = some (N[i], (tof t.tN)[i].2) := fun i hi => by
        have hi' : i < N.length := lenN ▸ hi
        refine ⟨hi', ?_⟩
        rw [List.getElem?_eq_getElem hi]
        have : (tof t.tN)[i].1 = N[i] := by simp [tof, ← gc.kN, kys]
        rw [← this]
      refine ForOnV (fun i => keySt_mono i) (tof t.tN).length (Cf2 T N fo t g H0 tW a1 ep) ⟨H2, tF2, fi2, none, rfl, cs2, by simp [kF2], hb2, by simp, rfl⟩ ?_ ?_
      · rintro i Q2 b2 l H' hi ⟨H1, tF, fi1, a2, rfl, cs1, kF, hb, hb', rfl⟩
        obtain ⟨hi', hx⟩ := hN i hi
        have hm := List.getElem_mem hi'
        refine ⟨.str N[i], Nxt_keys cs1.gr.tN.dict (up_self _ _ _) rfl hx, tLoc ok.inl hF rfl ?_⟩
        have hk : N[i] ∉ kys tF := by
          rw [kF, List.mem_append, List.mem_cons]
          rintro (hm' | hm' | hm')
          · exact gc.dis _ hm' hm
          · exact gc.eN ((show N[i] = Str.ofString "$end" from hm') ▸ hm)
          · exact notin_take gc.nN hi' hm'
        have hz1 : tF.length ≤ 101 := by
          have : (kys tF).length = tF.length := by simp [kys]
          rw [← this, kF, List.length_append, List.length_cons, List.length_take]; omega
        refine WSs_cons (WS_AssignT (WE_List (WEs_nil ⟨by simp, fun a ha => WA_sub (WE_Attr (gLoc ok.inl hF rfl rfl (getG ok.inl W cs1.gr Fld.fst rfl (gLoc ok.inl hF rfl rfl (Set_dict cs1.gr.fst (upe cs1.gr.fst_ne.2.2.1 (cs1.gr.gn _)) (tof_len' hz1) (WSs_nil ?_))))))⟩)))
        refine b2.n ⟨_, _, _, some (.str N[i]), rfl, cs1.putF (xs := []) (k := N[i]) ha, ?_, ?_, ?_, rfl⟩
        · rw [kys_tput, if_neg hk, kF, List.take_add_one, List.getElem?_eq_getElem hi']; simp
        · intro s hs
          have e : s ≠ N[i] := by
            rintro rfl
            rcases List.mem_append.mp hs with hs | hs
            · exact gc.dis _ hs hm
            · simp at hs; exact gc.eN ((show N[i] = Str.ofString "$end" from hs) ▸ hm)
          rw [fput_ne e]; exact hb s hs
        · intro s hs
          by_cases e : s = N[i]
          · rw [e, fput_self]
          · rw [fput_ne e]
            rw [List.take_add_one, List.getElem?_eq_getElem hi'] at hs
            rcases List.mem_append.mp hs with hs | hs
            · exact hb' s hs
            · simp at hs; exact absurd hs e
      · rintro l H' ⟨H1, tF, fi1, a2, rfl, cs1, kF, hb, hb', rfl⟩
        refine ⟨Nxt_keys_end (ok.handled (Nat.succ_ne_zero _)) cs1.gr.tN.dict (up_self _ _ _) rfl (Nat.le_refl _), WSs_nil ?_⟩
        rw [lenN, List.take_length] at kF hb'
        refine WSs_pre ?_ (LocSub.refl _) (subG (cs1.gr.gn _))
        have fm1 : Fm T N rules fi1 := by
          refine ⟨hb, fun s hs => by rw [hb' s hs]; exact List.nodup_nil, fun φ hc s hs f hf => ?_⟩
          rcases List.mem_append.mp hs with h1 | h1
          · have h2 := List.mem_append_left [fin] h1
            rw [hb s h2] at hf; simp at hf; subst hf; exact hc.1 _ h2
          · rcases List.mem_cons.mp h1 with h1 | h1
            · have h2 : s ∈ T ++ [fin] := List.mem_append_right _ (List.mem_singleton.mpr h1)
              rw [hb s h2] at hf; simp at hf; subst hf; exact hc.1 _ h2
            · rw [hb' s h1] at hf; cases hf
        -- the passes
        refine WSs_cons (WS_WhileV (Cf3 T N rules fo t g H0 tW) (N.length * 52 - sumN N fi1) ⟨tF, fi1, _, _, _, _, _, rfl, cs1, kF, fm1, rfl⟩ ?_)
        rintro k Q3 b3 l H' ⟨tF, fi1, a1, a2, a3, a4, a5, rfl, cs1, kF, fm1, rfl⟩
        have ok1 := ok.inl
        have ok2 := ok1.inl
        have ok3 := ok2.inl
        have ok4 := ok3.inl
        refine WB_plain (WE_bool (Tru_bool ⟨fun _ => ?_, fun h => absurd h (by decide)⟩))
        refine WSs_cons (sAsg ok1 hF rfl (WE_bool ?_))
        refine WSs_cons (WS_For (WIt_keys (WE_Attr (gLoc ok1 hF rfl rfl (getG ok1 W cs1.gr Fld.nts rfl ⟨_, _, rfl, cs1.gr.tN.dict, fun ep => ?_⟩)))))
        refine ForOnV (fun i => keySt_mono i) (tof t.tN).length (Cf4 T N rules fo t g H0 tW fi1 ep) ⟨H', tF, fi1, false, a1, a2, a4, a5, rfl, cs1, kF, fm1, ⟨fun _ => ⟨rfl, fun j _ h => absurd h (Nat.not_lt_zero _)⟩, fun h => absurd h (by decide), Nat.le_refl _⟩, rfl⟩ ?_ ?_
        · rintro i Q4 b4 l H'' hi ⟨H2, tF, fi2, b, a1, a2, a4, a5, rfl, cs2, kF, fm2, ps, rfl⟩
          obtain ⟨hi', hx⟩ := hN i hi
          have hm := List.getElem_mem hi'
          generalize hD1 : (∀ j (h : j < N.length), j < i → ∀ bd ∈ bodies rules N[j], ∀ f ∈ fsRun fi1 [] bd, f ∈ fi1 N[j]) = D1 at ps
          generalize hni : N[i] = ni at hx hm
          refine ⟨.str ni, Nxt_keys cs2.gr.tN.dict (up_self _ _ _) rfl hx, tLoc ok2 hF rfl ?_⟩
          obtain ⟨ra, xs, hr1, hr2, hr3⟩ := gc.R ni hm
          obtain ⟨e1, e2⟩ := cs2.gr.tR.at_ hr1
          refine WSs_cons (WS_For (WIt_list (WE_Subscript (WE_Attr (gLoc ok2 hF rfl rfl (getG ok2 W cs2.gr Fld.pn rfl (gLoc ok2 hF rfl rfl (Sub_dict cs2.gr.tR.dict e1 ⟨xs, e2, ?_⟩))))))))
          refine ForOnV (fun j => lstSt_mono j) xs.length (Cf5 T N rules fo t g H0 tW fi1 ep D1 ni) ⟨H2, tF, fi2, b, a1, a4, a5, rfl, cs2, kF, fm2, ps.weaken (fun h => ⟨h, fun _ _ h => absurd h (Nat.not_lt_zero _)⟩), rfl⟩ ?_ ?_
          · rintro j Q5 b5 l H'' hj ⟨H3, tF, fi3, b, a1, a4, a5, rfl, cs3, kF, fm3, ps, rfl⟩
            have hj' : j < (bodies rules ni).length := by omega
            obtain ⟨pf, num, prec, hpv, hpf⟩ := hr3 j hj hj'
            have e3 := (cs3.gr.tR.at_ hr1).2
            have hmem : (ni, (bodies rules ni)[j]) ∈ rules := mem_bodies.mp (List.getElem_mem hj')
            generalize hD2 : (∀ j' (h : j' < (bodies rules ni).length), j' < j → ∀ f ∈ fsRun fi1 [] (bodies rules ni)[j'], f ∈ fi1 ni) = D2 at ps
            generalize hbd : (bodies rules ni)[j] = bd at hpf hmem
            refine ⟨.inst 68 pf, Nxt_list e3 (by rw [List.getElem?_eq_getElem hj, hpv]), tLoc ok3 hF rfl ?_⟩
            obtain ⟨fs, efs, fld⟩ := cs3.gr.fs
            refine WSs_cons (WS_For (WIt_list (WE_CallM (gLoc ok3 hF rfl rfl (getGM (f := 192) ok3 W cs3.gr (by decide) (WEs_cons (WE_Attr (gLoc ok3 hF rfl rfl (getI ok3 W hpf.2.1 rfl (WEs_nil ⟨keepK ok3 W, ?_⟩))))))))))
            have inK : ∀ s ∈ bd, s ∈ kys tF := fun s hs => by
              rw [kF, List.mem_append, List.mem_cons]
              rcases gc.sg _ hmem s hs with h | h
              · exact .inl h
              · exact .inr (.inr h)
            refine Call_of (fi_call (n := n) (syms := bd) (fi := fi3) ok3 W cs3.gr.I efs fld.fst cs3.gr.fst (fun x hx => ?_) (gc.ln _ hmem) (fun x hx => ?_) ⟨_, rfl, ?_⟩)
            · obtain ⟨a, _, x1, x2, _⟩ := cs3.sF.at_ (inK x hx)
              exact ⟨a, x1, x2⟩
            · exact Nat.le_trans (fm3.len hzT (by rw [← kF]; exact inK x hx)) (by decide)
            have hφ : ∀ φ, FCl T rules φ → ∀ f ∈ fsRun fi3 [] bd, φ ni f := fun φ hc f hf => hc.2 _ hmem fi3 (fun s hs f hf => fm3.least φ hc s (by rw [← kF]; exact inK s hs) f hf) f hf
            generalize hR : fsRun fi3 [] bd = R at hφ
            have hRb : fi3 = fi1 → R = fsRun fi1 [] bd := fun e => by rw [← hR, e]
            refine ForOnV (fun l => lstSt_mono l) (R.map V.str).length (Cf6 T N rules fo t g H0 tW fi1 ep D1 ni pf D2 bd R) ⟨H3, tF, fi3, b, a1, a5, rfl, cs3, kF, fm3, ⟨fun z => ⟨(ps.f z).1, (ps.f z).2, hRb (ps.f z).1, by simp⟩, ps.t, ps.m⟩, rfl⟩ ?_ ?_
            · rintro q Q6 b6 l H'' hq ⟨H4, tF, fi4, b, a1, a5, rfl, cs4, kF, fm4, ps, rfl⟩
              have hq' : q < R.length := by simpa using hq
              have hmR := List.getElem_mem hq'
              have htk : R.take (q + 1) = R.take q ++ [R[q]] := take_snoc hq'
              generalize hf : R[q] = f at hmR htk
              refine ⟨.str f, Nxt_list (xs := R.map .str) rfl (by simp [hq', hf]), tLoc ok4 hF rfl ?_⟩
              have hkn : ni ∈ T ++ fin :: N := List.mem_append_right _ (List.mem_cons_of_mem _ hm)
              obtain ⟨fa, tg, dg, lg, fam⟩ := cs4.sF.at_ (k := ni) (by rw [kF]; exact hkn)
              refine WSs_cons (WS_If (WB_Compare (gLoc ok4 hF rfl rfl (WE_Subscript (WE_Attr (gLoc ok4 hF rfl rfl (getG ok4 W cs4.gr Fld.fst rfl (gLoc ok4 hF rfl rfl (Sub_dict cs4.gr.fst dg (Cmp_notIn ok4 lg (by simp [V.isD]) isD_strs ⟨fun hh => ?_, fun hh => ?_⟩))))))))))
              · rw [inV_str] at hh
                have hn : f ∉ fi4 ni := by simpa using hh
                have hlen := fm4.len hzT hkn
                refine WSs_cons (sExpr ok4 (WE_CallM (WE_Subscript (WE_Attr (gLoc ok4 hF rfl rfl (getG ok4 W cs4.gr Fld.fst rfl (gLoc ok4 hF rfl rfl (Sub_dict cs4.gr.fst dg (MGet_append lg (WEs_cons (gLoc ok4 hF rfl rfl (WEs_nil ⟨keepB ok4, Call_append lg (len_map_le hlen) (WSs_cons (sAsg ok4 hF rfl (WE_bool (WSs_nil (WSs_nil ?_)))))⟩))))))))))))
                refine b6.n ⟨_, _, _, true, a1, some (.str f), rfl, cs4.appF (xs := fi4 ni ++ [f]) tg, by rw [kys_tset]; exact kF, fm4.app gc hm hn (fun φ hc => hφ φ hc f hmR), ⟨fun z => absurd z (by decide), fun _ => Nat.lt_of_le_of_lt ps.m (sumN_grow hm), Nat.le_trans ps.m (Nat.le_of_lt (sumN_grow hm))⟩, ?_⟩
                rw [List.map_append]; rfl
              · rw [inV_str] at hh
                have hn : f ∈ fi4 ni := by simpa using hh
                refine WSs_nil (WSs_nil (b6.n ⟨H4, tF, fi4, b, a1, some (.str f), rfl, cs4, kF, fm4, ⟨fun z => ⟨(ps.f z).1, (ps.f z).2.1, (ps.f z).2.2.1, fun f' hf' => ?_⟩, ps.t, ps.m⟩, rfl⟩))
                rw [htk] at hf'
                rcases List.mem_append.mp hf' with hf' | hf'
                · exact (ps.f z).2.2.2 f' hf'
                · simp at hf'; subst hf'; rw [← (ps.f z).1]; exact hn
            · rintro l H'' ⟨H4, tF, fi4, b, a1, a5, rfl, cs4, kF, fm4, ps, rfl⟩
              rw [List.length_map, List.take_length] at ps
              refine ⟨Nxt_list_end (xs := R.map .str) (ok3.handled (Nat.succ_ne_zero _)) rfl (Nat.le_refl _), WSs_nil (WSs_nil (b5.n ⟨H4, tF, fi4, b, a1, _, a5, rfl, cs4, kF, fm4, ps.weaken fun ⟨⟨d1, d2⟩, hR', h⟩ => ⟨d1, fun j' hj1 hj2 f hf => ?_⟩, rfl⟩))⟩
              by_cases e : j' = j
              · subst e
                rw [hbd, ← hR'] at hf; exact h f hf
              · rw [← hD2] at d2
                exact d2 j' hj1 (Nat.lt_of_le_of_ne (Nat.le_of_lt_succ hj2) e) f hf
          · rintro l H'' ⟨H3, tF, fi3, b, a1, a4, a5, rfl, cs3, kF, fm3, ps, rfl⟩
            refine ⟨Nxt_list_end (ok2.handled (Nat.succ_ne_zero _)) (cs3.gr.tR.at_ hr1).2 (Nat.le_refl _), WSs_nil (WSs_nil (b4.n ⟨H3, tF, fi3, b, a1, _, a4, a5, rfl, cs3, kF, fm3, ps.weaken fun ⟨d1, d2⟩ j hj hji bd hbd f hf => ?_, rfl⟩))⟩
            by_cases e : j = i
            · subst e
              rw [hni] at hbd ⊢
              obtain ⟨j', hj', rfl⟩ := List.getElem_of_mem hbd
              exact d2 j' hj' (by omega) f hf
            · rw [← hD1] at d1
              exact d1 j hj (Nat.lt_of_le_of_ne (Nat.le_of_lt_succ hji) e) bd hbd f hf
        · rintro l H'' ⟨H2, tF, fi2, b, a1, a2, a4, a5, rfl, cs2, kF, fm2, ps, rfl⟩
          refine ⟨Nxt_keys_end (ok1.handled (Nat.succ_ne_zero _)) cs2.gr.tN.dict (up_self _ _ _) rfl (Nat.le_refl _), WSs_nil ?_⟩
          refine WSs_pre ?_ (LocSub.refl _) (subG (cs2.gr.gn _))
          refine WSs_cons (WS_If (WB_not (WB_plain (gLoc ok1 hF rfl rfl (Tru_bool ⟨fun h => ?_, fun h => ?_⟩)))))
          · have hb : b = false := by simpa using h
            obtain ⟨rfl, hcl⟩ := ps.f hb
            refine WSs_cons (WS_Break (b3.b ?_))
            refine WSs_cons (WS_Return (WE_Attr (gLoc ok hF rfl rfl (getG ok W cs2.gr Fld.fst rfl (q _ _ _ cs2 kF ⟨fm2, fun r hr f hf => ?_⟩)))))
            obtain ⟨j, hj, e⟩ := List.getElem_of_mem (gc.hd r hr)
            rw [← e]
            refine hcl j hj (by rw [lenN]; exact hj) r.2 ?_ f hf
            rw [mem_bodies, e]; exact hr
          · have hb : b = true := by simpa using h
            have hs := ps.t hb
            have hle : sumN N fi2 ≤ N.length * 52 := sumN_le fun s hs => fm2.len hzT (List.mem_append_right _ (List.mem_cons_of_mem _ hs))
            exact WSs_nil (WSs_nil (b3.n ⟨_, Nat.sub_lt_sub_left (Nat.lt_of_lt_of_le hs hle) hs, tF, fi2, _, _, _, _, _, rfl, cs2, kF, fm2, rfl⟩))
end Lay.W1
end
noncomputable section
open PySem PySem.W PyProof.Rows PySem.Calls
set_option Elab.async false
set_option maxRecDepth 100000
set_option linter.all false
set_option maxHeartbeats 8000000
namespace Lay.W1
variable {P : Params} {F : Fx} {n : Nat} {loc : Loc} {H : Hp}
variable {T N : List Str} {rules : List (Str × List Str)} {fi fi0 fo : Str → List Str} {t : GT} {g : GA} {H0 : Hp} {tF tW : Tab} {s0 : Str}
noncomputable def WCl (N : List Str) (rules : List (Str × List Str)) (s0 : Str) (fi : Str → List Str) (φ : Str → Str → Prop) : Prop :=
  φ s0 fin ∧ ∀ r ∈ rules, ∀ i (h : i < r.2.length), r.2[i] ∈ N → (∀ f ∈ fsRun fi [] (r.2.drop (i + 1)), f ≠ eps → φ r.2[i] f) ∧ (eps ∈ fsRun fi [] (r.2.drop (i + 1)) → ∀ f, φ r.1 f → φ r.2[i] f)
structure Wm (N : List Str) (rules : List (Str × List Str)) (s0 : Str) (fi fo : Str → List Str) : Prop where
  st : fin ∈ fo s0
  nd : ∀ s ∈ N, (fo s).Nodup
  least : ∀ φ, WCl N rules s0 fi φ → ∀ s ∈ N, ∀ f ∈ fo s, φ s f
structure FollowIs (N : List Str) (rules : List (Str × List Str)) (s0 : Str) (fi fo : Str → List Str) : Prop extends Wm N rules s0 fi fo where
  closed : WCl N rules s0 fi fun s f => f ∈ fo s
theorem WCl_univ (gc : Gc t T N rules) (fm : Fm T N rules fi) : WCl N rules s0 fi fun _ f => f ∈ fin :: T := by
  refine ⟨by simp, fun r hr i h hi => ⟨fun f hf hne => ?_, fun _ f h => h⟩⟩
  rcases fsRun_mem hf with hf | hf | ⟨s, hs, hf⟩
  · cases hf
  · exact absurd hf hne
  · have hsK : s ∈ T ++ fin :: N := by
      rcases gc.sg r hr s (List.mem_of_mem_drop hs) with h | h
      · exact List.mem_append_left _ h
      · exact List.mem_append_right _ (List.mem_cons_of_mem _ h)
    have := fm.least _ FCl_univ s hsK f hf
    rcases List.mem_cons.mp this with h | h
    · exact absurd h hne
    · exact h
theorem Wm.len (h : Wm N rules s0 fi fo) (gc : Gc t T N rules) (fm : Fm T N rules fi) {s : Str} (hs : s ∈ N) : (fo s).length ≤ 52 := by
  have := nodup_len (h.nd s hs) fun f hf => h.least _ (WCl_univ gc fm) s hs f hf
  have := gc.zT
  simp only [List.length_cons] at *; omega
theorem Wm.app (h : Wm N rules s0 fi fo) {m f : Str} (hf : f ∉ fo m) (hφ : ∀ φ, WCl N rules s0 fi φ → φ m f) : Wm N rules s0 fi (fput fo m (fo m ++ [f])) := by
  refine ⟨?_, fun s hs => ?_, fun φ hc s hs f' hf' => ?_⟩
  · by_cases e : s0 = m
    · rw [← e, fput_self]; exact List.mem_append_left _ h.st
    · rw [fput_ne e]; exact h.st
  · by_cases e : s = m
    · subst e
      rw [fput_self, List.nodup_append]
      exact ⟨h.nd s hs, by simp, fun a ha b hb e => by simp at hb; subst hb; subst e; exact hf ha⟩
    · rw [fput_ne e]; exact h.nd s hs
  · by_cases e : s = m
    · subst e
      rw [fput_self] at hf'
      rcases List.mem_append.mp hf' with hf' | hf'
      · exact h.least φ hc s hs f' hf'
      · simp at hf'; subst hf'; exact hφ φ hc
    · rw [fput_ne e] at hf'; exact h.least φ hc s hs f' hf'
end Lay.W1
end
noncomputable section
open PySem PySem.W PyProof.Rows PySem.Calls
set_option Elab.async false
set_option maxRecDepth 100000
set_option linter.all false
set_option maxHeartbeats 8000000
namespace Lay.W1
variable {P : Params} {F : Fx} {n : Nat} {loc : Loc} {H : Hp}
variable {T N : List Str} {rules : List (Str × List Str)} {fi fi0 fo : Str → List Str} {t : GT} {g : GA} {H0 : Hp} {tF tW : Tab} {s0 : Str}
noncomputable def PCl (N : List Str) (fi : Str → List Str) (φ : Str → Str → Prop) (r : Str × List Str) (i : Nat) : Prop := ∀ (h : i < r.2.length), r.2[i] ∈ N → (∀ f ∈ fsRun fi [] (r.2.drop (i + 1)), f ≠ eps → φ r.2[i] f) ∧ (eps ∈ fsRun fi [] (r.2.drop (i + 1)) → ∀ f, φ r.1 f → φ r.2[i] f)
theorem cut_one {x : V} {xs : List V} : cut (x :: xs) (some 1) none = xs := by
  unfold cut
  simp
inductive Fw1 (T : List Str) (N : List Str) (rules : List (Str × List Str)) (fo : Str → List Str) (t : GT) (g : GA) (H0 : Hp) (l : Loc) (H' : Hp) : Prop
  | mk (tF : Tab) (fi : Str → List Str) (_ : l = [some (.ref g.g), some .none, none, none, none, none, none, none, none, none, none, none]) (_ : Cx H0 g t H' tF [] fi fo) (_ : kys tF = T ++ fin :: N) (_ : FirstIs T N rules fi) : Fw1 T N rules fo t g H0 l H'
inductive Fw2 (N : List Str) (t : GT) (g : GA) (H0 : Hp) (tF : Tab) (fi : Str → List Str) (ep : Nat) (i : Nat) (l : Loc) (H' : Hp) : Prop
  | mk (H1 : Hp) (tW : Tab) (fo1 : Str → List Str) (a2 : Option V) (_ : l = [some (.ref g.g), some .none, a2, none, none, none, none, none, none, none, none, none]) (_ : Cx H0 g t H1 tF tW fi fo1) (_ : kys tW = N.take i) (_ : (∀ s ∈ N.take i, fo1 s = [])) (_ : { H1 with G := up H1.G g.nts ep } = H') : Fw2 N t g H0 tF fi ep i l H'
inductive Fw3 (N : List Str) (rules : List (Str × List Str)) (t : GT) (g : GA) (H0 : Hp) (tF : Tab) (fi : Str → List Str) (s0 : Str) (k : Nat) (l : Loc) (H' : Hp) : Prop
  | mk (tW : Tab) (fo1 : Str → List Str) (a2 : Option V) (a3 : Option V) (a4 : Option V) (a5 : Option V) (a6 : Option V) (a7 : Option V) (a8 : Option V) (a9 : Option V) (_ : l = [some (.ref g.g), some (.str s0), a2, a3, a4, a5, a6, a7, a8, a9, none, none]) (_ : Cx H0 g t H' tF tW fi fo1) (_ : kys tW = N) (_ : Wm N rules s0 fi fo1) (_ : k = N.length * 52 - sumN N fo1) : Fw3 N rules t g H0 tF fi s0 k l H'
inductive Fw4 (N : List Str) (rules : List (Str × List Str)) (t : GT) (g : GA) (H0 : Hp) (tF : Tab) (fi : Str → List Str) (s0 : Str) (fo1 : Str → List Str) (i : Nat) (l : Loc) (H' : Hp) : Prop
  | mk (tW : Tab) (fo2 : Str → List Str) (b : Bool) (a2 : Option V) (a4 : Option V) (a5 : Option V) (a6 : Option V) (a7 : Option V) (a8 : Option V) (a9 : Option V) (_ : l = [some (.ref g.g), some (.str s0), a2, some (.bool b), a4, a5, a6, a7, a8, a9, none, none]) (_ : Cx H0 g t H' tF tW fi fo2) (_ : kys tW = N) (_ : Wm N rules s0 fi fo2) (_ : PS N fo1 fo2 b (∀ j (h : j < rules.length), j < i → ∀ y, PCl N fi (fun s f => f ∈ fo1 s) rules[j] y)) : Fw4 N rules t g H0 tF fi s0 fo1 i l H'
inductive Fw5 (N : List Str) (rules : List (Str × List Str)) (t : GT) (g : GA) (H0 : Hp) (tF : Tab) (fi : Str → List Str) (s0 : Str) (fo1 : Str → List Str) (pf : List (Str × V)) (D1 : Prop) (rn : Str) (bd : List Str) (x : Nat) (l : Loc) (H' : Hp) : Prop
  | mk (tW : Tab) (fo2 : Str → List Str) (b : Bool) (a2 : Option V) (a5 : Option V) (a6 : Option V) (a7 : Option V) (a8 : Option V) (a9 : Option V) (_ : l = [some (.ref g.g), some (.str s0), a2, some (.bool b), some (.inst 68 pf), a5, a6, a7, a8, a9, none, none]) (_ : Cx H0 g t H' tF tW fi fo2) (_ : kys tW = N) (_ : Wm N rules s0 fi fo2) (_ : PS N fo1 fo2 b (D1 ∧ ∀ y, y < x → PCl N fi (fun s f => f ∈ fo1 s) (rn, bd) y)) : Fw5 N rules t g H0 tF fi s0 fo1 pf D1 rn bd x l H'
inductive Fw6 (N : List Str) (rules : List (Str × List Str)) (t : GT) (g : GA) (H0 : Hp) (tF : Tab) (fi : Str → List Str) (s0 : Str) (fo1 : Str → List Str) (pf : List (Str × V)) (x : Nat) (a2 : Option V) (D2 : Prop) (B : Str) (R : List Str) (l : Loc) (H' : Hp) : Prop
  | mk (tW : Tab) (fo4 : Str → List Str) (b : Bool) (a9 : Option V) (_ : l = [some (.ref g.g), some (.str s0), a2, some (.bool b), some (.inst 68 pf), some (.int x), some (.str B), some (.list (R.map .str)), some (.bool (decide (eps ∈ R))), a9, none, none]) (_ : Cx H0 g t H' tF tW fi fo4) (_ : kys tW = N) (_ : Wm N rules s0 fi fo4) (_ : PS N fo1 fo4 b (D2 ∧ ∀ f ∈ R, f ≠ eps → f ∈ fo1 B)) : Fw6 N rules t g H0 tF fi s0 fo1 pf x a2 D2 B R l H'
inductive Fw7 (N : List Str) (rules : List (Str × List Str)) (t : GT) (g : GA) (H0 : Hp) (tF : Tab) (fi : Str → List Str) (s0 : Str) (fo1 : Str → List Str) (pf : List (Str × V)) (x : Nat) (a2 : Option V) (D2 : Prop) (B : Str) (R : List Str) (q : Nat) (l : Loc) (H' : Hp) : Prop
  | mk (tW : Tab) (fo4 : Str → List Str) (b : Bool) (a9 : Option V) (_ : l = [some (.ref g.g), some (.str s0), a2, some (.bool b), some (.inst 68 pf), some (.int x), some (.str B), some (.list (R.map .str)), some (.bool (decide (eps ∈ R.take q))), a9, none, none]) (_ : Cx H0 g t H' tF tW fi fo4) (_ : kys tW = N) (_ : Wm N rules s0 fi fo4) (_ : PS N fo1 fo4 b (D2 ∧ ∀ f ∈ R.take q, f ≠ eps → f ∈ fo1 B)) : Fw7 N rules t g H0 tF fi s0 fo1 pf x a2 D2 B R q l H'
inductive Fw8 (N : List Str) (rules : List (Str × List Str)) (t : GT) (g : GA) (H0 : Hp) (tF : Tab) (fi : Str → List Str) (s0 : Str) (fo1 : Str → List Str) (pf : List (Str × V)) (x : Nat) (a2 : Option V) (D2 : Prop) (B : Str) (R : List Str) (q : Nat) (f : Str) (l : Loc) (H' : Hp) : Prop
  | mk (tW : Tab) (fo4 : Str → List Str) (b : Bool) (_ : l = [some (.ref g.g), some (.str s0), a2, some (.bool b), some (.inst 68 pf), some (.int x), some (.str B), some (.list (R.map .str)), some (.bool (decide (eps ∈ R.take q))), some (.str f), none, none]) (_ : Cx H0 g t H' tF tW fi fo4) (_ : kys tW = N) (_ : Wm N rules s0 fi fo4) (_ : PS N fo1 fo4 b (D2 ∧ ∀ f ∈ R.take (q + 1), f ≠ eps → f ∈ fo1 B)) : Fw8 N rules t g H0 tF fi s0 fo1 pf x a2 D2 B R q f l H'
inductive Fw9 (N : List Str) (rules : List (Str × List Str)) (t : GT) (g : GA) (H0 : Hp) (tF : Tab) (fi : Str → List Str) (s0 : Str) (fo1 : Str → List Str) (pf : List (Str × V)) (rn : Str) (bd : List Str) (x : Nat) (a2 : Option V) (D2 : Prop) (B : Str) (R : List Str) (l : Loc) (H' : Hp) : Prop
  | mk (tW : Tab) (fo4 : Str → List Str) (b : Bool) (a9 : Option V) (_ : l = [some (.ref g.g), some (.str s0), a2, some (.bool b), some (.inst 68 pf), some (.int x), some (.str B), some (.list (R.map .str)), some (.bool (decide (eps ∈ R))), a9, none, none]) (_ : Cx H0 g t H' tF tW fi fo4) (_ : kys tW = N) (_ : Wm N rules s0 fi fo4) (_ : PS N fo1 fo4 b (D2 ∧ PCl N fi (fun s f => f ∈ fo1 s) (rn, bd) x)) : Fw9 N rules t g H0 tF fi s0 fo1 pf rn bd x a2 D2 B R l H'
inductive Fw10 (N : List Str) (rules : List (Str × List Str)) (t : GT) (g : GA) (H0 : Hp) (tF : Tab) (fi : Str → List Str) (s0 : Str) (fo1 : Str → List Str) (pf : List (Str × V)) (rn : Str) (x : Nat) (a2 : Option V) (D2 : Prop) (B : Str) (R : List Str) (pa : Addr) (S : List Str) (q : Nat) (l : Loc) (H' : Hp) : Prop
  | mk (tW : Tab) (fo5 : Str → List Str) (b : Bool) (a9 : Option V) (_ : l = [some (.ref g.g), some (.str s0), a2, some (.bool b), some (.inst 68 pf), some (.int x), some (.str B), some (.list (R.map .str)), some (.bool (decide (eps ∈ R))), a9, none, none]) (_ : Cx H0 g t H' tF tW fi fo5) (_ : kys tW = N) (_ : Wm N rules s0 fi fo5) (_ : PS N fo1 fo5 b ((D2 ∧ ∀ f ∈ R, f ≠ eps → f ∈ fo1 B) ∧ ∀ f ∈ S.take q, f ∈ fo1 B)) (_ : fo5 rn = S) (_ : H'.L pa = some (S.map .str)) : Fw10 N rules t g H0 tF fi s0 fo1 pf rn x a2 D2 B R pa S q l H'
theorem fw_call (ok : Ok F (n + 4)) (W : Wd (K P) F.c.base) (cs : Cx H0 g t H tF [] fi fo) (gc : Gc t T N rules) (h0 : 0 < rules.length) (hf : tF = [] ∨ (kys tF = T ++ fin :: N ∧ FirstIs T N rules fi)) {Q : V → Loc → Hp → Prop}
    (q : ∀ H' tF' tW' fi' fo', Cx H0 g t H' tF' tW' fi' fo' → kys tF' = T ++ fin :: N → FirstIs T N rules fi' → kys tW' = N → FollowIs N rules rules[0].1 fi' fo' → Q (.ref g.fol) loc H') : CCall F 207 [.ref g.g] [] [] loc H Q := by
  have hzT := gc.zT
  have hzN := gc.zN
  have hzR := gc.zR
  refine defP ok W ["self", "start"] (Vs := [.ref g.g, .none]) rfl rfl rfl rfl rfl rfl ?_ rfl ?_
  · intro vs ws B r1 r2 le
    apply r2.e0
    apply r1.e1
    intro _ a
    exact ⟨[_, _], Looks.of_peek W.k rfl, .cons a (.cons .none .nil)⟩
  · intro F' ok tp W hF
    refine WSs_cons (WS_If (WB_plain (WE_Attr (gLoc ok hF rfl rfl (getG ok W cs.gr Fld.fol rfl (Tru_dict cs.gr.fol (by simp [tof]) ⟨fun h => absurd h (by simp [tof]), fun _ => WSs_nil ?_⟩))))))
    have hz0 : tF.length ≤ 101 := by
      rcases hf with rfl | ⟨hk, _⟩
      · simp
      · have : (kys tF).length = tF.length := by simp [kys]
        rw [← this, hk, List.length_append, List.length_cons]; omega
    refine WSs_midV (Fw1 T N rules fo t g H0) (fun Q1 b1 => WS_If (WB_not (WB_plain (WE_Attr (gLoc ok hF rfl rfl (getG ok W cs.gr Fld.fst rfl (Tru_dict cs.gr.fst (tof_len' hz0) ⟨fun h => ?_, fun h => ?_⟩))))))) ?_
    · rcases hf with rfl | ⟨hk, _⟩
      · exact WSs_cons (sExpr ok (WE_CallM (gLoc ok hF rfl rfl (getGM (f := 199) ok W cs.gr (by decide) (WEs_nil ⟨keepK ok W, Call_of (cf_call (n := n) ok W cs gc fun H' tF' fi' cs' k' f' => WSs_nil (b1.n ⟨tF', fi', rfl, cs', k', f'⟩))⟩)))))
      · exfalso
        cases tF with
        | nil => simp [kys] at hk
        | cons p r => simp [tof] at h
    · rcases hf with rfl | ⟨hk, hfi⟩
      · simp [tof] at h
      · exact WSs_nil (b1.n ⟨tF, fi, rfl, cs, hk, hfi⟩)
    clear hf hz0 cs
    rintro l H' ⟨tF, fi, rfl, cs, kF, hfi⟩
    have lenN : (tof t.tN).length = N.length := by rw [← gc.kN]; simp [tof, kys]
    have hN : ∀ i (hi : i < (tof t.tN).length), ∃ hi' : i < N.length, (tof t.tN)[i]? = some (N[i], (tof t.tN)[i].2) := fun i hi => by
      have hi' : i < N.length := lenN ▸ hi
      refine ⟨hi', ?_⟩
      rw [List.getElem?_eq_getElem hi]
      have : (tof t.tN)[i].1 = N[i] := by simp [tof, ← gc.kN, kys]
      rw [← this]
    refine WSs_cons (WS_For (WIt_keys (WE_Attr (gLoc ok hF rfl rfl (getG ok W cs.gr Fld.nts rfl ⟨_, _, rfl, cs.gr.tN.dict, fun ep => ?_⟩)))))
    refine ForOnV (fun i => keySt_mono i) (tof t.tN).length (Fw2 N t g H0 tF fi ep) ⟨H', [], fo, none, rfl, cs, rfl, by simp, rfl⟩ ?_ ?_
    · rintro i Q2 b2 l H' hi ⟨H1, tW, fo1, a2, rfl, cs1, kW, hb', rfl⟩
      obtain ⟨hi', hx⟩ := hN i hi
      have hm := List.getElem_mem hi'
      refine ⟨.str N[i], Nxt_keys cs1.gr.tN.dict (up_self _ _ _) rfl hx, tLoc ok.inl hF rfl ?_⟩
      have hk : N[i] ∉ kys tW := by
        rw [kW]
        exact notin_take gc.nN hi'
      have hz1 : tW.length ≤ 101 := by
        rw [← kys_len, kW]; exact len_take_le hzN
      refine WSs_cons (WS_AssignT (WE_List (WEs_nil ⟨by simp, fun a ha => WA_sub (WE_Attr (gLoc ok.inl hF rfl rfl (getG ok.inl W cs1.gr Fld.fol rfl (gLoc ok.inl hF rfl rfl (Set_dict cs1.gr.fol (upe cs1.gr.fst_ne.2.2.2.2 (cs1.gr.gn _)) (tof_len' hz1) (WSs_nil ?_))))))⟩)))
      refine b2.n ⟨_, _, _, some (.str N[i]), rfl, cs1.putW (xs := []) (k := N[i]) ha, ?_, ?_, rfl⟩
      · rw [kys_tput, if_neg hk, kW, List.take_add_one, List.getElem?_eq_getElem hi']; simp
      · intro s hs
        by_cases e : s = N[i]
        · rw [e, fput_self]
        · rw [fput_ne e]
          rw [List.take_add_one, List.getElem?_eq_getElem hi'] at hs
          rcases List.mem_append.mp hs with hs | hs
          · exact hb' s hs
          · simp at hs; exact absurd hs e
    · rintro l H' ⟨H1, tW, fo1, a2, rfl, cs1, kW, hb', rfl⟩
      refine ⟨Nxt_keys_end (ok.handled (Nat.succ_ne_zero _)) cs1.gr.tN.dict (up_self _ _ _) rfl (Nat.le_refl _), WSs_nil ?_⟩
      rw [lenN, List.take_length] at kW hb'
      refine WSs_pre ?_ (LocSub.refl _) (subG (cs1.gr.gn _))
      obtain ⟨vs, ps1, ps2, ps3⟩ := gc.ps
      have hv0 : 0 < vs.length := by omega
      obtain ⟨pf, num, prec, hpv, hpf⟩ := ps3 0 hv0 h0
      have s0N : rules[0].1 ∈ N := gc.hd _ (List.getElem_mem h0)
      generalize hs0 : rules[0].1 = s0 at q hpf s0N
      have hz1 : tW.length ≤ 101 := by
        rw [← kys_len, kW]; exact Nat.le_trans hzN (by decide)
      refine WSs_cons (WS_If (WB_not (WB_plain (gLoc ok hF rfl rfl (Tru_none ⟨fun _ => ?_, fun h => absurd h (by decide)⟩)))))
      refine WSs_cons (sAsg ok hF rfl (WE_Attr (WE_Subscript (WE_Attr (gLoc ok hF rfl rfl (getG ok W cs1.gr Fld.prods rfl (WE_int (Sub_list (x := .inst 68 pf) cs1.gr.ps (by decide) (by decide) ?_ (getI ok W hpf.1 rfl (WSs_nil ?_))))))))))
      · show t.ps[1]? = _
        rw [ps1, List.getElem?_cons_succ, List.getElem?_eq_getElem hv0, hpv]
      refine WSs_cons (WS_AssignT (WE_List (WEs_cons (WE_str (WEs_nil ⟨by simp, fun a ha => WA_sub (WE_Attr (gLoc ok hF rfl rfl (getG ok W cs1.gr Fld.fol rfl (gLoc ok hF rfl rfl (Set_dict cs1.gr.fol (cs1.gr.gn _) (tof_len' hz1) ?_)))))⟩)))))
      have cs2 := cs1.putW (xs := [fin]) (k := s0) ha
      have kW2 : kys (tput tW s0 a ([fin].map .str)) = N := by rw [kys_tput, kW, if_pos s0N]
      have wm2 : Wm N rules s0 fi (fput fo1 s0 [fin]) := by
        refine ⟨by rw [fput_self]; simp, fun s hs => ?_, fun φ hc s hs f hf => ?_⟩
        · by_cases e : s = s0
          · rw [e, fput_self]; simp
          · rw [fput_ne e, hb' s hs]; exact List.nodup_nil
        · by_cases e : s = s0
          · rw [e, fput_self] at hf; simp at hf; subst hf; rw [e]; exact hc.1
          · rw [fput_ne e, hb' s hs] at hf; cases hf
      generalize hH2 : ({ L := up H1.L a ([fin].map .str), D := up H1.D g.fol (dput (tof tW) s0 (.ref a)), P := H1.P, S := H1.S, I := H1.I, C := H1.C, G := H1.G } : Hp) = H2 at cs2
      generalize tput tW s0 a ([fin].map .str) = tW2 at cs2 kW2
      generalize fput fo1 s0 [fin] = fo2 at cs2 wm2
      refine WSs_pre (H' := H2) ?_ (LocSub.refl _) (by rw [← hH2]; exact Hp.Sub.refl _)
      clear hb' cs1 kW hz1 hH2 ha
      refine WSs_cons (WS_WhileV (Fw3 N rules t g H0 tF fi s0) (N.length * 52 - sumN N fo2) ⟨tW2, fo2, _, _, _, _, _, _, _, _, rfl, cs2, kW2, wm2, rfl⟩ ?_)
      rintro k Q3 b3 l H' ⟨tW, fo1, a2, a3, a4, a5, a6, a7, a8, a9, rfl, cs1, kW, wm1, rfl⟩
      have ok1 := ok.inl
      have ok2 := ok1.inl
      have ok3 := ok2.inl
      have ok4 := ok3.inl
      refine WB_plain (WE_bool (Tru_bool ⟨fun _ => ?_, fun h => absurd h (by decide)⟩))
      refine WSs_cons (sAsg ok1 hF rfl (WE_bool ?_))
      refine WSs_cons (WS_For (WIt_list (WE_SliceLA (WE_Attr (gLoc ok1 hF rfl rfl (getG ok1 W cs1.gr Fld.prods rfl (WOpt_some (WE_int ⟨1, rfl, WOpt_none ⟨t.ps, cs1.gr.ps, by rw [ps1, List.length_cons]; omega, (fun i h => by injection h with h; omega), (fun i h => by cases h), _, rfl, ?_⟩⟩))))))))
      rw [ps1, cut_one]
      refine ForOnV (fun i => lstSt_mono i) vs.length (Fw4 N rules t g H0 tF fi s0 fo1) ⟨tW, fo1, false, a2, a4, a5, a6, a7, a8, a9, rfl, cs1, kW, wm1, ⟨fun _ => ⟨rfl, fun j _ h => absurd h (Nat.not_lt_zero _)⟩, fun h => absurd h (by decide), Nat.le_refl _⟩⟩ ?_ ?_
      · rintro i Q4 b4 l H' hi ⟨tW, fo2, b, a2, a4, a5, a6, a7, a8, a9, rfl, cs2, kW, wm2, ps⟩
        have hi' : i < rules.length := by omega
        obtain ⟨pf, num, prec, hpv, hpf⟩ := ps3 i hi hi'
        have hmem := List.getElem_mem hi'
        generalize hD1 : (∀ j (h : j < rules.length), j < i → ∀ y, PCl N fi (fun s f => f ∈ fo1 s) rules[j] y) = D1 at ps
        generalize hr : rules[i] = r at hpf hmem
        obtain ⟨rn, bd⟩ := r
        have hln := gc.ln _ hmem
        have hrn := gc.hd _ hmem
        simp only at hpf hln hrn
        refine ⟨.inst 68 pf, Nxt_list (xs := vs) rfl (by rw [List.getElem?_eq_getElem hi, hpv]), tLoc ok2 hF rfl ?_⟩
        refine WSs_cons (WS_For (WIt_enum (gBi ok2 W hF rfl rfl (by boot_by_name) (by decide) ⟨rfl, WEs_cons (WE_Attr (gLoc ok2 hF rfl rfl (getI ok2 W hpf.2.1 rfl (WEs_nil ⟨_, rfl, .inr ⟨_, rfl, ?_⟩⟩))))⟩)))
        refine ForOnV (fun x => entSt_mono x) (bd.map V.str).length (Fw5 N rules t g H0 tF fi s0 fo1 pf D1 rn bd) ⟨tW, fo2, b, a2, a5, a6, a7, a8, a9, rfl, cs2, kW, wm2, ps.weaken (fun h => ⟨h, fun _ h => absurd h (Nat.not_lt_zero _)⟩)⟩ ?_ ?_
        · rintro x Q5 b5 l H' hx ⟨tW, fo3, b, a2, a5, a6, a7, a8, a9, rfl, cs3, kW, wm3, ps⟩
          have hx' : x < bd.length := by simpa using hx
          generalize hD2 : (D1 ∧ ∀ y, y < x → PCl N fi (fun s f => f ∈ fo1 s) (rn, bd) y) = D2 at ps
          generalize hB : bd[x] = B
          refine ⟨.tup [.int x, .str B], Nxt_ent (xs := bd.map .str) ok2 (by simp [hx', hB]), WA_tuple ok3 rfl (tLoc ok3 hF rfl (tLoc ok3 hF rfl ?_))⟩
          obtain ⟨fs, efs, fld⟩ := cs3.gr.fs
          have hkN : (dget (tof t.tN) B).isSome = true ↔ B ∈ N := by
            rw [dget_tof, Option.isSome_map, ← gc.kN]
            constructor
            · intro h
              apply Classical.byContradiction
              intro hn
              rw [tget_none.mpr hn] at h; cases h
            · intro h
              obtain ⟨a, xs, e⟩ := tget_some h
              rw [e]; rfl
          refine WSs_cons (WS_If (WB_Compare (gLoc ok3 hF rfl rfl (WE_Attr (gLoc ok3 hF rfl rfl (getG ok3 W cs3.gr Fld.nts rfl (Cmp_inD cs3.gr.tN.dict ⟨fun hh => ?_, fun hh => ?_⟩)))))))
          · have hBN := hkN.mp hh
            have hdr : (bd.map V.str).drop (x + 1) = (bd.drop (x + 1)).map .str := by rw [List.map_drop]
            refine WSs_cons (sAsg ok3 hF rfl (WE_CallM (gLoc ok3 hF rfl rfl (getGM (f := 192) ok3 W cs3.gr (by decide) (WEs_cons (WE_SliceTA (WE_Attr (gLoc ok3 hF rfl rfl (getI ok3 W hpf.2.1 rfl (WE_BinOp (gLoc ok3 hF rfl rfl (WE_int (Op_add ⟨bd.map .str, x + 1, rfl, by simp, by omega, by simp; omega, by simp; omega, WEs_nil ⟨keepK ok3 W, ?_⟩⟩)))))))))))))
            rw [hdr]
            have inK : ∀ s ∈ bd, s ∈ T ++ fin :: N := fun s hs => by
              rcases gc.sg _ hmem s hs with h | h
              · exact List.mem_append_left _ h
              · exact List.mem_append_right _ (List.mem_cons_of_mem _ h)
            refine Call_of (fi_call (n := n + 1) (syms := bd.drop (x + 1)) (fi := fi) ok3 W cs3.gr.I efs fld.fst cs3.gr.fst (fun y hy => ?_) (by rw [List.length_drop]; exact Nat.le_trans (Nat.sub_le _ _) hln) (fun y hy => ?_) ?_)
            · obtain ⟨a, _, x1, x2, _⟩ := cs3.sF.at_ (k := y) (by rw [kF]; exact inK y (List.mem_of_mem_drop hy))
              exact ⟨a, x1, x2⟩
            · exact Nat.le_trans (hfi.len hzT (inK y (List.mem_of_mem_drop hy))) (by decide)
            generalize hR : fsRun fi [] (bd.drop (x + 1)) = R
            have hφ : ∀ φ, WCl N rules s0 fi φ → (∀ f ∈ R, f ≠ eps → φ B f) ∧ (eps ∈ R → ∀ f, φ rn f → φ B f) := fun φ hc => by
              have := hc.2 _ hmem x hx' (by show bd[x] ∈ N; rw [hB]; exact hBN)
              simp only [hB, hR] at this
              exact this
            refine WSs_cons (sAsg ok3 hF rfl (WE_bool ?_))
            refine WSs_midV (Fw6 N rules t g H0 tF fi s0 fo1 pf x a2 D2 B R) (fun Q6 b6 => WS_For (WIt_list (gLoc ok3 hF rfl rfl ⟨_, rfl, ?_⟩))) ?_
            · refine ForOnV (fun q => lstSt_mono q) (R.map V.str).length (Fw7 N rules t g H0 tF fi s0 fo1 pf x a2 D2 B R) ⟨tW, fo3, b, a9, by simp, cs3, kW, wm3, ps.weaken (fun h => ⟨h, by simp⟩)⟩ ?_ ?_
              · rintro q Q7 b7 l H' hq ⟨tW, fo4, b, a9, rfl, cs4, kW, wm4, ps⟩
                have hq' : q < R.length := by simpa using hq
                have hmR := List.getElem_mem hq'
                have htk : R.take (q + 1) = R.take q ++ [R[q]] := take_snoc hq'
                generalize hf : R[q] = f at hmR htk
                refine ⟨.str f, Nxt_list (xs := R.map .str) rfl (by simp [hq', hf]), tLoc ok4 hF rfl ?_⟩
                obtain ⟨fa, tg, dg, lg, fam⟩ := cs4.sW.at_ (k := B) (by rw [kW]; exact hBN)
                refine WSs_midV (Fw8 N rules t g H0 tF fi s0 fo1 pf x a2 D2 B R q f) (fun Q8 b8 => WS_If (WB_BoolOp (WAll_and_cons (WB_Compare (gLoc ok4 hF rfl rfl (WE_str (Cmp_nes ⟨fun h1 => WAll_and_cons (WB_Compare (gLoc ok4 hF rfl rfl (WE_Subscript (WE_Attr (gLoc ok4 hF rfl rfl (getG ok4 W cs4.gr Fld.fol rfl (gLoc ok4 hF rfl rfl (Sub_dict cs4.gr.fol dg (Cmp_notIn ok4 lg (by simp [V.isD]) isD_strs ⟨fun h2 => WAll_and_nil ⟨fun _ => ?_, fun h => absurd h (by decide)⟩, fun h2 => ⟨fun h => absurd h (by decide), fun _ => ?_⟩⟩))))))))), fun h1 => ⟨fun h => absurd h (by decide), fun _ => ?_⟩⟩))))))) ?_
                · rw [inV_str] at h2
                  have hn : f ∉ fo4 B := by simpa using h2
                  have he : f ≠ eps := by simpa using h1
                  have hlen := wm4.len gc hfi.toFm hBN
                  refine WSs_cons (sExpr ok4 (WE_CallM (WE_Subscript (WE_Attr (gLoc ok4 hF rfl rfl (getG ok4 W cs4.gr Fld.fol rfl (gLoc ok4 hF rfl rfl (Sub_dict cs4.gr.fol dg (MGet_append lg (WEs_cons (gLoc ok4 hF rfl rfl (WEs_nil ⟨keepB ok4, Call_append lg (len_map_le hlen) (WSs_cons (sAsg ok4 hF rfl (WE_bool (WSs_nil ?_))))⟩))))))))))))
                  refine b8.n ⟨tset tW fa ((fo4 B ++ [f]).map .str), fput fo4 B (fo4 B ++ [f]), true, rfl, ?_, by rw [kys_tset]; exact kW, wm4.app hn (fun φ hc => (hφ φ hc).1 f hmR he), ⟨fun z => absurd z (by decide), fun _ => Nat.lt_of_le_of_lt ps.m (sumN_grow hBN), Nat.le_trans ps.m (Nat.le_of_lt (sumN_grow hBN))⟩⟩
                  have := cs4.appW (xs := fo4 B ++ [f]) tg
                  rw [List.map_append] at this ⊢
                  exact this
                · rw [inV_str] at h2
                  have hn : f ∈ fo4 B := by simpa using h2
                  refine WSs_nil (b8.n ⟨tW, fo4, b, rfl, cs4, kW, wm4, ⟨fun z => ⟨(ps.f z).1, (ps.f z).2.1, fun f' hf' hne => ?_⟩, ps.t, ps.m⟩⟩)
                  rw [htk] at hf'
                  rcases List.mem_append.mp hf' with hf' | hf'
                  · exact (ps.f z).2.2 f' hf' hne
                  · simp at hf'; subst hf'; rw [← (ps.f z).1]; exact hn
                · have he : f = eps := by simpa using h1
                  refine WSs_nil (b8.n ⟨tW, fo4, b, rfl, cs4, kW, wm4, ps.weaken fun ⟨d, h⟩ => ⟨d, fun f' hf' hne => ?_⟩⟩)
                  rw [htk] at hf'
                  rcases List.mem_append.mp hf' with hf' | hf'
                  · exact h f' hf' hne
                  · simp at hf'; subst hf'; exact absurd he hne
                rintro l H' ⟨tW, fo4, b, rfl, cs4, kW, wm4, ps⟩
                refine WSs_cons (WS_If (WB_Compare (gLoc ok4 hF rfl rfl (WE_str (Cmp_eqs ⟨fun h => ?_, fun h => ?_⟩)))))
                · have h := of_decide_eq_true h
                  refine WSs_cons (sAsg ok4 hF rfl (WE_bool (WSs_nil (WSs_nil (b7.n ⟨tW, fo4, b, some (.str f), ?_, cs4, kW, wm4, ps⟩)))))
                  rw [htk, decide_eq_true (show eps ∈ R.take q ++ [f] by rw [h]; simp)]; rfl
                · have h := of_decide_eq_false h
                  have hb : decide (eps ∈ R.take q) = decide (eps ∈ R.take (q + 1)) := by
                    rw [htk]; congr 1
                    refine propext ⟨fun z => List.mem_append_left _ z, fun z => ?_⟩
                    rcases List.mem_append.mp z with z | z
                    · exact z
                    · simp at z; exact absurd z.symm h
                  refine WSs_nil (WSs_nil (b7.n ⟨tW, fo4, b, some (.str f), ?_, cs4, kW, wm4, ps⟩))
                  rw [hb]
              · rintro l H' ⟨tW, fo4, b, a9, rfl, cs4, kW, wm4, ps⟩
                rw [List.length_map, List.take_length] at ps
                refine ⟨Nxt_list_end (xs := R.map .str) (ok3.handled (Nat.succ_ne_zero _)) rfl (Nat.le_refl _), WSs_nil (b6.n ⟨tW, fo4, b, a9, ?_, cs4, kW, wm4, ps⟩)⟩
                rw [List.length_map, List.take_length]
            rintro l H' ⟨tW, fo4, b, a9, rfl, cs4, kW, wm4, ps⟩
            have hPx : ∀ {fo' : Str → List Str} , fo' = fo1 → (∀ f ∈ R, f ≠ eps → f ∈ fo1 B) → (eps ∈ R → ∀ f ∈ fo1 rn, f ∈ fo1 B) → PCl N fi (fun s f => f ∈ fo1 s) (rn, bd) x := fun _ h1 h2 h _ => by
              simp only [hB, hR]
              exact ⟨h1, h2⟩
            have hDx : D2 → PCl N fi (fun s f => f ∈ fo1 s) (rn, bd) x → D1 ∧ ∀ y, y < x + 1 → PCl N fi (fun s f => f ∈ fo1 s) (rn, bd) y := fun d h => by
              rw [← hD2] at d
              refine ⟨d.1, fun y hy => ?_⟩
              by_cases e : y = x
              · subst e; exact h
              · exact d.2 y (Nat.lt_of_le_of_ne (Nat.le_of_lt_succ hy) e)
            have hno : ¬ eps ∈ R → x + 1 ≠ bd.length := fun h e => by
              rw [e, List.drop_length] at hR
              exact h (by rw [← hR]; simp [fsRun])
            refine WSs_midV (Fw9 N rules t g H0 tF fi s0 fo1 pf rn bd x a2 D2 B R) (fun Q9 b9 => ?_) ?_
            · refine WS_If (WB_BoolOp (WAll_or_cons (WB_plain (gLoc ok3 hF rfl rfl (Tru_bool ⟨fun h => ⟨fun _ => ?_, fun h' => absurd h' (by decide)⟩, fun h => WAll_or_cons (WB_Compare (gLoc ok3 hF rfl rfl (WE_BinOp (WE_CallN (gBi ok3 W hF rfl rfl (by boot_by_name) (by decide) (WEs_cons (WE_Attr (gLoc ok3 hF rfl rfl (getI ok3 W hpf.2.1 rfl (WEs_nil ⟨keepB ok3, Call_len_tup (by simp; omega) (WE_int (Op_sub (Cmp_eqi ⟨fun h2 => ?_, fun h2 => WAll_or_nil ⟨fun h => absurd h (by decide), fun _ => ?_⟩⟩)))⟩))))))))))⟩)))))
              · have he : eps ∈ R := of_decide_eq_true h
                obtain ⟨pa, tgp, dgp, lgp, pam⟩ := cs4.sW.at_ (k := rn) (by rw [kW]; exact hrn)
                have hleast : ∀ φ, WCl N rules s0 fi φ → ∀ f ∈ fo4 rn, φ rn f := fun φ hc f hf => wm4.least φ hc rn hrn f hf
                generalize hS : fo4 rn = S at lgp hleast
                have hlS : asL H (.ref pa) = asL H (.ref pa) := rfl
                refine WSs_cons (WS_For (WIt_list (WE_Subscript (WE_Attr (gLoc ok3 hF rfl rfl (getG ok3 W cs4.gr Fld.fol rfl (WE_Attr (gLoc ok3 hF rfl rfl (getI ok3 W hpf.1 rfl (Sub_dict cs4.gr.fol dgp ⟨_, lgp, ?_⟩))))))))))
                refine ForOnV (fun q => lstSt_mono q) (S.map V.str).length (Fw10 N rules t g H0 tF fi s0 fo1 pf rn x a2 D2 B R pa S) ⟨tW, fo4, b, a9, rfl, cs4, kW, wm4, ps.weaken (fun h => ⟨h, by simp⟩), hS, lgp⟩ ?_ ?_
                · rintro q Q10 b10 l H' hq ⟨tW, fo5, b, a9, rfl, cs5, kW, wm5, ps, hS5, hpa⟩
                  have hq' : q < S.length := by simpa using hq
                  have hmS := List.getElem_mem hq'
                  have htk : S.take (q + 1) = S.take q ++ [S[q]] := take_snoc hq'
                  generalize hf : S[q] = f at hmS htk
                  refine ⟨.str f, Nxt_list (X := .ref pa) (xs := S.map .str) hpa (by simp [hq', hf]), tLoc ok4 hF rfl ?_⟩
                  obtain ⟨fa, tg, dg, lg, fam⟩ := cs5.sW.at_ (k := B) (by rw [kW]; exact hBN)
                  refine WSs_cons (WS_If (WB_Compare (gLoc ok4 hF rfl rfl (WE_Subscript (WE_Attr (gLoc ok4 hF rfl rfl (getG ok4 W cs5.gr Fld.fol rfl (gLoc ok4 hF rfl rfl (Sub_dict cs5.gr.fol dg (Cmp_notIn ok4 lg (by simp [V.isD]) isD_strs ⟨fun h2 => ?_, fun h2 => ?_⟩))))))))))
                  · rw [inV_str] at h2
                    have hn : f ∉ fo5 B := by simpa using h2
                    have hlen := wm5.len gc hfi.toFm hBN
                    refine WSs_cons (sExpr ok4 (WE_CallM (WE_Subscript (WE_Attr (gLoc ok4 hF rfl rfl (getG ok4 W cs5.gr Fld.fol rfl (gLoc ok4 hF rfl rfl (Sub_dict cs5.gr.fol dg (MGet_append lg (WEs_cons (gLoc ok4 hF rfl rfl (WEs_nil ⟨keepB ok4, Call_append lg (len_map_le hlen) (WSs_cons (sAsg ok4 hF rfl (WE_bool (WSs_nil (WSs_nil ?_)))))⟩))))))))))))
                    have hBr : rn ≠ B := by
                      rintro rfl
                      exact hn (by rw [hS5]; exact hmS)
                    have hpf' : pa ≠ fa := by
                      rintro rfl
                      rw [hpa] at lg
                      injection lg with lg
                      have : V.str f ∈ S.map V.str := List.mem_map.mpr ⟨f, hmS, rfl⟩
                      rw [lg] at this
                      obtain ⟨s, hs, e⟩ := List.mem_map.mp this
                      injection e with e
                      exact hn (e ▸ hs)
                    refine b10.n ⟨tset tW fa ((fo5 B ++ [f]).map .str), fput fo5 B (fo5 B ++ [f]), true, some (.str f), rfl, ?_, by rw [kys_tset]; exact kW, wm5.app hn (fun φ hc => (hφ φ hc).2 he f (hleast φ hc f hmS)), ⟨fun z => absurd z (by decide), fun _ => Nat.lt_of_le_of_lt ps.m (sumN_grow hBN), Nat.le_trans ps.m (Nat.le_of_lt (sumN_grow hBN))⟩, by rw [fput_ne hBr]; exact hS5, upe hpf' hpa⟩
                    have := cs5.appW (xs := fo5 B ++ [f]) tg
                    rw [List.map_append] at this ⊢
                    exact this
                  · rw [inV_str] at h2
                    have hn : f ∈ fo5 B := by simpa using h2
                    refine WSs_nil (WSs_nil (b10.n ⟨tW, fo5, b, some (.str f), rfl, cs5, kW, wm5, ⟨fun z => ⟨(ps.f z).1, (ps.f z).2.1, fun f' hf' => ?_⟩, ps.t, ps.m⟩, hS5, hpa⟩))
                    rw [htk] at hf'
                    rcases List.mem_append.mp hf' with hf' | hf'
                    · exact (ps.f z).2.2 f' hf'
                    · simp at hf'; subst hf'; rw [← (ps.f z).1]; exact hn
                · rintro l H' ⟨tW, fo5, b, a9, rfl, cs5, kW, wm5, ps, hS5, hpa⟩
                  rw [List.length_map, List.take_length] at ps
                  refine ⟨Nxt_list_end (X := .ref pa) (xs := S.map .str) (ok3.handled (Nat.succ_ne_zero _)) hpa (Nat.le_refl _), WSs_nil (WSs_nil (b9.n ⟨tW, fo5, b, a9, rfl, cs5, kW, wm5, ⟨fun z => ⟨(ps.f z).1, (ps.f z).2.1.1, hPx (ps.f z).1 (ps.f z).2.1.2 fun _ f hf => (ps.f z).2.2 f ?_⟩, ps.t, ps.m⟩⟩))⟩
                  rw [← hS5, (ps.f z).1]; exact hf
              · exact absurd (by have := of_decide_eq_true h2; simp at this; omega) (hno (of_decide_eq_false h))
              · exact WSs_nil (b9.n ⟨tW, fo4, b, a9, rfl, cs4, kW, wm4, ps.weaken fun ⟨d, hh⟩ => ⟨d, hPx rfl hh fun h' => absurd h' (of_decide_eq_false h)⟩⟩)
            · rintro l H' ⟨tW, fo4, b, a9, rfl, cs4, kW, wm4, ps⟩
              exact WSs_nil (WSs_nil (b5.n ⟨tW, fo4, b, a2, _, _, _, _, a9, rfl, cs4, kW, wm4, ps.weaken fun ⟨d, h⟩ => hDx d h⟩))
          · have hBN : B ∉ N := fun h => by rw [hkN.mpr h] at hh; cases hh
            refine WSs_nil (WSs_nil (b5.n ⟨tW, fo3, b, a2, _, _, a7, a8, a9, rfl, cs3, kW, wm3, ps.weaken fun d => ?_⟩))
            rw [← hD2] at d
            refine ⟨d.1, fun y hy => ?_⟩
            by_cases e : y = x
            · subst e
              intro h1 h2
              exact absurd (show B ∈ N by rw [← hB]; exact h2) hBN
            · exact d.2 y (Nat.lt_of_le_of_ne (Nat.le_of_lt_succ hy) e)
        · rintro l H' ⟨tW, fo3, b, a2, a5, a6, a7, a8, a9, rfl, cs3, kW, wm3, ps⟩
          refine ⟨Nxt_ent_end ok2 rfl, WSs_nil (WSs_nil (b4.n ⟨tW, fo3, b, a2, _, a5, a6, a7, a8, a9, rfl, cs3, kW, wm3, ps.weaken fun ⟨d1, d2⟩ j hj hji y => ?_⟩))⟩
          by_cases e : j = i
          · subst e
            rw [hr]
            by_cases hy : y < bd.length
            · exact d2 y (by simpa using hy)
            · intro h; exact absurd h hy
          · rw [← hD1] at d1
            exact d1 j hj (Nat.lt_of_le_of_ne (Nat.le_of_lt_succ hji) e) y
      · rintro l H' ⟨tW, fo2, b, a2, a4, a5, a6, a7, a8, a9, rfl, cs2, kW, wm2, ps⟩
        refine ⟨Nxt_list_end (xs := vs) (ok1.handled (Nat.succ_ne_zero _)) rfl (Nat.le_refl _), WSs_nil ?_⟩
        refine WSs_cons (WS_If (WB_not (WB_plain (gLoc ok1 hF rfl rfl (Tru_bool ⟨fun h => ?_, fun h => ?_⟩)))))
        · have hb : b = false := by simpa using h
          obtain ⟨rfl, hcl⟩ := ps.f hb
          refine WSs_cons (WS_Break (b3.b ?_))
          refine WSs_cons (WS_Return (WE_Attr (gLoc ok hF rfl rfl (getG ok W cs2.gr Fld.fol rfl (q _ _ _ _ _ cs2 kF hfi kW ⟨wm2, wm2.st, fun r hr i hi hri => ?_⟩)))))
          obtain ⟨j, hj, rfl⟩ := List.getElem_of_mem hr
          exact hcl j hj (by omega) i hi hri
        · have hb : b = true := by simpa using h
          have hs := ps.t hb
          have hle : sumN N fo2 ≤ N.length * 52 := sumN_le fun s hs => wm2.len gc hfi.toFm hs
          exact WSs_nil (WSs_nil (b3.n ⟨_, Nat.sub_lt_sub_left (Nat.lt_of_lt_of_le hs hle) hs, tW, fo2, _, _, _, _, _, _, _, _, rfl, cs2, kW, wm2, rfl⟩))
end Lay.W1
end
noncomputable section
open PySem PySem.W PyProof.Rows PySem.Calls
set_option Elab.async false
set_option maxRecDepth 100000
set_option linter.all false
set_option maxHeartbeats 8000000
namespace Lay.W1
variable {P : Params} {F : Fx} {n : Nat} {loc : Loc} {H : Hp}
noncomputable def corner (gone : List Str) (line : List Str) : List Str → List Str
  | [] => line
  | s :: r => if s ∈ gone then corner gone (if s ∈ line then line else line ++ [s]) r else (if s ∈ line then line else line ++ [s])
theorem co_call (ok : Ok F (n + 2)) (W : Wd (K P) F.c.base) {a : Addr} {BV GV : V} {line body gone : List Str} {Q : V → Loc → Hp → Prop} (eL : H.L a = some (line.map .str)) (eB : ∀ xs, asL { H with L := up H.L a xs } BV = some (body.map .str)) (eG : ∀ xs, asL { H with L := up H.L a xs } GV = some (gone.map .str)) (hz : line.length + body.length ≤ 100000)
    (q : Q (.ref a) loc { H with L := up H.L a ((corner gone line body).map .str) }) : Call F (.ref 262) [.ref a, BV, GV] loc H Q := by
  refine Call_of (defP ok W ["line", "body", "gone"] (Vs := [.ref a, BV, GV]) rfl rfl rfl rfl rfl rfl ?_ rfl ?_)
  · intro vs ws B r1 r2 le
    apply r2.e0
    apply r1.e3
    intro _ _ _ x y z
    exact ⟨[_, _, _], Looks.of_peek W.k rfl, .cons x (.cons y (.cons z .nil))⟩
  · intro F' ok tp W hF
    have hself : { H with L := up H.L a (line.map .str) } = H := by rw [up_id eL]
    refine WSs_cons (WS_For (WIt_list (gLoc ok hF rfl rfl ⟨body.map .str, by rw [← hself]; exact eB _, ?_⟩)))
    refine ⟨fun i => lstSt_mono i, (body.map V.str).length, fun i l H' => ∃ line' a3, l = [some (.ref a), some BV, some GV, a3] ∧ corner gone line body = corner gone line' (body.drop i) ∧ line'.length ≤ line.length + i ∧ { H with L := up H.L a (line'.map .str) } = H', ⟨line, none, rfl, rfl, by omega, hself⟩, ?_, ?_⟩
    · rintro i l H' hi ⟨line', a3, rfl, hc, hl, rfl⟩
      have hi' : i < body.length := by simpa using hi
      rw [drop_at hi'] at hc
      generalize hs : body[i] = s at hc
      have hget : ∀ xs, asL { H with L := up H.L a xs } (.ref a) = some xs := fun xs => up_self _ _ _
      refine ⟨.str s, Nxt_list (eB _) (by simp [hi', hs]), tLoc ok.inl hF rfl ?_⟩
      refine WSs_mid (fun l H' => l = [some (.ref a), some BV, some GV, some (.str s)] ∧ { H with L := up H.L a ((if s ∈ line' then line' else line' ++ [s]).map .str) } = H') (WS_If (WB_Compare (gLoc ok.inl hF rfl rfl (gLoc ok.inl hF rfl rfl (Cmp_notIn ok.inl (hget _) (by simp [V.isD]) isD_strs ⟨fun h => ?_, fun h => ?_⟩))))) ?_
      · rw [inV_str] at h
        have hn : s ∉ line' := by simpa using h
        refine WSs_cons (sExpr ok.inl (WE_CallM (gLoc ok.inl hF rfl rfl (MGet_append (hget _) (WEs_cons (gLoc ok.inl hF rfl rfl (WEs_nil ⟨keepB ok.inl, Call_append (hget _) (by rw [List.length_map]; omega) (WSs_nil ⟨rfl, ?_⟩)⟩)))))))
        rw [if_neg hn]; simp [up_up]
      · rw [inV_str] at h
        have hn : s ∈ line' := by simpa using h
        exact WSs_nil ⟨rfl, by rw [if_pos hn]⟩
      rintro l H' ⟨rfl, rfl⟩
      have hl2 : (if s ∈ line' then line' else line' ++ [s]).length ≤ line.length + (i + 1) := by
        split
        · omega
        · rw [List.length_append, List.length_singleton]; omega
      refine WSs_cons (WS_If (WB_Compare (gLoc ok.inl hF rfl rfl (gLoc ok.inl hF rfl rfl (Cmp_notIn ok.inl (eG _) (by simp [V.isD]) isD_strs ⟨fun h => ?_, fun h => ?_⟩)))))
      · rw [inV_str] at h
        have hn : s ∉ gone := by simpa using h
        refine WSs_cons (WS_Return (gLoc ok.inl hF rfl rfl ?_))
        rw [hc, corner, if_neg hn] at q
        exact q
      · rw [inV_str] at h
        have hn : s ∈ gone := by simpa using h
        refine WSs_nil (WSs_nil ⟨_, _, rfl, ?_, hl2, rfl⟩)
        rw [hc, corner, if_pos hn]
    · rintro l H' ⟨line', a3, rfl, hc, hl, rfl⟩
      rw [List.length_map, List.drop_length] at hc
      refine ⟨Nxt_list_end (ok.handled (Nat.succ_ne_zero _)) (eB _) (Nat.le_refl _), WSs_nil ?_⟩
      refine WSs_cons (WS_Return (gLoc ok hF rfl rfl ?_))
      rw [hc, corner] at q
      exact q
end Lay.W1
end
noncomputable section
open PySem PySem.W PyProof.Rows PySem.Calls
set_option Elab.async false
set_option maxRecDepth 100000
set_option linter.all false
set_option maxHeartbeats 8000000
namespace Lay.W1
variable {P : Params} {F : Fx} {n : Nat} {loc : Loc} {H : Hp}
noncomputable abbrev toks : List Str := ["x", "y", "z"]
theorem toks_rel (W : Wd (K P) F.c.base) : RelV (fun a => F.c.base.get? a) (.ref 243) (.list (toks.map .str)) :=
  rel_base W (items := #[Value.str (Str.ofString "x") 537, Value.str (Str.ofString "y") 538, Value.str (Str.ofString "z") 539]) (n := 0) rfl (.cons (.str _ _ (ofString_ok _)) (.cons (.str _ _ (ofString_ok _)) (.cons (.str _ _ (ofString_ok _)) .nil)))
noncomputable def rulesV (rules : List (Str × List Str)) : List V := rules.map fun r => .tup [.str r.1, .list (r.2.map .str)]
theorem rulesV_at {rules : List (Str × List Str)} {i : Nat} {r : Str × List Str} (h : rules[i]? = some r) : (rulesV rules)[i]? = some (.tup [.str r.1, .list (r.2.map .str)]) := by
  unfold rulesV; rw [List.getElem?_map, h]; rfl
theorem corner_split {gone : List Str} : ∀ (body line : List Str), ∃ r, corner gone line body = line ++ r
  | [], line => ⟨[], by simp [corner]⟩
  | s :: r, line => by
    unfold corner
    obtain ⟨q, h⟩ := corner_split (gone := gone) r (if s ∈ line then line else line ++ [s])
    have e : ∃ t, (if s ∈ line then line else line ++ [s]) = line ++ t := by
      split
      · exact ⟨[], by simp⟩
      · exact ⟨[s], rfl⟩
    obtain ⟨t, e⟩ := e
    split
    · exact ⟨t ++ q, by rw [h, e, List.append_assoc]⟩
    · exact ⟨t, e⟩
theorem corner_mem {gone : List Str} {x : Str} : ∀ (body line : List Str), x ∈ corner gone line body ↔ x ∈ line ∨ x ∈ corner gone [] body
  | [], line => by simp [corner]
  | s :: r, line => by
    unfold corner
    have e : ∀ l : List Str, x ∈ (if s ∈ l then l else l ++ [s]) ↔ x ∈ l ∨ x = s := fun l => by
      split
      · rename_i h
        exact ⟨.inl, fun z => z.elim id fun z => z ▸ h⟩
      · simp
    split
    · rw [corner_mem r (if s ∈ line then line else line ++ [s]), corner_mem r (if s ∈ [] then [] else [] ++ [s]), e, e]
      simp [or_assoc]
    · rw [e, e]; simp
theorem corner_nodup {gone : List Str} : ∀ (body line : List Str), line.Nodup → (corner gone line body).Nodup
  | [], line, h => h
  | s :: r, line, h => by
    unfold corner
    have e : (if s ∈ line then line else line ++ [s]).Nodup := by
      split
      · exact h
      · rename_i hn
        rw [List.nodup_append]
        exact ⟨h, by simp, fun a ha b hb => by simp at hb; subst hb; exact fun z => hn (z ▸ ha)⟩
    split
    · exact corner_nodup r _ e
    · exact e
theorem corner_sub {gone : List Str} {x : Str} : ∀ (body line : List Str), x ∈ corner gone line body → x ∈ line ∨ x ∈ body
  | [], line, h => .inl h
  | s :: r, line, h => by
    unfold corner at h
    have e : x ∈ (if s ∈ line then line else line ++ [s]) → x ∈ line ∨ x ∈ s :: r := fun z => by
      split at z
      · exact .inl z
      · rcases List.mem_append.mp z with z | z
        · exact .inl z
        · simp at z; subst z; exact .inr (.head _)
    split at h
    · rcases corner_sub r _ h with h | h
      · exact e h
      · exact .inr (.tail _ h)
    · exact e h
inductive Rch (rules : List (Str × List Str)) (gone row : List Str) : Str → Prop
  | base {s} : s ∈ corner gone [] row → Rch rules gone row s
  | step {h b s} : Rch rules gone row h → (h, b) ∈ rules → s ∈ corner gone [] b → Rch rules gone row s
structure Bg (rules : List (Str × List Str)) (gone row line : List Str) : Prop where
  nd : line.Nodup
  sub : ∀ s ∈ corner gone [] row, s ∈ line
  ok : ∀ s ∈ line, Rch rules gone row s
noncomputable def uni (rules : List (Str × List Str)) (row : List Str) : List Str := row ++ (rules.map (·.2)).flatten
theorem Rch.uni {rules : List (Str × List Str)} {gone row : List Str} {s : Str} (h : Rch rules gone row s) : s ∈ uni rules row := by
  have key : ∀ b, s ∈ corner gone [] b → s ∈ b := fun b h => by
    rcases corner_sub _ _ h with h | h
    · cases h
    · exact h
  cases h with
  | base h => exact List.mem_append_left _ (key _ h)
  | step _ hr h => exact List.mem_append_right _ (List.mem_flatten.mpr ⟨_, List.mem_map.mpr ⟨_, hr, rfl⟩, key _ h⟩)
theorem Bg.len {rules : List (Str × List Str)} {gone row line : List Str} (h : Bg rules gone row line) : line.length ≤ (Lay.W1.uni rules row).length := nodup_len h.nd fun x hx => (h.ok x hx).uni
theorem Bg.app {rules : List (Str × List Str)} {gone row line : List Str} (h : Bg rules gone row line) {r : Str × List Str} (hr : r ∈ rules) (hx : r.1 ∈ line) : Bg rules gone row (corner gone line r.2) where
  nd := corner_nodup _ _ h.nd
  sub := fun s hs => (corner_mem _ _).mpr (.inl (h.sub s hs))
  ok := fun s hs => by
    rcases (corner_mem _ _).mp hs with hs | hs
    · exact h.ok s hs
    · exact .step (h.ok _ hx) hr hs
noncomputable def Done (rules : List (Str × List Str)) (gone line : List Str) (p : Nat) : Prop := ∀ q x, q < p → line[q]? = some x → ∀ r ∈ rules, r.1 = x → ∀ s ∈ corner gone [] r.2, s ∈ line
structure BeginsIs (rules : List (Str × List Str)) (gone row res : List Str) : Prop where
  nd : res.Nodup
  mem : ∀ s, s ∈ res ↔ s ∈ toks ∧ Rch rules gone row s
theorem begins_end {rules : List (Str × List Str)} {gone row line : List Str} (h : Bg rules gone row line) (hd : Done rules gone line line.length) : BeginsIs rules gone row (line.filter fun s => s ∈ toks) where
  nd := h.nd.sublist List.filter_sublist
  mem := fun s => by
    have key : ∀ s, Rch rules gone row s → s ∈ line := fun s h2 => by
      induction h2 with
      | base hs => exact h.sub _ hs
      | @step hh b s' _ hr hs ih =>
        obtain ⟨q, hq, e⟩ := List.getElem_of_mem ih
        exact hd q hh hq (by rw [List.getElem?_eq_getElem hq, e]) _ hr rfl _ hs
    rw [List.mem_filter]
    exact ⟨fun ⟨h1, h2⟩ => ⟨of_decide_eq_true h2, h.ok s h1⟩, fun ⟨h1, h2⟩ => ⟨key s h2, decide_eq_true h1⟩⟩
theorem filterMap_str {p : Str → Bool} {f : V → Option V} (hf : ∀ s, f (.str s) = if p s then some (.str s) else none) : ∀ l : List Str, (l.map V.str).filterMap f = (l.filter p).map V.str
  | [] => rfl
  | s :: r => by
    rw [List.map_cons, List.filterMap_cons, hf, List.filter_cons]
    split
    · rename_i h
      split at h
      · cases h
      · rename_i hp; rw [if_neg hp]; exact filterMap_str hf r
    · rename_i h
      split at h
      · rename_i hp; cases h; rw [if_pos hp, List.map_cons, filterMap_str hf r]
      · cases h
noncomputable def flt (p : Str → Bool) : V → Option V
  | .str s => if p s then some (.str s) else none
  | _ => none
theorem flt_map (p : Str → Bool) (l : List Str) : (l.map V.str).filterMap (flt p) = (l.filter p).map V.str := filterMap_str (fun _ => rfl) l
end Lay.W1
end
noncomputable section
open PySem PySem.W PyProof.Rows PySem.Calls
set_option Elab.async false
set_option maxRecDepth 100000
set_option linter.all false
set_option maxHeartbeats 8000000
namespace Lay.W1
variable {P : Params} {F : Fx} {n : Nat} {loc : Loc} {H : Hp}
inductive Be1 (H : Hp) (rules : List (Str × List Str)) (gone : List Str) (row : List Str) (l : Loc) (H' : Hp) : Prop
  | mk (a0 : Addr) (_ : H.Fresh a0) (_ : l = [some (.list (rulesV rules)), some (.list (gone.map .str)), some (.list (row.map .str)), some (.ref a0), none, none, none, none, none]) (_ : { H with L := up H.L a0 ((corner gone [] row).map .str) } = H') : Be1 H rules gone row l H'
inductive Be2 (H : Hp) (rules : List (Str × List Str)) (gone : List Str) (row : List Str) (a0 : Addr) (k : Nat) (l : Loc) (H' : Hp) : Prop
  | mk (line : List Str) (p : Nat) (a5 : Option V) (a6 : Option V) (_ : Bg rules gone row line) (_ : Done rules gone line p) (_ : p ≤ line.length) (_ : k + p = 1001) (_ : l = [some (.list (rulesV rules)), some (.list (gone.map .str)), some (.list (row.map .str)), some (.ref a0), some (.int (p : Nat)), a5, a6, none, none]) (_ : { H with L := up H.L a0 (line.map .str) } = H') : Be2 H rules gone row a0 k l H'
inductive Be3 (H : Hp) (rules : List (Str × List Str)) (gone : List Str) (row : List Str) (a0 : Addr) (line : List Str) (p : Nat) (x : Str) (l : Loc) (H' : Hp) : Prop
  | mk (line' : List Str) (a5 : Option V) (a6 : Option V) (_ : (∃ t, line' = line ++ t)) (_ : Bg rules gone row line') (_ : (∀ r ∈ rules, r.1 = x → ∀ s ∈ corner gone [] r.2, s ∈ line')) (_ : l = [some (.list (rulesV rules)), some (.list (gone.map .str)), some (.list (row.map .str)), some (.ref a0), some (.int (p : Nat)), a5, a6, none, none]) (_ : { H with L := up H.L a0 (line'.map .str) } = H') : Be3 H rules gone row a0 line p x l H'
inductive Be4 (H : Hp) (rules : List (Str × List Str)) (gone : List Str) (row : List Str) (a0 : Addr) (line : List Str) (p : Nat) (x : Str) (i : Nat) (l : Loc) (H' : Hp) : Prop
  | mk (line' : List Str) (a5 : Option V) (a6 : Option V) (_ : (∃ t, line' = line ++ t)) (_ : Bg rules gone row line') (_ : (∀ r ∈ rules.take i, r.1 = x → ∀ s ∈ corner gone [] r.2, s ∈ line')) (_ : l = [some (.list (rulesV rules)), some (.list (gone.map .str)), some (.list (row.map .str)), some (.ref a0), some (.int (p : Nat)), a5, a6, none, none]) (_ : { H with L := up H.L a0 (line'.map .str) } = H') : Be4 H rules gone row a0 line p x i l H'
theorem be_call (ok : Ok F (n + 4)) (W : Wd (K P) F.c.base) {rules : List (Str × List Str)} {gone row : List Str} {Q : V → Loc → Hp → Prop} (hz : rules.length ≤ 100) (hu : (uni rules row).length ≤ 1000)
    (q : ∀ res, BeginsIs rules gone row res → Q (.list (res.map .str)) loc H) : Call F (.ref 267) [.list (rulesV rules), .list (gone.map .str), .list (row.map .str)] loc H Q := by
  refine Call_of (defP ok W ["rules", "gone", "row"] (Vs := [.list (rulesV rules), .list (gone.map .str), .list (row.map .str)]) rfl rfl rfl rfl rfl rfl ?_ rfl ?_)
  · intro vs ws B r1 r2 le
    apply r2.e0
    apply r1.e3
    intro _ _ _ x y z
    exact ⟨[_, _, _], Looks.of_peek W.k rfl, .cons x (.cons y (.cons z .nil))⟩
  · intro F' ok tp W hF
    have hrow : row.length ≤ 1000 := by
      have : (uni rules row).length = row.length + ((rules.map (·.2)).flatten).length := List.length_append
      omega
    refine WSs_midV (Be1 H rules gone row) (fun Q1 b1 => sAsg ok hF rfl (WE_CallN (gGlob ok W hF rfl rfl (.ref _) (WEs_cons (WE_List (WEs_nil ⟨by simp, fun a0 ha => WEs_cons (gLoc ok hF rfl rfl (WEs_cons (gLoc ok hF rfl rfl (WEs_nil ⟨keepK ok W, co_call ok W (line := []) (body := row) (gone := gone) (up_self _ _ _) (fun _ => rfl) (fun _ => rfl) (by simp; omega) (b1.n ⟨a0, ha, rfl, by simp [up_up]⟩)⟩))))⟩)))))) ?_
    rintro l H' ⟨a0, ha, rfl, rfl⟩
    have hget : ∀ xs, asL { H with L := up H.L a0 xs } (.ref a0) = some xs := fun xs => up_self _ _ _
    refine WSs_cons (sAsg ok hF rfl (WE_int ?_))
    have hb0 : Bg rules gone row (corner gone [] row) := ⟨corner_nodup _ _ List.nodup_nil, fun s h => h, fun s h => .base h⟩
    refine WSs_cons (WS_WhileV (Be2 H rules gone row a0) 1001 ⟨_, 0, none, none, hb0, (fun q x h => absurd h (Nat.not_lt_zero _)), Nat.zero_le _, rfl, rfl, rfl⟩ ?_)
    rintro k Q2 b2 l H' ⟨line, p, a5, a6, hb, hd, hp, hk, rfl, rfl⟩
    have hlen := hb.len
    refine WB_Compare (gLoc ok.inl hF rfl rfl (WE_CallN (gBi ok.inl W hF rfl rfl (by boot_by_name) (by decide) (WEs_cons (gLoc ok.inl hF rfl rfl (WEs_nil ⟨keepB ok.inl, Call_len (hget _) (by rw [List.length_map]; omega) (Cmp_lt ⟨fun h => ?_, fun h => ?_⟩)⟩))))))
    · have hlt : p < line.length := by have := of_decide_eq_true h; rw [List.length_map] at this; omega
      generalize hx : line[p] = x
      have hxx : line[p]? = some x := by rw [List.getElem?_eq_getElem hlt, hx]
      have hxm : x ∈ line := List.mem_of_getElem? hxx
      refine WSs_midV (Be3 H rules gone row a0 line p x) (fun Q3 b3 => WS_For (WIt_list (gLoc ok.inl hF rfl rfl ⟨rulesV rules, rfl, ?_⟩))) ?_
      · refine ForOnV (fun i => lstSt_mono i) rules.length (Be4 H rules gone row a0 line p x) ⟨line, a5, a6, ⟨[], by simp⟩, hb, by simp, rfl, rfl⟩ ?_ ?_
        · rintro i Q4 b4 l H' hi ⟨line', a5, a6, ⟨t, ht⟩, hb', hcl, rfl, rfl⟩
          have hri : rules[i]? = some rules[i] := List.getElem?_eq_getElem hi
          have htk : rules.take (i + 1) = rules.take i ++ [rules[i]] := take_snoc hi
          generalize hr : rules[i] = r at *
          have hrm : r ∈ rules := List.mem_of_getElem? hri
          have hlen' := hb'.len
          have hx' : (line'.map V.str)[((p : Nat) : Int).toNat]? = some (.str x) := by
            rw [Int.toNat_natCast, List.getElem?_map, ht, List.getElem?_append_left hlt, hxx]; rfl
          have hxm' : x ∈ line' := by rw [ht]; exact List.mem_append_left _ hxm
          have hbl : r.2.length ≤ 1000 := by
            have h1 : (uni rules row).length = row.length + ((rules.map (·.2)).flatten).length := List.length_append
            have h2 : (r.2).Sublist ((rules.map (·.2)).flatten) := List.sublist_flatten_of_mem (List.mem_map.mpr ⟨_, hrm, rfl⟩)
            have h3 := h2.length_le
            omega
          refine ⟨_, Nxt_list rfl (rulesV_at hri), WA_tuple ok.inl.inl rfl (tLoc ok.inl.inl hF rfl (tLoc ok.inl.inl hF rfl ?_))⟩
          refine WSs_cons (WS_If (WB_Compare (gLoc ok.inl.inl hF rfl rfl (WE_Subscript (gLoc ok.inl.inl hF rfl rfl (gLoc ok.inl.inl hF rfl rfl (Sub_list (hget _) (by omega) (by omega) hx' (Cmp_eqs ⟨fun h => ?_, fun h => ?_⟩))))))))
          · have h := of_decide_eq_true h
            refine WSs_cons (sAsg ok.inl.inl hF rfl (WE_CallN (gGlob ok.inl.inl W hF rfl rfl (.ref _) (WEs_cons (gLoc ok.inl.inl hF rfl rfl (WEs_cons (gLoc ok.inl.inl hF rfl rfl (WEs_cons (gLoc ok.inl.inl hF rfl rfl (WEs_nil ⟨keepK ok.inl.inl W, co_call ok.inl.inl W (line := line') (body := r.2) (gone := gone) (hget _) (fun _ => rfl) (fun _ => rfl) (by omega) (WSs_nil (WSs_nil (b4.n ⟨_, _, _, ?_, hb'.app hrm (h ▸ hxm'), ?_, rfl, by simp [up_up]⟩)))⟩))))))))))
            · obtain ⟨q, hq⟩ := corner_split (gone := gone) r.2 line'
              exact ⟨t ++ q, by rw [hq, ht, List.append_assoc]⟩
            · intro r' hr' e s hs
              rw [htk] at hr'
              rcases List.mem_append.mp hr' with hr' | hr'
              · exact (corner_mem _ _).mpr (.inl (hcl r' hr' e s hs))
              · rw [List.mem_singleton] at hr'; subst hr'
                exact (corner_mem _ _).mpr (.inr hs)
          · have h := of_decide_eq_false h
            refine WSs_nil (WSs_nil (b4.n ⟨line', _, _, ⟨t, ht⟩, hb', ?_, rfl, rfl⟩))
            intro r' hr' e s hs
            rw [htk] at hr'
            rcases List.mem_append.mp hr' with hr' | hr'
            · exact hcl r' hr' e s hs
            · rw [List.mem_singleton] at hr'; subst hr'; exact absurd e h
        · rintro l H' ⟨line', a5, a6, ht, hb', hcl, rfl, rfl⟩
          rw [List.take_length] at hcl
          exact ⟨Nxt_list_end (ok.inl.handled (Nat.succ_ne_zero _)) rfl (by simp [rulesV]), WSs_nil (b3.n ⟨line', a5, a6, ht, hb', hcl, rfl, rfl⟩)⟩
      · rintro l H' ⟨line', a5, a6, ⟨t, ht⟩, hb', hcl, rfl, rfl⟩
        have hlen' := hb'.len
        refine WSs_cons (sAug ok.inl hF rfl rfl (WE_int (Op_iadd (WSs_nil (b2.n ⟨k - 1, by omega, line', p + 1, a5, a6, hb', ?_, ?_, by omega, rfl, rfl⟩)))))
        · intro q y hq e
          have hql : q < line.length := by omega
          rw [ht, List.getElem?_append_left hql] at e
          by_cases hqp : q = p
          · subst hqp
            rw [hxx] at e; cases e
            exact fun r hr e s hs => hcl r hr e s hs
          · exact fun r hr e' s hs => by
              have := hd q y (by omega) e r hr e' s hs
              rw [ht]; exact List.mem_append_left _ this
        · rw [ht, List.length_append]; omega
    · have hlt : p = line.length := by have := of_decide_eq_false h; rw [List.length_map] at this; omega
      subst hlt
      have hend := begins_end hb hd
      refine WSs_nil (WSs_cons (WS_Return (WE_weak (Q' := fun X l H' => X = .list ((line.filter fun s => s ∈ toks).map .str) ∧ H' = { H with L := up H.L a0 (line.map .str) }) (WE_ListComp ok [] (.inr ⟨_, rfl⟩) rfl (by decide) rfl (compDbg ok rfl) (by decide) (WIt_list (gLoc ok hF rfl rfl ⟨line.map .str, hget _, line.map .str, flt fun s => s ∈ toks, ⟨fun i => lstSt_mono i, by rw [List.length_map]; omega, fun C sv E okc => ⟨lstSt_self, fun i x hx => ⟨Nxt_list (hget _) hx, ?_⟩, Nxt_list_end (okc.handled (Nat.succ_ne_zero _)) (hget _) (Nat.le_refl _)⟩⟩, by rw [flt_map], rfl⟩))) ?_)))
      · rw [List.getElem?_map] at hx
        obtain ⟨s, hs, rfl⟩ := Option.map_eq_some_iff.mp hx
        refine tLoc okc (compF ok hF) rfl ⟨rfl, WB_Compare (gLoc okc (compF ok hF) rfl rfl (gGlob okc W (compF ok hF) rfl rfl (toks_rel W) (Cmp_in okc rfl (by simp [V.isD]) isD_strs ⟨rfl, fun hb => gLoc okc (compF ok hF) rfl rfl ⟨rfl, ?_⟩, fun hb => ?_⟩)))⟩
        · rw [inV_str] at hb
          show (if decide (s ∈ toks) then some (V.str s) else none) = some (V.str s)
          rw [if_pos hb]
        · rw [inV_str] at hb
          show (if decide (s ∈ toks) then some (V.str s) else none) = none
          rw [if_neg (by rw [hb]; decide)]
      · rintro X l H' ⟨rfl, rfl⟩
        exact ⟨_, H, LocSub.refl _, subL ha.l, q _ hend⟩
end Lay.W1
end
noncomputable section
open PySem PySem.W PyProof.Rows PySem.Calls
set_option Elab.async false
set_option maxRecDepth 100000
set_option linter.all false
set_option maxHeartbeats 8000000
namespace Lay.W1
variable {P : Params} {F : Fx} {n : Nat} {loc : Loc} {H : Hp}
theorem al_call (ok : Ok F (n + 4)) (W : Wd (K P) F.c.base) {gone row : List Str} {Q : V → Loc → Hp → Prop} (hz : row.length ≤ 1000)
    (q : Q (.bool (decide (∀ s ∈ row, s ∈ gone))) loc H) : Call F (.ref 272) [.list (row.map .str), .list (gone.map .str)] loc H Q := by
  refine Call_of (defC ok W ["row", "gone"] (Vs := [.list (row.map .str), .list (gone.map .str)]) rfl rfl rfl rfl rfl ?_ rfl ?_)
  · intro vs ws B r1 r2 le
    apply r2.e0
    apply r1.e2
    intro _ _ x y
    exact ⟨[_, _], Looks.of_peek W.k rfl, .cons x (.cons y .nil)⟩
  · intro F' L ok tp W hF hf
    have hf1 : H.Fresh (L + 1) := hf "gone" (L + 1) (by with_unfolding_all exact .head _)
    let H1 : Hp := { H with C := up H.C (L + 1) (some (.list (gone.map .str))) }
    show WSs F' _ _ H1 _
    have eG : H1.C (L + 1) = some (some (.list (gone.map .str))) := up_self _ _ _
    refine WSs_cons (WS_Return (WE_weak (Q' := fun X l H' => X = .bool (decide (∀ s ∈ row, s ∈ gone)) ∧ H' = H1) (WE_Compare (WE_CallN (gBi ok W hF rfl rfl (by boot_by_name) (by decide) (WEs_cons (WE_ListComp ok [("gone", L + 1)] (.inr ⟨_, rfl⟩) (closK hF rfl) (by decide) rfl (compDbg ok rfl) (by decide) (WIt_list (gLoc ok hF rfl rfl ⟨row.map .str, rfl, row.map .str, flt fun s => s ∉ gone, ⟨fun i => lstSt_mono i, by rw [List.length_map]; omega, fun C sv E okc => ⟨lstSt_self, fun i x hx => ⟨Nxt_list rfl hx, ?_⟩, Nxt_list_end (okc.handled (Nat.succ_ne_zero _)) rfl (Nat.le_refl _)⟩⟩, WEs_nil ⟨keepB ok, Call_len rfl ?_ (WE_int (Cmp_eqi ⟨?_, rfl⟩))⟩⟩))))))) ?_))
    · rw [List.getElem?_map] at hx
      obtain ⟨s, hs, rfl⟩ := Option.map_eq_some_iff.mp hx
      refine tLoc okc (compF ok hF) rfl ⟨rfl, WB_Compare (gLoc okc (compF ok hF) rfl rfl (gCell okc (compF ok hF) rfl rfl eG (Cmp_notIn okc rfl (by simp [V.isD]) isD_strs ⟨rfl, fun hb => gLoc okc (compF ok hF) rfl rfl ⟨rfl, ?_⟩, fun hb => ?_⟩)))⟩
      · rw [inV_str] at hb
        show (if decide (s ∉ gone) then some (V.str s) else none) = some (V.str s)
        rw [if_pos (by simpa using hb)]
      · rw [inV_str] at hb
        show (if decide (s ∉ gone) then some (V.str s) else none) = none
        rw [if_neg (by simpa using hb)]
    · rw [flt_map, List.length_map]
      have := List.length_filter_le (fun s => decide (s ∉ gone)) row
      omega
    · rw [flt_map, List.length_map]
      congr 1
      rw [decide_eq_decide]
      rw [Int.natCast_eq_zero, List.length_eq_zero_iff, List.filter_eq_nil_iff]
      simp
    · rintro X l H' ⟨rfl, rfl⟩
      exact ⟨_, H, LocSub.refl _, subC hf1.c, q⟩
noncomputable def gstep (rules : List (Str × List Str)) (heads g : List Str) : List Str := heads.filter fun h => decide (∃ r ∈ rules, r.1 = h ∧ ∀ s ∈ r.2, s ∈ g)
noncomputable def giter (rules : List (Str × List Str)) (heads : List Str) : Nat → List Str
  | 0 => []
  | i + 1 => gstep rules heads (giter rules heads i)
noncomputable def fR (p : Str → List Str → Bool) : V → Option V
  | .tup [.str h, .list b] => if p h (b.map unS) then some (.list b) else none
  | _ => none
theorem fR_len (p : Str → List Str → Bool) : ∀ rules : List (Str × List Str), ((rulesV rules).filterMap (fR p)).length = (rules.filter fun r => p r.1 r.2).length
  | [] => rfl
  | r :: rs => by
    have ih := fR_len p rs
    unfold rulesV at ih ⊢
    have e : fR p (.tup [.str r.1, .list (r.2.map .str)]) = if p r.1 r.2 then some (.list (r.2.map .str)) else none := by
      show (if p r.1 ((r.2.map V.str).map unS) then _ else _) = _
      rw [unS_map]
    rw [List.map_cons, List.filterMap_cons, e, List.filter_cons]
    by_cases h : p r.1 r.2 = true
    · rw [if_pos h, if_pos h]; exact congrArg (· + 1) ih
    · rw [if_neg h, if_neg h]; exact ih
theorem go_call (ok : Ok F (n + 4)) (W : Wd (K P) F.c.base) {rules : List (Str × List Str)} {heads : List Str} {Q : V → Loc → Hp → Prop} (hz : rules.length ≤ 100) (hh : heads.length ≤ 100) (hb : ∀ r ∈ rules, r.2.length ≤ 100)
    (q : Q (.list ((giter rules heads heads.length).map .str)) loc H) : Call F (.ref 255) [.list (rulesV rules), .list (heads.map .str)] loc H Q := by
  refine Call_of (defC ok W ["rules", "heads"] (Vs := [.list (rulesV rules), .list (heads.map .str)]) rfl rfl rfl rfl rfl ?_ rfl ?_)
  · intro vs ws B r1 r2 le
    apply r2.e0
    apply r1.e2
    intro _ _ x y
    exact ⟨[_, _], Looks.of_peek W.k rfl, .cons x (.cons y .nil)⟩
  · intro F' L ok tp W hF hf
    have hf2 : H.Fresh (L + 1 + 1) := hf "gone" (L + 1 + 1) (by with_unfolding_all exact .head _)
    have hf1 : H.Fresh (L + 1) := hf "rules" (L + 1) (by with_unfolding_all exact .tail _ (.head _))
    let Hx : Option V → Hp := fun ov => { H with C := up (up H.C (L + 1) (some (.list (rulesV rules)))) (L + 1 + 1) ov }
    have hne : L + 1 ≠ L + 1 + 1 := Nat.ne_of_lt (Nat.lt_succ_self _)
    have eR : ∀ ov, (Hx ov).C (L + 1) = some (some (.list (rulesV rules))) := fun ov => (up_ne hne).trans (up_self _ _ _)
    have eG : ∀ ov, (Hx ov).C (L + 1 + 1) = some ov := fun ov => up_self _ _ _
    have eX : ∀ ov ov', ({ Hx ov with C := up (Hx ov).C (L + 1 + 1) ov' } : Hp) = Hx ov' := fun ov ov' => by show Hp.mk _ _ _ _ _ (up (up _ _ _) _ _) _ = _; rw [up_up]
    show WSs F' _ _ (Hx none) _
    refine WSs_cons (sAsgC ok hF rfl rfl (WE_ListF (WEs_nil ⟨by simp, ⟨_, eG _⟩, ?_⟩)))
    rw [eX]
    refine WSs_cons (WS_For (WIt_range (gBi ok W hF rfl rfl (by boot_by_name) (by decide) ⟨rfl, WEs_cons (WE_CallN (gBi ok W hF rfl rfl (by boot_by_name) (by decide) (WEs_cons (gLoc ok hF rfl rfl (WEs_nil ⟨keepB ok, Call_len rfl (by rw [List.length_map]; omega) (WEs_nil ⟨heads.length, by rw [List.length_map], by omega, ?_⟩)⟩)))))⟩)))
    refine ⟨fun i => rngSt_mono i, heads.length, fun i l H' => ∃ a3, l = [none, some (.list (heads.map .str)), none, a3, none, none] ∧ H' = Hx (some (.list ((giter rules heads i).map .str))), ⟨none, rfl, rfl⟩, ?_, ?_⟩
    · rintro i l H' hi ⟨a3, rfl, rfl⟩
      refine ⟨_, Nxt_rng hi, tLoc ok.inl hF rfl ?_⟩
      generalize hg : giter rules heads i = g
      let p1 : Str → Bool := fun h => decide (∃ r ∈ rules, r.1 = h ∧ ∀ s ∈ r.2, s ∈ g)
      refine WSs_cons (sAsgC ok.inl hF rfl rfl (WE_ListCompC ok.inl "head" [("rules", L + 1), ("gone", L + 1 + 1)] (.inr ⟨_, rfl⟩) (closK hF rfl) rfl rfl (compDbg ok.inl rfl) (by decide) (WIt_list (gLoc ok.inl hF rfl rfl ⟨heads.map .str, rfl, heads.map .str, flt p1, ⟨fun i => lstSt_mono i, by rw [List.length_map]; omega, fun C sv E hfC okc => ⟨lstSt_self, fun j x ov hx => ⟨Nxt_list rfl hx, ?_⟩, fun ov => Nxt_list_end (okc.handled (Nat.succ_ne_zero _)) rfl (Nat.le_refl _)⟩⟩, ⟨_, eG _⟩, ?_⟩))) (swC hF rfl))
      · rw [List.getElem?_map] at hx
        obtain ⟨h, hs, rfl⟩ := Option.map_eq_some_iff.mp hx
        have cR : ∀ ov', ((Hx (some (.list (g.map .str)))).cel (C + 1) ov').C (L + 1) = some (some (.list (rulesV rules))) := fun ov' => (up_ne (hfC.neC (eR _))).trans (eR _)
        have cG : ∀ ov', ((Hx (some (.list (g.map .str)))).cel (C + 1) ov').C (L + 1 + 1) = some (some (.list (g.map .str))) := fun ov' => (up_ne (hfC.neC (eG _))).trans (eG _)
        have cH : ∀ ov', ((Hx (some (.list (g.map .str)))).cel (C + 1) ov').C (C + 1) = some ov' := fun ov' => up_self _ _ _
        refine compTurnC_cell okc (compF ok.inl hF) rfl rfl (WB_Compare (WE_CallN (gBi okc W (compF ok.inl hF) rfl rfl (by boot_by_name) (by decide) (WEs_cons (WE_ListComp okc [("head", C + 1), ("gone", L + 1 + 1)] (.inr ⟨_, rfl⟩) (closK (compF ok.inl hF) rfl) (by decide) rfl (compDbg okc rfl) (by decide) (WIt_list (gCell okc (compF ok.inl hF) rfl rfl (cR _) ⟨rulesV rules, rfl, rulesV rules, fR (fun nm b => decide (nm = h ∧ ∀ s ∈ b, s ∈ g)), ⟨fun i => lstSt_mono i, by simp [rulesV]; omega, fun C2 sv2 E2 okc2 => ⟨lstSt_self, fun k x hx => ⟨Nxt_list rfl hx, ?_⟩, Nxt_list_end (okc2.handled (Nat.succ_ne_zero _)) rfl (Nat.le_refl _)⟩⟩, WEs_nil ⟨keepB okc, Call_len rfl ?_ (WE_int (Cmp_gt ⟨rfl, fun hb => gCell okc (compF ok.inl hF) rfl rfl (cH _) ⟨rfl, ?_⟩, fun hb => ?_⟩))⟩⟩)))))))
        · unfold rulesV at hx
          rw [List.getElem?_map] at hx
          obtain ⟨r, hr, rfl⟩ := Option.map_eq_some_iff.mp hx
          have hrm : r ∈ rules := List.mem_of_getElem? hr
          have hbl := hb r hrm
          have e : fR (fun nm b => decide (nm = h ∧ ∀ s ∈ b, s ∈ g)) (.tup [.str r.1, .list (r.2.map .str)]) = if decide (r.1 = h ∧ ∀ s ∈ r.2, s ∈ g) then some (.list (r.2.map .str)) else none := by
            show (if decide (r.1 = h ∧ ∀ s ∈ (r.2.map V.str).map unS, s ∈ g) then _ else _) = _
            rw [unS_map]
          refine WA_tuple okc2 rfl (tLoc okc2 (compF okc (compF ok.inl hF)) rfl (tLoc okc2 (compF okc (compF ok.inl hF)) rfl ⟨rfl, ?_⟩))
          refine WB_BoolOp (WAll_and_cons (WB_Compare (gLoc okc2 (compF okc (compF ok.inl hF)) rfl rfl (gCell okc2 (compF okc (compF ok.inl hF)) rfl rfl (cH _) (Cmp_eqs ⟨fun h1 => ?_, fun h1 => ⟨rfl, (fun h => nomatch h), fun _ => ?_⟩⟩)))))
          · have h1 := of_decide_eq_true h1
            refine WAll_and_cons (WB_Compare (WE_CallN (gBi okc2 W (compF okc (compF ok.inl hF)) rfl rfl (by boot_by_name) (by decide) (WEs_cons (WE_ListComp okc2 [("gone", L + 1 + 1)] (.inr ⟨_, rfl⟩) (closK (compF okc (compF ok.inl hF)) rfl) (by decide) rfl (compDbg okc2 rfl) (by decide) (WIt_list (gLoc okc2 (compF okc (compF ok.inl hF)) rfl rfl ⟨r.2.map .str, rfl, r.2.map .str, flt fun s => s ∉ g, ⟨fun i => lstSt_mono i, by rw [List.length_map]; omega, fun C3 sv3 E3 okc3 => ⟨lstSt_self, fun m x hx => ⟨Nxt_list rfl hx, ?_⟩, Nxt_list_end (okc3.handled (Nat.succ_ne_zero _)) rfl (Nat.le_refl _)⟩⟩, WEs_nil ⟨keepB okc2, Call_len rfl ?_ (WE_int (Cmp_eqi ⟨fun h2 => WAll_and_nil ⟨rfl, fun _ => gLoc okc2 (compF okc (compF ok.inl hF)) rfl rfl ⟨rfl, ?_⟩, fun h => nomatch h⟩, fun h2 => ⟨rfl, (fun h => nomatch h), fun _ => ?_⟩⟩))⟩⟩)))))))
            · rw [List.getElem?_map] at hx
              obtain ⟨s, hs, rfl⟩ := Option.map_eq_some_iff.mp hx
              refine tLoc okc3 (compF okc2 (compF okc (compF ok.inl hF))) rfl ⟨rfl, WB_Compare (gLoc okc3 (compF okc2 (compF okc (compF ok.inl hF))) rfl rfl (gCell okc3 (compF okc2 (compF okc (compF ok.inl hF))) rfl rfl (cG _) (Cmp_notIn okc3 rfl (by simp [V.isD]) isD_strs ⟨rfl, fun hb => gLoc okc3 (compF okc2 (compF okc (compF ok.inl hF))) rfl rfl ⟨rfl, ?_⟩, fun hb => ?_⟩)))⟩
              · rw [inV_str] at hb
                show (if decide (s ∉ g) then some (V.str s) else none) = some (V.str s)
                rw [if_pos (by simpa using hb)]
              · rw [inV_str] at hb
                show (if decide (s ∉ g) then some (V.str s) else none) = none
                rw [if_neg (by simpa using hb)]
            · rw [flt_map, List.length_map]
              have := List.length_filter_le (fun s => decide (s ∉ g)) r.2
              omega
            · rw [flt_map, List.length_map] at h2
              have h2 := of_decide_eq_true h2
              rw [Int.natCast_eq_zero, List.length_eq_zero_iff, List.filter_eq_nil_iff] at h2
              rw [e, if_pos (decide_eq_true ⟨h1, fun s hs => by simpa using h2 s hs⟩)]
            · rw [flt_map, List.length_map] at h2
              have h2 := of_decide_eq_false h2
              rw [e, if_neg]
              intro h3
              have h3 := of_decide_eq_true h3
              refine h2 ?_
              rw [Int.natCast_eq_zero, List.length_eq_zero_iff, List.filter_eq_nil_iff]
              intro s hs; simpa using h3.2 s hs
          · have h1 := of_decide_eq_false h1
            rw [e, if_neg]
            intro h3
            exact h1 (of_decide_eq_true h3).1
        · rw [fR_len]
          have := List.length_filter_le (fun r : Str × List Str => decide (r.1 = h ∧ ∀ s ∈ r.2, s ∈ g)) rules
          omega
        · rw [fR_len] at hb
          have hb := of_decide_eq_true hb
          have hp : p1 h = true := by
            refine decide_eq_true ?_
            have hl : 0 < (rules.filter fun r => decide (r.1 = h ∧ ∀ s ∈ r.2, s ∈ g)).length := by omega
            obtain ⟨r, hr⟩ := List.exists_mem_of_length_pos hl
            obtain ⟨h1, h2⟩ := List.mem_filter.mp hr
            exact ⟨r, h1, of_decide_eq_true h2⟩
          show (if p1 h then some (V.str h) else none) = some (V.str h)
          rw [if_pos hp]
        · rw [fR_len] at hb
          have hb := of_decide_eq_false hb
          have hp : ¬ p1 h = true := by
            intro hp
            obtain ⟨r, hr, h2⟩ := of_decide_eq_true hp
            have : r ∈ rules.filter fun r => decide (r.1 = h ∧ ∀ s ∈ r.2, s ∈ g) := List.mem_filter.mpr ⟨hr, decide_eq_true h2⟩
            have := List.length_pos_of_mem this
            omega
          show (if p1 h then some (V.str h) else none) = none
          rw [if_neg hp]
      · rw [eX]
        refine WSs_nil ⟨_, rfl, ?_⟩
        rw [flt_map, giter, hg]; rfl
    · rintro l H' ⟨a3, rfl, rfl⟩
      refine ⟨Nxt_rng_end (ok.handled (Nat.succ_ne_zero _)) (Nat.le_refl _), WSs_nil ?_⟩
      refine WSs_cons (WS_Return (WE_weak (Q' := fun X l H' => X = .list ((giter rules heads heads.length).map .str) ∧ H' = Hx (some (.list ((giter rules heads heads.length).map .str)))) (gCell ok hF rfl rfl (eG _) ⟨rfl, rfl⟩) ?_))
      rintro X l H' ⟨rfl, rfl⟩
      exact ⟨_, H, LocSub.refl _, (subC hf1.c).trans (subC ((up_ne hne.symm).trans hf2.c)), q⟩
end Lay.W1
end
noncomputable section
open PySem PySem.W PyProof.Rows PySem.Calls
set_option Elab.async false
set_option maxRecDepth 100000
set_option linter.all false
set_option maxHeartbeats 8000000
namespace Lay.W1
variable {P : Params} {F : Fx} {n : Nat} {loc : Loc} {H : Hp}
noncomputable abbrev abc : List Str := ["A", "B", "C"]
theorem abc_at (i : Int) : ∃ k, (seqIndex? (i % 3) (Str.ofString "ABC").length).bind ((Str.ofString "ABC").cps[·]?) = some k ∧ PyData.strOk ⟨#[k]⟩ = true ∧ (⟨#[k]⟩ : Str) ∈ abc := by
  have h1 : 0 ≤ i % 3 := Int.emod_nonneg _ (by decide)
  have h2 : i % 3 < 3 := Int.emod_lt_of_pos _ (by decide)
  have h3 : i % 3 = 0 ∨ i % 3 = 1 ∨ i % 3 = 2 := by
    have h0 := Int.emod_nonneg i (b := 3) (by decide)
    have h1 := Int.emod_lt_of_pos i (b := 3) (by decide)
    generalize i % 3 = z at h0 h1
    obtain ⟨k, rfl⟩ := Int.eq_ofNat_of_zero_le h0
    match k, Int.ofNat_lt.mp h1 with
    | 0, _ => exact .inl rfl
    | 1, _ => exact .inr (.inl rfl)
    | 2, _ => exact .inr (.inr rfl)
  rcases h3 with h | h | h <;> rw [h]
  · exact ⟨65, by decide +kernel, by decide +kernel, by decide +kernel⟩
  · exact ⟨66, by decide +kernel, by decide +kernel, by decide +kernel⟩
  · exact ⟨67, by decide +kernel, by decide +kernel, by decide +kernel⟩
noncomputable def hd (i : Int) : Str := ⟨#[Classical.choose (abc_at i)]⟩
theorem hd_abc (i : Int) : hd i ∈ abc := (Classical.choose_spec (abc_at i)).2.2
theorem WE_hd (ok : Ok F n) {e : Expr} {k k2 : Nat} {p1 p3 p4 p5 : Pos} {i : Int} {Q : V → Loc → Hp → Prop} (he : WE F e loc H fun X l1 H1 => X = .int i ∧ Q (.str (hd i)) l1 H1) :
    WE F (.Subscript (.Constant (.str (Str.ofString "ABC")) k p1) (.BinOp e .Mod (.Constant (.int 3) k2 p3) p4) p5) loc H Q := by
  have h1 : 0 ≤ i % 3 := Int.emod_nonneg _ (by decide)
  have h2 : i % 3 < 3 := Int.emod_lt_of_pos _ (by decide)
  obtain ⟨h3, h4, _⟩ := Classical.choose_spec (abc_at i)
  exact WE_Subscript (WE_str (WE_BinOp (he.mono fun X l1 H1 ⟨e, q⟩ => e ▸ WE_int (Op_mod (by decide) (Sub_str (by omega) (by omega) h3 h4 q)))))
structure RulesIs (heads : List Str) (rules : List (Str × List Str)) : Prop where
  hn : heads.Nodup
  ha : ∀ h ∈ heads, h ∈ abc
  rn : rules.Nodup
  r0 : 0 < rules.length
  rl : rules.length ≤ 7
  hd : ∀ r ∈ rules, r.1 ∈ heads
  bl : ∀ r ∈ rules, r.2.length ≤ 3
  sg : ∀ r ∈ rules, ∀ s ∈ r.2, s ∈ toks ∨ s ∈ heads
  hr : ∀ h ∈ heads, ∃ r ∈ rules, r.1 = h
theorem rulesV_mem {rules : List (Str × List Str)} {h : Str} {b : List Str} : V.tup [.str h, .list (b.map .str)] ∈ rulesV rules ↔ (h, b) ∈ rules := by
  unfold rulesV
  rw [List.mem_map]
  constructor
  · rintro ⟨⟨h', b'⟩, hm, e⟩
    injection e with e
    injection e with e1 e
    injection e1 with e1
    injection e with e2 e
    injection e2 with e2
    have e3 := congrArg (List.map unS) e2
    rw [unS_map, unS_map] at e3
    subst e1; subst e3; exact hm
  · exact fun hm => ⟨_, hm, rfl⟩
theorem rulesV_isD {rules : List (Str × List Str)} : ∀ y ∈ rulesV rules, y.isD 20 = true := fun y hy => by
  unfold rulesV at hy
  obtain ⟨r, _, rfl⟩ := List.mem_map.mp hy
  simp [V.isD]
theorem mod4 (y : Int) : ∃ sz : Nat, y % 4 = (sz : Int) ∧ sz ≤ 3 := by
  have h0 := Int.emod_nonneg y (b := 4) (by decide)
  have h1 := Int.emod_lt_of_pos y (b := 4) (by decide)
  generalize y % 4 = z at h0 h1
  obtain ⟨k, rfl⟩ := Int.eq_ofNat_of_zero_le h0
  exact ⟨k, rfl, Nat.le_of_lt_succ (Int.ofNat_lt.mp h1)⟩
theorem at_mod {ss : List Str} (z : Int) (h0 : 0 < ss.length) (h1 : ss.length ≤ 10) : ∃ s ∈ ss, 0 ≤ z % ((ss.map V.str).length : Int) ∧ z % ((ss.map V.str).length : Int) < 1000000 ∧ (ss.map V.str)[(z % ((ss.map V.str).length : Int)).toNat]? = some (.str s) ∧ (ss.map V.str).length ≤ 1000000 ∧ (0 : Int) < (ss.map V.str).length ∧ ((ss.map V.str).length : Int) < 1000000000 := by
  rw [List.length_map]
  have m0 := Int.emod_nonneg z (b := (ss.length : Int)) (by omega)
  have m1 := Int.emod_lt_of_pos z (b := (ss.length : Int)) (by omega)
  have hix : (z % (ss.length : Int)).toNat < ss.length := by omega
  exact ⟨ss[(z % (ss.length : Int)).toNat], List.getElem_mem _, m0, by omega, by rw [List.getElem?_map, List.getElem?_eq_getElem hix]; rfl, by omega, by omega, by omega⟩
inductive Rl1 (H : Hp) (SV : V) (l : Loc) (H' : Hp) : Prop
  | mk (ms : List Int) (_ : ms ≠ []) (_ : ms.length ≤ 7) (_ : l = [some SV, some (.list (ms.map .int)), none, none, none, none, none, none, none, none, none, none, none]) (_ : H = H') : Rl1 H SV l H'
inductive Rl2 (H : Hp) (SV : V) (ms : List Int) (a1 : Addr) (l : Loc) (H' : Hp) : Prop
  | mk (heads : List Str) (a3 : Option V) (_ : heads.Nodup) (_ : (∀ h ∈ heads, h ∈ abc ∧ ∃ m ∈ ms, h = hd m)) (_ : (∀ m ∈ ms, hd m ∈ heads)) (_ : l = [some SV, some (.list (ms.map .int)), some (.ref a1), a3, none, none, none, none, none, none, none, none, none]) (_ : { H with L := up H.L a1 (heads.map .str) } = H') : Rl2 H SV ms a1 l H'
inductive Rl3 (H : Hp) (SV : V) (ms : List Int) (a1 : Addr) (i : Nat) (l : Loc) (H' : Hp) : Prop
  | mk (heads : List Str) (a3 : Option V) (_ : heads.Nodup) (_ : (∀ h ∈ heads, h ∈ abc ∧ ∃ m ∈ ms, h = hd m)) (_ : (∀ m ∈ ms.take i, hd m ∈ heads)) (_ : l = [some SV, some (.list (ms.map .int)), some (.ref a1), a3, none, none, none, none, none, none, none, none, none]) (_ : { H with L := up H.L a1 (heads.map .str) } = H') : Rl3 H SV ms a1 i l H'
inductive Rl4 (H : Hp) (ms : List Int) (heads : List Str) (signs : List Str) (a2 : Addr) (L0 : Option V → Option V → Option V → Option V → Option V → Loc) (l : Loc) (H' : Hp) : Prop
  | mk (rules : List (Str × List Str)) (a3 : Option V) (a6 : Option V) (a7 : Option V) (a8 : Option V) (a9 : Option V) (_ : (rules.Nodup ∧ rules.length ≤ ms.length ∧ (∀ r ∈ rules, r.1 ∈ heads ∧ r.2.length ≤ 3 ∧ ∀ s ∈ r.2, s ∈ signs))) (_ : (∀ m ∈ ms, ∃ r ∈ rules, r.1 = hd m)) (_ : l = L0 a3 a6 a7 a8 a9) (_ : { H with L := up H.L a2 (rulesV rules) } = H') : Rl4 H ms heads signs a2 L0 l H'
inductive Rl5 (H : Hp) (ms : List Int) (heads : List Str) (signs : List Str) (a2 : Addr) (L0 : Option V → Option V → Option V → Option V → Option V → Loc) (i : Nat) (l : Loc) (H' : Hp) : Prop
  | mk (rules : List (Str × List Str)) (a3 : Option V) (a6 : Option V) (a7 : Option V) (a8 : Option V) (a9 : Option V) (_ : (rules.Nodup ∧ rules.length ≤ i ∧ (∀ r ∈ rules, r.1 ∈ heads ∧ r.2.length ≤ 3 ∧ ∀ s ∈ r.2, s ∈ signs))) (_ : (∀ m ∈ ms.take i, ∃ r ∈ rules, r.1 = hd m)) (_ : l = L0 a3 a6 a7 a8 a9) (_ : { H with L := up H.L a2 (rulesV rules) } = H') : Rl5 H ms heads signs a2 L0 i l H'
inductive Rl6 (H : Hp) (signs : List Str) (a2 : Addr) (L0 : Option V → Option V → Option V → Option V → Option V → Loc) (rules : List (Str × List Str)) (x : Int) (a4 : Addr) (sz : Nat) (l : Loc) (H' : Hp) : Prop
  | mk (body : List Str) (a6 : Option V) (a9 : Option V) (_ : body.length ≤ 3) (_ : (∀ s ∈ body, s ∈ signs)) (_ : l = L0 (some (.int x)) a6 (some (.int sz)) (some (.ref a4)) a9) (_ : { H with L := up (up H.L a2 (rulesV rules)) a4 (body.map .str) } = H') : Rl6 H signs a2 L0 rules x a4 sz l H'
inductive Rl7 (H : Hp) (signs : List Str) (a2 : Addr) (L0 : Option V → Option V → Option V → Option V → Option V → Loc) (rules : List (Str × List Str)) (x : Int) (a4 : Addr) (sz : Nat) (j : Nat) (l : Loc) (H' : Hp) : Prop
  | mk (body : List Str) (a9 : Option V) (z : Int) (_ : body.length = j) (_ : (∀ s ∈ body, s ∈ signs)) (_ : l = L0 (some (.int x)) (some (.int z)) (some (.int sz)) (some (.ref a4)) a9) (_ : { H with L := up (up H.L a2 (rulesV rules)) a4 (body.map .str) } = H') : Rl7 H signs a2 L0 rules x a4 sz j l H'
theorem rl_call (ok : Ok F (n + 4)) (W : Wd (K P) F.c.base) {SV : V} {ns : List Int} {Q : V → Loc → Hp → Prop} (eS : asL H SV = some (ns.map .int)) (hz : ns.length ≤ 1000)
    (q : ∀ heads rules, RulesIs heads rules → Q (.tup [.list (heads.map .str), .list (rulesV rules)]) loc H) : Call F (.ref 250) [SV] loc H Q := by
  refine Call_of (defP ok W ["script"] (Vs := [SV]) rfl rfl rfl rfl rfl rfl ?_ rfl ?_)
  · intro vs ws B r1 r2 le
    apply r2.e0
    apply r1.e1
    intro _ x
    exact ⟨[_], Looks.of_peek W.k rfl, .cons x .nil⟩
  · intro F' ok tp W hF
    refine WSs_midV (Rl1 H SV) (fun Q1 b1 => sAsg ok hF rfl (WE_IfExp (WB_plain (gLoc ok hF rfl rfl (Tru_list eS (len_map_le hz) ⟨fun h => ?_, fun h => ?_⟩))))) ?_
    · refine WE_SliceL (gLoc ok hF rfl rfl (WOpt_none (WOpt_some (WE_int ⟨7, rfl, _, eS, len_map_le hz, by simp, by simp, b1.n ⟨ns.take 7, ?_, List.length_take_le 7 ns, ?_, rfl⟩⟩))))
      · have h : ns ≠ [] := by rintro rfl; simp at h
        intro e
        rw [List.take_eq_nil_iff] at e
        rcases e with e | e
        · cases e
        · exact h e
      · have : cut (ns.map V.int) none (some 7) = (ns.take 7).map .int := by simp [cut]
        rw [this]; rfl
    · exact WE_ListF (WEs_cons (WE_int (WEs_nil ⟨by simp, b1.n ⟨[0], by simp, by simp, rfl, rfl⟩⟩)))
    rintro l H' ⟨ms, hms, hml, rfl, rfl⟩
    refine WSs_cons (sAsg ok hF rfl (WE_List (WEs_nil ⟨by simp, fun a1 ha1 => ?_⟩)))
    refine WSs_midV (Rl2 H SV ms a1) (fun Q2 b2 => WS_For (WIt_list (gLoc ok hF rfl rfl ⟨_, rfl, ?_⟩))) ?_
    · refine ForOnV (fun i => lstSt_mono i) ms.length (Rl3 H SV ms a1) ⟨[], none, List.nodup_nil, by simp, by simp, rfl, rfl⟩ ?_ ?_
      · rintro i Q3 b3 l H' hi ⟨heads, a3, hn, ha, hm, rfl, rfl⟩
        have hget : asL { H with L := up H.L a1 (heads.map .str) } (.ref a1) = some (heads.map .str) := up_self _ _ _
        have hlen : heads.length ≤ 3 := nodup_len (m := abc) hn fun h hh => (ha h hh).1
        have htk : ms.take (i + 1) = ms.take i ++ [ms[i]] := take_snoc hi
        have hxm : ms[i] ∈ ms := List.getElem_mem hi
        generalize hx : ms[i] = x at *
        refine ⟨.int x, Nxt_list rfl (by simp [hi, hx]), tLoc ok.inl hF rfl ?_⟩
        refine WSs_cons (WS_If (WB_Compare (WE_hd ok.inl (gLoc ok.inl hF rfl rfl ⟨rfl, gLoc ok.inl hF rfl rfl (Cmp_notIn ok.inl hget (by simp [V.isD]) isD_strs ⟨fun h => ?_, fun h => ?_⟩)⟩))))
        · rw [inV_str] at h
          have hn' : hd x ∉ heads := by simpa using h
          refine WSs_cons (sExpr ok.inl (WE_CallM (gLoc ok.inl hF rfl rfl (MGet_append hget (WEs_cons (WE_hd ok.inl (gLoc ok.inl hF rfl rfl ⟨rfl, WEs_nil ⟨keepB ok.inl, Call_append hget (len_map_le hlen) (WSs_nil (WSs_nil (b3.n ⟨heads ++ [hd x], _, ?_, ?_, ?_, rfl, by simp [up_up]⟩)))⟩⟩)))))))
          · rw [List.nodup_append]
            exact ⟨hn, by simp, fun a ha b hb => by simp at hb; subst hb; exact fun z => hn' (z ▸ ha)⟩
          · intro h hh
            rcases List.mem_append.mp hh with hh | hh
            · exact ha h hh
            · simp at hh; subst hh; exact ⟨hd_abc x, x, hxm, rfl⟩
          · intro m hmm
            rw [htk] at hmm
            rcases List.mem_append.mp hmm with hmm | hmm
            · exact List.mem_append_left _ (hm m hmm)
            · simp at hmm; subst hmm; simp
        · rw [inV_str] at h
          have hn' : hd x ∈ heads := by simpa using h
          refine WSs_nil (WSs_nil (b3.n ⟨heads, _, hn, ha, ?_, rfl, rfl⟩))
          intro m hmm
          rw [htk] at hmm
          rcases List.mem_append.mp hmm with hmm | hmm
          · exact hm m hmm
          · simp at hmm; subst hmm; exact hn'
      · rintro l H' ⟨heads, a3, hn, ha, hm, rfl, rfl⟩
        rw [List.take_length] at hm
        exact ⟨Nxt_list_end (ok.handled (Nat.succ_ne_zero _)) rfl (by simp), WSs_nil (b2.n ⟨heads, a3, hn, ha, hm, rfl, rfl⟩)⟩
    rintro l H' ⟨heads, a3, hn, hab, hm, rfl, rfl⟩
    have hlen : heads.length ≤ 3 := nodup_len (m := abc) hn fun h hh => (hab h hh).1
    -- heads is frozen
    refine WSs_frz (i := 2) (X' := .list (heads.map .str)) (H' := H) rfl (by have := Frz.list (a := a1) (H := { H with L := up H.L a1 (heads.map .str) }) (up_self _ _ _); rw [un_up ha1.l] at this; exact this) ?_
    let signs : List Str := toks ++ heads
    refine WSs_cons (sAsg ok hF rfl (WE_frz (WE_BinOp (gGlob ok W hF rfl rfl (toks_rel W) (gLoc ok hF rfl rfl (Op_addL rfl rfl (by simp; omega) fun a ha => ⟨_, _, Frz.list (up_self _ _ _), ?_⟩))))))
    rw [un_up ha.l, ← List.map_append]
    refine WSs_cons (sAsg ok hF rfl (WE_List (WEs_nil ⟨by simp, fun a2 ha2 => ?_⟩)))
    let L0 (a3 a6 a7 a8 a9 : Option V) : Loc := [some SV, some (.list (ms.map .int)), some (.list (heads.map .str)), a3, some (.list (signs.map .str)), some (.ref a2), a6, a7, a8, a9, none, none, none]
    refine WSs_midV (Rl4 H ms heads signs a2 L0) (fun Q4 b4 => WS_For (WIt_list (gLoc ok hF rfl rfl ⟨_, rfl, ?_⟩))) ?_
    · refine ForOnV (fun i => lstSt_mono i) ms.length (Rl5 H ms heads signs a2 L0) ⟨[], a3, none, none, none, none, ⟨List.nodup_nil, by simp, by simp⟩, by simp, rfl, rfl⟩ ?_ ?_
      · rintro i Q5 b5 l H' hi ⟨rules, a3, a6, a7, a8, a9, ⟨rn, rl, rk⟩, hm2, rfl, rfl⟩
        have htk : ms.take (i + 1) = ms.take i ++ [ms[i]] := take_snoc hi
        have hxm : hd ms[i] ∈ heads := hm _ (List.getElem_mem hi)
        generalize hx : ms[i] = x at *
        have hget : ∀ xs, asL { H with L := up H.L a2 xs } (.ref a2) = some xs := fun xs => up_self _ _ _
        refine ⟨.int x, Nxt_list rfl (by simp [hi, hx]), tLoc ok.inl hF rfl ?_⟩
        refine WSs_cons (sAsg ok.inl hF rfl (WE_BinOp (gLoc ok.inl hF rfl rfl (WE_int (Op_fdiv (by decide) (by decide) ?_)))))
        refine WSs_cons (sAsg ok.inl hF rfl (WE_BinOp (gLoc ok.inl hF rfl rfl (WE_int (Op_mod (by decide) ?_)))))
        refine WSs_cons (sAsg ok.inl hF rfl (WE_BinOp (gLoc ok.inl hF rfl rfl (WE_int (Op_fdiv (by decide) (by decide) ?_)))))
        refine WSs_cons (sAsg ok.inl hF rfl (WE_List (WEs_nil ⟨by simp, fun a4 ha4 => ?_⟩)))
        have hne : a4 ≠ a2 := (frL ha4).1
        have hf4 : H.Fresh a4 := (frL ha4).2
        obtain ⟨sz, hsz, hsz3⟩ := mod4 (x / 3)
        rw [hsz]
        refine WSs_midV (Rl6 H signs a2 L0 rules x a4 sz) (fun Q6 b6 => WS_For (WIt_range (gBi ok.inl W hF rfl rfl (by boot_by_name) (by decide) ⟨rfl, WEs_cons (gLoc ok.inl hF rfl rfl (WEs_nil ⟨sz, rfl, Nat.lt_of_le_of_lt hsz3 (by decide), ?_⟩))⟩))) ?_
        · refine ForOnV (fun i => rngSt_mono i) sz (Rl7 H signs a2 L0 rules x a4 sz) ⟨[], a9, _, rfl, by simp, rfl, rfl⟩ ?_ ?_
          · rintro j Q7 b7 l H' hj ⟨body, a9, z, hbl, hbs, rfl, rfl⟩
            have hg4 : asL { H with L := up (up H.L a2 (rulesV rules)) a4 (body.map .str) } (.ref a4) = some (body.map .str) := up_self _ _ _
            obtain ⟨sg, hsm, m0, m1, hat, hl1, hl2, hl3⟩ := at_mod (ss := signs) z (by simp [signs]) (by simp [signs]; omega)
            refine ⟨_, Nxt_rng hj, tLoc ok.inl.inl hF rfl ?_⟩
            refine WSs_cons (sExpr ok.inl.inl (WE_CallM (gLoc ok.inl.inl hF rfl rfl (MGet_append hg4 (WEs_cons (WE_Subscript (gLoc ok.inl.inl hF rfl rfl (WE_BinOp (gLoc ok.inl.inl hF rfl rfl (WE_CallN (gBi ok.inl.inl W hF rfl rfl (by boot_by_name) (by decide) (WEs_cons (gLoc ok.inl.inl hF rfl rfl (WEs_nil ⟨keepB ok.inl.inl, Call_len rfl hl1 (Op_mod hl2 (Sub_list rfl m0 m1 hat (WEs_nil ⟨keepB ok.inl.inl, Call_append hg4 (len_map_le (Nat.le_of_eq hbl) (Nat.le_trans (Nat.le_of_lt hj) (Nat.le_trans hsz3 (by decide)))) ?_⟩)))⟩))))))))))))))
            refine WSs_cons (sAsg ok.inl.inl hF rfl (WE_BinOp (gLoc ok.inl.inl hF rfl rfl (WE_CallN (gBi ok.inl.inl W hF rfl rfl (by boot_by_name) (by decide) (WEs_cons (gLoc ok.inl.inl hF rfl rfl (WEs_nil ⟨keepB ok.inl.inl, Call_len rfl hl1 (Op_fdiv hl2 hl3 (WSs_nil (b7.n ⟨body ++ [sg], _, _, by simp [hbl], ?_, rfl, by simp [up_up]⟩)))⟩))))))))
            intro s hs
            rcases List.mem_append.mp hs with hs | hs
            · exact hbs s hs
            · simp at hs; subst hs; exact hsm
          · rintro l H' ⟨body, a9, z, hbl, hbs, rfl, rfl⟩
            exact ⟨Nxt_rng_end (ok.inl.handled (Nat.succ_ne_zero _)) (Nat.le_refl _), WSs_nil (b6.n ⟨body, _, a9, Nat.le_trans (Nat.le_of_eq hbl) hsz3, hbs, rfl, rfl⟩)⟩
        rintro l H' ⟨body, a6, a9, hbl, hbs, rfl, rfl⟩
        refine WSs_frz (i := 8) (X' := .list (body.map .str)) (H' := { H with L := up H.L a2 (rulesV rules) }) rfl (by have := Frz.list (a := a4) (H := { H with L := up (up H.L a2 (rulesV rules)) a4 (body.map .str) }) (up_self _ _ _); rw [un_up ((up_ne hne).trans hf4.l)] at this; exact this) ?_
        refine WSs_cons (WS_If (WB_Compare (WE_Tuple (WEs_cons (WE_hd ok.inl (gLoc ok.inl hF rfl rfl ⟨rfl, WEs_cons (gLoc ok.inl hF rfl rfl (WEs_nil ⟨by simp, gLoc ok.inl hF rfl rfl (Cmp_notIn ok.inl (hget _) (by simp [V.isD]) rulesV_isD ⟨fun h => ?_, fun h => ?_⟩)⟩))⟩))))))
        · have hn' : (hd x, body) ∉ rules := by
            intro z
            rw [inV_iff.mpr (rulesV_mem.mpr z)] at h; cases h
          refine WSs_cons (sExpr ok.inl (WE_CallM (gLoc ok.inl hF rfl rfl (MGet_append (hget _) (WEs_cons (WE_Tuple (WEs_cons (WE_hd ok.inl (gLoc ok.inl hF rfl rfl ⟨rfl, WEs_cons (gLoc ok.inl hF rfl rfl (WEs_nil ⟨by simp, WEs_nil ⟨keepB ok.inl, Call_append (hget _) (by simp [rulesV]; omega) (WSs_nil (WSs_nil (b5.n ⟨rules ++ [(hd x, body)], _, _, _, _, _, ⟨?_, by rw [List.length_append]; exact Nat.succ_le_succ rl, ?_⟩, ?_, rfl, by simp [up_up, rulesV]⟩)))⟩⟩))⟩)))))))))
          · rw [List.nodup_append]
            exact ⟨rn, by simp, fun a ha b hb => by simp at hb; subst hb; exact fun z => hn' (z ▸ ha)⟩
          · intro r hr
            rcases List.mem_append.mp hr with hr | hr
            · exact rk r hr
            · simp at hr; subst hr; exact ⟨hxm, hbl, hbs⟩
          · intro m hmm
            rw [htk] at hmm
            rcases List.mem_append.mp hmm with hmm | hmm
            · obtain ⟨r, hr, e⟩ := hm2 m hmm
              exact ⟨r, List.mem_append_left _ hr, e⟩
            · simp at hmm; subst hmm; exact ⟨_, List.mem_append_right _ (.head _), rfl⟩
        · have hn' : (hd x, body) ∈ rules := by
            refine rulesV_mem.mp (inV_iff.mp ?_)
            simpa using h
          refine WSs_nil (WSs_nil (b5.n ⟨rules, _, _, _, _, _, ⟨rn, Nat.le_succ_of_le rl, rk⟩, ?_, rfl, rfl⟩))
          intro m hmm
          rw [htk] at hmm
          rcases List.mem_append.mp hmm with hmm | hmm
          · exact hm2 m hmm
          · simp at hmm; subst hmm; exact ⟨_, hn', rfl⟩
      · rintro l H' ⟨rules, a3, a6, a7, a8, a9, ⟨rn, rl, rk⟩, hm2, rfl, rfl⟩
        rw [List.take_length] at hm2
        exact ⟨Nxt_list_end (ok.handled (Nat.succ_ne_zero _)) rfl (by simp), WSs_nil (b4.n ⟨rules, a3, a6, a7, a8, a9, ⟨rn, rl, rk⟩, hm2, rfl, rfl⟩)⟩
    rintro l H' ⟨rules, a3, a6, a7, a8, a9, ⟨rn, rl, rk⟩, hm2, rfl, rfl⟩
    have hR : RulesIs heads rules := by
      refine ⟨hn, fun h hh => (hab h hh).1, rn, ?_, Nat.le_trans rl hml, fun r hr => (rk r hr).1, fun r hr => (rk r hr).2.1, fun r hr s hs => List.mem_append.mp ((rk r hr).2.2 s hs), ?_⟩
      · obtain ⟨m, hmm⟩ := List.exists_mem_of_ne_nil _ hms
        obtain ⟨r, hr, _⟩ := hm2 m hmm
        exact List.length_pos_of_mem hr
      · intro h hh
        obtain ⟨_, m, hmm, rfl⟩ := hab h hh
        exact hm2 m hmm
    refine WSs_cons (WS_Return (WE_Tuple (WEs_cons (gLoc ok hF rfl rfl (WEs_cons (WE_frz (gLoc ok hF rfl rfl ⟨_, _, Frz.list (up_self _ _ _), WEs_nil ⟨by simp, ?_⟩⟩)))))))
    rw [un_up ha2.l]
    exact q _ _ hR
end Lay.W1
end
noncomputable section
open PySem PySem.W PyProof.Rows PySem.Calls
set_option Elab.async false
set_option maxRecDepth 100000
set_option linter.all false
set_option maxHeartbeats 8000000
namespace Lay.W1
inductive Nul (rules : List (Str × List Str)) : Str → Prop
  | mk {h b} : (h, b) ∈ rules → (∀ s ∈ b, Nul rules s) → Nul rules h
variable {rules : List (Str × List Str)} {heads N : List Str} {fi fo : Str → List Str}
theorem gstep_mono {g g' : List Str} (h : ∀ s ∈ g, s ∈ g') : ∀ x, decide (∃ r ∈ rules, r.1 = x ∧ ∀ s ∈ r.2, s ∈ g) = true → decide (∃ r ∈ rules, r.1 = x ∧ ∀ s ∈ r.2, s ∈ g') = true := fun x hx => by
  obtain ⟨r, hr, e, k⟩ := of_decide_eq_true hx
  exact decide_eq_true ⟨r, hr, e, fun s hs => h s (k s hs)⟩
theorem gstep_sub {g g' : List Str} (h : ∀ s ∈ g, s ∈ g') : ∀ s ∈ gstep rules heads g, s ∈ gstep rules heads g' := fun s hs => by
  unfold gstep at hs ⊢
  rw [List.mem_filter] at hs ⊢
  exact ⟨hs.1, gstep_mono h s hs.2⟩
theorem giter_sub : ∀ i, ∀ s ∈ giter rules heads i, s ∈ giter rules heads (i + 1)
  | 0, s, h => by cases h
  | i + 1, s, h => gstep_sub (giter_sub i) s h
theorem filter_len_le {p q : Str → Bool} (h : ∀ x, p x = true → q x = true) : ∀ l : List Str, (l.filter p).length ≤ (l.filter q).length ∧ ((l.filter p).length = (l.filter q).length → l.filter p = l.filter q)
  | [] => ⟨Nat.le_refl _, fun _ => rfl⟩
  | x :: l => by
    obtain ⟨h1, h2⟩ := filter_len_le h l
    rw [List.filter_cons, List.filter_cons]
    by_cases hp : p x = true
    · rw [if_pos hp, if_pos (h x hp)]
      exact ⟨by simpa using h1, fun e => by rw [h2 (by simpa using e)]⟩
    · rw [if_neg hp]
      by_cases hq : q x = true
      · rw [if_pos hq]
        refine ⟨by simp; omega, fun e => ?_⟩
        simp at e; omega
      · rw [if_neg hq]; exact ⟨h1, h2⟩
theorem gstep_len {g g' : List Str} (h : ∀ s ∈ g, s ∈ g') : (gstep rules heads g).length ≤ (gstep rules heads g').length ∧ ((gstep rules heads g).length = (gstep rules heads g').length → gstep rules heads g = gstep rules heads g') :=
  filter_len_le (gstep_mono h) heads
theorem giter_grow : ∀ i, giter rules heads (i + 1) = giter rules heads i ∨ i < (giter rules heads (i + 1)).length
  | 0 => by
    cases h : giter rules heads 1 with
    | nil => exact .inl rfl
    | cons x r => exact .inr (by simp)
  | i + 1 => by
    rcases giter_grow i with h | h
    · left
      show gstep rules heads (giter rules heads (i + 1)) = gstep rules heads (giter rules heads i)
      rw [h]
    · obtain ⟨h1, h2⟩ := gstep_len (rules := rules) (heads := heads) (giter_sub (rules := rules) (heads := heads) i)
      by_cases e : (giter rules heads (i + 1)).length = (giter rules heads (i + 1 + 1)).length
      · exact .inl (h2 e).symm
      · right
        have : (giter rules heads (i + 1)).length ≤ (giter rules heads (i + 1 + 1)).length := h1
        omega
theorem giter_fix : gstep rules heads (giter rules heads heads.length) = giter rules heads heads.length := by
  rcases giter_grow (rules := rules) (heads := heads) heads.length with h | h
  · exact h
  · have : (giter rules heads (heads.length + 1)).length ≤ heads.length := List.length_filter_le _ _
    omega
theorem giter_heads {i : Nat} {s : Str} (h : s ∈ giter rules heads i) : s ∈ heads := by
  cases i with
  | zero => cases h
  | succ i => exact (List.mem_filter.mp h).1
theorem giter_nul : ∀ (i : Nat) (s : Str), s ∈ giter rules heads i → Nul rules s
  | 0, s, h => by cases h
  | i + 1, s, h => by
    obtain ⟨h1, h2⟩ := List.mem_filter.mp h
    obtain ⟨⟨a, b⟩, hr, e, k⟩ := of_decide_eq_true h2
    dsimp only at e; subst e
    exact .mk hr fun s hs => giter_nul i s (k s hs)
noncomputable abbrev gon (rules : List (Str × List Str)) (heads : List Str) : List Str := giter rules heads heads.length
theorem gone_iff (R : RulesIs heads rules) (s : Str) : s ∈ gon rules heads ↔ Nul rules s := by
  refine ⟨giter_nul _ s, fun h => ?_⟩
  induction h with
  | @mk h b hr hb ih =>
    unfold gon
    rw [← giter_fix]
    exact List.mem_filter.mpr ⟨R.hd _ hr, decide_eq_true ⟨_, hr, rfl, ih⟩⟩
theorem fsAdd_keep {f : Str} : ∀ {l acc : List Str}, f ∈ acc → f ∈ fsAdd acc l
  | [], acc, h => h
  | x :: r, acc, h => by
    unfold fsAdd
    split
    · exact fsAdd_keep h
    · split
      · exact fsAdd_keep h
      · exact fsAdd_keep (List.mem_append_left _ h)
theorem fsAdd_in {f : Str} (hf : f ≠ eps) : ∀ {l acc : List Str}, f ∈ l → f ∈ fsAdd acc l
  | x :: r, acc, h => by
    unfold fsAdd
    rcases List.mem_cons.mp h with rfl | h
    · rw [if_neg hf]
      split
      · exact fsAdd_keep ‹_›
      · exact fsAdd_keep (List.mem_append_right _ (.head _))
    · split
      · exact fsAdd_in hf h
      · split
        · exact fsAdd_in hf h
        · exact fsAdd_in hf h
theorem fsAdd_eps : ∀ {l acc : List Str}, eps ∉ acc → eps ∉ fsAdd acc l
  | [], acc, h => h
  | x :: r, acc, h => by
    unfold fsAdd
    split
    · exact fsAdd_eps h
    · rename_i hx
      split
      · exact fsAdd_eps h
      · refine fsAdd_eps fun z => ?_
        rcases List.mem_append.mp z with z | z
        · exact h z
        · simp at z; exact hx z.symm
theorem fsRun_keep {f : Str} : ∀ {l acc : List Str}, f ∈ acc → f ∈ fsRun fi acc l
  | [], acc, h => List.mem_append_left _ h
  | x :: r, acc, h => by
    unfold fsRun
    split
    · exact fsRun_keep (fsAdd_keep h)
    · exact fsAdd_keep h
theorem fsRun_eps : ∀ {l acc : List Str}, eps ∉ acc → (eps ∈ fsRun fi acc l ↔ ∀ s ∈ l, eps ∈ fi s)
  | [], acc, h => by simp [fsRun]
  | x :: r, acc, h => by
    unfold fsRun
    split
    · rename_i hx
      rw [fsRun_eps (fsAdd_eps h)]
      simp [hx]
    · rename_i hx
      exact ⟨fun z => absurd z (fsAdd_eps h), fun z => absurd (z x (.head _)) hx⟩
theorem fsRun_from {f : Str} (hf : f ≠ eps) : ∀ {l acc : List Str}, f ∈ fsRun fi acc l → f ∈ acc ∨ ∃ p s q, l = p ++ s :: q ∧ (∀ x ∈ p, eps ∈ fi x) ∧ f ∈ fi s
  | [], acc, h => by
    rcases List.mem_append.mp h with h | h
    · exact .inl h
    · simp at h; exact absurd h hf
  | x :: r, acc, h => by
    have hx : f ∈ fsAdd acc (fi x) → f ∈ acc ∨ ∃ p s q, x :: r = p ++ s :: q ∧ (∀ x ∈ p, eps ∈ fi x) ∧ f ∈ fi s := fun h => by
      rcases fsAdd_mem h with h | h
      · exact .inl h
      · exact .inr ⟨[], x, r, rfl, by simp, h⟩
    unfold fsRun at h
    split at h
    · rename_i he
      rcases fsRun_from hf h with h | ⟨p, s, q, e, hp, hs⟩
      · exact hx h
      · exact .inr ⟨x :: p, s, q, by rw [e]; rfl, fun y hy => by
          rcases List.mem_cons.mp hy with rfl | hy
          · exact he
          · exact hp y hy, hs⟩
    · exact hx h
theorem fsRun_to {f : Str} (hf : f ≠ eps) {s : Str} {q : List Str} (hs : f ∈ fi s) : ∀ {p acc : List Str}, (∀ x ∈ p, eps ∈ fi x) → f ∈ fsRun fi acc (p ++ s :: q)
  | [], acc, _ => by
    show f ∈ fsRun fi acc (s :: q)
    unfold fsRun
    split
    · exact fsRun_keep (fsAdd_in hf hs)
    · exact fsAdd_in hf hs
  | x :: p, acc, h => by
    show f ∈ fsRun fi acc (x :: (p ++ s :: q))
    unfold fsRun
    rw [if_pos (h x (.head _))]
    exact fsRun_to hf hs fun y hy => h y (.tail _ hy)
theorem corner_from {gone : List Str} {s : Str} : ∀ {b line : List Str}, s ∈ corner gone line b → s ∈ line ∨ ∃ p q, b = p ++ s :: q ∧ ∀ x ∈ p, x ∈ gone
  | [], line, h => .inl h
  | x :: r, line, h => by
    have hx : s ∈ (if x ∈ line then line else line ++ [x]) → s ∈ line ∨ ∃ p q, x :: r = p ++ s :: q ∧ ∀ x ∈ p, x ∈ gone := fun h => by
      split at h
      · exact .inl h
      · rcases List.mem_append.mp h with h | h
        · exact .inl h
        · simp at h; subst h; exact .inr ⟨[], r, rfl, by simp⟩
    unfold corner at h
    split at h
    · rename_i hg
      rcases corner_from h with h | ⟨p, q, e, hp⟩
      · exact hx h
      · exact .inr ⟨x :: p, q, by rw [e]; rfl, fun y hy => by
          rcases List.mem_cons.mp hy with rfl | hy
          · exact hg
          · exact hp y hy⟩
    · exact hx h
theorem corner_keep {gone : List Str} {s : Str} {b line : List Str} (h : s ∈ line) : s ∈ corner gone line b := (corner_mem b line).mpr (.inl h)
theorem corner_to {gone : List Str} {s : Str} {q : List Str} : ∀ {p line : List Str}, (∀ x ∈ p, x ∈ gone) → s ∈ corner gone line (p ++ s :: q)
  | [], line, _ => by
    show s ∈ corner gone line (s :: q)
    unfold corner
    have : s ∈ (if s ∈ line then line else line ++ [s]) := by
      split
      · assumption
      · simp
    split
    · exact corner_keep this
    · exact this
  | x :: p, line, h => by
    show s ∈ corner gone line (x :: (p ++ s :: q))
    unfold corner
    rw [if_pos (h x (.head _))]
    exact corner_to fun y hy => h y (.tail _ hy)
theorem Rch.trans {gone row : List Str} {s f : Str} (h0 : Rch rules gone row s) (h : Rch rules gone [s] f) : Rch rules gone row f := by
  induction h with
  | base h =>
    rcases corner_from h with h | ⟨p, q, e, _⟩
    · cases h
    · cases p with
      | nil => injection e with e _; subst e; exact h0
      | cons y p => injection e with _ e; cases p <;> cases e
  | step _ hr hb ih => exact .step ih hr hb
theorem Rch.one {gone : List Str} (s : Str) : Rch rules gone [s] s := .base (corner_to (p := []) (q := []) (by simp))
noncomputable abbrev TT : List Str := toks ++ [("error" : Str)]
theorem tt_ne {s : Str} (h : s ∈ TT ++ [fin]) : s ≠ eps ∧ s ∉ abc := by
  have : ∀ s ∈ TT ++ [fin], s ≠ eps ∧ s ∉ abc := by decide +kernel
  exact this s h
theorem toks_sub {s : Str} (h : s ∈ toks) : s ∈ TT ++ [fin] := List.mem_append_left _ (List.mem_append_left _ h)
variable (R : RulesIs heads rules) (hN : ∀ s, s ∈ N ↔ s ∈ heads) (hF : FirstIs TT N rules fi)
include R hN hF
theorem first_eps {h : Str} (hh : h ∈ heads) : eps ∈ fi h ↔ h ∈ gon rules heads := by
  rw [gone_iff R]
  constructor
  · intro he
    refine hF.least (fun s f => f = eps → Nul rules s) ⟨fun s hs e => absurd e (tt_ne hs).1, fun r hr fi' hfi f hf e => ?_⟩ h (by simp [(hN h).mpr hh]) eps he rfl
    subst e
    rw [fsRun_eps (by simp)] at hf
    exact .mk (b := r.2) hr fun s hs => hfi s hs eps (hf s hs) rfl
  · intro hn
    clear hh
    induction hn with
    | @mk h b hr hb ih => exact hF.closed _ hr eps ((fsRun_eps (by simp)).mpr ih)
theorem sign_eps {s : Str} (hs : s ∈ toks ∨ s ∈ heads) : eps ∈ fi s ↔ s ∈ gon rules heads := by
  rcases hs with hs | hs
  · rw [hF.base s (toks_sub hs)]
    have h1 := tt_ne (toks_sub hs)
    refine ⟨fun h => ?_, fun h => absurd (R.ha s (giter_heads h)) h1.2⟩
    simp at h; exact absurd h.symm h1.1
  · exact first_eps R hN hF hs
theorem first_rch {h f : Str} (hh : h ∈ heads) (hf : f ∈ fi h) (he : f ≠ eps) : f ∈ TT ++ [fin] ∧ Rch rules (gon rules heads) [h] f := by
  have key := hF.least (fun s f => (f = eps ∧ Nul rules s) ∨ (f ∈ TT ++ [fin] ∧ Rch rules (gon rules heads) [s] f)) ⟨fun s hs => .inr ⟨hs, .one s⟩, fun r hr fi' hfi f hf => ?_⟩ h (by simp [(hN h).mpr hh]) f hf
  · rcases key with ⟨e, _⟩ | k
    · exact absurd e he
    · exact k
  · by_cases e : f = eps
    · subst e
      left
      refine ⟨rfl, .mk (b := r.2) hr fun s hs => ?_⟩
      rcases hfi s hs eps ((fsRun_eps (by simp)).mp hf s hs) with k | k
      · exact k.2
      · exact absurd rfl (tt_ne k.1).1
    · right
      rcases fsRun_from e hf with h | ⟨p, s, q, eq, hp, hs⟩
      · cases h
      · have hs2 : s ∈ r.2 := by rw [eq]; simp
        rcases hfi s hs2 f hs with k | ⟨k1, k2⟩
        · exact absurd k.1 e
        · refine ⟨k1, ?_⟩
          have hc : s ∈ corner (gon rules heads) [] r.2 := by
            rw [eq]
            refine corner_to fun x hx => (gone_iff R x).mpr ?_
            rcases hfi x (by rw [eq]; simp [hx]) eps (hp x hx) with k | k
            · exact k.2
            · exact absurd rfl (tt_ne k.1).1
          have h0 : Rch rules (gon rules heads) [r.1] s := .step (.one r.1) (b := r.2) hr hc
          exact h0.trans k2
theorem rch_sign {row : List Str} (hrow : ∀ s ∈ row, s ∈ toks ∨ s ∈ heads) {s : Str} (h : Rch rules (gon rules heads) row s) : s ∈ toks ∨ s ∈ heads := by
  cases h with
  | base h =>
    rcases corner_from h with h | ⟨p, q, e, _⟩
    · cases h
    · exact hrow s (by rw [e]; simp)
  | @step _ b _ _ hr h =>
    rcases corner_from h with h | ⟨p, q, e, _⟩
    · cases h
    · exact R.sg _ hr s (by show s ∈ b; rw [e]; simp)
theorem rch_first {row : List Str} (hrow : ∀ s ∈ row, s ∈ toks ∨ s ∈ heads) {s : Str} (h : Rch rules (gon rules heads) row s) : ∀ f ∈ fi s, f ≠ eps → f ∈ fsRun fi [] row := by
  have key : ∀ b, (∀ s ∈ b, s ∈ toks ∨ s ∈ heads) → ∀ s ∈ corner (gon rules heads) [] b, ∀ f ∈ fi s, f ≠ eps → f ∈ fsRun fi [] b := fun b hb s hs f hf he => by
    rcases corner_from hs with h | ⟨p, q, e, hp⟩
    · cases h
    · rw [e]
      exact fsRun_to he hf fun x hx => (sign_eps R hN hF (hb x (by rw [e]; simp [hx]))).mpr (hp x hx)
  induction h with
  | base h => exact key row hrow _ h
  | @step h b s _ hr hs ih =>
    intro f hf he
    exact ih f (hF.closed _ hr f (key b (R.sg _ hr) s hs f hf he)) he
theorem row_first {row : List Str} (hrow : ∀ s ∈ row, s ∈ toks ∨ s ∈ heads) (f : Str) : (f ∈ fsRun fi [] row ∧ f ≠ eps) ↔ f ∈ toks ∧ Rch rules (gon rules heads) row f := by
  constructor
  · rintro ⟨hf, he⟩
    rcases fsRun_from he hf with h | ⟨p, s, q, e, hp, hs⟩
    · cases h
    · have hs2 : s ∈ row := by rw [e]; simp
      have hc : s ∈ corner (gon rules heads) [] row := by
        rw [e]
        exact corner_to fun x hx => (sign_eps R hN hF (hrow x (by rw [e]; simp [hx]))).mp (hp x hx)
      rcases hrow s hs2 with h | h
      · rw [hF.base s (toks_sub h)] at hs
        simp at hs; subst hs
        exact ⟨h, .base hc⟩
      · obtain ⟨k1, k2⟩ := first_rch R hN hF h hs he
        refine ⟨?_, Rch.trans (.base hc) k2⟩
        rcases rch_sign R hN hF (by simp; exact .inr h) k2 with k | k
        · exact k
        · exact absurd (R.ha f k) (tt_ne k1).2
  · rintro ⟨h1, h2⟩
    have he := (tt_ne (toks_sub h1)).1
    exact ⟨rch_first R hN hF hrow h2 f (by rw [hF.base f (toks_sub h1)]; simp) he, he⟩
theorem row_eps {row : List Str} (hrow : ∀ s ∈ row, s ∈ toks ∨ s ∈ heads) : eps ∈ fsRun fi [] row ↔ ∀ s ∈ row, s ∈ gon rules heads := by
  rw [fsRun_eps (by simp)]
  exact ⟨fun h s hs => (sign_eps R hN hF (hrow s hs)).mp (h s hs), fun h s hs => (sign_eps R hN hF (hrow s hs)).mpr (h s hs)⟩
theorem head_first {h : Str} (hh : h ∈ heads) {res : List Str} (hb : BeginsIs rules (gon rules heads) [h] res) : (fi h).Perm (res ++ (if h ∈ gon rules heads then [eps] else [])) := by
  have h1 := hF.nd h ((hN h).mpr hh)
  have he : eps ∉ res := fun z => (tt_ne (toks_sub ((hb.mem _).mp z).1)).1 rfl
  refine perm_of_mem h1 ?_ fun x => ?_
  · rw [List.nodup_append]
    refine ⟨hb.nd, by split <;> simp, fun a ha b hb' => ?_⟩
    split at hb'
    · simp at hb'; subst hb'; exact fun z => he (z ▸ ha)
    · cases hb'
  · rw [List.mem_append, hb.mem]
    have hrow : ∀ s ∈ [h], s ∈ toks ∨ s ∈ heads := by simp; exact .inr hh
    have e := row_first R hN hF hrow x
    have e2 : x ∈ fsRun fi [] [h] ∧ x ≠ eps ↔ x ∈ fi h ∧ x ≠ eps := by
      constructor
      · rintro ⟨a, b⟩
        rcases fsRun_from b a with a | ⟨p, s, q, e, _, hs⟩
        · cases a
        · cases p with
          | nil => injection e with e _; subst e; exact ⟨hs, b⟩
          | cons y p => injection e with _ e; cases p <;> cases e
      · rintro ⟨a, b⟩
        exact ⟨fsRun_to (p := []) b a (by simp), b⟩
    rw [← e, e2]
    by_cases hx : x = eps
    · subst hx
      rw [first_eps R hN hF hh]
      split <;> simp_all
    · constructor
      · exact fun z => .inl ⟨z, hx⟩
      · rintro (z | z)
        · exact z.1
        · split at z
          · simp at z; exact absurd z hx
          · cases z
end Lay.W1
end
noncomputable section
open PySem PySem.W PyProof.Rows PySem.Calls
set_option Elab.async false
set_option maxRecDepth 100000
set_option linter.all false
set_option maxHeartbeats 8000000
namespace Lay.W1
noncomputable abbrev Pl := List (Str × List Str × Str)
noncomputable abbrev noS : Str := ""
noncomputable def allG (gone row : List Str) : Bool := decide (∀ s ∈ row, s ∈ gone)
noncomputable def PlAt (rules : List (Str × List Str)) (gone : List Str) (r : Str × List Str) (i : Nat) (p : Str × List Str × Str) : Prop :=
  r.2[i]? = some p.1 ∧ BeginsIs rules gone (r.2.drop (i + 1)) p.2.1 ∧ p.2.2 = if allG gone (r.2.drop (i + 1)) then r.1 else noS
structure PlacesIs (heads : List Str) (rules : List (Str × List Str)) (pl : Pl) : Prop where
  snd : ∀ p ∈ pl, p.1 ∈ heads ∧ ∃ r ∈ rules, ∃ i, PlAt rules (gon rules heads) r i p
  all : ∀ r ∈ rules, ∀ i x, r.2[i]? = some x → x ∈ heads → ∃ p ∈ pl, PlAt rules (gon rules heads) r i p
inductive Lk (pl : Pl) (n : Str) : Str → Prop
  | base : Lk pl n n
  | step {p : Str × List Str × Str} : Lk pl n p.1 → p ∈ pl → p.2.2 ≠ noS → Lk pl n p.2.2
theorem Lk.pre {pl : Pl} {p : Str × List Str × Str} (hp : p ∈ pl) (h0 : p.2.2 ≠ noS) {y : Str} (h : Lk pl p.2.2 y) : Lk pl p.1 y := by
  induction h with
  | base => exact .step .base hp h0
  | step _ hp h0 ih => exact .step ih hp h0
structure FoundIs (rules : List (Str × List Str)) (pl : Pl) (s0 n : Str) (found : List Str) : Prop where
  nd : found.Nodup
  mem : ∀ f, f ∈ found ↔ (∃ p ∈ pl, Lk pl n p.1 ∧ f ∈ p.2.1) ∨ (f = fin ∧ Lk pl n s0)
variable {rules : List (Str × List Str)} {heads N : List Str} {fi fo : Str → List Str} {pl : Pl} {s0 : Str}
theorem abc_ne {h : Str} (hh : h ∈ abc) : h ≠ noS := by
  have : ∀ s ∈ abc, s ≠ noS := by decide +kernel
  exact this h hh
theorem Lk.hds (R : RulesIs heads rules) (hP : PlacesIs heads rules pl) {n y : Str} (hn : n ∈ heads) (h : Lk pl n y) : y ∈ heads := by
  induction h with
  | base => exact hn
  | @step p _ hp h0 ih =>
    obtain ⟨_, r, hr, i, _, _, e⟩ := hP.snd p hp
    rw [e] at h0 ⊢
    split at h0
    · rw [if_pos ‹_›]; exact R.hd r hr
    · exact absurd rfl h0
theorem follow_perm (R : RulesIs heads rules) (hN : ∀ s, s ∈ N ↔ s ∈ heads) (hF : FirstIs TT N rules fi) (hP : PlacesIs heads rules pl) (hW : FollowIs N rules s0 fi fo) {n : Str} (hn : n ∈ heads) {found : List Str} (hf : FoundIs rules pl s0 n found) : (fo n).Perm found := by
  have hdrop : ∀ r ∈ rules, ∀ i, ∀ s ∈ r.2.drop i, s ∈ toks ∨ s ∈ heads := fun r hr i s hs => R.sg r hr s (List.mem_of_mem_drop hs)
  refine perm_of_mem (hW.nd n ((hN n).mpr hn)) hf.nd fun f => ?_
  rw [hf.mem]
  constructor
  · intro h
    refine hW.least (fun n f => (∃ p ∈ pl, Lk pl n p.1 ∧ f ∈ p.2.1) ∨ (f = fin ∧ Lk pl n s0)) ⟨.inr ⟨rfl, .base⟩, fun r hr i hi hx => ?_⟩ n ((hN n).mpr hn) f h
    obtain ⟨p, hp, h1, h2, h3⟩ := hP.all r hr i _ (List.getElem?_eq_getElem hi) ((hN _).mp hx)
    rw [List.getElem?_eq_getElem hi] at h1
    injection h1 with h1
    constructor
    · intro f hf he
      exact .inl ⟨p, hp, h1 ▸ .base, (h2.mem f).mpr ((row_first R hN hF (hdrop r hr (i + 1)) f).mp ⟨hf, he⟩)⟩
    · intro he f hφ
      have hall := (row_eps R hN hF (hdrop r hr (i + 1))).mp he
      rw [if_pos (show allG _ _ = true from decide_eq_true hall)] at h3
      have h0 : p.2.2 ≠ noS := by rw [h3]; exact abc_ne (R.ha _ (R.hd r hr))
      rw [← h3] at hφ
      rw [h1]
      rcases hφ with ⟨p', hp', hl, hf⟩ | ⟨rfl, hl⟩
      · exact .inl ⟨p', hp', Lk.pre hp h0 hl, hf⟩
      · exact .inr ⟨rfl, Lk.pre hp h0 hl⟩
  · have up : ∀ y, Lk pl n y → ∀ f ∈ fo y, f ∈ fo n := fun y h => by
      induction h with
      | base => exact fun f hf => hf
      | @step p hl hp h0 ih =>
        intro f hf
        obtain ⟨hh, r, hr, i, h1, h2, h3⟩ := hP.snd p hp
        obtain ⟨hi, hx⟩ := List.getElem?_eq_some_iff.mp h1
        have hc := hW.closed.2 r hr i hi (by rw [hx]; exact (hN _).mpr hh)
        rw [hx] at hc
        by_cases hall : ∀ s ∈ r.2.drop (i + 1), s ∈ gon rules heads
        · rw [if_pos (show allG _ _ = true from decide_eq_true hall)] at h3
          rw [h3] at hf
          exact ih f (hc.2 ((row_eps R hN hF (hdrop r hr (i + 1))).mpr hall) f hf)
        · rw [if_neg (fun z : allG _ _ = true => hall (of_decide_eq_true z))] at h3
          exact absurd h3 h0
    rintro (⟨p, hp, hl, hf⟩ | ⟨rfl, hl⟩)
    · obtain ⟨hh, r, hr, i, h1, h2, h3⟩ := hP.snd p hp
      obtain ⟨hi, hx⟩ := List.getElem?_eq_some_iff.mp h1
      have hc := hW.closed.2 r hr i hi (by rw [hx]; exact (hN _).mpr hh)
      rw [hx] at hc
      obtain ⟨a, b⟩ := (row_first R hN hF (hdrop r hr (i + 1)) f).mpr ((h2.mem f).mp hf)
      exact up _ hl f (hc.1 f a b)
    · exact up _ hl _ hW.st
end Lay.W1
end
noncomputable section
open PySem PySem.W PyProof.Rows PySem.Calls
set_option Elab.async false
set_option maxRecDepth 100000
set_option linter.all false
set_option maxHeartbeats 8000000
namespace Lay.W1
noncomputable def mget (m : List (Str × List V)) (k : Str) : Option (List V) := (m.find? fun p => p.1 = k).map (·.2)
theorem mget_tcon (t : Tab) (k : Str) : mget (tcon t) k = (tget t k).map (·.2) := by
  unfold mget tget tcon
  rw [List.find?_map, Option.map_map, Option.map_map]
  rfl
theorem mget_addUse (m : List (Str × List V)) (k n : Str) (v : V) : mget (addUse m k v) n = if n = k then (mget m k).map (· ++ [v]) else mget m n := by
  unfold mget addUse
  induction m with
  | nil => simp
  | cons p r ih =>
    obtain ⟨a, xs⟩ := p
    rw [List.map_cons, List.find?_cons, List.find?_cons, List.find?_cons]
    by_cases h1 : a = k
    · subst h1
      by_cases h2 : n = a
      · subst h2; simp
      · have h2' : ¬ a = n := fun e => h2 e.symm
        simp only [if_true, h2', decide_false]
        rw [ih, if_neg h2, if_neg h2]
    · have e1 : (if (a, xs).1 = k then ((a, xs).1, (a, xs).2 ++ [v]) else (a, xs)) = (a, xs) := if_neg h1
      rw [e1]
      by_cases h2 : n = k
      · subst h2
        have hd : decide ((a, xs).1 = n) = false := decide_eq_false h1
        rw [hd, if_pos rfl]
        rw [if_pos rfl] at ih
        exact ih
      · rw [if_neg h2] at ih ⊢
        by_cases h3 : a = n
        · have hd : decide ((a, xs).1 = n) = true := decide_eq_true h3
          rw [hd]
        · have hd : decide ((a, xs).1 = n) = false := decide_eq_false h3
          rw [hd]
          exact ih
theorem mget_addKey (m : List (Str × List V)) (k n : Str) : mget (addKey m k) n = if n = k then some ((mget m k).getD []) else mget m n := by
  unfold addKey
  split
  · rename_i h
    by_cases e : n = k
    · subst e
      rw [if_pos rfl]
      cases h2 : mget m n with
      | some _ => rfl
      | none =>
        unfold mget at h2
        simp only [Option.map_eq_none_iff, List.find?_eq_none, decide_eq_true_eq] at h2
        obtain ⟨p, hp, e⟩ := List.mem_map.mp h
        exact absurd e (h2 p hp)
    · rw [if_neg e]
  · rename_i h
    have h0 : mget m k = none := by
      unfold mget
      simp only [Option.map_eq_none_iff, List.find?_eq_none, decide_eq_true_eq]
      exact fun p hp e => h (List.mem_map.mpr ⟨p, hp, e⟩)
    by_cases e : n = k
    · subst e
      rw [if_pos rfl, h0]
      unfold mget at h0 ⊢
      simp only [Option.map_eq_none_iff] at h0
      rw [List.find?_append, h0]
      simp
    · rw [if_neg e]
      unfold mget
      rw [List.find?_append]
      have e' : ¬ k = n := fun z => e z.symm
      cases m.find? (fun p => decide (p.1 = n)) <;> simp [e']
theorem addKey_kys (m : List (Str × List V)) (k s : Str) : s ∈ (addKey m k).map (·.1) ↔ s ∈ m.map (·.1) ∨ s = k := by
  unfold addKey
  split
  · rename_i h
    exact ⟨.inl, fun z => z.elim id fun z => z ▸ h⟩
  · simp
theorem useAll_kT (v : V) : ∀ (l : List Str) (T N : List (Str × List V)), (useAll v (T, N) l).1.map (·.1) = T.map (·.1)
  | [], T, N => rfl
  | s :: r, T, N => by
    unfold useAll
    split
    · rw [useAll_kT v r, addUse_keys]
    · rw [useAll_kT v r]
theorem useAll_kN (v : V) (x : Str) : ∀ (l : List Str) (T N : List (Str × List V)), x ∈ (useAll v (T, N) l).2.map (·.1) ↔ x ∈ N.map (·.1) ∨ (x ∈ l ∧ x ∉ T.map (·.1))
  | [], T, N => by simp [useAll]
  | s :: r, T, N => by
    unfold useAll
    split
    · rename_i h
      rw [useAll_kN v x r, addUse_keys]
      constructor
      · rintro (z | ⟨z1, z2⟩)
        · exact .inl z
        · exact .inr ⟨.tail _ z1, z2⟩
      · rintro (z | ⟨z1, z2⟩)
        · exact .inl z
        · rcases List.mem_cons.mp z1 with rfl | z1
          · exact absurd h z2
          · exact .inr ⟨z1, z2⟩
    · rename_i h
      rw [useAll_kN v x r, addUse_keys, addKey_kys]
      constructor
      · rintro ((z | rfl) | ⟨z1, z2⟩)
        · exact .inl z
        · exact .inr ⟨.head _, h⟩
        · exact .inr ⟨.tail _ z1, z2⟩
      · rintro (z | ⟨z1, z2⟩)
        · exact .inl (.inl z)
        · rcases List.mem_cons.mp z1 with rfl | z1
          · exact .inl (.inr rfl)
          · exact .inr ⟨z1, z2⟩
theorem addUse_len {m : List (Str × List V)} {k : Str} {v : V} {c : Nat} (h : ∀ p ∈ m, p.2.length ≤ c) : ∀ p ∈ addUse m k v, p.2.length ≤ c + 1 := fun p hp => by
  unfold addUse at hp
  obtain ⟨q, hq, rfl⟩ := List.mem_map.mp hp
  have := h q hq
  split
  · simp; omega
  · omega
theorem addKey_len {m : List (Str × List V)} {k : Str} {c : Nat} (h : ∀ p ∈ m, p.2.length ≤ c) : ∀ p ∈ addKey m k, p.2.length ≤ c := fun p hp => by
  unfold addKey at hp
  split at hp
  · exact h p hp
  · rcases List.mem_append.mp hp with hp | hp
    · exact h p hp
    · simp at hp; subst hp; simp
theorem useAll_len (v : V) : ∀ (l : List Str) (T N : List (Str × List V)) (c : Nat), (∀ p ∈ T, p.2.length ≤ c) → (∀ p ∈ N, p.2.length ≤ c) → (∀ p ∈ (useAll v (T, N) l).1, p.2.length ≤ c + l.length) ∧ ∀ p ∈ (useAll v (T, N) l).2, p.2.length ≤ c + l.length
  | [], T, N, c, h1, h2 => ⟨h1, h2⟩
  | s :: r, T, N, c, h1, h2 => by
    have e : c + (s :: r).length = (c + 1) + r.length := by simp; omega
    rw [e]
    unfold useAll
    split
    · exact useAll_len v r _ _ (c + 1) (addUse_len h1) fun p hp => Nat.le_succ_of_le (h2 p hp)
    · exact useAll_len v r _ _ (c + 1) (fun p hp => Nat.le_succ_of_le (h1 p hp)) (addUse_len (addKey_len h2))
noncomputable def PV (xs : List V) (n : Str) (bs : List (List Str)) : Prop := xs.length = bs.length ∧ ∀ i (h : i < xs.length) (h' : i < bs.length), ProdV xs[i] n bs[i]
theorem PV.snoc {xs : List V} {n : Str} {bs : List (List Str)} {v : V} {b : List Str} (h : PV xs n bs) (hv : ProdV v n b) : PV (xs ++ [v]) n (bs ++ [b]) := by
  refine ⟨by simp [h.1], fun i h1 h2 => ?_⟩
  by_cases hi : i < xs.length
  · rw [List.getElem_append_left hi, List.getElem_append_left (by rw [← h.1]; exact hi)]
    exact h.2 i hi _
  · have hi' : i = xs.length := by simp at h1; omega
    subst hi'
    rw [List.getElem_append_right (Nat.le_refl _), List.getElem_append_right (by rw [h.1]; exact Nat.le_refl _)]
    simp [h.1]; exact hv
structure Gi (t : GT) (heads : List Str) (done : List (Str × List Str)) : Prop where
  kT : kys t.tT = TT
  N : ∀ s ∈ kys t.tN, s ∈ heads
  Rn : ∀ s ∈ kys t.tR, s ∈ heads
  hd : ∀ r ∈ done, r.1 ∈ kys t.tN
  sg : ∀ r ∈ done, ∀ s ∈ r.2, s ∈ TT ∨ s ∈ kys t.tN
  ps : ∃ vs, t.ps = .none :: vs ∧ vs.length = done.length ∧ ∀ i (h : i < vs.length) (h' : i < done.length), ProdV vs[i] done[i].1 done[i].2
  pm : t.pm = done
  R : ∀ n, PV ((mget (tcon t.tR) n).getD []) n (bodies done n)
  fst : t.fst = []
  fol : t.fol = []
  lT : ∀ p ∈ tcon t.tT, p.2.length ≤ 20 * done.length
  lN : ∀ p ∈ tcon t.tN, p.2.length ≤ 20 * done.length
  lR : ∀ p ∈ tcon t.tR, p.2.length ≤ 20 * done.length
theorem tcon_mem {t : Tab} {e : Str × Addr × List V} (h : e ∈ t) : (e.1, e.2.2) ∈ tcon t := List.mem_map.mpr ⟨e, h, rfl⟩
theorem Gi.sz {H : Hp} {g : GA} {t : GT} {heads : List Str} {done : List (Str × List Str)} (h : Gi t heads done) (gr : Gr H g t) (hz : done.length ≤ 7) (hh : heads.length ≤ 3) : Sz 1000 t := by
  have e1 := nodup_len gr.kN h.N
  have e2 := nodup_len gr.kR h.Rn
  obtain ⟨vs, v1, v2, _⟩ := h.ps
  refine ⟨by rw [h.kT]; decide, by omega, by omega, fun e he => ?_, fun e he => ?_, fun e he => ?_, by rw [v1]; simp; omega, by rw [h.pm]; omega⟩
  · have := h.lT _ (tcon_mem he); dsimp only at this; omega
  · have := h.lN _ (tcon_mem he); dsimp only at this; omega
  · have := h.lR _ (tcon_mem he); dsimp only at this; omega
theorem bodies_snoc (done : List (Str × List Str)) (r : Str × List Str) (n : Str) : bodies (done ++ [r]) n = if r.1 = n then bodies done n ++ [r.2] else bodies done n := by
  unfold bodies
  rw [List.filter_append, List.map_append]
  by_cases h : r.1 = n
  · rw [if_pos h]; simp [h]
  · rw [if_neg h]; simp [h]
theorem Gi.step {t t' : GT} {heads : List Str} {done : List (Str × List Str)} {h : Str} {b : List Str} {pf : List (Str × V)} {prec : V} (G : Gi t heads done) (hh : h ∈ heads) (hb : ∀ s ∈ b, s ∈ toks ∨ s ∈ heads) (hl : b.length ≤ 3) (k2 : Keeps2 t t')
    (hp : PrF pf (t.ps.length : Nat) h b prec) (eps' : t'.ps = t.ps ++ [.inst 68 pf]) (epm : t'.pm = t.pm ++ [(h, b)]) (eu : (tcon t'.tT, tcon t'.tN) = useAll (.int (t.ps.length : Nat)) (tcon t.tT, addKey (tcon t.tN) h) b) (er : tcon t'.tR = addUse (addKey (tcon t.tR) h) h (.inst 68 pf)) :
    Gi t' heads (done ++ [(h, b)]) := by
  have hpv : ProdV (.inst 68 pf) h b := ⟨pf, _, _, rfl, hp⟩
  have kT : kys t'.tT = kys t.tT := by
    have := congrArg (fun x => x.1.map (·.1)) eu
    dsimp only at this
    rw [useAll_kT, tcon_keys, tcon_keys] at this; exact this
  have kN : ∀ s, s ∈ kys t'.tN ↔ (s ∈ kys t.tN ∨ s = h) ∨ (s ∈ b ∧ s ∉ kys t.tT) := fun s => by
    have e : kys t'.tN = (useAll (.int (t.ps.length : Nat)) (tcon t.tT, addKey (tcon t.tN) h) b).2.map (·.1) := by rw [← tcon_keys, ← eu]
    rw [e, useAll_kN, addKey_kys, tcon_keys, tcon_keys]
  have kR : ∀ s, s ∈ kys t'.tR ↔ s ∈ kys t.tR ∨ s = h := fun s => by
    rw [← tcon_keys, er, addUse_keys, addKey_kys, tcon_keys]
  have hsT : ∀ s ∈ toks, s ∈ TT := fun s hs => List.mem_append_left _ hs
  have len := useAll_len (.int (t.ps.length : Nat)) b (tcon t.tT) (addKey (tcon t.tN) h) _ G.lT (addKey_len G.lN)
  rw [← eu] at len
  have e20 : (done ++ [(h, b)]).length = done.length + 1 := by simp
  refine ⟨kT.trans G.kT, fun s hs => ?_, fun s hs => ?_, fun r hr => ?_, fun r hr s hs => ?_, ?_, by rw [epm, G.pm], fun n => ?_, k2.fst.trans G.fst, k2.fol.trans G.fol, fun p hp => ?_, fun p hp => ?_, fun p hp => ?_⟩
  · rcases (kN s).mp hs with (z | rfl) | ⟨z1, z2⟩
    · exact G.N s z
    · exact hh
    · rcases hb s z1 with z | z
      · exact absurd (G.kT ▸ hsT s z) z2
      · exact z
  · rcases (kR s).mp hs with z | rfl
    · exact G.Rn s z
    · exact hh
  · rcases List.mem_append.mp hr with hr | hr
    · exact (kN _).mpr (.inl (.inl (G.hd r hr)))
    · simp at hr; subst hr; exact (kN _).mpr (.inl (.inr rfl))
  · rcases List.mem_append.mp hr with hr | hr
    · rcases G.sg r hr s hs with z | z
      · exact .inl z
      · exact .inr ((kN _).mpr (.inl (.inl z)))
    · simp at hr; subst hr
      by_cases z : s ∈ kys t.tT
      · exact .inl (G.kT ▸ z)
      · exact .inr ((kN _).mpr (.inr ⟨hs, z⟩))
  · obtain ⟨vs, v1, v2, v3⟩ := G.ps
    refine ⟨vs ++ [.inst 68 pf], by rw [eps', v1]; rfl, by simp [v2], fun i h1 h2 => ?_⟩
    by_cases hi : i < vs.length
    · rw [List.getElem_append_left hi, List.getElem_append_left (by rw [← v2]; exact hi)]
      exact v3 i hi _
    · have hi' : i = vs.length := by simp at h1; omega
      subst hi'
      rw [List.getElem_append_right (Nat.le_refl _), List.getElem_append_right (by rw [v2]; exact Nat.le_refl _)]
      simp [v2]; exact hpv
  · rw [er, mget_addUse, bodies_snoc]
    by_cases e : n = h
    · subst e
      rw [if_pos rfl, if_pos rfl, mget_addKey, if_pos rfl]
      exact (G.R n).snoc hpv
    · rw [if_neg e, if_neg (fun z => e z.symm), mget_addKey, if_neg e]
      exact G.R n
  · have := len.1 p hp; rw [e20]; omega
  · have := len.2 p hp; rw [e20]; omega
  · rw [er] at hp
    have := addUse_len (addKey_len G.lR) p hp; rw [e20]; omega
theorem Gi.gc {H : Hp} {g : GA} {t : GT} {heads : List Str} {rules : List (Str × List Str)} (G : Gi t heads rules) (gr : Gr H g t) (R : RulesIs heads rules) : Gc t TT (kys t.tN) rules ∧ ∀ s, s ∈ kys t.tN ↔ s ∈ heads := by
  have hN : ∀ s, s ∈ kys t.tN ↔ s ∈ heads := fun s => ⟨G.N s, fun hs => by
    obtain ⟨r, hr, rfl⟩ := R.hr s hs
    exact G.hd r hr⟩
  have hl : heads.length ≤ 3 := nodup_len (m := abc) R.hn R.ha
  have e1 := nodup_len gr.kN G.N
  refine ⟨⟨G.kT, rfl, G.ps, fun n hn => ?_, fun r hr => by have := R.bl r hr; omega, G.sg, G.hd, ?_, gr.kN, fun s hs hn => ?_, by decide +kernel, fun h => ?_, by decide, by omega, by have := R.rl; omega⟩, hN⟩
  · have hp := G.R n
    rw [mget_tcon] at hp
    cases e : tget t.tR n with
    | some p => rw [e] at hp; exact ⟨p.1, p.2, rfl, hp⟩
    | none =>
      rw [e] at hp
      obtain ⟨r, hr, rfl⟩ := R.hr n ((hN n).mp hn)
      have h1 := hp.1
      have h2 : r.2 ∈ bodies rules r.1 := mem_bodies.mpr hr
      have h3 := List.length_pos_of_mem h2
      simp at h1; omega
  · decide +kernel
  · exact (tt_ne (List.mem_append_left _ hs)).2 (R.ha s (G.N s hn))
  · exact (tt_ne (s := fin) (by simp)).2 (R.ha _ (G.N _ h))
end Lay.W1
end
noncomputable section
open PySem PySem.W PyProof.Rows PySem.Calls
set_option Elab.async false
set_option maxRecDepth 100000
set_option linter.all false
set_option maxHeartbeats 8000000
namespace Lay.W1
theorem plain_of (k : Nat) (h : PyData.strOk ⟨#[k]⟩ = true) (h2 : (Builtin.Str.occurrences (Str.ofString "'\"") ⟨#[k]⟩ 0 (Str.ofString "'\"").length 1).isEmpty = true) : Plain ⟨#[k]⟩ :=
  ⟨by show 1 ≤ 1000; omega, k, rfl, h, h2⟩
theorem plain_sign {s : Str} (h : s ∈ toks ∨ s ∈ abc) : Plain s := by
  have e : s = ⟨#[120]⟩ ∨ s = ⟨#[121]⟩ ∨ s = ⟨#[122]⟩ ∨ s = ⟨#[65]⟩ ∨ s = ⟨#[66]⟩ ∨ s = ⟨#[67]⟩ := by
    have : ∀ s ∈ toks ++ abc, s = ⟨#[120]⟩ ∨ s = ⟨#[121]⟩ ∨ s = ⟨#[122]⟩ ∨ s = ⟨#[65]⟩ ∨ s = ⟨#[66]⟩ ∨ s = ⟨#[67]⟩ := by decide +kernel
    exact this s (List.mem_append.mpr h)
  rcases e with rfl | rfl | rfl | rfl | rfl | rfl <;> exact plain_of _ (by decide +kernel) (by decide +kernel)
noncomputable def DueAt (rules : List (Str × List Str)) (gone : List Str) (k : Str) (xs : List Str) : Prop := (k ∈ TT ++ [fin] ∧ xs = [k]) ∨ (k ∉ TT ++ [fin] ∧ ∃ res, BeginsIs rules gone [k] res ∧ xs = res ++ (if k ∈ gone then [eps] else []))
structure DueIs (rules : List (Str × List Str)) (gone : List Str) (ks : List Str) (kvs : List (Str × V)) : Prop where
  ks : kvs.map (·.1) = ks
  at_ : ∀ p ∈ kvs, ∃ xs : List Str, p.2 = .list (xs.map .str) ∧ DueAt rules gone p.1 xs
theorem DueIs.put {rules : List (Str × List Str)} {gone ks : List Str} {kvs : List (Str × V)} {k : Str} {xs : List Str} (h : DueIs rules gone ks kvs) (hk : k ∉ ks) (hd : DueAt rules gone k xs) : DueIs rules gone (ks ++ [k]) (dput kvs k (.list (xs.map .str))) := by
  have e := dput_new (kvs := kvs) (k := k) (x := V.list (xs.map .str)) (dget_none_iff.mpr (by rw [h.ks]; exact hk))
  rw [e]
  refine ⟨by simp [h.ks], fun p hp => ?_⟩
  rcases List.mem_append.mp hp with hp | hp
  · exact h.at_ p hp
  · simp at hp; subst hp; exact ⟨xs, rfl, hd⟩
noncomputable def placesV (pl : Pl) : List V := pl.map fun p => .tup [.str p.1, .list (p.2.1.map .str), .str p.2.2]
theorem placesV_at {pl : Pl} {i : Nat} {p : Str × List Str × Str} (h : pl[i]? = some p) : (placesV pl)[i]? = some (.tup [.str p.1, .list (p.2.1.map .str), .str p.2.2]) := by
  unfold placesV; rw [List.getElem?_map, h]; rfl
noncomputable def PlSound (heads : List Str) (rules : List (Str × List Str)) (pl : Pl) : Prop := ∀ p ∈ pl, p.1 ∈ heads ∧ ∃ r ∈ rules, ∃ i, PlAt rules (gon rules heads) r i p
noncomputable def PlCov (heads : List Str) (rules : List (Str × List Str)) (pl : Pl) (r : Str × List Str) (j : Nat) : Prop := ∀ i x, i < j → r.2[i]? = some x → x ∈ heads → ∃ p ∈ pl, PlAt rules (gon rules heads) r i p
theorem PlCov.app {heads : List Str} {rules : List (Str × List Str)} {pl : Pl} {r : Str × List Str} {j : Nat} (h : PlCov heads rules pl r j) (q : Pl) : PlCov heads rules (pl ++ q) r j := fun i x hi hx hh =>
  let ⟨p, hp, h2⟩ := h i x hi hx hh; ⟨p, List.mem_append_left _ hp, h2⟩
theorem PlCov.next {heads : List Str} {rules : List (Str × List Str)} {pl : Pl} {r : Str × List Str} {j : Nat} (h : PlCov heads rules pl r j) (hn : ∀ x, r.2[j]? = some x → x ∈ heads → ∃ p ∈ pl, PlAt rules (gon rules heads) r j p) : PlCov heads rules pl r (j + 1) := fun i x hi hx hh => by
  by_cases e : i = j
  · subst e; exact hn x hx hh
  · exact h i x (by omega) hx hh
theorem places_end {heads : List Str} {rules : List (Str × List Str)} {pl : Pl} (h : PlSound heads rules pl) (hc : ∀ r ∈ rules, PlCov heads rules pl r r.2.length) : PlacesIs heads rules pl :=
  ⟨h, fun r hr i x hx hh => hc r hr i x (List.getElem?_eq_some_iff.mp hx).1 hx hh⟩
structure Sr (heads : List Str) (pl : Pl) (n : Str) (line found : List Str) : Prop where
  ln : line.Nodup
  lh : ∀ x ∈ line, x ∈ heads
  ll : ∀ x ∈ line, Lk pl n x
  l0 : n ∈ line
  fn : found.Nodup
  ft : ∀ f ∈ found, f ∈ toks
  fl : ∀ f ∈ found, ∃ p ∈ pl, Lk pl n p.1 ∧ f ∈ p.2.1
noncomputable def SrP (line found : List Str) (p : Str × List Str × Str) : Prop := (∀ f ∈ p.2.1, f ∈ found) ∧ (p.2.2 ≠ noS → p.2.2 ∈ line)
noncomputable def SrD (pl : Pl) (line found : List Str) (k : Nat) : Prop := ∀ q x, q < k → line[q]? = some x → ∀ p ∈ pl, p.1 = x → SrP line found p
theorem SrP.mono {line found line' found' : List Str} {p : Str × List Str × Str} (h : SrP line found p) (h1 : ∀ x ∈ line, x ∈ line') (h2 : ∀ x ∈ found, x ∈ found') : SrP line' found' p := ⟨fun f hf => h2 f (h.1 f hf), fun z => h1 _ (h.2 z)⟩
theorem Sr.end_ {heads : List Str} {rules : List (Str × List Str)} {pl : Pl} {n s0 : Str} {line found : List Str} (h : Sr heads pl n line found) (hd : SrD pl line found line.length) :
    FoundIs rules pl s0 n (if s0 ∈ line then found ++ [fin] else found) := by
  have key : ∀ x, Lk pl n x → x ∈ line := fun x hx => by
    induction hx with
    | base => exact h.l0
    | @step p _ hp h0 ih =>
      obtain ⟨q, hq, e⟩ := List.getElem_of_mem ih
      exact (hd q p.1 hq (by rw [List.getElem?_eq_getElem hq, e]) p hp rfl).2 h0
  have hfin : fin ∉ found := fun z => by
    have := h.ft _ z
    revert this; decide +kernel
  have hmem : ∀ f, f ∈ found ↔ ∃ p ∈ pl, Lk pl n p.1 ∧ f ∈ p.2.1 := fun f => ⟨h.fl f, fun ⟨p, hp, hl, hf⟩ => by
    obtain ⟨q, hq, e⟩ := List.getElem_of_mem (key _ hl)
    exact (hd q p.1 hq (by rw [List.getElem?_eq_getElem hq, e]) p hp rfl).1 f hf⟩
  by_cases hs : s0 ∈ line
  · rw [if_pos hs]
    refine ⟨?_, fun f => ?_⟩
    · rw [List.nodup_append]
      exact ⟨h.fn, by simp, fun a ha b hb => by simp at hb; subst hb; exact fun z => hfin (z ▸ ha)⟩
    · rw [List.mem_append, hmem, List.mem_singleton]
      exact ⟨fun z => z.elim .inl fun z => .inr ⟨z, h.ll _ hs⟩, fun z => z.elim .inl fun z => .inr z.1⟩
  · rw [if_neg hs]
    refine ⟨h.fn, fun f => ?_⟩
    rw [hmem]
    exact ⟨.inl, fun z => z.elim id fun z => absurd (key _ z.2) hs⟩
noncomputable abbrev LL (sc hs rs gr hd bo go du to be ta si pl k re na li at_ bg : Option V) : Loc := [sc, hs, rs, gr, hd, bo, go, du, to, be, ta, si, pl, k, re, na, li, none, at_, bg, none, none, none, none, none, none, none, none, none, none]
end Lay.W1
end
noncomputable section
open PySem PySem.W PyProof.Rows PySem.Calls
set_option Elab.async false
set_option maxRecDepth 100000
set_option linter.all false
set_option maxHeartbeats 8000000
namespace Lay.W1
variable {P : Params} {F : Fx} {n : Nat} {loc : Loc} {H : Hp}
noncomputable def bodyOf : Option FuncData → List Stmt
  | some fd => (match fd.body with | .stmts b => b | _ => [])
  | none => []
noncomputable def namesOf : Option FuncData → List (Str × NameKind)
  | some fd => fd.scope.names
  | none => []
noncomputable def lawBody (P : Params) : List Stmt := bodyOf (kFd (K P) 277)
noncomputable def lawNames (P : Params) : List (Str × NameKind) := namesOf (kFd (K P) 277)
noncomputable abbrev hsV (heads : List Str) : Option V := some (.list (heads.map .str))
noncomputable abbrev rsV (rules : List (Str × List Str)) : Option V := some (.list (rulesV rules))
inductive C1 (c : Addr) (H : Hp) (g : GA) (heads : List Str) (rules : List (Str × List Str)) (pl : Pl) (i : Nat) (l : Loc) (H' : Hp) : Prop
  | mk (a4 : Option V) (a11 : Option V) (a15 : Option V) (a16 : Option V) (a18 : Option V) (a19 : Option V) (ov : Option V) (_ : l = LL none (hsV heads) (rsV rules) none a4 none none none none (some (.ref g.fol)) none a11 (some (.list (placesV pl))) none none a15 a16 a18 a19) (_ : { H with C := up H.C c ov } = H') : C1 c H g heads rules pl i l H'
inductive C2 (H : Hp) (g : GA) (heads : List Str) (rules : List (Str × List Str)) (pl : Pl) (nm : Str) (b : Addr) (Hs : List Str → Addr → List Str → Hp) (k : Nat) (l : Loc) (H' : Hp) : Prop
  | mk (line : List Str) (found : List Str) (p : Nat) (a : Addr) (a4 : Option V) (a11 : Option V) (a19 : Option V) (_ : Sr heads pl nm line found) (_ : SrD pl line found p) (_ : p ≤ line.length) (_ : k + p = 4) (_ : a ≠ b) (_ : H.L a = none) (_ : l = LL none (hsV heads) (rsV rules) none a4 none none none none (some (.ref g.fol)) none a11 (some (.list (placesV pl))) none none (some (.str nm)) (some (.ref b)) (some (.int (p : Nat))) a19) (_ : Hs line a found = H') : C2 H g heads rules pl nm b Hs k l H'
inductive C3 (H : Hp) (g : GA) (heads : List Str) (rules : List (Str × List Str)) (pl : Pl) (nm : Str) (b : Addr) (Hs : List Str → Addr → List Str → Hp) (line : List Str) (found : List Str) (p : Nat) (x : Str) (l : Loc) (H' : Hp) : Prop
  | mk (line' : List Str) (found' : List Str) (a : Addr) (a4 : Option V) (a11 : Option V) (a19 : Option V) (_ : (∃ u, line' = line ++ u)) (_ : (∀ f ∈ found, f ∈ found')) (_ : Sr heads pl nm line' found') (_ : (∀ p ∈ pl, p.1 = x → SrP line' found' p)) (_ : a ≠ b) (_ : H.L a = none) (_ : l = LL none (hsV heads) (rsV rules) none a4 none none none none (some (.ref g.fol)) none a11 (some (.list (placesV pl))) none none (some (.str nm)) (some (.ref b)) (some (.int (p : Nat))) a19) (_ : Hs line' a found' = H') : C3 H g heads rules pl nm b Hs line found p x l H'
inductive C4 (H : Hp) (g : GA) (heads : List Str) (rules : List (Str × List Str)) (pl : Pl) (nm : Str) (b : Addr) (Hs : List Str → Addr → List Str → Hp) (line : List Str) (found : List Str) (p : Nat) (x : Str) (j : Nat) (l : Loc) (H' : Hp) : Prop
  | mk (line' : List Str) (found' : List Str) (a : Addr) (a4 : Option V) (a11 : Option V) (a19 : Option V) (_ : (∃ u, line' = line ++ u)) (_ : (∀ f ∈ found, f ∈ found')) (_ : Sr heads pl nm line' found') (_ : (∀ p ∈ pl.take j, p.1 = x → SrP line' found' p)) (_ : a ≠ b) (_ : H.L a = none) (_ : l = LL none (hsV heads) (rsV rules) none a4 none none none none (some (.ref g.fol)) none a11 (some (.list (placesV pl))) none none (some (.str nm)) (some (.ref b)) (some (.int (p : Nat))) a19) (_ : Hs line' a found' = H') : C4 H g heads rules pl nm b Hs line found p x j l H'
inductive C5 (c : Addr) (H : Hp) (g : GA) (heads : List Str) (rules : List (Str × List Str)) (pl : Pl) (nm : Str) (b : Addr) (p : Nat) (line' : List Str) (found' : List Str) (a : Addr) (q : Str × List Str × Str) (new : List Str) (l : Loc) (H' : Hp) : Prop
  | mk (a' : Addr) (_ : a' ≠ a) (_ : a' ≠ b) (_ : H.L a' = none) (_ : l = LL none (hsV heads) (rsV rules) none (some (.str q.2.2)) none none none none (some (.ref g.fol)) none (some (.str q.1)) (some (.list (placesV pl))) none none (some (.str nm)) (some (.ref b)) (some (.int (p : Nat))) (some (.list (q.2.1.map .str)))) (_ : { H with L := up (up (up H.L b (line'.map .str)) a (found'.map .str)) a' ((found' ++ new).map .str), C := up H.C c (some (.ref a')) } = H') : C5 c H g heads rules pl nm b p line' found' a q new l H'
inductive C6 (g : GA) (heads : List Str) (rules : List (Str × List Str)) (pl : Pl) (nm : Str) (b : Addr) (Hs : List Str → Addr → List Str → Hp) (line : List Str) (a : Addr) (a4 : Option V) (a11 : Option V) (a19 : Option V) (l : Loc) (H' : Hp) : Prop
  | mk (found' : List Str) (_ : FoundIs rules pl rules[0]!.1 nm found') (_ : found'.length ≤ 4) (_ : l = LL none (hsV heads) (rsV rules) none a4 none none none none (some (.ref g.fol)) none a11 (some (.list (placesV pl))) none none (some (.str nm)) (some (.ref b)) (some (.int (line.length : Nat))) a19) (_ : Hs line a found' = H') : C6 g heads rules pl nm b Hs line a a4 a11 a19 l H'
theorem lwC (ok : Ok F 12) (tp : Top F) (W : Wd (K P) F.c.base) {c : Addr} (hF : FrameIs F (lawNames P) [("found", c)]) {H3 H : Hp} {g : GA} {t : GT} {tF tW : Tab} {fi fo : Str → List Str} {heads : List Str} {rules : List (Str × List Str)} {pl : Pl}
    (R : RulesIs heads rules) (hN : ∀ s, s ∈ kys t.tN ↔ s ∈ heads) (cs : Cx H3 g t H tF tW fi fo) (fF : FirstIs TT (kys t.tN) rules fi) (kW : kys tW = kys t.tN) (fW : FollowIs (kys t.tN) rules rules[0]!.1 fi fo) (gc : Gc t TT (kys t.tN) rules) (hP : PlacesIs heads rules pl) (hpl : pl.length ≤ 100)
    (hc : CellAt H c none) {a0 a3 a4 a5 a6 a7 a8 a10 a11 a13 a14 : Option V} :
    WSs F ((lawBody P).drop 14) (LL a0 (hsV heads) (rsV rules) a3 a4 a5 a6 a7 a8 (some (.ref g.fol)) a10 a11 (some (.list (placesV pl))) a13 a14 none none none none) H (fun fl _ _ => fl = .ret (.bool true)) := by
  have hhl : heads.length ≤ 3 := nodup_len (m := abc) R.hn R.ha
  have hWl : (tof tW).length ≤ 50 := by
    have : (tof tW).length = (kys tW).length := by simp [tof, kys]
    rw [this, kW]; exact gc.zN
  have hr0 : rules[0]? = some rules[0]! := by
    have := R.r0
    rw [List.getElem?_eq_getElem this]; simp [this]
  refine WSs_pre (loc' := LL none (hsV heads) (rsV rules) none none none none none none (some (.ref g.fol)) none none (some (.list (placesV pl))) none none none none none none) (H' := H) ?_ (by repeat (first | exact LocSub.refl _ | refine LocSub.same ?_ | refine LocSub.drop ?_)) (Hp.Sub.refl _)
  -- the keys
  refine WSs_cons (WS_If (WB_Compare (WE_CallN (gBi ok W hF rfl rfl (by boot_by_name) (by decide) (WEs_cons (WE_ListCallDF ok (gBi ok W hF rfl rfl (by boot_by_name) (by decide) ⟨rfl, gLoc ok hF rfl rfl ⟨g.fol, tof tW, rfl, cs.sW.tb.dict, by omega, WEs_nil ⟨keepB ok, Call_sorted (ss := kys tW) ?_ ?_ fun ss1 hp1 hs1 => WE_CallN (gBi ok W hF rfl rfl (by boot_by_name) (by decide) (WEs_cons (gLoc ok hF rfl rfl (WEs_nil ⟨keepB ok, Call_sorted (ss := heads) rfl (Nat.lt_of_le_of_lt hhl (by decide)) fun ss2 hp2 hs2 => Cmp_neSorted ok hs1 hs2 (hp1.trans (List.Perm.trans ?_ hp2.symm)) ⟨(fun h => nomatch h), fun _ => WSs_nil ?_⟩⟩))))⟩⟩⟩)))))))
  · exact congrArg some (by simp [tof, kys])
  · rw [kW]; have := gc.zN; omega
  · rw [kW]; exact perm_of_mem gc.nN R.hn hN
  -- the loop
  refine WSs_cons (WS_For (WIt_list (gLoc ok hF rfl rfl ⟨heads.map .str, rfl, ?_⟩)))
  refine ForOnV (fun i => lstSt_mono i) (heads.map V.str).length (C1 c H g heads rules pl) ⟨_, _, _, _, _, _, none, rfl, by rw [up_id hc.C]⟩ ?_ ?_
  · rintro i Q1 b1 l H' hi ⟨a4, a11, a15, a16, a18, a19, ov, rfl, rfl⟩
    have hi' : i < heads.length := by simpa using hi
    have hnm : heads[i] ∈ heads := List.getElem_mem hi'
    generalize hnn : heads[i] = nm at hnm
    refine ⟨.str nm, Nxt_list rfl (by simp [hi', hnn]), tLoc ok.inl hF rfl ?_⟩
    refine WSs_cons (sAsg ok.inl hF rfl (WE_List (WEs_cons (gLoc ok.inl hF rfl rfl (WEs_nil ⟨by simp, fun b hb => ?_⟩)))))
    have hbC : c ≠ b := Hp.Fresh.neC hb (up_self _ _ _)
    have hbL : H.L b = none := hb.l
    refine WSs_cons (sAsgC ok.inl hF rfl rfl (WE_List (WEs_nil ⟨by simp, fun a ha => ⟨⟨_, up_self _ _ _⟩, ?_⟩⟩)))
    have hab : a ≠ b := (frL ha).1
    have haL : H.L a = none := (frL ha).2.l
    refine WSs_cons (sAsg ok.inl hF rfl (WE_int ?_))
    let Hs : List Str → Addr → List Str → Hp := fun line a found => { H with L := up (up H.L b (line.map .str)) a (found.map .str), C := up H.C c (some (.ref a)) }
    have sr0 : Sr heads pl nm [nm] [] := ⟨by simp, by simp [hnm], fun x hx => by simp at hx; subst hx; exact .base, by simp, by simp, by simp, by simp⟩
    refine WSs_pre (H' := Hs [nm] a []) (loc' := LL none (hsV heads) (rsV rules) none a4 none none none none (some (.ref g.fol)) none a11 (some (.list (placesV pl))) none none (some (.str nm)) (some (.ref b)) (some (.int 0)) a19) ?_ (LocSub.refl _) (by show Hp.Sub _ ⟨_, _, _, _, _, up (up _ _ _) _ _, _⟩; rw [up_up]; exact Hp.Sub.refl _)
    refine WSs_cons (WS_WhileV (C2 H g heads rules pl nm b Hs) 4 ⟨_, _, 0, a, _, _, _, sr0, (fun q x h => absurd h (Nat.not_lt_zero _)), Nat.zero_le _, rfl, hab, haL, rfl, rfl⟩ ?_)
    · rintro k Q2 b2 l H' ⟨line, found, p, a, a4, a11, a19, sr, sd, hp, hk, hab, haL, rfl, rfl⟩
      have hline : ∀ {line found}, asL (Hs line a found) (.ref b) = some (line.map .str) := fun {line found} => (up_ne hab.symm).trans (up_self _ _ _)
      have hlen : line.length ≤ 3 := Nat.le_trans (nodup_len sr.ln sr.lh) hhl
      refine WB_Compare (gLoc ok.inl.inl hF rfl rfl (WE_CallN (gBi ok.inl.inl W hF rfl rfl (by boot_by_name) (by decide) (WEs_cons (gLoc ok.inl.inl hF rfl rfl (WEs_nil ⟨keepB ok.inl.inl, Call_len hline (len_map_le hlen) (Cmp_lt ⟨fun h => ?_, fun h => ?_⟩)⟩))))))
      · have hlt : p < line.length := lt_of_dec h
        have hp4 : p < 4 := Nat.lt_of_lt_of_le hlt (Nat.le_trans hlen (by decide))
        generalize hx : line[p] = x
        have hxx : line[p]? = some x := by rw [List.getElem?_eq_getElem hlt, hx]
        have hxm : x ∈ line := List.mem_of_getElem? hxx
        refine WSs_midV (C3 H g heads rules pl nm b Hs line found p x) (fun Q3 b3 => WS_For (WIt_list (gLoc ok.inl.inl hF rfl rfl ⟨placesV pl, rfl, ?_⟩))) ?_
        · refine ForOnV (fun i => lstSt_mono i) pl.length (C4 H g heads rules pl nm b Hs line found p x) ⟨line, found, a, _, _, _, ⟨[], by simp⟩, fun f hf => hf, sr, by simp, hab, haL, rfl, rfl⟩ ?_ ?_
          · clear sr sd hk hab haL hline
            rintro j Q4 b4 l H' hj ⟨line', found', a, a4, a11, a19, ⟨u, hu⟩, hff, sr, hcl, hab, haL, rfl, rfl⟩
            have hline : ∀ {line found}, asL (Hs line a found) (.ref b) = some (line.map .str) := fun {line found} => (up_ne hab.symm).trans (up_self _ _ _)
            have hlen' : line'.length ≤ 3 := Nat.le_trans (nodup_len sr.ln sr.lh) hhl
            have hfl : found'.length ≤ 3 := nodup_len (m := toks) sr.fn sr.ft
            have hpj : pl[j]? = some pl[j] := List.getElem?_eq_getElem hj
            have htk : pl.take (j + 1) = pl.take j ++ [pl[j]] := take_snoc hj
            generalize hq : pl[j] = q at *
            have hqm : q ∈ pl := List.mem_of_getElem? hpj
            have hx' : (line'.map V.str)[((p : Nat) : Int).toNat]? = some (.str x) := by
              rw [Int.toNat_natCast, List.getElem?_map, hu, List.getElem?_append_left hlt, hxx]; rfl
            have hxm' : x ∈ line' := by rw [hu]; exact List.mem_append_left _ hxm
            obtain ⟨hq1, hqr⟩ := hP.snd q hqm
            have hqb : q.2.1.Nodup ∧ ∀ f ∈ q.2.1, f ∈ toks := by
              obtain ⟨r, _, i, _, hb, _⟩ := hqr
              exact ⟨hb.nd, fun f hf => ((hb.mem f).mp hf).1⟩
            have hql : q.2.1.length ≤ 3 := nodup_len (m := toks) hqb.1 hqb.2
            refine ⟨_, Nxt_list rfl (placesV_at hpj), WA_tuple ok.inl.inl.inl rfl (tLoc ok.inl.inl.inl hF rfl (tLoc ok.inl.inl.inl hF rfl (tLoc ok.inl.inl.inl hF rfl ?_)))⟩
            refine WSs_cons (WS_If (WB_Compare (gLoc ok.inl.inl.inl hF rfl rfl (WE_Subscript (gLoc ok.inl.inl.inl hF rfl rfl (gLoc ok.inl.inl.inl hF rfl rfl (Sub_list hline (Int.natCast_nonneg p) (nat_lt_big hp4) hx' (Cmp_eqs ⟨fun h => ?_, fun h => ?_⟩)))))))) 
            · have h := of_decide_eq_true h
              have okF := ok.inl.inl.inl
              have ef : (Hs line' a found').C c = some (some (.ref a)) := up_self _ _ _
              have ea : asL (Hs line' a found') (.ref a) = some (found'.map .str) := up_self _ _ _
              let new : List Str := q.2.1.filter fun f => f ∉ found'
              have hnew : new.length ≤ 3 := Nat.le_trans (List.length_filter_le _ _) hql
              refine WSs_midV (C5 c H g heads rules pl nm b p line' found' a q new) (fun Q5 b5 => sAsgC okF hF rfl rfl (WE_BinOp (gCell okF hF rfl rfl ef (WE_ListComp okF [("found", c)] (.inr ⟨_, rfl⟩) (closK hF rfl) (by decide) rfl (compDbg okF rfl) (by decide) (WIt_list (gLoc okF hF rfl rfl ⟨q.2.1.map .str, rfl, q.2.1.map .str, flt fun f => f ∉ found', ⟨fun i => lstSt_mono i, by rw [List.length_map]; omega, fun C sv E okc => ⟨lstSt_self, fun m y hy => ⟨Nxt_list rfl hy, ?_⟩, Nxt_list_end (okc.handled (Nat.succ_ne_zero _)) rfl (Nat.le_refl _)⟩⟩, Op_addL ea rfl ?_ fun a' ha' => ⟨⟨_, ef⟩, b5.n ⟨a', (frL ha').1, (frL (frL ha').2).1, (frL (frL ha').2).2.l, rfl, ?_⟩⟩⟩)))))) ?_
              · rw [List.getElem?_map] at hy
                obtain ⟨s, hs, rfl⟩ := Option.map_eq_some_iff.mp hy
                refine tLoc okc (compF okF hF) rfl ⟨rfl, WB_Compare (gLoc okc (compF okF hF) rfl rfl (gCell okc (compF okF hF) rfl rfl ef (Cmp_notIn okc ea (by simp [V.isD]) isD_strs ⟨rfl, fun hb => gLoc okc (compF okF hF) rfl rfl ⟨rfl, ?_⟩, fun hb => ?_⟩)))⟩
                · rw [inV_str] at hb
                  show (if decide (s ∉ found') then some (V.str s) else none) = some (V.str s)
                  rw [if_pos (by simpa using hb)]
                · rw [inV_str] at hb
                  show (if decide (s ∉ found') then some (V.str s) else none) = none
                  rw [if_neg (by simpa using hb)]
              · rw [flt_map, List.length_map, List.length_map]
                show found'.length + new.length ≤ _
                omega
              · rw [flt_map, ← List.map_append]
                show _ = ({ H with L := _, C := up (up H.C c _) c _ } : Hp)
                rw [up_up]
              rintro l H' ⟨a', haa, hab', haL', rfl, rfl⟩
              refine WSs_pre (H' := Hs line' a' (found' ++ new)) ?kk (LocSub.refl _) ?ss
              case ss =>
                show Hp.Sub ⟨up (up H.L b _) a' _, _, _, _, _, _, _⟩ ⟨up (up (up H.L b _) a _) a' _, _, _, _, _, _, _⟩
                rw [up_comm (a := a) (b := a') haa.symm]
                exact subL ((up_ne haa.symm).trans ((up_ne hab).trans haL))
              have hline2 : asL (Hs line' a' (found' ++ new)) (.ref b) = some (line'.map .str) := (up_ne hab'.symm).trans (up_self _ _ _)
              have hlk : Lk pl nm q.1 := sr.ll _ (h ▸ hxm')
              have sr1 : ∀ line2, (∃ u, line2 = line' ++ u) → line2.Nodup → (∀ y ∈ line2, y ∈ heads ∧ Lk pl nm y) → Sr heads pl nm line2 (found' ++ new) := fun line2 ⟨u2, hu2⟩ h1 h2 => by
                refine ⟨h1, fun y hy => (h2 y hy).1, fun y hy => (h2 y hy).2, by rw [hu2]; exact List.mem_append_left _ sr.l0, ?_, fun f hf => ?_, fun f hf => ?_⟩
                · rw [List.nodup_append]
                  refine ⟨sr.fn, hqb.1.sublist List.filter_sublist, fun y hy z hz e => ?_⟩
                  have := (List.mem_filter.mp hz).2
                  exact (of_decide_eq_true this) (e ▸ hy)
                · rcases List.mem_append.mp hf with hf | hf
                  · exact sr.ft f hf
                  · exact hqb.2 f (List.mem_filter.mp hf).1
                · rcases List.mem_append.mp hf with hf | hf
                  · exact sr.fl f hf
                  · exact ⟨q, hqm, hlk, (List.mem_filter.mp hf).1⟩
              have hall : ∀ f ∈ q.2.1, f ∈ found' ++ new := fun f hf => by
                by_cases z : f ∈ found'
                · exact List.mem_append_left _ z
                · exact List.mem_append_right _ (List.mem_filter.mpr ⟨hf, decide_eq_true z⟩)
              have fin_ : ∀ line2, (∃ u, line2 = line' ++ u) → line2.Nodup → (∀ y ∈ line2, y ∈ heads ∧ Lk pl nm y) → (q.2.2 ≠ noS → q.2.2 ∈ line2) → C4 H g heads rules pl nm b Hs line found p x (j + 1) (LL none (hsV heads) (rsV rules) none (some (.str q.2.2)) none none none none (some (.ref g.fol)) none (some (.str q.1)) (some (.list (placesV pl))) none none (some (.str nm)) (some (.ref b)) (some (.int (p : Nat))) (some (.list (q.2.1.map .str)))) (Hs line2 a' (found' ++ new)) := fun line2 hu2 h1 h2 h3 => by
                refine ⟨line2, found' ++ new, a', _, _, _, ?_, fun f hf => List.mem_append_left _ (hff f hf), sr1 line2 hu2 h1 h2, fun p hp e => ?_, hab', haL', rfl, rfl⟩
                · obtain ⟨u2, hu2⟩ := hu2
                  exact ⟨u ++ u2, by rw [hu2, hu, List.append_assoc]⟩
                · rw [htk] at hp
                  rcases List.mem_append.mp hp with hp | hp
                  · obtain ⟨u2, hu2⟩ := hu2
                    exact (hcl p hp e).mono (fun y hy => by rw [hu2]; exact List.mem_append_left _ hy) fun y hy => List.mem_append_left _ hy
                  · rw [List.mem_singleton] at hp; subst hp
                    exact ⟨hall, h3⟩
              have hh2 : q.2.2 ≠ noS → q.2.2 ∈ heads := fun z => Lk.hds R hP hnm (.step hlk hqm z)
              refine WSs_cons (WS_If (WB_BoolOp (WAll_and_cons (WB_Compare (gLoc okF hF rfl rfl (WE_str (Cmp_nes ⟨fun h1 => WAll_and_cons (WB_Compare (gLoc okF hF rfl rfl (gLoc okF hF rfl rfl (Cmp_notIn okF hline2 (by simp [V.isD]) isD_strs ⟨fun h2 => WAll_and_nil ⟨fun _ => ?_, (fun h => nomatch h)⟩, fun h2 => ⟨(fun h => nomatch h), fun _ => WSs_nil (WSs_nil (WSs_nil ?_))⟩⟩)))), fun h1 => ⟨(fun h => nomatch h), fun _ => WSs_nil (WSs_nil (WSs_nil ?_))⟩⟩)))))))
              · have h1 : q.2.2 ≠ noS := by simpa using h1
                rw [inV_str] at h2
                have h2 : q.2.2 ∉ line' := by simpa using h2
                refine WSs_cons (sExpr okF (WE_CallM (gLoc okF hF rfl rfl (MGet_append hline2 (WEs_cons (gLoc okF hF rfl rfl (WEs_nil ⟨keepB okF, Call_append hline2 (by rw [List.length_map]; omega) (WSs_nil (WSs_nil (WSs_nil ?_)))⟩)))))))
                show Q4 _ _ ⟨up (up (up H.L b (line'.map .str)) a' _) b _, _, _, _, _, _, _⟩
                rw [up_mid hab'.symm]
                have e : (line'.map V.str) ++ [.str q.2.2] = (line' ++ [q.2.2]).map .str := by simp
                rw [e]
                refine b4.n (fin_ _ ⟨_, rfl⟩ ?_ (fun y hy => ?_) fun _ => by simp)
                · rw [List.nodup_append]
                  exact ⟨sr.ln, by simp, fun a ha b hb => by simp at hb; subst hb; exact fun z => h2 (z ▸ ha)⟩
                · rcases List.mem_append.mp hy with hy | hy
                  · exact ⟨sr.lh y hy, sr.ll y hy⟩
                  · simp at hy; subst hy; exact ⟨hh2 h1, .step hlk hqm h1⟩
              · rw [inV_str] at h2
                have h2 : q.2.2 ∈ line' := by simpa using h2
                exact b4.n (fin_ line' ⟨[], by simp⟩ sr.ln (fun y hy => ⟨sr.lh y hy, sr.ll y hy⟩) fun _ => h2)
              · have h1 : q.2.2 = noS := by simpa using h1
                exact b4.n (fin_ line' ⟨[], by simp⟩ sr.ln (fun y hy => ⟨sr.lh y hy, sr.ll y hy⟩) fun z => absurd h1 z)
            · have h := of_decide_eq_false h
              refine WSs_nil (WSs_nil (b4.n ⟨line', found', a, _, _, _, ⟨u, hu⟩, hff, sr, ?_, hab, haL, rfl, rfl⟩))
              intro p hp e
              rw [htk] at hp
              rcases List.mem_append.mp hp with hp | hp
              · exact hcl p hp e
              · rw [List.mem_singleton] at hp; subst hp; exact absurd e h
          · rintro l H' ⟨line', found', a, a4, a11, a19, hu, hff, sr, hcl, hab, haL, rfl, rfl⟩
            rw [List.take_length] at hcl
            exact ⟨Nxt_list_end (ok.inl.inl.handled (Nat.succ_ne_zero _)) rfl (by simp [placesV]), WSs_nil (b3.n ⟨line', found', a, _, _, _, hu, hff, sr, hcl, hab, haL, rfl, rfl⟩)⟩
        · rintro l H' ⟨line', found', a, a4, a11, a19, ⟨u, hu⟩, hff, sr', hcl, hab, haL, rfl, rfl⟩
          refine WSs_cons (sAug ok.inl.inl hF rfl rfl (WE_int (Op_iadd (WSs_nil (b2.n ⟨k - 1, (step_k hk hp4).1, line', found', p + 1, a, _, _, _, sr', ?_, ?_, (step_k hk hp4).2, hab, haL, rfl, rfl⟩)))))
          · intro q y hq e
            have hql : q < line.length := Nat.lt_of_lt_of_le hq hlt
            rw [hu, List.getElem?_append_left hql] at e
            by_cases hqp : q = p
            · subst hqp
              rw [hxx] at e; cases e
              exact hcl
            · exact fun r hr e' => (sd q y (Nat.lt_of_le_of_ne (Nat.le_of_lt_succ hq) hqp) e r hr e').mono (fun z hz => by rw [hu]; exact List.mem_append_left _ hz) hff
          · rw [hu, List.length_append]; exact Nat.le_trans hlt (Nat.le_add_right _ _)
      · have hlt : p = line.length := eq_of_dec h hp
        subst hlt
        have ef : (Hs line a found).C c = some (some (.ref a)) := up_self _ _ _
        have ea : ∀ {found}, asL (Hs line a found) (.ref a) = some (found.map .str) := fun {found} => up_self _ _ _
        have hfl : found.length ≤ 3 := nodup_len (m := toks) sr.fn sr.ft
        have hfound := sr.end_ (rules := rules) (s0 := rules[0]!.1) sd
        refine WSs_nil ?_
        refine WSs_midV (C6 g heads rules pl nm b Hs line a a4 a11 a19) (fun Q6 b6 => WS_If (WB_Compare (WE_Subscript (WE_Subscript (gLoc ok.inl hF rfl rfl (WE_int (Sub_list rfl (by decide) (by decide) (rulesV_at hr0) (WE_int (Sub_tup (by decide) (by decide) rfl (gLoc ok.inl hF rfl rfl (Cmp_in ok.inl hline (by simp [V.isD]) isD_strs ⟨fun h => ?_, fun h => ?_⟩))))))))))) ?_
        · rw [inV_str] at h
          have h : rules[0]!.1 ∈ line := by simpa using h
          rw [if_pos h] at hfound
          refine WSs_cons (sExpr ok.inl (WE_CallM (gCell ok.inl hF rfl rfl ef (MGet_append ea (WEs_cons (WE_str (WEs_nil ⟨keepB ok.inl, Call_append ea (by rw [List.length_map]; omega) (WSs_nil (b6.n ⟨found ++ [fin], hfound, by simp; omega, rfl, ?_⟩))⟩)))))))
          show Hs line a (found ++ [fin]) = ⟨up (up (up H.L b _) a _) a _, _, _, _, _, _, _⟩
          rw [up_up]
          show (⟨up (up H.L b _) a ((found ++ [fin]).map .str), _, _, _, _, _, _⟩ : Hp) = _
          rw [List.map_append]; rfl
        · rw [inV_str] at h
          have h : rules[0]!.1 ∉ line := by simpa using h
          rw [if_neg h] at hfound
          exact WSs_nil (b6.n ⟨found, hfound, by omega, rfl, rfl⟩)
        rintro l H' ⟨found', hfd, hfl', rfl, rfl⟩
        have hkm : nm ∈ kys tW := by rw [kW]; exact (hN nm).mpr hnm
        obtain ⟨af, f1, f2, f3, f4⟩ := cs.sW.at_ hkm
        have hafb : af ≠ b := fun e => by rw [e, hbL] at f3; cases f3
        have hafa : af ≠ a := fun e => by rw [e, haL] at f3; cases f3
        have f5 : asL (Hs line a found') (.ref af) = some ((fo nm).map .str) := (up_ne hafa).trans ((up_ne hafb).trans f3)
        have hperm := follow_perm R hN fF hP fW hnm hfd
        have hfo : (fo nm).length ≤ 4 := by rw [hperm.length_eq]; exact hfl'
        have ef' : (Hs line a found').C c = some (some (.ref a)) := up_self _ _ _
        refine WSs_cons (WS_If (WB_Compare (WE_CallN (gBi ok.inl W hF rfl rfl (by boot_by_name) (by decide) (WEs_cons (WE_Subscript (gLoc ok.inl hF rfl rfl (gLoc ok.inl hF rfl rfl (Sub_dict cs.sW.tb.dict f2 (WEs_nil ⟨keepB ok.inl, Call_sorted (ss := fo nm) f5 (by omega) fun ss1 hp1 hs1 => WE_CallN (gBi ok.inl W hF rfl rfl (by boot_by_name) (by decide) (WEs_cons (gCell ok.inl hF rfl rfl ef' (WEs_nil ⟨keepB ok.inl, Call_sorted (ss := found') ea (by omega) fun ss2 hp2 hs2 => Cmp_neSorted ok.inl hs1 hs2 (hp1.trans (hperm.trans hp2.symm)) ⟨(fun h => nomatch h), fun _ => WSs_nil ?_⟩⟩))))⟩))))))))))
        refine WSs_pre (H' := { H with C := up H.C c (some (.ref a)) }) ?kk2 (LocSub.refl _) ?ss2
        case ss2 => exact (subL hbL).trans (subL ((up_ne hab).trans haL))
        exact WSs_nil (b1.n ⟨_, _, _, _, _, _, _, rfl, rfl⟩)
  · rintro l H' ⟨a4, a11, a15, a16, a18, a19, ov, rfl, rfl⟩
    exact ⟨Nxt_list_end (ok.handled (Nat.succ_ne_zero _)) rfl (Nat.le_refl _), WSs_nil (WSs_cons (WS_Return (WE_bool rfl)))⟩
end Lay.W1
end
noncomputable section
open PySem PySem.W PyProof.Rows PySem.Calls
set_option Elab.async false
set_option maxRecDepth 100000
set_option linter.all false
set_option maxHeartbeats 8000000
namespace Lay.W1
variable {P : Params} {F : Fx} {n : Nat} {loc : Loc} {H : Hp}
theorem cut_drop {l : List Str} {k : Nat} : cut (l.map V.str) (some ((k + 1 : Nat) : Int)) none = (l.drop (k + 1)).map .str := by
  unfold cut
  simp only [Option.getD_some, Option.map_none, Option.getD_none, Int.toNat_natCast, List.length_map]
  rw [← List.map_drop, List.take_of_length_le (by simp)]
noncomputable abbrev dueK (heads : List Str) : List Str := [("error" : Str), fin] ++ toks ++ heads
theorem dueK_nodup {heads : List Str} (hn : heads.Nodup) (ha : ∀ h ∈ heads, h ∈ abc) : (dueK heads).Nodup := by
  unfold dueK
  rw [List.nodup_append]
  refine ⟨by decide +kernel, hn, fun a h1 b h2 e => ?_⟩
  subst e
  have : ∀ s ∈ [("error" : Str), fin] ++ toks, s ∉ abc := by decide +kernel
  exact this a h1 (ha a h2)
theorem uni_len {rules : List (Str × List Str)} {heads row : List Str} (R : RulesIs heads rules) (h : row.length ≤ 3) : (uni rules row).length ≤ 1000 := by
  unfold uni
  rw [List.length_append]
  have : ∀ l : List (Str × List Str), (∀ r ∈ l, r.2.length ≤ 3) → ((l.map (·.2)).flatten).length ≤ l.length * 3 := by
    intro l
    induction l with
    | nil => intro _; simp
    | cons r l ih =>
      intro h
      have h1 := h r (.head _)
      have h2 := ih fun r hr => h r (.tail _ hr)
      simp only [List.map_cons, List.flatten_cons, List.length_append, List.length_cons]
      omega
  have h1 := this rules R.bl
  have h2 := R.rl
  omega
theorem cs_start {cg cr : Addr} {H : Hp} {g : GA} {t : GT} (gr : GrOk cg cr H g t) (h1 : t.fst = []) (h2 : t.fol = []) : Cs cg cr H g t H [] [] (fun _ => []) (fun _ => []) := by
  have e : ({ t with fst := tof [], fol := tof [] } : GT) = t := by
    cases t; dsimp only at h1 h2; subst h1; subst h2; rfl
  refine ⟨by rw [e]; exact gr, ⟨⟨by rw [gr.fst, h1]; rfl, fun _ h => by cases h⟩, fun _ h => (by cases h), List.nodup_nil⟩, ⟨⟨by rw [gr.fol, h2]; rfl, fun _ h => by cases h⟩, fun _ h => (by cases h), List.nodup_nil⟩, List.nodup_nil, fun a h => (by cases h), Ext.refl _, fun a h => (by cases h)⟩
theorem due_first {heads N : List Str} {rules : List (Str × List Str)} {fi : Str → List Str} (R : RulesIs heads rules) (hN : ∀ s, s ∈ N ↔ s ∈ heads) (hF : FirstIs TT N rules fi) {k : Str} {xs : List Str} (hk : k ∈ dueK heads) (hd : DueAt rules (gon rules heads) k xs) : (fi k).Perm xs := by
  rcases hd with ⟨h1, rfl⟩ | ⟨h1, res, h2, rfl⟩
  · rw [hF.base k h1]
  · refine head_first R hN hF ?_ h2
    rcases List.mem_append.mp hk with h | h
    · refine absurd ?_ h1
      have : ∀ s ∈ [("error" : Str), fin] ++ toks, s ∈ TT ++ [fin] := by decide +kernel
      exact this k h
    · exact h
theorem par0 {rules : List (Str × List Str)} (h : decide (((rulesV rules).length : Int) % 2 = 0) = true) : rules.length % 2 = 0 := by
  have := of_decide_eq_true h
  rw [rulesV, List.length_map] at this
  exact Int.ofNat.inj this
theorem par1 {rules : List (Str × List Str)} (h : decide (((rulesV rules).length : Int) % 2 = 0) = false) : rules.length % 2 = 1 := by
  have := of_decide_eq_false h
  rw [rulesV, List.length_map] at this
  exact (Nat.mod_two_eq_zero_or_one _).resolve_left fun e => this (congrArg Int.ofNat e)
theorem par2 {rules : List (Str × List Str)} (h : decide (((rulesV rules).length : Int) % 2 = 1) = true) : rules.length % 2 = 1 := by
  have := of_decide_eq_true h
  rw [rulesV, List.length_map] at this
  exact Int.ofNat.inj this
theorem par3 {rules : List (Str × List Str)} (h : decide (((rulesV rules).length : Int) % 2 = 1) = false) : rules.length % 2 = 0 := by
  have := of_decide_eq_false h
  rw [rulesV, List.length_map] at this
  exact (Nat.mod_two_eq_zero_or_one _).resolve_right fun e => this (congrArg Int.ofNat e)
theorem tt_len {tF : Tab} {N : List Str} (h : kys tF = TT ++ fin :: N) (hz : N.length ≤ 50) : tF.length ≤ 60 := by
  rw [← kys_len, h, List.length_append, List.length_cons]
  exact Nat.le_trans (Nat.add_le_add (show TT.length ≤ 4 by decide) (Nat.succ_le_succ hz)) (by decide)
inductive Lb1 (H : Hp) (g : GA) (t : GT) (heads : List Str) (rules : List (Str × List Str)) (du : Addr) (a0 : Option V) (a4 : Option V) (a5 : Option V) (a8 : Option V) (l : Loc) (H' : Hp) : Prop
  | mk (tF : Tab) (tW : Tab) (fi : Str → List Str) (fo : Str → List Str) (bv : V) (_ : Cx H g t H' tF tW fi fo) (_ : ((rules.length % 2 = 0 ∧ bv = V.ref g.fol ∧ kys tF = TT ++ fin :: kys t.tN ∧ FirstIs TT (kys t.tN) rules fi ∧ kys tW = kys t.tN ∧ FollowIs (kys t.tN) rules rules[0]!.1 fi fo) ∨ (rules.length % 2 = 1 ∧ tF = [] ∧ tW = []))) (_ : l = LL a0 (hsV heads) (rsV rules) (some (.ref g.g)) a4 a5 (hsV (gon rules heads)) (some (.ref du)) a8 (some bv) none none none none none none none none none) : Lb1 H g t heads rules du a0 a4 a5 a8 l H'
inductive Lb2 (H : Hp) (g : GA) (t : GT) (heads : List Str) (rules : List (Str × List Str)) (du : Addr) (a0 : Option V) (a4 : Option V) (a5 : Option V) (a8 : Option V) (bv : V) (l : Loc) (H' : Hp) : Prop
  | mk (tF : Tab) (tW : Tab) (fi : Str → List Str) (fo : Str → List Str) (_ : Cx H g t H' tF tW fi fo) (_ : kys tF = TT ++ fin :: kys t.tN) (_ : FirstIs TT (kys t.tN) rules fi) (_ : ((rules.length % 2 = 0 ∧ bv = V.ref g.fol ∧ kys tW = kys t.tN ∧ FollowIs (kys t.tN) rules rules[0]!.1 fi fo) ∨ (rules.length % 2 = 1 ∧ tW = []))) (_ : l = LL a0 (hsV heads) (rsV rules) (some (.ref g.g)) a4 a5 (hsV (gon rules heads)) (some (.ref du)) a8 (some bv) (some (.ref g.fst)) none none none none none none none none) : Lb2 H g t heads rules du a0 a4 a5 a8 bv l H'
inductive Lb3 (g : GA) (heads : List Str) (rules : List (Str × List Str)) (du : Addr) (a0 : Option V) (a4 : Option V) (a5 : Option V) (a8 : Option V) (bv : V) (H2 : Hp) (ep : Nat) (i : Nat) (l : Loc) (H' : Hp) : Prop
  | mk (a11 : Option V) (_ : l = LL a0 (hsV heads) (rsV rules) (some (.ref g.g)) a4 a5 (hsV (gon rules heads)) (some (.ref du)) a8 (some bv) (some (.ref g.fst)) a11 none none none none none none none) (_ : { H2 with G := up H2.G du ep } = H') : Lb3 g heads rules du a0 a4 a5 a8 bv H2 ep i l H'
inductive Lb4 (g : GA) (heads : List Str) (rules : List (Str × List Str)) (du : Addr) (a0 : Option V) (a8 : Option V) (bv : V) (a11 : Option V) (pa : Addr) (Hp_ : Pl → Hp) (l : Loc) (H' : Hp) : Prop
  | mk (pl : Pl) (a4 : Option V) (a5 : Option V) (a13 : Option V) (a14 : Option V) (_ : PlacesIs heads rules pl) (_ : pl.length ≤ 30) (_ : l = LL a0 (hsV heads) (rsV rules) (some (.ref g.g)) a4 a5 (hsV (gon rules heads)) (some (.ref du)) a8 (some bv) (some (.ref g.fst)) a11 (some (.ref pa)) a13 a14 none none none none) (_ : Hp_ pl = H') : Lb4 g heads rules du a0 a8 bv a11 pa Hp_ l H'
inductive Lb5 (g : GA) (heads : List Str) (rules : List (Str × List Str)) (du : Addr) (a0 : Option V) (a8 : Option V) (bv : V) (a11 : Option V) (pa : Addr) (Hp_ : Pl → Hp) (i : Nat) (l : Loc) (H' : Hp) : Prop
  | mk (pl : Pl) (a4 : Option V) (a5 : Option V) (a13 : Option V) (a14 : Option V) (_ : PlSound heads rules pl) (_ : (∀ r ∈ rules.take i, PlCov heads rules pl r r.2.length)) (_ : pl.length ≤ 3 * i) (_ : l = LL a0 (hsV heads) (rsV rules) (some (.ref g.g)) a4 a5 (hsV (gon rules heads)) (some (.ref du)) a8 (some bv) (some (.ref g.fst)) a11 (some (.ref pa)) a13 a14 none none none none) (_ : Hp_ pl = H') : Lb5 g heads rules du a0 a8 bv a11 pa Hp_ i l H'
inductive Lb6 (g : GA) (heads : List Str) (rules : List (Str × List Str)) (du : Addr) (a0 : Option V) (a8 : Option V) (bv : V) (a11 : Option V) (pa : Addr) (Hp_ : Pl → Hp) (i : Nat) (r : Str × List Str) (j : Nat) (l : Loc) (H' : Hp) : Prop
  | mk (pl : Pl) (a13 : Option V) (a14 : Option V) (_ : PlSound heads rules pl) (_ : (∀ r ∈ rules.take i, PlCov heads rules pl r r.2.length)) (_ : PlCov heads rules pl r j) (_ : pl.length ≤ 3 * i + j) (_ : l = LL a0 (hsV heads) (rsV rules) (some (.ref g.g)) (some (.str r.1)) (some (.list (r.2.map .str))) (hsV (gon rules heads)) (some (.ref du)) a8 (some bv) (some (.ref g.fst)) a11 (some (.ref pa)) a13 a14 none none none none) (_ : Hp_ pl = H') : Lb6 g heads rules du a0 a8 bv a11 pa Hp_ i r j l H'
inductive Lb7 (H : Hp) (g : GA) (t : GT) (heads : List Str) (rules : List (Str × List Str)) (du : Addr) (a0 : Option V) (a8 : Option V) (a11 : Option V) (pl : Pl) (a4 : Option V) (a5 : Option V) (a13 : Option V) (a14 : Option V) (l : Loc) (H' : Hp) : Prop
  | mk (tF : Tab) (tW : Tab) (fi : Str → List Str) (fo : Str → List Str) (_ : Cx H g t H' tF tW fi fo) (_ : FirstIs TT (kys t.tN) rules fi) (_ : kys tW = kys t.tN) (_ : FollowIs (kys t.tN) rules rules[0]!.1 fi fo) (_ : l = LL a0 (hsV heads) (rsV rules) (some (.ref g.g)) a4 a5 (hsV (gon rules heads)) (some (.ref du)) a8 (some (.ref g.fol)) (some (.ref g.fst)) a11 (some (.list (placesV pl))) a13 a14 none none none none) : Lb7 H g t heads rules du a0 a8 a11 pl a4 a5 a13 a14 l H'
theorem lwB (ok : Ok F 12) (tp : Top F) (W : Wd (K P) F.c.base) {c : Addr} (hF : FrameIs F (lawNames P) [("found", c)]) {H : Hp} {g : GA} {t : GT} {heads : List Str} {rules : List (Str × List Str)} {du : Addr} {kvs : List (Str × V)}
    (R : RulesIs heads rules) (hN : ∀ s, s ∈ kys t.tN ↔ s ∈ heads) (gc : Gc t TT (kys t.tN) rules) (gr : Gr H g t) (h1 : t.fst = []) (h2 : t.fol = []) (hc : CellAt H c none) (hdu : DictAt H du kvs) (hdf : ¬ foot g t du) (hd : DueIs rules (gon rules heads) (dueK heads) kvs) {a0 a4 a5 a8 : Option V} :
    WSs F ((lawBody P).drop 7) (LL a0 (hsV heads) (rsV rules) (some (.ref g.g)) a4 a5 (hsV (gon rules heads)) (some (.ref du)) a8 none none none none none none none none none none) H (fun fl _ _ => fl = .ret (.bool true)) := by
  have hhl : heads.length ≤ 3 := nodup_len (m := abc) R.hn R.ha
  have hrl := R.rl
  have hcf := hc.foot gr
  have cs0 := cs_start gr h1 h2
  have hkl : kvs.length = 5 + heads.length := by
    have : (kvs.map (·.1)).length = (dueK heads).length := by rw [hd.ks]
    rw [List.length_map] at this
    rw [this]; simp [dueK]; omega
  -- behind
  refine WSs_midV (Lb1 H g t heads rules du a0 a4 a5 a8) (fun Q1 b1 => sAsg ok hF rfl (WE_IfExp (WB_Compare (WE_BinOp (WE_CallN (gBi ok W hF rfl rfl (by boot_by_name) (by decide) (WEs_cons (gLoc ok hF rfl rfl (WEs_nil ⟨keepB ok, Call_len rfl (len_map_le hrl) (WE_int (Op_mod (by decide) (WE_int (Cmp_eqi ⟨fun h => ?_, fun h => ?_⟩))))⟩))))))))) ?_
  · have hev : rules.length % 2 = 0 := par0 h
    have hr0 : rules[0]'R.r0 = rules[0]! := by simp [R.r0]
    refine WE_CallM (gLoc ok hF rfl rfl (getGM (f := 207) ok W gr (by decide) (WEs_nil ⟨keepK ok W, Call_of (fw_call ok W cs0 gc R.r0 (.inl rfl) fun H' tF' tW' fi' fo' cs' k1 k2 k3 k4 => b1.n ⟨tF', tW', fi', fo', _, cs', .inl ⟨hev, rfl, k1, k2, k3, ?_⟩, rfl⟩)⟩)))
    rw [← hr0]; exact k4
  · have hod : rules.length % 2 = 1 := par1 h
    refine WE_weak (Q' := fun X l H' => ∃ a, H.Fresh a ∧ X = .ref a ∧ l = LL a0 (hsV heads) (rsV rules) (some (.ref g.g)) a4 a5 (hsV (gon rules heads)) (some (.ref du)) a8 none none none none none none none none none none ∧ H' = { H with D := up H.D a [] }) (WE_Dict0 fun a ha => ⟨a, ha, rfl, rfl, rfl⟩) ?_
    rintro X l H' ⟨a, ha, rfl, rfl, rfl⟩
    exact ⟨_, H, LocSub.refl _, subD ha.d (gr.gn _), b1.n ⟨[], [], _, _, _, cs0, .inr ⟨hod, rfl, rfl⟩, rfl⟩⟩
  -- told
  rintro l H1 ⟨tF, tW, fi, fo, bv, cs1, hcase, rfl⟩
  refine WSs_midV (Lb2 H g t heads rules du a0 a4 a5 a8 bv) (fun Q2 b2 => sAsg ok hF rfl (WE_CallM (gLoc ok hF rfl rfl (getGM (f := 199) ok W cs1.gr (by decide) (WEs_nil ⟨keepK ok W, Call_of ?_⟩))))) ?_
  · rcases hcase with ⟨e1, e2, e3, e4, e5, e6⟩ | ⟨e1, rfl, rfl⟩
    · refine cf_done ok W cs1 (fun z => ?_) ?_ (b2.n ⟨tF, tW, fi, fo, cs1, e3, e4, .inl ⟨e1, e2, e5, e6⟩, rfl⟩)
      · rw [z] at e3; exact absurd e3 (by simp [kys])
      · exact Nat.le_trans (tt_len e3 gc.zN) (by decide)
    · exact cf_call ok W cs1 gc fun H' tF' fi' cs' k1 k2 => b2.n ⟨tF', [], fi', fo, cs', k1, k2, .inr ⟨e1, rfl⟩, rfl⟩
  clear cs1 hcase
  rintro l H2 ⟨tF, tW, fi, fo, cs, kF, fF, hcase, rfl⟩
  have hFl : (tof tF).length ≤ 60 := by rw [tof, List.length_map]; exact tt_len kF gc.zN
  have hdu2 := hdu.ext cs.ext hdf
  have hc2 := hc.ext cs.ext hcf
  -- the keys of the two
  have hkp : (kys tF).Perm (kvs.map (·.1)) := by
    rw [kF, hd.ks]
    refine perm_of_mem (by rw [← kF]; exact cs.sF.kd) (dueK_nodup R.hn R.ha) fun x => ?_
    simp only [dueK, TT, List.mem_append, List.mem_cons, hN]
    simp only [List.not_mem_nil, or_false]
    constructor
    · rintro ((h | h) | h | h)
      · exact .inl (.inr h)
      · exact .inl (.inl (.inl h))
      · exact .inl (.inl (.inr h))
      · exact .inr h
    · rintro (((h | h) | h) | h)
      · exact .inl (.inr h)
      · exact .inr (.inl h)
      · exact .inl (.inl h)
      · exact .inr (.inr h)
  refine WSs_cons (WS_If (WB_Compare (WE_CallN (gBi ok W hF rfl rfl (by boot_by_name) (by decide) (WEs_cons (WE_ListCallDF ok (gBi ok W hF rfl rfl (by boot_by_name) (by decide) ⟨rfl, gLoc ok hF rfl rfl ⟨g.fst, tof tF, rfl, cs.sF.tb.dict, by omega, WEs_nil ⟨keepB ok, Call_sorted (ss := kys tF) ?_ ?_ fun ss1 hp1 hs1 => WE_CallN (gBi ok W hF rfl rfl (by boot_by_name) (by decide) (WEs_cons (WE_ListCallDF ok (gBi ok W hF rfl rfl (by boot_by_name) (by decide) ⟨rfl, gLoc ok hF rfl rfl ⟨du, kvs, rfl, hdu2.D, by omega, WEs_nil ⟨keepB ok, Call_sorted (ss := kvs.map (·.1)) ?_ ?_ fun ss2 hp2 hs2 => Cmp_neSorted ok hs1 hs2 (hp1.trans (hkp.trans hp2.symm)) ⟨(fun h => nomatch h), fun _ => WSs_nil ?_⟩⟩⟩⟩))))⟩⟩⟩)))))))
  · exact congrArg some (by simp [tof, kys])
  · rw [kys_len]; exact Nat.lt_of_le_of_lt (tt_len kF gc.zN) (by decide)
  · exact congrArg some (by simp)
  · rw [List.length_map]; omega
  -- each row of First
  refine WSs_cons (WS_For (WIt_keys (gLoc ok hF rfl rfl ⟨du, kvs, rfl, hdu2.D, fun ep => ?_⟩)))
  refine ForOnV (fun i => keySt_mono i) kvs.length (Lb3 g heads rules du a0 a4 a5 a8 bv H2 ep) ⟨none, rfl, rfl⟩ ?_ ?_
  · rintro i Q3 b3 l H' hi ⟨a11, rfl, rfl⟩
    have hki : kvs[i]? = some kvs[i] := List.getElem?_eq_getElem hi
    generalize hp : kvs[i] = p at hki
    obtain ⟨k, X⟩ := p
    have hpm : (k, X) ∈ kvs := List.mem_of_getElem? hki
    obtain ⟨xs, hxs, hdx⟩ := hd.at_ _ hpm
    dsimp only at hxs hdx
    subst hxs
    have hkm : k ∈ dueK heads := by rw [← hd.ks]; exact List.mem_map.mpr ⟨_, hpm, rfl⟩
    have hperm := due_first R hN fF hkm hdx
    have hkt : k ∈ kys tF := hkp.mem_iff.mpr (by rw [hd.ks]; exact hkm)
    have hfl : (fi k).length ≤ 52 := fF.toFm.len (by decide) (by rw [← kF]; exact hkt)
    obtain ⟨af, f1, f2, f3, f4⟩ := cs.sF.at_ hkt
    have hdg : dget kvs k = some (.list (xs.map .str)) := dget_mem (by rw [hd.ks]; exact dueK_nodup R.hn R.ha) hpm
    refine ⟨.str k, Nxt_keys hdu2.D (up_self _ _ _) rfl hki, tLoc ok.inl hF rfl ?_⟩
    refine WSs_cons (WS_If (WB_Compare (WE_CallN (gBi ok.inl W hF rfl rfl (by boot_by_name) (by decide) (WEs_cons (WE_Subscript (gLoc ok.inl hF rfl rfl (gLoc ok.inl hF rfl rfl (Sub_dict cs.sF.tb.dict f2 (WEs_nil ⟨keepB ok.inl, Call_sorted (ss := fi k) f3 (by omega) fun ss1 hp1 hs1 => WE_CallN (gBi ok.inl W hF rfl rfl (by boot_by_name) (by decide) (WEs_cons (WE_Subscript (gLoc ok.inl hF rfl rfl (gLoc ok.inl hF rfl rfl (Sub_dict hdu2.D hdg (WEs_nil ⟨keepB ok.inl, Call_sorted (ss := xs) rfl (Nat.lt_of_le_of_lt (Nat.le_trans (Nat.le_of_eq hperm.length_eq.symm) hfl) (by decide)) fun ss2 hp2 hs2 => Cmp_neSorted ok.inl hs1 hs2 (hp1.trans (hperm.trans hp2.symm)) ⟨(fun h => nomatch h), fun _ => WSs_nil (WSs_nil (b3.n ⟨_, rfl, rfl⟩))⟩⟩)))))))⟩))))))))))
  · rintro l H' ⟨a11, rfl, rfl⟩
    refine ⟨Nxt_keys_end (ok.handled (Nat.succ_ne_zero _)) hdu2.D (up_self _ _ _) rfl (Nat.le_refl _), WSs_nil ?_⟩
    refine WSs_pre ?_ (LocSub.refl _) (subG (cs.gr.gn _))
    -- the places
    refine WSs_cons (sAsg ok hF rfl (WE_List (WEs_nil ⟨by simp, fun pa hpa => ?_⟩)))
    have hpaL : H2.L pa = none := hpa.l
    let Hp_ : Pl → Hp := fun pl => { H2 with L := up H2.L pa (placesV pl) }
    have hget : ∀ pl, asL (Hp_ pl) (.ref pa) = some (placesV pl) := fun pl => up_self _ _ _
    refine WSs_midV (Lb4 g heads rules du a0 a8 bv a11 pa Hp_) (fun Q4 b4 => WS_For (WIt_list (gLoc ok hF rfl rfl ⟨rulesV rules, rfl, ?_⟩))) ?_
    · refine ForOnV (fun i => lstSt_mono i) rules.length (Lb5 g heads rules du a0 a8 bv a11 pa Hp_) ⟨[], _, _, _, _, fun p hp => (by cases hp), by simp, by simp, rfl, rfl⟩ ?_ ?_
      · rintro i Q5 b5 l H' hi ⟨pl, a4, a5, a13, a14, psd, pcv, pll, rfl, rfl⟩
        have hri : rules[i]? = some rules[i] := List.getElem?_eq_getElem hi
        have htk : rules.take (i + 1) = rules.take i ++ [rules[i]] := take_snoc hi
        generalize hr : rules[i] = r at *
        have hrm : r ∈ rules := List.mem_of_getElem? hri
        have hbl := R.bl r hrm
        refine ⟨_, Nxt_list rfl (rulesV_at hri), WA_tuple ok.inl rfl (tLoc ok.inl hF rfl (tLoc ok.inl hF rfl ?_))⟩
        refine WSs_cons (WS_For (WIt_range (gBi ok.inl W hF rfl rfl (by boot_by_name) (by decide) ⟨rfl, WEs_cons (WE_CallN (gBi ok.inl W hF rfl rfl (by boot_by_name) (by decide) (WEs_cons (gLoc ok.inl hF rfl rfl (WEs_nil ⟨keepB ok.inl, Call_len rfl (len_map_le hbl) (WEs_nil ⟨r.2.length, by rw [List.length_map], by omega, ?_⟩)⟩)))))⟩)))
        refine ForOnV (fun i => rngSt_mono i) r.2.length (Lb6 g heads rules du a0 a8 bv a11 pa Hp_ i r) ⟨pl, _, _, psd, pcv, (fun i x hi => absurd hi (Nat.not_lt_zero _)), pll, rfl, rfl⟩ ?_ ?_
        · clear psd pcv pll
          rintro j Q6 b6 l H' hj ⟨pl, a13, a14, psd, pcv, pc, pll, rfl, rfl⟩
          have hxj : r.2[j]? = some r.2[j] := List.getElem?_eq_getElem hj
          generalize hx : r.2[j] = x at hxj
          have hat : (r.2.map V.str)[((j : Nat) : Int).toNat]? = some (.str x) := by rw [Int.toNat_natCast, List.getElem?_map, hxj]; rfl
          have hj6 : (j : Int) < 1000000 := by omega
          refine ⟨_, Nxt_rng hj, tLoc ok.inl.inl hF rfl ?_⟩
          refine WSs_cons (WS_If (WB_Compare (WE_Subscript (gLoc ok.inl.inl hF rfl rfl (gLoc ok.inl.inl hF rfl rfl (Sub_list rfl (Int.natCast_nonneg j) hj6 hat (gLoc ok.inl.inl hF rfl rfl (Cmp_in ok.inl.inl rfl (by simp [V.isD]) isD_strs ⟨fun h => ?_, fun h => ?_⟩))))))))
          · rw [inV_str] at h
            have h : x ∈ heads := by simpa using h
            have hdl : (r.2.drop (j + 1)).length ≤ 3 := by rw [List.length_drop]; exact Nat.le_trans (Nat.sub_le _ _) hbl
            refine WSs_cons (sAsg ok.inl.inl hF rfl (WE_SliceL (gLoc ok.inl.inl hF rfl rfl (WOpt_some (WE_BinOp (gLoc ok.inl.inl hF rfl rfl (WE_int (Op_add ⟨((j + 1 : Nat) : Int), rfl, WOpt_none ⟨r.2.map .str, rfl, len_map_le hbl, by simp; omega, by simp, ?_⟩⟩))))))))
            rw [cut_drop]
            refine WSs_cons (sExpr ok.inl.inl (WE_CallM (gLoc ok.inl.inl hF rfl rfl (MGet_append (hget _) (WEs_cons (WE_Tuple (WEs_cons (WE_Subscript (gLoc ok.inl.inl hF rfl rfl (gLoc ok.inl.inl hF rfl rfl (Sub_list rfl (Int.natCast_nonneg j) hj6 hat (WEs_cons (WE_CallN (gGlob ok.inl.inl W hF rfl rfl (.ref _) (WEs_cons (gLoc ok.inl.inl hF rfl rfl (WEs_cons (gLoc ok.inl.inl hF rfl rfl (WEs_cons (gLoc ok.inl.inl hF rfl rfl (WEs_nil ⟨keepK ok.inl.inl W, be_call ok.inl.inl W (Nat.le_trans hrl (by decide)) (uni_len R hdl) fun res hres => ?_⟩)))))))))))))))))))))
            refine WEs_cons (WE_mid (fun X l2 H2' => X = .str (if allG (gon rules heads) (r.2.drop (j + 1)) then r.1 else noS) ∧ LL a0 (hsV heads) (rsV rules) (some (.ref g.g)) (some (.str r.1)) (some (.list (r.2.map .str))) (hsV (gon rules heads)) (some (.ref du)) a8 (some bv) (some (.ref g.fst)) a11 (some (.ref pa)) (some (.int (j : Nat))) (some (.list ((r.2.drop (j + 1)).map .str))) none none none none = l2 ∧ Hp_ pl = H2') ?_ ?_)
            · refine WE_IfExp (WB_plain (WE_CallN (gGlob ok.inl.inl W hF rfl rfl (.ref _) (WEs_cons (gLoc ok.inl.inl hF rfl rfl (WEs_cons (gLoc ok.inl.inl hF rfl rfl (WEs_nil ⟨keepK ok.inl.inl W, al_call ok.inl.inl W (Nat.le_trans hdl (by decide)) (Tru_bool ⟨fun h => gLoc ok.inl.inl hF rfl rfl ⟨?_, rfl, rfl⟩, fun h => WE_str ⟨?_, rfl, rfl⟩⟩)⟩))))))))
              · rw [if_pos (show allG _ _ = true from h)]
              · rw [if_neg (show ¬ allG _ _ = true from fun z => by rw [show allG _ _ = false from h] at z; cases z)]
            rintro X l2 H2' ⟨rfl, rfl, rfl⟩
            refine WEs_nil ⟨by simp, WEs_nil ⟨keepB ok.inl.inl, Call_append (hget _) (by simp [placesV]; omega) (WSs_nil (WSs_nil (b6.n ⟨pl ++ [(x, res, if allG (gon rules heads) (r.2.drop (j + 1)) then r.1 else noS)], _, _, ?_, fun r' hr' => (pcv r' hr').app _, ?_, by simp; omega, rfl, ?_⟩)))⟩⟩
            · intro p hp
              rcases List.mem_append.mp hp with hp | hp
              · exact psd p hp
              · simp at hp; subst hp; exact ⟨h, r, hrm, j, hxj, hres, rfl⟩
            · refine (pc.app _).next fun y hy _ => ?_
              rw [hxj] at hy; cases hy
              exact ⟨_, List.mem_append_right _ (.head _), hxj, hres, rfl⟩
            · show (⟨up H2.L pa (placesV (pl ++ _)), _, _, _, _, _, _⟩ : Hp) = ⟨up (up H2.L pa _) pa _, _, _, _, _, _, _⟩
              rw [up_up]
              have e : ∀ q : Str × List Str × Str, placesV (pl ++ [q]) = placesV pl ++ [.tup [.str q.1, .list (q.2.1.map .str), .str q.2.2]] := fun q => by simp [placesV]
              rw [e]
          · rw [inV_str] at h
            have h : x ∉ heads := by simpa using h
            refine WSs_nil (WSs_nil (b6.n ⟨pl, _, _, psd, pcv, pc.next fun y hy hh => ?_, Nat.le_succ_of_le pll, rfl, rfl⟩))
            rw [hxj] at hy; cases hy
            exact absurd hh h
        · rintro l H' ⟨pl, a13, a14, psd, pcv, pc, pll, rfl, rfl⟩
          refine ⟨Nxt_rng_end (ok.inl.handled (Nat.succ_ne_zero _)) (Nat.le_refl _), WSs_nil (WSs_nil (b5.n ⟨pl, _, _, _, _, psd, ?_, Nat.le_trans pll (Nat.add_le_add_left hbl (3 * i)), rfl, rfl⟩))⟩
          intro r' hr'
          rw [htk] at hr'
          rcases List.mem_append.mp hr' with hr' | hr'
          · exact pcv r' hr'
          · rw [List.mem_singleton] at hr'; subst hr'; exact pc
      · rintro l H' ⟨pl, a4, a5, a13, a14, psd, pcv, pll, rfl, rfl⟩
        rw [List.take_length] at pcv
        exact ⟨Nxt_list_end (ok.handled (Nat.succ_ne_zero _)) rfl (by simp [rulesV]), WSs_nil (b4.n ⟨pl, _, _, _, _, places_end psd pcv, Nat.le_trans pll (Nat.le_trans (Nat.mul_le_mul_left 3 hrl) (by decide)), rfl, rfl⟩)⟩
    rintro l H' ⟨pl, a4, a5, a13, a14, hP, hpl, rfl, rfl⟩
    refine WSs_frz (i := 12) (X' := .list (placesV pl)) (H' := H2) rfl (by have := Frz.list (a := pa) (H := Hp_ pl) (up_self _ _ _); have e : ({ Hp_ pl with L := un (Hp_ pl).L pa } : Hp) = H2 := (by show (⟨un (up H2.L pa _) pa, _, _, _, _, _, _⟩ : Hp) = _; rw [un_up hpaL]); rw [e] at this; exact this) ?_
    refine WSs_midV (Lb7 H g t heads rules du a0 a8 a11 pl a4 a5 a13 a14) (fun Q7 b7 => WS_If (WB_Compare (WE_BinOp (WE_CallN (gBi ok W hF rfl rfl (by boot_by_name) (by decide) (WEs_cons (gLoc ok hF rfl rfl (WEs_nil ⟨keepB ok, Call_len rfl (len_map_le hrl) (WE_int (Op_mod (by decide) (WE_int (Cmp_eqi ⟨fun h => ?_, fun h => ?_⟩))))⟩)))))))) ?_
    · have hod : rules.length % 2 = 1 := par2 h
      have hr0 : rules[0]'R.r0 = rules[0]! := by simp [R.r0]
      rcases hcase with ⟨e1, _⟩ | ⟨e1, rfl⟩
      · rw [e1] at hod; exact nomatch hod
      refine WSs_cons (sAsg ok hF rfl (WE_CallM (gLoc ok hF rfl rfl (getGM (f := 207) ok W cs.gr (by decide) (WEs_nil ⟨keepK ok W, Call_of (fw_call ok W cs gc R.r0 (.inr ⟨kF, fF⟩) fun H' tF' tW' fi' fo' cs' k1 k2 k3 k4 => WSs_nil (b7.n ⟨tF', tW', fi', fo', cs', k2, k3, ?_, rfl⟩))⟩)))))
      rw [← hr0]; exact k4
    · have hev : rules.length % 2 = 0 := par3 h
      rcases hcase with ⟨e1, rfl, e3, e4⟩ | ⟨e1, _⟩
      · exact WSs_nil (b7.n ⟨tF, tW, fi, fo, cs, fF, e3, e4, rfl⟩)
      · rw [e1] at hev; exact nomatch hev
    rintro l H' ⟨tF, tW, fi, fo, cs, fF, kW, fW, rfl⟩
    exact lwC ok tp W hF R hN cs fF kW fW gc hP (Nat.le_trans hpl (by decide)) (hc.ext cs.ext hcf)
end Lay.W1
end
noncomputable section
open PySem PySem.W PyProof.Rows PySem.Calls
set_option Elab.async false
set_option maxRecDepth 100000
set_option linter.all false
set_option maxHeartbeats 8000000
namespace Lay.W1
variable {P : Params} {F : Fx} {n : Nat} {loc : Loc} {H : Hp}
theorem toks_new : ∀ {i : Nat} (hi : i < toks.length), toks[i] ∉ [("error" : Str), fin] ++ toks.take i
  | 0, _ => (show ("x" : Str) ∉ [("error" : Str), fin] from by decide +kernel)
  | 1, _ => (show ("y" : Str) ∉ [("error" : Str), fin, "x"] from by decide +kernel)
  | 2, _ => (show ("z" : Str) ∉ [("error" : Str), fin, "x", "y"] from by decide +kernel)
theorem due_len {rules : List (Str × List Str)} {gone ks : List Str} {kvs : List (Str × V)} (h : DueIs rules gone ks kvs) (hl : ks.length ≤ 100) : kvs.length ≤ 100000 := by
  have := congrArg List.length h.ks
  rw [List.length_map] at this
  rw [this]; exact Nat.le_trans hl (by decide)
inductive Wa1 (c : Addr) (heads : List Str) (rules : List (Str × List Str)) (a0 : Option V) (l : Loc) (H' : Hp) : Prop
  | mk (g : GA) (t : GT) (_ : Gr H' g t) (_ : Gi t heads []) (_ : CellAt H' c none) (_ : l = LL a0 (hsV heads) (rsV rules) (some (.ref g.g)) none none none none none none none none none none none none none none none) : Wa1 c heads rules a0 l H'
inductive Wa2 (c : Addr) (heads : List Str) (rules : List (Str × List Str)) (a0 : Option V) (g : GA) (l : Loc) (H' : Hp) : Prop
  | mk (t : GT) (a4 : Option V) (a5 : Option V) (_ : Gr H' g t) (_ : Gi t heads rules) (_ : CellAt H' c none) (_ : l = LL a0 (hsV heads) (rsV rules) (some (.ref g.g)) a4 a5 none none none none none none none none none none none none none) : Wa2 c heads rules a0 g l H'
inductive Wa3 (c : Addr) (heads : List Str) (rules : List (Str × List Str)) (a0 : Option V) (g : GA) (i : Nat) (l : Loc) (H' : Hp) : Prop
  | mk (t : GT) (a4 : Option V) (a5 : Option V) (_ : Gr H' g t) (_ : Gi t heads (rules.take i)) (_ : CellAt H' c none) (_ : l = LL a0 (hsV heads) (rsV rules) (some (.ref g.g)) a4 a5 none none none none none none none none none none none none none) : Wa3 c heads rules a0 g i l H'
inductive Wa8 (heads : List Str) (rules : List (Str × List Str)) (a0 : Option V) (g : GA) (H2 : Hp) (a4 : Option V) (a5 : Option V) (l : Loc) (H' : Hp) : Prop
  | mk (du : Addr) (kvs : List (Str × V)) (_ : DueIs rules (gon rules heads) [("error" : Str), fin] kvs) (_ : H2.Fresh du) (_ : l = LL a0 (hsV heads) (rsV rules) (some (.ref g.g)) a4 a5 (hsV (gon rules heads)) (some (.ref du)) none none none none none none none none none none none) (_ : { H2 with D := up H2.D du kvs } = H') : Wa8 heads rules a0 g H2 a4 a5 l H'
inductive Wa4 (heads : List Str) (rules : List (Str × List Str)) (a0 : Option V) (g : GA) (a4 : Option V) (a5 : Option V) (du : Addr) (Hd : List (Str × V) → Hp) (l : Loc) (H' : Hp) : Prop
  | mk (kvs : List (Str × V)) (a8 : Option V) (_ : DueIs rules (gon rules heads) ([("error" : Str), fin] ++ toks) kvs) (_ : l = LL a0 (hsV heads) (rsV rules) (some (.ref g.g)) a4 a5 (hsV (gon rules heads)) (some (.ref du)) a8 none none none none none none none none none none) (_ : Hd kvs = H') : Wa4 heads rules a0 g a4 a5 du Hd l H'
inductive Wa5 (heads : List Str) (rules : List (Str × List Str)) (a0 : Option V) (g : GA) (a4 : Option V) (a5 : Option V) (du : Addr) (Hd : List (Str × V) → Hp) (i : Nat) (l : Loc) (H' : Hp) : Prop
  | mk (kvs : List (Str × V)) (a8 : Option V) (_ : DueIs rules (gon rules heads) ([("error" : Str), fin] ++ toks.take i) kvs) (_ : l = LL a0 (hsV heads) (rsV rules) (some (.ref g.g)) a4 a5 (hsV (gon rules heads)) (some (.ref du)) a8 none none none none none none none none none none) (_ : Hd kvs = H') : Wa5 heads rules a0 g a4 a5 du Hd i l H'
inductive Wa6 (heads : List Str) (rules : List (Str × List Str)) (a0 : Option V) (g : GA) (a5 : Option V) (du : Addr) (Hd : List (Str × V) → Hp) (a8 : Option V) (l : Loc) (H' : Hp) : Prop
  | mk (kvs : List (Str × V)) (a4 : Option V) (_ : DueIs rules (gon rules heads) (dueK heads) kvs) (_ : l = LL a0 (hsV heads) (rsV rules) (some (.ref g.g)) a4 a5 (hsV (gon rules heads)) (some (.ref du)) a8 none none none none none none none none none none) (_ : Hd kvs = H') : Wa6 heads rules a0 g a5 du Hd a8 l H'
inductive Wa7 (heads : List Str) (rules : List (Str × List Str)) (a0 : Option V) (g : GA) (a5 : Option V) (du : Addr) (Hd : List (Str × V) → Hp) (a8 : Option V) (i : Nat) (l : Loc) (H' : Hp) : Prop
  | mk (kvs : List (Str × V)) (a4 : Option V) (_ : DueIs rules (gon rules heads) ([("error" : Str), fin] ++ toks ++ heads.take i) kvs) (_ : l = LL a0 (hsV heads) (rsV rules) (some (.ref g.g)) a4 a5 (hsV (gon rules heads)) (some (.ref du)) a8 none none none none none none none none none none) (_ : Hd kvs = H') : Wa7 heads rules a0 g a5 du Hd a8 i l H'
theorem lwA (ok : Ok F 12) (tp : Top F) (W : Wd (K P) F.c.base) {c : Addr} (hF : FrameIs F (lawNames P) [("found", c)]) {H : Hp} (hG : ∀ a, H.G a = none) (hc : CellAt H c none) {ns : List Int} (hz : ns.length ≤ 1000) :
    WSs F (lawBody P) (LL (some (.list (ns.map .int))) none none none none none none none none none none none none none none none none none none) H (fun fl _ _ => fl = .ret (.bool true)) := by
  refine WSs_cons (WS_AssignT (WE_CallN (gGlob ok W hF rfl rfl (.ref _) (WEs_cons (gLoc ok hF rfl rfl (WEs_nil ⟨keepK ok W, rl_call ok W rfl (by omega) fun heads rules R => WA_tuple ok rfl (tLoc ok hF rfl (tLoc ok hF rfl ?_))⟩))))))
  have hhl : heads.length ≤ 3 := nodup_len (m := abc) R.hn R.ha
  have hrl := R.rl
  generalize hsc : some (V.list (ns.map .int)) = a0
  -- the grammar
  refine WSs_midV (Wa1 c heads rules a0) (fun Q1 b1 => sAsg ok hF rfl (WE_CallN (gGlob ok W hF rfl rfl (.ref _) (WEs_cons (WE_ListCallF ok (gBi ok W hF rfl rfl (by boot_by_name) (by decide) ⟨rfl, gGlob ok W hF rfl rfl (toks_rel W) ⟨_, .inl rfl, by simp, WEs_nil ⟨keepK ok W, Call_clsK ok W 106 fun A' x d ok' hx hd hlt => ?_⟩⟩⟩)))))) ?_
  · refine gr_init (F := { F with A := A' }) (ns := toks) ok' W (up_self _ _ _) (up_self _ _ _) hG rfl (by decide +kernel) (by decide +kernel) (by simp) fun g t H' eg ed gr e1 e2 e3 e4 e5 e6 e7 e8 e9 e10 ex => ⟨rfl, b1.n ⟨g, t, gr, ?_, ?_, by rw [eg, ← hsc]; rfl⟩⟩
    · have hkT : kys t.tT = TT := by rw [← tcon_keys, e1]; rfl
      refine ⟨hkT, by rw [e2]; simp [kys], by rw [e3]; simp [kys], by simp, by simp, ⟨[], e4, rfl, by simp⟩, e5, fun n => ?_, e6, e7, ?_, by rw [e2]; simp [tcon], by rw [e3]; simp [tcon]⟩
      · rw [e3]; exact ⟨rfl, fun i h => by simp [tcon, mget] at h⟩
      · rw [e1]
        intro p hp
        obtain ⟨k, _, rfl⟩ := List.mem_map.mp hp
        simp
    · have hcd : c ≠ d := hd.neC hc.C
      have h1 : CellAt { H with I := up H.I x (217, d), D := up H.D d [] } c none := ⟨hc.C, hc.L, (up_ne hcd).trans hc.D, hc.P, hc.S⟩
      exact h1.ext ex hcd
  rintro l H1 ⟨g, t0, gr0, gi0, hc0, rfl⟩
  -- the rules
  refine WSs_midV (Wa2 c heads rules a0 g) (fun Q2 b2 => WS_For (WIt_list (gLoc ok hF rfl rfl ⟨rulesV rules, rfl, ?_⟩))) ?_
  · refine ForOnV (fun i => lstSt_mono i) rules.length (Wa3 c heads rules a0 g) ⟨t0, none, none, gr0, by simpa using gi0, hc0, rfl⟩ ?_ ?_
    · rintro i Q3 b3 l H' hi ⟨t, a4, a5, gr, gi, hcc, rfl⟩
      have hri : rules[i]? = some rules[i] := List.getElem?_eq_getElem hi
      have htk : rules.take (i + 1) = rules.take i ++ [rules[i]] := take_snoc hi
      have hnd : rules[i] ∉ rules.take i := notin_take R.rn hi
      generalize hr : rules[i] = r at *
      have hrm : r ∈ rules := List.mem_of_getElem? hri
      have hbl := R.bl r hrm
      have hrh := R.hd r hrm
      have hsg : ∀ s ∈ r.2, s ∈ toks ∨ s ∈ abc := fun s hs => (R.sg r hrm s hs).imp id (R.ha s)
      have apok : ApOk t r.1 r.2 := by
        refine ⟨?_, ?_, fun s hs => plain_sign (hsg s hs), fun h => ?_, ?_, Nat.le_trans hbl (by decide), gi.sz gr (len_take_le hrl) hhl⟩
        · rw [gi.kT]
          exact fun h => (tt_ne (List.mem_append_left _ h)).2 (R.ha _ hrh)
        · intro e
          have : ∀ s ∈ abc, s ≠ "error" := by decide +kernel
          exact this _ (R.ha _ hrh) e
        · have : ∀ s ∈ toks ++ abc, s ≠ "%prec" := by decide +kernel
          exact this _ (List.mem_append.mpr (hsg _ h)) rfl
        · rw [gi.pm]; exact hnd
      refine ⟨_, Nxt_list rfl (rulesV_at hri), WA_tuple ok.inl rfl (tLoc ok.inl hF rfl (tLoc ok.inl hF rfl ?_))⟩
      refine WSs_cons (sExpr ok.inl (WE_CallM (gLoc ok.inl hF rfl rfl (getGM (f := 135) ok.inl W gr (by decide) (WEs_cons (gLoc ok.inl hF rfl rfl (WEs_cons (WE_ListCallF ok.inl (gBi ok.inl W hF rfl rfl (by boot_by_name) (by decide) ⟨rfl, gLoc ok.inl hF rfl rfl ⟨_, .inl rfl, len_map_le hbl, WEs_nil ⟨keepK ok.inl W, Call_of (ap_call ok.inl W gr apok fun t' H' pf gr' ex grw k2 hpf e1 e2 e3 e4 => WSs_nil (b3.n ⟨t', _, _, gr', ?_, hcc.ext ex (hcc.foot gr), rfl⟩))⟩⟩⟩)))))))))
      rw [htk]
      exact gi.step hrh (R.sg r hrm) hbl k2 hpf e1 e2 e3 e4
    · rintro l H' ⟨t, a4, a5, gr, gi, hcc, rfl⟩
      rw [List.take_length] at gi
      exact ⟨Nxt_list_end (ok.handled (Nat.succ_ne_zero _)) rfl (by simp [rulesV]), WSs_nil (b2.n ⟨t, a4, a5, gr, gi, hcc, rfl⟩)⟩
  rintro l H2 ⟨t, a4, a5, gr, gi, hcc, rfl⟩
  obtain ⟨gc, hN⟩ := gi.gc gr R
  -- gone
  refine WSs_cons (sAsg ok hF rfl (WE_CallN (gGlob ok W hF rfl rfl (.ref _) (WEs_cons (gLoc ok hF rfl rfl (WEs_cons (gLoc ok hF rfl rfl (WEs_nil ⟨keepK ok W, go_call ok W (Nat.le_trans hrl (by decide)) (Nat.le_trans hhl (by decide)) (fun r hr => Nat.le_trans (R.bl r hr) (by decide)) ?_⟩))))))))
  -- due
  refine @WSs_midV _ _ _ _ _ _ (Wa8 heads rules a0 g H2 a4 a5) (fun Q8 b8 => @sAsg _ _ _ _ _ _ ok hF _ _ _ _ _ _ rfl ?_ rfl) ?_
  · refine @WE_Dict2 _ _ _ _ _ _ _ _ _ (fun du hdu => ?_)
    refine WPs_cons (WE_str ⟨_, rfl, ?_⟩)
    refine WE_ListF (WEs_cons (WE_str (WEs_nil ⟨by simp, ?_⟩)))
    refine WPs_cons (WE_str ⟨_, rfl, ?_⟩)
    refine WE_ListF (WEs_cons (WE_str (WEs_nil ⟨by simp, ?_⟩)))
    refine WPs_nil ⟨up_self _ _ _, gr.gn _, ?_⟩
    have h0 : DueIs rules (gon rules heads) [] [] := ⟨rfl, fun p hp => by cases hp⟩
    have h1 := (h0.put (k := "error") (xs := ["error"]) (by simp) (.inl ⟨by decide +kernel, rfl⟩)).put (k := fin) (xs := [fin]) (by decide +kernel) (.inl ⟨by decide +kernel, rfl⟩)
    exact b8.n ⟨du, _, h1, hdu, rfl, by rw [up_up]; rfl⟩
  rintro l H' ⟨du, kvs0, hd0, hdu, rfl, rfl⟩
  let Hd : List (Str × V) → Hp := fun kvs => { H2 with D := up H2.D du kvs }
  refine WSs_midV (Wa4 heads rules a0 g a4 a5 du Hd) (fun Q4 b4 => WS_For (WIt_list (gGlob ok W hF rfl rfl (toks_rel W) ⟨_, rfl, ?_⟩))) ?_
  · refine ForOnV (fun i => lstSt_mono i) toks.length (Wa5 heads rules a0 g a4 a5 du Hd) ⟨kvs0, none, by simpa using hd0, rfl, rfl⟩ ?_ ?_
    · rintro i Q5 b5 l H' hi ⟨kvs, a8, hd, rfl, rfl⟩
      have hti : toks[i]? = some toks[i] := List.getElem?_eq_getElem hi
      have htk : toks.take (i + 1) = toks.take i ++ [toks[i]] := take_snoc hi
      have hkn : toks[i] ∉ [("error" : Str), fin] ++ toks.take i := toks_new hi
      have htm : toks[i] ∈ TT ++ [fin] := toks_sub (List.getElem_mem hi)
      generalize htt : toks[i] = s at *
      refine ⟨.str s, Nxt_list rfl (by rw [List.getElem?_map, hti]; rfl), tLoc ok.inl hF rfl ?_⟩
      refine WSs_cons (WS_AssignT (WE_ListF (WEs_cons (gLoc ok.inl hF rfl rfl (WEs_nil ⟨by simp, WA_sub (gLoc ok.inl hF rfl rfl (gLoc ok.inl hF rfl rfl (Set_dict (up_self _ _ _) (gr.gn _) (due_len hd (by rw [List.length_append]; exact Nat.add_le_add (Nat.le_refl 2) (len_take_le (n := 98) (show toks.length ≤ 3 by decide)))) (WSs_nil (b5.n ⟨dput kvs s (.list ([s].map .str)), _, ?_, rfl, ?_⟩)))))⟩)))))
      · rw [htk, ← List.append_assoc]; exact hd.put hkn (.inl ⟨htm, rfl⟩)
      · show (⟨_, up H2.D du _, _, _, _, _, _⟩ : Hp) = ⟨_, up (up H2.D du _) du _, _, _, _, _, _⟩
        rw [up_up]; rfl
    · rintro l H' ⟨kvs, a8, hd, rfl, rfl⟩
      exact ⟨Nxt_list_end (ok.handled (Nat.succ_ne_zero _)) rfl (by simp), WSs_nil (b4.n ⟨kvs, a8, hd, rfl, rfl⟩)⟩
  clear hd0
  rintro l H' ⟨kvs0, a8, hd0, rfl, rfl⟩
  refine WSs_midV (Wa6 heads rules a0 g a5 du Hd a8) (fun Q6 b6 => WS_For (WIt_list (gLoc ok hF rfl rfl ⟨heads.map .str, rfl, ?_⟩))) ?_
  · refine ForOnV (fun i => lstSt_mono i) heads.length (Wa7 heads rules a0 g a5 du Hd a8) ⟨kvs0, a4, by simpa using hd0, rfl, rfl⟩ ?_ ?_
    · rintro i Q7 b7 l H' hi ⟨kvs, a4, hd, rfl, rfl⟩
      have hti : heads[i]? = some heads[i] := List.getElem?_eq_getElem hi
      have htk : heads.take (i + 1) = heads.take i ++ [heads[i]] := take_snoc hi
      have hnn : heads[i] ∉ heads.take i := notin_take R.hn hi
      have hhm : heads[i] ∈ heads := List.getElem_mem hi
      generalize htt : heads[i] = s at *
      have hsa := R.ha s hhm
      have hkn : s ∉ [("error" : Str), fin] ++ toks ++ heads.take i := fun h => by
        rcases List.mem_append.mp h with h | h
        · have : ∀ s ∈ [("error" : Str), fin] ++ toks, s ∉ abc := by decide +kernel
          exact this s h hsa
        · exact hnn h
      have hsT : s ∉ TT ++ [fin] := fun h => (tt_ne h).2 hsa
      refine ⟨.str s, Nxt_list rfl (by rw [List.getElem?_map, hti]; rfl), tLoc ok.inl hF rfl ?_⟩
      refine WSs_cons (WS_AssignT (WE_mid (fun X l2 H2' => (∃ xs : List Str, X = .list (xs.map .str) ∧ DueAt rules (gon rules heads) s xs) ∧ LL a0 (hsV heads) (rsV rules) (some (.ref g.g)) (some (.str s)) a5 (hsV (gon rules heads)) (some (.ref du)) a8 none none none none none none none none none none = l2 ∧ Hd kvs = H2') ?_ ?_))
      · refine WE_frz (WE_BinOp (WE_CallN (gGlob ok.inl W hF rfl rfl (.ref _) (WEs_cons (gLoc ok.inl hF rfl rfl (WEs_cons (gLoc ok.inl hF rfl rfl (WEs_cons (WE_ListF (WEs_cons (gLoc ok.inl hF rfl rfl (WEs_nil ⟨by simp, WEs_nil ⟨keepK ok.inl W, be_call (row := [s]) ok.inl W (Nat.le_trans hrl (by decide)) (uni_len R (by simp)) fun res hres => WE_IfExp (WB_Compare (gLoc ok.inl hF rfl rfl (gLoc ok.inl hF rfl rfl (Cmp_in ok.inl rfl (by simp [V.isD]) isD_strs ⟨fun h => ?_, fun h => ?_⟩))))⟩⟩))))))))))))
        · have hsl : res.length ≤ 3 := nodup_len (m := toks) hres.nd fun x hx => ((hres.mem x).mp hx).1
          rw [inV_str] at h
          have h : s ∈ gon rules heads := by simpa using h
          refine WE_ListF (WEs_cons (WE_str (WEs_nil ⟨by simp, Op_addL rfl rfl (by simp; omega) fun a ha => ⟨_, _, Frz.list (up_self _ _ _), ⟨res ++ [eps], by simp, .inr ⟨hsT, res, hres, by rw [if_pos h]⟩⟩, rfl, ?_⟩⟩)))
          rw [un_up ha.l]
        · have hsl : res.length ≤ 3 := nodup_len (m := toks) hres.nd fun x hx => ((hres.mem x).mp hx).1
          rw [inV_str] at h
          have h : s ∉ gon rules heads := by simpa using h
          refine WE_ListF (WEs_nil ⟨by simp, Op_addL rfl rfl (by simp; omega) fun a ha => ⟨_, _, Frz.list (up_self _ _ _), ⟨res ++ [], by simp, .inr ⟨hsT, res, hres, by rw [if_neg h]⟩⟩, rfl, ?_⟩⟩)
          rw [un_up ha.l]
      rintro X l2 H2' ⟨⟨xs, rfl, hdx⟩, rfl, rfl⟩
      refine WA_sub (gLoc ok.inl hF rfl rfl (gLoc ok.inl hF rfl rfl (Set_dict (up_self _ _ _) (gr.gn _) (due_len hd (by rw [List.length_append]; exact Nat.add_le_add (show ([("error" : Str), fin] ++ toks).length ≤ 5 by decide) (len_take_le (n := 95) hhl))) (WSs_nil (b7.n ⟨dput kvs s (.list (xs.map .str)), _, ?_, rfl, ?_⟩)))))
      · rw [htk, ← List.append_assoc]; exact hd.put hkn hdx
      · show (⟨_, up H2.D du _, _, _, _, _, _⟩ : Hp) = ⟨_, up (up H2.D du _) du _, _, _, _, _, _⟩
        rw [up_up]
    · rintro l H' ⟨kvs, a4, hd, rfl, rfl⟩
      rw [List.take_length] at hd
      exact ⟨Nxt_list_end (ok.handled (Nat.succ_ne_zero _)) rfl (by simp), WSs_nil (b6.n ⟨kvs, a4, hd, rfl, rfl⟩)⟩
  rintro l H' ⟨kvs, a4, hd, rfl, rfl⟩
  have hdf : du ∉ g.dicts := gr.freshD hdu
  have gr3 : Gr (Hd kvs) g t := gr.putD kvs hdf
  have hcd : c ≠ du := hdu.neC hcc.C
  exact lwB ok tp W hF R hN gc gr3 gi.fst gi.fol ⟨hcc.C, hcc.L, (up_ne hcd).trans hcc.D, hcc.P, hcc.S⟩ ⟨up_self _ _ _, hdu.l, hdu.p, hdu.s⟩ (hdu.foot gr) hd
end Lay.W1
end
noncomputable section
open PySem PySem.W PyProof.Rows PySem.Calls
set_option Elab.async false
set_option maxRecDepth 100000
set_option linter.all false
set_option maxHeartbeats 8000000
namespace Lay.W1
theorem law_post (xs : List WData) : PySem.Challenge.rw_iw0034_01.row.claim.post xs (.bool true) xs = true := by
  show (WShape.has [] (WData.bool true) .bool && WTm.holds [] (.eq .res (.lit (.bool true))) { args := xs, res := some (WData.bool true), after := xs }) = true
  rw [Bool.and_eq_true]
  refine ⟨by simp [WShape.has, WShape.arms], by simp [WTm.holds, WTm.value, same]⟩
theorem law_goes {prog : Program} {w : World} {s₁ : Shared} {lim L fa : Addr} {cd : Value} {h₁ : Heap} {tk : Nat} {m : Str → Option Value} {oc : Obj} {E : Value → Shared → Prop} {Q : Flow → Shared → Prop} {a : Addr} {ns : List Int} {name : Str} {P : Params} {sc : Scope} {body : List Stmt}
    (hsc : sc.names = lawNames P) (hk : sc.kind = .function) (hbody : body = lawBody P) (hW : Wd (K P) s₁.heap) (hg : s₁.gens = #[]) (hl : 1 ≤ lim ∧ ∃ o, s₁.heap.get? lim = some o) (F : Fr s₁.heap L h₁ m) (hL : s₁.heap.objs.size ≤ L) (N : News s₁.heap L h₁ [(L + 1, oc)]) (hc : oc.data = .cell none)
    (hm : m ("script" : Str) = some (.ref a)) (ha : RelV (fun a => s₁.heap.get? a) (.ref a) (.list (ns.map .int)))
    (hn : ns.length ≤ 1000) (hR : ∀ s' : Shared, s'.gens = #[] → s'.os = s₁.os → (∀ b o, s₁.heap.get? b = some o → s'.heap.get? b = some o) → Q (.ret (.bool true)) s') :
    wpAny (model prog w) (callerA.deeper (envOfC name sc L fa cd)) (execs body (envOfC name sc L fa cd)) Q E ⟨h₁, s₁.gens, s₁.drawn, tk, s₁.os⟩ := by
  subst hbody
  have hloc : LocOk (fun a => s₁.heap.get? a) (lawNames P) (LL (some (.list (ns.map .int))) none none none none none none none none none none none none none none none none none none) m := by
    intro x i X hx hv
    cases i with
    | succ i =>
      have hm := List.mem_of_getElem? (show ([none, none, none, none, none, none, none, none, none, none, none, none, none, none, none, none, none, none, none, none, none, none, none, none, none, none, none, none, none] : Loc)[i]? = some (some X) from hv)
      simp at hm
    | zero =>
      cases hv
      have e : x = ("script" : Str) := slotOf_inj hx rfl
      subst e
      exact ⟨_, hm, ha⟩
  have R0 := enter_rel1 (prog := prog) (w := w) (lim := lim) (tk := tk) (nm := lawNames P) (ov := none) hg hl F hloc N hc (Nat.le_succ_of_le hL) trivial
  let Fx0 : Fx := ⟨baseOf prog w s₁ lim, callerA.deeper (envOfC name sc L fa cd), envOfC name sc L fa cd, E⟩
  have hF : FrameIs Fx0 (lawNames P) [("found", L + 1)] := ⟨hsc, by show cellsFrom (L + 1) sc.names [] = _; rw [hsc]; rfl⟩
  have ok : Ok Fx0 12 := by
    refine ⟨hk, rfl, rfl, by show sc.names.lookup _ = none; rw [hsc]; rfl, by show 4 + 3 + 40 * 12 + 200 < 9900; omega, by show 1 + 300 + 1 + 4 * 12 + 4 < 1000; omega, fun _ => rfl, ⟨[envOfC name sc L fa cd], rfl, fun e he => ?_⟩⟩
    rw [List.mem_singleton] at he; subst he
    exact ⟨(by show sc.kind ≠ _; rw [hk]; intro h; cases h), .inl rfl⟩
  have tp : Top Fx0 := ⟨[], rfl, rfl⟩
  have R1 : FRel Fx0 (fun a => s₁.heap.get? a) (LL (some (.list (ns.map .int))) none none none none none none none none none none none none none none none none none none) { noHp with C := up noHp.C (L + 1) none } ⟨h₁, s₁.gens, s₁.drawn, tk, s₁.os⟩ := by
    show Rel _ _ sc.names _ _ _ _
    rw [hsc]; exact R0
  have X := lwA (F := Fx0) ok tp hW hF (H := { noHp with C := up noHp.C (L + 1) none }) (fun _ => rfl) ⟨up_self _ _ _, rfl, rfl, rfl, rfl⟩ (ns := ns) hn _ _ R1
  refine wpAny_mono X (fun f s' p => ?_) fun _ _ x => x
  obtain ⟨B', b, loc', H', le, rf, R', rfl⟩ := p
  cases rf with
  | ret r =>
    cases r
    exact hR s' R'.gens R'.os fun b o e => R'.inBase e
end Lay.W1
open Lay Lay.W1
theorem PySem.Challenge.cw_iw0034_01_holds : PySem.Challenge.rw_iw0034_01.Holds :=
  holds_law said_ fun said => holds_open (r := rw0.row) (q := qv) (loose := qLoose) (Xt := qX) (XP := XL qv []) (Yf := Hook.obs kH) (Ya := Hook.val kH) (YP := Hook.says kH) (N := 4102) left_ (Hook.of kH) (Hook.keeps kH) (fun s e => xl_of s (Bool.and_eq_true_iff.mp e).1) XL.keeps (by rfl) (by rfl) (by rfl) (fun s e => recFacts_of (Bool.and_eq_true_iff.mp e).2) (by rfl) said (by decide +kernel) ⟨rfl, rfl, rfl, rfl, rfl, by decide +kernel⟩ ⟨[.list []], by decide +kernel, by decide +kernel⟩ ((fun (h : ∀ q, q = qv → WalkO q qLoose (XL qv []) (Hook.says kH) _ _ _ _) => h qv rfl) (by
  intro q hq
  k_go0
  rename_i w s₀ s₁ mg mb G Y fa o pm cdv doc ho hcr hg KX X V T B D TE TW bmA bmO M ns hs hlay0 hL1 hr1 hl2 as1 as2 la vs as3 hL ra w1 r0 hI hr hlen hcond K0 hD h₁ tk F oc hoc N0 X0
  refine law_goes (lim := 277) (a := la) (ns := ns) (P := w.params) rfl rfl rfl ⟨KX, ⟨_, Top.g T⟩, ⟨_, Top.b T, Top.builtins T⟩, Top.nolimit T⟩ hg ⟨by decide, _, KX 277 _ rfl⟩ F (Nat.le_refl _) N0 hoc ?_ (list_rel w1) ?_ ?_
  · rfl
  · omega
  · intro s' h1 h2 h3
    exact ⟨.inl ⟨_, .bool true, [], rfl, fun _ => rfl, .bool true, (law_post _), fun _ => ⟨List.nodup_nil, fun _ h => nomatch h⟩⟩, h3, h2, h1⟩))
end
