import PyProof.Rows.All
import Wide.All
import OpenK.AllK
import Wide.FinOn
import Lean
import PySem.Challenge.RW_iw0034_03
set_option genSizeOf false
set_option bootstrap.genMatcherCode false
set_option compiler.extract_closed false
noncomputable section
open PySem
set_option Elab.async false
set_option maxRecDepth 100000
set_option linter.all false
namespace Lay
section
variable {prog : Program} {w : World}

noncomputable def IsPair (prog : Program) (w : World) (h : Heap) (k : Str × List Str) (a : Addr) : Prop :=
  ∃ o items n t b, h.get? a = some o ∧ o.cls = .type "tuple" ∧ o.data = .seq items n ∧ items.toList = [Value.str k.1 t, .ref b] ∧ IsTupleKey (PySem.strKind prog w) h k.2 b

theorem IsPair.typeIs {s : Shared} {k} {a : Addr} (x : IsPair prog w s.heap k a) : s.TypeIs (.ref a) "tuple" := let ⟨o, _, _, _, _, ho, hc, _⟩ := x; ⟨o, ho, hc⟩

theorem IsPair.inj {h : Heap} {a : Addr} {x y : Str × List Str} (hx : IsPair prog w h x a) (hy : IsPair prog w h y a) : x = y := by
  obtain ⟨o, items, n, t, b, ho, _, hd, hi, hk⟩ := hx
  obtain ⟨o', items', n', t', b', ho', _, hd', hi', hk'⟩ := hy
  obtain rfl : o = o' := Option.some.inj (ho.symm.trans ho')
  rw [hd] at hd'
  injection hd' with h1 _
  subst h1
  rw [hi] at hi'
  injection hi' with e1 e2
  injection e1 with e1 _
  injection e2 with e2 _
  injection e2 with e2
  subst e2
  exact Prod.ext e1 (hk.inj hk')

theorem IsPair.keeps {h h' : Heap} {ks : Str × List Str} {a d : Addr} {o : Obj} {es ep} (x : IsPair prog w h ks a) (ho : h.get? d = some o) (hd : o.data = .dict es ep) (hs : Heap.SameBut d h h') :
    IsPair prog w h' ks a := by
  obtain ⟨o', items, n, t, b, ho', hc, hd', hi, hk⟩ := x
  have hne : a ≠ d := by
    rintro rfl
    obtain rfl : o' = o := Option.some.inj (ho'.symm.trans ho)
    rw [hd] at hd'; exact nomatch hd'
  exact ⟨o', items, n, t, b, (hs.2 a hne).trans ho', hc, hd', hi, hk.keeps ho hd hs⟩

noncomputable def pairHash (prog : Program) (w : World) (k : Str × List Str) : Int := reduceHash (Builtin.Tuple.tupleHashOf [(PySem.strKind prog w).hash k.1, tupleKeyHash (PySem.strKind prog w) k.2])

variable {A : Around} {E : Value → Shared → Prop} {s : Shared}

theorem pyHash_pair {k : Str × List Str} {a : Addr} {Q : Int → Shared → Prop} (hu : A.units + 1 < cLine) (hk : IsPair prog w s.heap k a) (h : Q (pairHash prog w k) { s with toks := s.toks + (k.2.length + 3) }) :
    wpAny (model prog w) A (pyHash (.ref a)) Q E s := by
  have hT := hk.typeIs
  obtain ⟨o, items, n, t, b, ho, _, hd, hi, hb⟩ := hk
  unfold pyHash
  first | unfold pyHashByItsType | skip
  first | refine wpAny_bind (wpAny_cRoomFor_or (.inr (by omega)) ?_) | skip
  refine wpAny_bind (wpAny_specialOf hT F.slot_tuple_hash.lookup ?_)
  show wpAny _ _ (if (some (Value.builtin "tuple.__hash__") == some Value.none) = true then _ else _) Q E s
  rw [if_neg (by rw [beq_builtin_none]; exact Bool.false_ne_true)]
  refine wpAny_bind (wpAny_specialOf hT F.slot_tuple_hash.lookup ?_)
  show wpAny _ _ (callSpecialIfBoundUnlessNone? (.ref a) "__hash__" _ >>= _) Q E s
  refine wpAny_bind (wpAny_callSpecialIfBoundUnlessNone?_slot hT F.slot_tuple_hash (wpAny_call_entry F.slot_tuple_hash hT F.entry_tuple_hash ?_ (F.args_tuple_hash_1 _)))
  show wpAny _ _ (Builtin.Tuple.tupleItemsOf (.ref a) >>= _) _ _ s
  refine wpAny_bind (wpAny_tupleItemsOf ho hd ?_)
  refine wpAny_bind ?_
  rw [← Array.forIn_toList, hi]
  have e1 : Value.isStrOf k.1 (.str k.1 t) = true := by simp [Value.isStrOf]
  refine wpAny_forIn_list _
    (fun rest (bb : Array Int) s' => (rest = [Value.str k.1 t, .ref b] ∧ bb.toList = [] ∧ s' = s) ∨ (rest = [.ref b] ∧ bb.toList = [(PySem.strKind prog w).hash k.1] ∧ s' = { s with toks := s.toks + 1 }) ∨
      (rest = [] ∧ bb.toList = [(PySem.strKind prog w).hash k.1, tupleKeyHash (PySem.strKind prog w) k.2] ∧ s' = { s with toks := s.toks + (k.2.length + 2) }))
    _ ?_ ?_ _ _ (.inl ⟨rfl, rfl, rfl⟩)
  · rintro x rest bb s' (⟨hr, hb', rfl⟩ | ⟨hr, hb', rfl⟩ | ⟨hr, hb', rfl⟩)
    · cases hr
      refine wpAny_bind ((PySem.strKind prog w).pyHash e1 ?_)
      have fin : ∀ {P : Array Int → Prop}, P (bb.push ((PySem.strKind prog w).hash k.1)) → P (bb.push ((PySem.strKind prog w).hash k.1)) := fun h => h
      first
        | exact wpAny_pure (.inr (.inl ⟨rfl, by simp [hb'], rfl⟩))
        | exact wpAny_bind (wpAny_pure (wpAny_pure (.inr (.inl ⟨rfl, by simp [hb'], rfl⟩))))
    · cases hr
      refine wpAny_bind (wpAny_pyHash_tuple (knd := PySem.strKind prog w) (by simpa using hu) hb ?_)
      first
        | exact wpAny_pure (.inr (.inr ⟨rfl, by simp [hb'], by simp [Nat.add_assoc, Nat.add_comm, Nat.add_left_comm]⟩))
        | exact wpAny_bind (wpAny_pure (wpAny_pure (.inr (.inr ⟨rfl, by simp [hb'], by simp [Nat.add_assoc, Nat.add_comm, Nat.add_left_comm]⟩))))
    · cases hr
  · rintro bb s' (⟨hr, hb', rfl⟩ | ⟨hr, hb', rfl⟩ | ⟨hr, hb', rfl⟩)
    · cases hr
    · cases hr
    show wpAny _ _ (retInt (Builtin.Tuple.tupleHashOf bb.toList)) _ _ _
    rw [hb']
    refine wpAny_ret_mkInt ?_
    show wpAny _ _ (if (decide (-(2 : Int) ^ 63 ≤ Builtin.Tuple.tupleHashOf _) && decide (Builtin.Tuple.tupleHashOf _ < 2 ^ 63)) = true then _ else _) Q E _
    unfold pairHash reduceHash at h
    split
    · rename_i hr
      rw [if_pos hr] at h
      exact wpAny_pure (by simpa [Nat.add_assoc] using h)
    · rename_i hr
      rw [if_neg hr] at h
      exact wpAny_bind (wpAny_rule (wpAny_pure (by simpa [Nat.add_assoc] using h)))

theorem tuple_eq_pair {x y : Str × List Str} {a b : Addr} {P : Fin → Shared → Prop} (hu : A.units < cLine) (hx : IsPair prog w s.heap x a) (hy : IsPair prog w s.heap y b) (h : P (.done (.ret (.bool (decide (x = y))))) s) :
    wpAny (model prog w) A (Builtin.«tuple.__eq__» ⟨[.ref a, .ref b], []⟩) P E s := by
  have hTb := hy.typeIs
  obtain ⟨oa, xs, na, ta, pa, hoa, _, hda, hia, hka⟩ := hx
  obtain ⟨ob, ys, nb, tb, pb, hob, _, hdb, hib, hkb⟩ := hy
  show wpAny _ _ (isInstance (.ref b) (.type "tuple") >>= _) _ _ s
  refine wpAny_bind (wpAny_isInstance hTb isSubtype_tuple_tuple ?_)
  simp only [Bool.not_true, Bool.false_eq_true, if_false]
  refine wpAny_bind (wpAny_tupleItemsOf hoa hda ?_)
  refine wpAny_bind (wpAny_tupleItemsOf hob hdb ?_)
  refine wpAny_bind ?_
  have e1 : ∀ (k : Str) t, Value.isStrOf k (.str k t) = true := fun k t => by simp [Value.isStrOf]
  have hz : (xs.toList.zip ys.toList) = [(Value.str x.1 ta, Value.str y.1 tb), (.ref pa, .ref pb)] := by rw [hia, hib]; rfl
  have hl : (xs.size == ys.size) = true := by rw [← Array.length_toList, ← Array.length_toList, hia, hib]; rfl
  refine wpAny_forIn_list _
    (fun rest r s' => r.1 = none ∧ s' = s ∧ ((rest = [(Value.str x.1 ta, Value.str y.1 tb), (.ref pa, .ref pb)]) ∨ (rest = [(.ref pa, .ref pb)] ∧ x.1 = y.1) ∨ (rest = [] ∧ x = y)))
    _ ?_ ?_ _ _ ⟨rfl, rfl, .inl hz⟩
  · rintro ⟨u, v⟩ rest r s' ⟨hr, rfl, (hc | ⟨hc, e⟩ | ⟨hc, _⟩)⟩
    · cases hc
      refine wpAny_bind ((PySem.strKind prog w).eqBool (a := x.1) (b := y.1) (u := .str x.1 ta) (v := .str y.1 tb) (e1 x.1 ta) (e1 y.1 tb) ?_)
      by_cases hk : x.1 = y.1
      · rw [decide_eq_true hk]
        simp only [Bool.not_true, Bool.false_eq_true, if_false]
        exact wpAny_pure ⟨rfl, rfl, by simp [hk]⟩
      · rw [decide_eq_false hk]
        simp only [Bool.not_false, if_true]
        have hf : decide (x = y) = false := decide_eq_false fun e => hk (e ▸ rfl)
        rw [hf] at h
        exact wpAny_bind (wpAny_pure (wpAny_pure (wpAny_pure h)))
    · cases hc
      refine wpAny_bind (wpAny_eqBool_tuple (knd := PySem.strKind prog w) hu hka hkb ?_)
      by_cases hk : x.2 = y.2
      · rw [decide_eq_true hk]
        simp only [Bool.not_true, Bool.false_eq_true, if_false]
        exact wpAny_pure ⟨rfl, rfl, by simp [Prod.ext e hk]⟩
      · rw [decide_eq_false hk]
        simp only [Bool.not_false, if_true]
        have hf : decide (x = y) = false := decide_eq_false fun e => hk (e ▸ rfl)
        rw [hf] at h
        exact wpAny_bind (wpAny_pure (wpAny_pure (wpAny_pure h)))
    · cases hc
  · rintro ⟨r1, r2⟩ s' ⟨hr, rfl, (hc | ⟨hc, e⟩ | ⟨hc, e⟩)⟩
    · cases hc
    · cases hc
    simp only at hr
    subst hr
    refine wpAny_pure ?_
    show P (.done (.ret (.bool (xs.size == ys.size)))) s'
    rw [hl, ← decide_eq_true e]; exact h

theorem eqBool_pair {x y : Str × List Str} {a b : Addr} {Q : Bool → Shared → Prop} (hu : A.units + 1 < cLine) (hx : IsPair prog w s.heap x a) (hy : IsPair prog w s.heap y b) (h : Q (decide (x = y)) s) :
    wpAny (model prog w) A (eqBool (.ref a) (.ref b)) Q E s := by
  unfold eqBool
  try with_reducible refine wpAny_holding ?_
  show wpAny _ _ (if (Value.ref a == Value.ref b) = true then _ else _) Q E s
  by_cases hab : (Value.ref a == Value.ref b) = true
  · rw [if_pos hab]
    have e : a = b := by have := eq_of_beq hab; injection this
    subst e
    obtain rfl := hx.inj hy
    exact wpAny_bind (wpAny_rule (wpAny_pure (by simpa using h)))
  · rw [if_neg hab]
    exact wpAny_bind (wpAny_richCompare_same_room (op := .Eq) hx.typeIs hy.typeIs F.slot_tuple_eq
      (wpAny_call_entry F.slot_tuple_eq hx.typeIs F.entry_tuple_eq (tuple_eq_pair (by simpa using hu) hx hy ⟨_, rfl, (fun e => nomatch e), wpAny_truthy_bool h⟩) (F.args_tuple_eq_2 _ _)) (by omega))

theorem quiet_tuple {ks : List Str} {a : Addr} {n : Nat} {Q : Bool → Shared → Prop} (hk : IsTupleKey (PySem.strKind prog w) s.heap ks a) (h : Q true s) : wpAny (model prog w) A (eqIsQuiet (n + 1) (.ref a)) Q E s := by
  have hT := hk.typeIs
  obtain ⟨o, items, m, ho, _, hd, hi⟩ := hk
  unfold eqIsQuiet
  refine wpAny_bind (wpAny_specialOf hT F.slot_tuple_eq.lookup ?_)
  show wpAny _ _ (isInstance (.ref a) (.type "tuple") >>= _) _ _ s
  refine wpAny_bind (wpAny_isInstance hT isSubtype_tuple_tuple ?_)
  simp only [Bool.not_true, Bool.false_eq_true, if_false]
  refine wpAny_bind (wpAny_seqItems ho hd ?_)
  refine wpAny_bind ?_
  show wpAny _ _ (forIn items _ _) _ _ s
  rw [← Array.forIn_toList]
  refine wpAny_forIn_list _ (fun rest r s' => r.1 = none ∧ s' = s ∧ ∀ v ∈ rest, carriedByValue v = true) _ ?_ ?_ _ _ ⟨rfl, rfl, hi.byValue⟩
  · rintro v rest r s' ⟨hr, rfl, hall⟩
    rw [eqIsQuiet_byValue _ (hall v List.mem_cons_self)]
    refine wpAny_bind (wpAny_pure ?_)
    simp only [Bool.not_true, Bool.false_eq_true, if_false]
    exact wpAny_pure ⟨rfl, rfl, fun u hu' => hall u (List.mem_cons_of_mem _ hu')⟩
  · rintro ⟨r1, r2⟩ s' ⟨hr, rfl, _⟩
    simp only at hr
    subst hr
    exact wpAny_pure h

theorem quiet_pair {k : Str × List Str} {a : Addr} {Q : Bool → Shared → Prop} (hk : IsPair prog w s.heap k a) (h : Q true s) : wpAny (model prog w) A (eqIsQuiet 8 (.ref a)) Q E s := by
  have hT := hk.typeIs
  obtain ⟨o, items, m, t, b, ho, _, hd, hi, hb⟩ := hk
  unfold eqIsQuiet
  refine wpAny_bind (wpAny_specialOf hT F.slot_tuple_eq.lookup ?_)
  show wpAny _ _ (isInstance (.ref a) (.type "tuple") >>= _) _ _ s
  refine wpAny_bind (wpAny_isInstance hT isSubtype_tuple_tuple ?_)
  simp only [Bool.not_true, Bool.false_eq_true, if_false]
  refine wpAny_bind (wpAny_seqItems ho hd ?_)
  refine wpAny_bind ?_
  show wpAny _ _ (forIn items _ _) _ _ s
  rw [← Array.forIn_toList, hi]
  refine wpAny_forIn_list _ (fun rest r s' => r.1 = none ∧ s' = s ∧ ((∃ t', rest = [Value.str k.1 t', .ref b]) ∨ rest = [.ref b] ∨ rest = [])) _ ?_ ?_ _ _ ⟨rfl, rfl, .inl ⟨t, rfl⟩⟩
  · rintro v rest r s' ⟨hr, rfl, (⟨t', hc⟩ | hc | hc)⟩
    · cases hc
      rw [eqIsQuiet_byValue _ (by rfl)]
      refine wpAny_bind (wpAny_pure ?_)
      simp only [Bool.not_true, Bool.false_eq_true, if_false]
      exact wpAny_pure ⟨rfl, rfl, by simp⟩
    · cases hc
      refine wpAny_bind (quiet_tuple hb ?_)
      simp only [Bool.not_true, Bool.false_eq_true, if_false]
      exact wpAny_pure ⟨rfl, rfl, by simp⟩
    · cases hc
  · rintro ⟨r1, r2⟩ s' ⟨hr, rfl, _⟩
    simp only at hr
    subst hr
    exact wpAny_pure h
end

noncomputable def pairKind (prog : Program) (w : World) : HeapKind prog w (Str × List Str) where
  is := IsPair prog w
  hash := pairHash prog w
  draws := fun k => k.2.length + 3
  room := fun A => A.units + 1 < cLine
  inj := fun hx hy => hx.inj hy
  keeps := fun x ho hd hs => x.keeps ho hd hs
  pyHash := fun hu hk h => pyHash_pair hu hk h
  eqBool := fun hu hx hy h => eqBool_pair hu hx hy h
  quiet := fun hk h => quiet_pair hk h
end Lay
end
noncomputable section
open PySem PySem.W PyProof.Rows PySem.Calls
set_option Elab.async false
set_option maxRecDepth 100000
set_option linter.all false
namespace Lay

inductive V where
  | none | bool (b : Bool) | int (i : Int) | str (s : Str)
  | tup (xs : List V) | list (xs : List V) | inst (C : Addr) (fs : List (Str × V)) | ref (a : Addr) | raw (v : Value)

noncomputable abbrev Keep := Addr → Option Obj
noncomputable abbrev tupObj (items : Array Value) (n : Nat) : Obj := { cls := .type "tuple", dict := none, data := .seq items n, slots := #[] }
noncomputable abbrev instObj' (C dx : Addr) : Obj := { cls := .ref C, dict := some dx, data := .plain }
noncomputable abbrev lstObj (items : Array Value) (n : Nat) : Obj := { cls := .type "list", dict := none, data := .seq items n, slots := #[] }

mutual
inductive RelV (B : Keep) : Value → V → Prop
  | none : RelV B .none .none
  | bool (b) : RelV B (.bool b) (.bool b)
  | int (i t) : RelV B (.int i t) (.int i)
  | str (x t) : PyData.strOk x = true → RelV B (.str x t) (.str x)
  | tup {a items n xs} : B a = some (tupObj items n) → RelVs B items.toList xs → RelV B (.ref a) (.tup xs)
  | list {a items n xs} : B a = some (lstObj items n) → RelVs B items.toList xs → RelV B (.ref a) (.list xs)
  | inst {a C d o es ep fs} : B a = some (instObj' C d) → B d = some o → o.data = .dict es ep → RelFs B o fs → RelV B (.ref a) (.inst C fs)
  | ref (a) : RelV B (.ref a) (.ref a)
  | raw (v) : RelV B v (.raw v)
inductive RelVs (B : Keep) : List Value → List V → Prop
  | nil : RelVs B [] []
  | cons {v vs x xs} : RelV B v x → RelVs B vs xs → RelVs B (v :: vs) (x :: xs)
inductive RelFs (B : Keep) : Obj → List (Str × V) → Prop
  | nil {o} : RelFs B o []
  | cons {o k v x fs} : lookIn k o = some (some v) → RelV B v x → RelFs B o fs → RelFs B o ((k, x) :: fs)
end

noncomputable def Le (B B' : Keep) : Prop := ∀ a o, B a = some o → B' a = some o
theorem Le.refl (B : Keep) : Le B B := fun _ _ h => h
theorem Le.trans {B B' B'' : Keep} (h : Le B B') (h' : Le B' B'') : Le B B'' := fun a o e => h' a o (h a o e)

theorem Rel3.map {B B' : Keep} (h : ∀ a o, B a = some o → (∀ fl, o.data ≠ .fields fl) → B' a = some o) : (∀ v x, RelV B v x → RelV B' v x) ∧ (∀ v x, RelVs B v x → RelVs B' v x) ∧ ∀ o x, RelFs B o x → RelFs B' o x := by
  have t : ∀ {a items n}, B a = some (tupObj items n) → B' a = some (tupObj items n) := fun e => h _ _ e fun _ z => nomatch z
  have l : ∀ {a items n}, B a = some (lstObj items n) → B' a = some (lstObj items n) := fun e => h _ _ e fun _ z => nomatch z
  have i : ∀ {a C d}, B a = some (instObj' C d) → B' a = some (instObj' C d) := fun e => h _ _ e fun _ z => nomatch z
  have d : ∀ {a o es ep}, B a = some o → o.data = .dict es ep → B' a = some o := fun e hd => h _ _ e fun _ z => nomatch hd.symm.trans z
  refine ⟨fun v x r => ?_, fun v x r => ?_, fun o x r => ?_⟩
  · exact RelV.rec (motive_1 := fun v x _ => RelV B' v x) (motive_2 := fun v x _ => RelVs B' v x) (motive_3 := fun v x _ => RelFs B' v x) .none .bool .int .str (fun e _ q => .tup (t e) q) (fun e _ q => .list (l e) q) (fun e1 e2 e3 _ q => .inst (i e1) (d e2 e3) e3 q) .ref .raw .nil (fun _ _ p q => .cons p q) .nil (fun e _ _ p q => .cons e p q) r
  · exact RelVs.rec (motive_1 := fun v x _ => RelV B' v x) (motive_2 := fun v x _ => RelVs B' v x) (motive_3 := fun v x _ => RelFs B' v x) .none .bool .int .str (fun e _ q => .tup (t e) q) (fun e _ q => .list (l e) q) (fun e1 e2 e3 _ q => .inst (i e1) (d e2 e3) e3 q) .ref .raw .nil (fun _ _ p q => .cons p q) .nil (fun e _ _ p q => .cons e p q) r
  · exact RelFs.rec (motive_1 := fun v x _ => RelV B' v x) (motive_2 := fun v x _ => RelVs B' v x) (motive_3 := fun v x _ => RelFs B' v x) .none .bool .int .str (fun e _ q => .tup (t e) q) (fun e _ q => .list (l e) q) (fun e1 e2 e3 _ q => .inst (i e1) (d e2 e3) e3 q) .ref .raw .nil (fun _ _ p q => .cons p q) .nil (fun e _ _ p q => .cons e p q) r
theorem RelV.mono {B B' : Keep} (h : Le B B') {v : Value} {x : V} (r : RelV B v x) : RelV B' v x := (Rel3.map fun a o e _ => h a o e).1 v x r
theorem RelVs.mono {B B' : Keep} (h : Le B B') {v : List Value} {x : List V} (r : RelVs B v x) : RelVs B' v x := (Rel3.map fun a o e _ => h a o e).2.1 v x r
theorem RelFs.get {B : Keep} : ∀ {o : Obj} {fs : List (Str × V)} {k : Str} {x : V}, RelFs B o fs → (fs.find? fun kv => kv.1 = k).map (·.2) = some x → ∃ v, lookIn k o = some (some v) ∧ RelV B v x
  | _, _, _, _, .nil, h => by cases h
  | o, (k', x') :: fs, k, x, .cons e a r, h => by
    rw [List.find?_cons] at h
    by_cases hk : k' = k
    · subst hk; simp at h; subst h; exact ⟨_, e, a⟩
    · simp only [hk, decide_false] at h; exact RelFs.get r h
theorem RelVs.ind {B : Keep} {M : List Value → List V → Prop} (h0 : M [] []) (h1 : ∀ {v x vs xs}, RelV B v x → RelVs B vs xs → M vs xs → M (v :: vs) (x :: xs)) {vs : List Value} {xs : List V} (r : RelVs B vs xs) : M vs xs :=
  RelVs.rec (motive_1 := fun _ _ _ => True) (motive_2 := fun vs xs _ => M vs xs) (motive_3 := fun _ _ _ => True) trivial (fun _ => trivial) (fun _ _ => trivial) (fun _ _ _ => trivial) (fun _ _ _ => trivial) (fun _ _ _ => trivial) (fun _ _ _ _ _ => trivial) (fun _ => trivial) (fun _ => trivial) h0 (fun a r _ q => h1 a r q) trivial (fun _ _ _ _ _ => trivial) r
theorem RelVs.length {B : Keep} {vs : List Value} {xs : List V} (h : RelVs B vs xs) : vs.length = xs.length := h.ind (M := fun vs xs => vs.length = xs.length) rfl fun _ _ e => congrArg (· + 1) e
theorem RelVs.append {B : Keep} {vs ws : List Value} {xs ys : List V} (h : RelVs B vs xs) (k : RelVs B ws ys) : RelVs B (vs ++ ws) (xs ++ ys) := h.ind (M := fun vs xs => RelVs B (vs ++ ws) (xs ++ ys)) k fun a _ r => .cons a r
theorem RelVs.get {B : Keep} {vs : List Value} {xs : List V} {i : Nat} {x : V} (h : RelVs B vs xs) (e : xs[i]? = some x) : ∃ v, vs[i]? = some v ∧ RelV B v x :=
  h.ind (M := fun vs xs => ∀ i, xs[i]? = some x → ∃ v, vs[i]? = some v ∧ RelV B v x) (fun i e => by rw [List.getElem?_nil] at e; cases e) (fun a _ r i e => by
    cases i with
    | zero => cases e; exact ⟨_, rfl, a⟩
    | succ i => exact r i e) i e
theorem RelVs.take {B : Keep} {vs : List Value} {xs : List V} (n : Nat) (h : RelVs B vs xs) : RelVs B (vs.take n) (xs.take n) :=
  h.ind (M := fun vs xs => ∀ n, RelVs B (vs.take n) (xs.take n)) (fun n => by rw [List.take_nil, List.take_nil]; exact .nil) (fun a _ r n => by
    cases n with
    | zero => exact .nil
    | succ n => exact .cons a (r n)) n
theorem RelVs.drop {B : Keep} {vs : List Value} {xs : List V} (n : Nat) (h : RelVs B vs xs) : RelVs B (vs.drop n) (xs.drop n) :=
  h.ind (M := fun vs xs => ∀ n, RelVs B (vs.drop n) (xs.drop n)) (fun n => by rw [List.drop_nil, List.drop_nil]; exact .nil) (fun a q r n => by
    cases n with
    | zero => exact .cons a q
    | succ n => exact r n) n
theorem RelVs.set {B : Keep} {vs : List Value} {xs : List V} (n : Nat) {v : Value} {x : V} (h : RelVs B vs xs) (k : RelV B v x) : RelVs B (vs.set n v) (xs.set n x) :=
  h.ind (M := fun vs xs => ∀ n, RelVs B (vs.set n v) (xs.set n x)) (fun n => by rw [List.set_nil, List.set_nil]; exact .nil) (fun a q r n => by
    cases n with
    | zero => exact .cons k q
    | succ n => exact .cons a (r n)) n

inductive RelKs {κ : Type} (B : Keep) : List (κ × Value) → List (κ × V) → Prop
  | nil : RelKs B [] []
  | cons {k v x vs xs} : RelV B v x → RelKs B vs xs → RelKs B ((k, v) :: vs) ((k, x) :: xs)
theorem RelKs.mono {κ : Type} {B B' : Keep} (h : Le B B') {v : List (κ × Value)} {x : List (κ × V)} (r : RelKs B v x) : RelKs B' v x := by
  induction r with
  | nil => exact .nil
  | cons a _ q => exact .cons (a.mono h) q
theorem RelKs.keys {κ : Type} {B : Keep} {v : List (κ × Value)} {x : List (κ × V)} (r : RelKs B v x) : v.map (·.1) = x.map (·.1) := by
  induction r with
  | nil => rfl
  | cons _ _ q => exact congrArg (_ :: ·) q
theorem RelKs.length {κ : Type} {B : Keep} {v : List (κ × Value)} {x : List (κ × V)} (h : RelKs B v x) : v.length = x.length := by
  have := congrArg List.length h.keys; simpa using this
theorem RelKs.append {κ : Type} {B : Keep} {vs ws : List (κ × Value)} {xs ys : List (κ × V)} (r : RelKs B vs xs) (h : RelKs B ws ys) : RelKs B (vs ++ ws) (xs ++ ys) := by
  induction r with
  | nil => exact h
  | cons a _ q => exact .cons a q

set_option genInjectivity false in
structure Hp where
  L : Addr → Option (List V) := fun _ => none
  D : Addr → Option (List (Str × V)) := fun _ => none
  P : Addr → Option (List (Str × List Str)) := fun _ => none
  S : Addr → Option ((Str → Bool) × Nat) := fun _ => none
  I : Addr → Option (Addr × Addr) := fun _ => none
  C : Addr → Option (Option V) := fun _ => none
  G : Addr → Option Nat := fun _ => none

noncomputable def up {α : Type} (f : Addr → Option α) (a : Addr) (x : α) : Addr → Option α := fun b => if b = a then some x else f b
@[simp] theorem up_self {α : Type} (f : Addr → Option α) (a : Addr) (x : α) : up f a x a = some x := by simp [up]
theorem up_ne {α : Type} {f : Addr → Option α} {a b : Addr} {x : α} (h : b ≠ a) : up f a x b = f b := by simp [up, h]

noncomputable def Hp.Own (H : Hp) (a : Addr) : Prop := H.L a ≠ none ∨ H.D a ≠ none ∨ H.P a ≠ none ∨ H.S a ≠ none ∨ H.I a ≠ none ∨ H.C a ≠ none

set_option genInjectivity false in
structure Base where
  prog : Program
  w : World
  base : Heap
  os : OsState
  lim : Addr
  saved : List (Addr × Obj)
  lo : Keep

noncomputable def relOpt (B : Keep) : Option Value → Option V → Prop
  | none, none => True
  | some v, some x => RelV B v x
  | _, _ => False
theorem relOpt.mono {B B' : Keep} (h : Le B B') {v x} (r : relOpt B v x) : relOpt B' v x := by
  cases v <;> cases x <;> first | exact trivial | exact r.elim | exact RelV.mono h r

noncomputable def pairV (k : Str × List Str) : V := .tup [.str k.1, .tup (k.2.map .str)]

structure OwnAt (c : Base) (B : Keep) (h : Heap) (H : Hp) (a : Addr) : Prop where
  out : H.Own a → B a = none ∧ c.lim < a
  l : ∀ xs, H.L a = some xs → ∃ items n, IsL h a items n ∧ RelVs B items.toList xs
  d : ∀ kvs, H.D a = some kvs → (∀ p ∈ kvs, PyData.strOk p.1 = true) ∧ ∃ cs, h.DictOf (PySem.strKind c.prog c.w) a cs ∧ RelKs B cs kvs
  p : ∀ ks, H.P a = some ks → ∃ o es ep, ∃ xs : List ((Str × List Str) × Addr × Value), h.get? a = some o ∧ o.ExactDict ∧ o.data = .dict es ep ∧ es.toList = xs.map (entryOfKey (pairKind c.prog c.w)) ∧ xs.map (·.1) = ks ∧ ks.Nodup ∧ ∀ x ∈ xs, RelV B (.ref x.2.1) (pairV x.1)
  s : ∀ S, H.S a = some S → h.SetOf (PySem.strKind c.prog c.w) a S.1 S.2
  i : ∀ Cd, H.I a = some Cd → h.get? a = some (instObj' Cd.1 Cd.2)
  c : ∀ ov, H.C a = some ov → ∃ o v, h.get? a = some o ∧ o.data = .cell v ∧ relOpt B v ov
  dp : H.D a ≠ none → H.P a = none
  g : ∀ ep, H.G a = some ep → H.D a ≠ none ∧ ∃ o es, h.get? a = some o ∧ o.data = .dict es ep

theorem OwnAt.mono {c : Base} {B B' : Keep} {h h' : Heap} {H : Hp} {a : Addr} (hB : Le B B') (hk : ∀ o, h.get? a = some o → h'.get? a = some o) (hout : H.Own a → B' a = none) (x : OwnAt c B h H a) : OwnAt c B' h' H a where
  out := fun h => ⟨hout h, (x.out h).2⟩
  l := fun xs e => (x.l xs e).imp fun _ => Exists.imp fun _ h => ⟨hk _ h.1, h.2.mono hB⟩
  d := fun kvs e => (x.d kvs e).imp id (Exists.imp fun _ h => ⟨h.1.imp fun _ => Exists.imp fun _ => Exists.imp fun _ h => ⟨hk _ h.1, h.2⟩, h.2.mono hB⟩)
  p := fun ks e => (x.p ks e).imp fun _ => Exists.imp fun _ => Exists.imp fun _ => Exists.imp fun _ h => ⟨hk _ h.1, h.2.1, h.2.2.1, h.2.2.2.1, h.2.2.2.2.1, h.2.2.2.2.2.1, fun y hy => (h.2.2.2.2.2.2 y hy).mono hB⟩
  s := fun S e => let ⟨o, q⟩ := x.s S e; by
    obtain ⟨es, ep, t, q1, q2⟩ := q
    exact ⟨o, es, ep, t, hk _ q1, q2⟩
  i := fun Cd e => hk _ (x.i Cd e)
  c := fun ov e => (x.c ov e).imp fun _ => Exists.imp fun _ h => ⟨hk _ h.1, h.2.1, h.2.2.mono hB⟩
  dp := x.dp
  g := fun ep e => (x.g ep e).imp id (Exists.imp fun _ => Exists.imp fun _ h => ⟨hk _ h.1, h.2⟩)

theorem OwnAt.at_ {c : Base} {B : Keep} {h : Heap} {H : Hp} {a : Addr} (x : OwnAt c B h H a) (o : H.Own a) : ∃ ob, h.get? a = some ob := by
  rcases o with e | e | e | e | e | e
  · obtain ⟨xs, e⟩ := Option.ne_none_iff_exists'.mp e; obtain ⟨i, n, q, _⟩ := x.l xs e; exact ⟨_, q⟩
  · obtain ⟨xs, e⟩ := Option.ne_none_iff_exists'.mp e; obtain ⟨_, cs, ⟨o, es, ep, q, z⟩, r⟩ := x.d xs e; exact ⟨_, q⟩
  · obtain ⟨xs, e⟩ := Option.ne_none_iff_exists'.mp e; obtain ⟨o, es, ep, xs, q, _⟩ := x.p xs e; exact ⟨_, q⟩
  · obtain ⟨xs, e⟩ := Option.ne_none_iff_exists'.mp e; obtain ⟨o, es, ep, t, q, _⟩ := x.s xs e; exact ⟨_, q⟩
  · obtain ⟨xs, e⟩ := Option.ne_none_iff_exists'.mp e; exact ⟨_, x.i xs e⟩
  · obtain ⟨xs, e⟩ := Option.ne_none_iff_exists'.mp e; obtain ⟨o, v, q, _⟩ := x.c xs e; exact ⟨_, q⟩

noncomputable def Hp.SameAt (H H' : Hp) (a : Addr) : Prop := H.L a = H'.L a ∧ H.D a = H'.D a ∧ H.P a = H'.P a ∧ H.S a = H'.S a ∧ H.I a = H'.I a ∧ H.C a = H'.C a ∧ H.G a = H'.G a
theorem Hp.SameAt.own {H H' : Hp} {a : Addr} (e : H.SameAt H' a) (o : H'.Own a) : H.Own a := by
  obtain ⟨e1, e2, e3, e4, e5, e6, _⟩ := e
  unfold Hp.Own at *
  rw [e1, e2, e3, e4, e5, e6]; exact o
theorem OwnAt.same {c : Base} {B : Keep} {h : Heap} {H H' : Hp} {a : Addr} (e : H.SameAt H' a) (x : OwnAt c B h H a) : OwnAt c B h H' a := by
  have e' := e
  obtain ⟨e1, e2, e3, e4, e5, e6, e7⟩ := e
  exact ⟨fun o => x.out (e'.own o), fun y hy => x.l y (e1.trans hy), fun y hy => x.d y (e2.trans hy), fun y hy => x.p y (e3.trans hy), fun y hy => x.s y (e4.trans hy), fun y hy => x.i y (e5.trans hy), fun y hy => x.c y (e6.trans hy),
    fun z => by rw [← e3]; exact x.dp (by rw [e2]; exact z), fun y hy => by rw [← e2]; exact x.g y (e7.trans hy)⟩

noncomputable def slotOf (nm : List (Str × NameKind)) (x : Str) : Option Nat := nm.findIdx? fun p => p.1 == x
theorem slotOf_inj {nm : List (Str × NameKind)} {x y : Str} {i : Nat} (hx : slotOf nm x = some i) (hy : slotOf nm y = some i) : x = y := by
  obtain ⟨h1, h2, _⟩ := List.findIdx?_eq_some_iff_getElem.mp hx
  obtain ⟨_, h3, _⟩ := List.findIdx?_eq_some_iff_getElem.mp hy
  exact (eq_of_beq h2).symm.trans (eq_of_beq h3)

noncomputable def LocOk (B : Keep) (nm : List (Str × NameKind)) (loc : List (Option V)) (m : Str → Option Value) : Prop :=
  ∀ x i X, slotOf nm x = some i → loc[i]? = some (some X) → ∃ v, m x = some v ∧ RelV B v X
theorem LocOk.mono {B B' : Keep} (h : Le B B') {nm loc m} (x : LocOk B nm loc m) : LocOk B' nm loc m :=
  fun y i X a b => let ⟨v, e, r⟩ := x y i X a b; ⟨v, e, r.mono h⟩
theorem LocOk.set {B : Keep} {nm loc m} {x : Str} {i : Nat} {v : Value} {X : V} (h : LocOk B nm loc m) (hx : slotOf nm x = some i) (hv : RelV B v X) : LocOk B nm (loc.set i (some X)) (fun y => if y = x then some v else m y) := by
  intro y j Y hy hl
  by_cases e : y = x
  · subst e
    obtain rfl : i = j := Option.some.inj (hx.symm.trans hy)
    rw [List.getElem?_set] at hl
    simp only [if_true] at hl
    split at hl
    · cases hl; exact ⟨v, by simp, hv⟩
    · cases hl
  · have hne : i ≠ j := fun z => e (slotOf_inj hy (z ▸ hx))
    rw [List.getElem?_set_ne hne] at hl
    obtain ⟨u, e1, e2⟩ := h y j Y hy hl
    exact ⟨u, by simp [e, e1], e2⟩

noncomputable abbrev tabOb (ps : Array Value) : Obj := { cls := .none, data := .fields ps }
noncomputable abbrev tabMk : Obj := tabOb #[.none]
noncomputable def SvOk (q o : Obj) : Prop := (o.data = q.data ∧ ((∀ es ep, q.data ≠ .dict es ep) → o = q)) ∨ (q = tabMk ∧ ∃ ps, o = tabOb ps)
theorem SvOk.dict {q o : Obj} {es ep} (h : SvOk q o) (e : q.data = .dict es ep) : o.data = q.data := by
  rcases h with h | ⟨h, _⟩
  · exact h.1
  · subst h; cases e
theorem SvOk.same {q o : Obj} (h : SvOk q o) (e : ∀ es ep, q.data ≠ .dict es ep) (hm : q ≠ tabMk) : o = q := by
  rcases h with h | ⟨h, _⟩
  · exact h.2 e
  · exact absurd h hm
theorem SvOk.seq {q o : Obj} {es ep} (h : SvOk q o) (e : q.data = .seq es ep) : o = q :=
  h.same (fun es ep z => by rw [e] at z; cases z) (fun z => by subst z; cases e)
structure Rel (c : Base) (L : Addr) (nm : List (Str × NameKind)) (B : Keep) (loc : List (Option V)) (H : Hp) (s : Shared) : Prop where
  keep : ∀ a o, B a = some o → s.heap.get? a = some o
  based : (∀ a o, c.base.get? a = some o → c.lo a = some o) ∧ Le c.lo B
  own : ∀ a, OwnAt c B s.heap H a
  lB : B L = none
  lH : ¬ H.Own L
  ns : ∃ m, s.heap.Ns L m ∧ LocOk B nm loc m
  gens : s.gens = #[]
  os : s.os = c.os
  lim : 1 ≤ c.lim ∧ ∃ o, c.base.get? c.lim = some o
  sv : ∀ p ∈ c.saved, (∃ o, s.heap.get? p.1 = some o ∧ SvOk p.2 o) ∧ B p.1 = none ∧ ¬ H.Own p.1 ∧ p.1 ≠ L

section
variable {c : Base} {L : Addr} {nm : List (Str × NameKind)} {B : Keep} {loc : List (Option V)} {H : Hp} {s : Shared}

theorem Rel.inBase (R : Rel c L nm B loc H s) {a : Addr} {o : Obj} (e : c.base.get? a = some o) : s.heap.get? a = some o := R.keep _ _ (R.based.2 _ _ (R.based.1 _ _ e))

theorem Rel.grow (R : Rel c L nm B loc H s) {s' : Shared} (hk : ∀ b o, s.heap.get? b = some o → s'.heap.get? b = some o) (hg : s'.gens = s.gens) (ho : s'.os = s.os) : Rel c L nm B loc H s' where
  keep := fun a o e => hk _ _ (R.keep a o e)
  based := R.based
  own := fun a => (R.own a).mono (Le.refl _) (hk a) fun h => ((R.own a).out h).1
  lB := R.lB
  lH := R.lH
  ns := let ⟨m, n, l⟩ := R.ns; ⟨m, n.keeps hk, l⟩
  gens := hg.trans R.gens
  os := ho.trans R.os
  lim := R.lim
  sv := fun p hp => let ⟨⟨o, x1, y1⟩, x2⟩ := R.sv p hp; ⟨⟨o, hk _ _ x1, y1⟩, x2⟩
theorem Rel.tok (R : Rel c L nm B loc H s) (t : Nat) : Rel c L nm B loc H { s with toks := t } := R.grow (fun _ _ e => e) rfl rfl

theorem Rel.fresh_B (R : Rel c L nm B loc H s) {a : Addr} (e : s.heap.get? a = none) : B a = none := by
  cases h : B a with
  | none => rfl
  | some o => rw [R.keep _ _ h] at e; cases e
theorem Rel.fresh_H (R : Rel c L nm B loc H s) {a : Addr} (e : s.heap.get? a = none) : ¬ H.Own a := fun h => by
  obtain ⟨o, q⟩ := (R.own a).at_ h
  rw [q] at e; cases e
theorem Rel.fresh_L (R : Rel c L nm B loc H s) {a : Addr} (e : s.heap.get? a = none) : a ≠ L := by
  rintro rfl
  obtain ⟨m, ⟨o, _, _, q, _⟩, _⟩ := R.ns
  rw [q] at e; cases e
theorem Rel.fresh (R : Rel c L nm B loc H s) {a : Addr} (hf : s.heap.objs.size ≤ a) : s.heap.get? a = none ∧ c.lim < a := by
  refine ⟨?_, ?_⟩
  · cases e : s.heap.get? a with
    | none => rfl
    | some o => exact absurd (Heap.lt_size e) (Nat.not_lt.mpr hf)
  · obtain ⟨_, o, e⟩ := R.lim
    exact Nat.lt_of_lt_of_le (Heap.lt_size (R.inBase e)) hf
theorem Rel.fresh_G (R : Rel c L nm B loc H s) {a : Addr} (e : s.heap.get? a = none) : H.G a = none := by
  cases h : H.G a with
  | none => rfl
  | some ep => obtain ⟨_, o, es, q, _⟩ := (R.own a).g _ h; rw [e] at q; cases q
theorem not_own {H : Hp} {a : Addr} (h : ¬ H.Own a) : H.L a = none ∧ H.D a = none ∧ H.P a = none ∧ H.S a = none ∧ H.I a = none ∧ H.C a = none := by
  unfold Hp.Own at h
  simp only [not_or, Decidable.not_not] at h
  exact h

noncomputable def addB (B : Keep) (a : Addr) (o : Obj) : Keep := fun b => if b = a then some o else B b
theorem addB_le {B : Keep} {a : Addr} {o : Obj} (h : B a = none) : Le B (addB B a o) := fun b p e => by
  unfold addB
  split
  · rename_i z; subst z; rw [h] at e; cases e
  · exact e

theorem Rel.hold (R : Rel c L nm B loc H s) {s' : Shared} {a : Addr} {o : Obj} (hf : s.heap.objs.size ≤ a) (hk : ∀ b o, s.heap.get? b = some o → s'.heap.get? b = some o) (ha : s'.heap.get? a = some o) (hg : s'.gens = s.gens) (ho : s'.os = s.os) :
    Rel c L nm (addB B a o) loc H s' ∧ Le B (addB B a o) ∧ addB B a o a = some o := by
  have hf := (R.fresh hf).1
  have hle := addB_le (o := o) (R.fresh_B hf)
  refine ⟨⟨fun b p e => ?_, ⟨R.based.1, R.based.2.trans hle⟩, fun b => (R.own b).mono hle (hk b) fun h => ?_, ?_, R.lH, ?_, hg.trans R.gens, ho.trans R.os, R.lim, ?_⟩, hle, by simp [addB]⟩
  · unfold addB at e
    split at e
    · rename_i z; subst z; cases e; exact ha
    · exact hk _ _ (R.keep _ _ e)
  · unfold addB
    split
    · rename_i z; subst z; exact absurd h (R.fresh_H hf)
    · exact ((R.own b).out h).1
  · unfold addB
    split
    · rename_i z; exact absurd z.symm (R.fresh_L hf)
    · exact R.lB
  · obtain ⟨m, n, l⟩ := R.ns
    exact ⟨m, n.keeps hk, l.mono hle⟩
  · intro p hp
    obtain ⟨⟨ob, x1, y1⟩, x2, x3⟩ := R.sv p hp
    refine ⟨⟨ob, hk _ _ x1, y1⟩, ?_, x3⟩
    unfold addB
    rw [if_neg]; exact x2
    rintro rfl; rw [hf] at x1; cases x1

theorem Rel.chg (R : Rel c L nm B loc H s) {s' : Shared} {H' : Hp} {a : Addr} (hB : B a = none) (hL : a ≠ L) (hS : ∀ p ∈ c.saved, p.1 ≠ a) (hk : ∀ b o, b ≠ a → s.heap.get? b = some o → s'.heap.get? b = some o) (hs : ∀ b, b ≠ a → H.SameAt H' b)
    (hn : OwnAt c B s'.heap H' a) (hg : s'.gens = s.gens) (ho : s'.os = s.os) : Rel c L nm B loc H' s' where
  keep := fun b o e => hk _ _ (fun z => by subst z; rw [hB] at e; cases e) (R.keep b o e)
  based := R.based
  own := fun b => by
    by_cases hb : b = a
    · subst hb; exact hn
    · exact ((R.own b).mono (Le.refl _) (fun o => hk b o hb) fun h => ((R.own b).out h).1).same (hs b hb)
  lB := R.lB
  lH := fun h => R.lH ((hs L (Ne.symm hL)).own h)
  ns := by
    obtain ⟨m, ⟨o, es, ep, q, z⟩, l⟩ := R.ns
    exact ⟨m, ⟨o, es, ep, hk _ _ (Ne.symm hL) q, z⟩, l⟩
  gens := hg.trans R.gens
  os := ho.trans R.os
  lim := R.lim
  sv := fun p hp => let ⟨⟨o, x1, y1⟩, x2, x3, x4⟩ := R.sv p hp; ⟨⟨o, hk _ _ (hS p hp) x1, y1⟩, x2, fun h => x3 ((hs p.1 (hS p hp)).own h), x4⟩

theorem up_same {α : Type} (f : Addr → Option α) (a : Addr) (x : α) {b : Addr} (h : b ≠ a) : f b = up f a x b := (up_ne h).symm
theorem Rel.own_ne_L (R : Rel c L nm B loc H s) {a : Addr} (h : H.Own a) : a ≠ L := fun e => R.lH (e ▸ h)


theorem OwnAt.none_of {h : Heap} {a : Addr} {o : Obj} (x : OwnAt c B h H a) (q : h.get? a = some o) :
    (o.cls ≠ .type "list" → H.L a = none) ∧ (o.cls ≠ .type "dict" → H.D a = none ∧ H.P a = none) ∧ (o.cls ≠ .type "set" → H.S a = none) ∧ ((∀ C, o.cls ≠ .ref C) → H.I a = none) ∧ ((∀ v, o.data ≠ .cell v) → H.C a = none) := by
  refine ⟨fun k => ?_, fun k => ⟨?_, ?_⟩, fun k => ?_, fun k => ?_, fun k => ?_⟩
  · cases z : H.L a with
    | none => rfl
    | some y => obtain ⟨i, n, q', _⟩ := x.l y z; have q' := q.symm.trans q'; cases q'; exact absurd rfl k
  · cases z : H.D a with
    | none => rfl
    | some y => obtain ⟨_, cs, ⟨o', es, ep, q', ⟨w, _⟩, _⟩, r⟩ := x.d y z; rw [q] at q'; cases q'; exact absurd w k
  · cases z : H.P a with
    | none => rfl
    | some y => obtain ⟨o', es, ep, xs, q', ⟨w, _⟩, _⟩ := x.p y z; rw [q] at q'; cases q'; exact absurd w k
  · cases z : H.S a with
    | none => rfl
    | some y => obtain ⟨o', es, ep, t, q', ⟨w, _⟩, _⟩ := x.s y z; rw [q] at q'; cases q'; exact absurd w k
  · cases z : H.I a with
    | none => rfl
    | some y => have q' := x.i y z; rw [q] at q'; cases q'; exact absurd rfl (k _)
  · cases z : H.C a with
    | none => rfl
    | some y => obtain ⟨o', v, q', w, _⟩ := x.c y z; rw [q] at q'; cases q'; exact absurd w (k _)

theorem Rel.of_old (R : Rel c L nm B loc H s) {s' : Shared} {a : Addr} {H' : Hp} (hw : H.Own a) (hk : ∀ b o, b ≠ a → s.heap.get? b = some o → s'.heap.get? b = some o) (hs : ∀ b, b ≠ a → H.SameAt H' b)
    (hn : OwnAt c B s'.heap H' a) (hg : s'.gens = s.gens) (ho : s'.os = s.os) : Rel c L nm B loc H' s' :=
  R.chg ((R.own a).out hw).1 (R.own_ne_L hw) (fun p hp e => (R.sv p hp).2.2.1 (e ▸ hw)) hk hs hn hg ho
theorem Rel.of_new (R : Rel c L nm B loc H s) {s' : Shared} {a : Addr} {H' : Hp} (hf : s.heap.objs.size ≤ a) (hk : ∀ b o, s.heap.get? b = some o → s'.heap.get? b = some o) (hs : ∀ b, b ≠ a → H.SameAt H' b)
    (hn : OwnAt c B s'.heap H' a) (hg : s'.gens = s.gens) (ho : s'.os = s.os) : Rel c L nm B loc H' s' :=
  R.chg (R.fresh_B (R.fresh hf).1) (R.fresh_L (R.fresh hf).1) (fun p hp e => by obtain ⟨o, h1, _⟩ := (R.sv p hp).1; rw [e, (R.fresh hf).1] at h1; cases h1) (fun b o _ e => hk b o e) hs hn hg ho

theorem Rel.setL (R : Rel c L nm B loc H s) {s' : Shared} {a : Addr} {xs xs' : List V} (e : H.L a = some xs) (hk : ∀ b o, b ≠ a → s.heap.get? b = some o → s'.heap.get? b = some o) {items : Array Value} {n : Nat} (hn : IsL s'.heap a items n) (hr : RelVs B items.toList xs') (hg : s'.gens = s.gens) (ho : s'.os = s.os) : Rel c L nm B loc { H with L := up H.L a xs' } s' := by
  have hw : H.Own a := by unfold Hp.Own; rw [e]; simp
  obtain ⟨_, _, q, _⟩ := (R.own a).l _ e
  obtain ⟨_, z2, z3, z4, z5⟩ := (R.own a).none_of q
  have y1 := (z2 (by intro h; injection h with h; exact absurd h (by decide))).1
  have y2 := (z2 (by intro h; injection h with h; exact absurd h (by decide))).2
  have y3 := z3 (by intro h; injection h with h; exact absurd h (by decide))
  have y4 := z4 (by intro C h; cases h)
  have y5 := z5 (by intro v h; cases h)
  refine R.of_old hw hk (fun b hb => ⟨up_same _ _ _ hb, rfl, rfl, rfl, rfl, rfl, rfl⟩) ⟨fun _ => (R.own a).out hw, ?_, ?_, ?_, ?_, ?_, ?_, ?_, ?_⟩ hg ho
  · intro y hy
    simp only [up_self, Option.some.injEq] at hy
    subst hy; exact ⟨_, _, hn, hr⟩
  · intro y hy; rw [y1] at hy; cases hy
  · intro y hy; rw [y2] at hy; cases hy
  · intro y hy; rw [y3] at hy; cases hy
  · intro y hy; rw [y4] at hy; cases hy
  · intro y hy; rw [y5] at hy; cases hy
  · intro _; exact y2
  · intro y hy; obtain ⟨_, o', es, q', d'⟩ := (R.own a).g y hy; rw [q] at q'; cases q'; cases d'

theorem Rel.newL (R : Rel c L nm B loc H s) {s' : Shared} {a : Addr} {xs' : List V} (hf : s.heap.objs.size ≤ a) (hk : ∀ b o, s.heap.get? b = some o → s'.heap.get? b = some o) {items : Array Value} {n : Nat} (hn : IsL s'.heap a items n) (hr : RelVs B items.toList xs') (hg : s'.gens = s.gens) (ho : s'.os = s.os) : Rel c L nm B loc { H with L := up H.L a xs' } s' := by
  obtain ⟨x1, x2, x3, x4, x5, x6⟩ := not_own (R.fresh_H (R.fresh hf).1)
  refine R.of_new hf hk (fun b hb => ⟨up_same _ _ _ hb, rfl, rfl, rfl, rfl, rfl, rfl⟩) ⟨fun _ => ⟨R.fresh_B (R.fresh hf).1, (R.fresh hf).2⟩, ?_, ?_, ?_, ?_, ?_, ?_, ?_, ?_⟩ hg ho
  · intro y hy
    simp only [up_self, Option.some.injEq] at hy
    subst hy; exact ⟨_, _, hn, hr⟩
  · intro y hy; rw [x2] at hy; cases hy
  · intro y hy; rw [x3] at hy; cases hy
  · intro y hy; rw [x4] at hy; cases hy
  · intro y hy; rw [x5] at hy; cases hy
  · intro y hy; rw [x6] at hy; cases hy
  · intro _; exact x3
  · intro y hy; have := R.fresh_G (R.fresh hf).1; simp only [this] at hy; cases hy

theorem Rel.setD (R : Rel c L nm B loc H s) {s' : Shared} {a : Addr} {kvs kvs' : List (Str × V)} (e : H.D a = some kvs) (eG : H.G a = none) (hk : ∀ b o, b ≠ a → s.heap.get? b = some o → s'.heap.get? b = some o) {cs : List (Str × Value)} (hkk : ∀ p ∈ kvs', PyData.strOk p.1 = true) (hn : s'.heap.DictOf (PySem.strKind c.prog c.w) a cs) (hr : RelKs B cs kvs') (hg : s'.gens = s.gens) (ho : s'.os = s.os) : Rel c L nm B loc { H with D := up H.D a kvs' } s' := by
  have hw : H.Own a := by unfold Hp.Own; rw [e]; simp
  obtain ⟨_, _, ⟨o, es, ep, q, ⟨w, _⟩, w2, _⟩, _⟩ := (R.own a).d _ e
  obtain ⟨z1, _, z3, z4, z5⟩ := (R.own a).none_of q
  have y1 := z1 (by rw [w]; decide)
  have y2 := (R.own a).dp (by rw [e]; simp)
  have y3 := z3 (by rw [w]; decide)
  have y4 := z4 (by intro C h; rw [w] at h; cases h)
  have y5 := z5 (by intro v h; rw [w2] at h; cases h)
  refine R.of_old hw hk (fun b hb => ⟨rfl, up_same _ _ _ hb, rfl, rfl, rfl, rfl, rfl⟩) ⟨fun _ => (R.own a).out hw, ?_, ?_, ?_, ?_, ?_, ?_, ?_, ?_⟩ hg ho
  · intro y hy; rw [y1] at hy; cases hy
  · intro y hy
    simp only [up_self, Option.some.injEq] at hy
    subst hy; exact ⟨hkk, _, hn, hr⟩
  · intro y hy; rw [y2] at hy; cases hy
  · intro y hy; rw [y3] at hy; cases hy
  · intro y hy; rw [y4] at hy; cases hy
  · intro y hy; rw [y5] at hy; cases hy
  · intro _; exact y2
  · intro y hy; simp only [eG] at hy; cases hy

theorem Rel.newD (R : Rel c L nm B loc H s) {s' : Shared} {a : Addr} {kvs' : List (Str × V)} (hf : s.heap.objs.size ≤ a) (hk : ∀ b o, s.heap.get? b = some o → s'.heap.get? b = some o) {cs : List (Str × Value)} (hkk : ∀ p ∈ kvs', PyData.strOk p.1 = true) (hn : s'.heap.DictOf (PySem.strKind c.prog c.w) a cs) (hr : RelKs B cs kvs') (hg : s'.gens = s.gens) (ho : s'.os = s.os) : Rel c L nm B loc { H with D := up H.D a kvs' } s' := by
  obtain ⟨x1, x2, x3, x4, x5, x6⟩ := not_own (R.fresh_H (R.fresh hf).1)
  refine R.of_new hf hk (fun b hb => ⟨rfl, up_same _ _ _ hb, rfl, rfl, rfl, rfl, rfl⟩) ⟨fun _ => ⟨R.fresh_B (R.fresh hf).1, (R.fresh hf).2⟩, ?_, ?_, ?_, ?_, ?_, ?_, ?_, ?_⟩ hg ho
  · intro y hy; rw [x1] at hy; cases hy
  · intro y hy
    simp only [up_self, Option.some.injEq] at hy
    subst hy; exact ⟨hkk, _, hn, hr⟩
  · intro y hy; rw [x3] at hy; cases hy
  · intro y hy; rw [x4] at hy; cases hy
  · intro y hy; rw [x5] at hy; cases hy
  · intro y hy; rw [x6] at hy; cases hy
  · intro _; exact x3
  · intro y hy; have := R.fresh_G (R.fresh hf).1; simp only [this] at hy; cases hy

theorem Rel.setP (R : Rel c L nm B loc H s) {s' : Shared} {a : Addr} {ks ks' : List (Str × List Str)} (e : H.P a = some ks) (eG : H.G a = none) (hk : ∀ b o, b ≠ a → s.heap.get? b = some o → s'.heap.get? b = some o) {o : Obj} {es : Array DictEntry} {ep : Nat} {xs : List ((Str × List Str) × Addr × Value)} (hn : s'.heap.get? a = some o) (hx : o.ExactDict) (hd : o.data = .dict es ep) (he : es.toList = xs.map (entryOfKey (pairKind c.prog c.w))) (hm : xs.map (·.1) = ks') (hu : ks'.Nodup) (hr : ∀ x ∈ xs, RelV B (.ref x.2.1) (pairV x.1)) (hg : s'.gens = s.gens) (ho : s'.os = s.os) : Rel c L nm B loc { H with P := up H.P a ks' } s' := by
  have hw : H.Own a := by unfold Hp.Own; rw [e]; simp
  obtain ⟨o, es, ep, xs, q, ⟨w, _⟩, w2, _⟩ := (R.own a).p _ e
  obtain ⟨z1, _, z3, z4, z5⟩ := (R.own a).none_of q
  have y1 := z1 (by rw [w]; decide)
  have y2 : H.D a = none := by
    cases z : H.D a with
    | none => rfl
    | some y => have := (R.own a).dp (by rw [z]; simp); rw [e] at this; cases this
  have y3 := z3 (by rw [w]; decide)
  have y4 := z4 (by intro C h; rw [w] at h; cases h)
  have y5 := z5 (by intro v h; rw [w2] at h; cases h)
  refine R.of_old hw hk (fun b hb => ⟨rfl, rfl, up_same _ _ _ hb, rfl, rfl, rfl, rfl⟩) ⟨fun _ => (R.own a).out hw, ?_, ?_, ?_, ?_, ?_, ?_, ?_, ?_⟩ hg ho
  · intro y hy; rw [y1] at hy; cases hy
  · intro y hy; rw [y2] at hy; cases hy
  · intro y hy
    simp only [up_self, Option.some.injEq] at hy
    subst hy; exact ⟨_, _, _, _, hn, hx, hd, he, hm, hu, hr⟩
  · intro y hy; rw [y3] at hy; cases hy
  · intro y hy; rw [y4] at hy; cases hy
  · intro y hy; rw [y5] at hy; cases hy
  · intro hy; exact absurd y2 hy
  · intro y hy; simp only [eG] at hy; cases hy

theorem Rel.setS (R : Rel c L nm B loc H s) {s' : Shared} {a : Addr} {S S' : (Str → Bool) × Nat} (e : H.S a = some S) (eG : H.G a = none) (hk : ∀ b o, b ≠ a → s.heap.get? b = some o → s'.heap.get? b = some o) (hn : s'.heap.SetOf (PySem.strKind c.prog c.w) a S'.1 S'.2) (hg : s'.gens = s.gens) (ho : s'.os = s.os) : Rel c L nm B loc { H with S := up H.S a S' } s' := by
  have hw : H.Own a := by unfold Hp.Own; rw [e]; simp
  obtain ⟨o, es, ep, t, q, ⟨w, _⟩, w2, _⟩ := (R.own a).s _ e
  obtain ⟨z1, z2, _, z4, z5⟩ := (R.own a).none_of q
  have y1 := z1 (by rw [w]; decide)
  have y2 := (z2 (by rw [w]; decide)).1
  have y3 := (z2 (by rw [w]; decide)).2
  have y4 := z4 (by intro C h; rw [w] at h; cases h)
  have y5 := z5 (by intro v h; rw [w2] at h; cases h)
  refine R.of_old hw hk (fun b hb => ⟨rfl, rfl, rfl, up_same _ _ _ hb, rfl, rfl, rfl⟩) ⟨fun _ => (R.own a).out hw, ?_, ?_, ?_, ?_, ?_, ?_, ?_, ?_⟩ hg ho
  · intro y hy; rw [y1] at hy; cases hy
  · intro y hy; rw [y2] at hy; cases hy
  · intro y hy; rw [y3] at hy; cases hy
  · intro y hy
    simp only [up_self, Option.some.injEq] at hy
    subst hy; exact hn
  · intro y hy; rw [y4] at hy; cases hy
  · intro y hy; rw [y5] at hy; cases hy
  · intro _; exact y3
  · intro y hy; simp only [eG] at hy; cases hy

theorem Rel.newS (R : Rel c L nm B loc H s) {s' : Shared} {a : Addr} {S' : (Str → Bool) × Nat} (hf : s.heap.objs.size ≤ a) (hk : ∀ b o, s.heap.get? b = some o → s'.heap.get? b = some o) (hn : s'.heap.SetOf (PySem.strKind c.prog c.w) a S'.1 S'.2) (hg : s'.gens = s.gens) (ho : s'.os = s.os) : Rel c L nm B loc { H with S := up H.S a S' } s' := by
  obtain ⟨x1, x2, x3, x4, x5, x6⟩ := not_own (R.fresh_H (R.fresh hf).1)
  refine R.of_new hf hk (fun b hb => ⟨rfl, rfl, rfl, up_same _ _ _ hb, rfl, rfl, rfl⟩) ⟨fun _ => ⟨R.fresh_B (R.fresh hf).1, (R.fresh hf).2⟩, ?_, ?_, ?_, ?_, ?_, ?_, ?_, ?_⟩ hg ho
  · intro y hy; rw [x1] at hy; cases hy
  · intro y hy; rw [x2] at hy; cases hy
  · intro y hy; rw [x3] at hy; cases hy
  · intro y hy
    simp only [up_self, Option.some.injEq] at hy
    subst hy; exact hn
  · intro y hy; rw [x5] at hy; cases hy
  · intro y hy; rw [x6] at hy; cases hy
  · intro _; exact x3
  · intro y hy; have := R.fresh_G (R.fresh hf).1; simp only [this] at hy; cases hy

theorem Rel.newI (R : Rel c L nm B loc H s) {s' : Shared} {a : Addr} {Cd' : Addr × Addr} (hf : s.heap.objs.size ≤ a) (hk : ∀ b o, s.heap.get? b = some o → s'.heap.get? b = some o) (hn : s'.heap.get? a = some (instObj' Cd'.1 Cd'.2)) (hg : s'.gens = s.gens) (ho : s'.os = s.os) : Rel c L nm B loc { H with I := up H.I a Cd' } s' := by
  obtain ⟨x1, x2, x3, x4, x5, x6⟩ := not_own (R.fresh_H (R.fresh hf).1)
  refine R.of_new hf hk (fun b hb => ⟨rfl, rfl, rfl, rfl, up_same _ _ _ hb, rfl, rfl⟩) ⟨fun _ => ⟨R.fresh_B (R.fresh hf).1, (R.fresh hf).2⟩, ?_, ?_, ?_, ?_, ?_, ?_, ?_, ?_⟩ hg ho
  · intro y hy; rw [x1] at hy; cases hy
  · intro y hy; rw [x2] at hy; cases hy
  · intro y hy; rw [x3] at hy; cases hy
  · intro y hy; rw [x4] at hy; cases hy
  · intro y hy
    simp only [up_self, Option.some.injEq] at hy
    subst hy; exact hn
  · intro y hy; rw [x6] at hy; cases hy
  · intro _; exact x3
  · intro y hy; have := R.fresh_G (R.fresh hf).1; simp only [this] at hy; cases hy

theorem Rel.setC (R : Rel c L nm B loc H s) {s' : Shared} {a : Addr} {ov ov' : Option V} (e : H.C a = some ov) (hk : ∀ b o, b ≠ a → s.heap.get? b = some o → s'.heap.get? b = some o) {o : Obj} {v : Option Value} (hn : s'.heap.get? a = some o) (hd : o.data = .cell v) (hr : relOpt B v ov') (hg : s'.gens = s.gens) (ho : s'.os = s.os) : Rel c L nm B loc { H with C := up H.C a ov' } s' := by
  have hw : H.Own a := by unfold Hp.Own; rw [e]; simp
  obtain ⟨oc, _, q, w2, _⟩ := (R.own a).c _ e
  have y1 : H.L a = none := by
    cases z : H.L a with
    | none => rfl
    | some y => obtain ⟨i, n, q', _⟩ := (R.own a).l y z; have q' := q.symm.trans q'; cases q'; cases w2
  have y2 : H.D a = none := by
    cases z : H.D a with
    | none => rfl
    | some y => obtain ⟨_, cs, ⟨o', es, ep, q', _, w, _⟩, r⟩ := (R.own a).d y z; rw [q] at q'; cases q'; rw [w] at w2; cases w2
  have y3 : H.P a = none := by
    cases z : H.P a with
    | none => rfl
    | some y => obtain ⟨o', es, ep, xs, q', _, w, _⟩ := (R.own a).p y z; rw [q] at q'; cases q'; rw [w] at w2; cases w2
  have y4 : H.S a = none := by
    cases z : H.S a with
    | none => rfl
    | some y => obtain ⟨o', es, ep, t, q', _, w, _⟩ := (R.own a).s y z; rw [q] at q'; cases q'; rw [w] at w2; cases w2
  have y5 : H.I a = none := by
    cases z : H.I a with
    | none => rfl
    | some y => have q' := (R.own a).i y z; rw [q] at q'; cases q'; cases w2
  refine R.of_old hw hk (fun b hb => ⟨rfl, rfl, rfl, rfl, rfl, up_same _ _ _ hb, rfl⟩) ⟨fun _ => (R.own a).out hw, ?_, ?_, ?_, ?_, ?_, ?_, ?_, ?_⟩ hg ho
  · intro y hy; rw [y1] at hy; cases hy
  · intro y hy; rw [y2] at hy; cases hy
  · intro y hy; rw [y3] at hy; cases hy
  · intro y hy; rw [y4] at hy; cases hy
  · intro y hy; rw [y5] at hy; cases hy
  · intro y hy
    simp only [up_self, Option.some.injEq] at hy
    subst hy; exact ⟨_, _, hn, hd, hr⟩
  · intro _; exact y3
  · intro y hy; obtain ⟨_, o', es, q', d'⟩ := (R.own a).g y hy; rw [q] at q'; cases q'; rw [w2] at d'; cases d'

end
end Lay
end
noncomputable section
open PySem PySem.W PyProof.Rows PySem.Calls
set_option Elab.async false
set_option maxRecDepth 100000
set_option linter.all false
namespace Lay

set_option genInjectivity false in
structure Fx where
  c : Base
  A : Around
  env : Env
  E : Value → Shared → Prop

noncomputable abbrev Fx.M (F : Fx) : Model := model F.c.prog F.c.w
noncomputable abbrev Fx.nm (F : Fx) : List (Str × NameKind) := F.env.scope.names
noncomputable abbrev Fx.L (F : Fx) : Addr := F.env.locals
noncomputable abbrev Loc := List (Option V)
noncomputable abbrev FRel (F : Fx) (B : Keep) (loc : Loc) (H : Hp) (s : Shared) : Prop := Rel F.c F.L F.nm B loc H s

noncomputable def Post (F : Fx) {α β : Type} (ρ : Keep → α → β → Prop) (B : Keep) (Q : β → Loc → Hp → Prop) : α → Shared → Prop :=
  fun a s' => ∃ B' b loc' H', Le B B' ∧ ρ B' a b ∧ FRel F B' loc' H' s' ∧ Q b loc' H'

noncomputable def PW (F : Fx) {α β : Type} (t : Sem α) (ρ : Keep → α → β → Prop) (B : Keep) (s : Shared) (Q : β → Loc → Hp → Prop) : Prop :=
  wpAny F.M F.A t (Post F ρ B Q) F.E s

noncomputable abbrev eqR {α : Type} : Keep → α → α → Prop := fun _ a b => a = b

theorem Post.lift {F : Fx} {α β : Type} {ρ : Keep → α → β → Prop} {B B' : Keep} (h : Le B B') {Q : β → Loc → Hp → Prop} {a : α} {s' : Shared} (p : Post F ρ B' Q a s') : Post F ρ B Q a s' := by
  obtain ⟨B2, b, loc', H', l, r⟩ := p
  exact ⟨B2, b, loc', H', h.trans l, r⟩
theorem PW.lift {F : Fx} {α β : Type} {t : Sem α} {ρ : Keep → α → β → Prop} {B B' : Keep} (h : Le B B') {s : Shared} {Q : β → Loc → Hp → Prop} (p : PW F t ρ B' s Q) : PW F t ρ B s Q :=
  wpAny_mono p (fun _ _ x => x.lift h) fun _ _ x => x
theorem PW.mono {F : Fx} {α β : Type} {t : Sem α} {ρ : Keep → α → β → Prop} {B : Keep} {s : Shared} {Q Q' : β → Loc → Hp → Prop} (p : PW F t ρ B s Q) (h : ∀ b l H, Q b l H → Q' b l H) : PW F t ρ B s Q' :=
  wpAny_mono p (fun _ _ ⟨B', b, l, H, x1, x2, x3, x4⟩ => ⟨B', b, l, H, x1, x2, x3, h _ _ _ x4⟩) fun _ _ x => x
theorem Post.pure {F : Fx} {α β : Type} {ρ : Keep → α → β → Prop} {B : Keep} {Q : β → Loc → Hp → Prop} {a : α} {s : Shared} {b : β} {loc : Loc} {H : Hp} (r : ρ B a b) (R : FRel F B loc H s) (q : Q b loc H) : Post F ρ B Q a s :=
  ⟨B, b, loc, H, Le.refl _, r, R, q⟩
theorem PW.then {F : Fx} {α β : Type} {t : Sem α} {ρ : Keep → α → β → Prop} {B : Keep} {s : Shared} {Q : β → Loc → Hp → Prop} {P : α → Shared → Prop} (p : PW F t ρ B s Q)
    (k : ∀ a B' b l H s', Le B B' → ρ B' a b → FRel F B' l H s' → Q b l H → P a s') : wpAny F.M F.A t P F.E s :=
  wpAny_mono p (fun a s' ⟨B', b, l, H, x1, x2, x3, x4⟩ => k a B' b l H s' x1 x2 x3 x4) fun _ _ x => x

noncomputable def WE (F : Fx) (e : Expr) (loc : Loc) (H : Hp) (Q : V → Loc → Hp → Prop) : Prop := ∀ B s, FRel F B loc H s → PW F (eval e F.env) RelV B s Q
noncomputable def WB (F : Fx) (e : Expr) (loc : Loc) (H : Hp) (Q : Bool → Loc → Hp → Prop) : Prop := ∀ B s, FRel F B loc H s → PW F (isTrue e F.env (eval e F.env)) eqR B s Q

inductive Fl where
  | next | brk | cont | ret (x : V)
inductive RelF (B : Keep) : Flow → Fl → Prop
  | next : RelF B .next .next
  | brk : RelF B .brk .brk
  | cont : RelF B .cont .cont
  | ret {v x} : RelV B v x → RelF B (.ret v) (.ret x)
noncomputable def WS (F : Fx) (st : Stmt) (loc : Loc) (H : Hp) (Q : Fl → Loc → Hp → Prop) : Prop := ∀ B s, FRel F B loc H s → PW F (exec st F.env) RelF B s Q
noncomputable def WSs (F : Fx) (st : List Stmt) (loc : Loc) (H : Hp) (Q : Fl → Loc → Hp → Prop) : Prop := ∀ B s, FRel F B loc H s → PW F (execs st F.env) RelF B s Q

theorem WE.mono {F : Fx} {e loc H} {Q Q' : V → Loc → Hp → Prop} (h : WE F e loc H Q) (k : ∀ x l H, Q x l H → Q' x l H) : WE F e loc H Q' := fun B s R => (h B s R).mono k
theorem WB.mono {F : Fx} {e loc H} {Q Q' : Bool → Loc → Hp → Prop} (h : WB F e loc H Q) (k : ∀ x l H, Q x l H → Q' x l H) : WB F e loc H Q' := fun B s R => (h B s R).mono k
theorem WS.mono {F : Fx} {e loc H} {Q Q' : Fl → Loc → Hp → Prop} (h : WS F e loc H Q) (k : ∀ x l H, Q x l H → Q' x l H) : WS F e loc H Q' := fun B s R => (h B s R).mono k
noncomputable def Op2 (F : Fx) (t : Value → Value → Sem Value) (X Y : V) (loc : Loc) (H : Hp) (Q : V → Loc → Hp → Prop) : Prop :=
  ∀ B s a b, FRel F B loc H s → RelV B a X → RelV B b Y → PW F (t a b) RelV B s Q
noncomputable abbrev boolR : Keep → Value → Bool → Prop := fun _ v b => v = .bool b
noncomputable def Cmp (F : Fx) (op : CmpOp) (X Y : V) (loc : Loc) (H : Hp) (Q : Bool → Loc → Hp → Prop) : Prop :=
  ∀ B s a b, FRel F B loc H s → RelV B a X → RelV B b Y → PW F (compareOp op a b) boolR B s Q
noncomputable def Tru (F : Fx) (X : V) (loc : Loc) (H : Hp) (Q : Bool → Loc → Hp → Prop) : Prop :=
  ∀ B s a, FRel F B loc H s → RelV B a X → PW F (truthy a) eqR B s Q

structure Ok (F : Fx) (n : Nat) : Prop where
  fn : F.env.scope.kind = .function
  glob : F.env.globals = mainGlobals
  bi : F.env.builtins = builtinsNs
  dbg : F.nm.lookup ("__debug__" : Str) = none
  units : F.A.units + 40 * n + 200 < cLine
  depth : F.A.depth + 4 * n + 4 < recursionLimit
  handled : n ≠ 0 → F.A.handled = none
  fr : ∃ fl, F.A.frames = some fl ∧ ∀ e ∈ fl, e.scope.kind ≠ .module ∧ (e.frame = some F.L ∨ ∃ p ∈ F.c.saved, e.frame = some p.1 ∧ ∃ es ep, p.2.data = .dict es ep)
noncomputable def Top (F : Fx) : Prop := ∃ outer, F.A.frames = some (F.env :: outer) ∧ F.env.frame = some F.L

noncomputable def look : List (Str × NameKind) → Str → Option (Nat × NameKind)
  | [], _ => none
  | (y, k) :: r, x => if y == x then some (0, k) else (look r x).map fun p => (p.1 + 1, p.2)
theorem look_spec : ∀ {nm : List (Str × NameKind)} {x : Str} {i : Nat} {k : NameKind}, look nm x = some (i, k) → slotOf nm x = some i ∧ nm.lookup x = some k
  | [], _, _, _, h => by cases h
  | (y, k') :: r, x, i, k, h => by
    unfold look at h
    split at h
    · rename_i e
      cases h
      obtain rfl := eq_of_beq e
      simp [slotOf, List.findIdx?_cons]
    · rename_i e
      obtain ⟨⟨j, k2⟩, hp, he⟩ := Option.map_eq_some_iff.mp h
      cases he
      obtain ⟨h1, h2⟩ := look_spec hp
      refine ⟨?_, ?_⟩
      · unfold slotOf at h1 ⊢
        rw [List.findIdx?_cons]
        simp only [e, Bool.false_eq_true, if_false, h1, Option.map_some]
      · have e' : (x == y) = false := by
          cases z : x == y with
          | false => rfl
          | true => exact absurd (by rw [eq_of_beq z]; exact beq_self_eq_true y) e
        rw [List.lookup_cons, e']; exact h2

section
variable {F : Fx} {n : Nat} {loc : Loc} {H : Hp}

theorem not_dbg (ok : Ok F n) {x : Str} {k : NameKind} (h : F.nm.lookup x = some k) : (x == ("__debug__" : Str)) = false := by
  cases z : x == ("__debug__" : Str) with
  | false => rfl
  | true => rw [eq_of_beq z, ok.dbg] at h; cases h

theorem WE_local (ok : Ok F n) {x : Str} {pos : Pos} {i : Nat} {X : V} {Q : V → Loc → Hp → Prop} (hx : look F.nm x = some (i, .local)) (hv : loc[i]? = some (some X)) (q : Q X loc H) : WE F (.Name x pos) loc H Q := fun B s R => by
  obtain ⟨h1, h2⟩ := look_spec hx
  obtain ⟨m, hm, hl⟩ := R.ns
  obtain ⟨v, e, r⟩ := hl x i X h1 hv
  exact wpAny_Name (wpAny_loadName_local ok.fn h2 hm e (Post.pure r R q)) (not_dbg ok h2)

theorem base_le {B : Keep} {s : Shared} (R : FRel F B loc H s) : Le (fun a => F.c.base.get? a) B := fun a o e => R.based.2 _ _ (R.based.1 a o e)

theorem WE_global (ok : Ok F n) {K : Frag} {mg : Str → Option Value} (hK : K.In F.c.base) (hg : F.c.base.Ns mainGlobals mg) {x : Str} {pos : Pos} {i : Nat} {v : Value} {X : V} {Q : V → Loc → Hp → Prop} (hx : look F.nm x = some (i, .globalImplicit)) (e : nsIn K mainGlobals x = some (some v))
    (r : RelV (fun a => F.c.base.get? a) v X) (q : Q X loc H) : WE F (.Name x pos) loc H Q := fun B s R => by
  obtain ⟨h1, h2⟩ := look_spec hx
  refine Name_function_global ok.fn h2 (loadGlobal_global (mg := mg) ?_ (mg_of hK hg e) (Post.pure (r.mono (base_le R)) R q)) (not_dbg ok h2)
  rw [ok.glob]; exact hg.keeps fun b o e => R.inBase e

theorem WE_builtin (ok : Ok F n) {K : Frag} {mg mb : Str → Option Value} (hK : K.In F.c.base) (hg : F.c.base.Ns mainGlobals mg) (hb : F.c.base.Ns builtinsNs mb) (hbb : ∀ x : Str, x ≠ "__name__" → mb x = bootBuiltins x) {x : Str} {pos : Pos} {i : Nat} {v : Value} {Q : V → Loc → Hp → Prop}
    (hx : look F.nm x = some (i, .globalImplicit)) (e : nsIn K mainGlobals x = some none) (hv : bootBuiltins x = some v) (hn : x ≠ "__name__") (q : Q (.raw v) loc H) : WE F (.Name x pos) loc H Q := fun B s R => by
  obtain ⟨h1, h2⟩ := look_spec hx
  refine Name_function_global ok.fn h2 (loadGlobal_builtin (mg := mg) (mb := mb) ?_ (mg_none_of hK hg e) ?_ ((hbb x hn).trans hv) (Post.pure (.raw v) R q)) (not_dbg ok h2)
  · rw [ok.glob]; exact hg.keeps fun b o e => R.inBase e
  · rw [ok.bi]; exact hb.keeps fun b o e => R.inBase e

theorem ofString_ok (x : String) : PyData.strOk (Str.ofString x) = true := by
  rw [Str.ofString_eq_toList]
  unfold PyData.strOk
  simp only [List.all_toArray, List.all_map, List.all_eq_true, Function.comp]
  intro c _
  have h := c.valid
  have ht : c.toNat = c.val.toNat := rfl
  rcases h with h | h
  · exact decide_eq_true (by rw [ht]; omega)
  · exact decide_eq_true (by rw [ht]; exact h.2)

theorem WE_int {i : Int} {k : Nat} {pos : Pos} {Q : V → Loc → Hp → Prop} (q : Q (.int i) loc H) : WE F (.Constant (.int i) k pos) loc H Q := fun B s R =>
  wpAny_Constant_int (Post.pure (.int i _) (R.tok _) q)
theorem WE_str {x : String} {k : Nat} {pos : Pos} {Q : V → Loc → Hp → Prop} (q : Q (.str (Str.ofString x)) loc H) : WE F (.Constant (.str (Str.ofString x)) k pos) loc H Q := fun B s R =>
  Constant_str (Post.pure (.str _ _ (ofString_ok x)) (R.tok _) q)
theorem WE_bool {b : Bool} {k : Nat} {pos : Pos} {Q : V → Loc → Hp → Prop} (q : Q (.bool b) loc H) : WE F (.Constant (.bool b) k pos) loc H Q := fun B s R =>
  wpAny_pure (Post.pure (.bool b) R q)
theorem WE_none {k : Nat} {pos : Pos} {Q : V → Loc → Hp → Prop} (q : Q .none loc H) : WE F (.Constant .none k pos) loc H Q := fun B s R =>
  wpAny_pure (Post.pure .none R q)

theorem WE_BinOp {l r : Expr} {op : Operator} {pos : Pos} {Q : V → Loc → Hp → Prop} (h : WE F l loc H fun X l1 H1 => WE F r l1 H1 fun Y l2 H2 => Op2 F (binaryOp op) X Y l2 H2 Q) : WE F (.BinOp l op r pos) loc H Q := fun B s R =>
  wpAny_BinOp ((h B s R).then fun a B1 X l1 H1 s1 le1 ra R1 h1 => (h1 B1 s1 R1).then fun b B2 Y l2 H2 s2 le2 rb R2 h2 =>
    (h2 B2 s2 a b R2 (ra.mono le2) rb).lift (le1.trans le2))

theorem WB_Compare {l r : Expr} {op : CmpOp} {pos : Pos} {Q : Bool → Loc → Hp → Prop} (h : WE F l loc H fun X l1 H1 => WE F r l1 H1 fun Y l2 H2 => Cmp F op X Y l2 H2 Q) (hm : behindInMarks op r = false := by with_unfolding_all rfl) : WB F (.Compare l [op] [r] pos) loc H Q := fun B s R =>
  wpAny_isTrue_Compare1 ((h B s R).then fun a B1 X l1 H1 s1 le1 ra R1 h1 => (h1 B1 s1 R1).then fun b B2 Y l2 H2 s2 le2 rb R2 h2 =>
    (h2 B2 s2 a b R2 (ra.mono le2) rb).then fun v B3 t l3 H3 s3 le3 e R3 q => by subst e; exact wpAny_truthy_bool ((Post.pure rfl R3 q).lift (le1.trans (le2.trans le3)))) hm
theorem WE_Compare {l r : Expr} {op : CmpOp} {pos : Pos} {Q : V → Loc → Hp → Prop} (h : WE F l loc H fun X l1 H1 => WE F r l1 H1 fun Y l2 H2 => Cmp F op X Y l2 H2 fun b l3 H3 => Q (.bool b) l3 H3) (hm : behindInMarks op r = false := by with_unfolding_all rfl) : WE F (.Compare l [op] [r] pos) loc H Q := fun B s R =>
  wpAny_Compare1 ((h B s R).then fun a B1 X l1 H1 s1 le1 ra R1 h1 => (h1 B1 s1 R1).then fun b B2 Y l2 H2 s2 le2 rb R2 h2 =>
    (h2 B2 s2 a b R2 (ra.mono le2) rb).then fun v B3 t l3 H3 s3 le3 e R3 q => by subst e; exact (Post.pure (.bool t) R3 q).lift (le1.trans (le2.trans le3))) hm

theorem WB_plain {e : Expr} {Q : Bool → Loc → Hp → Prop} (h : WE F e loc H fun X l1 H1 => Tru F X l1 H1 Q) (he : isTrue e F.env (eval e F.env) = (do let v ← eval e F.env; standAt e.pos; holding [v] (truthy v)) := by rfl) : WB F e loc H Q := fun B s R =>
  isTrue_plain ((h B s R).then fun a B1 X l1 H1 s1 le1 ra R1 h1 => (h1 B1 s1 a R1 ra).lift le1) he
theorem WB_not {x : Expr} {pos : Pos} {Q : Bool → Loc → Hp → Prop} (h : WB F x loc H fun b l1 H1 => Q (!b) l1 H1) : WB F (.UnaryOp .Not x pos) loc H Q := fun B s R =>
  wpAny_isTrue_Not ((h B s R).then fun a B1 b l1 H1 s1 le1 ra R1 q => by subst ra; exact (Post.pure rfl R1 q).lift le1)
noncomputable def WAll (F : Fx) (op : BoolOp) (es : List Expr) (loc : Loc) (H : Hp) (Q : Bool → Loc → Hp → Prop) : Prop := ∀ B s, FRel F B loc H s → PW F (allTrue op es F.env) eqR B s Q
theorem WB_BoolOp {op : BoolOp} {vs : List Expr} {pos : Pos} {Q : Bool → Loc → Hp → Prop} (h : WAll F op vs loc H Q) : WB F (.BoolOp op vs pos) loc H Q := fun B s R => wpAny_isTrue_BoolOp (h B s R)
theorem WAll_and_nil {Q : Bool → Loc → Hp → Prop} (q : Q true loc H) : WAll F .And [] loc H Q := fun B s R => wpAny_allTrue_And_nil (Post.pure rfl R q)
theorem WAll_or_nil {Q : Bool → Loc → Hp → Prop} (q : Q false loc H) : WAll F .Or [] loc H Q := fun B s R => wpAny_allTrue_Or_nil (Post.pure rfl R q)
theorem WAll_and_cons {x : Expr} {rest : List Expr} {Q : Bool → Loc → Hp → Prop} (h : WB F x loc H fun b l1 H1 => (b = true → WAll F .And rest l1 H1 Q) ∧ (b = false → Q false l1 H1)) : WAll F .And (x :: rest) loc H Q := fun B s R =>
  wpAny_allTrue_And_cons ((h B s R).then fun a B1 b l1 H1 s1 le1 ra R1 q => by
    subst ra
    cases a with
    | true => exact (q.1 rfl B1 s1 R1).lift le1
    | false => exact (Post.pure rfl R1 (q.2 rfl)).lift le1)
theorem WAll_or_cons {x : Expr} {rest : List Expr} {Q : Bool → Loc → Hp → Prop} (h : WB F x loc H fun b l1 H1 => (b = true → Q true l1 H1) ∧ (b = false → WAll F .Or rest l1 H1 Q)) : WAll F .Or (x :: rest) loc H Q := fun B s R =>
  wpAny_allTrue_Or_cons ((h B s R).then fun a B1 b l1 H1 s1 le1 ra R1 q => by
    subst ra
    cases a with
    | true => exact (Post.pure rfl R1 (q.1 rfl)).lift le1
    | false => exact (q.2 rfl B1 s1 R1).lift le1)
theorem WE_IfExp {t b o : Expr} {pos : Pos} {Q : V → Loc → Hp → Prop} (h : WB F t loc H fun c l1 H1 => (c = true → WE F b l1 H1 Q) ∧ (c = false → WE F o l1 H1 Q)) : WE F (.IfExp t b o pos) loc H Q := fun B s R =>
  wpAny_IfExp ((h B s R).then fun a B1 b l1 H1 s1 le1 ra R1 q => by
    subst ra
    cases a with
    | true => exact (q.1 rfl B1 s1 R1).lift le1
    | false => exact (q.2 rfl B1 s1 R1).lift le1)

theorem WSs_nil {Q : Fl → Loc → Hp → Prop} (q : Q .next loc H) : WSs F [] loc H Q := fun B s R => wpAny_execs_nil (Post.pure .next R q)
theorem WSs_cons {st : Stmt} {rest : List Stmt} {Q : Fl → Loc → Hp → Prop} (h : WS F st loc H fun f l1 H1 => match f with | .next => WSs F rest l1 H1 Q | f => Q f l1 H1) : WSs F (st :: rest) loc H Q := fun B s R =>
  wpAny_execs_cons ((h B s R).then fun a B1 b l1 H1 s1 le1 ra R1 q => by
    cases ra with
    | next => exact PW.lift le1 (q B1 s1 R1)
    | brk => exact (Post.pure .brk R1 q).lift le1
    | cont => exact (Post.pure .cont R1 q).lift le1
    | ret r => exact (Post.pure (.ret r) R1 q).lift le1)
theorem WS_If {t : Expr} {b o : List Stmt} {pos : Pos} {Q : Fl → Loc → Hp → Prop} (h : WB F t loc H fun c l1 H1 => (c = true → WSs F b l1 H1 Q) ∧ (c = false → WSs F o l1 H1 Q)) : WS F (.If t b o pos) loc H Q := fun B s R =>
  wpAny_If ((h B s R).then fun a B1 b l1 H1 s1 le1 ra R1 q => by
    subst ra
    cases a with
    | true => exact (q.1 rfl B1 s1 R1).lift le1
    | false => exact (q.2 rfl B1 s1 R1).lift le1)
theorem WS_Continue {pos : Pos} {Q : Fl → Loc → Hp → Prop} (q : Q .cont loc H) : WS F (.Continue pos) loc H Q := fun B s R => wpAny_Continue (Post.pure .cont R q)
theorem WS_Return {e : Expr} {pos : Pos} {Q : Fl → Loc → Hp → Prop} (h : WE F e loc H fun X l1 H1 => Q (.ret X) l1 H1) : WS F (.Return (some e) pos) loc H Q := fun B s R =>
  wpAny_Return_some ((h B s R).then fun a B1 b l1 H1 s1 le1 ra R1 q => (Post.pure (.ret ra) R1 q).lift le1)
theorem PW_store (ok : Ok F n) {x : Str} {i : Nat} {X : V} {v : Value} {B : Keep} {s : Shared} {P : Unit → Shared → Prop} (hx : look F.nm x = some (i, .local)) (R : FRel F B loc H s) (r : RelV B v X)
    (q : ∀ s', FRel F B (loc.set i (some X)) H s' → P () s') : wpAny F.M F.A (storeName F.env x v) P F.E s := by
  obtain ⟨h1, h2⟩ := look_spec hx
  obtain ⟨m, hm, hl⟩ := R.ns
  refine wpAny_storeName_local h2 hm (fun h' hn hs => q _ ⟨fun a o e => ?_, R.based, fun a => ?_, R.lB, R.lH, ⟨_, hn, hl.set h1 r⟩, R.gens, R.os, R.lim, fun p hp => let ⟨⟨o, x1, y1⟩, x2, x3, x4⟩ := R.sv p hp; ⟨⟨o, (hs.2 p.1 x4).trans x1, y1⟩, x2, x3, x4⟩⟩) (by rw [ok.fn]; rfl)
  · have hne : a ≠ F.L := fun z => by rw [z, R.lB] at e; cases e
    exact (hs.2 a hne).trans (R.keep a o e)
  · by_cases hw : H.Own a
    · exact (R.own a).mono (Le.refl _) (fun o e => (hs.2 a (R.own_ne_L hw)).trans e) fun h => ((R.own a).out h).1
    · obtain ⟨d1, d2, d3, d4, d5, d6⟩ := not_own hw
      refine ⟨fun h => absurd h hw, ?_, ?_, ?_, ?_, ?_, ?_, fun _ => d3, fun ep e => ?_⟩
      · intro y hy; rw [d1] at hy; cases hy
      · intro y hy; rw [d2] at hy; cases hy
      · intro y hy; rw [d3] at hy; cases hy
      · intro y hy; rw [d4] at hy; cases hy
      · intro y hy; rw [d5] at hy; cases hy
      · intro y hy; rw [d6] at hy; cases hy
      · exact absurd (.inr (.inl ((R.own a).g ep e).1)) hw

theorem WS_Assign (ok : Ok F n) {x : Str} {i : Nat} {e : Expr} {p pos : Pos} {Q : Fl → Loc → Hp → Prop} (hx : look F.nm x = some (i, .local)) (h : WE F e loc H fun X l1 H1 => Q .next (l1.set i (some X)) H1)
    (hs : swapsWith e (some (.Name x p)) pos.line F.env = pure false := by rfl) : WS F (.Assign [.Name x p] e pos) loc H Q := fun B s R =>
  wpAny_Assign_Name ((h B s R).then fun a B1 X l1 H1 s1 le1 ra R1 q => PW_store ok hx R1 ra fun s' R' => (Post.pure .next R' q).lift le1) hs
end
end Lay
end
noncomputable section
open PySem PySem.W PyProof.Rows PySem.Calls
set_option Elab.async false
set_option maxRecDepth 100000
set_option linter.all false
namespace Lay

mutual
noncomputable def V.toD : V → PyData
  | .none => .none
  | .bool b => .bool b
  | .int i => .int i
  | .str s => .str s
  | .tup xs => .tuple (toDs xs)
  | .list xs => .list (toDs xs)
  | .inst _ _ => .none
  | .ref _ => .none
  | .raw _ => .none
noncomputable def toDs : List V → List PyData
  | [] => []
  | x :: xs => x.toD :: toDs xs
end
theorem toDs_map : ∀ xs : List V, toDs xs = xs.map V.toD
  | [] => rfl
  | x :: xs => by rw [toDs, toDs_map xs]; rfl

noncomputable def V.isD : Nat → V → Bool
  | _, .none => true
  | _, .int _ => true
  | _, .str _ => true
  | n + 1, .tup xs => xs.all (V.isD n)
  | n + 1, .list xs => xs.all (V.isD n)
  | _, _ => false

section
variable {B : Keep} {h : Heap}
theorem reads_all_gen {n : Nat} (ih : ∀ {v : Value} {x : V}, RelV B v x → x.isD n = true → ∃ as, Reads h v x.toD as) : ∀ {xs : List V} {vs : List Value}, RelVs B vs xs → (∀ x ∈ xs, x.isD n = true) → ∃ as, ReadsAll h vs (toDs xs) as
  | [], _, r, _ => by cases r; exact ⟨_, ReadsAll.nil⟩
  | x :: xs, _, r, hk' => by
    cases r with | cons hd r => ?_
    obtain ⟨as, q⟩ := ih hd (hk' _ (.head _))
    obtain ⟨bs, p⟩ := reads_all_gen ih r fun d hm => hk' d (.tail _ hm)
    exact ⟨_, ReadsAll.cons q p⟩
theorem reads_of (hk : ∀ a o, B a = some o → h.get? a = some o) : ∀ (n : Nat) {v : Value} {x : V}, RelV B v x → x.isD n = true → ∃ as, Reads h v x.toD as := by
  intro n
  induction n with
  | zero =>
    intro v x r hd
    cases r with
    | none => exact ⟨_, Reads.none⟩
    | int i t => exact ⟨_, Reads.int i t⟩
    | str x t _ => exact ⟨_, Reads.str x t⟩
    | _ => simp [V.isD] at hd
  | succ n ih =>
    intro v x r hd
    cases r with
    | none => exact ⟨_, Reads.none⟩
    | int i t => exact ⟨_, Reads.int i t⟩
    | str x t _ => exact ⟨_, Reads.str x t⟩
    | tup hb r =>
      obtain ⟨as, q⟩ := reads_all_gen ih r (by simpa [V.isD] using hd)
      exact ⟨_, Reads.tuple (hk _ _ hb) rfl rfl q⟩
    | list hb r =>
      obtain ⟨as, q⟩ := reads_all_gen ih r (by simpa [V.isD] using hd)
      exact ⟨_, Reads.list (hk _ _ hb) rfl rfl q⟩
    | _ => simp [V.isD] at hd
theorem reads_all_of (hk : ∀ a o, B a = some o → h.get? a = some o) (n : Nat) {vs : List Value} {xs : List V} (r : RelVs B vs xs) (hd : ∀ x ∈ xs, x.isD n = true) : ∃ as, ReadsAll h vs (toDs xs) as :=
  reads_all_gen (reads_of hk n) r hd

theorem lay_all_gen {n : Nat} (ih : ∀ {v : Value} {x : V}, RelV B v x → x.isD n = true → x.toD.canLay0 = true ∧ x.toD.depth ≤ n) : ∀ {xs : List V} {vs : List Value}, RelVs B vs xs → (∀ x ∈ xs, x.isD n = true) → PyData.canLayAll0 (toDs xs) = true ∧ PyData.depthAll (toDs xs) ≤ n
  | [], _, r, _ => by simp [toDs, PyData.canLayAll0, PyData.depthAll]
  | x :: xs, _, r, hk' => by
    cases r with | cons hd r => ?_
    have h1 := ih hd (hk' _ (.head _))
    have h2 := lay_all_gen ih r fun d hm => hk' d (.tail _ hm)
    simp only [toDs, PyData.canLayAll0, PyData.depthAll, h1.1, h2.1, Bool.and_self, true_and]
    have a1 := h1.2
    have a2 := h2.2
    omega
theorem lay_of : ∀ (n : Nat) {v : Value} {x : V}, RelV B v x → x.isD n = true → x.toD.canLay0 = true ∧ x.toD.depth ≤ n := by
  intro n
  induction n with
  | zero =>
    intro v x r hd
    cases r with
    | none => simp [V.toD, PyData.canLay0, PyData.depth]
    | int i t => simp [V.toD, PyData.canLay0, PyData.depth]
    | str x t k => simp [V.toD, PyData.canLay0, PyData.depth, k]
    | _ => simp [V.isD] at hd
  | succ n ih =>
    intro v x r hd
    cases r with
    | none => simp [V.toD, PyData.canLay0, PyData.depth]
    | int i t => simp [V.toD, PyData.canLay0, PyData.depth]
    | str x t k => simp [V.toD, PyData.canLay0, PyData.depth, k]
    | tup hb r =>
      have q := lay_all_gen ih r (by simpa [V.isD] using hd)
      have q2 := q.2
      simp only [V.toD, PyData.canLay0, PyData.depth, q.1, true_and]
      omega
    | list hb r =>
      have q := lay_all_gen ih r (by simpa [V.isD] using hd)
      have q2 := q.2
      simp only [V.toD, PyData.canLay0, PyData.depth, q.1, true_and]
      omega
    | _ => simp [V.isD] at hd
theorem lay_all_of (n : Nat) {vs : List Value} {xs : List V} (r : RelVs B vs xs) (hd : ∀ x ∈ xs, x.isD n = true) : PyData.canLayAll0 (toDs xs) = true ∧ PyData.depthAll (toDs xs) ≤ n :=
  lay_all_gen (lay_of n) r hd
end

theorem isD_view {n : Nat} {x : V} (h : x.isD n = true) : x = .none ∨ (∃ i, x = .int i) ∨ (∃ s, x = .str s) ∨ (∃ m xs, n = m + 1 ∧ x = .tup xs ∧ ∀ y ∈ xs, V.isD m y = true) ∨ ∃ m xs, n = m + 1 ∧ x = .list xs ∧ ∀ y ∈ xs, V.isD m y = true := by
  cases x with
  | none => exact .inl rfl
  | int i => exact .inr (.inl ⟨i, rfl⟩)
  | str s => exact .inr (.inr (.inl ⟨s, rfl⟩))
  | tup xs =>
    cases n with
    | zero => rw [V.isD] at h <;> simp_all
    | succ m => exact .inr (.inr (.inr (.inl ⟨m, xs, rfl, rfl, List.all_eq_true.mp h⟩)))
  | list xs =>
    cases n with
    | zero => rw [V.isD] at h <;> simp_all
    | succ m => exact .inr (.inr (.inr (.inr ⟨m, xs, rfl, rfl, List.all_eq_true.mp h⟩)))
  | bool b => rw [V.isD] at h <;> simp_all
  | inst a b => rw [V.isD] at h <;> simp_all
  | ref a => rw [V.isD] at h <;> simp_all
  | raw a => rw [V.isD] at h <;> simp_all
theorem eqv_iff : ∀ (n : Nat) (d e : V) (k : Nat), d.isD n = true → e.isD k = true → (PyData.eqv d.toD e.toD = true ↔ d = e) := by
  have all : ∀ (n : Nat), (∀ d e k, V.isD n d = true → V.isD k e = true → (PyData.eqv d.toD e.toD = true ↔ d = e)) → ∀ (k : Nat) (ds es : List V), (∀ d ∈ ds, V.isD n d = true) → (∀ d ∈ es, V.isD k d = true) →
      (PyData.eqvAll (toDs ds) (toDs es) = true ↔ ds = es) := by
    intro n ih k ds
    induction ds with
    | nil => intro es _ _; cases es <;> simp [toDs, PyData.eqvAll]
    | cons d ds hi =>
      intro es h1 h2
      cases es with
      | nil => simp [toDs, PyData.eqvAll]
      | cons e es =>
        have q1 := ih d e k (h1 d (.head _)) (h2 e (.head _))
        have q2 := hi es (fun x hx => h1 x (.tail _ hx)) fun x hx => h2 x (.tail _ hx)
        simp only [toDs, PyData.eqvAll, Bool.and_eq_true, q1, q2, List.cons.injEq]
  intro n
  induction n using Nat.strongRecOn with | ind n ih => ?_
  intro d e k h1 h2
  have i1 := isD_view h1
  have i2 := isD_view h2
  clear h1 h2
  rcases i1 with rfl | ⟨i, rfl⟩ | ⟨s, rfl⟩ | ⟨m, xs, rfl, rfl, h1⟩ | ⟨m, xs, rfl, rfl, h1⟩ <;> rcases i2 with rfl | ⟨i', rfl⟩ | ⟨s', rfl⟩ | ⟨m', xs', rfl, rfl, h2⟩ | ⟨m', xs', rfl, rfl, h2⟩
  all_goals first | (clear ih; simp only [V.toD, PyData.eqv, reduceCtorEq, Bool.false_eq_true]; done) | skip
  · clear ih; simp [V.toD, PyData.eqv]
  · clear ih; simp [V.toD, PyData.eqv]
  · simp only [V.toD, PyData.eqv, V.tup.injEq]
    exact all m (ih m (Nat.lt_succ_self _)) m' xs xs' h1 h2
  · simp only [V.toD, PyData.eqv, V.list.injEq]
    exact all m (ih m (Nat.lt_succ_self _)) m' xs xs' h1 h2

open Classical in
noncomputable def inV (x : V) (xs : List V) : Bool := decide (x ∈ xs)
open Classical in
noncomputable def eqV (x y : V) : Bool := decide (x = y)
theorem inV_iff {x : V} {xs : List V} : inV x xs = true ↔ x ∈ xs := by simp [inV]
theorem eqV_iff {x y : V} : eqV x y = true ↔ x = y := by simp [eqV]
theorem inV_false {x : V} {xs : List V} : inV x xs = false ↔ x ∉ xs := by simp [inV]
theorem any_eqv {k n : Nat} {x : V} {xs : List V} (hx : x.isD k = true) (hxs : ∀ y ∈ xs, y.isD n = true) : (toDs xs).any (fun y => PyData.eqv y x.toD) = inV x xs := by
  rw [toDs_map, Bool.eq_iff_iff, inV_iff]
  simp only [List.any_eq_true, List.mem_map]
  constructor
  · rintro ⟨_, ⟨y, hy, rfl⟩, e⟩
    rw [← (eqv_iff n y x k (hxs y hy) hx).mp e]; exact hy
  · exact fun hm => ⟨_, ⟨x, hm, rfl⟩, (eqv_iff n x x k (hxs x hm) hx).mpr rfl⟩

section
variable {F : Fx} {n : Nat} {loc : Loc} {H : Hp}

noncomputable def asL (H : Hp) : V → Option (List V)
  | .list xs => some xs
  | .ref a => H.L a
  | _ => none
theorem asL_at {B : Keep} {s : Shared} (R : FRel F B loc H s) {v : Value} {X : V} {xs : List V} (r : RelV B v X) (e : asL H X = some xs) : ∃ a items m, v = .ref a ∧ IsL s.heap a items m ∧ RelVs B items.toList xs := by
  cases r with
  | list hb r => cases e; exact ⟨_, _, _, rfl, R.keep _ _ hb, r⟩
  | ref a => obtain ⟨i, m, q, z⟩ := (R.own a).l xs e; exact ⟨_, _, _, rfl, q, z⟩
  | _ => cases e

theorem Ok.u (ok : Ok F n) {k : Nat} (hk : k ≤ 40 * n + 200) : F.A.units + k < cLine := by have := ok.units; omega

theorem Cmp_in (ok : Ok F n) {X Y : V} {xs : List V} {Q : Bool → Loc → Hp → Prop} (e : asL H Y = some xs) (hx : X.isD 20 = true) (hxs : ∀ y ∈ xs, y.isD 20 = true) (q : Q (inV X xs) loc H) : Cmp F .In X Y loc H Q := fun B s a b R ra rb => by
  obtain ⟨l, items, m, rfl, hl, hr⟩ := asL_at R rb e
  obtain ⟨as, h1⟩ := reads_of R.keep 20 ra hx
  obtain ⟨bs, h2⟩ := reads_all_of R.keep 20 hr hxs
  have l1 := lay_of 20 ra hx
  have l2 := lay_all_of 20 hr hxs
  refine SeqAt.in_list_reads (Reads.list hl rfl rfl h2) h1 l2.1 l1.1 ?_ ?_
  · have := ok.u (k := 30) (by omega)
    have := l1.2; have := l2.2; omega
  · rw [any_eqv hx hxs]; exact Post.pure rfl R q
theorem Cmp_notIn (ok : Ok F n) {X Y : V} {xs : List V} {Q : Bool → Loc → Hp → Prop} (e : asL H Y = some xs) (hx : X.isD 20 = true) (hxs : ∀ y ∈ xs, y.isD 20 = true) (q : Q (!inV X xs) loc H) : Cmp F .NotIn X Y loc H Q := fun B s a b R ra rb => by
  obtain ⟨l, items, m, rfl, hl, hr⟩ := asL_at R rb e
  obtain ⟨as, h1⟩ := reads_of R.keep 20 ra hx
  obtain ⟨bs, h2⟩ := reads_all_of R.keep 20 hr hxs
  have l1 := lay_of 20 ra hx
  have l2 := lay_all_of 20 hr hxs
  refine SeqAt.notIn_list_reads (Reads.list hl rfl rfl h2) h1 l2.1 l1.1 ?_ ?_
  · have := ok.u (k := 30) (by omega)
    have := l1.2; have := l2.2; omega
  · rw [any_eqv hx hxs]; exact Post.pure rfl R q

noncomputable def asD (H : Hp) : V → V
  | .ref a => match H.L a with | some xs => .list xs | none => .ref a
  | x => x
theorem asD_reads {B : Keep} {s : Shared} (R : FRel F B loc H s) {v : Value} {X : V} {k : Nat} (r : RelV B v X) (hd : (asD H X).isD k = true) : ∃ as, Reads s.heap v (asD H X).toD as ∧ (asD H X).toD.canLay0 = true ∧ (asD H X).toD.depth ≤ k := by
  have gen : ∀ {Y}, RelV B v Y → Y.isD k = true → ∃ as, Reads s.heap v Y.toD as ∧ Y.toD.canLay0 = true ∧ Y.toD.depth ≤ k := fun ry hy =>
    let ⟨as, q⟩ := reads_of R.keep k ry hy; ⟨as, q, lay_of k ry hy⟩
  cases r with
  | ref a =>
    unfold asD at hd ⊢
    cases e : H.L a with
    | none =>
      simp only [e] at hd ⊢
      exact gen (.ref a) hd
    | some xs =>
      simp only [e] at hd ⊢
      obtain ⟨i, m, q, z⟩ := (R.own a).l xs e
      cases k with
      | zero => simp [V.isD] at hd
      | succ k =>
        have hd' : ∀ x ∈ xs, x.isD k = true := by simpa [V.isD] using hd
        obtain ⟨as, q2⟩ := reads_all_of R.keep k z hd'
        have l2 := lay_all_of k z hd'
        refine ⟨_, Reads.list q rfl rfl q2, ?_, ?_⟩
        · simp [V.toD, PyData.canLay0, l2.1]
        · have := l2.2
          simp only [V.toD, PyData.depth]; omega
  | none => exact gen .none hd
  | bool b => exact gen (.bool b) hd
  | int i t => exact gen (.int i t) hd
  | str x t z => exact gen (.str x t z) hd
  | tup a b => exact gen (.tup a b) hd
  | list a b => exact gen (.list a b) hd
  | inst a b c d => exact gen (.inst a b c d) hd
  | raw v => exact gen (.raw v) hd
theorem Cmp_eq (ok : Ok F n) {X Y : V} {Q : Bool → Loc → Hp → Prop} (hx : (asD H X).isD 20 = true) (hy : (asD H Y).isD 20 = true) (q : Q (eqV (asD H X) (asD H Y)) loc H) : Cmp F .Eq X Y loc H Q := fun B s a b R ra rb => by
  obtain ⟨as, h1, c1, d1⟩ := asD_reads R ra hx
  obtain ⟨bs, h2, c2, d2⟩ := asD_reads R rb hy
  refine SeqAt.compareEq_reads h1 h2 c1 c2 (by have := ok.u (k := 30) (by omega); omega) ?_
  have : PyData.eqv (asD H X).toD (asD H Y).toD = eqV (asD H X) (asD H Y) := by rw [Bool.eq_iff_iff, eqV_iff]; exact eqv_iff 20 _ _ 20 hx hy
  rw [this]; exact Post.pure rfl R q
theorem Cmp_ne (ok : Ok F n) {X Y : V} {Q : Bool → Loc → Hp → Prop} (hx : (asD H X).isD 20 = true) (hy : (asD H Y).isD 20 = true) (q : Q (!eqV (asD H X) (asD H Y)) loc H) : Cmp F .NotEq X Y loc H Q := fun B s a b R ra rb => by
  obtain ⟨as, h1, c1, d1⟩ := asD_reads R ra hx
  obtain ⟨bs, h2, c2, d2⟩ := asD_reads R rb hy
  refine SeqAt.compareNe_reads h1 h2 c1 c2 (by have := ok.u (k := 30) (by omega); omega) ?_
  have : PyData.eqv (asD H X).toD (asD H Y).toD = eqV (asD H X) (asD H Y) := by rw [Bool.eq_iff_iff, eqV_iff]; exact eqv_iff 20 _ _ 20 hx hy
  rw [this]; exact Post.pure rfl R q

theorem Op_add {i j : Int} {Q : V → Loc → Hp → Prop} (q : Q (.int (i + j)) loc H) : Op2 F (binaryOp .Add) (.int i) (.int j) loc H Q := fun B s a b R ra rb => by
  cases ra; cases rb; exact PySem.P.add_int (Post.pure (.int _ _) (R.tok _) q)
theorem Op_sub {i j : Int} {Q : V → Loc → Hp → Prop} (q : Q (.int (i - j)) loc H) : Op2 F (binaryOp .Sub) (.int i) (.int j) loc H Q := fun B s a b R ra rb => by
  cases ra; cases rb; exact PySem.P.sub_int (Post.pure (.int _ _) (R.tok _) q)
theorem Op_isub {i j : Int} {Q : V → Loc → Hp → Prop} (q : Q (.int (i - j)) loc H) : Op2 F (inplaceOp .Sub) (.int i) (.int j) loc H Q := fun B s a b R ra rb => by
  cases ra; cases rb; exact PySem.P.isub_int (Post.pure (.int _ _) (R.tok _) q)
end
end Lay
end
noncomputable section
open PySem PySem.W PyProof.Rows PySem.Calls
set_option Elab.async false
set_option maxRecDepth 100000
set_option linter.all false
namespace Lay
section
variable {F : Fx} {n : Nat} {loc : Loc} {H : Hp}

theorem Op_mod {i j : Int} {Q : V → Loc → Hp → Prop} (hj : 0 < j) (q : Q (.int (i % j)) loc H) : Op2 F (binaryOp .Mod) (.int i) (.int j) loc H Q := fun B s a b R ra rb => by
  cases ra; cases rb
  refine PyProof.Rows.mod_int' (by omega) (Post.pure ?_ (R.tok _) q)
  rw [Int.fmod_eq_emod_of_nonneg _ (by omega)]
  exact .int _ _
theorem Op_fdiv {i j : Int} {Q : V → Loc → Hp → Prop} (hj : 0 < j) (hs : j < 1000000000) (q : Q (.int (i / j)) loc H) : Op2 F (binaryOp .FloorDiv) (.int i) (.int j) loc H Q := fun B s a b R ra rb => by
  cases ra; cases rb
  refine PySem.AutoIntOps.floordiv_1 (by simp; omega) (by rw [PyProof.noPylong_small (by omega)]; simp) ?_
  show Post F RelV B Q (.int (i.fdiv j) s.toks) { s with toks := s.toks + 1 }
  rw [Int.fdiv_eq_ediv_of_nonneg _ (by omega)]
  exact Post.pure (.int _ _) (R.tok _) q

theorem Cmp_gt {i j : Int} {Q : Bool → Loc → Hp → Prop} (q : Q (decide (i > j)) loc H) : Cmp F .Gt (.int i) (.int j) loc H Q := fun B s a b R ra rb => by
  cases ra; cases rb; exact PySem.P.gt_int (Post.pure rfl R q)
theorem Cmp_ge {i j : Int} {Q : Bool → Loc → Hp → Prop} (q : Q (decide (i ≥ j)) loc H) : Cmp F .GtE (.int i) (.int j) loc H Q := fun B s a b R ra rb => by
  cases ra; cases rb; exact PySem.P.ge_int (Post.pure rfl R q)
theorem Cmp_eqi {i j : Int} {Q : Bool → Loc → Hp → Prop} (q : Q (decide (i = j)) loc H) : Cmp F .Eq (.int i) (.int j) loc H Q := fun B s a b R ra rb => by
  cases ra; cases rb; exact PySem.P.eq_int (Post.pure rfl R q)
theorem Cmp_nei {i j : Int} {Q : Bool → Loc → Hp → Prop} (q : Q (!decide (i = j)) loc H) : Cmp F .NotEq (.int i) (.int j) loc H Q := fun B s a b R ra rb => by
  cases ra; cases rb; exact PySem.P.ne_int (Post.pure rfl R q)
theorem Cmp_eqs {x y : Str} {Q : Bool → Loc → Hp → Prop} (q : Q (decide (x = y)) loc H) : Cmp F .Eq (.str x) (.str y) loc H Q := fun B s a b R ra rb => by
  cases ra; cases rb; exact PyProof.Rows.eq_str (Post.pure rfl R q)
theorem Cmp_nes {x y : Str} {Q : Bool → Loc → Hp → Prop} (q : Q (!decide (x = y)) loc H) : Cmp F .NotEq (.str x) (.str y) loc H Q := fun B s a b R ra rb => by
  cases ra; cases rb; exact PyProof.Rows.ne_str (Post.pure rfl R q)

noncomputable def WEs (F : Fx) (pos : Pos) (es : List Expr) (loc : Loc) (H : Hp) (Q : List V → Loc → Hp → Prop) : Prop := ∀ B s, FRel F B loc H s → PW F (spliced (backTo pos (starEach es F.env))) RelVs B s Q
theorem WEs_nil {pos : Pos} {Q : List V → Loc → Hp → Prop} (q : Q [] loc H) : WEs F pos [] loc H Q := fun B s R => spliced_nil (Post.pure .nil R q)
theorem WEs_cons {pos : Pos} {e : Expr} {rest : List Expr} {Q : List V → Loc → Hp → Prop} (h : WE F e loc H fun X l1 H1 => WEs F pos rest l1 H1 fun Xs l2 H2 => Q (X :: Xs) l2 H2)
    (he : starEach (e :: rest) F.env = (false, eval e F.env) :: starEach rest F.env := by rfl) : WEs F pos (e :: rest) loc H Q := fun B s R => by
  rw [he]
  exact spliced_cons ((h B s R).then fun a B1 X l1 H1 s1 le1 ra R1 h1 => (h1 B1 s1 R1).then fun b B2 Xs l2 H2 s2 le2 rb R2 q => (Post.pure (.cons (ra.mono le2) rb) R2 q).lift (le1.trans le2))

noncomputable def Hp.Fresh (H : Hp) (a : Addr) : Prop := ¬ H.Own a
theorem PW_newList {vs : List Value} {xs : List V} {B : Keep} {s : Shared} {P : Value → Shared → Prop} (R : FRel F B loc H s) (r : RelVs B vs xs) (hz : xs.length ≤ 1000000)
    (h : ∀ a s', H.Fresh a → FRel F B loc { H with L := up H.L a xs } s' → P (.ref a) s') : wpAny F.M F.A (newList vs) P F.E s := by
  refine wpAny_newObj_type (h s.heap.objs.size _ (R.fresh_H (R.fresh (Nat.le_refl _)).1) (R.newL (items := vs.toArray) (n := 0) (Nat.le_refl _) (fun b o e => Heap.get?_push_of_some _ e) (Heap.get?_push_size _ rfl) (by simpa using r) rfl rfl)) ?_
  show vs.toArray.size ≤ sizeLine
  rw [List.size_toArray, r.length, sizeLine_eq]; omega
theorem WE_List {es : List Expr} {pos : Pos} {Q : V → Loc → Hp → Prop} (h : WEs F pos es loc H fun Xs l1 H1 => Xs.length ≤ 1000000 ∧ ∀ a, H1.Fresh a → Q (.ref a) l1 { H1 with L := up H1.L a Xs }) : WE F (.List es pos) loc H Q := fun B s R =>
  PyProof.Rows.List_ ((h B s R).then fun a B1 Xs l1 H1 s1 le1 ra R1 q => PW_newList R1 ra q.1 fun a s' hf R' => (Post.pure (.ref a) R' (q.2 a hf)).lift le1)
theorem PW_newTuple {vs : List Value} {xs : List V} {B : Keep} {s : Shared} {P : Value → Shared → Prop} (R : FRel F B loc H s) (r : RelVs B vs xs) (hz : xs.length ≤ 1000000)
    (h : ∀ v s' B', Le B B' → RelV B' v (.tup xs) → FRel F B' loc H s' → P v s') : wpAny F.M F.A (newTuple vs) P F.E s := by
  have z := R.hold (s' := { s with heap := s.heap.push (tupObj vs.toArray 0) }) (a := s.heap.objs.size) (o := tupObj vs.toArray 0) (Nat.le_refl _) (fun b o e => Heap.get?_push_of_some _ e) (Heap.get?_push_size _ rfl) rfl rfl
  refine wpAny_newObj_type (h _ _ _ z.2.1 (.tup z.2.2 ?_) z.1) ?_
  · have := r.mono z.2.1
    simpa using this
  · show vs.toArray.size ≤ sizeLine
    rw [List.size_toArray, r.length, sizeLine_eq]; omega
theorem WE_Tuple {es : List Expr} {k : Nat} {pos : Pos} {Q : V → Loc → Hp → Prop} (h : WEs F pos es loc H fun Xs l1 H1 => Xs.length ≤ 1000000 ∧ Q (.tup Xs) l1 H1) : WE F (.Tuple es k pos) loc H Q := fun B s R =>
  PyProof.Rows.Tuple_ ((h B s R).then fun a B1 Xs l1 H1 s1 le1 ra R1 q => PW_newTuple R1 ra q.1 fun v s' B' le r R' => (Post.pure r R' q.2).lift (le1.trans le))

theorem Tru_bool {b : Bool} {Q : Bool → Loc → Hp → Prop} (q : Q b loc H) : Tru F (.bool b) loc H Q := fun B s a R ra => by
  cases ra; exact wpAny_truthy_bool (Post.pure rfl R q)
theorem Tru_none {Q : Bool → Loc → Hp → Prop} (q : Q false loc H) : Tru F .none loc H Q := fun B s a R ra => by
  cases ra; exact PyProof.Rows.truthy_none (Post.pure rfl R q)
theorem Tru_list {X : V} {xs : List V} {Q : Bool → Loc → Hp → Prop} (e : asL H X = some xs) (hz : xs.length ≤ 1000000) (q : Q (!xs.isEmpty) loc H) : Tru F X loc H Q := fun B s a R ra => by
  obtain ⟨l, items, m, rfl, hl, hr⟩ := asL_at R ra e
  have hlen := hr.length
  have hi : (!items.isEmpty) = (!xs.isEmpty) := by
    rw [Array.length_toList] at hlen
    cases xs with
    | nil => simp at hlen; simp [hlen]
    | cons x xs =>
      have : items.size ≠ 0 := by rw [hlen]; simp
      simp [Array.isEmpty, this]
  refine wpAny_truthy_list hl.isList ?_ ?_
  · rw [Array.length_toList] at hlen; rw [hlen]; omega
  · rw [hi]; exact Post.pure rfl (R.tok _) q
noncomputable def Call (F : Fx) (f : V) (Xs : List V) (loc : Loc) (H : Hp) (Q : V → Loc → Hp → Prop) : Prop :=
  ∀ B s v vs, FRel F B loc H s → RelV B v f → RelVs B vs Xs → PW F (call v vs) RelV B s Q
theorem Call_len {X : V} {xs : List V} {Q : V → Loc → Hp → Prop} (e : asL H X = some xs) (hz : xs.length ≤ 1000000) (q : Q (.int xs.length) loc H) : Call F (.raw (.builtin "len")) [X] loc H Q := fun B s v vs R rv rvs => by
  cases rv
  cases rvs with | cons ra r2 => ?_
  cases r2
  obtain ⟨l, items, m, rfl, hl, hr⟩ := asL_at R ra e
  have hlen := hr.length
  rw [Array.length_toList] at hlen
  refine PySem.Calls.call_len_list hl.isList (by rw [hlen]; omega) ?_
  rw [hlen]; exact Post.pure (.int _ _) (R.tok _) q
theorem Call_len_tup {xs : List V} {Q : V → Loc → Hp → Prop} (hz : xs.length ≤ 1000000) (q : Q (.int xs.length) loc H) : Call F (.raw (.builtin "len")) [.tup xs] loc H Q := fun B s v vs R rv rvs => by
  cases rv
  cases rvs with | cons ra r2 => ?_
  cases r2
  cases ra with | tup hb r => ?_
  have hlen := r.length
  rw [Array.length_toList] at hlen
  refine PyProof.Rows.len_tuple ⟨_, R.keep _ _ hb, rfl, _, rfl⟩ (by rw [hlen]; omega) ?_
  rw [hlen]; exact Post.pure (.int _ _) (R.tok _) q

noncomputable def Sub (F : Fx) (X Y : V) (loc : Loc) (H : Hp) (Q : V → Loc → Hp → Prop) : Prop :=
  ∀ B s o i, FRel F B loc H s → RelV B o X → RelV B i Y → SubscriptOn F.M F.A o i (Post F RelV B Q) F.E s

theorem WE_Subscript {value slice : Expr} {pos : Pos} {Q : V → Loc → Hp → Prop} (h : WE F value loc H fun X l1 H1 => WE F slice l1 H1 fun Y l2 H2 => Sub F X Y l2 H2 Q)
    (hs : ∀ o i, subscripted slice false o i = operate [o, i] (getItem o i) := by intro _ _; with_unfolding_all rfl) : WE F (.Subscript value slice pos) loc H Q := fun B s R => by
  show wpAny F.M F.A (eval (.Subscript value slice pos) F.env) _ _ _
  rw [eval_Subscript]
  refine wpAny_bind ((h B s R).then fun o B1 X l1 H1 s1 le1 ro R1 h1 => wpAny_bind (wpAny_holding ((h1 B1 s1 R1).then fun i B2 Y l2 H2 s2 le2 ri R2 h2 => wpAny_bind (wpAny_standAt ?_))))
  obtain ⟨T, id, hl, hT, hw⟩ := h2 B2 s2 o i R2 (ro.mono le2) ri
  rw [getitemInPython_of_ne hT.not_modules]
  refine wpAny_bind (wpAny_bind (wpAny_specialOf hT hl (wpAny_pure ?_)))
  show wpAny F.M F.A (subscripted slice false o i >>= _) _ _ _
  rw [hs]
  exact wpAny_bind (wpAny_operating (wpAny_mono hw (fun v s' p => wpAny_bind (wpAny_letTemporaryGo (wpAny_pure (p.lift (le1.trans le2))))) fun _ _ x => x))

theorem Sub_list {X : V} {xs : List V} {i : Int} {x : V} {Q : V → Loc → Hp → Prop} (e : asL H X = some xs) (h0 : 0 ≤ i) (hi : i < 1000000) (hx : xs[i.toNat]? = some x) (q : Q x loc H) : Sub F X (.int i) loc H Q := fun B s o j R ro rj => by
  cases rj
  obtain ⟨l, items, m, rfl, hl, hr⟩ := asL_at R ro e
  obtain ⟨v, e1, r⟩ := hr.get hx
  exact ⟨"list", _, list_getitem_lookup, hl.isList.typeIs, wpAny_getItem_list hl.isList h0 (by omega) (by simpa using e1) (Post.pure r R q)⟩
theorem Sub_list_neg {X : V} {xs : List V} {i : Int} {x : V} {Q : V → Loc → Hp → Prop} (e : asL H X = some xs) (h0 : i < 0) (h1 : -(xs.length : Int) ≤ i) (hi : -1000000 < i) (hx : xs[(i + xs.length).toNat]? = some x) (q : Q x loc H) : Sub F X (.int i) loc H Q := fun B s o j R ro rj => by
  cases rj
  obtain ⟨l, items, m, rfl, hl, hr⟩ := asL_at R ro e
  obtain ⟨v, e1, r⟩ := hr.get hx
  have hlen := hr.length
  rw [Array.length_toList] at hlen
  exact ⟨"list", _, list_getitem_lookup, hl.isList.typeIs, wpAny_getItem_list_neg hl.isList h0 (by rw [hlen]; exact h1) (by omega) (by rw [hlen]; simpa using e1) (Post.pure r R q)⟩
theorem Sub_tup {xs : List V} {i : Int} {x : V} {Q : V → Loc → Hp → Prop} (h0 : 0 ≤ i) (hi : i < 1000000) (hx : xs[i.toNat]? = some x) (q : Q x loc H) : Sub F (.tup xs) (.int i) loc H Q := fun B s o j R ro rj => by
  cases rj
  cases ro with | tup hb hr => ?_
  obtain ⟨v, e1, r⟩ := hr.get hx
  have ht : IsTup s.heap _ _ := ⟨_, R.keep _ _ hb, rfl, _, rfl⟩
  have hlen : i.toNat < _ := (List.getElem?_eq_some_iff.mp e1).1
  rw [Array.length_toList] at hlen
  exact ⟨"tuple", _, PySem.F.slot_tuple_getitem.lookup, ht.typeIs, PyProof.Rows.getItem_tuple ht (by omega) (by omega) (seqIndex_of h0 (by omega)) (by simpa using e1) (Post.pure r R q)⟩
end
end Lay
end
noncomputable section
open PySem PySem.W PyProof.Rows PySem.Calls
set_option Elab.async false
set_option maxRecDepth 100000
set_option linter.all false
namespace Lay

theorem bindL_eq {k : Str → Option NameKind} : ∀ (bs : List (Str × Value)) (m : Str → Option Value) (x : Str), (bs.map (·.1)).Nodup → k x = some .local → bindL k bs m x = (bs.lookup x).or (m x)
  | [], m, x, _, _ => rfl
  | (y, v) :: r, m, x, hn, hk => by
    rw [List.map_cons, List.nodup_cons] at hn
    unfold bindL
    rw [bindL_eq r _ x hn.2 hk, List.lookup_cons]
    cases e : x == y with
    | true =>
      obtain rfl := eq_of_beq e
      have : r.lookup x = none := by
        rw [List.lookup_eq_none_iff]
        intro p hp
        cases z : x == p.1 with
        | false => simp [bne, z]
        | true => exact absurd (List.mem_map.mpr ⟨p, hp, (eq_of_beq z).symm⟩) hn.1
      rw [this, if_pos hk]; simp
    | false =>
      have hne : x ≠ y := fun h => by rw [h] at e; simp at e
      split <;> simp [hne]
theorem bindC_eq {k : Str → Option NameKind} : ∀ (bs : List (Str × Value)) (m : Str → Option Value) (x : Str), (bs.map (·.1)).Nodup → k x ≠ some .local → bindC k bs m x = (bs.lookup x).or (m x)
  | [], m, x, _, _ => rfl
  | (y, v) :: r, m, x, hn, hk => by
    rw [List.map_cons, List.nodup_cons] at hn
    unfold bindC
    rw [bindC_eq r _ x hn.2 hk, List.lookup_cons]
    cases e : x == y with
    | true =>
      obtain rfl := eq_of_beq e
      have : r.lookup x = none := by
        rw [List.lookup_eq_none_iff]
        intro p hp
        cases z : x == p.1 with
        | false => simp [bne, z]
        | true => exact absurd (List.mem_map.mpr ⟨p, hp, (eq_of_beq z).symm⟩) hn.1
      rw [this, if_neg hk]; simp
    | false =>
      have hne : x ≠ y := fun h => by rw [h] at e; simp at e
      split <;> simp [hne]

noncomputable def initLoc (nm : List (Str × NameKind)) (bV : List (Str × V)) : Loc := nm.map fun p => if p.2 == .local then bV.lookup p.1 else none
noncomputable def addCells (H : Hp) (bV : List (Str × V)) : List (Str × Addr) → Hp
  | [] => H
  | (n, c) :: r => { addCells H bV r with C := up (addCells H bV r).C c (bV.lookup n) }

theorem RelKs.lookup {B : Keep} {bs : List (Str × Value)} {bV : List (Str × V)} {x : Str} (r : RelKs B bs bV) : relOpt B (bs.lookup x) (bV.lookup x) := by
  induction r with
  | nil => trivial
  | cons a _ q =>
    rw [List.lookup_cons, List.lookup_cons]
    cases x == _ with
    | true => exact a
    | false => exact q
theorem relKs_zip {B : Keep} : ∀ {pn : List Str} {vs : List Value} {xs : List V}, RelVs B vs xs → RelKs B (pn.zip vs) (pn.zip xs)
  | [], _, _, _ => by simp; exact .nil
  | p :: pn, _, _, .nil => by simp; exact .nil
  | p :: pn, _, _, .cons a r => by simp; exact .cons a (relKs_zip r)

theorem nm_at {nm : List (Str × NameKind)} {x : Str} {i : Nat} (h : slotOf nm x = some i) : ∃ k, nm[i]? = some (x, k) ∧ nm.lookup x = some k := by
  induction nm generalizing i with
  | nil => simp [slotOf] at h
  | cons p r ih =>
    obtain ⟨y, k⟩ := p
    unfold slotOf at h
    rw [List.findIdx?_cons] at h
    split at h
    · rename_i e
      cases h
      obtain rfl := eq_of_beq e
      exact ⟨k, by simp, by simp [List.lookup_cons]⟩
    · rename_i e
      obtain ⟨j, hj, he⟩ := Option.map_eq_some_iff.mp h
      subst he
      obtain ⟨k', h1, h2⟩ := ih hj
      refine ⟨k', by simpa using h1, ?_⟩
      have e' : (x == y) = false := by
        cases z : x == y with
        | false => rfl
        | true => exact absurd (by rw [eq_of_beq z]; exact beq_self_eq_true y) e
      rw [List.lookup_cons, e']; exact h2

theorem initLoc_ok {B : Keep} {nm : List (Str × NameKind)} {bs : List (Str × Value)} {bV : List (Str × V)} (r : RelKs B bs bV) (hn : (bs.map (·.1)).Nodup) :
    LocOk B nm (initLoc nm bV) (bindL (fun x => nm.lookup x) bs fun _ => none) := by
  intro x i X hx hl
  obtain ⟨k, h1, h2⟩ := nm_at hx
  unfold initLoc at hl
  rw [List.getElem?_map, h1] at hl
  simp only [Option.map_some, Option.some.injEq] at hl
  split at hl
  · rename_i hk
    obtain rfl := eq_of_beq hk
    rw [bindL_eq bs _ x hn h2]
    have q := r.lookup (x := x)
    rw [hl] at q
    cases e : bs.lookup x with
    | none => rw [e] at q; exact q.elim
    | some v => rw [e] at q; exact ⟨v, rfl, q⟩
  · cases hl

noncomputable def dropB (B : Keep) (a : Addr) : Keep := fun b => if b = a then none else B b
theorem dropB_ne {B : Keep} {a b : Addr} (h : b ≠ a) : dropB B a b = B b := by simp [dropB, h]
theorem dropB_map {B : Keep} {a : Addr} {o : Obj} {fl} (hB : B a = some o) (hd : o.data = .fields fl) : ∀ b p, B b = some p → (∀ fl, p.data ≠ .fields fl) → dropB B a b = some p := fun b p e hp => by
  rw [dropB_ne]
  · exact e
  · rintro rfl; rw [hB] at e; cases e; exact hp _ hd
theorem RelV.drop {B : Keep} {a : Addr} {o : Obj} {fl} (hB : B a = some o) (hd : o.data = .fields fl) {v : Value} {x : V} (r : RelV B v x) : RelV (dropB B a) v x := (Rel3.map (dropB_map hB hd)).1 v x r
theorem RelVs.drop' {B : Keep} {a : Addr} {o : Obj} {fl} (hB : B a = some o) (hd : o.data = .fields fl) {v : List Value} {x : List V} (r : RelVs B v x) : RelVs (dropB B a) v x := (Rel3.map (dropB_map hB hd)).2.1 v x r
theorem RelKs.drop {κ : Type} {B : Keep} {a : Addr} {o : Obj} {fl} (hB : B a = some o) (hd : o.data = .fields fl) {v : List (κ × Value)} {x : List (κ × V)} (r : RelKs B v x) : RelKs (dropB B a) v x := by
  induction r with
  | nil => exact .nil
  | cons a _ q => exact .cons (a.drop hB hd) q
theorem relOpt.drop {B : Keep} {a : Addr} {o : Obj} {fl} (hB : B a = some o) (hd : o.data = .fields fl) {v x} (r : relOpt B v x) : relOpt (dropB B a) v x := by
  cases v <;> cases x <;> first | exact trivial | exact r.elim | exact RelV.drop hB hd r
theorem LocOk.drop {B : Keep} {a : Addr} {o : Obj} {fl} (hB : B a = some o) (hd : o.data = .fields fl) {nm loc m} (x : LocOk B nm loc m) : LocOk (dropB B a) nm loc m :=
  fun y i X p q => let ⟨v, e, r⟩ := x y i X p q; ⟨v, e, r.drop hB hd⟩

noncomputable abbrev Base.sv (c : Base) (l : List (Addr × Obj)) : Base := { c with saved := l }
theorem OwnAt.sv {c : Base} {B : Keep} {h : Heap} {H : Hp} {a : Addr} {l : List (Addr × Obj)} (x : OwnAt c B h H a) : OwnAt (c.sv l) B h H a := ⟨x.out, x.l, x.d, x.p, x.s, x.i, x.c, x.dp, x.g⟩
theorem OwnAt.unsv {c : Base} {B : Keep} {h : Heap} {H : Hp} {a : Addr} {l : List (Addr × Obj)} (x : OwnAt (c.sv l) B h H a) : OwnAt c B h H a := ⟨x.out, x.l, x.d, x.p, x.s, x.i, x.c, x.dp, x.g⟩

section
variable {c : Base} {L L' : Addr} {nm nm' : List (Str × NameKind)} {B : Keep} {loc loc' : Loc} {H : Hp} {s : Shared}

theorem OwnAt.drop {h : Heap} {a b : Addr} {o : Obj} {fl} (hB : B a = some o) (hd : o.data = .fields fl) (x : OwnAt c B h H b) : OwnAt c (dropB B a) h H b where
  out := fun q => ⟨by unfold dropB; split; rfl; exact (x.out q).1, (x.out q).2⟩
  l := fun xs e => (x.l xs e).imp fun _ => Exists.imp fun _ h => ⟨h.1, h.2.drop' hB hd⟩
  d := fun kvs e => (x.d kvs e).imp id (Exists.imp fun _ h => ⟨h.1, h.2.drop hB hd⟩)
  p := fun ks e => (x.p ks e).imp fun _ => Exists.imp fun _ => Exists.imp fun _ => Exists.imp fun _ h => ⟨h.1, h.2.1, h.2.2.1, h.2.2.2.1, h.2.2.2.2.1, h.2.2.2.2.2.1, fun y hy => (h.2.2.2.2.2.2 y hy).drop hB hd⟩
  s := x.s
  i := x.i
  c := fun ov e => (x.c ov e).imp fun _ => Exists.imp fun _ h => ⟨h.1, h.2.1, h.2.2.drop hB hd⟩
  dp := x.dp
  g := x.g

theorem Rel.dropIt (R : Rel c L nm B loc H s) {a : Addr} {o : Obj} {fl} (hB : B a = some o) (hd : o.data = .fields fl) (hb : c.lo a = none) {s' : Shared} (hk : ∀ b o, b ≠ a → s.heap.get? b = some o → s'.heap.get? b = some o)
    (hg : s'.gens = s.gens) (ho : s'.os = s.os) : Rel c L nm (dropB B a) loc H s' where
  keep := fun b p e => by
    unfold dropB at e; split at e; cases e
    rename_i hne
    exact hk _ _ hne (R.keep _ _ e)
  based := ⟨R.based.1, fun b p e => by
    rw [dropB_ne]; exact R.based.2 _ _ e
    rintro rfl; rw [hb] at e; cases e⟩
  own := fun b => by
    by_cases hw : H.Own b
    · have hne : b ≠ a := by rintro rfl; rw [((R.own b).out hw).1] at hB; cases hB
      exact ((R.own b).drop hB hd).mono (Le.refl _) (fun p => hk b p hne) fun h => (((R.own b).drop hB hd).out h).1
    · obtain ⟨d1, d2, d3, d4, d5, d6⟩ := not_own hw
      refine ⟨fun h => absurd h hw, ?_, ?_, ?_, ?_, ?_, ?_, fun _ => d3, fun ep e => ?_⟩
      · intro y hy; rw [d1] at hy; cases hy
      · intro y hy; rw [d2] at hy; cases hy
      · intro y hy; rw [d3] at hy; cases hy
      · intro y hy; rw [d4] at hy; cases hy
      · intro y hy; rw [d5] at hy; cases hy
      · intro y hy; rw [d6] at hy; cases hy
      · exact absurd (.inr (.inl ((R.own b).g ep e).1)) hw
  lB := by unfold dropB; split; rfl; exact R.lB
  lH := R.lH
  ns := by
    obtain ⟨m, ⟨oL, es, ep, q, z⟩, l⟩ := R.ns
    refine ⟨m, ⟨oL, es, ep, hk _ _ ?_ q, z⟩, l.drop hB hd⟩
    rintro rfl; rw [R.lB] at hB; cases hB
  gens := hg.trans R.gens
  os := ho.trans R.os
  lim := R.lim
  sv := fun p hp => by
    obtain ⟨⟨ob, x1, y1⟩, x2, x3, x4⟩ := R.sv p hp
    refine ⟨⟨ob, hk _ _ (by rintro rfl; rw [x2] at hB; cases hB) x1, y1⟩, ?_, x3, x4⟩
    unfold dropB; split; rfl; exact x2

theorem Rel.back {m : Str → Option Value} {oL : Obj} (R : Rel (c.sv ((L, oL) :: c.saved)) L' nm' B loc' H s) (hs : ∀ p ∈ c.saved, p.1 ≠ L)
    (hn : s.heap.Ns L m) (hl : LocOk B nm loc m) : Rel c L nm B loc H s where
  keep := R.keep
  based := R.based
  own := fun a => (R.own a).unsv
  lB := (R.sv _ (.head _)).2.1
  lH := (R.sv _ (.head _)).2.2.1
  ns := ⟨m, hn, hl⟩
  gens := R.gens
  os := R.os
  lim := R.lim
  sv := fun p hp => let ⟨x1, x2, x3, _⟩ := R.sv p (.tail _ hp); ⟨x1, x2, x3, hs p hp⟩

theorem Rel.into {s' : Shared} {m' : Str → Option Value} {oL : Obj} (R : Rel c L nm B loc H s) (hL : s.heap.get? L = some oL) (hk : ∀ b o, s.heap.get? b = some o → s'.heap.get? b = some o) (hf : s.heap.objs.size ≤ L')
    (hn : s'.heap.Ns L' m') (hl : LocOk B nm' loc' m') (hg : s'.gens = s.gens) (ho : s'.os = s.os) : Rel (c.sv ((L, oL) :: c.saved)) L' nm' B loc' H s' where
  keep := fun a o e => hk _ _ (R.keep _ _ e)
  based := R.based
  own := fun a => ((R.own a).mono (Le.refl _) (hk a) fun h => ((R.own a).out h).1).sv
  lB := R.fresh_B (R.fresh hf).1
  lH := R.fresh_H (R.fresh hf).1
  ns := ⟨m', hn, hl⟩
  gens := hg.trans R.gens
  os := ho.trans R.os
  lim := R.lim
  sv := fun p hp => by
    cases hp with
    | head _ => exact ⟨⟨_, hk _ _ hL, .inl ⟨rfl, fun _ => rfl⟩⟩, R.lB, R.lH, fun e => (R.fresh_L (R.fresh hf).1) e.symm⟩
    | tail _ hp =>
      obtain ⟨⟨ob, x1, y1⟩, x2, x3, x4⟩ := R.sv p hp
      exact ⟨⟨ob, hk _ _ x1, y1⟩, x2, x3, by intro e; rw [e, (R.fresh hf).1] at x1; cases x1⟩

theorem Rel.adoptC (R : Rel c L nm B loc H s) {a : Addr} {ov : Option V} {v : Option Value} (hB : B a = none) (hO : ¬ H.Own a) (hL : a ≠ L) (hS : ∀ p ∈ c.saved, p.1 ≠ a) (hlim : c.lim < a) (hc : s.heap.IsCell a v) (r : relOpt B v ov) :
    Rel c L nm B loc { H with C := up H.C a ov } s := by
  obtain ⟨o, ho, hd⟩ := hc
  obtain ⟨d0, d1, d2, d3, d4, d5⟩ := not_own hO
  refine R.chg hB hL hS (fun b o _ e => e) (fun b hb => ⟨rfl, rfl, rfl, rfl, rfl, up_same _ _ _ hb, rfl⟩) ⟨fun _ => ⟨hB, hlim⟩, ?_, ?_, ?_, ?_, ?_, ?_, fun _ => d2, fun ep e => absurd (.inr (.inl ((R.own a).g ep e).1)) hO⟩ rfl rfl
  · intro y hy; rw [d0] at hy; cases hy
  · intro y hy; rw [d1] at hy; cases hy
  · intro y hy; rw [d2] at hy; cases hy
  · intro y hy; rw [d3] at hy; cases hy
  · intro y hy; rw [d4] at hy; cases hy
  · intro y hy
    simp only [up_self, Option.some.injEq] at hy
    subst hy; exact ⟨_, _, ho, hd, r⟩

theorem addCells_own {bV : List (Str × V)} : ∀ {cs : List (Str × Addr)} {a : Addr}, (addCells H bV cs).Own a → H.Own a ∨ ∃ n, (n, a) ∈ cs
  | [], a, h => .inl h
  | (n, c) :: r, a, h => by
    by_cases e : a = c
    · subst e; exact .inr ⟨n, .head _⟩
    · have : (addCells H bV r).Own a := by
        have h' : Hp.Own { addCells H bV r with C := up (addCells H bV r).C c (bV.lookup n) } a := h
        unfold Hp.Own at h' ⊢
        simpa only [up_ne e] using h'
      rcases addCells_own this with h | ⟨m, h⟩
      · exact .inl h
      · exact .inr ⟨m, .tail _ h⟩
theorem Rel.adopts {bV : List (Str × V)} {cm : Str → Option Value} (R : Rel c L nm B loc H s) : ∀ {cs : List (Str × Addr)}, (∀ n a, (n, a) ∈ cs → B a = none ∧ ¬ H.Own a ∧ a ≠ L ∧ (∀ p ∈ c.saved, p.1 ≠ a) ∧ c.lim < a ∧ s.heap.IsCell a (cm n) ∧ relOpt B (cm n) (bV.lookup n)) →
    cs.Pairwise (fun x y => x.2 ≠ y.2) → Rel c L nm B loc (addCells H bV cs) s
  | [], _, _ => R
  | (n, a) :: r, h, hp => by
    rw [List.pairwise_cons] at hp
    obtain ⟨h1, h2, h3, hS, h4, h5, h6⟩ := h n a (.head _)
    refine Rel.adoptC (R.adopts (fun m b hm => h m b (.tail _ hm)) hp.2) h1 (fun q => ?_) h3 hS h4 h5 h6
    rcases addCells_own q with q | ⟨m, q⟩
    · exact h2 q
    · exact hp.1 _ q rfl
end

section
variable {F : Fx} {n : Nat} {loc : Loc} {H : Hp}

noncomputable def retV : Fl → V
  | .ret x => x
  | _ => .none

structure Fn (b : Heap) (f : Addr) (fd : FuncData) (body : List Stmt) : Prop where
  at_ : ∃ o, b.get? f = some o ∧ o.data = .func fd
  nolim : b.NoLimit
  code : b.CodeRec fd.code fd.qualname
  body : fd.body = .stmts body
  clo : fd.closure = []
  nd : (fd.scope.names.map (·.1)).Nodup
  glob : fd.globals = mainGlobals
  bi : fd.builtins = builtinsNs
  kind : fd.scope.kind = .function
  co : fd.scope.isCoroutine = false
  gen : fd.scope.isGenerator = false
  dbg : fd.scope.names.lookup ("__debug__" : Str) = none

theorem cellsFrom_mem : ∀ {names : List (Str × NameKind)} {k : Nat} {acc : List (Str × Addr)} {x : Str}, ((x, NameKind.cell) ∈ names ∨ ∃ a, (x, a) ∈ acc) → ((cellsFrom k names acc).lookup x).isSome = true
  | [], k, acc, x, h => by
    rcases h with h | ⟨a, h⟩
    · cases h
    · unfold cellsFrom
      cases e : acc.lookup x with
      | some _ => rfl
      | none =>
        rw [List.lookup_eq_none_iff] at e
        have := e _ h
        simp at this
  | (y, kd) :: r, k, acc, x, h => by
    unfold cellsFrom
    split
    · refine cellsFrom_mem ?_
      rcases h with h | ⟨a, h⟩
      · cases h with
        | head _ => exact .inr ⟨k, .head _⟩
        | tail _ h => exact .inl h
      · exact .inr ⟨a, .tail _ h⟩
    · rename_i hk
      refine cellsFrom_mem ?_
      rcases h with h | ⟨a, h⟩
      · cases h with
        | head _ => exact absurd rfl hk
        | tail _ h => exact .inl h
      · exact .inr ⟨a, h⟩

theorem lookup_mem {nm : List (Str × NameKind)} {x : Str} {k : NameKind} (h : nm.lookup x = some k) : (x, k) ∈ nm := by
  induction nm with
  | nil => cases h
  | cons p r ih =>
    obtain ⟨y, k'⟩ := p
    rw [List.lookup_cons] at h
    cases e : x == y with
    | true => rw [e] at h; cases h; obtain rfl := eq_of_beq e; exact .head _
    | false => rw [e] at h; exact .tail _ (ih h)

theorem cellsFrom_keys : ∀ (names : List (Str × NameKind)) (k : Nat) (acc : List (Str × Addr)), (cellsFrom k names acc).map (·.1) = ((names.filter (·.2 == .cell)).map (·.1)).reverse ++ acc.map (·.1)
  | [], k, acc => rfl
  | (y, kd) :: r, k, acc => by
    unfold cellsFrom
    split
    · rename_i h
      rw [cellsFrom_keys r, List.filter_cons]
      simp [h]
    · rename_i h
      rw [cellsFrom_keys r, List.filter_cons]
      simp [h]
theorem lookup_of_mem {α : Type} : ∀ {l : List (Str × α)} {n : Str} {a : α}, (l.map (·.1)).Nodup → (n, a) ∈ l → l.lookup n = some a
  | (m, b) :: r, n, a, hn, h => by
    rw [List.map_cons, List.nodup_cons] at hn
    rw [List.lookup_cons]
    cases h with
    | head _ => simp
    | tail _ h =>
      have : (n == m) = false := by
        cases e : n == m with
        | false => rfl
        | true => exact absurd (List.mem_map.mpr ⟨_, h, eq_of_beq e⟩) hn.1
      rw [this]; exact lookup_of_mem hn.2 h

theorem code_call_cells {prog : Program} {w : World} {A : Around} {s : Shared} {R : Result → Shared → Prop} {a : Addr} {o : Obj} {fd : FuncData} {body : List Stmt} {args : Args} {binds : List (Str × Value)}
    (hroom : A.depth < recursionLimit) (ho : s.heap.get? a = some o) (hdata : o.data = .func fd) (hlim : s.heap.NoLimit) (hcd : s.heap.CodeRec fd.code fd.qualname)
    (hbody : fd.body = .stmts body) (hbind : Looks (model prog w) s.heap (bindArgs fd args) binds) (hclo : fd.closure = [])
    (hkind : ∀ x ∈ binds, fd.scope.names.lookup x.1 = some .local ∨ (fd.scope.names.lookup x.1 = some .cell ∧ ((cellsFrom (s.heap.objs.size + 1) fd.scope.names []).lookup x.1).isSome = true))
    (h : ∀ s₁, InCallC s (callEnvC fd s.heap.objs.size a).locals (bindL (callEnvC fd s.heap.objs.size a).kindOf binds fun _ => none) (callEnvC fd s.heap.objs.size a).cells
        (bindC (callEnvC fd s.heap.objs.size a).kindOf binds fun _ => none) s₁ →
      wpAny (model prog w) (A.deeper (callEnvC fd s.heap.objs.size a)) (execs body (callEnvC fd s.heap.objs.size a)) (fun f s' => R (.ok (.ret (match f with | .ret v => v | _ => .none))) s')
        (fun e s' => wpAny (model prog w) (A.deeper (callEnvC fd s.heap.objs.size a)) (leaving (callEnvC fd s.heap.objs.size a) e) (fun _ s'' => R (.error e) s'') (fun e' s'' => R (.error e') s'') s') s₁)
    (hco : fd.scope.isCoroutine = false) (hgen : fd.scope.isGenerator = false) (hk : fd.scope.kind = .function) :
    codeAny (model prog w) A (.call (.ref a) args) R s := by
  refine codeAny_call_function hroom ho hdata hco hgen hbody hcd ?_
  rw [hclo]
  refine hbind.here (wpAny_newFunctionEnv_cells hk hkind fun env he s' x => ?_)
  subst he
  exact ⟨hlim.keeps x.toInCall.keep, codeAny_func (h s' x)⟩

noncomputable abbrev Fx.callE (F : Fx) (R : Result → Shared → Prop) (env : Env) : Value → Shared → Prop := fun e s' => wpAny F.M (F.A.deeper env) (leaving env e) (fun _ s'' => R (.error e) s'') (fun e' s'' => R (.error e') s'') s'

noncomputable abbrev Fx.svd (F : Fx) (l : List (Addr × Obj)) : Fx := { F with c := F.c.sv l }
noncomputable def WSsx (F : Fx) (sv' : List (Addr × Obj)) (st : List Stmt) (loc : Loc) (H : Hp) (Q : Fl → Loc → Hp → Prop) : Prop := ∀ B s, FRel F B loc H s → wpAny F.M F.A (execs st F.env) (Post (F.svd sv') RelF B Q) F.E s
noncomputable abbrev Fx.into (F : Fx) (RR : Result → Shared → Prop) (fd : FuncData) (f : Addr) (oL : Obj) (L : Addr) : Fx := ⟨F.c.sv ((F.L, oL) :: F.c.saved), F.A.deeper (callEnvC fd L f), callEnvC fd L f, F.callE RR (callEnvC fd L f)⟩
theorem Code_defG (ok : Ok F (n + 1)) {f : Addr} {fd : FuncData} {body : List Stmt} {kws : List Str} {Xs Ws : List V} {bV : List (Str × V)} {RR : Result → Shared → Prop} (W : Fn F.c.base f fd body) {sv' : List (Addr × Obj)} (hsv : ∀ p ∈ sv', ∃ q ∈ F.c.saved, q.1 = p.1)
    (hbind : ∀ (vs ws : List Value) (B : Keep), RelVs B vs Xs → RelVs B ws Ws → Le (fun a => F.c.base.get? a) B → ∃ bs, Looks F.M F.c.base (bindArgs fd ⟨vs, kws.zip ws⟩) bs ∧ RelKs B bs bV)
    (hnd : (bV.map (·.1)).Nodup) (hloc : ∀ x ∈ bV.map (·.1), fd.scope.names.lookup x = some .local ∨ fd.scope.names.lookup x = some .cell)
    {B : Keep} {s : Shared} {vs ws : List Value} (R : FRel F B loc H s) (rvs : RelVs B vs Xs) (rws : RelVs B ws Ws)
    (h : ∀ oL L s₁, Ok (F.into RR fd f oL L) n → Top (F.into RR fd f oL L) → (∀ x c, (x, c) ∈ cellsFrom (L + 1) fd.scope.names [] → H.Fresh c) → FRel (F.into RR fd f oL L) B (initLoc fd.scope.names bV) (addCells H bV (cellsFrom (L + 1) fd.scope.names [])) s₁ →
      (∀ B2 l2 H2 s2, Le B B2 → FRel ((F.into RR fd f oL L).svd ((F.L, oL) :: sv')) B2 l2 H2 s2 → FRel (F.svd sv') B2 loc H2 s2) →
      wpAny F.M (F.A.deeper (callEnvC fd L f)) (execs body (callEnvC fd L f)) (fun fl s' => ∀ v, (∀ B2 b, RelF B2 fl b → RelV B2 v (retV b)) → RR (.ok (.ret v)) s') (F.callE RR (callEnvC fd L f)) s₁) :
    codeAny F.M F.A (.call (.ref f) ⟨vs, kws.zip ws⟩) RR s := by
  obtain ⟨o, ho, hd⟩ := W.at_
  obtain ⟨mL, ⟨oL, esL, epL, hL, hdL, hkL⟩, hlL⟩ := R.ns
  obtain ⟨bs, hb, hks⟩ := hbind vs ws B rvs rws (base_le R)
  have hkey := hks.keys
  refine code_call_cells (by have := ok.depth; omega) (R.inBase ho) hd (W.nolim.keeps fun b o e => R.inBase e) (W.code.keeps fun b o e => R.inBase e) W.body (hb.keeps fun b o e => R.inBase e) W.clo ?_ (fun s₁ X => ?_) W.co W.gen W.kind
  · intro x hx
    have hm : x.1 ∈ bV.map (·.1) := by rw [← hkey]; exact List.mem_map.mpr ⟨_, hx, rfl⟩
    rcases hloc _ hm with h1 | h1
    · exact .inl h1
    · exact .inr ⟨h1, cellsFrom_mem (.inl (lookup_mem h1))⟩
  · obtain ⟨⟨hh, tk, rfl⟩, hns, hkeep, hfr⟩ := X.toInCall
    have hnd' : (bs.map (·.1)).Nodup := by rw [hkey]; exact hnd
    have ok' : Ok (F.into RR fd f oL s.heap.objs.size) n := by
      refine ⟨W.kind, W.glob, W.bi, W.dbg, ?_, ?_, fun _ => ok.handled (by omega), ?_⟩
      · have := ok.units
        show F.A.units + 3 + 40 * n + 200 < cLine
        omega
      · have := ok.depth
        show F.A.depth + 1 + 4 * n + 4 < recursionLimit
        omega
      · obtain ⟨fl, h1, h2⟩ := ok.fr
        refine ⟨callEnvC fd s.heap.objs.size f :: fl, by show F.A.frames.map _ = _; rw [h1]; rfl, fun e he => ?_⟩
        cases he with
        | head _ => exact ⟨(by show fd.scope.kind ≠ .module; rw [W.kind]; intro h; cases h), .inl rfl⟩
        | tail _ he =>
          obtain ⟨g1, g2⟩ := h2 e he
          refine ⟨g1, .inr ?_⟩
          rcases g2 with g2 | ⟨p, hp, g2⟩
          · exact ⟨_, .head _, g2, esL, epL, hdL⟩
          · exact ⟨p, .tail _ hp, g2⟩
    have top' : Top (F.into RR fd f oL s.heap.objs.size) := by
      obtain ⟨fl, h1, h2⟩ := ok.fr
      exact ⟨fl, by show F.A.frames.map _ = _; rw [h1]; rfl, rfl⟩
    have R1 : Rel (F.c.sv ((F.L, oL) :: F.c.saved)) s.heap.objs.size fd.scope.names B (initLoc fd.scope.names bV) H ⟨hh, s.gens, s.drawn, tk, s.os⟩ :=
      R.into (s' := ⟨hh, s.gens, s.drawn, tk, s.os⟩) hL hkeep (Nat.le_refl _) hns (initLoc_ok hks hnd') rfl rfl
    have fr : ∀ n a, (n, a) ∈ cellsFrom (s.heap.objs.size + 1) fd.scope.names [] → s.heap.objs.size < a := fun n a hm => X.above n a hm
    have R2 := R1.adopts (bV := bV) (cm := bindC (fun x => fd.scope.names.lookup x) (bs) fun _ => none) (cs := cellsFrom (s.heap.objs.size + 1) fd.scope.names []) (fun n a hm => by
      have ha := fr n a hm
      have hfa := R.fresh (Nat.le_of_lt ha)
      refine ⟨R.fresh_B hfa.1, R.fresh_H hfa.1, Nat.ne_of_gt ha, ?_, hfa.2, ?_, ?_⟩
      · intro p hp e
        cases hp with
        | head _ => exact R.fresh_L hfa.1 e.symm
        | tail _ hp => obtain ⟨ob, h1, _⟩ := (R.sv p hp).1; rw [e, hfa.1] at h1; cases h1
      · have hk := cellsFrom_keys fd.scope.names (s.heap.objs.size + 1) []
        have hnd2 : ((cellsFrom (s.heap.objs.size + 1) fd.scope.names []).map (·.1)).Nodup := by
          rw [hk]
          simp only [List.map_nil, List.append_nil]
          exact (List.reverse_perm _).nodup_iff.mpr ((List.Sublist.map _ List.filter_sublist).nodup W.nd)
        exact X.cell n a (lookup_of_mem hnd2 hm)
      · have hk := cellsFrom_keys fd.scope.names (s.heap.objs.size + 1) []
        have hm2 : n ∈ (cellsFrom (s.heap.objs.size + 1) fd.scope.names []).map (·.1) := List.mem_map.mpr ⟨_, hm, rfl⟩
        rw [hk] at hm2
        simp only [List.map_nil, List.append_nil, List.mem_reverse, List.mem_map, List.mem_filter] at hm2
        obtain ⟨⟨n', kd⟩, ⟨hm3, hm4⟩, rfl⟩ := hm2
        have hm5 : kd = NameKind.cell := eq_of_beq hm4
        subst hm5
        have hlk := lookup_of_mem W.nd hm3
        rw [bindC_eq _ _ _ hnd' (by rw [hlk]; simp)]
        simp only [Option.or_none]
        exact hks.lookup) X.apart
    refine wpAny_mono (h _ _ _ ok' top' (fun x c hm => R.fresh_H (R.fresh (Nat.le_of_lt (fr x c hm))).1) R2 fun B2 l2 H2 s2 le2 R3 => ?_) (fun fl s' p => ?_) fun _ _ x => x
    · obtain ⟨oL', hL', hd'⟩ := (R3.sv _ (.head _)).1
      exact Rel.back (c := F.c.sv sv') R3 (fun p hp => by
        obtain ⟨q, hq, e⟩ := hsv p hp
        rw [← e]; exact (R.sv q hq).2.2.2) ⟨oL', esL, epL, hL', (hd'.dict hdL).trans hdL, hkL⟩ (hlL.mono le2)
    · refine p _ fun B2 b rf => ?_
      cases rf with
      | next => exact .none
      | brk => exact .none
      | cont => exact .none
      | ret r => exact r

theorem Code_defX (ok : Ok F (n + 1)) {f : Addr} {fd : FuncData} {body : List Stmt} {kws : List Str} {Xs Ws : List V} {bV : List (Str × V)} {Q : V → Loc → Hp → Prop} {RR : Result → Shared → Prop} (W : Fn F.c.base f fd body) {sv' : List (Addr × Obj)} (hsv : ∀ p ∈ sv', ∃ q ∈ F.c.saved, q.1 = p.1)
    (hbind : ∀ (vs ws : List Value) (B : Keep), RelVs B vs Xs → RelVs B ws Ws → Le (fun a => F.c.base.get? a) B → ∃ bs, Looks F.M F.c.base (bindArgs fd ⟨vs, kws.zip ws⟩) bs ∧ RelKs B bs bV)
    (hnd : (bV.map (·.1)).Nodup) (hloc : ∀ x ∈ bV.map (·.1), fd.scope.names.lookup x = some .local ∨ fd.scope.names.lookup x = some .cell)
    (h : ∀ oL L, Ok ⟨F.c.sv ((F.L, oL) :: F.c.saved), F.A.deeper (callEnvC fd L f), callEnvC fd L f, F.callE RR (callEnvC fd L f)⟩ n → Top ⟨F.c.sv ((F.L, oL) :: F.c.saved), F.A.deeper (callEnvC fd L f), callEnvC fd L f, F.callE RR (callEnvC fd L f)⟩ → (∀ x c, (x, c) ∈ cellsFrom (L + 1) fd.scope.names [] → H.Fresh c) →
      WSsx ⟨F.c.sv ((F.L, oL) :: F.c.saved), F.A.deeper (callEnvC fd L f), callEnvC fd L f, F.callE RR (callEnvC fd L f)⟩ ((F.L, oL) :: sv') body (initLoc fd.scope.names bV) (addCells H bV (cellsFrom (L + 1) fd.scope.names [])) fun fl _ H' => Q (retV fl) loc H')
    {B : Keep} {s : Shared} {vs ws : List Value} (R : FRel F B loc H s) (rvs : RelVs B vs Xs) (rws : RelVs B ws Ws) (hR : ∀ v s', Post (F.svd sv') RelV B Q v s' → RR (.ok (.ret v)) s') :
    codeAny F.M F.A (.call (.ref f) ⟨vs, kws.zip ws⟩) RR s := by
  refine Code_defG ok W hsv hbind hnd hloc R rvs rws fun oL L s₁ ok' tp' hf R1 bk => ?_
  refine wpAny_mono (h oL L ok' tp' hf _ _ R1) (fun fl s' p v hv => ?_) fun _ _ x => x
  obtain ⟨B2, b, l2, H2, le2, rf, R3, q⟩ := p
  exact hR _ _ ⟨B2, retV b, loc, H2, le2, hv _ _ rf, bk _ _ _ _ le2 R3, q⟩

theorem Code_def (ok : Ok F (n + 1)) {f : Addr} {fd : FuncData} {body : List Stmt} {kws : List Str} {Xs Ws : List V} {bV : List (Str × V)} {Q : V → Loc → Hp → Prop} {RR : Result → Shared → Prop} (W : Fn F.c.base f fd body)
    (hbind : ∀ (vs ws : List Value) (B : Keep), RelVs B vs Xs → RelVs B ws Ws → Le (fun a => F.c.base.get? a) B → ∃ bs, Looks F.M F.c.base (bindArgs fd ⟨vs, kws.zip ws⟩) bs ∧ RelKs B bs bV)
    (hnd : (bV.map (·.1)).Nodup) (hloc : ∀ x ∈ bV.map (·.1), fd.scope.names.lookup x = some .local ∨ fd.scope.names.lookup x = some .cell)
    (h : ∀ sv L, Ok ⟨F.c.sv sv, F.A.deeper (callEnvC fd L f), callEnvC fd L f, F.callE RR (callEnvC fd L f)⟩ n → Top ⟨F.c.sv sv, F.A.deeper (callEnvC fd L f), callEnvC fd L f, F.callE RR (callEnvC fd L f)⟩ → (∀ x c, (x, c) ∈ cellsFrom (L + 1) fd.scope.names [] → H.Fresh c) →
      WSs ⟨F.c.sv sv, F.A.deeper (callEnvC fd L f), callEnvC fd L f, F.callE RR (callEnvC fd L f)⟩ body (initLoc fd.scope.names bV) (addCells H bV (cellsFrom (L + 1) fd.scope.names [])) fun fl _ H' => Q (retV fl) loc H')
    {B : Keep} {s : Shared} {vs ws : List Value} (R : FRel F B loc H s) (rvs : RelVs B vs Xs) (rws : RelVs B ws Ws) (hR : ∀ v s', Post F RelV B Q v s' → RR (.ok (.ret v)) s') :
    codeAny F.M F.A (.call (.ref f) ⟨vs, kws.zip ws⟩) RR s :=
  Code_defX ok W (sv' := F.c.saved) (fun p hp => ⟨p, hp, rfl⟩) hbind hnd hloc (fun oL L ok' tp hf => h _ L ok' tp hf) R rvs rws hR

noncomputable abbrev Fx.plainR (F : Fx) (Q : Value → Shared → Prop) : Result → Shared → Prop := fun r s' => match r with | .ok (.ret v) => Q v s' | .ok _ => False | .error e => F.E e s'
end
end Lay
end
noncomputable section
open PySem PySem.W PyProof.Rows PySem.Calls
set_option Elab.async false
set_option maxRecDepth 100000
set_option linter.all false
namespace Lay

noncomputable def dget {α : Type} (kvs : List (Str × α)) (k : Str) : Option α := (kvs.find? fun kv => kv.1 = k).map (·.2)
noncomputable def dput {α : Type} (kvs : List (Str × α)) (k : Str) (x : α) : List (Str × α) :=
  if kvs.any (fun kv => kv.1 = k) then kvs.map (fun kv => if kv.1 = k then (kv.1, x) else kv) else kvs ++ [(k, x)]
theorem find_map_ne {α : Type} {k k' : Str} {x : α} (h : ¬ k = k') : ∀ r : List (Str × α), ((r.map fun kv => if kv.1 = k then (kv.1, x) else kv).find? fun kv => kv.1 = k').map (·.2) = (r.find? fun kv => kv.1 = k').map (·.2)
  | [] => rfl
  | (a, b) :: r => by
    rw [List.map_cons, List.find?_cons, List.find?_cons]
    by_cases h4 : a = k
    · subst h4
      simp only [if_true, decide_eq_false h]
      exact find_map_ne h r
    · simp only [if_neg h4]
      by_cases h3 : a = k'
      · simp only [decide_eq_true h3]
      · simp only [decide_eq_false h3]
        exact find_map_ne h r
theorem dget_dput {α : Type} (kvs : List (Str × α)) (k k' : Str) (x : α) : dget (dput kvs k x) k' = if k' = k then some x else dget kvs k' := by
  unfold dput
  split
  · rename_i h
    by_cases e : k' = k
    · subst e
      rw [if_pos rfl]
      induction kvs with
      | nil => simp at h
      | cons p r ih =>
        obtain ⟨y, z⟩ := p
        unfold dget at ih ⊢
        rw [List.map_cons, List.find?_cons]
        by_cases h1 : y = k'
        · subst h1; simp
        · simp only [if_neg h1, decide_eq_false h1]
          exact ih (by simpa [h1] using h)
    · rw [if_neg e]
      exact find_map_ne (fun z => e z.symm) kvs
  · rename_i h
    have hn : ∀ p ∈ kvs, p.1 ≠ k := fun p hp e => h (List.any_eq_true.mpr ⟨p, hp, by simpa using e⟩)
    unfold dget
    rw [List.find?_append]
    by_cases e : k' = k
    · subst e
      have : kvs.find? (fun kv => decide (kv.1 = k')) = none := by
        rw [List.find?_eq_none]; intro p hp; simpa using hn p hp
      simp [this]
    · have e' : ¬ k = k' := fun z => e z.symm
      cases kvs.find? (fun kv => decide (kv.1 = k')) <;> simp [e, e']
theorem dput_length {α : Type} (kvs : List (Str × α)) (k : Str) (x : α) : (dput kvs k x).length ≤ kvs.length + 1 := by
  unfold dput; split <;> simp
theorem dput_new {α : Type} {kvs : List (Str × α)} {k : Str} {x : α} (h : dget kvs k = none) : dput kvs k x = kvs ++ [(k, x)] := by
  unfold dput
  rw [if_neg]
  intro hh
  obtain ⟨p, hp, e⟩ := List.any_eq_true.mp hh
  unfold dget at h
  simp only [Option.map_eq_none_iff, List.find?_eq_none] at h
  exact h p hp e
section
variable {B : Keep}
theorem RelKs.any {cs : List (Str × Value)} {kvs : List (Str × V)} (h : RelKs B cs kvs) (k : Str) : cs.any (fun kv => kv.1 = k) = kvs.any (fun kv => kv.1 = k) := by
  induction h with
  | nil => rfl
  | cons _ _ ih => simp [ih]
theorem RelKs.stored {cs : List (Str × Value)} {kvs : List (Str × V)} {k : Str} {v : Value} {X : V} (h : RelKs B cs kvs) (r : RelV B v X) : RelKs B (stored cs k v) (dput kvs k X) := by
  unfold PySem.stored dput
  rw [h.any k]
  split
  · rename_i hx
    clear hx
    induction h with
    | nil => exact .nil
    | cons a t ih =>
      simp only [List.map_cons]
      split
      · exact .cons r ih
      · exact .cons a ih
  · exact h.append (.cons r .nil)
theorem RelKs.get {cs : List (Str × Value)} {kvs : List (Str × V)} {k : Str} (h : RelKs B cs kvs) : relOpt B (valueAt cs k) (dget kvs k) := by
  induction h with
  | nil => trivial
  | @cons k' v x vs xs a t ih =>
    unfold valueAt dget at ih ⊢
    simp only [List.find?_cons]
    by_cases e : k' = k
    · simp [e]; exact a
    · simp only [e, decide_false]; exact ih
end

theorem isStr_eq (v : Value) (x : Str) : v.isStr x = Value.isStrOf x v := by cases v <;> rfl

theorem strKind_is {prog : Program} {w : World} (x : Str) (t : Tok) : (PySem.strKind prog w).is x (.str x t) = true := by simp [PySem.strKind, Value.isStrOf]

section
variable {F : Fx} {n : Nat} {loc : Loc} {H : Hp}

noncomputable def KeepOk (F : Fx) (f : V) (loc : Loc) (H : Hp) : Prop := ∀ B s v, FRel F B loc H s → RelV B v f → ∃ k, ∀ Q : Keeper → Shared → Prop, Q k s → wpAny F.M F.A (keeperOf v) Q F.E s
theorem KeepOk_raw {v : Value} (h : ∀ a, v ≠ .ref a) : KeepOk F (.raw v) loc H := fun B s v' R r => by
  cases r
  refine ⟨.machine, fun Q q => ?_⟩
  unfold keeperOf
  cases v <;> first | exact wpAny_pure q | exact absurd rfl (h _)
theorem KeepOk_base {K : Frag} (hK : K.In F.c.base) {a : Addr} (e : keepIn K (.ref a) = true) : KeepOk F (.ref a) loc H := fun B s v' R r => by
  cases r
  obtain ⟨k, _, h⟩ := looks_keep (M := F.M) e (h := s.heap) (fun a o q => R.inBase (hK a o q))
  exact ⟨k, fun Q q => h _ _ _ s (fun _ _ e => e) q⟩

theorem callWith_gen {M : Model} {A : Around} {E : Value → Shared → Prop} {s : Shared} {pos : Pos} {f : Value} {first : List Value} {args : List (Bool × Sem Value)} {Q : Value → Shared → Prop} (hplain : args.any (·.1) = false)
    (h : wpAny M A (evalArgs f true args []) (fun a s₁ => (∃ k, ∀ Q' : Keeper → Shared → Prop, Q' k s₁ → wpAny M A (keeperOf f) Q' E s₁) ∧ wpAny M A (call f (first ++ a.pos) a.kw) Q E s₁) E s) :
    wpAny M A (callWith pos f first args []) Q E s := by
  unfold callWith
  refine wpAny_bind (wpAny_holding (wpAny_mono h (fun x s₁ h₁ => wpAny_bind (wpAny_standAt ?_)) fun _ _ x => x))
  obtain ⟨⟨k, hk⟩, hc⟩ := h₁
  have tail : ∀ {t : Sem Value}, wpAny M A t Q E s₁ → wpAny M A (t >>= fun r => holding [r] point >>= fun _ => pure r) Q E s₁ :=
    fun ht => wpAny_bind (wpAny_mono ht (fun r s₂ hr => wpAny_bind (wpAny_holding (wpAny_point (wpAny_pure hr)))) fun _ _ x => x)
  simp only [hplain, List.any_nil, Bool.or_false]
  refine wpAny_bind (m := keeperOf f) (hk _ ?_)
  cases k
  · dsimp only
    split
    · exact tail hc
    · exact tail (Calls.wpAny_keep hc)
  · dsimp only
    split
    · exact tail hc
    · exact tail (Calls.wpAny_keep hc)
  · exact tail hc
  · exact tail (wpAny_operating hc)

theorem evalArgs_gen {M : Model} {A : Around} {E : Value → Shared → Prop} {s : Shared} {f : Value} {args : List (Bool × Sem Value)} {Q : Args → Shared → Prop} (hplain : args.any (·.1) = false)
    (h : wpAny M A (spliced args) (fun vs s' => Q ⟨vs, []⟩ s') E s) : wpAny M A (evalArgs f true args []) Q E s := by
  cases args with
  | nil =>
    unfold evalArgs
    show wpAny M A (spliced [] >>= _) Q E s
    refine wpAny_bind (wpAny_mono h (fun vs s' h' => ?_) fun _ _ x => x)
    refine wpAny_holding ?_
    exact wpAny_bind (wpAny_pure (wpAny_bind (wpAny_pure (wpAny_pure h'))))
  | cons p r =>
    obtain ⟨b, x⟩ := p
    simp only [List.any_cons, Bool.or_eq_false_iff] at hplain
    obtain ⟨rfl, _⟩ := hplain
    exact evalArgs_plain h

theorem WE_CallN {x : Str} {np pos : Pos} {args : List Expr} {Q : V → Loc → Hp → Prop}
    (h : WE F (.Name x np) loc H fun f l1 H1 => WEs F pos args l1 H1 fun Xs l2 H2 => KeepOk F f l2 H2 ∧ Call F f Xs l2 H2 Q)
    (hns : (backTo pos (starEach args F.env)).any (·.1) = false := by rfl) : WE F (.Call (.Name x np) args [] pos) loc H Q := fun B s R =>
  wpAny_Call_ofName ((h B s R).then fun f B1 X l1 H1 s1 le1 rf R1 h1 => callWith_gen hns (evalArgs_gen hns ((h1 B1 s1 R1).then fun vs B2 Xs l2 H2 s2 le2 rv R2 h2 =>
    ⟨h2.1 B2 s2 f R2 (rf.mono le2), (h2.2 B2 s2 f vs R2 (rf.mono le2) rv).lift (le1.trans le2)⟩)))

noncomputable def MGet (F : Fx) (name : Str) (X : V) (loc : Loc) (H : Hp) (Q : V → List V → Loc → Hp → Prop) : Prop :=
  ∀ B s v pl, FRel F B loc H s → RelV B v X → PW F (getMethod v name pl) (fun B (p : Value × List Value) (q : V × List V) => RelV B p.1 q.1 ∧ RelVs B p.2 q.2) B s fun q => Q q.1 q.2

theorem WE_CallM {o : Expr} {name : Str} {apos pos : Pos} {args : List Expr} {Q : V → Loc → Hp → Prop}
    (h : WE F o loc H fun X l1 H1 => MGet F name X l1 H1 fun f Fs l2 H2 => WEs F pos args l2 H2 fun Xs l3 H3 => KeepOk F f l3 H3 ∧ Call F f (Fs ++ Xs) l3 H3 Q)
    (hbase : attributeBase o name F.env (eval o F.env) = eval o F.env := by rfl)
    (hfew : methodCallForm (args.length + ([] : List Keyword).length) (backTo pos (starEach args F.env)) (backToKw pos (keywordEach [] F.env)) = true := by rfl)
    (hline : (apos.endLine == pos.line) = true := by rfl)
    (hns : (backTo pos (starEach args F.env)).any (·.1) = false := by rfl) : WE F (.Call (.Attribute o name apos) args [] pos) loc H Q := fun B s R => by
  show wpAny F.M F.A (eval (.Call (.Attribute o name apos) args [] pos) F.env) _ _ _
  rw [arm_eval_Call, hbase]
  refine wpAny_bind ((h B s R).then fun v B1 X l1 H1 s1 le1 rv R1 h1 => wpAny_bind (wpAny_standAt ?_))
  show wpAny _ _ (methodCall o name apos pos F.env v _ _ _) _ _ _
  unfold methodCall
  rw [hfew]
  refine wpAny_bind (wpAny_holding ?_)
  show wpAny _ _ (getMethod v name _) _ _ _
  refine (h1 B1 s1 v _ R1 rv).then fun p B2 q l2 H2 s2 le2 rq R2 h2 => ?_
  have hp : methodCallPos true o F.env apos pos = pure pos := by unfold methodCallPos; rw [hline]; rfl
  obtain ⟨f, fs⟩ := p
  dsimp only
  refine wpAny_bind ?_
  rw [hp]
  refine wpAny_pure ?_
  refine callWith_gen hns (evalArgs_gen hns ((h2 B2 s2 R2).then fun vs B3 Xs l3 H3 s3 le3 rv' R3 h3 =>
    ⟨h3.1 B3 s3 f R3 (rq.1.mono le3), (h3.2 B3 s3 f _ R3 (rq.1.mono le3) ((rq.2.mono le3).append rv')).lift (le1.trans (le2.trans le3))⟩))

theorem MGet_slot {T : String} {name : Str} {id : String} {X : V} {Q : V → List V → Loc → Hp → Prop} (pa : PlainAttrs T) (slot : Slot T name id) (hty : typeOf (.builtin id) = pure (.type "method_descriptor"))
    (hT : ∀ B s v, FRel F B loc H s → RelV B v X → s.TypeIs v T ∧ (∀ a, v = .ref a → ∃ ob, s.heap.get? a = some ob ∧ ob.dict = none)) (q : Q (.raw (.builtin id)) [X] loc H) : MGet F name X loc H Q := fun B s v pl R r => by
  obtain ⟨h1, h2⟩ := hT B s v R r
  exact getMethod_builtin h1 pa slot hty h2 (Post.pure (b := (V.raw (.builtin id), [X])) ⟨.raw _, .cons r .nil⟩ R q)
theorem list_type {X : V} {xs : List V} (e : asL H X = some xs) : ∀ B s v, FRel F B loc H s → RelV B v X → s.TypeIs v "list" ∧ (∀ a, v = .ref a → ∃ ob, s.heap.get? a = some ob ∧ ob.dict = none) := fun B s v R r => by
  obtain ⟨l, items, m, rfl, hl, hr⟩ := asL_at R r e
  exact ⟨hl.isList.typeIs, fun a e => by cases e; exact ⟨_, hl, rfl⟩⟩
theorem MGet_append {X : V} {xs : List V} {Q : V → List V → Loc → Hp → Prop} (e : asL H X = some xs) (q : Q (.raw (.builtin "list.append")) [X] loc H) : MGet F "append" X loc H Q :=
  MGet_slot PySem.F.plainAttrs_list PySem.F.slot_list_append PySem.F.type_list_append (list_type e) q

theorem Call_append {a : Addr} {xs : List V} {Y : V} {Q : V → Loc → Hp → Prop} (e : H.L a = some xs) (hz : xs.length ≤ 1000000) (q : Q .none loc { H with L := up H.L a (xs ++ [Y]) }) :
    Call F (.raw (.builtin "list.append")) [.ref a, Y] loc H Q := fun B s v vs R rv rvs => by
  cases rv
  cases rvs with | cons ra r2 => ?_
  cases r2 with | cons ry r3 => ?_
  cases r3
  cases ra
  obtain ⟨items, m, hl, hr⟩ := (R.own a).l xs e
  have hlen := hr.length
  rw [Array.length_toList] at hlen
  rename_i vy
  have hz' : items.size ≤ sizeLine := by rw [hlen, sizeLine_eq]; omega
  refine call_meets PySem.F.slot_list_append (s := s) (self := .ref a) ⟨_, hl, rfl⟩ PySem.F.entry_list_append (PySem.F.args_list_append_2 _ _) (list_append a items m vy hz') ⟨hl, ?_⟩
  refine Post.pure .none (R.setL e (fun b o hb h => (Heap.get?_update_other _ _ (Ne.symm hb)).trans h) (hl.update _) ?_ rfl rfl) q
  simpa using hr.append (.cons ry .nil)
end
end Lay
end
noncomputable section
open PySem PySem.W PyProof.Rows PySem.Calls
set_option Elab.async false
set_option maxRecDepth 100000
set_option linter.all false
namespace Lay
section
variable {F : Fx} {n : Nat} {loc : Loc} {H : Hp}

noncomputable abbrev unitR : Keep → Unit → Unit → Prop := fun _ _ _ => True
noncomputable def WA (F : Fx) (t : Expr) (X : V) (loc : Loc) (H : Hp) (Q : Loc → Hp → Prop) : Prop := ∀ B s v, FRel F B loc H s → RelV B v X → PW F (assign t F.env v) unitR B s fun _ => Q
noncomputable def Set_ (F : Fx) (X Y Z : V) (loc : Loc) (H : Hp) (Q : Loc → Hp → Prop) : Prop := ∀ B s o i v, FRel F B loc H s → RelV B o X → RelV B i Y → RelV B v Z → PW F (setItem o i v) unitR B s fun _ => Q
noncomputable def SetA (F : Fx) (name : Str) (X Z : V) (loc : Loc) (H : Hp) (Q : Loc → Hp → Prop) : Prop := ∀ B s o v, FRel F B loc H s → RelV B o X → RelV B v Z → PW F (setAttr o name v) unitR B s fun _ => Q

theorem wpAny_release {M : Model} {A : Around} {E : Value → Shared → Prop} {s : Shared} {vs keep : List Value} {Q : Unit → Shared → Prop} (h : Q () s) : wpAny M A (release vs keep) Q E s :=
  fun Γ p hΓ => by rw [PySem.Sem.wp_release]; exact h

theorem WA_local (ok : Ok F n) {x : Str} {p : Pos} {i : Nat} {X : V} {Q : Loc → Hp → Prop} (hx : look F.nm x = some (i, .local)) (q : Q (loc.set i (some X)) H) : WA F (.Name x p) X loc H Q := fun B s v R r => by
  show wpAny F.M F.A (assign (.Name x p) F.env v) _ _ _
  rw [arm_assign_Name]
  exact wpAny_bind (wpAny_standAt (wpAny_bindName (PW_store ok hx R r fun s' R' => Post.pure (b := ()) trivial R' q)))
theorem WA_sub {o i : Expr} {p : Pos} {X : V} {Q : Loc → Hp → Prop} (h : WE F o loc H fun O l1 H1 => WE F i l1 H1 fun I l2 H2 => Set_ F O I X l2 H2 Q) : WA F (.Subscript o i p) X loc H Q := fun B s v R r => by
  show wpAny F.M F.A (assign (.Subscript o i p) F.env v) _ _ _
  rw [arm_assign_Subscript]
  refine wpAny_bind (wpAny_holding ((h B s R).then fun ov B1 O l1 H1 s1 le1 ro R1 h1 => wpAny_bind (wpAny_holding ((h1 B1 s1 R1).then fun iv B2 I l2 H2 s2 le2 ri R2 h2 => wpAny_bind (wpAny_standAt (wpAny_bind (wpAny_holding ?_)))))))
  exact wpAny_mono (h2 B2 s2 ov iv v R2 (ro.mono le2) ri (r.mono (le1.trans le2))) (fun _ s' q => wpAny_release (q.lift (le1.trans le2))) fun _ _ x => x
theorem WA_attr {o : Expr} {name : Str} {p : Pos} {X : V} {Q : Loc → Hp → Prop} (h : WE F o loc H fun O l1 H1 => SetA F name O X l1 H1 Q) : WA F (.Attribute o name p) X loc H Q := fun B s v R r => by
  show wpAny F.M F.A (assign (.Attribute o name p) F.env v) _ _ _
  rw [arm_assign_Attribute]
  refine wpAny_bind (wpAny_holding ((h B s R).then fun ov B1 O l1 H1 s1 le1 ro R1 h1 => wpAny_bind (wpAny_standAt (wpAny_bind (wpAny_holding ?_)))))
  exact wpAny_mono (h1 B1 s1 ov v R1 ro (r.mono le1)) (fun _ s' q => wpAny_release (q.lift le1)) fun _ _ x => x
noncomputable def WAs (F : Fx) : List Expr → List V → Loc → Hp → (Loc → Hp → Prop) → Prop
  | [], [], loc, H, Q => Q loc H
  | t :: ts, X :: Xs, loc, H, Q => WA F t X loc H fun l1 H1 => WAs F ts Xs l1 H1 Q
  | _, _, _, _, _ => False
theorem WAs_run {ts : List Expr} (hstar : ∀ t ∈ ts, ∀ e p, t ≠ .Starred e p) : ∀ {vs : List Value} {Xs : List V} {loc : Loc} {H : Hp} {B : Keep} {s : Shared} {Q : Loc → Hp → Prop}, FRel F B loc H s → RelVs B vs Xs → WAs F ts Xs loc H Q →
    PW F (assignInOrder ((assignEach ts F.env).map (·.2)) vs) unitR B s fun _ => Q := by
  induction ts with
  | nil =>
    intro vs Xs loc H B s Q R r h
    cases r with
    | nil => exact wpAny_pure (Post.pure (b := ()) trivial R h)
    | cons _ _ => exact h.elim
  | cons t ts ih =>
    intro vs Xs loc H B s Q R r h
    cases r with
    | nil => exact h.elim
    | @cons v vs x xs a t2 =>
      have e : assignEach (t :: ts) F.env = (false, assign t F.env) :: assignEach ts F.env := by
        cases t <;> first | rfl | exact absurd rfl (hstar _ (.head _) _ _)
      show wpAny F.M F.A (assignInOrder ((assignEach (t :: ts) F.env).map (·.2)) (v :: vs)) _ _ _
      rw [e]
      show wpAny F.M F.A (holding vs (assign t F.env v) >>= fun _ => assignInOrder ((assignEach ts F.env).map (·.2)) vs) _ _ _
      exact wpAny_bind (wpAny_holding ((h B s v R a).then fun _ B1 _ l1 H1 s1 le1 _ R1 h1 => (ih (fun t ht => hstar t (.tail _ ht)) R1 (t2.mono le1) h1).lift le1))
theorem WA_tuple (ok : Ok F (n + 1)) {ts : List Expr} {k : Nat} {p : Pos} {Xs : List V} {Q : Loc → Hp → Prop} (hl : ts.length = Xs.length) (h : WAs F ts Xs loc H Q) (hstar : ∀ t ∈ ts, ∀ e p, t ≠ .Starred e p := by simp) : WA F (.Tuple ts k p) (.tup Xs) loc H Q := fun B s v R r => by
  cases r with | tup hb hr => ?_
  have e : ∀ ts : List Expr, (∀ t ∈ ts, ∀ e p, t ≠ .Starred e p) → (assignEach ts F.env).length = ts.length ∧ (assignEach ts F.env).findIdx? (·.1) = none := by
    intro ts
    induction ts with
    | nil => intro _; exact ⟨rfl, rfl⟩
    | cons t ts ih =>
      intro hs
      have e : assignEach (t :: ts) F.env = (false, assign t F.env) :: assignEach ts F.env := by
        cases t <;> first | rfl | exact absurd rfl (hs _ (.head _) _ _)
      obtain ⟨i1, i2⟩ := ih fun t ht => hs t (.tail _ ht)
      rw [e]
      exact ⟨by simp [i1], by simp [List.findIdx?_cons, i2]⟩
  obtain ⟨e1, e2⟩ := e ts hstar
  have hlen := hr.length
  rw [Array.length_toList] at hlen
  refine wpAny_assign_Tuple (ok.handled (by omega)) ⟨_, R.keep _ _ hb, rfl, _, rfl⟩ (by rw [e1, hl, hlen]) e2 fun h' he => ?_
  exact WAs_run hstar (R.grow (s' := { s with heap := h' }) (fun b o q => he b o (Nat.ne_of_lt (Heap.lt_size q)) q) rfl rfl) hr h

theorem WS_AssignT {t e : Expr} {pos : Pos} {Q : Fl → Loc → Hp → Prop} (h : WE F e loc H fun X l1 H1 => WA F t X l1 H1 fun l2 H2 => Q .next l2 H2)
    (hs : swapsWithSole [t] e pos.line F.env = pure false := by rfl) (hw : swappedStores [t] e F.env = pure none := by rfl)
    (he : (assignEach [t] F.env).map (·.2) = [assign t F.env] := by rfl) : WS F (.Assign [t] e pos) loc H Q := fun B s R => by
  refine wpAny_Assign_stores ((h B s R).then fun v B1 X l1 H1 s1 le1 r R1 h1 => ?_) hs hw
  rw [he]
  exact wpAny_mono (h1 B1 s1 v R1 r) (fun _ s' ⟨B2, _, l2, H2, le2, _, R2, q⟩ => (Post.pure .next R2 q).lift (le1.trans le2)) fun _ _ x => x
theorem WS_Expr {e : Expr} {pos : Pos} {Q : Fl → Loc → Hp → Prop} (h : WE F e loc H fun X l1 H1 => Q .next l1 H1) (hi : interactive F.env = false := by rfl) (hs : swapsWith e none pos.line F.env = pure false := by rfl) : WS F (.Expr e pos) loc H Q := fun B s R =>
  wpAny_Expr_any ((h B s R).then fun v B1 X l1 H1 s1 le1 r R1 q => (Post.pure .next R1 q).lift le1) hi hs
theorem WS_Aug (ok : Ok F n) {x : Str} {p pos : Pos} {i : Nat} {op : Operator} {e : Expr} {X : V} {Q : Fl → Loc → Hp → Prop} (hx : look F.nm x = some (i, .local)) (hv : loc[i]? = some (some X))
    (h : WE F e loc H fun Y l1 H1 => Op2 F (inplaceOp op) X Y l1 H1 fun Z l2 H2 => Q .next (l2.set i (some Z)) H2) : WS F (.AugAssign (.Name x p) op e pos) loc H Q := fun B s R => by
  obtain ⟨h1, h2⟩ := look_spec hx
  obtain ⟨m, hm, hl⟩ := R.ns
  obtain ⟨v, ev, r⟩ := hl x i X h1 hv
  refine wpAny_AugAssign_Name (wpAny_loadName_local ok.fn h2 hm ev ((h B s R).then fun y B1 Y l1 H1 s1 le1 ry R1 h1 => (h1 B1 s1 v y R1 (r.mono le1) ry).then fun z B2 Z l2 H2 s2 le2 rz R2 q =>
    PW_store ok hx R2 rz fun s' R' => (Post.pure .next R' q).lift (le1.trans le2)))

theorem dict_at {B : Keep} {s : Shared} (R : FRel F B loc H s) {d : Addr} {kvs : List (Str × V)} (e : H.D d = some kvs) : ∃ cs, s.heap.DictOf (PySem.strKind F.c.prog F.c.w) d cs ∧ RelKs B cs kvs ∧ (d == sysModules) = false := by
  obtain ⟨_, cs, h1, h2⟩ := (R.own d).d kvs e
  refine ⟨cs, h1, h2, ?_⟩
  have hw : H.Own d := .inr (.inl (by rw [e]; simp))
  have h3 := ((R.own d).out hw).2
  have h4 := R.lim.1
  have : d ≠ 1 := Nat.ne_of_gt (Nat.lt_of_le_of_lt h4 h3)
  simpa [sysModules] using this
theorem isSome_rel {B : Keep} {v : Option Value} {x : Option V} (r : relOpt B v x) : v.isSome = x.isSome := by
  cases v <;> cases x <;> first | rfl | exact r.elim
theorem Cmp_inD {k : Str} {d : Addr} {kvs : List (Str × V)} {Q : Bool → Loc → Hp → Prop} (e : H.D d = some kvs) (q : Q (dget kvs k).isSome loc H) : Cmp F .In (.str k) (.ref d) loc H Q := fun B s a b R ra rb => by
  cases ra; cases rb
  obtain ⟨cs, h1, h2, h3⟩ := dict_at R e
  refine wpAny_in_of (strKind_is _ _) h3 h1.mapOf (Post.pure ?_ (R.tok _) q)
  rw [isSome_rel h2.get]
theorem Cmp_notInD {k : Str} {d : Addr} {kvs : List (Str × V)} {Q : Bool → Loc → Hp → Prop} (e : H.D d = some kvs) (q : Q (!(dget kvs k).isSome) loc H) : Cmp F .NotIn (.str k) (.ref d) loc H Q := fun B s a b R ra rb => by
  cases ra; cases rb
  obtain ⟨cs, h1, h2, h3⟩ := dict_at R e
  refine wpAny_notIn_of (strKind_is _ _) h3 h1.mapOf (Post.pure ?_ (R.tok _) q)
  rw [isSome_rel h2.get]
theorem Sub_dict {k : Str} {d : Addr} {kvs : List (Str × V)} {X : V} {Q : V → Loc → Hp → Prop} (e : H.D d = some kvs) (hx : dget kvs k = some X) (q : Q X loc H) : Sub F (.ref d) (.str k) loc H Q := fun B s o i R ro ri => by
  cases ro; cases ri
  obtain ⟨cs, h1, h2, h3⟩ := dict_at R e
  have h4 := h2.get (k := k)
  rw [hx] at h4
  cases e5 : valueAt cs k with
  | none => rw [e5] at h4; exact h4.elim
  | some v =>
    rw [e5] at h4
    exact ⟨"dict", _, slot_dict_getitem.lookup, h1.typeIs, wpAny_getItem_of (strKind_is _ _) h1.mapOf e5 (Post.pure h4 (R.tok _) q)⟩
theorem Set_dict {k : Str} {d : Addr} {kvs : List (Str × V)} {Z : V} {Q : Loc → Hp → Prop} (e : H.D d = some kvs) (eG : H.G d = none) (hz : kvs.length ≤ 100000) (q : Q loc { H with D := up H.D d (dput kvs k Z) }) : Set_ F (.ref d) (.str k) Z loc H Q := fun B s o i v R ro ri rv => by
  cases ro; cases ri with | str _ t hk => ?_
  obtain ⟨cs, h1, h2, h3⟩ := dict_at R e
  refine wpAny_setItem_pairs (knd := PySem.strKind F.c.prog F.c.w) (strKind_is _ _) h1 (fun h' hd' hs' => Post.pure (b := ()) trivial (R.setD (s' := { s with heap := h', toks := s.toks + 1 }) e eG (fun b o hb h => (hs'.2 b hb).trans h) ?_ hd' (h2.stored rv) rfl rfl) q) (by rw [h2.length, sizeLine_eq]; omega)
  have h5 := ((R.own d).d kvs e).1
  intro p hp
  unfold dput at hp
  split at hp
  · obtain ⟨p', hp', rfl⟩ := List.mem_map.mp hp
    split
    · exact h5 p' hp'
    · exact h5 p' hp'
  · rcases List.mem_append.mp hp with hp | hp
    · exact h5 _ hp
    · simp at hp; subst hp; exact hk
theorem PW_newDict {B : Keep} {s : Shared} {P : Value → Shared → Prop} (R : FRel F B loc H s) (h : ∀ a s', H.Fresh a → FRel F B loc { H with D := up H.D a [] } s' → P (.ref a) s') : wpAny F.M F.A newDict P F.E s := by
  refine wpAny_bind (wpAny_alloc (wpAny_pure ?_))
  refine h s.heap.objs.size _ (R.fresh_H (R.fresh (Nat.le_refl _)).1) (R.newD (cs := []) (Nat.le_refl _) (fun b o e => Heap.get?_push_of_some _ e) (fun p hp => nomatch hp) ?_ .nil rfl rfl)
  exact ⟨_, #[], 0, Heap.get?_push_size _ rfl, ⟨rfl, rfl, rfl⟩, rfl, fun _ he => by simp at he, .nil, List.nodup_nil⟩
theorem WE_Dict0 {pos : Pos} {Q : V → Loc → Hp → Prop} (q : ∀ a, H.Fresh a → Q (.ref a) loc { H with D := up H.D a [] }) : WE F (.Dict [] [] pos) loc H Q := fun B s R => by
  show wpAny F.M F.A (eval (.Dict [] [] pos) F.env) _ _ _
  rw [eval_Dict_empty]
  exact wpAny_bind (wpAny_standAt (PW_newDict R fun a s' hf R' => Post.pure (.ref a) R' (q a hf)))
theorem inst_at {K : Frag} {B : Keep} {s : Shared} (R : FRel F B loc H s) {x C d : Addr} {fs : List (Str × V)} (eI : H.I x = some (C, d)) (eD : H.D d = some fs) :
    ∃ od es ep cs, InstAt s.heap x (instObj' C d) C (some od) ∧ s.heap.get? d = some od ∧ od.ExactDict ∧ od.data = .dict es ep ∧ KeysOf (PySem.strKind F.c.prog F.c.w) es ∧ Pairs (PySem.strKind F.c.prog F.c.w) es.toList cs ∧ (cs.map (·.1)).Nodup ∧ RelKs B cs fs := by
  obtain ⟨_, cs, ⟨od, es, ep, h1, h2, h3, h4, h5, h6⟩, h7⟩ := (R.own d).d fs eD
  exact ⟨od, es, ep, cs, ⟨(R.own x).i _ eI, rfl, rfl, h1⟩, h1, h2, h3, h4, h5, h6, h7⟩
theorem refs_none {prog : Program} {w : World} {es : Array DictEntry} (hk : KeysOf (PySem.strKind prog w) es) : es.toList.any (·.refKey) = false := by
  rw [List.any_eq_false]
  intro e he
  obtain ⟨k, hk1, _⟩ := hk e (by simpa using he)
  obtain ⟨t, ht⟩ := Value.isStrOf_shape hk1
  unfold DictEntry.refKey
  rw [ht]; simp
theorem putName_of {prog : Program} {w : World} {od : Obj} {es : Array DictEntry} {ep : Nat} {cs : List (Str × Value)} {v : Value} {t : Tok} (hx : od.ExactDict) (hd : od.data = .dict es ep) (hk : KeysOf (PySem.strKind prog w) es) (hp : Pairs (PySem.strKind prog w) es.toList cs) (hn : (cs.map (·.1)).Nodup) (name : Str) :
    ∃ es' ep', (Obj.putName name (hashStr w name) (.str name t) v od) = { od with data := .dict es' ep' } ∧ KeysOf (PySem.strKind prog w) es' ∧ Pairs (PySem.strKind prog w) es'.toList (stored cs name v) ∧ ((stored cs name v).map (·.1)).Nodup ∧ es'.size ≤ es.size + 1 := by
  rw [Obj.putName_eq]
  obtain ⟨c, d, dt, sl⟩ := od
  dsimp only at hd
  subst hd
  have e0 : (fun e : DictEntry => e.key.isStr name) = fun e => (PySem.strKind prog w).is name e.key := funext fun e => isStr_eq _ _
  have hkey : (PySem.strKind prog w).is name (.str name t) = true := strKind_is _ _
  have hidx : (es.findIdx? fun e => (PySem.strKind prog w).is name e.key) = cs.findIdx? fun kv => decide (kv.1 = name) := by
    rw [← hp.findIdx name]; obtain ⟨l⟩ := es; simp
  unfold Obj.putNameByArray
  simp only [e0]
  cases hi : es.findIdx? fun e => (PySem.strKind prog w).is name e.key with
  | some i =>
    refine ⟨_, _, rfl, hk.modify _ _, ?_, ?_, by simp⟩
    · rw [stored, if_pos (any_of_findIdx_some (hidx ▸ hi))]
      have hl : (es.toList.findIdx? fun e => (PySem.strKind prog w).is name e.key) = some i := by rw [← hi]; obtain ⟨l⟩ := es; simp
      have := hp.modify hn hl v
      obtain ⟨l⟩ := es
      simpa using this
    · rw [stored, if_pos (any_of_findIdx_some (hidx ▸ hi)), keys_map_store]; exact hn
  | none =>
    have hnot : name ∉ cs.map (·.1) := not_mem_of_findIdx_none (hidx ▸ hi)
    have hany : ¬ (cs.any fun kv => decide (kv.1 = name)) = true := by
      rw [List.any_eq_true]; rintro ⟨kv, hkv, he⟩
      exact hnot (List.mem_map.mpr ⟨kv, hkv, of_decide_eq_true he⟩)
    refine ⟨_, _, rfl, hk.push hkey _, ?_, ?_, by simp⟩
    · rw [stored, if_neg hany]
      have := hp.append hkey (hashStr w name) v
      obtain ⟨l⟩ := es
      simpa using this
    · rw [stored, if_neg hany, List.map_append, List.nodup_append]
      refine ⟨hn, by simp, ?_⟩
      intro a ha b hb
      simp only [List.map_cons, List.map_nil, List.mem_singleton] at hb
      subst hb
      exact fun e => hnot (e ▸ ha)
theorem lookIn_pairs {prog : Program} {w : World} {od : Obj} {es : Array DictEntry} {ep : Nat} {cs : List (Str × Value)} (hd : od.data = .dict es ep) (hk : KeysOf (PySem.strKind prog w) es) (hp : Pairs (PySem.strKind prog w) es.toList cs) (name : Str) : lookIn name od = some (valueAt cs name) := by
  unfold lookIn
  rw [hd]
  dsimp only
  have h := hp.find name
  have e : (fun e : DictEntry => (PySem.strKind prog w).is name e.key) = fun e => e.key.isStr name := funext fun e => (isStr_eq _ _).symm
  rw [e] at h
  have hr : es.toList.any (·.refKey) = false := by
    rw [List.any_eq_false]
    intro e he
    obtain ⟨k, hk1, _⟩ := hk e (by simpa using he)
    obtain ⟨t, ht⟩ := Value.isStrOf_shape hk1
    unfold DictEntry.refKey
    rw [ht]; simp
  cases hf : es.toList.find? (fun e => e.key.isStr name) with
  | some en => rw [hf] at h; simp only [Option.map_some] at h; rw [← h]
  | none => rw [hf] at h; simp only [Option.map_none] at h; rw [← h]; simp [hr]

noncomputable def notRaw : V → Bool
  | .raw _ => false
  | _ => true
theorem handed_of {B : Keep} {v : Value} {X : V} (r : RelV B v X) (h : notRaw X = true) : handedIn v = true := by
  cases r <;> first | rfl | cases h

noncomputable def GetA (F : Fx) (name : Str) (X : V) (loc : Loc) (H : Hp) (Q : V → Loc → Hp → Prop) : Prop := ∀ B s o, FRel F B loc H s → RelV B o X → PW F (getAttr o name true) RelV B s Q
theorem GetA_own {K : Frag} (hK : K.In F.c.base) {x C d : Addr} {fs : List (Str × V)} {name : Str} {Y : V} {Q : V → Loc → Hp → Prop} (eI : H.I x = some (C, d)) (eD : H.D d = some fs) (hy : dget fs name = some Y) (hr : notRaw Y = true)
    (hg : plainGet K C name = true) (hh : hasDictIn K C = true) (ha : findIn K (.ref C) name = some none) (q : Q Y loc H) : GetA F name (.ref x) loc H Q := fun B s o R ro => by
  cases ro
  obtain ⟨od, es, ep, cs, I, h1, h2, h3, h4, h5, h6, h7⟩ := inst_at (K := K) R eI eD
  have h8 := h7.get (k := name)
  rw [hy] at h8
  cases e5 : valueAt cs name with
  | none => rw [e5] at h8; exact h8.elim
  | some v =>
    rw [e5] at h8
    exact get_value (fun a o e => R.inBase (hK a o e)) I (plainGet_of hg).1 (findObj_own hh ha rfl (by rw [lookIn_pairs h3 h4 h5, e5])) (handed_of h8 hr) (Post.pure h8 (R.tok _) q)
theorem WE_Attr {o : Expr} {name : Str} {pos : Pos} {Q : V → Loc → Hp → Prop} (h : WE F o loc H fun X l1 H1 => GetA F name X l1 H1 Q) (hbase : attributeBase o name F.env (eval o F.env) = eval o F.env := by rfl) : WE F (.Attribute o name pos) loc H Q := fun B s R => by
  show wpAny F.M F.A (eval (.Attribute o name pos) F.env) _ _ _
  rw [arm_eval_Attribute, hbase]
  exact wpAny_bind ((h B s R).then fun v B1 X l1 H1 s1 le1 r R1 h1 => wpAny_bind (wpAny_standAt (wpAny_bind (wpAny_holding ((h1 B1 s1 v R1 r).then fun y B2 Y l2 H2 s2 le2 ry R2 q =>
    wpAny_bind (wpAny_letTemporaryGo (wpAny_pure ((Post.pure ry R2 q).lift (le1.trans le2)))))))))
theorem MGet_own {K : Frag} (hK : K.In F.c.base) {x C d f : Addr} {fs : List (Str × V)} {name : Str} {Q : V → List V → Loc → Hp → Prop} (eI : H.I x = some (C, d)) (eD : H.D d = some fs) (hy : dget fs name = none)
    (hg : plainGet K C name = true) (hf : findIn K (.ref C) name = some (some (.ref f))) (ht : isFn K (.ref f) = true) (q : Q (.ref f) [.ref x] loc H) : MGet F name (.ref x) loc H Q := fun B s o pl R ro => by
  cases ro
  obtain ⟨od, es, ep, cs, I, h1, h2, h3, h4, h5, h6, h7⟩ := inst_at (K := K) R eI eD
  have h8 := h7.get (k := name)
  rw [hy] at h8
  cases e5 : valueAt cs name with
  | some v => rw [e5] at h8; exact h8.elim
  | none =>
    refine method_fn (fun a o e => R.inBase (hK a o e)) I (plainGet_of hg).1 (plainGet_of hg).2 hf (beq_iff_eq.mp ht) ?_ (Post.pure (b := (V.ref f, [V.ref x])) ⟨.ref _, .cons (.ref _) .nil⟩ R q)
    unfold shadowIn
    simp only
    rw [lookIn_pairs h3 h4 h5, e5]; rfl

theorem SetA_own {K : Frag} (hK : K.In F.c.base) {x C d : Addr} {fs : List (Str × V)} {name : Str} {Z : V} {Q : Loc → Hp → Prop} (eI : H.I x = some (C, d)) (eD : H.D d = some fs) (eG : H.G d = none)
    (hs : findIn K (.ref C) "__setattr__" = some (some (.builtin "object.__setattr__"))) (hp : plainOver K C = true) (ht : takerIn K C name = some none) (hh : hasDictIn K C = true) (hn : PyData.strOk name = true) (hz : fs.length ≤ 900)
    (q : Q loc { H with D := up H.D d (dput fs name Z) }) : SetA F name (.ref x) Z loc H Q := fun B s o v R ro rv => by
  cases ro
  have X : K.In s.heap := fun a o e => R.inBase (hK a o e)
  obtain ⟨od, es, ep, cs, I, h1, h2, h3, h4, h5, h6, h7⟩ := inst_at (K := K) R eI eD
  refine set_plain X I hs (osa_open (s := { s with toks := s.toks + 1 }) X I hp ht fun b => ?_)
  obtain ⟨cd, hc, hd'⟩ := any_some hh
  refine wpAny_bind (wpAny_pure (wpAny_bind (wpAny_bind (wpAny_loadPart I.at_ (wpAny_bind ((looks_clsIn X hc) _ _ _ _ (fun _ _ e => e) ?_))))))
  rw [hd']
  refine wpAny_pure (a := some d) (wpAny_bind (wpAny_pure (wpAny_bind ?_)))
  unfold nsSet
  refine wpAny_bind (wpAny_bind (wpAny_askSetting (wpAny_pure (wpAny_bind (wpAny_mkText (wpAny_bind (wpAny_loadPart h1 ?_)))))))
  rw [h3]
  dsimp only
  have hr : es.toList.any (·.refKey) = false := refs_none h4
  have c : (!es.any (·.key.isStr name) && es.any (·.refKey)) = false := by
    rw [← Array.any_toList, ← Array.any_toList, hr, Bool.and_false]
  rw [aRefKeyMayBeTheName_at, c]
  refine wpAny_updatePart h1 ?_
  obtain ⟨es', ep', hd1, hd2, hd3, hd4, hd5⟩ := putName_of (v := v) (t := s.toks + 1) h2 h3 h4 h5 h6 name
  have hlen : es.size = fs.length := by
    have e1 := h5.length
    rw [Array.length_toList] at e1
    rw [e1, h7.length]
  have hup : (s.heap.update d (Obj.putName name (hashStr F.c.w name) (.str name (s.toks + 1)) v)).get? d = some { od with data := .dict es' ep' } := by
    rw [← hd1]
    refine Heap.get?_update_self _ h1 ?_
    rw [hd1]; rfl
  refine wpAny_bind (wpAny_lookBehind (o := { od with data := .dict es' ep' }) hup ?_ ?_)
  · exact pastItsLine_dict (by rw [sizeLine_eq]; omega)
  · refine wpAny_pure ?_
    refine Post.pure (b := ()) trivial (R.setD (s' := { s with heap := s.heap.update d (Obj.putName name (hashStr F.c.w name) (.str name (s.toks + 1)) v), toks := s.toks + 1 + 1 }) eD eG (fun b o hb h => (Heap.get?_update_other _ _ (Ne.symm hb)).trans h) ?_ ⟨_, es', ep', hup, h2, rfl, hd2, hd3, hd4⟩ (h7.stored rv) rfl rfl) q
    have h5 := ((R.own d).d fs eD).1
    intro p hp
    unfold dput at hp
    split at hp
    · obtain ⟨p', hp', rfl⟩ := List.mem_map.mp hp
      split
      · exact h5 p' hp'
      · exact h5 p' hp'
    · rcases List.mem_append.mp hp with hp | hp
      · exact h5 _ hp
      · simp at hp; subst hp; exact hn
end
end Lay
end
noncomputable section
open PySem PySem.W PyProof.Rows PySem.Calls
open AutoSeq1 (wpAny_loadPart')
set_option Elab.async false
set_option maxRecDepth 100000
set_option linter.all false
namespace Lay

section
variable {prog : Program} {w : World} {A : Around} {E : Value → Shared → Prop} {s : Shared}

theorem nextOf_tuple_item {it t : Addr} {i : Nat} {items} {x : Value} {Q : Value → Shared → Prop} (hit : s.heap.IsTupleIter it t i)
    (ht : s.heap.IsTuple t items) (hx : items[i]? = some x)
    (hQ : ∀ h', h'.IsTupleIter it t (i + 1) → Heap.SameBut it s.heap h' → Q x { s with heap := h' }) :
    wpAny (model prog w) A (Builtin.SmallTypes.nextOf (.ref it)) Q E s := by
  obtain ⟨o, ho, hc, hd⟩ := id hit
  obtain ⟨ol, hol, _, nl, hdl⟩ := ht
  unfold Builtin.SmallTypes.nextOf
  refine wpAny_bind (wpAny_callSpecial?_slot (name := Str.ofString "__next__") hit.typeIs PySem.F.slot_tuple_iterator_next
    (wpAny_call_entry PySem.F.slot_tuple_iterator_next hit.typeIs PySem.F.entry_tuple_iterator_next ?_ (PySem.F.args_tuple_iterator_next_1 _)))
  show wpAny _ _ (field (.ref it) 0 >>= _) _ _ s
  refine wpAny_bind (wpAny_field ho hd (x := .ref t) rfl ?_)
  show wpAny _ _ (if (Value.ref t == Value.none) = true then _ else _) _ _ s
  rw [if_neg (show ¬ ((Value.ref t == Value.none) = true) from Bool.false_ne_true)]
  show wpAny _ _ (field (.ref it) 1 >>= _) _ _ s
  refine wpAny_bind (wpAny_field ho hd (x := .int i 0) rfl ?_)
  show wpAny _ _ (seqItems? (.ref t) >>= _) _ _ s
  refine wpAny_bind (wpAny_seqItems hol hdl ?_)
  simp only [Int.toNat_natCast, hx]
  refine wpAny_bind (wpAny_setField ho hd (by simp) (wpAny_pure ⟨_, rfl, wpAny_pure (hQ _ ?_ (Heap.SameBut.update ..))⟩))
  exact ⟨_, Heap.get?_update_self _ ho (Obj.isFreed_of_fields (Obj.data_mapFields hd _)), (Obj.cls_mapFields ..).trans hc, by
    rw [Obj.data_mapFields hd]; simp [rawInt]⟩
theorem nextOf_tuple_end {it t : Addr} {i : Nat} {items} {Q : Value → Shared → Prop} (hh : A.handled = none)
    (hit : s.heap.IsTupleIter it t i) (ht : s.heap.IsTuple t items) (hx : items[i]? = none)
    (hE : ∀ h' e, Heap.ExtBut it s.heap h' → (∃ o, h'.get? e = some o ∧ o.cls = .type "StopIteration") → E (.ref e) { s with heap := h' }) :
    wpAny (model prog w) A (Builtin.SmallTypes.nextOf (.ref it)) Q E s := by
  obtain ⟨o, ho, hc, hd⟩ := id hit
  obtain ⟨ol, hol, _, nl, hdl⟩ := ht
  unfold Builtin.SmallTypes.nextOf
  refine wpAny_bind (wpAny_callSpecial?_slot (name := Str.ofString "__next__") hit.typeIs PySem.F.slot_tuple_iterator_next
    (wpAny_call_entry PySem.F.slot_tuple_iterator_next hit.typeIs PySem.F.entry_tuple_iterator_next ?_ (PySem.F.args_tuple_iterator_next_1 _)))
  show wpAny _ _ (field (.ref it) 0 >>= _) _ _ s
  refine wpAny_bind (wpAny_field ho hd (x := .ref t) rfl ?_)
  show wpAny _ _ (if (Value.ref t == Value.none) = true then _ else _) _ _ s
  rw [if_neg (show ¬ ((Value.ref t == Value.none) = true) from Bool.false_ne_true)]
  show wpAny _ _ (field (.ref it) 1 >>= _) _ _ s
  refine wpAny_bind (wpAny_field ho hd (x := .int i 0) rfl ?_)
  show wpAny _ _ (seqItems? (.ref t) >>= _) _ _ s
  refine wpAny_bind (wpAny_seqItems hol hdl ?_)
  simp only [Int.toNat_natCast, hx]
  refine wpAny_bind (wpAny_rule (wpAny_bind (wpAny_setField ho hd (by simp) ?_)))
  show wpAny _ _ (newExc (.type "StopIteration") [] >>= _) _ _ _
  refine wpAny_bind ?_
  simp only [newExc, newTuple]
  refine wpAny_bind (wpAny_newObj_type ?_ (by size_fits))
  refine wpAny_bind (m := firstArgMember _ _) (wpAny_of_eq (a := Value.none) (by first | rfl | (simp only [firstArgMember]; rfl)) ?_)
  refine wpAny_newObj_type ?_ (by size_fits)
  simp only [raiseNew]
  refine wpAny_bind (wpAny_handled ?_)
  first | rw [show A.in1.handled = none from hh] | rw [hh]
  refine wpAny_bind (wpAny_pure (wpAny_throw ?_))
  exact hE _ _ (((Heap.SameBut.update ..).extBut.push _).push _) ⟨_, Heap.get?_push_size _ rfl, rfl⟩
theorem isTuple_at {h h' : Heap} {a items} (x : h.IsTuple a items) (e : ∀ o, h.get? a = some o → h'.get? a = some o) : h'.IsTuple a items := let ⟨o, ho, r⟩ := x; ⟨o, e _ ho, r⟩
theorem isTupleIter_at {h h' : Heap} {a l i} (x : h.IsTupleIter a l i) (e : ∀ o, h.get? a = some o → h'.get? a = some o) : h'.IsTupleIter a l i := let ⟨o, ho, r⟩ := x; ⟨o, e _ ho, r⟩
theorem draws_tuple (hh : A.handled = none) (it t : Addr) (hne : t ≠ it) (items : Array Value) :
    Draws prog w A it [it, t] items.size (fun i v => items[i]? = some v) (fun i h => h.IsTupleIter it t i ∧ h.IsTuple t items) where
  live := fun _ _ st => let ⟨o, ho, _⟩ := st.1; ⟨o, ho⟩
  frame := fun _ _ _ st hk => ⟨isTupleIter_at st.1 fun o e => hk it (by simp) o e, isTuple_at st.2 fun o e => hk t (by simp) o e⟩
  item := fun i s Q E hi st hQ => by
    refine nextOf_tuple_item st.1 st.2 (x := items[i]) (by simp [hi]) fun h' hit' hs' => ?_
    exact hQ _ h' s.toks (by simp [hi]) ⟨hit', st.2.extBut hs'.extBut hne⟩ hs'
  done := fun s Q E st hE => nextOf_tuple_end hh st.1 st.2 (by simp) hE

theorem meets_enum_newT (l : Addr) (items : Array Value) (n : Nat) :
    Meets (Builtin.«enumerate.__new__» ⟨[.type "enumerate", .ref l], []⟩) (fun _ R s => s.heap.get? l = some { cls := .type "tuple", dict := none, data := .seq items n, slots := #[] } ∧
      R (.ok (.ret (.ref (s.heap.push { cls := .type "tuple_iterator", data := .fields #[.ref l, .int 0 0] }).objs.size)))
        { s with heap := (s.heap.push { cls := .type "tuple_iterator", data := .fields #[.ref l, .int 0 0] }).push { cls := .type "enumerate", data := .fields #[.none, .bool false, .ref s.heap.objs.size, rawInt 0, .none, .none] } }) :=
  .of_wp fun prog w A R s h => by
    obtain ⟨hp, g, d, tk, os⟩ := s; obtain ⟨hl, h⟩ := h
    have hsub := sub_enumerate
    have hL : Heap.IsTuple (Shared.heap ⟨hp, g, d, tk, os⟩) l items := ⟨_, hl, rfl, n, rfl⟩
    wp_walk using wpAny_loadPart' hl
    refine wpAny_stack_any fun st => wpAny_pure ?_
    split
    · rename_i c _ _ _ _ _
      cases (c == Value.type "enumerate")
      · wp_walk using wpAny_loadPart' hl, wpAny_pyIter_tuple hL
        exact ⟨_, rfl, h⟩
      · wp_walk using wpAny_loadPart' hl, wpAny_pyIter_tuple hL
        exact ⟨_, rfl, h⟩
    · wp_walk using wpAny_loadPart' hl, wpAny_pyIter_tuple hL
      exact ⟨_, rfl, h⟩
theorem call_enum_tuple {l : Addr} {items : Array Value} {n : Nat} {Q : Value → Shared → Prop}
    (hl : s.heap.get? l = some { cls := .type "tuple", dict := none, data := .seq items n, slots := #[] })
    (h : ∀ h', IsEnum h' (s.heap.objs.size + 1) s.heap.objs.size 0 .none → h'.IsTupleIter s.heap.objs.size l 0 → h'.objs.size = s.heap.objs.size + 2 →
      (∀ b o, s.heap.get? b = some o → h'.get? b = some o) → Q (.ref (s.heap.objs.size + 1)) { s with heap := h' }) :
    wpAny (model prog w) A (call (.type "enumerate") [.ref l]) Q E s := by
  refine callType_new PySem.F.called_enumerate (by decide) (PySem.F.typeCall_enumerate_1 _) (PySem.F.newCall_enumerate_1 _) (fun obj => PySem.F.args_object_init_2 obj _) PySem.F.entry_enumerate_new
    (meets_enum_newT l items n) ⟨hl, ?_⟩
  have hz : (s.heap.push { cls := .type "tuple_iterator", data := .fields #[.ref l, .int 0 0] }).objs.size = s.heap.objs.size + 1 := Heap.size_push ..
  show _ ∧ _
  rw [hz]
  have he : IsEnum ((s.heap.push { cls := .type "tuple_iterator", data := .fields #[.ref l, .int 0 0] }).push
      { cls := .type "enumerate", data := .fields #[.none, .bool false, .ref s.heap.objs.size, rawInt 0, .none, .none] }) (s.heap.objs.size + 1) s.heap.objs.size 0 .none := by
    have := Heap.get?_push_size (s.heap.push { cls := .type "tuple_iterator", data := .fields #[.ref l, .int 0 0] })
      (o := { cls := .type "enumerate", data := .fields #[.none, .bool false, .ref s.heap.objs.size, rawInt 0, .none, .none] }) rfl
    rw [hz] at this; exact this
  refine ⟨⟨_, he, rfl⟩, h _ he ⟨_, Heap.get?_push_of_some _ (Heap.get?_push_size _ rfl), rfl, rfl⟩ (by rw [Heap.size_push, hz]) fun b o y => Heap.get?_push_of_some _ (Heap.get?_push_of_some _ y)⟩
end
noncomputable def un {α : Type} (f : Addr → Option α) (a : Addr) : Addr → Option α := fun b => if b = a then none else f b
@[simp] theorem un_self {α : Type} (f : Addr → Option α) (a : Addr) : un f a a = none := by simp [un]
theorem un_ne {α : Type} {f : Addr → Option α} {a b : Addr} (h : b ≠ a) : un f a b = f b := by simp [un, h]
theorem un_up {α : Type} {f : Addr → Option α} {a : Addr} {x : α} (h : f a = none) : un (up f a x) a = f := funext fun b => by
  by_cases e : b = a
  · subst e; simp [h]
  · simp [un, up, e]
noncomputable def Hp.Sub (H' H : Hp) : Prop := ∀ a, (H'.L a = none ∨ H'.L a = H.L a) ∧ (H'.D a = none ∨ H'.D a = H.D a) ∧ (H'.P a = none ∨ H'.P a = H.P a) ∧ (H'.S a = none ∨ H'.S a = H.S a) ∧ (H'.I a = none ∨ H'.I a = H.I a) ∧
  (H'.C a = none ∨ H'.C a = H.C a) ∧ (H'.G a = none ∨ (H'.G a = H.G a ∧ H'.D a = H.D a))
noncomputable def LocSub (l' l : Loc) : Prop := ∀ (i : Nat) (X : V), l'[i]? = some (some X) → l[i]? = some (some X)
theorem LocSub.refl (l : Loc) : LocSub l l := fun _ _ h => h
theorem Hp.Sub.refl (H : Hp) : H.Sub H := fun _ => ⟨.inr rfl, .inr rfl, .inr rfl, .inr rfl, .inr rfl, .inr rfl, .inr ⟨rfl, rfl⟩⟩
theorem Hp.Sub.own {H' H : Hp} (h : H'.Sub H) {a : Addr} (o : H'.Own a) : H.Own a := by
  obtain ⟨h1, h2, h3, h4, h5, h6, _⟩ := h a
  rcases o with o | o | o | o | o | o
  · exact .inl (by rcases h1 with h1 | h1; exact absurd h1 o; rw [← h1]; exact o)
  · exact .inr (.inl (by rcases h2 with h1 | h1; exact absurd h1 o; rw [← h1]; exact o))
  · exact .inr (.inr (.inl (by rcases h3 with h1 | h1; exact absurd h1 o; rw [← h1]; exact o)))
  · exact .inr (.inr (.inr (.inl (by rcases h4 with h1 | h1; exact absurd h1 o; rw [← h1]; exact o))))
  · exact .inr (.inr (.inr (.inr (.inl (by rcases h5 with h1 | h1; exact absurd h1 o; rw [← h1]; exact o)))))
  · exact .inr (.inr (.inr (.inr (.inr (by rcases h6 with h1 | h1; exact absurd h1 o; rw [← h1]; exact o)))))
theorem or_some {α : Type} {x y : Option α} (h : x = none ∨ x = y) {a : α} (e : x = some a) : y = some a := by
  rcases h with h | h
  · rw [h] at e; cases e
  · rw [← h]; exact e
theorem OwnAt.weak {c : Base} {B : Keep} {h : Heap} {H' H : Hp} {a : Addr} (hs : H'.Sub H) (x : OwnAt c B h H a) : OwnAt c B h H' a := by
  obtain ⟨h1, h2, h3, h4, h5, h6, h7⟩ := hs a
  refine ⟨fun o => x.out (hs.own o), fun y e => x.l y (or_some h1 e), fun y e => x.d y (or_some h2 e), fun y e => x.p y (or_some h3 e), fun y e => x.s y (or_some h4 e), fun y e => x.i y (or_some h5 e), fun y e => x.c y (or_some h6 e), fun e => ?_, fun ep e => ?_⟩
  · have : H.D a ≠ none := by
      rcases h2 with h2 | h2
      · exact absurd h2 e
      · rw [← h2]; exact e
    have hp := x.dp this
    rcases h3 with h3 | h3
    · exact h3
    · rw [h3]; exact hp
  · rcases h7 with h7 | ⟨h7, h8⟩
    · rw [h7] at e; cases e
    · rw [h7] at e
      rw [h8]; exact x.g ep e
theorem Rel.weak {c : Base} {L : Addr} {nm : List (Str × NameKind)} {B : Keep} {loc loc' : Loc} {H H' : Hp} {s : Shared} (R : Rel c L nm B loc H s) (hs : H'.Sub H) (hl : LocSub loc' loc) : Rel c L nm B loc' H' s where
  keep := R.keep
  based := R.based
  own := fun a => (R.own a).weak hs
  lB := R.lB
  lH := fun o => R.lH (hs.own o)
  ns := let ⟨m, n, l⟩ := R.ns; ⟨m, n, fun x i X a b => l x i X a (hl _ _ b)⟩
  gens := R.gens
  os := R.os
  lim := R.lim
  sv := fun p hp => let ⟨x1, x2, x3, x4⟩ := R.sv p hp; ⟨x1, x2, fun o => x3 (hs.own o), x4⟩
theorem Post.weak {F : Fx} {α β : Type} {ρ : Keep → α → β → Prop} {B : Keep} {Q Q' : β → Loc → Hp → Prop} {a : α} {s : Shared} (p : Post F ρ B Q' a s) (h : ∀ b l H, Q' b l H → ∃ l' H', LocSub l' l ∧ H'.Sub H ∧ Q b l' H') : Post F ρ B Q a s := by
  obtain ⟨B', b, l, H, x1, x2, x3, x4⟩ := p
  obtain ⟨l', H', y1, y2, y3⟩ := h _ _ _ x4
  exact ⟨B', b, l', H', x1, x2, x3.weak y2 y1, y3⟩
theorem PW.weak {F : Fx} {α β : Type} {t : Sem α} {ρ : Keep → α → β → Prop} {B : Keep} {s : Shared} {Q Q' : β → Loc → Hp → Prop} (p : PW F t ρ B s Q') (h : ∀ b l H, Q' b l H → ∃ l' H', LocSub l' l ∧ H'.Sub H ∧ Q b l' H') : PW F t ρ B s Q :=
  wpAny_mono p (fun _ _ x => x.weak h) fun _ _ x => x

theorem unL_sub {H : Hp} {a : Addr} : Hp.Sub { H with L := un H.L a } H := fun b => by
  refine ⟨?_, .inr rfl, .inr rfl, .inr rfl, .inr rfl, .inr rfl, .inr ⟨rfl, rfl⟩⟩
  by_cases e : b = a
  · subst e; simp
  · exact .inr (un_ne e)
theorem unID_sub {H : Hp} {a d : Addr} (hG : H.G d = none) : Hp.Sub { H with I := un H.I a, D := un H.D d } H := fun b => by
  refine ⟨.inr rfl, ?_, .inr rfl, .inr rfl, ?_, .inr rfl, ?_⟩
  · by_cases e : b = d
    · subst e; simp
    · exact .inr (un_ne e)
  · by_cases e : b = a
    · subst e; simp
    · exact .inr (un_ne e)
  · by_cases e : b = d
    · subst e; exact .inl hG
    · exact .inr ⟨rfl, un_ne e⟩

section
variable {c : Base} {L : Addr} {nm : List (Str × NameKind)} {B : Keep} {loc : Loc} {H : Hp} {s : Shared}

theorem Rel.take (R : Rel c L nm B loc H s) {a : Addr} {o : Obj} (ha : s.heap.get? a = some o) (hB : B a = none) (hO : ¬ H.Own a) (hL : a ≠ L) (hS : ∀ p ∈ c.saved, p.1 ≠ a) :
    Rel c L nm (addB B a o) loc H s ∧ Le B (addB B a o) := by
  have hle := addB_le (o := o) hB
  refine ⟨⟨fun b p e => ?_, ⟨R.based.1, R.based.2.trans hle⟩, fun b => (R.own b).mono hle (fun _ e => e) fun h => ?_, ?_, R.lH, ?_, R.gens, R.os, R.lim, ?_⟩, hle⟩
  · unfold addB at e
    split at e
    · rename_i z; subst z; cases e; exact ha
    · exact R.keep _ _ e
  · unfold addB
    split
    · rename_i z; subst z; exact absurd h hO
    · exact ((R.own b).out h).1
  · unfold addB
    rw [if_neg (Ne.symm hL)]; exact R.lB
  · obtain ⟨m, n, l⟩ := R.ns
    exact ⟨m, n, l.mono hle⟩
  · intro p hp
    obtain ⟨x1, x2, x3⟩ := R.sv p hp
    refine ⟨x1, ?_, x3⟩
    unfold addB
    rw [if_neg (hS p hp)]; exact x2

theorem Rel.freezeL (R : Rel c L nm B loc H s) {a : Addr} {xs : List V} (e : H.L a = some xs) : ∃ B', Le B B' ∧ Rel c L nm B' loc { H with L := un H.L a } s ∧ RelV B' (.ref a) (.list xs) := by
  obtain ⟨items, n, hl, hr⟩ := (R.own a).l xs e
  have hw : H.Own a := .inl (by rw [e]; simp)
  obtain ⟨_, z2, z3, z4, z5⟩ := (R.own a).none_of hl
  have y1 := (z2 (by intro h; injection h with h; exact absurd h (by decide))).1
  have y2 := (z2 (by intro h; injection h with h; exact absurd h (by decide))).2
  have y3 := z3 (by intro h; injection h with h; exact absurd h (by decide))
  have y4 := z4 (by intro C h; cases h)
  have y5 := z5 (by intro v h; cases h)
  have R1 := R.weak (unL_sub (a := a)) (LocSub.refl _)
  have hno : ¬ Hp.Own { H with L := un H.L a } a := by unfold Hp.Own; simp [y1, y2, y3, y4, y5]
  obtain ⟨R2, le⟩ := R1.take hl ((R.own a).out hw).1 hno (R.own_ne_L hw) (fun p hp z => (R.sv p hp).2.2.1 (z ▸ hw))
  exact ⟨_, le, R2, .list (items := items) (n := n) (by simp [addB]) (hr.mono le)⟩

theorem relFs_of {prog : Program} {w : World} {od : Obj} {es : Array DictEntry} {ep : Nat} {cs : List (Str × Value)} (hd : od.data = .dict es ep) (hk : KeysOf (PySem.strKind prog w) es) (hp : Pairs (PySem.strKind prog w) es.toList cs) (hn : (cs.map (·.1)).Nodup) {fs : List (Str × V)} (h : RelKs B cs fs) :
    RelFs B od fs := by
  have gen : ∀ (cs' : List (Str × Value)) (fs' : List (Str × V)), RelKs B cs' fs' → (∀ p ∈ cs', lookIn p.1 od = some (some p.2)) → RelFs B od fs' := by
    intro cs' fs' h
    induction h with
    | nil => intro _; exact .nil
    | cons r t ih => intro hh; exact .cons (hh _ (.head _)) r (ih fun p hp => hh p (.tail _ hp))
  refine gen cs fs h fun p hp' => ?_
  rw [lookIn_pairs hd hk hp]
  have : ∀ cs : List (Str × Value), (cs.map (·.1)).Nodup → p ∈ cs → valueAt cs p.1 = some p.2 := by
    intro cs
    induction cs with
    | nil => intro _ h; cases h
    | cons q r ih =>
      intro hn hp
      rw [List.map_cons, List.nodup_cons] at hn
      unfold valueAt at ih ⊢
      rw [List.find?_cons]
      cases hp with
      | head _ => simp
      | tail _ hp =>
        have : ¬ q.1 = p.1 := fun e => hn.1 (List.mem_map.mpr ⟨_, hp, e.symm⟩)
        simp only [this, decide_false]
        exact ih hn.2 hp
  rw [this cs hn hp']

theorem Rel.freezeI (R : Rel c L nm B loc H s) {a C d : Addr} {fs : List (Str × V)} (eI : H.I a = some (C, d)) (eD : H.D d = some fs) (eG : H.G d = none) :
    ∃ B', Le B B' ∧ Rel c L nm B' loc { H with I := un H.I a, D := un H.D d } s ∧ RelV B' (.ref a) (.inst C fs) := by
  have hi := (R.own a).i _ eI
  obtain ⟨_, cs, ⟨od, es, ep, h1, h2, h3, h4, h5, h6⟩, h7⟩ := (R.own d).d fs eD
  have wa : H.Own a := .inr (.inr (.inr (.inr (.inl (by rw [eI]; simp)))))
  have wd : H.Own d := .inr (.inl (by rw [eD]; simp))
  have hne : a ≠ d := by rintro rfl; rw [hi] at h1; cases h1; cases h3
  obtain ⟨a1, a2, a3, _, a5⟩ := (R.own a).none_of hi
  obtain ⟨d1, _, d3, d4, d5⟩ := (R.own d).none_of h1
  have na1 := a1 (by intro h; cases h)
  have na2 := (a2 (by intro h; cases h)).1
  have na3 := (a2 (by intro h; cases h)).2
  have na4 := a3 (by intro h; cases h)
  have na5 := a5 (by intro v h; cases h)
  have nd1 := d1 (by rw [h2.1]; decide)
  have nd2 := (R.own d).dp (by rw [eD]; simp)
  have nd3 := d3 (by rw [h2.1]; decide)
  have nd4 := d4 (by intro C h; rw [h2.1] at h; cases h)
  have nd5 := d5 (by intro v h; rw [h3] at h; cases h)
  have R1 := R.weak (unID_sub (a := a) eG) (LocSub.refl _)
  have hna : ¬ Hp.Own { H with I := un H.I a, D := un H.D d } a := by unfold Hp.Own; simp [na1, na2, na3, na4, na5, un_ne hne]
  have hnd : ¬ Hp.Own { H with I := un H.I a, D := un H.D d } d := by unfold Hp.Own; simp [nd1, nd2, nd3, nd4, nd5, un_ne (Ne.symm hne)]
  obtain ⟨R2, le2⟩ := R1.take hi ((R.own a).out wa).1 hna (R.own_ne_L wa) (fun p hp z => (R.sv p hp).2.2.1 (z ▸ wa))
  obtain ⟨R3, le3⟩ := R2.take h1 (by unfold addB; rw [if_neg (Ne.symm hne)]; exact ((R.own d).out wd).1) hnd (R.own_ne_L wd) (fun p hp z => (R.sv p hp).2.2.1 (z ▸ wd))
  refine ⟨_, le2.trans le3, R3, .inst (d := d) (o := od) (le3 _ _ (by simp [addB])) (by simp [addB]) h3 (relFs_of h3 h4 h5 h6 (h7.mono (le2.trans le3)))⟩

theorem Rel.turnIt (R : Rel c L nm B loc H s) {a : Addr} {o o' : Obj} {fl} (hB : B a = some o) (hd : o.data = .fields fl) (hb : c.lo a = none) {s' : Shared} (hk : ∀ b o, b ≠ a → s.heap.get? b = some o → s'.heap.get? b = some o) (ha : s'.heap.get? a = some o')
    (hg : s'.gens = s.gens) (ho : s'.os = s.os) : Rel c L nm (addB (dropB B a) a o') loc H s' :=
  ((R.dropIt hB hd hb hk hg ho).take ha (by simp [dropB]) (fun w => by rw [((R.own a).out w).1] at hB; cases hB) (by rintro rfl; rw [R.lB] at hB; cases hB)
    (fun p hp z => by have := (R.sv p hp).2.1; rw [z, hB] at this; cases this)).1
end
theorem le_drop {B0 B : Keep} {a : Addr} (h : Le B0 B) (h0 : B0 a = none) : Le B0 (dropB B a) := fun b p e => by
  rw [dropB_ne]; exact h _ _ e
  rintro rfl; rw [h0] at e; cases e
theorem le_turn {B0 B : Keep} {a : Addr} {o : Obj} (h : Le B0 B) (h0 : B0 a = none) : Le B0 (addB (dropB B a) a o) := (le_drop h h0).trans (addB_le (by simp [dropB]))
theorem RelV.turn {B : Keep} {a : Addr} {o o' : Obj} {fl} (hB : B a = some o) (hd : o.data = .fields fl) {v : Value} {x : V} (r : RelV B v x) : RelV (addB (dropB B a) a o') v x := (r.drop hB hd).mono (addB_le (by simp [dropB]))

section
variable {F : Fx} {n : Nat} {loc : Loc} {H : Hp}
inductive Frz : V → Hp → V → Hp → Prop
  | list {a xs H} : H.L a = some xs → Frz (.ref a) H (.list xs) { H with L := un H.L a }
  | inst {a C d fs H} : H.I a = some (C, d) → H.D d = some fs → H.G d = none → Frz (.ref a) H (.inst C fs) { H with I := un H.I a, D := un H.D d }
theorem Rel.frz {c : Base} {L : Addr} {nm : List (Str × NameKind)} {B : Keep} {loc : Loc} {H H' : Hp} {s : Shared} {X X' : V} (R : Rel c L nm B loc H s) (f : Frz X H X' H') : ∃ B' a, X = .ref a ∧ Le B B' ∧ Rel c L nm B' loc H' s ∧ RelV B' (.ref a) X' := by
  cases f with
  | list e => obtain ⟨B', x1, x2, x3⟩ := R.freezeL e; exact ⟨B', _, rfl, x1, x2, x3⟩
  | inst e1 e2 e3 => obtain ⟨B', x1, x2, x3⟩ := R.freezeI e1 e2 e3; exact ⟨B', _, rfl, x1, x2, x3⟩
theorem Post.frz {B : Keep} {Q : V → Loc → Hp → Prop} {v : Value} {s : Shared} (p : Post F RelV B (fun X l H => ∃ X' H', Frz X H X' H' ∧ Q X' l H') v s) : Post F RelV B Q v s := by
  obtain ⟨B1, X, l, H, le, r, R, X', H', f, q⟩ := p
  obtain ⟨B2, a, rfl, le2, R2, r2⟩ := R.frz f
  cases r
  exact ⟨B2, X', l, H', le.trans le2, r2, R2, q⟩
theorem WE_frz {e : Expr} {Q : V → Loc → Hp → Prop} (h : WE F e loc H fun X l H => ∃ X' H', Frz X H X' H' ∧ Q X' l H') : WE F e loc H Q := fun B s R => wpAny_mono (h B s R) (fun _ _ p => p.frz) fun _ _ x => x
theorem Call_frz {f : V} {Xs : List V} {Q : V → Loc → Hp → Prop} (h : Call F f Xs loc H fun X l H => ∃ X' H', Frz X H X' H' ∧ Q X' l H') : Call F f Xs loc H Q := fun B s v vs R r rs => wpAny_mono (h B s v vs R r rs) (fun _ _ p => p.frz) fun _ _ x => x
theorem WE_weak {e : Expr} {Q Q' : V → Loc → Hp → Prop} (h : WE F e loc H Q') (k : ∀ b l H, Q' b l H → ∃ l' H', LocSub l' l ∧ H'.Sub H ∧ Q b l' H') : WE F e loc H Q := fun B s R => (h B s R).weak k
theorem WSs_pre {e : List Stmt} {loc' : Loc} {H' : Hp} {Q : Fl → Loc → Hp → Prop} (h : WSs F e loc' H' Q) (h1 : LocSub loc' loc) (h2 : H'.Sub H) : WSs F e loc H Q := fun B s R => h B s (R.weak h2 h1)
theorem WSs_frz {e : List Stmt} {i : Nat} {X X' : V} {H' : Hp} {Q : Fl → Loc → Hp → Prop} (hl : loc[i]? = some (some X)) (f : Frz X H X' H') (h : WSs F e (loc.set i (some X')) H' Q) : WSs F e loc H Q := fun B s R => by
  obtain ⟨B', a, rfl, le, R', r⟩ := R.frz f
  obtain ⟨m, hm, hlm⟩ := R'.ns
  have R2 : FRel F B' (loc.set i (some X')) H' s := ⟨R'.keep, R'.based, R'.own, R'.lB, R'.lH, ⟨m, hm, fun x j Y hx hj => by
    by_cases e : j = i
    · subst e
      have hlt : j < loc.length := (List.getElem?_eq_some_iff.mp hl).1
      rw [List.getElem?_set_self hlt] at hj
      cases hj
      obtain ⟨v, h1, h2⟩ := hlm x j _ hx hl
      cases h2
      exact ⟨_, h1, r⟩
    · rw [List.getElem?_set_ne (Ne.symm e)] at hj
      exact hlm x j Y hx hj⟩, R'.gens, R'.os, R'.lim, R'.sv⟩
  exact PW.lift le (h B' s R2)
end
end Lay
end
noncomputable section
open PySem PySem.W PyProof.Rows PySem.Calls
set_option Elab.async false
set_option maxRecDepth 100000
set_option linter.all false
namespace Lay

noncomputable abbrev Fx.inl (F : Fx) : Fx := { F with E := notedBy F.M F.A F.env (cameBackBy F.M F.A F.env F.E) }
theorem Ok.inl {F : Fx} {n : Nat} (ok : Ok F n) : Ok F.inl n := ⟨ok.fn, ok.glob, ok.bi, ok.dbg, ok.units, ok.depth, ok.handled, ok.fr⟩
noncomputable abbrev ItS := Keep → Keep → Addr → Prop
noncomputable def ItMono (St : ItS) : Prop := ∀ B0 B B' it, Le B B' → St B0 B it → St B0 B' it

noncomputable def Tr (B B' : Keep) : Prop := ∀ v X, RelV B v X → RelV B' v X
theorem Tr.of {B B' : Keep} (h : Le B B') : Tr B B' := fun _ _ r => r.mono h
theorem Tr.trans {B B' B'' : Keep} (h : Tr B B') (k : Tr B' B'') : Tr B B'' := fun v X r => k v X (h v X r)
theorem LocOk.tr {B B' : Keep} (h : Tr B B') {nm loc m} (x : LocOk B nm loc m) : LocOk B' nm loc m := fun y i X a b => let ⟨v, e, r⟩ := x y i X a b; ⟨v, e, h _ _ r⟩
noncomputable def Nxt (F : Fx) (target : Expr) (St : ItS) (H : Hp) (r : Option (V × ItS)) : Prop :=
  ∀ (E : Value → Shared → Prop) B0 B s it loc (N : Shared → Prop) (Y : Value → Shared → Prop), FRel F B loc H s → Le B0 B → St B0 B it →
    (∀ B' s', r = none → Le B0 B' → Tr B B' → FRel F B' loc H s' → N s') →
    (∀ X St' B' v s', r = some (X, St') → Le B0 B' → Tr B B' → FRel F B' loc H s' → St' B0 B' it → RelV B' v X → Y v s') →
    wpAny F.M F.A (pyNext (.ref it)) (fun r s1 => match r with | none => N s1 | some v => wpAny F.M F.A (letOwnedTupleGo target (.ref it) v) (fun _ s1' => Y v s1') E s1) E s

noncomputable def LoopQ (J : Loc → Hp → Prop) (Q : Fl → Loc → Hp → Prop) : Fl → Loc → Hp → Prop
  | .next => J
  | .cont => J
  | .brk => Q .next
  | .ret x => Q (.ret x)

noncomputable def ForOn (F : Fx) (target : Expr) (body orelse : List Stmt) (Q : Fl → Loc → Hp → Prop) (St : Nat → ItS) (l : Loc) (H : Hp) : Prop :=
  (∀ i, ItMono (St i)) ∧ ∃ (N : Nat) (Inv : Nat → Loc → Hp → Prop), Inv 0 l H ∧
    (∀ i l H, i < N → Inv i l H → ∃ X, Nxt F target (St i) H (some (X, St (i + 1))) ∧ WA F.inl target X l H fun l1 H1 => WSs F.inl body l1 H1 (LoopQ (Inv (i + 1)) Q)) ∧
    (∀ l H, Inv N l H → Nxt F target (St N) H none ∧ WSs F.inl orelse l H Q)

noncomputable def WIt (F : Fx) (iter : Expr) (loc : Loc) (H : Hp) (Q : (Nat → ItS) → Loc → Hp → Prop) : Prop := ∀ B s, FRel F B loc H s →
  wpAny F.M F.A (eval iter F.env) (fun x s1 => wpAny F.M F.A (pyIter x) (fun it s2 => ∃ B' a l H' St, it = .ref a ∧ Le B B' ∧ FRel F B' l H' s2 ∧ St 0 B B' a ∧ Q St l H') F.E s1) F.E s

section
variable {F : Fx} {n : Nat} {loc : Loc} {H : Hp}

theorem WS_For {target iter : Expr} {body orelse : List Stmt} {pos : Pos} {Q : Fl → Loc → Hp → Prop} (h : WIt F iter loc H fun St l H => ForOn F target body orelse Q St l H)
    (hs : ∀ x, foldedSetIterable iter F.env x = pure x := by intro _; rfl) : WS F (.For target iter body orelse pos) loc H Q := fun B s R => by
  refine wpAny_For (wpAny_mono (h B s R) (fun x s1 h1 => wpAny_mono h1 (fun it s2 h2 => ?_) fun _ _ e => e) fun _ _ e => e) hs
  obtain ⟨B', a, l, H', St, rfl, le, R', st, mono, N, Inv, h0, hitem, hend⟩ := h2
  refine codeAny_forLoop_any (fun k s' => ∃ i l H' B', i + k = N ∧ Inv i l H' ∧ Le B B' ∧ FRel F B' l H' s' ∧ St i B B' a) ?_ N ⟨0, l, H', B', by omega, h0, le, R', st⟩
  rintro k s' ⟨i, l, H', B', hk, hi, le, R', st⟩
  cases k with
  | zero =>
    obtain rfl : i = N := by omega
    obtain ⟨hn, ho⟩ := hend l H' hi
    refine hn _ B B' s' a l _ _ R' le st ?_ ?_
    · intro B2 s2 _ le2 _ R2
      refine wpAny_mono (ho B2 s2 R2) (fun f s3 p => p.lift le2) fun _ _ e => e
    · intro X St' B2 v s2 e; cases e
  | succ k =>
    obtain ⟨X, hn, ha⟩ := hitem i l H' (by omega) hi
    refine hn _ B B' s' a l _ _ R' le st ?_ ?_
    · intro B2 s2 e; cases e
    · intro X' St' B2 v s2 e le2 _ R2 st2 rv
      cases e
      refine (ha B2 s2 v R2 rv).then fun _ B3 _ l3 H3 s3 le3 _ R3 hb => (hb B3 s3 R3).then fun f B4 fl l4 H4 s4 le4 rf R4 q => ?_
      have le5 := le2.trans (le3.trans le4)
      cases rf with
      | next => exact ⟨k, by omega, i + 1, l4, H4, B4, by omega, q, le5, R4, mono _ _ _ _ _ (le3.trans le4) st2⟩
      | cont => exact ⟨k, by omega, i + 1, l4, H4, B4, by omega, q, le5, R4, mono _ _ _ _ _ (le3.trans le4) st2⟩
      | brk => exact (Post.pure (F := F) (Q := Q) (b := Fl.next) RelF.next R4 q).lift le5
      | ret r => exact (Post.pure (F := F) (Q := Q) (b := Fl.ret _) (RelF.ret r) R4 q).lift le5

theorem WS_While {test : Expr} {body orelse : List Stmt} {pos : Pos} {Q : Fl → Loc → Hp → Prop} (Inv : Nat → Loc → Hp → Prop) (k : Nat) (h0 : Inv k loc H)
    (h : ∀ k l H, Inv k l H → WB F.inl test l H fun b l1 H1 => (b = true → WSs F.inl body l1 H1 (LoopQ (fun l H => ∃ k', k' < k ∧ Inv k' l H) Q)) ∧ (b = false → WSs F.inl orelse l1 H1 Q)) :
    WS F (.While test body orelse pos) loc H Q := fun B s R => by
  refine wpAny_While (codeAny_whileLoop (fun k s' => ∃ l H' B', Inv k l H' ∧ Le B B' ∧ FRel F B' l H' s') ?_ k ⟨loc, H, B, h0, Le.refl _, R⟩)
  rintro k s' ⟨l, H', B', hi, le, R'⟩
  refine (h k l H' hi B' s' R').then fun b B1 b' l1 H1 s1 le1 e R1 q => ?_
  subst e
  have le1 := le.trans le1
  cases b with
  | false => exact wpAny_mono (q.2 rfl B1 s1 R1) (fun f s3 p => p.lift le1) fun _ _ e => e
  | true =>
    refine (q.1 rfl B1 s1 R1).then fun f B4 fl l4 H4 s4 le4 rf R4 q => ?_
    have le5 := le1.trans le4
    cases rf with
    | next => obtain ⟨k', hk, hi⟩ := q; exact ⟨k', hk, l4, H4, B4, hi, le5, R4⟩
    | cont => obtain ⟨k', hk, hi⟩ := q; exact ⟨k', hk, l4, H4, B4, hi, le5, R4⟩
    | brk => exact (Post.pure (F := F) (Q := Q) (b := Fl.next) RelF.next R4 q).lift le5
    | ret r => exact (Post.pure (F := F) (Q := Q) (b := Fl.ret _) (RelF.ret r) R4 q).lift le5

theorem base_none {B1 : Keep} (h1 : Le F.c.lo B1) {a : Addr} (h : B1 a = none) : F.c.lo a = none := by
  cases e : F.c.lo a with
  | none => rfl
  | some o => rw [h1 _ _ e] at h; cases h

noncomputable def lstSt (hb : Keep) (X : V) (i : Nat) : ItS := fun B0 B it => B0 it = none ∧ hb it = none ∧ ∃ l o, RelV B (.ref l) X ∧ B it = some o ∧ o.cls = .type "list_iterator" ∧ o.data = .fields #[.ref l, .int i 0]
theorem lstSt_mono {hb : Keep} {X : V} (i : Nat) : ItMono (lstSt hb X i) := fun B0 B B' it le hq => by
  obtain ⟨h0, hb, l, o, h1, h2, h3⟩ := hq
  exact ⟨h0, hb, l, o, h1.mono le, le _ _ h2, h3⟩
theorem asL_ref {l : Addr} {B : Keep} {s : Shared} (R : FRel F B loc H s) {X : V} {xs : List V} (r : RelV B (.ref l) X) (e : asL H X = some xs) : ∃ items m, IsL s.heap l items m ∧ RelVs B items.toList xs := by
  obtain ⟨a, items, m, h1, h2, h3⟩ := asL_at R r e
  cases h1; exact ⟨_, _, h2, h3⟩
theorem Nxt_list {target : Expr} {X x : V} {xs : List V} {i : Nat} (e : asL H X = some xs) (hx : xs[i]? = some x) : Nxt F target (lstSt F.c.lo X i) H (some (x, lstSt F.c.lo X (i + 1))) := fun E B0 B s it loc N Y R le hq _ hY => by
  obtain ⟨h0, hb, l, o, h1, h2, h3, h4⟩ := hq
  obtain ⟨items, m, hl, hr⟩ := asL_ref R h1 e
  obtain ⟨v, e1, rv⟩ := hr.get hx
  have hit : s.heap.IsListIter it l i := ⟨o, R.keep _ _ h2, h3, h4⟩
  refine wpAny_pyNext_list_item hit hl.isList (x := v) (by simpa using e1) fun h' hit' hs' => ?_
  obtain ⟨o', ho', hc', hd'⟩ := id hit'
  refine letGo_listiter (s' := { s with heap := h' }) hit' (hY _ _ (addB (dropB B it) it o') v _ rfl (le_turn le h0) (fun _ _ r => r.turn h2 h4) (R.turnIt h2 h4 hb (fun b p hne q => (hs'.2 b hne).trans q) ho' rfl rfl) ⟨h0, hb, l, o', ?_, by simp [addB], hc', hd'⟩ (rv.turn h2 h4))
  exact h1.turn h2 h4
theorem Nxt_list_end {target : Expr} {X : V} {xs : List V} {i : Nat} (hh : F.A.handled = none) (e : asL H X = some xs) (hx : xs.length ≤ i) : Nxt F target (lstSt F.c.lo X i) H none := fun E B0 B s it loc N Y R le hq hN _ => by
  obtain ⟨h0, hb, l, o, h1, h2, h3, h4⟩ := hq
  obtain ⟨items, m, hl, hr⟩ := asL_ref R h1 e
  have hit : s.heap.IsListIter it l i := ⟨o, R.keep _ _ h2, h3, h4⟩
  have hlen := hr.length
  rw [Array.length_toList] at hlen
  refine wpAny_pyNext_list_end hh hit hl.isList (by rw [Array.getElem?_eq_none]; omega) fun h' hs' => ?_
  exact hN _ _ rfl (le_drop le h0) (fun _ _ r => r.drop h2 h4) (R.dropIt h2 h4 hb (fun b p hne q => hs' b p hne q) rfl rfl)
theorem WIt_list {iter : Expr} {Q : (Nat → ItS) → Loc → Hp → Prop} (h : WE F iter loc H fun X l H => ∃ xs, asL H X = some xs ∧ Q (lstSt F.c.lo X) l H) : WIt F iter loc H Q := fun B s R =>
  (h B s R).then fun v B1 X l1 H1 s1 le1 rv R1 ⟨xs, e, q⟩ => by
    obtain ⟨a, items, m, rfl, hl, hr⟩ := asL_at R1 rv e
    refine wpAny_pyIter_list hl.isList ?_
    have z := R1.hold (s' := { s1 with heap := s1.heap.push { cls := .type "list_iterator", data := .fields #[.ref a, .int 0 0] } }) (a := s1.heap.objs.size) (o := { cls := .type "list_iterator", data := .fields #[.ref a, .int 0 0] }) (Nat.le_refl _) (fun b o e => Heap.get?_push_of_some _ e) (Heap.get?_push_size _ rfl) rfl rfl
    have hn := (R1.fresh (Nat.le_refl _)).1
    have h1 := R1.fresh_B hn
    have h2 : B s1.heap.objs.size = none := by
      cases e : B s1.heap.objs.size with
      | none => rfl
      | some o => rw [le1 _ _ e] at h1; cases h1
    exact ⟨_, _, _, _, lstSt F.c.lo X, rfl, le1.trans z.2.1, z.1, ⟨h2, base_none R.based.2 h2, a, _, rv.mono z.2.1, z.2.2, rfl, rfl⟩, q⟩

noncomputable def tupSt (hb : Keep) (xs : List V) (i : Nat) : ItS := fun B0 B it => B0 it = none ∧ hb it = none ∧ ∃ t o, RelV B (.ref t) (.tup xs) ∧ B it = some o ∧ o.cls = .type "tuple_iterator" ∧ o.data = .fields #[.ref t, .int i 0]
theorem tupSt_mono {hb : Keep} {xs : List V} (i : Nat) : ItMono (tupSt hb xs i) := fun B0 B B' it le hq => by
  obtain ⟨h0, hb, l, o, h1, h2, h3⟩ := hq
  exact ⟨h0, hb, l, o, h1.mono le, le _ _ h2, h3⟩
theorem tup_at {t : Addr} {B : Keep} {s : Shared} (R : FRel F B loc H s) {xs : List V} (r : RelV B (.ref t) (.tup xs)) : ∃ items m, s.heap.get? t = some (tupObj items m) ∧ s.heap.IsTuple t items ∧ RelVs B items.toList xs := by
  cases r with | tup hb hr => exact ⟨_, _, R.keep _ _ hb, ⟨_, R.keep _ _ hb, rfl, _, rfl⟩, hr⟩
theorem Nxt_tup {target : Expr} {x : V} {xs : List V} {i : Nat} (hx : xs[i]? = some x) : Nxt F target (tupSt F.c.lo xs i) H (some (x, tupSt F.c.lo xs (i + 1))) := fun E B0 B s it loc N Y R le hq _ hY => by
  obtain ⟨h0, hb, l, o, h1, h2, h3, h4⟩ := hq
  obtain ⟨items, m, _, hl, hr⟩ := tup_at R h1
  obtain ⟨v, e1, rv⟩ := hr.get hx
  have hit : s.heap.IsTupleIter it l i := ⟨o, R.keep _ _ h2, h3, h4⟩
  refine wpAny_pyNext_tuple_item hit hl (x := v) (by simpa using e1) fun h' hit' hs' => ?_
  obtain ⟨o', ho', hc', hd'⟩ := id hit'
  refine letGo_tupleiter (s' := { s with heap := h' }) hit' (hY _ _ (addB (dropB B it) it o') v _ rfl (le_turn le h0) (fun _ _ r => r.turn h2 h4) (R.turnIt h2 h4 hb (fun b p hne q => (hs'.2 b hne).trans q) ho' rfl rfl) ⟨h0, hb, l, o', ?_, by simp [addB], hc', hd'⟩ (rv.turn h2 h4))
  exact h1.turn h2 h4
theorem Nxt_tup_end {target : Expr} {xs : List V} {i : Nat} (hh : F.A.handled = none) (hx : xs.length ≤ i) : Nxt F target (tupSt F.c.lo xs i) H none := fun E B0 B s it loc N Y R le hq hN _ => by
  obtain ⟨h0, hb, l, o, h1, h2, h3, h4⟩ := hq
  obtain ⟨items, m, _, hl, hr⟩ := tup_at R h1
  have hit : s.heap.IsTupleIter it l i := ⟨o, R.keep _ _ h2, h3, h4⟩
  have hlen := hr.length
  rw [Array.length_toList] at hlen
  refine wpAny_pyNext_tuple_end hh hit hl (by rw [Array.getElem?_eq_none]; omega) fun h' hs' => ?_
  exact hN _ _ rfl (le_drop le h0) (fun _ _ r => r.drop h2 h4) (R.dropIt h2 h4 hb (fun b p hne q => hs' b p hne q) rfl rfl)
theorem WIt_tup {iter : Expr} {Q : (Nat → ItS) → Loc → Hp → Prop} (h : WE F iter loc H fun X l H => ∃ xs, X = .tup xs ∧ Q (tupSt F.c.lo xs) l H) : WIt F iter loc H Q := fun B s R =>
  (h B s R).then fun v B1 X l1 H1 s1 le1 rv R1 ⟨xs, e, q⟩ => by
    subst e
    cases rv with | @tup a items m _ hb hr => ?_
    refine wpAny_pyIter_tuple (items := items) ⟨_, R1.keep _ _ hb, rfl, _, rfl⟩ ?_
    have z := R1.hold (s' := { s1 with heap := s1.heap.push { cls := .type "tuple_iterator", data := .fields #[.ref a, .int 0 0] } }) (a := s1.heap.objs.size) (o := { cls := .type "tuple_iterator", data := .fields #[.ref a, .int 0 0] }) (Nat.le_refl _) (fun b o e => Heap.get?_push_of_some _ e) (Heap.get?_push_size _ rfl) rfl rfl
    have hn := (R1.fresh (Nat.le_refl _)).1
    have h1 := R1.fresh_B hn
    have h2 : B s1.heap.objs.size = none := by
      cases e : B s1.heap.objs.size with
      | none => rfl
      | some o => rw [le1 _ _ e] at h1; cases h1
    exact ⟨_, _, _, _, tupSt F.c.lo xs, rfl, le1.trans z.2.1, z.1, ⟨h2, base_none R.based.2 h2, a, _, (RelV.tup hb hr).mono z.2.1, z.2.2, rfl, rfl⟩, q⟩

noncomputable def rngSt (hb : Keep) (n : Nat) (i : Nat) : ItS := fun B0 B it => B0 it = none ∧ hb it = none ∧ B it = some { cls := .type "range_iterator", dict := none, data := .fields #[rawInt (i : Int), rawInt ((n : Int) - i), rawInt 1], slots := #[] }
theorem rngSt_mono {hb : Keep} {n : Nat} (i : Nat) : ItMono (rngSt hb n i) := fun B0 B B' it le hq => by
  obtain ⟨h0, hb, h1⟩ := hq
  exact ⟨h0, hb, le _ _ h1⟩
theorem letGo_rangeiter {E : Value → Shared → Prop} {s : Shared} {M : Model} {A : Around} {target : Expr} {I : Addr} {x left step : Int} {v : Value} {Q : Unit → Shared → Prop} (hit : IsRangeIter s.heap I x left step) (h : Q () s) : wpAny M A (letOwnedTupleGo target (.ref I) v) Q E s := by
  unfold letOwnedTupleGo
  cases target <;> first
    | exact wpAny_pure h
    | (cases v <;> first
        | exact wpAny_pure h
        | (refine wpAny_bind (wpAny_load hit ?_)
           exact wpAny_pure h))
theorem Nxt_rng {target : Expr} {n i : Nat} (hi : i < n) : Nxt F target (rngSt F.c.lo n i) H (some (.int i, rngSt F.c.lo n (i + 1))) := fun E B0 B s it loc N Y R le hq _ hY => by
  obtain ⟨h0, hb, h2⟩ := hq
  have hit : IsRangeIter s.heap it (i : Int) ((n : Int) - i) 1 := R.keep _ _ h2
  refine wpAny_pyNext_range_item hit (by omega) fun h' hit' hs' => ?_
  refine letGo_rangeiter (s := { s with heap := h', toks := s.toks + 1 }) hit' (hY _ _ (addB (dropB B it) it _) _ _ rfl (le_turn le h0) (fun _ _ r => r.turn h2 rfl) (R.turnIt (s' := { s with heap := h', toks := s.toks + 1 }) h2 rfl hb (fun b p hne q => (hs'.2 b hne).trans q) hit' rfl rfl) ⟨h0, hb, ?_⟩ (.int _ _))
  have e1 : ((i : Int) + 1) = ((i + 1 : Nat) : Int) := by omega
  have e2 : ((n : Int) - i - 1) = (n : Int) - (i + 1 : Nat) := by omega
  simp only [addB, if_true, e1, e2]
theorem Nxt_rng_end {target : Expr} {n i : Nat} (hh : F.A.handled = none) (hi : n ≤ i) : Nxt F target (rngSt F.c.lo n i) H none := fun E B0 B s it loc N Y R le hq hN _ => by
  obtain ⟨h0, hb, h2⟩ := hq
  have hit : IsRangeIter s.heap it (i : Int) ((n : Int) - i) 1 := R.keep _ _ h2
  refine wpAny_pyNext_range_end hh hit (by omega) fun h' hs' => ?_
  exact hN _ _ rfl (le_drop le h0) (fun _ _ r => r.drop h2 rfl) (R.dropIt h2 rfl hb (fun b p hne q => hs' b p hne q) rfl rfl)
end
end Lay
end
noncomputable section
open PySem PySem.W PyProof.Rows PySem.Calls
set_option Elab.async false
set_option maxRecDepth 100000
set_option linter.all false
namespace Lay
section
variable {c : Base} {L : Addr} {nm : List (Str × NameKind)} {B : Keep} {loc : Loc} {H : Hp} {s : Shared}
theorem Rel.free (R : Rel c L nm B loc H s) {s' : Shared} (X : Addr → Prop) (hX : ∀ a, X a → B a = none ∧ ¬ H.Own a ∧ a ≠ L ∧ ∀ p ∈ c.saved, p.1 ≠ a) (hk : ∀ b o, ¬ X b → s.heap.get? b = some o → s'.heap.get? b = some o)
    (hg : s'.gens = s.gens) (ho : s'.os = s.os) : Rel c L nm B loc H s' where
  keep := fun b p e => hk _ _ (fun x => by rw [(hX b x).1] at e; cases e) (R.keep _ _ e)
  based := R.based
  own := fun b => by
    by_cases hw : H.Own b
    · exact (R.own b).mono (Le.refl _) (fun p => hk b p fun x => (hX b x).2.1 hw) fun h => ((R.own b).out h).1
    · obtain ⟨d1, d2, d3, d4, d5, d6⟩ := not_own hw
      refine ⟨fun h => absurd h hw, ?_, ?_, ?_, ?_, ?_, ?_, fun _ => d3, fun ep e => ?_⟩
      · intro y hy; rw [d1] at hy; cases hy
      · intro y hy; rw [d2] at hy; cases hy
      · intro y hy; rw [d3] at hy; cases hy
      · intro y hy; rw [d4] at hy; cases hy
      · intro y hy; rw [d5] at hy; cases hy
      · intro y hy; rw [d6] at hy; cases hy
      · exact absurd (.inr (.inl ((R.own b).g ep e).1)) hw
  lB := R.lB
  lH := R.lH
  ns := by
    obtain ⟨m, ⟨oL, es, ep, q, z⟩, l⟩ := R.ns
    exact ⟨m, ⟨oL, es, ep, hk _ _ (fun x => (hX L x).2.2.1 rfl) q, z⟩, l⟩
  gens := hg.trans R.gens
  os := ho.trans R.os
  lim := R.lim
  sv := fun p hp => by
    obtain ⟨⟨ob, x1, y1⟩, x2, x3, x4⟩ := R.sv p hp
    exact ⟨⟨ob, hk _ _ (fun x => (hX _ x).2.2.2 p hp rfl) x1, y1⟩, x2, x3, x4⟩
theorem Rel.nobody (R : Rel c L nm B loc H s) {a : Addr} (e : s.heap.get? a = none) : B a = none ∧ ¬ H.Own a ∧ a ≠ L ∧ ∀ p ∈ c.saved, p.1 ≠ a :=
  ⟨R.fresh_B e, R.fresh_H e, R.fresh_L e, fun p hp z => by obtain ⟨o, h1, _⟩ := (R.sv p hp).1; rw [z, e] at h1; cases h1⟩
theorem Rel.kept (R : Rel c L nm B loc H s) {a : Addr} {o : Obj} (e : B a = some o) : ¬ H.Own a ∧ a ≠ L ∧ ∀ p ∈ c.saved, p.1 ≠ a :=
  ⟨(fun w => by rw [((R.own a).out w).1] at e; cases e), (by rintro rfl; rw [R.lB] at e; cases e), (fun p hp z => by have := (R.sv p hp).2.1; rw [z, e] at this; cases this)⟩
theorem Rel.know (R : Rel c L nm B loc H s) {d : Addr} {kvs : List (Str × V)} {o : Obj} {es ep} (e : H.D d = some kvs) (ho : s.heap.get? d = some o) (hd : o.data = .dict es ep) : Rel c L nm B loc { H with G := up H.G d ep } s where
  keep := R.keep
  based := R.based
  own := fun b => by
    refine ⟨(R.own b).out, (R.own b).l, (R.own b).d, (R.own b).p, (R.own b).s, (R.own b).i, (R.own b).c, (R.own b).dp, fun ep' h => ?_⟩
    by_cases hb : b = d
    · subst hb
      simp only [up_self, Option.some.injEq] at h
      subst h; exact ⟨by rw [e]; simp, _, _, ho, hd⟩
    · simp only [up_ne hb] at h; exact (R.own b).g _ h
  lB := R.lB
  lH := R.lH
  ns := R.ns
  gens := R.gens
  os := R.os
  lim := R.lim
  sv := R.sv
end
section
variable {F : Fx} {n : Nat} {loc : Loc} {H : Hp}

theorem WIt_range {x : Str} {np pos : Pos} {arg : Expr} {Q : (Nat → ItS) → Loc → Hp → Prop}
    (h : WE F (.Name x np) loc H fun f l1 H1 => f = .raw (.type "range") ∧ WEs F pos [arg] l1 H1 fun Xs l2 H2 => ∃ n : Nat, Xs = [.int n] ∧ n < 2 ^ 60 ∧ Q (rngSt F.c.lo n) l2 H2)
    (hns : (backTo pos (starEach [arg] F.env)).any (·.1) = false := by rfl) : WIt F (.Call (.Name x np) [arg] [] pos) loc H Q := fun B s R => by
  refine wpAny_Call_ofName ((h B s R).then fun f B1 X l1 H1 s1 le1 rf R1 ⟨hX, h1⟩ => ?_)
  subst hX
  cases rf
  refine callWith_gen hns (evalArgs_gen hns ((h1 B1 s1 R1).then fun vs B2 Xs l2 H2 s2 le2 rv R2 ⟨n, hXs, hn, q⟩ => ?_))
  subst hXs
  cases rv with | cons ra r2 => ?_
  cases r2
  cases ra with | int _ t => ?_
  obtain ⟨k, hk⟩ := KeepOk_raw (F := F) (loc := l2) (H := H2) (v := .type "range") (by intro a h; cases h) B2 s2 (.type "range") R2 (.raw _)
  refine ⟨⟨k, fun Q' q' => hk Q' q'⟩, ?_⟩
  refine call_range_1 ?_
  have R3 := R2.grow (s' := { s2 with heap := s2.heap.push { cls := .type "range", data := .fields #[.int 0 s2.toks, .int n t, .int 1 (s2.toks + 1)] }, toks := s2.toks + 1 + 1 }) (fun b o e => Heap.get?_push_of_some _ e) rfl rfl
  refine wpAny_pyIter_range (a := 0) (b := n) (c := 1) (t := s2.toks) (u := t) (v := s2.toks + 1) (Heap.get?_push_size _ rfl) (small_one (by decide) (by decide) (by omega) (by omega)) ?_
  have hsz : Builtin.Range.rangeSize 0 (n : Int) 1 = (n : Int) := by
    unfold Builtin.Range.rangeSize
    split <;> simp_all <;> omega
  rw [hsz]
  have z := R3.hold (s' := { ({ s2 with heap := s2.heap.push { cls := .type "range", data := .fields #[.int 0 s2.toks, .int n t, .int 1 (s2.toks + 1)] }, toks := s2.toks + 1 + 1 } : Shared) with heap := (s2.heap.push { cls := .type "range", data := .fields #[.int 0 s2.toks, .int n t, .int 1 (s2.toks + 1)] }).push { cls := .type "range_iterator", data := .fields #[rawInt 0, rawInt n, rawInt 1] } })
    (a := (s2.heap.push { cls := .type "range", data := .fields #[.int 0 s2.toks, .int n t, .int 1 (s2.toks + 1)] }).objs.size) (o := { cls := .type "range_iterator", data := .fields #[rawInt 0, rawInt n, rawInt 1] }) (Nat.le_refl _) (fun b o e => Heap.get?_push_of_some _ e) (Heap.get?_push_size _ rfl) rfl rfl
  have hf := R3.fresh_B (R3.fresh (Nat.le_refl _)).1
  have hB : B (s2.heap.push { cls := .type "range", data := .fields #[.int 0 s2.toks, .int n t, .int 1 (s2.toks + 1)] }).objs.size = none := by
    cases e : B (s2.heap.push { cls := .type "range", data := .fields #[.int 0 s2.toks, .int n t, .int 1 (s2.toks + 1)] }).objs.size with
    | none => rfl
    | some o => have := (le1.trans le2) _ _ e; rw [hf] at this; cases this
  refine ⟨_, _, l2, H2, rngSt F.c.lo n, rfl, (le1.trans le2).trans z.2.1, z.1, ⟨hB, base_none R.based.2 hB, ?_⟩, q⟩
  simpa using z.2.2

noncomputable def keySt (hb : Keep) (d : Addr) (n ep : Nat) (i : Nat) : ItS := fun B0 B it => B0 it = none ∧ hb it = none ∧ ∃ o, B it = some o ∧ o.cls = .type "dict_keyiterator" ∧ o.data = .fields #[.ref d, .int i 0, .int n 0, .int ep 0]
theorem keySt_mono {hb : Keep} {d : Addr} {n ep : Nat} (i : Nat) : ItMono (keySt hb d n ep i) := fun B0 B B' it le hq => by
  obtain ⟨h0, hb, o, h2, h3⟩ := hq
  exact ⟨h0, hb, o, le _ _ h2, h3⟩
theorem dictAt_of {B : Keep} {s : Shared} (R : FRel F B loc H s) {d : Addr} {kvs : List (Str × V)} {ep : Nat} (e : H.D d = some kvs) (eG : H.G d = some ep) : ∃ cs, s.heap.DictAt (PySem.strKind F.c.prog F.c.w) d cs ep ∧ RelKs B cs kvs ∧ (d == sysModules) = false ∧ ∀ p ∈ kvs, PyData.strOk p.1 = true := by
  obtain ⟨cs, ⟨o, es, ep', h1, h2, h3, h4⟩, h5, h6⟩ := dict_at R e
  obtain ⟨_, o', es', h7, h8⟩ := (R.own d).g ep eG
  rw [h1] at h7; cases h7
  rw [h3] at h8; cases h8
  exact ⟨cs, ⟨o, es, h1, h2, h3, h4⟩, h5, h6, ((R.own d).d kvs e).1⟩
theorem RelKs.at_ {κ : Type} {B : Keep} {cs : List (κ × Value)} {kvs : List (κ × V)} {i : Nat} {k : κ} {x : V} (r : RelKs B cs kvs) (h : kvs[i]? = some (k, x)) : ∃ v, cs[i]? = some (k, v) ∧ RelV B v x := by
  induction r generalizing i with
  | nil => rw [List.getElem?_nil] at h; cases h
  | cons a _ q =>
    cases i with
    | zero => cases h; exact ⟨_, rfl, a⟩
    | succ i => exact q h
theorem Nxt_keys {target : Expr} {d : Addr} {kvs : List (Str × V)} {ep i n : Nat} {k : Str} {x : V} (e : H.D d = some kvs) (eG : H.G d = some ep) (hn : kvs.length = n) (hx : kvs[i]? = some (k, x)) : Nxt F target (keySt F.c.lo d n ep i) H (some (.str k, keySt F.c.lo d n ep (i + 1))) := fun E B0 B s it loc N Y R le hq _ hY => by
  obtain ⟨h0, hb, o, h2, h3, h4⟩ := hq
  obtain ⟨cs, hm, hr, hs, hok⟩ := dictAt_of R e eG
  obtain ⟨v, e1, rv⟩ := hr.at_ hx
  have hlen := hr.length
  have hit : s.heap.IsKeyIter it d i cs.length ep := ⟨o, R.keep _ _ h2, h3, by rw [hlen, hn]; exact h4⟩
  refine wpAny_pyNext_dict_item (knd := PySem.strKind F.c.prog F.c.w) hit hm e1 fun key h' hkey hit' hs' => ?_
  obtain ⟨t, rfl⟩ := Value.isStrOf_shape hkey
  obtain ⟨o', ho', hc', hd'⟩ := id hit'
  refine letGo_keyiter (s' := { s with heap := h' }) hit' (hY _ _ (addB (dropB B it) it o') _ _ rfl (le_turn le h0) (fun _ _ r => r.turn h2 h4) (R.turnIt h2 h4 hb (fun b p hne q => (hs'.2 b hne).trans q) ho' rfl rfl) ⟨h0, hb, o', by simp [addB], hc', ?_⟩ (.str _ _ (hok _ (List.mem_of_getElem? hx))))
  rw [hd', hlen, hn]
theorem Nxt_keys_end {target : Expr} {d : Addr} {kvs : List (Str × V)} {ep i n : Nat} (hh : F.A.handled = none) (e : H.D d = some kvs) (eG : H.G d = some ep) (hn : kvs.length = n) (hx : n ≤ i) : Nxt F target (keySt F.c.lo d n ep i) H none := fun E B0 B s it loc N Y R le hq hN _ => by
  obtain ⟨h0, hb, o, h2, h3, h4⟩ := hq
  obtain ⟨cs, hm, hr, hs, hok⟩ := dictAt_of R e eG
  have hlen := hr.length
  have hit : s.heap.IsKeyIter it d i cs.length ep := ⟨o, R.keep _ _ h2, h3, by rw [hlen, hn]; exact h4⟩
  refine wpAny_pyNext_dict_end (knd := PySem.strKind F.c.prog F.c.w) hh hit hm (by rw [List.getElem?_eq_none]; omega) fun h' hs' => ?_
  exact hN _ _ rfl (le_drop le h0) (fun _ _ r => r.drop h2 h4) (R.dropIt h2 h4 hb (fun b p hne q => hs' b p hne q) rfl rfl)
theorem WIt_keys {iter : Expr} {Q : (Nat → ItS) → Loc → Hp → Prop} (h : WE F iter loc H fun X l H => ∃ d kvs, X = .ref d ∧ H.D d = some kvs ∧ ∀ ep, Q (keySt F.c.lo d kvs.length ep) l { H with G := up H.G d ep }) : WIt F iter loc H Q := fun B s R =>
  (h B s R).then fun v B1 X l1 H1 s1 le1 rv R1 ⟨d, kvs, e, eD, q⟩ => by
    subst e
    cases rv
    obtain ⟨cs, hm, hr, hs⟩ := dict_at R1 eD
    obtain ⟨ep, hm⟩ := hm.dictAt
    obtain ⟨od, es, w1, w2, w3, w4⟩ := id hm
    refine wpAny_pyIter_dict hs hm ?_
    have R2 := R1.know eD w1 w3
    have hlen := hr.length
    have z := R2.hold (s' := { s1 with heap := s1.heap.push { cls := .type "dict_keyiterator", data := .fields #[.ref d, .int 0 0, .int cs.length 0, .int ep 0] } }) (a := s1.heap.objs.size) (o := { cls := .type "dict_keyiterator", data := .fields #[.ref d, .int 0 0, .int cs.length 0, .int ep 0] }) (Nat.le_refl _) (fun b o e => Heap.get?_push_of_some _ e) (Heap.get?_push_size _ rfl) rfl rfl
    have hn := (R1.fresh (Nat.le_refl _)).1
    have h1 := R1.fresh_B hn
    have h2 : B s1.heap.objs.size = none := by
      cases e : B s1.heap.objs.size with
      | none => rfl
      | some o => rw [le1 _ _ e] at h1; cases h1
    refine ⟨_, _, _, _, keySt F.c.lo d kvs.length ep, rfl, le1.trans z.2.1, z.1, ⟨h2, base_none R.based.2 h2, _, z.2.2, rfl, ?_⟩, q ep⟩
    rw [hlen]; rfl

noncomputable abbrev enumObj (it : Addr) (i : Int) (old : Value) : Obj := { cls := .type "enumerate", dict := none, data := .fields #[.none, .bool false, .ref it, rawInt i, .none, old], slots := #[] }
theorem enum_core {A : Around} {E : Value → Shared → Prop} {B0 B : Keep} {s : Shared} {e it : Addr} {fp : List Addr} {n i : Nat} {P : Nat → Value → Prop} {St : Nat → Heap → Prop} {old : Value} {oi : Obj} {fi} {elts : List Expr} {x1} {pos : Pos} {Y : Value → Shared → Prop} {N : Shared → Prop}
    (D : Draws F.c.prog F.c.w A.in1 it fp n P St) (R : FRel F B loc H s) (le : Le B0 B) (he0 : B0 e = none) (hi0 : B0 it = none) (hbe : F.c.lo e = none) (hbi : F.c.lo it = none) (hBe : B e = some (enumObj it i old)) (hBi : B it = some oi) (hoi : oi.data = .fields fi)
    (hst : St i s.heap) (hlt : i < n) (hne : e ≠ it) (hef : e ∉ fp) (hfi : ∀ h, St (i + 1) h → ∃ o fl, h.get? it = some o ∧ o.data = .fields fl)
    (k : ∀ x v s' B' o, P i x → St (i + 1) s'.heap → Le B0 B' → FRel F B' loc H s' → B' e = some (enumObj it ((i + 1 : Nat) : Int) x) → s'.heap.get? it = some o → B' it = some o → (∀ X, RelV B x X → RelV B' v (.tup [.int i, X])) → (∀ v X, RelV B v X → RelV B' v X) → Y v s') :
    wpAny F.M A (pyNext (.ref e)) (fun r s1 => match r with | none => N s1 | some v => wpAny F.M A (letOwnedTupleGo (.Tuple elts x1 pos) (.ref e) v) (fun _ s1' => Y v s1') E s1) E s := by
  have he : IsEnum s.heap e it i old := R.keep _ _ hBe
  refine wpAny_pyNext_enum_itemD D he hst hlt hne hef fun x h' tk hP hout hst' htup hsz hk => ?_
  refine wpAny_letOwnedTupleGo_enum (s := { s with heap := h', toks := tk + 1 }) hout fun h'' he'' hs'' => ?_
  have hst2 : St (i + 1) h'' := D.frame _ _ _ hst' fun b hb o q => (hs''.2 b (by rintro rfl; exact hef hb)).trans q
  obtain ⟨o, fl, ho, hfl⟩ := hfi _ hst2
  have hTe : s.heap.objs.size ≠ e := Nat.ne_of_gt (Heap.lt_size he)
  have hTi : s.heap.objs.size ≠ it := Nat.ne_of_gt (Heap.lt_size (R.keep _ _ hBi))
  have hk2 : ∀ b o, b ≠ e → b ≠ it → s.heap.get? b = some o → h''.get? b = some o := fun b o h1 h2 q => (hs''.2 b h1).trans (hk b o h1 h2 q)
  have ht2 : h''.get? s.heap.objs.size = some { cls := .type "tuple", data := .seq #[.int i tk, x] } := (hs''.2 _ hTe).trans htup
  -- drop both
  have R1 := R.dropIt hBe rfl hbe (s' := s) (fun b o _ q => q) rfl rfl
  have hB1 : dropB B e it = some oi := by rw [dropB_ne (Ne.symm hne)]; exact hBi
  have R2 := R1.dropIt hB1 hoi hbi (s' := s) (fun b o _ q => q) rfl rfl
  have n1 : dropB (dropB B e) it e = none := by rw [dropB_ne hne]; simp [dropB]
  have n2 : dropB (dropB B e) it it = none := by simp [dropB]
  have ke := R.kept hBe
  have ki := R.kept hBi
  have hT := R.nobody (a := s.heap.objs.size) (R.fresh (Nat.le_refl _)).1
  have nT : dropB (dropB B e) it s.heap.objs.size = none := by rw [dropB_ne hTi, dropB_ne hTe]; exact hT.1
  have R3 : FRel F (dropB (dropB B e) it) loc H { s with heap := h'', toks := tk + 1 } := R2.free (fun a => a = e ∨ a = it) (fun a h => by
    rcases h with rfl | rfl
    · exact ⟨n1, ke⟩
    · exact ⟨n2, ki⟩) (fun b o hb q => hk2 b o (fun z => hb (.inl z)) (fun z => hb (.inr z)) q) rfl rfl
  obtain ⟨R4, le4⟩ := R3.take (a := e) he'' n1 ke.1 ke.2.1 ke.2.2
  have n2' : addB (dropB (dropB B e) it) e (enumObj it (i + 1) x) it = none := by unfold addB; rw [if_neg (Ne.symm hne)]; exact n2
  obtain ⟨R5, le5⟩ := R4.take (a := it) ho n2' ki.1 ki.2.1 ki.2.2
  obtain ⟨R6, le6⟩ := R5.take (a := s.heap.objs.size) ht2 (by unfold addB; rw [if_neg hTi, if_neg hTe]; exact nT) hT.2.1 hT.2.2.1 hT.2.2.2
  have tr : ∀ v X, RelV B v X → RelV _ v X := fun v X r => (((r.drop hBe rfl).drop hB1 hoi).mono le4).mono (le5.trans le6)
  refine k x _ _ _ o hP hst2 (((le_drop (le_drop le he0) hi0).trans le4).trans (le5.trans le6)) R6 ?_ ho (le6 _ _ (by simp [addB])) (fun X r => ?_) tr
  · exact le6 _ _ (le5 _ _ (by simp [addB]))
  · exact .tup (items := #[.int i tk, x]) (n := 0) (by simp [addB]) (.cons (.int _ _) (.cons (tr _ _ r) .nil))

noncomputable def enlSt (hb : Keep) (X : V) (i : Nat) : ItS := fun B0 B e => B0 e = none ∧ hb e = none ∧ ∃ it l o old, e ≠ it ∧ B0 it = none ∧ hb it = none ∧ B e = some (enumObj it i old) ∧ RelV B (.ref l) X ∧ B it = some o ∧ o.cls = .type "list_iterator" ∧ o.data = .fields #[.ref l, .int i 0]
theorem enlSt_mono {hb : Keep} {X : V} (i : Nat) : ItMono (enlSt hb X i) := fun B0 B B' e le hq => by
  obtain ⟨h0, hb, it, l, o, old, h1, h2, h3, h4, h5, h6, h7⟩ := hq
  exact ⟨h0, hb, it, l, o, old, h1, h2, h3, le _ _ h4, h5.mono le, le _ _ h6, h7⟩
theorem Nxt_enl (ok : Ok F (n + 1)) {elts : List Expr} {x1} {pos : Pos} {X x : V} {xs : List V} {i : Nat} (e : asL H X = some xs) (hx : xs[i]? = some x) : Nxt F (.Tuple elts x1 pos) (enlSt F.c.lo X i) H (some (.tup [.int i, x], enlSt F.c.lo X (i + 1))) := fun E B0 B s a loc N Y R le hq _ hY => by
  obtain ⟨h0, hb, it, l, o, old, h1, h2, h3, h4, h5, h6, h7, h8⟩ := hq
  obtain ⟨items, m, hl, hr⟩ := asL_ref R h5 e
  obtain ⟨v, e1, rv⟩ := hr.get hx
  have hi : i < items.size := by
    have := (List.getElem?_eq_some_iff.mp e1).1
    simpa using this
  have hit : s.heap.IsListIter it l i := ⟨o, R.keep _ _ h6, h7, h8⟩
  have hoit := R.keep _ _ h6
  have hoe := R.keep _ _ h4
  have hne : l ≠ it := by rintro rfl; rw [hl] at hoit; cases hoit; cases h8
  have hel : a ≠ l := by
    rintro rfl; rw [hl] at hoe
    have := congrArg Obj.data (Option.some.inj hoe); cases this
  refine enum_core (F := F) (B0 := B0) (Draws.list (prog := F.c.prog) (w := F.c.w) (A := F.A.in1) (ok.handled (by omega)) it l hne items) R le h0 h2 hb h3 h4 h6 h8 ⟨hit, hl.isList⟩ hi h1 (by simp [h1, hel]) (fun h st => let ⟨o, q1, _, q3⟩ := st.1; ⟨o, _, q1, q3⟩) ?_
  intro y v' s' B' o' hP hst le' R' he' ho' hi' hv ht
  obtain ⟨o2, q1, q2, q3⟩ := hst.1
  rw [ho'] at q1; cases q1
  have hy : y = v := by
    have : items[i]? = some v := by simpa using e1
    rw [hP] at this; exact Option.some.inj this
  subst hy
  exact hY _ _ B' v' s' rfl le' ht R' ⟨h0, hb, it, l, o', y, h1, h2, h3, he', ht _ _ h5, hi', q2, q3⟩ (hv _ rv)
theorem Nxt_enl_end (ok : Ok F (n + 1)) {target : Expr} {X : V} {xs : List V} {i : Nat} (e : asL H X = some xs) (hx : xs.length = i) : Nxt F target (enlSt F.c.lo X i) H none := fun E B0 B s a loc N Y R le hq hN _ => by
  obtain ⟨h0, hb, it, l, o, old, h1, h2, h3, h4, h5, h6, h7, h8⟩ := hq
  obtain ⟨items, m, hl, hr⟩ := asL_ref R h5 e
  have hlen := hr.length
  rw [Array.length_toList] at hlen
  have hit : s.heap.IsListIter it l i := ⟨o, R.keep _ _ h6, h7, h8⟩
  have hoit := R.keep _ _ h6
  have hne : l ≠ it := by rintro rfl; rw [hl] at hoit; cases hoit; cases h8
  have D := Draws.list (prog := F.c.prog) (w := F.c.w) (A := F.A.in1) (ok.handled (by omega)) it l hne items
  refine wpAny_pyNext_enum_endD D (R.keep _ _ h4) (by rw [hlen, hx]; exact ⟨hit, hl.isList⟩) fun h' hs' => ?_
  have R1 := R.dropIt h4 rfl hb (s' := s) (fun b o _ q => q) rfl rfl
  have hB1 : dropB B a it = some o := by rw [dropB_ne (Ne.symm h1)]; exact h6
  exact hN _ _ rfl (le_drop (le_drop le h0) h2) (fun _ _ r => (r.drop h4 rfl).drop hB1 h8) (R1.dropIt hB1 h8 h3 (fun b p hne q => hs' b p hne q) rfl rfl)

noncomputable def entSt (hb : Keep) (xs : List V) (i : Nat) : ItS := fun B0 B e => B0 e = none ∧ hb e = none ∧ ∃ it l o old, e ≠ it ∧ B0 it = none ∧ hb it = none ∧ B e = some (enumObj it i old) ∧ RelV B (.ref l) (.tup xs) ∧ B it = some o ∧ o.cls = .type "tuple_iterator" ∧ o.data = .fields #[.ref l, .int i 0]
theorem entSt_mono {hb : Keep} {xs : List V} (i : Nat) : ItMono (entSt hb xs i) := fun B0 B B' e le hq => by
  obtain ⟨h0, hb, it, l, o, old, h1, h2, h3, h4, h5, h6, h7⟩ := hq
  exact ⟨h0, hb, it, l, o, old, h1, h2, h3, le _ _ h4, h5.mono le, le _ _ h6, h7⟩
theorem Nxt_ent (ok : Ok F (n + 1)) {elts : List Expr} {x1} {pos : Pos} {x : V} {xs : List V} {i : Nat} (hx : xs[i]? = some x) : Nxt F (.Tuple elts x1 pos) (entSt F.c.lo xs i) H (some (.tup [.int i, x], entSt F.c.lo xs (i + 1))) := fun E B0 B s a loc N Y R le hq _ hY => by
  obtain ⟨h0, hb, it, l, o, old, h1, h2, h3, h4, h5, h6, h7, h8⟩ := hq
  obtain ⟨items, m, ht, hl, hr⟩ := tup_at R h5
  obtain ⟨v, e1, rv⟩ := hr.get hx
  have hi : i < items.size := by
    have := (List.getElem?_eq_some_iff.mp e1).1
    simpa using this
  have hit : s.heap.IsTupleIter it l i := ⟨o, R.keep _ _ h6, h7, h8⟩
  have hoit := R.keep _ _ h6
  have hoe := R.keep _ _ h4
  have hne : l ≠ it := by rintro rfl; rw [ht] at hoit; cases hoit; cases h8
  have hel : a ≠ l := by
    rintro rfl; rw [ht] at hoe
    have := congrArg Obj.data (Option.some.inj hoe); cases this
  refine enum_core (F := F) (B0 := B0) (draws_tuple (prog := F.c.prog) (w := F.c.w) (A := F.A.in1) (ok.handled (by omega)) it l hne items) R le h0 h2 hb h3 h4 h6 h8 ⟨hit, hl⟩ hi h1 (by simp [h1, hel]) (fun h st => let ⟨o, q1, _, q3⟩ := st.1; ⟨o, _, q1, q3⟩) ?_
  intro y v' s' B' o' hP hst le' R' he' ho' hi' hv ht
  obtain ⟨o2, q1, q2, q3⟩ := hst.1
  rw [ho'] at q1; cases q1
  have hy : y = v := by
    have : items[i]? = some v := by simpa using e1
    rw [hP] at this; exact Option.some.inj this
  subst hy
  exact hY _ _ B' v' s' rfl le' ht R' ⟨h0, hb, it, l, o', y, h1, h2, h3, he', ht _ _ h5, hi', q2, q3⟩ (hv _ rv)
theorem Nxt_ent_end (ok : Ok F (n + 1)) {target : Expr} {xs : List V} {i : Nat} (hx : xs.length = i) : Nxt F target (entSt F.c.lo xs i) H none := fun E B0 B s a loc N Y R le hq hN _ => by
  obtain ⟨h0, hb, it, l, o, old, h1, h2, h3, h4, h5, h6, h7, h8⟩ := hq
  obtain ⟨items, m, ht, hl, hr⟩ := tup_at R h5
  have hlen := hr.length
  rw [Array.length_toList] at hlen
  have hit : s.heap.IsTupleIter it l i := ⟨o, R.keep _ _ h6, h7, h8⟩
  have hoit := R.keep _ _ h6
  have hne : l ≠ it := by rintro rfl; rw [ht] at hoit; cases hoit; cases h8
  have D := draws_tuple (prog := F.c.prog) (w := F.c.w) (A := F.A.in1) (ok.handled (by omega)) it l hne items
  refine wpAny_pyNext_enum_endD D (R.keep _ _ h4) (by rw [hlen, hx]; exact ⟨hit, hl⟩) fun h' hs' => ?_
  have R1 := R.dropIt h4 rfl hb (s' := s) (fun b o _ q => q) rfl rfl
  have hB1 : dropB B a it = some o := by rw [dropB_ne (Ne.symm h1)]; exact h6
  exact hN _ _ rfl (le_drop (le_drop le h0) h2) (fun _ _ r => (r.drop h4 rfl).drop hB1 h8) (R1.dropIt hB1 h8 h3 (fun b p hne q => hs' b p hne q) rfl rfl)
end
end Lay
end
noncomputable section
open PySem PySem.W PyProof.Rows PySem.Calls
set_option Elab.async false
set_option maxRecDepth 100000
set_option linter.all false
namespace Lay
section
variable {F : Fx} {n : Nat} {loc : Loc} {H : Hp}

theorem WIt_enum {x : Str} {np pos : Pos} {arg : Expr} {Q : (Nat → ItS) → Loc → Hp → Prop}
    (h : WE F (.Name x np) loc H fun f l1 H1 => f = .raw (.type "enumerate") ∧ WEs F pos [arg] l1 H1 fun Xs l2 H2 => ∃ X, Xs = [X] ∧ ((∃ xs, asL H2 X = some xs ∧ Q (enlSt F.c.lo X) l2 H2) ∨ (∃ xs, X = .tup xs ∧ Q (entSt F.c.lo xs) l2 H2)))
    (hns : (backTo pos (starEach [arg] F.env)).any (·.1) = false := by rfl) : WIt F (.Call (.Name x np) [arg] [] pos) loc H Q := fun B s R => by
  refine wpAny_Call_ofName ((h B s R).then fun f B1 X l1 H1 s1 le1 rf R1 ⟨hX, h1⟩ => ?_)
  subst hX
  cases rf
  refine callWith_gen hns (evalArgs_gen hns ((h1 B1 s1 R1).then fun vs B2 Xs l2 H2 s2 le2 rv R2 ⟨X, hXs, q⟩ => ?_))
  subst hXs
  cases rv with | cons ra r2 => ?_
  cases r2
  rename_i va
  obtain ⟨k, hk⟩ := KeepOk_raw (F := F) (loc := l2) (H := H2) (v := .type "enumerate") (by intro a h; cases h) B2 s2 (.type "enumerate") R2 (.raw _)
  refine ⟨⟨k, fun Q' q' => hk Q' q'⟩, ?_⟩
  have le := le1.trans le2
  have fin : ∀ (h' : Heap) (oi : Obj), IsEnum h' (s2.heap.objs.size + 1) s2.heap.objs.size 0 .none → h'.get? s2.heap.objs.size = some oi → (∀ b o, s2.heap.get? b = some o → h'.get? b = some o) →
      ∃ B', Le B2 B' ∧ FRel F B' l2 H2 { s2 with heap := h' } ∧ B (s2.heap.objs.size + 1) = none ∧ B s2.heap.objs.size = none ∧ B' (s2.heap.objs.size + 1) = some (enumObj s2.heap.objs.size 0 .none) ∧ B' s2.heap.objs.size = some oi := by
    intro h' oi he hi hkp
    have R3 : FRel F B2 l2 H2 { s2 with heap := h' } := R2.grow (s' := { s2 with heap := h' }) hkp rfl rfl
    have n1 := R2.nobody (a := s2.heap.objs.size) (R2.fresh (Nat.le_refl _)).1
    have n2 := R2.nobody (a := s2.heap.objs.size + 1) (R2.fresh (Nat.le_succ _)).1
    obtain ⟨R4, le4⟩ := R3.take hi n1.1 n1.2.1 n1.2.2.1 n1.2.2.2
    obtain ⟨R5, le5⟩ := R4.take (a := s2.heap.objs.size + 1) he (by unfold addB; rw [if_neg (Nat.succ_ne_self _)]; exact n2.1) n2.2.1 n2.2.2.1 n2.2.2.2
    have nB : ∀ a, B2 a = none → B a = none := fun a e => by
      cases z : B a with
      | none => rfl
      | some o => rw [le _ _ z] at e; cases e
    exact ⟨_, le4.trans le5, R5, nB _ n2.1, nB _ n1.1, by simp [addB], le5 _ _ (by simp [addB])⟩
  rcases q with ⟨xs, e, q⟩ | ⟨xs, e, q⟩
  · obtain ⟨a, items, m, rfl, hl, hr⟩ := asL_at R2 ra e
    refine call_enumerate_1 hl fun h' he hit hsz hkp => ?_
    refine wpAny_pyIter_enum (s := { s2 with heap := h' }) he ?_
    obtain ⟨oi, hi, hc, hd⟩ := id hit
    obtain ⟨B', le', R', b1, b2, b3, b4⟩ := fin h' oi he hi hkp
    exact ⟨B', _, l2, H2, enlSt F.c.lo X, rfl, le.trans le', R', ⟨b1, base_none R.based.2 b1, _, a, oi, .none, Nat.succ_ne_self _, b2, base_none R.based.2 b2, b3, ra.mono le', b4, hc, hd⟩, q⟩
  · subst e
    cases ra with | @tup a items m _ hb hr => ?_
    refine call_enum_tuple (R2.keep _ _ hb) fun h' he hit hsz hkp => ?_
    refine wpAny_pyIter_enum (s := { s2 with heap := h' }) he ?_
    obtain ⟨oi, hi, hc, hd⟩ := id hit
    obtain ⟨B', le', R', b1, b2, b3, b4⟩ := fin h' oi he hi hkp
    exact ⟨B', _, l2, H2, entSt F.c.lo xs, rfl, le.trans le', R', ⟨b1, base_none R.based.2 b1, _, a, oi, .none, Nat.succ_ne_self _, b2, base_none R.based.2 b2, b3, (RelV.tup hb hr).mono le', b4, hc, hd⟩, q⟩

theorem cell_at {B : Keep} {s : Shared} (R : FRel F B loc H s) {a : Addr} {ov : Option V} (e : H.C a = some ov) : ∃ v, s.heap.IsCell a v ∧ relOpt B v ov := by
  obtain ⟨o, v, h1, h2, h3⟩ := (R.own a).c ov e
  exact ⟨v, ⟨o, h1, h2⟩, h3⟩
theorem WE_cell (ok : Ok F n) {x : Str} {pos : Pos} {i : Nat} {a : Addr} {X : V} {Q : V → Loc → Hp → Prop} (hx : look F.nm x = some (i, .cell)) (hc : F.env.cells.lookup x = some a) (e : H.C a = some (some X)) (q : Q X loc H) : WE F (.Name x pos) loc H Q := fun B s R => by
  obtain ⟨h1, h2⟩ := look_spec hx
  obtain ⟨v, hv, r⟩ := cell_at R e
  cases v with
  | none => exact r.elim
  | some v => exact wpAny_Name (wpAny_loadName_cell ok.fn h2 hc hv (Post.pure r R q)) (not_dbg ok h2)
theorem PW_storeC (ok : Ok F n) {x : Str} {i : Nat} {a : Addr} {X : V} {ov : Option V} {v : Value} {B : Keep} {s : Shared} {P : Unit → Shared → Prop} (hx : look F.nm x = some (i, .cell)) (hc : F.env.cells.lookup x = some a) (e : H.C a = some ov) (R : FRel F B loc H s) (r : RelV B v X)
    (q : ∀ s', FRel F B loc { H with C := up H.C a (some X) } s' → P () s') : wpAny F.M F.A (storeName F.env x v) P F.E s := by
  obtain ⟨h1, h2⟩ := look_spec hx
  obtain ⟨v0, hv, _⟩ := cell_at R e
  refine wpAny_storeName_cell ok.fn h2 hc hv fun h' ⟨o, ho, hd⟩ hs => q _ (R.setC (s' := { s with heap := h' }) (ov' := some X) e (fun b o hb z => (hs.2 b hb).trans z) ho hd r rfl rfl)
theorem WS_AssignC (ok : Ok F n) {x : Str} {i : Nat} {a : Addr} {e : Expr} {p pos : Pos} {Q : Fl → Loc → Hp → Prop} (hx : look F.nm x = some (i, .cell)) (hc : F.env.cells.lookup x = some a) (h : WE F e loc H fun X l1 H1 => (∃ ov, H1.C a = some ov) ∧ Q .next l1 { H1 with C := up H1.C a (some X) })
    (hs : swapsWith e (some (.Name x p)) pos.line F.env = pure false := by rfl) : WS F (.Assign [.Name x p] e pos) loc H Q := fun B s R =>
  wpAny_Assign_Name ((h B s R).then fun a B1 X l1 H1 s1 le1 ra R1 ⟨⟨ov, e⟩, q⟩ => PW_storeC ok hx hc e R1 ra fun s' R' => (Post.pure .next R' q).lift le1) hs

noncomputable abbrev CFx (F : Fx) (scope : Scope) (cl : List (Str × Addr)) (C : Addr) (sv : List (Addr × Obj)) (E : Value → Shared → Prop) : Fx := ⟨F.c.sv sv, F.A, compEnvC scope cl C F.env, E⟩
noncomputable def nones (scope : Scope) : Loc := scope.names.map fun _ => none
noncomputable def ItSelf (F : Fx) (St : ItS) : Prop := ∀ (E : Value → Shared → Prop) B0 B s it loc H (Q : Value → Shared → Prop), FRel F B loc H s → St B0 B it → Q (.ref it) s → wpAny F.M F.A (pyIter (.ref it)) Q E s
theorem lstSt_self {hb : Keep} {X : V} {i : Nat} : ItSelf F (lstSt hb X i) := fun E B0 B s it loc H Q R ⟨h0, hb, l, o, h1, h2, h3, h4⟩ q => wpAny_pyIter_listiter ⟨o, R.keep _ _ h2, h3, h4⟩ q
theorem rngSt_self {hb : Keep} {n i : Nat} : ItSelf F (rngSt hb n i) := fun E B0 B s it loc H Q R ⟨h0, hb, h2⟩ q => wpAny_pyIter_rangeiter (R.keep _ _ h2) q
noncomputable def CompTurn (F : Fx) (target elt : Expr) (ifs : List Expr) (l : Loc) (H : Hp) (x : V) (out : Option V) : Prop :=
  WA F target x l H fun l1 H1 => H1 = H ∧ (match ifs with
    | [] => WE F elt l1 H fun Y _ H2 => H2 = H ∧ out = some Y
    | [c] => WB F c l1 H fun b l2 H2 => H2 = H ∧ (b = true → WE F elt l2 H fun Y _ H3 => H3 = H ∧ out = some Y) ∧ (b = false → out = none)
    | _ => False)
noncomputable def CompOk (F : Fx) (n : Nat) (target elt : Expr) (ifs : List Expr) (scope : Scope) (cl : List (Str × Addr)) (St : Nat → ItS) (xs : List V) (f : V → Option V) (H : Hp) : Prop :=
  (∀ i, ItMono (St i)) ∧ xs.length ≤ 100000 ∧ ∀ C sv E, Ok (CFx F scope cl C sv E) n → ItSelf (CFx F scope cl C sv E) (St 0) ∧
    (∀ i x, xs[i]? = some x → Nxt (CFx F scope cl C sv E) target (St i) H (some (x, St (i + 1))) ∧ CompTurn (CFx F scope cl C sv E) target elt ifs (nones scope) H x (f x)) ∧ Nxt (CFx F scope cl C sv E) target (St xs.length) H none

theorem nones_sub {scope : Scope} {l : Loc} : LocSub (nones scope) l := fun i X h => by
  unfold nones at h
  rw [List.getElem?_map] at h
  cases e : scope.names[i]? with
  | none => rw [e] at h; cases h
  | some p => rw [e] at h; cases h

theorem Rel.claim {c : Base} {L : Addr} {nm : List (Str × NameKind)} {B : Keep} {s : Shared} {D : Addr} {items : Array Value} {k : Nat} {sv : List (Addr × Obj)} {xs : List V} (R : Rel (c.sv ((D, lstObj items k) :: sv)) L nm B loc H s) (hs : ∀ p ∈ sv, p.1 ≠ D) (hl : c.lim < D) (r : RelVs B items.toList xs) :
    Rel (c.sv sv) L nm B loc { H with L := up H.L D xs } s := by
  obtain ⟨⟨o, h1, h2⟩, h3, h4, h5⟩ := R.sv _ (.head _)
  obtain rfl := h2.seq rfl
  have R1 : Rel (c.sv sv) L nm B loc H s := ⟨R.keep, R.based, fun a => (R.own a).unsv.sv, R.lB, R.lH, R.ns, R.gens, R.os, R.lim, fun p hp => R.sv p (.tail _ hp)⟩
  obtain ⟨x1, x2, x3, x4, x5, x6⟩ := not_own h4
  refine R1.chg h3 h5 hs (fun b o _ e => e) (fun b hb => ⟨up_same _ _ _ hb, rfl, rfl, rfl, rfl, rfl, rfl⟩) ⟨fun _ => ⟨h3, hl⟩, ?_, ?_, ?_, ?_, ?_, ?_, fun _ => x3, fun ep e => absurd (.inr (.inl ((R.own D).g ep e).1)) h4⟩ rfl rfl
  · intro y hy
    simp only [up_self, Option.some.injEq] at hy
    subst hy; exact ⟨items, k, h1, r⟩
  · intro y hy; rw [x2] at hy; cases hy
  · intro y hy; rw [x3] at hy; cases hy
  · intro y hy; rw [x4] at hy; cases hy
  · intro y hy; rw [x5] at hy; cases hy
  · intro y hy; rw [x6] at hy; cases hy
theorem Rel.aside {c : Base} {L : Addr} {nm : List (Str × NameKind)} {B : Keep} {s : Shared} {D : Addr} {sv : List (Addr × Obj)} {xs : List V} (R : Rel (c.sv sv) L nm B loc H s) (e : H.L D = some xs) :
    ∃ items k, Rel (c.sv ((D, lstObj items k) :: sv)) L nm B loc { H with L := un H.L D } s ∧ RelVs B items.toList xs := by
  obtain ⟨items, k, hl, hr⟩ := (R.own D).l xs e
  have hw : H.Own D := .inl (by rw [e]; simp)
  obtain ⟨_, z2, z3, z4, z5⟩ := (R.own D).none_of hl
  have y1 := (z2 (by intro h; injection h with h; exact absurd h (by decide))).1
  have y2 := (z2 (by intro h; injection h with h; exact absurd h (by decide))).2
  have y3 := z3 (by intro h; injection h with h; exact absurd h (by decide))
  have y4 := z4 (by intro C h; cases h)
  have y5 := z5 (by intro v h; cases h)
  have R1 := R.weak (unL_sub (a := D)) (LocSub.refl _)
  refine ⟨items, k, ⟨R1.keep, R1.based, fun a => (R1.own a).unsv.sv, R1.lB, R1.lH, R1.ns, R1.gens, R1.os, R1.lim, fun p hp => ?_⟩, hr⟩
  cases hp with
  | head _ => exact ⟨⟨_, hl, .inl ⟨rfl, fun _ => rfl⟩⟩, ((R.own D).out hw).1, by unfold Hp.Own; simp [y1, y2, y3, y4, y5], R.own_ne_L hw⟩
  | tail _ hp => exact R1.sv p hp
end
end Lay
end
noncomputable section
open PySem PySem.W PyProof.Rows PySem.Calls
set_option Elab.async false
set_option maxRecDepth 100000
set_option linter.all false
namespace Lay
theorem Rel.svmem {c : Base} {L : Addr} {nm : List (Str × NameKind)} {B : Keep} {loc : Loc} {H : Hp} {s : Shared} {l1 l2 : List (Addr × Obj)} (R : Rel (c.sv l1) L nm B loc H s) (h : ∀ p ∈ l2, p ∈ l1) : Rel (c.sv l2) L nm B loc H s :=
  ⟨R.keep, R.based, fun a => (R.own a).unsv.sv, R.lB, R.lH, R.ns, R.gens, R.os, R.lim, fun p hp => R.sv p (h p hp)⟩
theorem Rel.swap {c : Base} {L C : Addr} {nm nmC : List (Str × NameKind)} {B : Keep} {loc loc' : Loc} {H : Hp} {s : Shared} {oL : Obj} {sv : List (Addr × Obj)} (R : Rel (c.sv ((L, oL) :: sv)) C nmC B loc' H s) (hs : ∀ p ∈ sv, p.1 ≠ L)
    (hL : ∃ m, (∃ es ep, oL.data = .dict es ep ∧ StrKeys es ∧ ∀ name, nsFind es name = m name) ∧ LocOk B nm loc m) : ∃ oC, Rel (c.sv ((C, oC) :: sv)) L nm B loc H s ∧ ∃ m, s.heap.Ns C m := by
  obtain ⟨mC, ⟨oC, esC, epC, g1, g2, g3⟩, _⟩ := R.ns
  obtain ⟨⟨o, h1, h2⟩, h3, h4, h5⟩ := R.sv _ (.head _)
  obtain ⟨m, ⟨es, ep, k1, k2⟩, hl⟩ := hL
  refine ⟨oC, ⟨R.keep, R.based, fun a => (R.own a).unsv.sv, h3, h4, ⟨m, ⟨o, es, ep, h1, (h2.dict k1).trans k1, k2⟩, hl⟩, R.gens, R.os, R.lim, fun p hp => ?_⟩, mC, oC, esC, epC, g1, g2, g3⟩
  cases hp with
  | head _ => exact ⟨⟨oC, g1, .inl ⟨rfl, fun _ => rfl⟩⟩, R.lB, R.lH, Ne.symm h5⟩
  | tail _ hp =>
    obtain ⟨x1, x2, x3, x4⟩ := R.sv p (.tail _ hp)
    exact ⟨x1, x2, x3, hs p hp⟩

section
variable {F : Fx} {n : Nat} {loc : Loc} {H : Hp}

noncomputable def CompTurnG (F : Fx) (target elt : Expr) (ifs : List Expr) (l : Loc) (HH : Option V → Hp) (ov : Option V) (x : V) (out : Option V) : Prop :=
  WA F target x l (HH ov) fun l1 H1 => ∃ ov1, H1 = HH ov1 ∧ (match ifs with
    | [] => WE F elt l1 H1 fun Y _ H2 => H2 = HH ov1 ∧ out = some Y
    | [c] => WB F c l1 H1 fun b l2 H2 => H2 = HH ov1 ∧ (b = true → WE F elt l2 H2 fun Y _ H3 => H3 = HH ov1 ∧ out = some Y) ∧ (b = false → out = none)
    | _ => False)
theorem CompTurn.g {target elt : Expr} {ifs : List Expr} {l : Loc} {ov : Option V} {x : V} {out : Option V} (h : CompTurn F target elt ifs l H x out) : CompTurnG F target elt ifs l (fun _ => H) ov x out :=
  fun B s v R rv => (h B s v R rv).mono fun _ l1 H1 ⟨e, h⟩ => ⟨none, e, by
    subst e
    cases ifs with
    | nil => exact h
    | cons c r =>
      cases r with
      | nil => exact WB.mono h fun b l2 H2 ⟨e, h1, h2⟩ => ⟨e, fun hb => by rw [e]; exact h1 hb, h2⟩
      | cons d r => exact h⟩
noncomputable def CR (F : Fx) (scope : Scope) (C D : Addr) (oL : Obj) (HH : Option V → Hp) (items : Array Value) (kk : Nat) (ov : Option V) (l : Loc) (B : Keep) (s : Shared) : Prop :=
  Rel (F.c.sv ((D, lstObj items kk) :: (F.L, oL) :: F.c.saved)) C (relabel scope F.env).names B l (HH ov) s
inductive CI (xs : List V) (f : V → Option V) (B0 B : Keep) (St : Nat → ItS) (a : Addr) (R : Array Value → Nat → Option V → Loc → Keep → Shared → Prop) (k : Nat) (s : Shared) : Prop
  | mk (i : Nat) (items : Array Value) (kk : Nat) (ov : Option V) (l : Loc) (B' : Keep) (_ : i + k = xs.length) (_ : Le B0 B') (_ : Tr B B') (_ : R items kk ov l B' s) (_ : RelVs B' items.toList ((xs.take i).filterMap f)) (_ : St i B0 B' a) : CI xs f B0 B St a R k s
theorem Tr.relVs {B1 B2 : Keep} {vs : List Value} {ys : List V} (h : Tr B1 B2) : RelVs B1 vs ys → RelVs B2 vs ys := by
  induction ys generalizing vs with
  | nil => intro r; cases r; exact .nil
  | cons y ys ih => intro r; cases r with | cons a r => exact .cons (h _ _ a) (ih r)
theorem take_fm {xs : List V} {f : V → Option V} {i : Nat} {x : V} (hx : xs[i]? = some x) : (xs.take (i + 1)).filterMap f = (xs.take i).filterMap f ++ (f x).toList := by
  rw [List.take_add_one, hx, List.filterMap_append]
  cases hfx : f x <;> simp [hfx]
theorem take_fml {xs : List V} {f : V → Option V} {i : Nat} (h : xs.length ≤ 100000) : ((xs.take i).filterMap f).length ≤ 1000000 := by
  have h1 := List.length_filterMap_le f (xs.take i)
  have h3 : (xs.take i).length ≤ xs.length := by rw [List.length_take]; omega
  omega
theorem comp_emit {scope : Scope} {C D : Addr} {oL : Obj} {HH : Option V → Hp} (hHD : ∀ ov, (HH ov).L D = none) (hs : ∀ p ∈ (F.L, oL) :: F.c.saved, p.1 ≠ D) (hl : F.c.lim < D) {E : Value → Shared → Prop} {s' : Shared} {B' : Keep} {l' : Loc} {items : Array Value} {kk : Nat} {ov : Option V} {acc : List V} {y : Value} {Y : V} {P : Value → Shared → Prop}
    (R : CR F scope C D oL HH items kk ov l' B' s') (r : RelVs B' items.toList acc) (hz : acc.length ≤ 1000000) (ry : RelV B' y Y)
    (k : ∀ v s'' B'' l'' items' kk', Le B' B'' → CR F scope C D oL HH items' kk' ov l'' B'' s'' → RelVs B'' items'.toList (acc ++ [Y]) → P v s'') :
    wpAny F.M F.A (call (.builtin "list.append") [.ref D, y]) P E s' := by
  have R4 := Rel.claim R hs hl r
  have hHD := hHD ov
  unfold CR at k
  generalize HH ov = H at R4 k hHD
  have hc := Call_append (F := CFx F scope [] C ((F.L, oL) :: F.c.saved) E) (loc := l') (H := { H with L := up H.L D acc }) (a := D) (xs := acc) (Y := Y) (Q := fun X l2 H2 => H2 = { H with L := up (up H.L D acc) D (acc ++ [Y]) }) (by simp) hz rfl
  refine (hc B' s' _ [.ref D, y] R4 (.raw _) (.cons (.ref D) (.cons ry .nil))).then fun v B2 X l2 H2 s2 le2 _ R5 q => ?_
  subst q
  obtain ⟨i2, k2, R6, r6⟩ := R5.aside (D := D) (xs := acc ++ [Y]) (by simp)
  have e1 : un (up (up H.L D acc) D (acc ++ [Y])) D = H.L := by
    funext b
    by_cases z : b = D
    · subst z; simp [hHD]
    · simp [un, up, z]
  have R6 : Rel (F.c.sv ((D, lstObj i2 k2) :: (F.L, oL) :: F.c.saved)) C (relabel scope F.env).names B2 l2 ⟨un (up (up H.L D acc) D (acc ++ [Y])) D, H.D, H.P, H.S, H.I, H.C, H.G⟩ s2 := R6
  rw [e1] at R6
  exact k v s2 B2 l2 i2 k2 le2 R6 r6
theorem comp_turns {elt target iter : Expr} {ifs : List Expr} {scope : Scope} {pos : Pos} {cl : List (Str × Addr)} {St : Nat → ItS} {xs : List V} {f : V → Option V} (hifs : ifs = [] ∨ ∃ c, ifs = [c]) (Kmono : ∀ i, ItMono (St i)) (Klen : xs.length ≤ 100000)
    {C D : Addr} {oL : Obj} {HH : Option V → Hp} (hHD : ∀ ov, (HH ov).L D = none) (hs : ∀ p ∈ (F.L, oL) :: F.c.saved, p.1 ≠ D) (hl : F.c.lim < D)
    (Kt : ∀ o E, (∀ i x ov, xs[i]? = some x → Nxt (CFx F scope cl C ((D, o) :: (F.L, oL) :: F.c.saved) E) target (St i) (HH ov) (some (x, St (i + 1))) ∧ CompTurnG (CFx F scope cl C ((D, o) :: (F.L, oL) :: F.c.saved) E) target elt ifs (nones scope) HH ov x (f x)) ∧ ∀ ov, Nxt (CFx F scope cl C ((D, o) :: (F.L, oL) :: F.c.saved) E) target (St xs.length) (HH ov) none)
    {B0 B : Keep} (le : Le B0 B) {a : Addr} (st : St 0 B0 B a) {RR : Result → Shared → Prop}
    (fin : ∀ (s' : Shared) (B' : Keep) (l' : Loc) (items : Array Value) (kk : Nat) (ov : Option V), Le B0 B' → CR F scope C D oL HH items kk ov l' B' s' → RelVs B' items.toList (xs.filterMap f) → Tr B B' → RR (.ok .next) s')
    {i0 : Array Value} {k0 : Nat} {ov0 : Option V} {s3 : Shared} (R3 : CR F scope C D oL HH i0 k0 ov0 (nones scope) B s3) (r0 : RelVs B i0.toList []) :
    codeAny F.M F.A (.compLoop (.ListComp elt [⟨target, iter, ifs, 0⟩] scope pos) 0 (.ref a) (.ref D) (compEnvC scope cl C F.env)) RR s3 := by
  have I0 : CI xs f B0 B St a (CR F scope C D oL HH) xs.length s3 := ⟨0, i0, k0, ov0, _, B, by omega, le, fun _ _ r => r, R3, by simpa using r0, st⟩
  have weakC : ∀ {s' : Shared} {B' : Keep} {l' : Loc} {c : Base} {K : Hp}, Rel c C (relabel scope F.env).names B' l' K s' → Rel c C (relabel scope F.env).names B' (nones scope) K s' := fun R' => R'.weak (Hp.Sub.refl _) nones_sub
  have step : ∀ {E : Value → Shared → Prop} {k i : Nat} {x Y : V} {y : Value} {items : Array Value} {kk : Nat} {ov : Option V} {s3 : Shared} {B' B3 : Keep} {l3 : Loc}, i + (k + 1) = xs.length → xs[i]? = some x → f x = some Y → Le B0 B' → Tr B B' → RelVs B' items.toList ((xs.take i).filterMap f) → St (i + 1) B0 B' a → Le B' B3 →
      CR F scope C D oL HH items kk ov l3 B3 s3 → RelV B3 y Y → wpAny F.M F.A (call (.builtin "list.append") [.ref D, y]) (fun _ s5 => ∃ m, m < k + 1 ∧ CI xs f B0 B St a (CR F scope C D oL HH) m s5) E s3 := by
    intro E k i x Y y items kk ov s3 B' B3 l3 hik hx hf le' tr r' st' le3 R3 ry
    refine comp_emit hHD hs hl R3 (r'.mono le3) (take_fml Klen) ry fun v s'' B'' l'' items' kk' le'' R'' r'' => ⟨k, Nat.lt_succ_self _, i + 1, items', kk', ov, l'', B'', by omega, (le'.trans le3).trans le'', (tr.trans (Tr.of le3)).trans (Tr.of le''), R'', ?_, Kmono _ _ _ _ _ (le3.trans le'') st'⟩
    rw [take_fm hx, hf]; exact r''
  have hend : ∀ {E : Value → Shared → Prop} {items : Array Value} {kk : Nat} {ov : Option V} {s' : Shared} {B' : Keep} {l' : Loc} {P : Value → Shared → Prop}, Le B0 B' → Tr B B' → CR F scope C D oL HH items kk ov l' B' s' → RelVs B' items.toList (xs.filterMap f) → St xs.length B0 B' a →
      wpAny F.M F.A (pyNext (.ref a)) (fun r s1 => match r with | none => RR (.ok .next) s1 | some v => wpAny F.M F.A (letOwnedTupleGo target (.ref a) v) (fun _ s1' => P v s1') E s1) E s' := by
    intro E items kk ov s' B' l' P le' tr R' r' st'
    refine (Kt (lstObj items kk) E).2 ov _ B0 B' s' a l' _ _ R' le' st' ?_ ?_
    · intro B2 s2 _ le2 tr2 R2
      exact fin s2 B2 l' items kk ov le2 R2 (tr2.relVs r') (tr.trans tr2)
    · intro X St' B2 v s2 e; cases e
  have end0 : ∀ {i : Nat} {items : Array Value} {B' : Keep}, i + 0 = xs.length → RelVs B' items.toList ((xs.take i).filterMap f) → St i B0 B' a → RelVs B' items.toList (xs.filterMap f) ∧ St xs.length B0 B' a := by
    intro i items B' e r st
    obtain rfl : i = xs.length := e
    rw [List.take_length] at r
    exact ⟨r, st⟩
  rcases hifs with rfl | ⟨c, rfl⟩
  · refine kcp_loop (CI xs f B0 B St a (CR F scope C D oL HH)) ?_ xs.length I0
    rintro k s' ⟨i, items, kk, ov, l', B', hik, le', tr, R', r', st'⟩
    cases k with
    | zero => exact hend le' tr R' (end0 hik r' st').1 (end0 hik r' st').2
    | succ k =>
      have hi : i < xs.length := by omega
      have hx : xs[i]? = some xs[i] := List.getElem?_eq_getElem hi
      generalize xs[i] = x at hx
      obtain ⟨hn, ht⟩ := (Kt (lstObj items kk) (notedBy F.M F.A (compEnvC scope cl C F.env) fun e s' => RR (.error e) s')).1 i _ ov hx
      refine hn _ B0 B' s' a l' _ _ R' le' st' ?_ ?_
      · intro B2 s2 e; cases e
      · intro X St' B2 v s2 e le2 tr2 R2 st2 rv
        cases e
        refine (ht B2 s2 v (weakC R2) rv).then fun _ B3 _ l3 H3 s3 le3 _ R3' h3 => ?_
        obtain ⟨ov1, rfl, h3⟩ := h3
        refine (h3 B3 s3 R3').then fun y B4 Y l4 H4 s4 le4 ry R4 h4 => ?_
        obtain ⟨rfl, h4⟩ := h4
        exact step hik hx h4 le2 (tr.trans tr2) (tr2.relVs r') st2 (le3.trans le4) R4 ry
  · refine kct_loop (CI xs f B0 B St a (CR F scope C D oL HH)) ?_ xs.length I0
    rintro k s' ⟨i, items, kk, ov, l', B', hik, le', tr, R', r', st'⟩
    cases k with
    | zero => exact hend le' tr R' (end0 hik r' st').1 (end0 hik r' st').2
    | succ k =>
      have hi : i < xs.length := by omega
      have hx : xs[i]? = some xs[i] := List.getElem?_eq_getElem hi
      generalize xs[i] = x at hx
      obtain ⟨hn, ht⟩ := (Kt (lstObj items kk) (notedBy F.M F.A (compEnvC scope cl C F.env) fun e s' => RR (.error e) s')).1 i _ ov hx
      refine hn _ B0 B' s' a l' _ _ R' le' st' ?_ ?_
      · intro B2 s2 e; cases e
      · intro X St' B2 v s2 e le2 tr2 R2 st2 rv
        cases e
        refine (ht B2 s2 v (weakC R2) rv).then fun _ B3 _ l3 H3 s3 le3 _ R3' h3 => ?_
        obtain ⟨ov1, rfl, h3⟩ := h3
        refine (h3 B3 s3 R3').then fun bv B5 b l5 H5 s5 le5 eb R5 h5 => ?_
        subst eb
        obtain ⟨rfl, ht, hf⟩ := h5
        cases bv with
        | false =>
          simp only [Bool.false_eq_true, if_false]
          refine ⟨k, Nat.lt_succ_self _, i + 1, items, kk, ov1, _, B5, by omega, le2.trans (le3.trans le5), (tr.trans tr2).trans (Tr.of (le3.trans le5)), R5, ?_, Kmono _ _ _ _ _ (le3.trans le5) st2⟩
          rw [take_fm hx, hf rfl]; simpa using (tr2.relVs r').mono (le3.trans le5)
        | true =>
          simp only [if_true]
          refine (ht rfl B5 s5 R5).then fun y B4 Y l4 H4 s4 le4 ry R4 h4 => ?_
          obtain ⟨rfl, h4⟩ := h4
          exact step hik hx h4 le2 (tr.trans tr2) (tr2.relVs r') st2 (le3.trans (le5.trans le4)) R4 ry
theorem comp_new {B0 B : Keep} {s : Shared} {l : Loc} (R : FRel F B l H s) {P : Value → Shared → Prop}
    (h : ∀ D s1 i0 k0, Rel (F.c.sv ((D, lstObj i0 k0) :: F.c.saved)) F.L F.nm B l H s1 → RelVs B i0.toList [] → F.c.lim < D → (∀ p ∈ F.c.saved, p.1 ≠ D) → F.L ≠ D → H.L D = none → P (.ref D) s1) : wpAny F.M F.A (newList []) P F.E s := by
  refine PW_newList R .nil (by simp) fun D s1 hD R1 => ?_
  obtain ⟨i0, k0, R2, r0⟩ := (show Rel (F.c.sv F.c.saved) F.L F.nm B l { H with L := up H.L D [] } s1 from R1).aside (D := D) (xs := []) (by simp)
  have hHD : H.L D = none := (not_own hD).1
  refine h D s1 i0 k0 ?_ r0 ((R1.own D).out (.inl (by simp))).2 (fun p hp e => (R1.sv p hp).2.2.1 (by rw [e]; exact .inl (by simp))) (fun e => R1.lH (by rw [e]; exact .inl (by simp))) hHD
  have R2 : Rel (F.c.sv ((D, lstObj i0 k0) :: F.c.saved)) F.L F.nm B l ⟨un (up H.L D []) D, H.D, H.P, H.S, H.I, H.C, H.G⟩ s1 := R2
  rw [un_up hHD] at R2
  exact R2
theorem comp_fin {scope : Scope} {C D : Addr} {oL : Obj} {HH : Option V → Hp} (hHD : ∀ ov, (HH ov).L D = none) (hS : ∀ ov, H.Sub (HH ov)) (hs : ∀ p ∈ (F.L, oL) :: F.c.saved, p.1 ≠ D) (hl : F.c.lim < D) {s' : Shared} {B' : Keep} {l l' : Loc} {items : Array Value} {kk : Nat} {ov : Option V} {ys : List V}
    (R : CR F scope C D oL HH items kk ov l' B' s') (r : RelVs B' items.toList ys) (hsv : ∀ p ∈ F.c.saved, p.1 ≠ F.L) (hL : ∀ B2, Le B' B2 → ∃ m, (∃ es ep, oL.data = .dict es ep ∧ StrKeys es ∧ ∀ name, nsFind es name = m name) ∧ LocOk B2 F.nm l m)
    {Q : Prop} (h : ∀ B2 oC, Le B' B2 → FRel (F.svd ((C, oC) :: F.c.saved)) B2 l H s' → (∃ m, s'.heap.Ns C m) → (∀ p ∈ F.c.saved, p.1 ≠ C) → RelV B2 (.ref D) (.list ys) → Q) : Q := by
  have R4 := Rel.claim R hs hl r
  have hHD := hHD ov
  have hS := hS ov
  generalize HH ov = H1 at R4 hHD hS
  obtain ⟨B2, le2, R5, r5⟩ := R4.freezeL (a := D) (xs := ys) (by simp)
  have R5 : Rel (F.c.sv ((F.L, oL) :: F.c.saved)) C (relabel scope F.env).names B2 l' ⟨un (up H1.L D ys) D, H1.D, H1.P, H1.S, H1.I, H1.C, H1.G⟩ s' := R5
  rw [un_up hHD] at R5
  have R5 := R5.weak hS (LocSub.refl _)
  obtain ⟨oC, R6, hC6⟩ := R5.swap (nm := F.nm) (loc := l) hsv (hL B2 le2)
  exact h B2 oC le2 R6 hC6 (fun p hp => (R5.sv p (.tail _ hp)).2.2.2) r5
theorem comp_ok (ok : Ok F n) {scope : Scope} {cl : List (Str × Addr)} {C D : Addr} {oL : Obj} {esL epL} (hdL : oL.data = .dict esL epL) (hkind : scope.kind = .function) (hdbg : (relabel scope F.env).names.lookup ("__debug__" : Str) = none) (o : Obj) (E : Value → Shared → Prop) : Ok (CFx F scope cl C ((D, o) :: (F.L, oL) :: F.c.saved) E) n := ⟨hkind, ok.glob, ok.bi, hdbg, ok.units, ok.depth, ok.handled, by
  obtain ⟨fl, h1, h2⟩ := ok.fr
  refine ⟨fl, h1, fun e he => ?_⟩
  obtain ⟨g1, g2⟩ := h2 e he
  refine ⟨g1, .inr ?_⟩
  rcases g2 with g2 | ⟨p, hp, g2⟩
  · exact ⟨(F.L, oL), .tail _ (.head _), g2, esL, epL, hdL⟩
  · exact ⟨p, .tail _ (.tail _ hp), g2⟩⟩
theorem comp_core (ok : Ok F n) {elt target iter : Expr} {ifs : List Expr} {scope : Scope} {pos : Pos} {cl : List (Str × Addr)} {St : Nat → ItS} {xs : List V} {f : V → Option V} (hifs : ifs = [] ∨ ∃ c, ifs = [c])
    (hcell : ∀ y ∈ scope.names, y.2 ≠ .cell) (hkind : scope.kind = .function) (hdbg : (relabel scope F.env).names.lookup ("__debug__" : Str) = none) (K : CompOk F n target elt ifs scope cl St xs f H)
    {B0 B : Keep} {s : Shared} {a : Addr} {l : Loc} (R : FRel F B l H s) (le : Le B0 B) (st : St 0 B0 B a) {RR : Value → Addr → Result → Shared → Prop}
    (hRR : ∀ D C oC s' B', Le B0 B' → FRel (F.svd ((C, oC) :: F.c.saved)) B' l H s' → (∃ m', s'.heap.Ns C m') → (∀ p ∈ F.c.saved, p.1 ≠ C) → RelV B' (.ref D) (.list (xs.filterMap f)) → RR (.ref D) C (.ok .next) s') :
    wpAny F.M F.A (newList []) (fun acc s3 => wpAny F.M F.A (newFunctionEnv scope F.env.globals cl [] F.env.qual none .none (some F.env)) (fun cenv s4 =>
      codeAny F.M F.A (.compStart (.ListComp elt [⟨target, iter, ifs, 0⟩] scope pos) 0 (.ref a) acc { cenv with scope := relabel scope F.env }) (RR acc cenv.locals) s4) F.E s3) F.E s := by
  obtain ⟨Kmono, Klen, Kt⟩ := K
  refine comp_new (B0 := B0) R fun D s1 i0 k0 R2 r0 hlimD hsD hDL hHD => ?_
  obtain ⟨mL1, ⟨oL1, esL1, epL1, hL1, hdL1, hkL1⟩, hlL1⟩ := R2.ns
  refine wpAny_newFunctionEnv hcell (by intro y hy; simp at hy) (fun h' hns hsb => ?_) hkind
  have hk : ∀ b o, s1.heap.get? b = some o → h'.get? b = some o := fun b o e => hsb.extBut b o (Nat.ne_of_lt (Heap.lt_size e)) (Heap.get?_push_of_some _ e)
  generalize hC : s1.heap.objs.size = C at hns hsb
  have R3 : CR F scope C D oL1 (fun _ => H) i0 k0 none (nones scope) B { s1 with heap := h', toks := s1.toks + ([] : List (Str × Value)).length } := by
    refine (R2.into (s' := { s1 with heap := h', toks := s1.toks + ([] : List (Str × Value)).length }) hL1 hk (Nat.le_of_eq hC) hns (nm' := (relabel scope F.env).names) (loc' := nones scope) ?_ rfl rfl).svmem ?_
    · intro x i X _ hl
      have := nones_sub (l := []) i X hl
      simp at this
    · intro p hp
      simp only [List.mem_cons] at hp ⊢
      rcases hp with h | h | h
      · exact .inr (.inl h)
      · exact .inl h
      · exact .inr (.inr h)
  have hsD2 : ∀ p ∈ (F.L, oL1) :: F.c.saved, p.1 ≠ D := fun p hp => by
    cases hp with
    | head _ => exact hDL
    | tail _ hp => exact hsD p hp
  have loop := comp_turns (elt := elt) (target := target) (iter := iter) (pos := pos) (RR := RR (.ref D) C) hifs Kmono Klen (fun _ => hHD) hsD2 hlimD (fun o E => ⟨fun i x ov hx => ⟨((Kt C _ _ (comp_ok ok hdL1 hkind hdbg o E)).2.1 i x hx).1, ((Kt C _ _ (comp_ok ok hdL1 hkind hdbg o E)).2.1 i x hx).2.g⟩, fun ov => (Kt C _ _ (comp_ok ok hdL1 hkind hdbg o E)).2.2⟩) le st
    (fun s' B' l' items kk ov le' R' r' tr => comp_fin (l := l) (H := H) (fun _ => hHD) (fun _ => Hp.Sub.refl _) hsD2 hlimD R' r' (fun p hp => (R.sv p hp).2.2.2) (fun B2 le2 => ⟨mL1, ⟨esL1, epL1, hdL1, hkL1⟩, (hlL1.tr tr).mono le2⟩) fun B2 oC le2 R6 hC6 hne r5 => hRR D C oC s' B2 (le'.trans le2) R6 hC6 hne r5) R3 r0
  refine codeAny_compStart_list loop ?_
  exact (Kt C _ _ (comp_ok ok hdL1 hkind hdbg (lstObj i0 k0) F.E)).1 _ B0 B _ a (nones scope) H _ R3 st loop

theorem Rel.unsave {c : Base} {L C : Addr} {nm : List (Str × NameKind)} {B : Keep} {loc : Loc} {H : Hp} {s s' : Shared} {oC : Obj} {sv : List (Addr × Obj)} (R : Rel (c.sv ((C, oC) :: sv)) L nm B loc H s) (hs : ∀ p ∈ sv, p.1 ≠ C) (hk : ∀ b o, b ≠ C → s.heap.get? b = some o → s'.heap.get? b = some o) (hg : s'.gens = s.gens) (ho : s'.os = s.os) :
    Rel (c.sv sv) L nm B loc H s' := by
  obtain ⟨_, h1, h2, h3⟩ := R.sv _ (.head _)
  exact (R.svmem (fun p hp => .tail _ hp)).free (fun a => a = C) (fun a e => by subst e; exact ⟨h1, h2, h3, hs⟩) (fun b o hb q => hk b o hb q) hg ho
theorem WE_ListComp (ok : Ok F n) {elt target iter : Expr} {ifs : List Expr} {scope : Scope} {pos : Pos} {Q : V → Loc → Hp → Prop} (cl : List (Str × Addr)) (hifs : ifs = [] ∨ ∃ c, ifs = [c])
    (hclos : closureFor scope F.env = pure cl) (hcell : ∀ y ∈ scope.names, y.2 ≠ .cell) (hkind : scope.kind = .function) (hdbg : (relabel scope F.env).names.lookup ("__debug__" : Str) = none) (hnames : ∀ y ∈ scope.names, y.2 = .local → scope.names.lookup y.1 = some .local)
    (h : WIt F iter loc H fun St l H1 => ∃ xs f, CompOk F n target elt ifs scope cl St xs f H1 ∧ Q (.list (xs.filterMap f)) l H1)
    (hs : ∀ x, foldedSetIterable iter F.env x = pure x := by intro _; rfl) : WE F (.ListComp elt [⟨target, iter, ifs, 0⟩] scope pos) loc H Q := fun B s R => by
  show wpAny F.M F.A (eval (.ListComp elt [⟨target, iter, ifs, 0⟩] scope pos) F.env) _ _ _
  rw [eval_ListComp]
  refine wpAny_comprehension_free (use := none) rfl hs hclos hkind hnames (wpAny_mono (h B s R) (fun xv s₁ h₁ => wpAny_mono h₁ (fun it s₂ h₂ => ?_) fun _ _ e => e) fun _ _ e => e)
  obtain ⟨B', a, l, H', St, rfl, le, R', st, xs, f, K, q⟩ := h₂
  refine comp_core ok hifs hcell hkind hdbg K R' le st (RR := fun acc C => compPost F.M F.A F.E none (Post F RelV B Q) acc C) fun D C oC s' B2 le2 R2 ⟨m, hn⟩ hC r => ?_
  exact ⟨m, hn, fun h' hs' => ⟨B2, _, l, H', le2, r, (R2.unsave (s' := { s' with heap := h' }) hC (fun b o hb e => hs'.extBut b o hb e) rfl rfl : Rel (F.c.sv F.c.saved) F.L F.nm B2 l H' _), q⟩⟩
end
end Lay
end
noncomputable section
open PySem PySem.W PyProof.Rows PySem.Calls
set_option Elab.async false
set_option maxRecDepth 100000
set_option linter.all false
namespace Lay
section
variable {F : Fx} {n : Nat} {loc : Loc} {H : Hp}

noncomputable def WOpt (F : Fx) (e : Option Expr) (loc : Loc) (H : Hp) (Q : Option Int → Loc → Hp → Prop) : Prop := ∀ B s, FRel F B loc H s → PW F (evalPart e F.env) (fun _ => IsPart) B s Q
theorem WOpt_none {Q : Option Int → Loc → Hp → Prop} (q : Q none loc H) : WOpt F none loc H Q := fun B s R => wpAny_pure (Post.pure .none R q)
theorem WOpt_some {e : Expr} {Q : Option Int → Loc → Hp → Prop} (h : WE F e loc H fun X l H => ∃ i, X = .int i ∧ Q (some i) l H) : WOpt F (some e) loc H Q := fun B s R => by
  refine wpAny_mono (h B s R) (fun v s' p => ?_) fun _ _ e => e
  obtain ⟨B', X, l, H', le, r, R', i, rfl, q⟩ := p
  cases r
  exact ⟨B', _, l, H', le, .int _ _, R', q⟩

noncomputable def cut (xs : List V) (lo hi : Option Int) : List V := (xs.drop (lo.getD 0).toNat).take ((hi.map Int.toNat).getD xs.length - (lo.getD 0).toNat)
theorem sl_clamp {i : Int} {n : Nat} (h : 0 ≤ i) : max 0 (min (if i < 0 then i + (n : Int) else i) n) = ((min i.toNat n : Nat) : Int) := by
  rw [if_neg (Int.not_lt.mpr h)]
  obtain ⟨k, rfl⟩ := Int.eq_ofNat_of_zero_le h
  rw [Int.toNat_natCast]
  by_cases hk : k ≤ n
  · rw [Int.min_eq_left (Int.ofNat_le.mpr hk), Nat.min_eq_left hk]; exact Int.max_eq_right (Int.natCast_nonneg _)
  · have hk := Nat.le_of_lt (Nat.lt_of_not_le hk)
    rw [Int.min_eq_right (Int.ofNat_le.mpr hk), Nat.min_eq_right hk]; exact Int.max_eq_right (Int.natCast_nonneg _)
theorem cut_rel {B : Keep} {vs : List Value} {xs : List V} (r : RelVs B vs xs) {lo hi : Option Int} (h1 : ∀ i, lo = some i → 0 ≤ i) (h2 : ∀ i, hi = some i → 0 ≤ i) : RelVs B (slicePick vs.toArray lo hi none).toList (cut xs lo hi) := by
  have hlen := r.length
  have e : sliceBounds lo hi none vs.toArray.size = (((min (lo.getD 0).toNat vs.length : Nat) : Int), ((min ((hi.map Int.toNat).getD vs.length) vs.length : Nat) : Int), 1) := by
    simp only [sliceBounds, List.size_toArray, Option.getD_none]
    have lo1 : ∀ (i : Int), lo = some i → max 0 (min (if i < 0 then i + (vs.length : Int) else i) vs.length) = ((min i.toNat vs.length : Nat) : Int) := fun i e => sl_clamp (h1 i e)
    have hi1 : ∀ (i : Int), hi = some i → max 0 (min (if i < 0 then i + (vs.length : Int) else i) vs.length) = ((min i.toNat vs.length : Nat) : Int) := fun i e => sl_clamp (h2 i e)
    refine Prod.ext ?_ (Prod.ext ?_ rfl)
    · cases lo with
      | none => simp
      | some i => dsimp only; rw [if_pos (by decide)]; exact lo1 i rfl
    · cases hi with
      | none => simp
      | some i => dsimp only; rw [if_pos (by decide)]; exact hi1 i rfl
  rw [kmk_pick_nat _ e]
  have e2 : ((vs.toArray.toList.drop (min (lo.getD 0).toNat vs.length)).take (min ((hi.map Int.toNat).getD vs.length) vs.length - min (lo.getD 0).toNat vs.length)) = (vs.drop (lo.getD 0).toNat).take ((hi.map Int.toNat).getD vs.length - (lo.getD 0).toNat) := by
    simp only [List.toList_toArray]
    rw [kmk_drop_min]
    generalize (lo.getD 0).toNat = a
    generalize (hi.map Int.toNat).getD vs.length = b
    by_cases h : a ≤ vs.length
    · rw [Nat.min_eq_left h]
      by_cases h' : b ≤ vs.length
      · rw [Nat.min_eq_left h']
      · have h' := Nat.le_of_lt (Nat.lt_of_not_le h')
        rw [Nat.min_eq_right h', List.take_of_length_le (by simp), List.take_of_length_le (by rw [List.length_drop]; exact Nat.sub_le_sub_right h' _)]
    · rw [List.drop_of_length_le (Nat.le_of_lt (Nat.lt_of_not_le h))]; simp
  rw [e2]
  have := (r.drop (lo.getD 0).toNat).take ((hi.map Int.toNat).getD vs.length - (lo.getD 0).toNat)
  rw [hlen] at this
  unfold cut
  rw [hlen]
  simpa using this
theorem PW_newListF {vs : List Value} {xs : List V} {B : Keep} {s s' : Shared} {a : Addr} {k : Nat} {P : Value → Shared → Prop} (R : FRel F B loc H s) (r : RelVs B vs xs) (ha : s.heap.objs.size ≤ a) (hk : ∀ b o, s.heap.get? b = some o → s'.heap.get? b = some o) (hn : s'.heap.get? a = some (lstObj vs.toArray k)) (hg : s'.gens = s.gens) (ho : s'.os = s.os)
    (h : ∀ B', Le B B' → RelV B' (.ref a) (.list xs) → FRel F B' loc H s' → P (.ref a) s') : P (.ref a) s' := by
  obtain ⟨R1, le, e⟩ := R.hold ha hk hn hg ho
  exact h _ le (.list (items := vs.toArray) (n := k) e (by simpa using r.mono le)) R1
theorem WE_SliceL {value : Expr} {lo hi : Option Expr} {p pos : Pos} {Q : V → Loc → Hp → Prop}
    (h : WE F value loc H fun X l1 H1 => WOpt F lo l1 H1 fun a l2 H2 => WOpt F hi l2 H2 fun b l3 H3 => ∃ xs, asL H3 X = some xs ∧ xs.length ≤ 1000000 ∧ (∀ i, a = some i → 0 ≤ i) ∧ (∀ i, b = some i → 0 ≤ i) ∧ Q (.list (cut xs a b)) l3 H3)
    (ht : ∀ o r, letTemporaryGo value o r = pure () := by intro _ _; rfl) : WE F (.Subscript value (.Slice lo hi none p) pos) loc H Q := fun B s R => by
  refine wpAny_Subscript_Slice list_getitem_lookup ((h B s R).then fun v B1 X l1 H1 s1 le1 r1 R1 h1 => wpAny_Slice ((h1 B1 s1 R1).then fun va B2 a l2 H2 s2 le2 ra R2 h2 => (h2 B2 s2 R2).then fun vb B3 b l3 H3 s3 le3 rb R3 h3 => ?_)) ht
  obtain ⟨xs, e, hz, ha, hb, q⟩ := h3
  refine wpAny_pure ?_
  have R4 := R3.grow (s' := { s3 with heap := s3.heap.push { cls := .type "slice", data := .fields #[va, vb, .none] } }) (fun b o e => Heap.get?_push_of_some _ e) rfl rfl
  obtain ⟨l, items, m, rfl, hl, hr⟩ := asL_at R4 (r1.mono (le2.trans le3)) e
  have hlen := hr.length
  rw [Array.length_toList] at hlen
  refine ⟨hl.isList.typeIs, wpAny_getItem_list_slice hl.isList (Heap.IsSliceOf.new ..) ra rb .none (by simp) ?_ (by rw [hlen, sizeLine_eq]; omega)⟩
  have hc := cut_rel hr ha hb
  rw [Array.toArray_toList] at hc
  refine PW_newListF (P := Post F RelV B Q) (vs := (slicePick items a b none).toList) (k := 0) R4 hc (Nat.le_refl _) (fun b o e => Heap.get?_push_of_some _ e) (by rw [Array.toArray_toList]; exact Heap.get?_push_size _ rfl) rfl rfl fun B' le' r' R' => ?_
  exact (Post.pure r' R' q).lift ((le1.trans (le2.trans le3)).trans le')
theorem Sub_str {x : Str} {i : Int} {k : Nat} {Q : V → Loc → Hp → Prop} (hs : -1000000 < i) (hb : i < 1000000) (hc : (seqIndex? i x.length).bind (x.cps[·]?) = some k) (hk : PyData.strOk ⟨#[k]⟩ = true) (q : Q (.str ⟨#[k]⟩) loc H) : Sub F (.str x) (.int i) loc H Q := fun B s o j R ro rj => by
  cases rj; cases ro
  refine ⟨"str", _, PySem.F.slot_str_getitem.lookup, typeIs_str _ _ _, PyProof.Rows.getItem_str ?_ hc (Post.pure (.str _ _ hk) (R.tok _) q)⟩
  simp; omega
theorem Cmp_inStr {x y : Str} {Q : Bool → Loc → Hp → Prop} (q : Q (!(Builtin.Str.occurrences x y 0 x.length 1).isEmpty) loc H) : Cmp F .In (.str y) (.str x) loc H Q := fun B s a b R ra rb => by
  cases ra; cases rb
  exact PyProof.Rows.in_str (Post.pure rfl R q)

theorem Op_addL {X Y : V} {xs ys : List V} {Q : V → Loc → Hp → Prop} (ex : asL H X = some xs) (ey : asL H Y = some ys) (hz : xs.length + ys.length ≤ 1000000) (q : ∀ a, H.Fresh a → Q (.ref a) loc { H with L := up H.L a (xs ++ ys) }) : Op2 F (binaryOp .Add) X Y loc H Q := fun B s a b R ra rb => by
  obtain ⟨l, items, m, rfl, hl, hr⟩ := asL_at R ra ex
  obtain ⟨l', items', m', rfl, hl', hr'⟩ := asL_at R rb ey
  have h1 := hr.length
  have h2 := hr'.length
  rw [Array.length_toList] at h1 h2
  refine PySem.P.add_list hl hl' (Post.pure (.ref _) (R.newL (s' := { s with heap := s.heap.push { cls := .type "list", data := .seq (items ++ items') } }) (a := s.heap.objs.size) (items := items ++ items') (n := 0) (Nat.le_refl _) (fun b o e => Heap.get?_push_of_some _ e) (Heap.get?_push_size _ rfl) (by simpa using hr.append hr') rfl rfl) (q _ (R.fresh_H (R.fresh (Nat.le_refl _)).1))) (by rw [h1, h2, sizeLine_eq]; omega)
theorem Call_list {X : V} {xs : List V} {Q : V → Loc → Hp → Prop} (ex : asL H X = some xs ∨ X = .tup xs) (hz : xs.length ≤ 1000000) (q : ∀ a, H.Fresh a → Q (.ref a) loc { H with L := up H.L a xs }) : Call F (.raw (.type "list")) [X] loc H Q := fun B s v vs R rv rvs => by
  cases rv
  cases rvs with | cons ra r2 => ?_
  cases r2
  have fin : ∀ {l : Addr} {T : String} {o : Obj} {items : Array Value} {k : Nat}, (T = "list" ∨ T = "tuple") → s.heap.get? l = some o → o.cls = .type T → o.data = .seq items k → RelVs B items.toList xs → PW F (call (.type "list") [.ref l]) RelV B s Q := by
    intro l T o items k hT ho hc hd hr
    have h1 := hr.length
    rw [Array.length_toList] at h1
    refine call_list_seq l hT ho hc hd (fun h' c' hk hn => ?_) (by rw [h1, sizeLine_eq]; omega)
    exact Post.pure (.ref _) (R.newL (s' := { s with heap := h' }) (a := s.heap.objs.size) (items := items) (n := c') (Nat.le_refl _) hk hn hr rfl rfl) (q _ (R.fresh_H (R.fresh (Nat.le_refl _)).1))
  rcases ex with ex | rfl
  · obtain ⟨l, items, m, rfl, hl, hr⟩ := asL_at R ra ex
    exact fin (.inl rfl) hl rfl rfl hr
  · cases ra with | tup hb hr => exact fin (.inr rfl) (R.keep _ _ hb) rfl rfl hr
theorem Call_tuple {X : V} {xs : List V} {Q : V → Loc → Hp → Prop} (ex : asL H X = some xs) (hz : xs.length ≤ 1000000) (q : Q (.tup xs) loc H) : Call F (.raw (.type "tuple")) [X] loc H Q := fun B s v vs R rv rvs => by
  cases rv
  cases rvs with | cons ra r2 => ?_
  cases r2
  obtain ⟨l, items, m, rfl, hl, hr⟩ := asL_at R ra ex
  have h1 := hr.length
  rw [Array.length_toList] at h1
  refine call_tuple_list hl.isList (fun h' hk => ?_) (by rw [h1, sizeLine_eq]; omega)
  have R1 : FRel F B loc H { s with heap := h' } := R.grow (s' := { s with heap := h' }) hk rfl rfl
  obtain ⟨R5, le5, e5⟩ := R1.hold (s' := { s with heap := h'.push (tupObj items 0) }) (a := h'.objs.size) (o := tupObj items 0) (Nat.le_refl _) (fun b o e => Heap.get?_push_of_some _ e) (Heap.get?_push_size _ rfl) rfl rfl
  exact (Post.pure (.tup e5 (hr.mono le5)) R5 q).lift le5

theorem dict_type {d : Addr} {kvs : List (Str × V)} (e : H.D d = some kvs) : ∀ B s v, FRel F B loc H s → RelV B v (.ref d) → s.TypeIs v "dict" ∧ (∀ a, v = .ref a → ∃ ob, s.heap.get? a = some ob ∧ ob.dict = none) := fun B s v R r => by
  cases r
  obtain ⟨cs, ⟨o, es, ep, h1, ⟨h2, h3, h4⟩, h5⟩, _⟩ := dict_at R e
  exact ⟨⟨o, h1, h2⟩, fun a e => by cases e; exact ⟨o, h1, h3⟩⟩
theorem MGet_dget {d : Addr} {kvs : List (Str × V)} {Q : V → List V → Loc → Hp → Prop} (e : H.D d = some kvs) (q : Q (.raw (.builtin "dict.get")) [.ref d] loc H) : MGet F "get" (.ref d) loc H Q :=
  MGet_slot PySem.F.plainAttrs_dict PySem.F.slot_dict_get PySem.F.type_dict_get (dict_type e) q
theorem Call_dget {d : Addr} {kvs : List (Str × V)} {k : Str} {Q : V → Loc → Hp → Prop} (e : H.D d = some kvs) (q : Q ((dget kvs k).getD .none) loc H) : Call F (.raw (.builtin "dict.get")) [.ref d, .str k] loc H Q := fun B s v vs R rv rvs => by
  cases rv
  cases rvs with | cons ra r2 => ?_
  cases r2 with | cons rb r3 => ?_
  cases r3; cases ra; cases rb
  obtain ⟨cs, h1, h2, h3⟩ := dict_at R e
  have h4 := h2.get (k := k)
  refine call_meetsIn PySem.F.slot_dict_get h1.typeIs PySem.F.entry_dict_get (PySem.F.args_dict_get_2 _ _) (meets_dict_get (PySem.strKind F.c.prog F.c.w) d (strKind_is _ _) h3) ⟨_, h1.mapOf, ?_⟩
  refine Post.pure (b := (dget kvs k).getD .none) ?_ (R.tok _) q
  show RelV B ((valueAt cs k).getD .none) _
  cases e1 : valueAt cs k <;> cases e2 : dget kvs k <;> rw [e1, e2] at h4
  · exact .none
  · exact h4.elim
  · exact h4.elim
  · exact h4
theorem Call_dget2 {d : Addr} {kvs : List (Str × V)} {k : Str} {Z : V} {Q : V → Loc → Hp → Prop} (e : H.D d = some kvs) (q : Q ((dget kvs k).getD Z) loc H) : Call F (.raw (.builtin "dict.get")) [.ref d, .str k, Z] loc H Q := fun B s v vs R rv rvs => by
  cases rv
  cases rvs with | cons ra r2 => ?_
  cases r2 with | cons rb r3 => ?_
  cases r3 with | cons rc r4 => ?_
  cases r4; cases ra; cases rb
  obtain ⟨cs, h1, h2, h3⟩ := dict_at R e
  have h4 := h2.get (k := k)
  refine call_meetsIn PySem.F.slot_dict_get h1.typeIs PySem.F.entry_dict_get (PySem.F.args_dict_get_3 _ _ _) (meets_dict_get_default (PySem.strKind F.c.prog F.c.w) d (strKind_is _ _) h3 _) ⟨_, h1.mapOf, ?_⟩
  refine Post.pure (b := (dget kvs k).getD Z) ?_ (R.tok _) q
  rename_i vz _ _
  show RelV B ((valueAt cs k).getD vz) _
  cases e1 : valueAt cs k <;> cases e2 : dget kvs k <;> rw [e1, e2] at h4
  · exact rc
  · exact h4.elim
  · exact h4.elim
  · exact h4

end
end Lay
end
noncomputable section
open PySem PySem.W PyProof.Rows PySem.Calls
set_option Elab.async false
set_option maxRecDepth 100000
set_option linter.all false
namespace Lay
noncomputable abbrev noHeap : Heap := { objs := #[] }
theorem noHeap_none (a : Addr) : noHeap.get? a = none := by
  cases h : noHeap.get? a with
  | none => rfl
  | some o => have := Heap.lt_size h; exact absurd this (Nat.not_lt_zero _)
section
variable {c : Base} {L : Addr} {nm : List (Str × NameKind)} {B : Keep} {loc : Loc} {H : Hp} {s : Shared}
theorem Rel.slots (R : Rel c L nm B loc H s) {S : List Addr} {h' : Heap} (hS : ∀ b ∈ S, b = L ∨ ∃ p ∈ c.saved, p.1 = b ∧ ∃ es ep, p.2.data = .dict es ep) (hs : Heap.SlotsOnly S s.heap h') : Rel c L nm B loc H { s with heap := h' } where
  keep := fun a o e => by
    rw [hs.2.1 a ?_]; exact R.keep a o e
    intro hm
    rcases hS a hm with rfl | ⟨p, hp, rfl, _⟩
    · rw [R.lB] at e; cases e
    · rw [(R.sv p hp).2.1] at e; cases e
  based := R.based
  own := fun a => by
    by_cases hw : H.Own a
    · have hn : a ∉ S := fun hm => by
        rcases hS a hm with rfl | ⟨p, hp, rfl, _⟩
        · exact R.lH hw
        · exact (R.sv p hp).2.2.1 hw
      exact (R.own a).mono (Le.refl _) (fun o e => (hs.2.1 a hn).trans e) fun h => ((R.own a).out h).1
    · obtain ⟨d1, d2, d3, d4, d5, d6⟩ := not_own hw
      refine ⟨fun h => absurd h hw, ?_, ?_, ?_, ?_, ?_, ?_, fun _ => d3, fun ep e => ?_⟩
      · intro y hy; rw [d1] at hy; cases hy
      · intro y hy; rw [d2] at hy; cases hy
      · intro y hy; rw [d3] at hy; cases hy
      · intro y hy; rw [d4] at hy; cases hy
      · intro y hy; rw [d5] at hy; cases hy
      · intro y hy; rw [d6] at hy; cases hy
      · exact absurd (.inr (.inl ((R.own a).g ep e).1)) hw
  lB := R.lB
  lH := R.lH
  ns := by
    obtain ⟨m, ⟨oL, es, ep, q, d, z⟩, l⟩ := R.ns
    obtain ⟨sl, e⟩ := hs.2.2 _ _ q
    exact ⟨m, ⟨_, es, ep, e, d, z⟩, l⟩
  gens := R.gens
  os := R.os
  lim := R.lim
  sv := fun p hp => by
    obtain ⟨⟨ob, x1, y1⟩, x2, x3, x4⟩ := R.sv p hp
    by_cases hm : p.1 ∈ S
    · obtain ⟨sl, e⟩ := hs.2.2 _ _ x1
      refine ⟨⟨_, e, ?_⟩, x2, x3, x4⟩
      rcases hS _ hm with h | ⟨p', hp', e', es, ep, hd⟩
      · exact absurd h x4
      · obtain ⟨⟨ob', x1', y1'⟩, _⟩ := R.sv p' hp'
        rw [e', x1] at x1'; cases x1'
        have hdd := (y1'.dict hd).trans hd
        rcases y1 with y1 | ⟨_, ps, rfl⟩
        · exact .inl ⟨y1.1, fun hn => absurd (y1.1.symm.trans hdd) (hn es ep)⟩
        · cases hdd
    · exact ⟨⟨ob, (hs.2.1 _ hm).trans x1, y1⟩, x2, x3, x4⟩
end

section
variable {M : Model} {A : Around} {E : Value → Shared → Prop} {s : Shared}
theorem noteFrame_first {env : Env} {outer : List Env} {L e : Addr} {oe : Obj} {vs : Array Value} {Q : Unit → Shared → Prop} (hfr : A.frames = some (env :: outer)) (hl : s.heap.FunFrames noHeap (env :: outer)) (hf : env.frame = some L)
    (he : s.heap.get? e = some oe) (hd : oe.data = .fields vs) (h1 : vs[1]? = some .none) (heS : e ∉ (env :: outer).filterMap (·.frame))
    (h : ∀ h₁ h' T oT ts, Heap.SlotsOnly ((env :: outer).filterMap (·.frame)) s.heap h₁ → h₁.get? T = none → (∀ b o, b ≠ e → h₁.get? b = some o → h'.get? b = some o) → h'.get? e = some (oe.mapFields (·.setIfInBounds 1 (.ref T))) →
      h'.get? T = some oT → oT.data = .fields ts → ts[3]? = some (rawInt L) → Q () { s with heap := h' }) :
    wpAny M A (noteFrame (.ref e) env) Q E s := by
  have hsz : 1 < vs.size := (Array.getElem?_eq_some_iff.mp h1).1
  unfold noteFrame
  simp only [hf]
  refine wpAny_bind (wpAny_field he hd h1 ?_)
  rw [if_neg (by decide)]
  refine wpAny_bind (wpAny_frameOf_fun hfr hl hf fun h₁ hs₁ => ?_)
  refine wpAny_bind (wpAny_entryPlaceOf fun pl hpl => ?_)
  unfold EntryCells.newEntry newFields
  refine wpAny_bind (wpAny_newObj_type ?_ (hpl.sizeOk5 _ _ _ _ _))
  have he₁ : h₁.get? e = some oe := (hs₁.2.1 e heS).trans he
  have he₂ := Heap.get?_push_of_some (h := h₁) { cls := .type "traceback", dict := none, data := .fields ([Value.none, .ref L, .none, rawInt L, .none] ++ (if pl.isEmpty then List.replicate 6 Value.none else pl)).toArray } he₁
  refine wpAny_setField he₂ hd hsz ?_
  have hTe : h₁.objs.size ≠ e := Nat.ne_of_gt (Heap.lt_size he₁)
  have hd₃ := Obj.data_mapFields hd (·.setIfInBounds 1 (Value.ref h₁.objs.size))
  refine h h₁ _ h₁.objs.size { cls := .type "traceback", dict := none, data := .fields ([Value.none, .ref L, .none, rawInt L, .none] ++ (if pl.isEmpty then List.replicate 6 Value.none else pl)).toArray } _ hs₁ (Heap.get?_none_of_le (Nat.le_refl _)) (fun b o hbe hb => ?_) (Heap.get?_update_self _ he₂ (Obj.isFreed_of_fields hd₃)) ?_ rfl (by simp)
  · rw [Heap.get?_update_other _ _ (Ne.symm hbe)]
    exact Heap.get?_push_of_some _ hb
  · rw [Heap.get?_update_other _ _ (Ne.symm hTe)]
    exact Heap.get?_push_size h₁ rfl
end

section
variable {F : Fx} {n : Nat} {loc : Loc} {H : Hp}

noncomputable def Nobody (F : Fx) (B : Keep) (H : Hp) (a : Addr) : Prop := B a = none ∧ ¬ H.Own a ∧ a ≠ F.L ∧ ∀ p ∈ F.c.saved, p.1 ≠ a
noncomputable def Raised (F : Fx) (B : Keep) (loc : Loc) (H : Hp) (cls : Value) (e : Value) (s : Shared) : Prop :=
  FRel F B loc H s ∧ ∃ a ob vs, e = .ref a ∧ s.heap.get? a = some ob ∧ ob.cls = cls ∧ ob.data = .fields vs ∧ vs[1]? = some .none ∧ Nobody F B H a

theorem Sub_dict_miss {k : Str} {d : Addr} {kvs : List (Str × V)} {Q : V → Loc → Hp → Prop} (hh : F.A.handled = none) (e : H.D d = some kvs) (hx : dget kvs k = none) (hE : ∀ B s e, Raised F B loc H (.type "KeyError") e s → F.E e s) : Sub F (.ref d) (.str k) loc H Q := fun B s o i R ro ri => by
  cases ro; cases ri
  obtain ⟨cs, h1, h2, h3⟩ := dict_at R e
  have h4 := h2.get (k := k)
  rw [hx] at h4
  cases e5 : valueAt cs k with
  | some v => rw [e5] at h4; exact h4.elim
  | none =>
    refine ⟨"dict", _, slot_dict_getitem.lookup, h1.typeIs, wpAny_getItem_missing_of (strKind_is _ _) h3 hh h1.mapOf e5 fun h' ex ⟨n1, n2, ob, t, n3, n4, n5⟩ => ?_⟩
    exact hE B _ _ ⟨R.grow (s' := { s with heap := h', toks := s.toks + 1 }) n1 rfl rfl, ex, ob, _, rfl, n3, n4, n5, rfl, R.nobody n2⟩

theorem frames_ok (ok : Ok F n) {outer : List Env} (hA : F.A.frames = some (F.env :: outer)) {B : Keep} {s : Shared} (R : FRel F B loc H s) : s.heap.FunFrames noHeap (F.env :: outer) ∧ ∀ b ∈ (F.env :: outer).filterMap (·.frame), b = F.L ∨ ∃ p ∈ F.c.saved, p.1 = b ∧ ∃ es ep, p.2.data = .dict es ep := by
  obtain ⟨fl, h1, h2⟩ := ok.fr
  rw [hA] at h1
  cases h1
  generalize F.env :: outer = l at h2
  clear hA
  constructor
  · induction l with
    | nil => trivial
    | cons e l ih =>
      obtain ⟨g1, g2⟩ := h2 e (.head _)
      refine ⟨g1, ?_, ih fun e he => h2 e (.tail _ he)⟩
      rcases g2 with g2 | ⟨p, hp, g2, es, ep, g3⟩
      · obtain ⟨m, ⟨oL, es, ep, q, d, z⟩, _⟩ := R.ns
        exact ⟨_, oL, g2, noHeap_none _, q, fun vs h => by rw [d] at h; cases h⟩
      · obtain ⟨⟨ob, x1, y1⟩, _⟩ := R.sv p hp
        exact ⟨_, ob, g2, noHeap_none _, x1, fun vs h => by rw [y1.dict g3, g3] at h; cases h⟩
  · intro b hb
    obtain ⟨e, he, hf⟩ := List.mem_filterMap.mp hb
    obtain ⟨g1, g2⟩ := h2 e he
    rcases g2 with g2 | ⟨p, hp, g2, es, ep, g3⟩
    · exact .inl (Option.some.inj (hf.symm.trans g2))
    · exact .inr ⟨p, hp, Option.some.inj (g2.symm.trans hf), es, ep, g3⟩
end
end Lay
end
noncomputable section
open PySem PySem.W PyProof.Rows PySem.Calls
set_option Elab.async false
set_option maxRecDepth 100000
set_option linter.all false
namespace Lay
section
variable {F : Fx} {n : Nat} {loc : Loc} {H : Hp}

noncomputable def Fly (F : Fx) (b : Bool) (B : Keep) (loc : Loc) (H : Hp) (cls : Value) (e : Value) (s : Shared) : Prop :=
  FRel F B loc H s ∧ ∃ a ob vs, e = .ref a ∧ s.heap.get? a = some ob ∧ ob.cls = cls ∧ ob.data = .fields vs ∧ Nobody F B H a ∧
    ((b = false ∧ vs[1]? = some .none) ∨ ∃ T oT ts, vs[1]? = some (.ref T) ∧ T ≠ a ∧ s.heap.get? T = some oT ∧ oT.data = .fields ts ∧ 3 < ts.size ∧ Nobody F B H T)
theorem Raised.fly {B : Keep} {cls e : Value} {s : Shared} (h : Raised F B loc H cls e s) : Fly F false B loc H cls e s :=
  let ⟨R, a, ob, vs, h1, h2, h3, h4, h5, h6⟩ := h; ⟨R, a, ob, vs, h1, h2, h3, h4, h6, .inl ⟨rfl, h5⟩⟩
theorem Fly.typeIs {b : Bool} {B : Keep} {e : Value} {s : Shared} {C : String} (h : Fly F b B loc H (.type C) e s) : s.TypeIs e C :=
  let ⟨_, a, ob, _, h1, h2, h3, _⟩ := h; by subst h1; exact ⟨ob, h2, h3⟩

theorem Nobody.free {B : Keep} {s s' : Shared} (R : FRel F B loc H s) {X : List Addr} (hX : ∀ a ∈ X, Nobody F B H a) (hk : ∀ b o, b ∉ X → s.heap.get? b = some o → s'.heap.get? b = some o) (hg : s'.gens = s.gens) (ho : s'.os = s.os) : FRel F B loc H s' :=
  R.free (fun a => a ∈ X) (fun a h => hX a h) hk hg ho

theorem setFlight_some {M : Model} {A : Around} {E : Value → Shared → Prop} {s : Shared} {f : Option Addr} {e T : Addr} {oe oT : Obj} {vs ts : Array Value} {Q : Unit → Shared → Prop} (he : s.heap.get? e = some oe) (hd : oe.data = .fields vs) (h1 : vs[1]? = some (.ref T))
    (hT : s.heap.get? T = some oT) (hdT : oT.data = .fields ts) (hsz : 3 < ts.size) (hf : f ≠ none ∨ True) (h : ∀ x, Q () { s with heap := s.heap.update T (Obj.mapFields (·.setIfInBounds 3 x)) }) : wpAny M A (setFlight (.ref e) f) Q E s := by
  unfold setFlight
  refine wpAny_bind (wpAny_field he hd h1 ?_)
  rw [if_pos (show (Value.ref T != Value.none) = true from by simp)]
  exact wpAny_setField hT hdT hsz (h _)

theorem Fly.flight {A : Around} {E : Value → Shared → Prop} {B : Keep} {cls e : Value} {s : Shared} {f : Option Addr} {Q : Unit → Shared → Prop} (h : Fly F true B loc H cls e s) (q : ∀ s', Fly F true B loc H cls e s' → Q () s') : wpAny F.M A (setFlight e f) Q E s := by
  obtain ⟨R, a, ob, vs, rfl, h2, h3, h4, h6, h7⟩ := h
  rcases h7 with ⟨h, _⟩ | ⟨T, oT, ts, h7, h8, h9, h10, h11, h12⟩
  · cases h
  · refine setFlight_some h2 h4 h7 h9 h10 h11 (.inr trivial) fun x => q _ ?_
    have hd := Obj.data_mapFields h10 (·.setIfInBounds 3 x)
    refine ⟨Nobody.free R (X := [T]) (by simpa using h12) (fun b o hb q => (Heap.get?_update_other _ _ (fun e => hb (by simp [e]))).trans q) rfl rfl, a, ob, vs, rfl, (Heap.get?_update_other _ _ h8).trans h2, h3, h4, h6, .inr ⟨T, _, _, h7, h8, Heap.get?_update_self _ h9 (Obj.isFreed_of_fields hd), hd, by simpa using h11, h12⟩⟩

theorem Fly.note (ok : Ok F n) (tp : Top F) {E : Value → Shared → Prop} {b : Bool} {B : Keep} {cls e : Value} {s : Shared} {Q : Unit → Shared → Prop} (h : Fly F b B loc H cls e s) (q : ∀ s', Fly F true B loc H cls e s' → Q () s') : wpAny F.M F.A (noteFrame e F.env) Q E s := by
  obtain ⟨R, a, ob, vs, rfl, h2, h3, h4, h6, h7⟩ := h
  obtain ⟨outer, t1, t2⟩ := tp
  have hnot : ∀ {x}, Nobody F B H x → x ∉ (F.env :: outer).filterMap (·.frame) := fun hx hm => by
    rcases (frames_ok ok t1 R).2 _ hm with e | ⟨p, hp, e, _⟩
    · exact hx.2.2.1 e
    · exact hx.2.2.2 p hp e
  rcases h7 with ⟨_, h7⟩ | ⟨T, oT, ts, h7, h8, h9, h10, h11, h12⟩
  · refine noteFrame_first t1 (frames_ok ok t1 R).1 t2 h2 h4 h7 (hnot h6) fun h₁ h' T oT ts g1 g2 g3 g4 g5 g6 g7 => q _ ?_
    have R1 := R.slots (frames_ok ok t1 R).2 g1
    have nT := R1.nobody (a := T) g2
    have hTa : T ≠ a := by
      rintro rfl
      have := g1.2.1 _ (hnot h6)
      rw [g2, h2] at this; cases this
    have hd := Obj.data_mapFields h4 (·.setIfInBounds 1 (.ref T))
    have hlt : 1 < vs.size := (Array.getElem?_eq_some_iff.mp h7).1
    exact ⟨Nobody.free (s := { s with heap := h₁ }) (s' := { s with heap := h' }) R1 (X := [a]) (by simpa using h6) (fun b o hb q => g3 b o (by simpa using hb) q) rfl rfl, a, _, _, rfl, g4, (Obj.cls_mapFields ..).trans h3, hd, h6, .inr ⟨T, oT, ts, by simp [hlt], hTa, g5, g6, (Array.getElem?_eq_some_iff.mp g7).1, nT⟩⟩
  · unfold noteFrame
    simp only [t2]
    refine wpAny_bind (wpAny_field h2 h4 h7 ?_)
    rw [if_pos (show (Value.ref T != Value.none) = true from by simp)]
    refine wpAny_bind (wpAny_field h9 h10 (x := ts[3]) (by simp [h11]) ?_)
    have here : Fly F true B loc H cls (.ref a) s := ⟨R, a, ob, vs, rfl, h2, h3, h4, h6, .inr ⟨T, oT, ts, h7, h8, h9, h10, h11, h12⟩⟩
    split
    · exact wpAny_pure (q _ here)
    · refine wpAny_bind (wpAny_setField h9 h10 h11 ?_)
      generalize hs1 : ({ s with heap := s.heap.update T (Obj.mapFields (·.setIfInBounds 3 .none)) } : Shared) = s1
      have hd := Obj.data_mapFields h10 (·.setIfInBounds 3 Value.none)
      have R1 : FRel F B loc H s1 := by
        subst hs1
        exact Nobody.free R (X := [T]) (by simpa using h12) (fun b o hb q => (Heap.get?_update_other _ _ (fun e => hb (by simp [e]))).trans q) rfl rfl
      have k2 : s1.heap.get? a = some ob := by subst hs1; exact (Heap.get?_update_other _ _ h8).trans h2
      refine wpAny_bind (wpAny_frameOf_fun t1 (frames_ok ok t1 R1).1 t2 fun h₁ hs₁ => ?_)
      refine wpAny_bind (wpAny_entryPlaceOf fun pl hpl => ?_)
      unfold EntryCells.newEntry newFields
      refine wpAny_bind (wpAny_newObj_type ?_ (hpl.sizeOk5 _ _ _ _ _))
      have R2 := R1.slots (frames_ok ok t1 R1).2 hs₁
      have he₁ : h₁.get? a = some ob := (hs₁.2.1 a (hnot h6)).trans k2
      have he₂ := Heap.get?_push_of_some (h := h₁) { cls := .type "traceback", dict := none, data := .fields ([Value.ref T, .ref F.L, .none, rawInt F.L, .none] ++ (if pl.isEmpty then List.replicate 6 Value.none else pl)).toArray } he₁
      have hlt : 1 < vs.size := (Array.getElem?_eq_some_iff.mp h7).1
      refine wpAny_setField he₂ h4 hlt (q _ ?_)
      have hTe : h₁.objs.size ≠ a := Nat.ne_of_gt (Heap.lt_size he₁)
      have hd₃ := Obj.data_mapFields h4 (·.setIfInBounds 1 (Value.ref h₁.objs.size))
      have nT := R2.nobody (a := h₁.objs.size) (Heap.get?_none_of_le (Nat.le_refl _))
      refine ⟨Nobody.free (s := { s1 with heap := h₁ }) R2 (X := [a]) (by simpa using h6) (fun b o hb q => ?_) rfl rfl, a, _, _, rfl, Heap.get?_update_self _ he₂ (Obj.isFreed_of_fields hd₃), (Obj.cls_mapFields ..).trans h3, hd₃, h6, .inr ⟨h₁.objs.size, _, _, by simp [hlt], hTe, (Heap.get?_update_other _ _ (Ne.symm hTe)).trans (Heap.get?_push_size h₁ rfl), rfl, by simp, nT⟩⟩
      have hb' : b ≠ a := by simpa using hb
      rw [Heap.get?_update_other _ _ (Ne.symm hb')]
      exact Heap.get?_push_of_some _ q

noncomputable def Acc (F : Fx) (cls : Value) (P : Loc → Hp → Prop) : Prop := ∀ b B l H e s, Fly F b B l H cls e s → P l H → F.E e s
theorem Acc.raised {cls : Value} {P : Loc → Hp → Prop} (h : Acc F cls P) {B : Keep} {e : Value} {s : Shared} (r : Raised F B loc H cls e s) (p : P loc H) : F.E e s := h _ _ _ _ _ _ r.fly p
theorem Acc.inl (ok : Ok F n) (tp : Top F) {cls : Value} {P : Loc → Hp → Prop} (h : Acc F cls P) : Acc F.inl cls P := fun b B l H e s f p => by
  refine Fly.note (F := F) (E := cameBackBy F.M F.A F.env F.E) ok tp (b := b) f fun s1 f1 => ?_
  obtain ⟨R, a, ob, vs, rfl, h2, h3, h4, h6, h7⟩ := id f1
  show wpAny F.M F.A _ _ _ _
  rcases h7 with ⟨z, _⟩ | ⟨T, oT, ts, h7, h8, h9, h10, h11, h12⟩
  · cases z
  refine wpAny_bind (wpAny_field h2 h4 h7 ?_)
  rw [if_neg (show ¬ ((Value.ref T == Value.none) = true) from Bool.false_ne_true)]
  show wpAny F.M F.A (setFlight (.ref a) F.env.frame) _ _ _
  exact f1.flight fun s2 f2 => h true _ _ _ _ _ f2 p

theorem OwnAt.lo {c : Base} {B : Keep} {h : Heap} {H : Hp} {a : Addr} {lo : Keep} (x : OwnAt c B h H a) : OwnAt { c with lo := lo } B h H a := ⟨x.out, x.l, x.d, x.p, x.s, x.i, x.c, x.dp, x.g⟩
theorem OwnAt.unlo {c : Base} {B : Keep} {h : Heap} {H : Hp} {a : Addr} {lo : Keep} (x : OwnAt { c with lo := lo } B h H a) : OwnAt c B h H a := ⟨x.out, x.l, x.d, x.p, x.s, x.i, x.c, x.dp, x.g⟩
theorem Rel.floor {c : Base} {L : Addr} {nm : List (Str × NameKind)} {B : Keep} {loc : Loc} {H : Hp} {s : Shared} (R : Rel c L nm B loc H s) : Rel { c with lo := B } L nm B loc H s :=
  ⟨R.keep, ⟨fun a o e => R.based.2 _ _ (R.based.1 _ _ e), Le.refl _⟩, fun a => (R.own a).lo, R.lB, R.lH, R.ns, R.gens, R.os, R.lim, R.sv⟩
theorem Rel.unfloor {c : Base} {L : Addr} {nm : List (Str × NameKind)} {B : Keep} {loc : Loc} {H : Hp} {s : Shared} {lo : Keep} (R : Rel { c with lo := lo } L nm B loc H s) (h1 : ∀ a o, c.base.get? a = some o → c.lo a = some o) (h2 : Le c.lo lo) : Rel c L nm B loc H s :=
  ⟨R.keep, ⟨h1, h2.trans R.based.2⟩, fun a => (R.own a).unlo, R.lB, R.lH, R.ns, R.gens, R.os, R.lim, R.sv⟩

noncomputable abbrev Fx.tryF (F : Fx) (lo : Keep) (E : Value → Shared → Prop) : Fx := { F with c := { F.c with lo := lo }, E := E }
noncomputable abbrev Fx.exF (F : Fx) (e : Value) (E : Value → Shared → Prop) : Fx := { F with A := F.A.mark (some e), E := E }

theorem Fly.through {t : Expr} {B : Keep} {cls e : Value} {s : Shared} {PX : V → Prop} {P : Value → Shared → Prop} (f : Fly F true B loc H cls e s) (h : WE F t loc H fun X l' H' => l' = loc ∧ H' = H ∧ PX X)
    (k : ∀ c X B4 Bx s4, Le B B4 → Fly F true B4 loc H cls e s4 → RelV Bx c X → PX X → P c s4) : wpAny F.M F.A (eval t F.env) P F.E s := by
  obtain ⟨R, a, ob, vs, rfl, h2, h3, h4, h6, h7⟩ := f
  rcases h7 with ⟨z, _⟩ | ⟨T, oT, ts, h7, h8, h9, h10, h11, h12⟩
  · cases z
  obtain ⟨R1, le1⟩ := R.take h2 h6.1 h6.2.1 h6.2.2.1 h6.2.2.2
  obtain ⟨R2, le2⟩ := R1.take h9 (by unfold addB; rw [if_neg h8]; exact h12.1) h12.2.1 h12.2.2.1 h12.2.2.2
  refine (h _ s R2).then fun c B4 X l4 H4 s4 le4 rc R4 ⟨hl, hH, hx⟩ => ?_
  subst hl; subst hH
  have k1 : B4 a = some ob := le4 _ _ (le2 _ _ (by simp [addB]))
  have k2 : B4 T = some oT := le4 _ _ (by simp [addB])
  have la : F.c.lo a = none := base_none R.based.2 h6.1
  have lT : F.c.lo T = none := base_none R.based.2 h12.1
  have R5 := R4.dropIt k1 h4 la (s' := s4) (fun b o _ q => q) rfl rfl
  have k3 : dropB B4 a T = some oT := by rw [dropB_ne h8]; exact k2
  have R6 := R5.dropIt k3 h10 lT (s' := s4) (fun b o _ q => q) rfl rfl
  have na := R4.kept k1
  have nT := R4.kept k2
  refine k c X _ B4 s4 (le_drop (le_drop ((le1.trans le2).trans le4) h6.1) h12.1) ⟨R6, a, ob, vs, rfl, R4.keep _ _ k1, h3, h4, ⟨?_, na⟩, .inr ⟨T, oT, ts, h7, h8, R4.keep _ _ k2, h10, h11, ⟨?_, nT⟩⟩⟩ rc hx
  · rw [dropB_ne (Ne.symm h8)]; simp [dropB]
  · simp [dropB]

theorem WS_Try (ok : Ok F n) (tp : Top F) {body : List Stmt} {b0 : Stmt} {suite : List Stmt} {t : Expr} {hpos pos : Pos} {cls tv : Value} {Q : Fl → Loc → Hp → Prop} (PX : Loc → Hp → Prop)
    (hm : ∀ {A : Around} {E : Value → Shared → Prop} {B l H} {s : Shared} {e : Value} {b : Bool} {Q : Bool → Shared → Prop}, Fly F b B l H cls e s → Q true s → wpAny F.M A (excMatches e tv) Q E s)
    (ht : ∀ e E l H, Ok (F.exF e E) 0 → WE (F.exF e E) t l H fun X l' H' => l' = l ∧ H' = H ∧ ∀ B v, RelV B v X → v = tv)
    (hbody : ∀ lo E, Ok (F.tryF lo E) n → Top (F.tryF lo E) → Acc (F.tryF lo E) cls PX → WSs (F.tryF lo E) body loc H Q)
    (hhandler : ∀ e E l H, Ok (F.exF e E) 0 → PX l H → WSs (F.exF e E) (b0 :: suite) l H Q) :
    WS F (.Try body [.ExceptHandler (some t) none (b0 :: suite) hpos] [] [] pos) loc H Q := fun B s R => by
  refine wpAny_Try_except ?_
  generalize hE : (fun e s₁ => wpAny F.M F.A (noteFrame e F.env) (fun _ s₂ => wpAny F.M F.A (setFlight e none) (fun _ s₃ => wpAny F.M F.A (handleBy e F.env [.ExceptHandler (some t) none (b0 :: suite) hpos]) (Post F RelF B Q) F.E s₃) F.E s₂) F.E s₁) = E'
  have okB : Ok (F.tryF B E') n := ⟨ok.fn, ok.glob, ok.bi, ok.dbg, ok.units, ok.depth, ok.handled, ok.fr⟩
  have tpB : Top (F.tryF B E') := tp
  have okH : ∀ e E, Ok (F.exF e E) 0 := fun e E => ⟨ok.fn, ok.glob, ok.bi, ok.dbg, by have := ok.units; show F.A.units + 40 * 0 + 200 < cLine; omega, by have := ok.depth; show F.A.depth + 4 * 0 + 4 < recursionLimit; omega, fun h => absurd rfl h, ok.fr⟩
  have acc : Acc (F.tryF B E') cls PX := by
    intro b B1 l1 H1 e s1 f p
    subst hE
    have f0 : Fly F b B1 l1 H1 cls e s1 := ⟨f.1.unfloor R.based.1 R.based.2, f.2⟩
    have le : Le B B1 := f.1.based.2
    refine f0.note ok tp fun s2 f2 => f2.flight fun s3 f3 => ?_
    refine wpAny_handleBy_cons (codeAny_handlers_test ?_) (by
      obtain ⟨_, a, _, _, rfl, _⟩ := f3
      intro q; cases q)
    refine Fly.through (F := F.exF e _) f3 (ht e _ l1 H1 (okH e _)) fun c X B4 Bx s4 le4 f4 rc hv => ?_
    obtain rfl := hv _ _ rc
    refine hm f4 (codeAny_handlers_suite (Fly.flight (F := F.exF e _) f4 fun s5 f5 => ?_))
    exact wpAny_mono (hhandler e _ l1 H1 (okH e _) p B4 s5 f5.1) (fun fl s6 q => q.lift (le.trans le4)) fun _ _ x => x
  refine wpAny_mono (hbody B E' okB tpB acc B s R.floor) (fun fl s1 q => ?_) fun _ _ x => x
  have q' : Post F RelF B Q fl s1 := by
    obtain ⟨B1, b, l1, H1, le, rf, R1, q⟩ := q
    exact ⟨B1, b, l1, H1, le, rf, R1.unfloor R.based.1 R.based.2, q⟩
  cases fl <;> first | exact q' | exact wpAny_execs_nil q'
end
end Lay
end
noncomputable section
open PySem PySem.W PyProof.Rows PySem.Calls
set_option Elab.async false
set_option maxRecDepth 100000
set_option linter.all false
namespace Lay
section
variable {prog : Program} {w : World} {A : Around} {E : Value → Shared → Prop} {s : Shared}
theorem pyHash_none {Q : Int → Shared → Prop} (h : Q (0xFCA86420 : Int) { s with toks := s.toks + 1 }) : wpAny (model prog w) A (pyHash .none) Q E s := by
  have hT : s.TypeIs .none "NoneType" := rfl
  unfold pyHash
  first | unfold pyHashByItsType | skip
  refine wpAny_bind (wpAny_pure ?_)
  refine wpAny_bind (wpAny_specialOf hT PySem.F.slot_NoneType_hash.lookup ?_)
  show wpAny _ _ (if (some (Value.builtin "NoneType.__hash__") == some Value.none) = true then _ else _) Q E s
  rw [if_neg (by rw [beq_builtin_none]; exact Bool.false_ne_true)]
  refine wpAny_bind (wpAny_specialOf hT PySem.F.slot_NoneType_hash.lookup ?_)
  show wpAny _ _ (callSpecialIfBoundUnlessNone? .none "__hash__" _ >>= _) Q E s
  refine wpAny_bind (wpAny_callSpecialIfBoundUnlessNone?_slot hT PySem.F.slot_NoneType_hash (wpAny_call_entry PySem.F.slot_NoneType_hash hT PySem.F.entry_NoneType_hash ?_ (PySem.F.args_NoneType_hash_1 _)))
  show wpAny _ _ (retInt 0xFCA86420) _ _ s
  refine wpAny_ret_mkInt ?_
  show wpAny _ _ (if (decide (-(2 : Int) ^ 63 ≤ 0xFCA86420) && decide ((0xFCA86420 : Int) < 2 ^ 63)) = true then _ else _) Q E _
  rw [if_pos (by decide)]
  exact wpAny_pure h
theorem eqBool_none_none {Q : Bool → Shared → Prop} (h : Q true s) : wpAny (model prog w) A (eqBool .none .none) Q E s := by
  unfold eqBool
  try with_reducible refine wpAny_holding ?_
  show wpAny _ _ (if (Value.none == Value.none) = true then _ else _) Q E s
  rw [if_pos (by rfl)]
  exact wpAny_bind (wpAny_rule (wpAny_pure h))
end

noncomputable def optIs : Option Str → Value → Bool
  | none, .none => true
  | some x, v => Value.isStrOf x v
  | _, _ => false
theorem optIs_none {v : Value} (h : optIs none v = true) : v = .none := by cases v <;> first | rfl | cases h
noncomputable def optKind (prog : Program) (w : World) : KeyKind prog w (Option Str) where
  is := optIs
  hash := fun k => match k with | none => 0xFCA86420 | some x => hashStr w x
  inj := fun v a b ha hb => by
    cases a with
    | none =>
      obtain rfl := optIs_none ha
      cases b with
      | none => rfl
      | some b => cases hb
    | some a =>
      obtain ⟨t, rfl⟩ := Value.isStrOf_shape ha
      cases b with
      | none => cases hb
      | some b => exact congrArg some (Value.isStrOf_inj (.str a t) a b ha hb)
  byValue := fun k v h => by
    cases k with
    | none => obtain rfl := optIs_none h; rfl
    | some k => obtain ⟨t, rfl⟩ := Value.isStrOf_shape h; rfl
  pyHash := fun {A E s k v Q} hv h => by
    cases k with
    | none => obtain rfl := optIs_none hv; exact pyHash_none h
    | some k => obtain ⟨t, rfl⟩ := Value.isStrOf_shape hv; exact wpAny_pyHash_str h
  eqBool := fun {A E s a b u v Q} hu hv h => by
    cases a with
    | none =>
      obtain rfl := optIs_none hu
      cases b with
      | none => obtain rfl := optIs_none hv; exact eqBool_none_none (by simpa using h)
      | some b => obtain ⟨t, rfl⟩ := Value.isStrOf_shape hv; exact SeqAt.EqAt.none_str b t _ _ _ _ (by simpa using h)
    | some a =>
      obtain ⟨t, rfl⟩ := Value.isStrOf_shape hu
      cases b with
      | none => obtain rfl := optIs_none hv; exact SeqAt.EqAt.str_none a t _ _ _ _ (by simpa using h)
      | some b => obtain ⟨t', rfl⟩ := Value.isStrOf_shape hv; exact wpAny_eqBool_str (by simpa using h)
  «strs» := fun k x t v h => by
    cases k with
    | none => cases h
    | some k =>
      obtain ⟨u, hu⟩ := Value.isStrOf_shape (x := k) (v := .str x t) h
      injection hu with hx
      subst hx
      cases v <;> rfl

section
variable {F : Fx} {n : Nat} {loc : Loc} {H : Hp}
theorem dictOf_opt {prog : Program} {w : World} {h : Heap} {d : Addr} {cs : List (Str × Value)} (x : h.DictOf (PySem.strKind prog w) d cs) : ∃ f, h.MapOf (optKind prog w) d f ∧ f none = none := by
  obtain ⟨o, es, ep, h1, h2, h3, h4, h5⟩ := x
  refine ⟨fun k => findBy (optKind prog w).is es k, ⟨o, es, ep, h1, h2, h3, ?_, fun _ => rfl⟩, ?_⟩
  · intro e he
    obtain ⟨k, k1, k2⟩ := h4 e he
    exact ⟨some k, k1, k2⟩
  · unfold findBy
    have : es.find? (fun e => (optKind prog w).is none e.key) = none := by
      rw [Array.find?_eq_none]
      intro e he
      obtain ⟨k, k1, k2⟩ := h4 e he
      obtain ⟨t, ht⟩ := Value.isStrOf_shape k1
      rw [ht]; simp [optKind, optIs]
    first | rw [this]; rfl | simp [this]
theorem Call_dget2_none {d : Addr} {kvs : List (Str × V)} {Z : V} {Q : V → Loc → Hp → Prop} (e : H.D d = some kvs) (q : Q Z loc H) : Call F (.raw (.builtin "dict.get")) [.ref d, .none, Z] loc H Q := fun B s v vs R rv rvs => by
  cases rv
  cases rvs with | cons ra r2 => ?_
  cases r2 with | cons rb r3 => ?_
  cases r3 with | cons rc r4 => ?_
  cases r4; cases ra; cases rb
  obtain ⟨cs, h1, h2, h3⟩ := dict_at R e
  obtain ⟨f, hf, hn⟩ := dictOf_opt h1
  refine call_meetsIn PySem.F.slot_dict_get h1.typeIs PySem.F.entry_dict_get (PySem.F.args_dict_get_3 _ _ _) (meets_dict_get_default (optKind F.c.prog F.c.w) (k := none) d rfl h3 _) ⟨_, hf, ?_⟩
  rw [hn]
  exact Post.pure (b := Z) rc (R.tok _) q

theorem GetA_inst {K : Frag} (hK : K.In F.c.base) {C : Addr} {fs : List (Str × V)} {name : Str} {Y : V} {Q : V → Loc → Hp → Prop} (hy : dget fs name = some Y) (hr : notRaw Y = true)
    (hg : plainGet K C name = true) (hh : hasDictIn K C = true) (ha : findIn K (.ref C) name = some none) (q : Q Y loc H) : GetA F name (.inst C fs) loc H Q := fun B s o R ro => by
  cases ro with | @inst a _ d od es ep _ h1 h2 h3 r => ?_
  obtain ⟨v, e5, rv⟩ := r.get hy
  have I : InstAt s.heap a (instObj' C d) C (some od) := ⟨R.keep _ _ h1, rfl, rfl, R.keep _ _ h2⟩
  exact get_value (fun a o e => R.inBase (hK a o e)) I (plainGet_of hg).1 (findObj_own hh ha rfl e5) (handed_of rv hr) (Post.pure rv (R.tok _) q)

theorem Cmp_isNone {X : V} {b : Bool} {Q : Bool → Loc → Hp → Prop} (hX : (match X with | .none => true | .raw _ => false | _ => false) = b) (hr : notRaw X = true) (q : Q b loc H) : Cmp F .Is X .none loc H Q := fun B s v u R rv ru => by
  cases ru
  refine is_none (Post.pure ?_ R q)
  subst hX
  cases rv <;> first | rfl | cases hr

theorem Call_list_dict {d : Addr} {kvs : List (Str × V)} {Q : V → Loc → Hp → Prop} (hh : F.A.handled = none) (e : H.D d = some kvs) (hz : kvs.length ≤ 100000) (q : ∀ a, H.Fresh a → Q (.ref a) loc { H with L := up H.L a (kvs.map fun p => .str p.1) }) : Call F (.raw (.type "list")) [.ref d] loc H Q := fun B s v vs R rv rvs => by
  cases rv
  cases rvs with | cons ra r2 => ?_
  cases r2; cases ra
  obtain ⟨cs, h1, h2, h3⟩ := dict_at R e
  obtain ⟨ep, hm⟩ := h1.dictAt
  have hok := ((R.own d).d kvs e).1
  have hlen := h2.length
  refine kdl_call (kdl_dict (knd := PySem.strKind F.c.prog F.c.w) (ep := ep) h3) hh hm (by rw [hlen, sizeLine_eq]; omega) fun h' tk acc' c' hk hn hacc => ?_
  have hr : RelVs B acc'.toList (kvs.map fun p => V.str p.1) := by
    have gen : ∀ (cs : List (Str × Value)) (kvs : List (Str × V)) (vs : List Value), RelKs B cs kvs → (∀ p ∈ kvs, PyData.strOk p.1 = true) → vs.length = cs.length → (∀ (j : Nat) (v : Value), vs[j]? = some v → ∃ k x, cs[j]? = some (k, x) ∧ (PySem.strKind F.c.prog F.c.w).is k v = true) → RelVs B vs (kvs.map fun p => V.str p.1) := by
      intro cs kvs vs h
      induction h generalizing vs with
      | nil => intro _ hl _; cases vs with | nil => exact .nil | cons _ _ => cases hl
      | @cons k v x cs kvs r t ih =>
        intro hok hl hv
        cases vs with
        | nil => cases hl
        | cons u us =>
          obtain ⟨k', x', e1, e2⟩ := hv 0 u rfl
          simp at e1
          obtain ⟨rfl, rfl⟩ := e1
          obtain ⟨t', rfl⟩ := Value.isStrOf_shape e2
          exact .cons (.str _ _ (hok _ (.head _))) (ih us (fun p hp => hok p (.tail _ hp)) (by simpa using hl) fun j v hj => by simpa using hv (j + 1) v (by simpa using hj))
    refine gen cs kvs _ h2 hok ?_ ?_
    · rw [Array.length_toList]; exact hacc.1
    · intro j v hj; exact hacc.2 j v (by rw [← Array.getElem?_toList]; exact hj)
  exact Post.pure (.ref _) (R.newL (s' := { s with heap := h', toks := tk }) (a := s.heap.objs.size) (items := acc') (n := c') (Nat.le_refl _) hk hn hr rfl rfl) (q _ (R.fresh_H (R.fresh (Nat.le_refl _)).1))
theorem Call_set0 {Q : V → Loc → Hp → Prop} (q : ∀ a, H.Fresh a → Q (.ref a) loc { H with S := up H.S a (fun _ => false, 0) }) : Call F (.raw (.type "set")) [] loc H Q := fun B s v vs R rv rvs => by
  cases rv
  cases rvs
  refine call_set_0 fun led => ?_
  exact Post.pure (.ref _) (R.newS (s' := { s with heap := s.heap.push { cls := .type "set", dict := none, data := .set #[] 0 (.fresh 0 0 led) } }) (a := s.heap.objs.size) (S' := (fun _ => false, 0)) (Nat.le_refl _) (fun b o e => Heap.get?_push_of_some _ e)
    ⟨_, #[], 0, .fresh 0 0 led, Heap.get?_push_size _ rfl, ⟨rfl, rfl, rfl⟩, rfl, (fun e he => by simp at he), (fun k => by simp), (by decide), rfl, rfl⟩ rfl rfl) (q _ (R.fresh_H (R.fresh (Nat.le_refl _)).1))

theorem isPair_of {B : Keep} {s : Shared} (R : FRel F B loc H s) {k : Str × List Str} {a : Addr} (r : RelV B (.ref a) (pairV k)) : IsPair F.c.prog F.c.w s.heap k a := by
  unfold pairV at r
  cases r with | @tup _ items m _ hb hr => ?_
  obtain ⟨vs⟩ := items
  cases hr with | cons r1 r2 => ?_
  cases r2 with | cons r2 r3 => ?_
  cases r3
  cases r1 with | str _ t hk => ?_
  cases r2 with | @tup a2 items2 m2 _ hb2 hr2 => ?_
  refine ⟨_, _, m, t, a2, R.keep _ _ hb, rfl, rfl, rfl, _, items2, m2, R.keep _ _ hb2, rfl, rfl, ?_⟩
  have gen : ∀ (ks : List Str) (vs : List Value), RelVs B vs (ks.map .str) → ItemsAre (PySem.strKind F.c.prog F.c.w) ks vs := by
    intro ks
    induction ks with
    | nil => intro vs r; cases r; exact .nil
    | cons k ks ih =>
      intro vs r
      cases r with | cons r1 r2 => ?_
      cases r1
      exact .cons (strKind_is _ _) (ih _ r2)
  exact gen _ _ hr2
theorem pdict_at {B : Keep} {s : Shared} (R : FRel F B loc H s) {d : Addr} {ks : List (Str × List Str)} (e : H.P d = some ks) : ∃ xs : List ((Str × List Str) × Addr × Value), s.heap.DictOfH (pairKind F.c.prog F.c.w) d xs ∧ xs.map (·.1) = ks ∧ (∀ x ∈ xs, RelV B (.ref x.2.1) (pairV x.1)) ∧ (d == sysModules) = false := by
  obtain ⟨o, es, ep, xs, h1, h2, h3, h4, h5, h6, h7⟩ := (R.own d).p ks e
  refine ⟨xs, ⟨o, es, ep, h1, h2, h3, h4, fun x hx => isPair_of R (h7 x hx), by rw [h5]; exact h6⟩, h5, h7, ?_⟩
  have hw : H.Own d := .inr (.inr (.inl (by rw [e]; simp)))
  have h3 := ((R.own d).out hw).2
  have h4 := R.lim.1
  have : d ≠ 1 := Nat.ne_of_gt (Nat.lt_of_le_of_lt h4 h3)
  simpa [sysModules] using this
theorem atKey_isSome {K : Type} [DecidableEq K] (xs : List (K × Addr × Value)) (k : K) : (atKey xs k).isSome = decide (k ∈ xs.map (·.1)) := by
  unfold atKey
  rw [Option.isSome_map]
  induction xs with
  | nil => rfl
  | cons x xs ih =>
    rw [List.find?_cons]
    by_cases e : x.1 = k
    · simp [e]
    · simp only [e, decide_false, ih]
      simp [Ne.symm e]
theorem Cmp_inP (ok : Ok F n) {k : Str × List Str} {d : Addr} {ks : List (Str × List Str)} {Q : Bool → Loc → Hp → Prop} (e : H.P d = some ks) (q : Q (decide (k ∈ ks)) loc H) : Cmp F .In (pairV k) (.ref d) loc H Q := fun B s a b R ra rb => by
  have ra' := ra
  unfold pairV at ra
  cases ra; cases rb
  obtain ⟨xs, h1, h2, h3, h4⟩ := pdict_at R e
  refine wpAny_in_heap (knd := pairKind F.c.prog F.c.w) (by have := ok.u (k := 30) (by omega); show F.A.in1.units + 1 < cLine; show F.A.units + 1 + 1 < cLine; omega) (isPair_of R ra') h4 h1 (Post.pure ?_ (R.tok _) q)
  rw [atKey_isSome, h2]
  exact congrArg Value.bool (decide_eq_decide.mpr Iff.rfl)
theorem Set_P (ok : Ok F n) {k : Str × List Str} {d : Addr} {ks : List (Str × List Str)} {Z : V} {Q : Loc → Hp → Prop} (e : H.P d = some ks) (eG : H.G d = none) (hnew : k ∉ ks) (hz : ks.length ≤ 100000) (q : Q loc { H with P := up H.P d (ks ++ [k]) }) : Set_ F (.ref d) (pairV k) Z loc H Q := fun B s o i v R ro ri rv => by
  have ri' := ri
  unfold pairV at ri
  cases ro
  cases ri
  rename_i ai _ _ _ _
  obtain ⟨xs, h1, h2, h3, h4⟩ := pdict_at R e
  have hno : atKey xs k = none := by
    have := atKey_isSome xs k
    rw [h2] at this
    simp only [hnew, decide_false] at this
    cases z : atKey xs k with
    | none => rfl
    | some p => rw [z] at this; cases this
  have hl : xs.length = ks.length := by rw [← h2, List.length_map]
  refine wpAny_setItem_heap (knd := pairKind F.c.prog F.c.w) (by have := ok.u (k := 30) (by omega); show F.A.in1.units + 1 < cLine; show F.A.units + 1 + 1 < cLine; omega) (isPair_of R ri') h1 (fun h' hd' hs' => ?_) (by first | (rw [sizeLine_eq]; omega) | (rw [hl, sizeLine_eq]; omega))
  rw [storedH_new hno] at hd'
  obtain ⟨o', es', ep', g1, g2, g3, g4, g5, g6⟩ := hd'
  refine Post.pure (b := ()) trivial (R.setP (s' := { s with heap := h', toks := s.toks + (pairKind F.c.prog F.c.w).draws k }) e eG (fun b o hb h => (hs'.2 b hb).trans h) g1 g2 g3 g4 (ks' := ks ++ [k]) (by simp [h2]) (by simpa [h2] using g6) ?_ rfl rfl) q
  intro x hx
  rcases List.mem_append.mp hx with hx | hx
  · exact h3 x hx
  · simp at hx; subst hx; exact ri'
theorem Rel.asP {c : Base} {L : Addr} {nm : List (Str × NameKind)} {B : Keep} {s : Shared} {d : Addr} (R : Rel c L nm B loc H s) (e : H.D d = some []) (eG : H.G d = none) : Rel c L nm B loc { H with D := un H.D d, P := up H.P d [] } s := by
  obtain ⟨_, cs, ⟨o, es, ep, h1, h2, h3, h4, h5, h6⟩, h7⟩ := (R.own d).d _ e
  cases h7
  have hes : es.toList = [] := by
    have := h5.length
    simpa using this
  have hw : H.Own d := .inr (.inl (by rw [e]; simp))
  obtain ⟨z1, _, z3, z4, z5⟩ := (R.own d).none_of h1
  have y1 := z1 (by rw [h2.1]; decide)
  have y3 := z3 (by rw [h2.1]; decide)
  have y4 := z4 (by intro C h; rw [h2.1] at h; cases h)
  have y5 := z5 (by intro v h; rw [h3] at h; cases h)
  refine R.of_old hw (fun b o _ e => e) (fun b hb => ⟨rfl, (un_ne hb).symm, up_same _ _ _ hb, rfl, rfl, rfl, rfl⟩) ⟨fun _ => (R.own d).out hw, ?_, ?_, ?_, ?_, ?_, ?_, fun h => absurd (un_self _ _) h, ?_⟩ rfl rfl
  · intro y hy; rw [y1] at hy; cases hy
  · intro y hy; simp at hy
  · intro y hy
    simp only [up_self, Option.some.injEq] at hy
    subst hy
    exact ⟨o, es, ep, [], h1, h2, h3, by simpa using hes, rfl, List.nodup_nil, fun x hx => nomatch hx⟩
  · intro y hy; rw [y3] at hy; cases hy
  · intro y hy; rw [y4] at hy; cases hy
  · intro y hy; rw [y5] at hy; cases hy
  · intro y hy; simp only [eG] at hy; cases hy
theorem WE_Dict0P {pos : Pos} {Q : V → Loc → Hp → Prop} (q : ∀ a, H.Fresh a → Q (.ref a) loc { H with P := up H.P a [] }) : WE F (.Dict [] [] pos) loc H Q := fun B s R => by
  show wpAny F.M F.A (eval (.Dict [] [] pos) F.env) _ _ _
  rw [eval_Dict_empty]
  refine wpAny_bind (wpAny_standAt (PW_newDict R fun a s' hf R' => ?_))
  have hD : H.D a = none := (not_own hf).2.1
  have hG : H.G a = none := by
    cases z : H.G a with
    | none => rfl
    | some ep => exact absurd hD ((R.own a).g ep z).1
  have R2 := R'.asP (d := a) (by simp) hG
  rw [show ({ L := H.L, D := un (up H.D a []) a, P := up H.P a [], S := H.S, I := H.I, C := H.C, G := H.G } : Hp) = { H with P := up H.P a [] } by rw [un_up hD]] at R2
  exact Post.pure (.ref a) R2 (q a hf)

noncomputable def WPs (F : Fx) (ps : List (Expr × Expr)) (pos : Pos) (loc : Loc) (H : Hp) (Q : List (Str × V) → Loc → Hp → Prop) : Prop := ∀ B s, FRel F B loc H s →
  PW F (evalPairs (ps.map fun p => (eval p.1 F.env, do let x ← eval p.2 F.env; standAt pos; pure x))) (fun B vs kvs => ∃ cs, Carries (PySem.strKind F.c.prog F.c.w) vs cs ∧ RelKs B cs kvs ∧ ∀ p ∈ kvs, PyData.strOk p.1 = true) B s Q
theorem WPs_nil {pos : Pos} {Q : List (Str × V) → Loc → Hp → Prop} (q : Q [] loc H) : WPs F [] pos loc H Q := fun B s R => wpAny_pure (Post.pure (b := []) ⟨[], trivial, .nil, fun _ h => nomatch h⟩ R q)
theorem WPs_cons {k v : Expr} {ps : List (Expr × Expr)} {pos : Pos} {Q : List (Str × V) → Loc → Hp → Prop} (h : WE F k loc H fun X l1 H1 => ∃ x, X = .str x ∧ WE F v l1 H1 fun Y l2 H2 => WPs F ps pos l2 H2 fun kvs l3 H3 => Q ((x, Y) :: kvs) l3 H3) : WPs F ((k, v) :: ps) pos loc H Q := fun B s R => by
  show wpAny F.M F.A (evalPairs (((k, v) :: ps).map _)) _ _ _
  rw [List.map_cons, evalPairs]
  refine wpAny_bind ((h B s R).then fun kv B1 X l1 H1 s1 le1 rk R1 ⟨x, hX, h1⟩ => ?_)
  subst hX
  cases rk with | str _ t hk => ?_
  refine wpAny_bind (wpAny_holding (wpAny_bind ((h1 B1 s1 R1).then fun vv B2 Y l2 H2 s2 le2 rv R2 h2 => wpAny_bind (wpAny_standAt (wpAny_pure ?_)))))
  refine wpAny_bind (wpAny_holding ((h2 B2 s2 R2).then fun vs B3 kvs l3 H3 s3 le3 ⟨cs, c1, c2, c3⟩ R3 q => wpAny_pure ?_))
  refine (Post.pure (b := (x, Y) :: kvs) ⟨(x, vv) :: cs, ⟨strKind_is _ _, rfl, c1⟩, .cons (rv.mono le3) c2, fun p hp => ?_⟩ R3 q).lift (le1.trans (le2.trans le3))
  cases hp with
  | head _ => exact hk
  | tail _ hp => exact c3 p hp
theorem RelKs.merged {B : Keep} {cs : List (Str × Value)} {kvs : List (Str × V)} (h : RelKs B cs kvs) : ∀ {cs0 : List (Str × Value)} {kvs0 : List (Str × V)}, RelKs B cs0 kvs0 → RelKs B (PySem.merged cs0 cs) (kvs.foldl (fun d p => dput d p.1 p.2) kvs0) := by
  induction h with
  | nil => intro _ _ h; exact h
  | cons r t ih => intro _ _ h; exact ih (h.stored r)
theorem WE_DictD {keys : List (Option Expr)} {values : List Expr} {pos : Pos} {Q : V → Loc → Hp → Prop} (ps : List (Expr × Expr))
    (hshape : (evalEachOpt keys F.env).zip ((evalEach values F.env).map fun v => do let x ← v; standAt pos; pure x) = (ps.map fun p => (eval p.1 F.env, do let x ← eval p.2 F.env; standAt pos; pure x)).map fun p => (some p.1, p.2)) (h0 : ps ≠ []) (hlen : ps.length ≤ 15)
    (h : ∀ a, H.Fresh a → WPs F ps pos loc { H with D := up H.D a [] } fun kvs l1 H1 => H1.D a = some [] ∧ H1.G a = none ∧ Q (.ref a) l1 { H1 with D := up H1.D a (kvs.foldl (fun d p => dput d p.1 p.2) []) }) : WE F (.Dict keys values pos) loc H Q := fun B s R => by
  have hf := R.fresh_H (R.fresh (Nat.le_refl s.heap.objs.size)).1
  refine wpAny_Dict_pairs (knd := PySem.strKind F.c.prog F.c.w) hshape (by intro e; exact h0 (List.map_eq_nil_iff.mp e)) (by rw [List.length_map]; exact hlen) ?_
  have R1 : FRel F B loc { H with D := up H.D s.heap.objs.size [] } { s with heap := s.heap.push { cls := .type "dict", data := .dict #[] } } :=
    R.newD (s' := { s with heap := s.heap.push { cls := .type "dict", data := .dict #[] } }) (cs := []) (Nat.le_refl _) (fun b o e => Heap.get?_push_of_some _ e) (fun p hp => nomatch hp) ⟨_, #[], 0, Heap.get?_push_size _ rfl, ⟨rfl, rfl, rfl⟩, rfl, fun _ he => by simp at he, .nil, List.nodup_nil⟩ .nil rfl rfl
  refine (h _ hf B _ R1).then fun vs B1 kvs l1 H1 s1 le1 ⟨cs, c1, c2, c3⟩ R2 ⟨e1, e2, q⟩ => ⟨cs, c1, ?_, fun h' hd hs => ?_⟩
  · obtain ⟨_, cs', hd, hr⟩ := (R2.own _).d _ e1
    cases hr
    exact hd
  · refine (Post.pure (.ref _) (R2.setD (s' := { s1 with heap := h', toks := s1.toks + vs.length }) e1 e2 (fun b o hb z => (hs.2 b hb).trans z) ?_ hd (c2.merged .nil) rfl rfl) q).lift le1
    have gen : ∀ (kvs kvs0 : List (Str × V)), (∀ p ∈ kvs, PyData.strOk p.1 = true) → (∀ p ∈ kvs0, PyData.strOk p.1 = true) → ∀ p ∈ kvs.foldl (fun d p => dput d p.1 p.2) kvs0, PyData.strOk p.1 = true := by
      intro kvs
      induction kvs with
      | nil => intro kvs0 _ h0; exact h0
      | cons p kvs ih =>
        intro kvs0 h h0
        refine ih _ (fun q hq => h q (.tail _ hq)) ?_
        intro q hq
        change q ∈ dput kvs0 p.1 p.2 at hq
        unfold dput at hq
        split at hq
        · obtain ⟨q', hq', rfl⟩ := List.mem_map.mp hq
          split
          · exact h0 q' hq'
          · exact h0 q' hq'
        · rcases List.mem_append.mp hq with hq | hq
          · exact h0 _ hq
          · simp at hq; subst hq; exact h p (.head _)
    exact gen _ _ c3 (fun _ h => nomatch h)
end
end Lay
end
noncomputable section
open PySem PySem.W PyProof.Rows PySem.Calls
set_option Elab.async false
set_option maxRecDepth 100000
set_option linter.all false
namespace Lay
section
variable {F : Fx} {n : Nat} {loc : Loc} {H : Hp}

theorem strOk_append {x y : Str} (hx : PyData.strOk x = true) (hy : PyData.strOk y = true) : PyData.strOk (x ++ y) = true := by
  unfold PyData.strOk at *
  show (x.cps ++ y.cps).all _ = true
  rw [Array.all_append, hx, hy]; rfl
noncomputable def WFld (F : Fx) (e : Expr) (loc : Loc) (H : Hp) (Q : Str → Loc → Hp → Prop) : Prop := ∀ B s, FRel F B loc H s → PW F (eval e F.env) (fun _ v y => (∃ t, v = .str y t) ∧ PyData.strOk y = true ∧ y.length ≤ 10000) B s Q
theorem WFld_str {value : Expr} {pos : Pos} {Q : Str → Loc → Hp → Prop} (h : WE F value loc H fun X l H => ∃ y, X = .str y ∧ y.length ≤ 10000 ∧ Q y l H) : WFld F (.FormattedValue value (-1) none pos) loc H Q := fun B s R => by
  refine FormattedValue_plain ((h B s R).then fun v B1 X l1 H1 s1 le1 r R1 ⟨y, hX, hy, q⟩ => ?_)
  subst hX
  cases r with | str _ t hk => ?_
  refine formatField_str (fun t' tk => ?_) (by rw [sizeLine_eq]; omega)
  exact (Post.pure (b := y) ⟨⟨t', rfl⟩, hk, hy⟩ (R1.grow (s' := { s1 with toks := tk }) (fun _ _ e => e) rfl rfl) q).lift le1
theorem WFld_int {value : Expr} {pos : Pos} {Q : Str → Loc → Hp → Prop} (h : WE F value loc H fun X l H => ∃ i : Int, X = .int i ∧ i.natAbs.log2 < 1920 ∧ (Str.ofString (toString i)).length ≤ 10000 ∧ Q (Str.ofString (toString i)) l H) : WFld F (.FormattedValue value (-1) none pos) loc H Q := fun B s R => by
  refine FormattedValue_plain ((h B s R).then fun v B1 X l1 H1 s1 le1 r R1 ⟨i, hX, hi, hl, q⟩ => ?_)
  subst hX
  cases r
  refine formatField_int_small hi ?_
  exact (Post.pure (b := Str.ofString (toString i)) ⟨⟨_, rfl⟩, ofString_ok _, hl⟩ (R1.grow (s' := { s1 with toks := s1.toks + 1 + 1 }) (fun _ _ e => e) rfl rfl) q).lift le1
theorem WE_FStr2 {a b : Expr} {pos : Pos} {Q : V → Loc → Hp → Prop} (h : WFld F a loc H fun x l1 H1 => WFld F b l1 H1 fun y l2 H2 => Q (.str (Str.empty ++ x ++ y)) l2 H2) : WE F (.JoinedStr [a, b] pos) loc H Q := fun B s R => by
  have e : ∀ x y : Str, (x ++ y).length = x.length + y.length := strLen_append
  have e0 : Str.empty.length = 0 := rfl
  refine JoinedStr_many (joinParts_cons ((h B s R).then fun v B1 x l1 H1 s1 le1 ⟨⟨t, hv⟩, hx, lx⟩ R1 h1 => ?_))
  subst hv
  refine ⟨by rw [e, e0, sizeLine_eq]; omega, joinParts_cons ((h1 B1 s1 R1).then fun v2 B2 y l2 H2 s2 le2 ⟨⟨t2, hv2⟩, hy, ly⟩ R2 q => ?_)⟩
  subst hv2
  refine ⟨by rw [e, e, e0, sizeLine_eq]; omega, joinParts_nil ((Post.pure (.str _ _ (strOk_append (strOk_append (by simp [PyData.strOk, Str.empty]) hx) hy)) (R2.tok _) q).lift (le1.trans le2)) (by rw [e, e, e0, sizeLine_eq]; omega)⟩

noncomputable def CCall (F : Fx) (f : Addr) (Xs : List V) (kws : List Str) (Ws : List V) (loc : Loc) (H : Hp) (Q : V → Loc → Hp → Prop) : Prop :=
  ∀ B s vs ws (RR : Result → Shared → Prop), FRel F B loc H s → RelVs B vs Xs → RelVs B ws Ws → (∀ v s', Post F RelV B Q v s' → RR (.ok (.ret v)) s') → codeAny F.M F.A (.call (.ref f) ⟨vs, kws.zip ws⟩) RR s
theorem CCall_def (ok : Ok F (n + 1)) {f : Addr} {fd : FuncData} {body : List Stmt} {kws : List Str} {Xs Ws : List V} {bV : List (Str × V)} {Q : V → Loc → Hp → Prop} (W : Fn F.c.base f fd body)
    (hbind : ∀ (vs ws : List Value) (B : Keep), RelVs B vs Xs → RelVs B ws Ws → Le (fun a => F.c.base.get? a) B → ∃ bs, Looks F.M F.c.base (bindArgs fd ⟨vs, kws.zip ws⟩) bs ∧ RelKs B bs bV)
    (hnd : (bV.map (·.1)).Nodup) (hloc : ∀ x ∈ bV.map (·.1), fd.scope.names.lookup x = some .local ∨ fd.scope.names.lookup x = some .cell)
    (h : ∀ sv A L E, Ok ⟨F.c.sv sv, A, callEnvC fd L f, E⟩ n → Top ⟨F.c.sv sv, A, callEnvC fd L f, E⟩ → (∀ x c, (x, c) ∈ cellsFrom (L + 1) fd.scope.names [] → H.Fresh c) →
      WSs ⟨F.c.sv sv, A, callEnvC fd L f, E⟩ body (initLoc fd.scope.names bV) (addCells H bV (cellsFrom (L + 1) fd.scope.names [])) fun fl _ H' => Q (retV fl) loc H') : CCall F f Xs kws Ws loc H Q := fun B s vs ws RR R rvs rws hR =>
  Code_def ok W hbind hnd hloc (fun sv L ok' tp hf => h sv _ L _ ok' tp hf) R rvs rws hR

noncomputable abbrev Fx.under (F : Fx) (c : Code) : Fx := { F with A := F.A.under c }
theorem frames_call (args : Args) : Code.frames (.builtin "type.__call__" args) = 0 := by
  unfold Code.frames
  first | rfl | (simp; done)
theorem Ok.underC (ok : Ok F (n + 1)) {C : Addr} {vs : List Value} {kw : List (Str × Value)} : Ok (F.under (.builtin "type.__call__" ⟨.ref C :: vs, kw⟩)) n := by
  have hf := frames_call ⟨.ref C :: vs, kw⟩
  have hw : Code.weight (.builtin "type.__call__" ⟨.ref C :: vs, kw⟩) ≤ 2 := by
    unfold Code.weight
    rw [hf]
    have h1 : Code.isGuard (.builtin "type.__call__" ⟨.ref C :: vs, kw⟩) = false := by show guardIds.contains "type.__call__" = false; decide
    have h2 : Code.isCaller (.builtin "type.__call__" ⟨.ref C :: vs, kw⟩) = false := by rfl
    rw [h1, h2]
    split <;> simp
  have hu : Code.cUnits (.builtin "type.__call__" ⟨.ref C :: vs, kw⟩) = 1 := by
    show 1 + 3 * Code.frames _ = 1
    rw [hf]
  have he : Code.envs (.builtin "type.__call__" ⟨.ref C :: vs, kw⟩) = [] := by rfl
  refine ⟨ok.fn, ok.glob, ok.bi, ok.dbg, ?_, ?_, fun _ => ok.handled (by omega), ?_⟩
  · have := ok.units
    show F.A.units + Code.cUnits _ + 40 * n + 200 < cLine
    rw [hu]; omega
  · have := ok.depth
    show F.A.depth + Code.weight _ + 4 * n + 4 < recursionLimit
    omega
  · obtain ⟨fl, h1, h2⟩ := ok.fr
    refine ⟨fl, ?_, h2⟩
    show pushEnvs (Code.envs (.builtin "type.__call__" ⟨.ref C :: vs, kw⟩)) F.A.frames = some fl
    rw [he]; exact h1

theorem Call_cls (ok : Ok F (n + 1)) {K : Frag} (hK : K.In F.c.base) {C fI : Addr} {Xs : List V} {Q : V → Loc → Hp → Prop} (hm : makesIn K C = true) (hi : findIn K (.ref C) "__init__" = some (some (.ref fI))) (hf : typeIn K (.ref fI) = some (.type "function"))
    (h : ∀ A' x d, Ok { F with A := A' } n → H.Fresh x → H.Fresh d → d < x → CCall { F with A := A' } fI (.ref x :: Xs) [] [] loc { H with I := up H.I x (C, d), D := up H.D d [] } fun X l H' => X = .none ∧ Q (.ref x) l H') : Call F (.ref C) Xs loc H Q := fun B s v vs R rv rvs => by
  cases rv
  obtain ⟨hh, g, dr, t, os⟩ := s
  have X : K.In hh := fun a o e => R.inBase (hK a o e)
  have Y : Makes F.M hh C := makes_of X hm
  refine wpAny_call (make_core (rest := vs) (kw := []) Y (looks_findIn X hi) (fun self => bind_fn X self hf) (.inl (by simp)) ?_)
  have R1 : FRel F B loc { H with D := up H.D hh.objs.size [] } ⟨hh.push emptyDict, g, dr, t, os⟩ :=
    R.newD (s' := ⟨hh.push emptyDict, g, dr, t, os⟩) (a := hh.objs.size) (cs := []) (Nat.le_refl _) (fun b o e => Heap.get?_push_of_some _ e) (fun p hp => nomatch hp) ⟨_, #[], 0, Heap.get?_push_size _ rfl, ⟨rfl, rfl, rfl⟩, rfl, fun _ he => by simp at he, .nil, List.nodup_nil⟩ .nil rfl rfl
  have R2 : FRel F B loc { H with I := up H.I (hh.objs.size + 1) (C, hh.objs.size), D := up H.D hh.objs.size [] } ⟨(hh.push emptyDict).push (instObj C hh.objs.size), g, dr, t, os⟩ :=
    R1.newI (s' := ⟨(hh.push emptyDict).push (instObj C hh.objs.size), g, dr, t, os⟩) (a := hh.objs.size + 1) (Cd' := (C, hh.objs.size)) (by show (hh.push emptyDict).objs.size ≤ _; rw [Heap.size_push]; exact Nat.le_refl _) (fun b o e => Heap.get?_push_of_some _ e) (by
      have := Heap.get?_push_size (hh.push emptyDict) (o := instObj C hh.objs.size) rfl
      rw [Heap.size_push] at this; exact this) rfl rfl
  refine h _ (hh.objs.size + 1) hh.objs.size ok.underC (R.fresh_H (R.fresh (Nat.le_succ _)).1) (R.fresh_H (R.fresh (Nat.le_refl _)).1) (Nat.lt_succ_self _) B _ (.ref (hh.objs.size + 1) :: vs) [] _ R2 (.cons (.ref _) rvs) .nil ?_
  intro v s' p
  obtain ⟨B', b, l', H', le, r, R', rfl, q⟩ := p
  cases r
  exact ⟨rfl, B', _, l', H', le, .ref _, R', q⟩

theorem hm_KeyError {A : Around} {E : Value → Shared → Prop} {B l H} {s : Shared} {e : Value} {b : Bool} {Q : Bool → Shared → Prop} (f : Fly F b B l H (.type "KeyError") e s) (q : Q true s) : wpAny F.M A (excMatches e (.type "KeyError")) Q E s :=
  wpAny_excMatches_type (Fly.typeIs (C := "KeyError") f) (by rw [isSubtype_type]; kernel_rfl) (by kernel_rfl) (by rw [isSubtype_type]; kernel_rfl) q
end
end Lay
end
noncomputable section
open PySem PySem.W PyProof.Rows PySem.Calls
set_option Elab.async false
set_option maxRecDepth 100000
set_option linter.all false
namespace Lay
structure Wd (K : Frag) (h : Heap) : Prop where
  k : K.In h
  g : ∃ mg, h.Ns mainGlobals mg
  b : ∃ mb : Str → Option Value, h.Ns builtinsNs mb ∧ ∀ x : Str, x ≠ "__name__" → mb x = bootBuiltins x
  nolim : h.NoLimit
noncomputable def kFd (K : Frag) (a : Addr) : Option FuncData := match K.lookup a with
  | some ⟨_, _, .func fd, _⟩ => some fd
  | _ => none
noncomputable def noDup : List Str → Bool
  | [] => true
  | x :: r => !r.contains x && noDup r
theorem noDup_of : ∀ {l : List Str}, noDup l = true → l.Nodup
  | [], _ => .nil
  | x :: r, h => by
    unfold noDup at h
    simp only [Bool.and_eq_true, Bool.not_eq_true'] at h
    refine List.nodup_cons.mpr ⟨fun hm => ?_, noDup_of h.2⟩
    have := h.1
    rw [List.contains_eq_mem] at this
    simp [hm] at this
noncomputable def okFd (K : Frag) (fd : FuncData) : Bool := codeIn K fd.code fd.qualname && fd.closure.isEmpty && noDup (fd.scope.names.map (·.1)) && fd.globals == mainGlobals && fd.builtins == builtinsNs && fd.scope.kind == .function && !fd.scope.isCoroutine && !fd.scope.isGenerator && (fd.scope.names.lookup ("__debug__" : Str)).isNone
theorem Fn.of {K : Frag} {b : Heap} (W : Wd K b) {a : Addr} {fd : FuncData} {body : List Stmt} (h : kFd K a = some fd) (hb : fd.body = .stmts body) (ho : okFd K fd = true) : Fn b a fd body := by
  unfold okFd at ho
  simp only [Bool.and_eq_true, Bool.not_eq_true', beq_iff_eq, List.isEmpty_iff, Option.isNone_iff_eq_none] at ho
  obtain ⟨⟨⟨⟨⟨⟨⟨⟨h1, h2⟩, h3⟩, h4⟩, h5⟩, h6⟩, h7⟩, h8⟩, h9⟩ := ho
  refine ⟨?_, W.nolim, codeRec_of W.k h1, hb, h2, noDup_of h3, h4, h5, h6, h7, h8, h9⟩
  unfold kFd at h
  split at h
  · rename_i ho
    cases h
    exact ⟨_, W.k _ _ ho, rfl⟩
  · cases h
section
variable {F : Fx} {n : Nat} {loc : Loc} {H : Hp} {K : Frag}
theorem WE_glob (ok : Ok F n) (W : Wd K F.c.base) {x : Str} {pos : Pos} {i : Nat} {v : Value} {X : V} {Q : V → Loc → Hp → Prop} (hx : look F.nm x = some (i, .globalImplicit)) (e : nsIn K mainGlobals x = some (some v))
    (r : RelV (fun a => F.c.base.get? a) v X) (q : Q X loc H) : WE F (.Name x pos) loc H Q := by
  obtain ⟨mg, hg⟩ := W.g
  exact WE_global ok W.k hg hx e r q
theorem WE_bi (ok : Ok F n) (W : Wd K F.c.base) {x : Str} {pos : Pos} {i : Nat} {v : Value} {Q : V → Loc → Hp → Prop}
    (hx : look F.nm x = some (i, .globalImplicit)) (e : nsIn K mainGlobals x = some none) (hv : bootBuiltins x = some v) (hn : x ≠ "__name__") (q : Q (.raw v) loc H) : WE F (.Name x pos) loc H Q := by
  obtain ⟨mg, hg⟩ := W.g
  obtain ⟨mb, hb, hbb⟩ := W.b
  exact WE_builtin ok W.k hg hb hbb hx e hv hn q
end
end Lay
namespace Lay
section
variable {F : Fx} {n : Nat} {loc : Loc} {H : Hp} {K : Frag}
noncomputable def setOk (K : Frag) (C : Addr) (name : Str) : Bool := findIn K (.ref C) "__setattr__" == some (some (.builtin "object.__setattr__")) && plainOver K C && takerIn K C name == some none && hasDictIn K C
noncomputable def getOk (K : Frag) (C : Addr) (name : Str) : Bool := plainGet K C name && hasDictIn K C && findIn K (.ref C) name == some none
noncomputable def metOk (K : Frag) (C : Addr) (name : Str) (f : Addr) : Bool := plainGet K C name && findIn K (.ref C) name == some (some (.ref f)) && isFn K (.ref f)
noncomputable def clsOk (K : Frag) (C fI : Addr) : Bool := makesIn K C && findIn K (.ref C) "__init__" == some (some (.ref fI)) && typeIn K (.ref fI) == some (.type "function")
theorem SetA_k (W : Wd K F.c.base) {x C d : Addr} {fs : List (Str × V)} {name : Str} {Z : V} {Q : Loc → Hp → Prop} (eI : H.I x = some (C, d)) (eD : H.D d = some fs) (eG : H.G d = none) (hz : fs.length ≤ 900)
    (q : Q loc { H with D := up H.D d (dput fs name Z) }) (ho : setOk K C name = true := by rfl) (hn : PyData.strOk name = true := by exact ofString_ok _) : SetA F name (.ref x) Z loc H Q := by
  unfold setOk at ho
  simp only [Bool.and_eq_true, beq_iff_eq] at ho
  obtain ⟨⟨⟨h1, h2⟩, h3⟩, h4⟩ := ho
  exact SetA_own W.k eI eD eG h1 h2 h3 h4 hn hz q
theorem GetA_k (W : Wd K F.c.base) {x C d : Addr} {fs : List (Str × V)} {name : Str} {Y : V} {Q : V → Loc → Hp → Prop} (eI : H.I x = some (C, d)) (eD : H.D d = some fs) (hy : dget fs name = some Y) (hr : notRaw Y = true)
    (q : Q Y loc H) (ho : getOk K C name = true := by rfl) : GetA F name (.ref x) loc H Q := by
  unfold getOk at ho
  simp only [Bool.and_eq_true, beq_iff_eq] at ho
  obtain ⟨⟨h1, h2⟩, h3⟩ := ho
  exact GetA_own W.k eI eD hy hr h1 h2 h3 q
theorem GetI_k (W : Wd K F.c.base) {C : Addr} {fs : List (Str × V)} {name : Str} {Y : V} {Q : V → Loc → Hp → Prop} (hy : dget fs name = some Y) (hr : notRaw Y = true)
    (q : Q Y loc H) (ho : getOk K C name = true := by rfl) : GetA F name (.inst C fs) loc H Q := by
  unfold getOk at ho
  simp only [Bool.and_eq_true, beq_iff_eq] at ho
  obtain ⟨⟨h1, h2⟩, h3⟩ := ho
  exact GetA_inst W.k hy hr h1 h2 h3 q
theorem MGet_k (W : Wd K F.c.base) {x C d f : Addr} {fs : List (Str × V)} {name : Str} {Q : V → List V → Loc → Hp → Prop} (eI : H.I x = some (C, d)) (eD : H.D d = some fs) (hy : dget fs name = none)
    (q : Q (.ref f) [.ref x] loc H) (ho : metOk K C name f = true := by rfl) : MGet F name (.ref x) loc H Q := by
  unfold metOk at ho
  simp only [Bool.and_eq_true, beq_iff_eq] at ho
  obtain ⟨⟨h1, h2⟩, h3⟩ := ho
  exact MGet_own W.k eI eD hy h1 h2 h3 q
theorem Call_clsK (ok : Ok F (n + 1)) (W : Wd K F.c.base) {C : Addr} (fI : Addr) {Xs : List V} {Q : V → Loc → Hp → Prop}
    (h : ∀ A' x d, Ok { F with A := A' } n → H.Fresh x → H.Fresh d → d < x → CCall { F with A := A' } fI (.ref x :: Xs) [] [] loc { H with I := up H.I x (C, d), D := up H.D d [] } fun X l H' => X = .none ∧ Q (.ref x) l H') (ho : clsOk K C fI = true := by rfl) : Call F (.ref C) Xs loc H Q := by
  unfold clsOk at ho
  simp only [Bool.and_eq_true, beq_iff_eq] at ho
  obtain ⟨⟨h1, h2⟩, h3⟩ := ho
  exact Call_cls ok W.k h1 h2 h3 h
theorem zip_keys {α : Type} : ∀ (pn : List Str) (vs : List α), ((pn.zip vs).map (·.1)).Sublist pn
  | [], vs => by simp
  | p :: r, [] => by simp
  | p :: r, v :: vs => by simpa using zip_keys r vs
noncomputable def parOk (fd : FuncData) (pn : List Str) : Bool := noDup pn && pn.all fun x => fd.scope.names.lookup x == some .local || fd.scope.names.lookup x == some .cell
theorem par_nd {fd : FuncData} {pn : List Str} (h : parOk fd pn = true) (Vs : List V) : ((pn.zip Vs).map (·.1)).Nodup ∧ ∀ x ∈ (pn.zip Vs).map (·.1), fd.scope.names.lookup x = some .local ∨ fd.scope.names.lookup x = some .cell := by
  unfold parOk at h
  simp only [Bool.and_eq_true, List.all_eq_true, Bool.or_eq_true, beq_iff_eq] at h
  exact ⟨(zip_keys pn Vs).nodup (noDup_of h.1), fun x hx => h.2 x ((zip_keys pn Vs).subset hx)⟩
noncomputable def BindTo (M : Model) (b : Heap) (fd : FuncData) (kws pn : List Str) (Xs Ws Vs : List V) : Prop :=
  ∀ (vs ws : List Value) (B : Keep), RelVs B vs Xs → RelVs B ws Ws → Le (fun a => b.get? a) B → ∃ us, Looks M b (bindArgs fd ⟨vs, kws.zip ws⟩) (pn.zip us) ∧ RelVs B us Vs
theorem CCall_k (ok : Ok F (n + 1)) (W : Wd K F.c.base) {f : Addr} {fd : FuncData} {body : List Stmt} (pn : List Str) {kws : List Str} {Xs Ws Vs : List V} {Q : V → Loc → Hp → Prop}
    (hfd : kFd K f = some fd) (hb : fd.body = .stmts body) (ho : okFd K fd = true) (hp : parOk fd pn = true) (hbind : BindTo F.M F.c.base fd kws pn Xs Ws Vs)
    (h : ∀ sv A L E, Ok ⟨F.c.sv sv, A, callEnvC fd L f, E⟩ n → Top ⟨F.c.sv sv, A, callEnvC fd L f, E⟩ → (∀ x c, (x, c) ∈ cellsFrom (L + 1) fd.scope.names [] → H.Fresh c) →
      WSs ⟨F.c.sv sv, A, callEnvC fd L f, E⟩ body (initLoc fd.scope.names (pn.zip Vs)) (addCells H (pn.zip Vs) (cellsFrom (L + 1) fd.scope.names [])) fun fl _ H' => Q (retV fl) loc H') : CCall F f Xs kws Ws loc H Q :=
  CCall_def ok (Fn.of W hfd hb ho) (fun vs ws B r1 r2 le => let ⟨us, h1, h2⟩ := hbind vs ws B r1 r2 le; ⟨_, h1, relKs_zip h2⟩) (par_nd hp Vs).1 (par_nd hp Vs).2 h
theorem Call_of {f : Addr} {Xs : List V} {Q : V → Loc → Hp → Prop} (h : CCall F f Xs [] [] loc H Q) : Call F (.ref f) Xs loc H Q := fun B s v vs R rv rvs => by
  cases rv
  exact wpAny_call (h B s vs [] (F.plainR (Post F RelV B Q)) R rvs .nil fun v s' p => p)
theorem KeepOk_k (W : Wd K F.c.base) {a : Addr} (e : keepIn K (.ref a) = true) : KeepOk F (.ref a) loc H := KeepOk_base W.k e
end
end Lay
namespace Lay
section
variable {F : Fx} {n : Nat} {loc : Loc} {H : Hp} {K : Frag}
noncomputable def noCells (fd : FuncData) : Bool := fd.scope.names.all fun p => p.2 != .cell
theorem cellsFrom_none : ∀ (names : List (Str × NameKind)) (k : Nat) (acc : List (Str × Addr)), (names.all fun p => p.2 != .cell) = true → cellsFrom k names acc = acc
  | [], _, _, _ => rfl
  | (y, kd) :: r, k, acc, h => by
    rw [List.all_cons, Bool.and_eq_true] at h
    unfold cellsFrom
    have : ¬ (kd == NameKind.cell) = true := by simpa [bne] using h.1
    first
      | (rw [if_neg this]; exact cellsFrom_none r k acc h.2)
      | (have h' : kd ≠ NameKind.cell := by simpa using h.1
         rw [if_neg h']; exact cellsFrom_none r k acc h.2)
theorem CCall_p (ok : Ok F (n + 1)) (W : Wd K F.c.base) {f : Addr} {fd : FuncData} {body : List Stmt} (pn : List Str) {kws : List Str} {Xs Ws Vs : List V} {l0 : Loc} {Q : V → Loc → Hp → Prop}
    (hfd : kFd K f = some fd) (hb : fd.body = .stmts body) (ho : okFd K fd = true) (hp : parOk fd pn = true) (hc : noCells fd = true) (hbind : BindTo F.M F.c.base fd kws pn Xs Ws Vs) (hl : initLoc fd.scope.names (pn.zip Vs) = l0)
    (h : ∀ sv A L E, Ok ⟨F.c.sv sv, A, callEnvC fd L f, E⟩ n → Top ⟨F.c.sv sv, A, callEnvC fd L f, E⟩ → WSs ⟨F.c.sv sv, A, callEnvC fd L f, E⟩ body l0 H fun fl _ H' => Q (retV fl) loc H') : CCall F f Xs kws Ws loc H Q :=
  CCall_k ok W pn hfd hb ho hp hbind fun sv A L E ok' tp _ => by
    rw [hl, cellsFrom_none _ _ _ hc]
    exact h sv A L E ok' tp
end
end Lay
end
noncomputable section
open PySem PySem.W PyProof.Rows PySem.Calls
set_option Elab.async false
set_option maxRecDepth 100000
set_option linter.all false
namespace Lay
noncomputable def FrameIs (F : Fx) (nm : List (Str × NameKind)) (cl : List (Str × Addr)) : Prop := F.env.scope.names = nm ∧ F.env.cells = cl
section
variable {F : Fx} {n : Nat} {loc : Loc} {H : Hp} {K : Frag} {nm : List (Str × NameKind)} {cl : List (Str × Addr)}

theorem gLoc (ok : Ok F n) (hF : FrameIs F nm cl) {x : Str} {pos : Pos} {i : Nat} {X : V} {Q : V → Loc → Hp → Prop} (hx : look nm x = some (i, .local)) (hv : loc[i]? = some (some X)) (q : Q X loc H) : WE F (.Name x pos) loc H Q :=
  WE_local ok (by rw [← hF.1] at hx; exact hx) hv q
theorem gCell (ok : Ok F n) (hF : FrameIs F nm cl) {x : Str} {pos : Pos} {i : Nat} {a : Addr} {X : V} {Q : V → Loc → Hp → Prop} (hx : look nm x = some (i, .cell)) (hc : cl.lookup x = some a) (e : H.C a = some (some X)) (q : Q X loc H) : WE F (.Name x pos) loc H Q :=
  WE_cell ok (by rw [← hF.1] at hx; exact hx) (by rw [hF.2]; exact hc) e q
theorem gGlob (ok : Ok F n) (W : Wd K F.c.base) (hF : FrameIs F nm cl) {x : Str} {pos : Pos} {i : Nat} {v : Value} {X : V} {Q : V → Loc → Hp → Prop} (hx : look nm x = some (i, .globalImplicit)) (e : nsIn K mainGlobals x = some (some v))
    (r : RelV (fun a => F.c.base.get? a) v X) (q : Q X loc H) : WE F (.Name x pos) loc H Q :=
  WE_glob ok W (by rw [← hF.1] at hx; exact hx) e r q
theorem gBi (ok : Ok F n) (W : Wd K F.c.base) (hF : FrameIs F nm cl) {x : Str} {pos : Pos} {i : Nat} {v : Value} {Q : V → Loc → Hp → Prop}
    (hx : look nm x = some (i, .globalImplicit)) (e : nsIn K mainGlobals x = some none) (hv : bootBuiltins x = some v) (hn : x ≠ "__name__") (q : Q (.raw v) loc H) : WE F (.Name x pos) loc H Q :=
  WE_bi ok W (by rw [← hF.1] at hx; exact hx) e hv hn q
theorem tLoc (ok : Ok F n) (hF : FrameIs F nm cl) {x : Str} {p : Pos} {i : Nat} {X : V} {Q : Loc → Hp → Prop} (hx : look nm x = some (i, .local)) (q : Q (loc.set i (some X)) H) : WA F (.Name x p) X loc H Q :=
  WA_local ok (by rw [← hF.1] at hx; exact hx) q
theorem sAsg (ok : Ok F n) (hF : FrameIs F nm cl) {x : Str} {i : Nat} {e : Expr} {p pos : Pos} {Q : Fl → Loc → Hp → Prop} (hx : look nm x = some (i, .local)) (h : WE F e loc H fun X l1 H1 => Q .next (l1.set i (some X)) H1)
    (hs : swapsWith e (some (.Name x p)) pos.line F.env = pure false := by rfl) : WS F (.Assign [.Name x p] e pos) loc H Q :=
  WS_Assign ok (by rw [← hF.1] at hx; exact hx) h hs
theorem sAsgC (ok : Ok F n) (hF : FrameIs F nm cl) {x : Str} {i : Nat} {a : Addr} {e : Expr} {p pos : Pos} {Q : Fl → Loc → Hp → Prop} (hx : look nm x = some (i, .cell)) (hc : cl.lookup x = some a) (h : WE F e loc H fun X l1 H1 => (∃ ov, H1.C a = some ov) ∧ Q .next l1 { H1 with C := up H1.C a (some X) })
    (hs : swapsWith e (some (.Name x p)) pos.line F.env = pure false := by rfl) : WS F (.Assign [.Name x p] e pos) loc H Q :=
  WS_AssignC ok (by rw [← hF.1] at hx; exact hx) (by rw [hF.2]; exact hc) h hs
theorem sAug (ok : Ok F n) (hF : FrameIs F nm cl) {x : Str} {p pos : Pos} {i : Nat} {op : Operator} {e : Expr} {X : V} {Q : Fl → Loc → Hp → Prop} (hx : look nm x = some (i, .local)) (hv : loc[i]? = some (some X))
    (h : WE F e loc H fun Y l1 H1 => Op2 F (inplaceOp op) X Y l1 H1 fun Z l2 H2 => Q .next (l2.set i (some Z)) H2) : WS F (.AugAssign (.Name x p) op e pos) loc H Q :=
  WS_Aug ok (by rw [← hF.1] at hx; exact hx) hv h
theorem sExpr (ok : Ok F n) {e : Expr} {pos : Pos} {Q : Fl → Loc → Hp → Prop} (h : WE F e loc H fun X l1 H1 => Q .next l1 H1) (hs : swapsWith e none pos.line F.env = pure false := by rfl) : WS F (.Expr e pos) loc H Q :=
  WS_Expr h (by unfold interactive; rw [ok.fn]; rfl) hs
theorem setA (ok : Ok F n) (W : Wd K F.c.base) {x C d : Addr} {fs : List (Str × V)} {name : Str} {Z : V} {Q : Loc → Hp → Prop} (eI : H.I x = some (C, d)) (eD : H.D d = some fs) (eG : H.G d = none) (hz : fs.length ≤ 900)
    (q : Q loc { H with D := up H.D d (dput fs name Z) }) (ho : setOk K C name = true := by rfl) (hn : PyData.strOk name = true := by exact ofString_ok _) : SetA F name (.ref x) Z loc H Q := SetA_k W eI eD eG hz q ho hn
theorem getA (ok : Ok F n) (W : Wd K F.c.base) {x C d : Addr} {fs : List (Str × V)} {name : Str} {Y : V} {Q : V → Loc → Hp → Prop} (eI : H.I x = some (C, d)) (eD : H.D d = some fs) (hy : dget fs name = some Y) (hr : notRaw Y = true)
    (q : Q Y loc H) (ho : getOk K C name = true := by rfl) : GetA F name (.ref x) loc H Q := GetA_k W eI eD hy hr q ho
theorem getI (ok : Ok F n) (W : Wd K F.c.base) {C : Addr} {fs : List (Str × V)} {name : Str} {Y : V} {Q : V → Loc → Hp → Prop} (hy : dget fs name = some Y) (hr : notRaw Y = true)
    (q : Q Y loc H) (ho : getOk K C name = true := by rfl) : GetA F name (.inst C fs) loc H Q := GetI_k W hy hr q ho
theorem getM (ok : Ok F n) (W : Wd K F.c.base) {x C d f : Addr} {fs : List (Str × V)} {name : Str} {Q : V → List V → Loc → Hp → Prop} (eI : H.I x = some (C, d)) (eD : H.D d = some fs) (hy : dget fs name = none)
    (q : Q (.ref f) [.ref x] loc H) (ho : metOk K C name f = true := by rfl) : MGet F name (.ref x) loc H Q := MGet_k W eI eD hy q ho
theorem keepK (ok : Ok F n) (W : Wd K F.c.base) {a : Addr} (e : keepIn K (.ref a) = true := by rfl) : KeepOk F (.ref a) loc H := KeepOk_k W e
theorem keepB (ok : Ok F n) {v : Value} (h : ∀ a, v ≠ .ref a := by intro a h; cases h) : KeepOk F (.raw v) loc H := KeepOk_raw h

theorem defP (ok : Ok F (n + 1)) (W : Wd K F.c.base) {f : Addr} {fd : FuncData} {body : List Stmt} (pn : List Str) {kws : List Str} {Xs Ws Vs : List V} {l0 : Loc} {nm : List (Str × NameKind)} {Q : V → Loc → Hp → Prop}
    (hfd : kFd K f = some fd) (hb : fd.body = .stmts body) (hnm : fd.scope.names = nm) (ho : okFd K fd = true) (hp : parOk fd pn = true) (hc : noCells fd = true) (hbind : BindTo F.M F.c.base fd kws pn Xs Ws Vs) (hl : initLoc nm (pn.zip Vs) = l0)
    (h : ∀ F' : Fx, Ok F' n → Top F' → Wd K F'.c.base → FrameIs F' nm [] → WSs F' body l0 H fun fl _ H' => Q (retV fl) loc H') : CCall F f Xs kws Ws loc H Q :=
  CCall_p ok W pn hfd hb ho hp hc hbind (by rw [hnm]; exact hl) fun sv A L E ok' tp => h _ ok' tp W ⟨hnm, cellsFrom_none _ _ _ hc⟩
theorem defC (ok : Ok F (n + 1)) (W : Wd K F.c.base) {f : Addr} {fd : FuncData} {body : List Stmt} (pn : List Str) {kws : List Str} {Xs Ws Vs : List V} {l0 : Loc} {nm : List (Str × NameKind)} {Q : V → Loc → Hp → Prop}
    (hfd : kFd K f = some fd) (hb : fd.body = .stmts body) (hnm : fd.scope.names = nm) (ho : okFd K fd = true) (hp : parOk fd pn = true) (hbind : BindTo F.M F.c.base fd kws pn Xs Ws Vs) (hl : initLoc nm (pn.zip Vs) = l0)
    (h : ∀ (F' : Fx) (L : Addr), Ok F' n → Top F' → Wd K F'.c.base → FrameIs F' nm (cellsFrom (L + 1) nm []) → (∀ x c, (x, c) ∈ cellsFrom (L + 1) nm [] → H.Fresh c) →
      WSs F' body l0 (addCells H (pn.zip Vs) (cellsFrom (L + 1) nm [])) fun fl _ H' => Q (retV fl) loc H') : CCall F f Xs kws Ws loc H Q := by
  subst hnm
  subst hl
  exact CCall_k ok W pn hfd hb ho hp hbind fun sv A L E ok' tp hf => h _ L ok' tp W ⟨rfl, rfl⟩ hf
theorem compF (ok : Ok F n) (hF : FrameIs F nm cl) {scope : Scope} {cl' : List (Str × Addr)} {C : Addr} {sv : List (Addr × Obj)} {E : Value → Shared → Prop} :
    FrameIs (CFx F scope cl' C sv E) (scope.names.map fun p => if (p.2 == .free && nm.lookup p.1 == some .cell) then (p.1, .cell) else p) cl' := by
  refine ⟨?_, rfl⟩
  show (relabel scope F.env).names = _
  unfold relabel
  refine List.map_congr_left fun p _ => ?_
  obtain ⟨x, k⟩ := p
  have h1 : F.env.kindOf x = nm.lookup x := by unfold Env.kindOf; rw [hF.1]
  have h2 : (F.env.scope.kind == ScopeKind.function) = true := by rw [ok.fn]; rfl
  simp only [h1, h2, Bool.and_true]
theorem compDbg (ok : Ok F n) {scope : Scope} (h : scope.names.lookup ("__debug__" : Str) = none) : (relabel scope F.env).names.lookup ("__debug__" : Str) = none := by
  unfold relabel
  have : ∀ names : List (Str × NameKind), names.lookup ("__debug__" : Str) = none → (names.map fun (n, k) => if (k == NameKind.free && F.env.scope.kind == .function && F.env.kindOf n == some .cell) then (n, NameKind.cell) else (n, k)).lookup ("__debug__" : Str) = none := by
    intro names
    induction names with
    | nil => intro _; rfl
    | cons p r ih =>
      obtain ⟨x, k⟩ := p
      intro h
      rw [List.lookup_cons] at h
      rw [List.map_cons]
      have e : ∀ k', List.lookup ("__debug__" : Str) ((x, k') :: (r.map fun (n, k) => if (k == NameKind.free && F.env.scope.kind == .function && F.env.kindOf n == some .cell) then (n, NameKind.cell) else (n, k))) = none := by
        intro k'
        rw [List.lookup_cons]
        cases z : (("__debug__" : Str) == x) with
        | true => rw [z] at h; cases h
        | false => rw [z] at h; exact ih h
      dsimp only
      split
      · exact e _
      · exact e _
  exact this scope.names h
end
end Lay
end
noncomputable section
open PySem PySem.W PyProof.Rows PySem.Calls
set_option Elab.async false
set_option maxRecDepth 100000
set_option linter.all false
namespace Lay
section
variable {L : Addr → Option (List V)} {D : Addr → Option (List (Str × V))} {P : Addr → Option (List (Str × List Str))} {S : Addr → Option ((Str → Bool) × Nat)} {I : Addr → Option (Addr × Addr)} {C : Addr → Option (Option V)} {G : Addr → Option Nat} {a b : Addr}
theorem frL {x} (h : Hp.Fresh ⟨up L b x, D, P, S, I, C, G⟩ a) : a ≠ b ∧ Hp.Fresh ⟨L, D, P, S, I, C, G⟩ a := by
  have hne : a ≠ b := by rintro rfl; exact h (.inl (by simp))
  exact ⟨hne, fun o => h (by unfold Hp.Own at o ⊢; simpa only [up_ne hne] using o)⟩
theorem frD {x} (h : Hp.Fresh ⟨L, up D b x, P, S, I, C, G⟩ a) : a ≠ b ∧ Hp.Fresh ⟨L, D, P, S, I, C, G⟩ a := by
  have hne : a ≠ b := by rintro rfl; exact h (.inr (.inl (by simp)))
  exact ⟨hne, fun o => h (by unfold Hp.Own at o ⊢; simpa only [up_ne hne] using o)⟩
theorem frI {x} (h : Hp.Fresh ⟨L, D, P, S, up I b x, C, G⟩ a) : a ≠ b ∧ Hp.Fresh ⟨L, D, P, S, I, C, G⟩ a := by
  have hne : a ≠ b := by rintro rfl; exact h (.inr (.inr (.inr (.inr (.inl (by simp))))))
  exact ⟨hne, fun o => h (by unfold Hp.Own at o ⊢; simpa only [up_ne hne] using o)⟩
end
section
variable {H : Hp} {a b : Addr}
theorem Hp.Fresh.l (h : H.Fresh a) : H.L a = none := (not_own h).1
theorem Hp.Fresh.d (h : H.Fresh a) : H.D a = none := (not_own h).2.1
theorem Hp.Fresh.p (h : H.Fresh a) : H.P a = none := (not_own h).2.2.1
theorem Hp.Fresh.s (h : H.Fresh a) : H.S a = none := (not_own h).2.2.2.1
theorem Hp.Fresh.i (h : H.Fresh a) : H.I a = none := (not_own h).2.2.2.2.1
theorem Hp.Fresh.c (h : H.Fresh a) : H.C a = none := (not_own h).2.2.2.2.2
theorem Hp.Fresh.neL (h : H.Fresh a) {x} (e : H.L b = some x) : b ≠ a := by rintro rfl; rw [h.l] at e; cases e
theorem Hp.Fresh.neD (h : H.Fresh a) {x} (e : H.D b = some x) : b ≠ a := by rintro rfl; rw [h.d] at e; cases e
theorem Hp.Fresh.neP (h : H.Fresh a) {x} (e : H.P b = some x) : b ≠ a := by rintro rfl; rw [h.p] at e; cases e
theorem Hp.Fresh.neS (h : H.Fresh a) {x} (e : H.S b = some x) : b ≠ a := by rintro rfl; rw [h.s] at e; cases e
theorem Hp.Fresh.neI (h : H.Fresh a) {x} (e : H.I b = some x) : b ≠ a := by rintro rfl; rw [h.i] at e; cases e
theorem Hp.Fresh.neC (h : H.Fresh a) {x} (e : H.C b = some x) : b ≠ a := by rintro rfl; rw [h.c] at e; cases e
end
theorem upe {α : Type} {f : Addr → Option α} {a b : Addr} {x : α} {y : Option α} (h : b ≠ a) (e : f b = y) : up f a x b = y := by rw [up_ne h]; exact e
theorem up_up {α : Type} {f : Addr → Option α} {a : Addr} {x y : α} : up (up f a x) a y = up f a y := funext fun b => by
  by_cases e : b = a <;> simp [up, e]
theorem up_comm {α : Type} {f : Addr → Option α} {a b : Addr} {x y : α} (h : a ≠ b) : up (up f a x) b y = up (up f b y) a x := funext fun c => by
  by_cases e : c = a
  · subst e; simp [up, h]
  · by_cases e' : c = b
    · subst e'; simp [up, e]
    · simp [up, e, e']
theorem up_id {α : Type} {f : Addr → Option α} {a : Addr} {x : α} (h : f a = some x) : up f a x = f := funext fun c => by
  by_cases e : c = a
  · subst e; simp [h]
  · simp [up, e]
noncomputable def Ext (ft : Addr → Prop) (H H' : Hp) : Prop := ∀ a, H.Own a → H'.Own a ∧ (¬ ft a → H'.SameAt H a)
theorem Ext.refl {ft : Addr → Prop} (H : Hp) : Ext ft H H := fun a o => ⟨o, fun _ => ⟨rfl, rfl, rfl, rfl, rfl, rfl, rfl⟩⟩
theorem Hp.SameAt.trans {H1 H2 H3 : Hp} {a : Addr} (h : H1.SameAt H2 a) (k : H2.SameAt H3 a) : H1.SameAt H3 a :=
  ⟨h.1.trans k.1, h.2.1.trans k.2.1, h.2.2.1.trans k.2.2.1, h.2.2.2.1.trans k.2.2.2.1, h.2.2.2.2.1.trans k.2.2.2.2.1, h.2.2.2.2.2.1.trans k.2.2.2.2.2.1, h.2.2.2.2.2.2.trans k.2.2.2.2.2.2⟩
theorem Ext.trans {ft : Addr → Prop} {H1 H2 H3 : Hp} (h : Ext ft H1 H2) (k : Ext ft H2 H3) : Ext ft H1 H3 := fun a o => by
  obtain ⟨o2, s2⟩ := h a o
  obtain ⟨o3, s3⟩ := k a o2
  exact ⟨o3, fun hf => (s3 hf).trans (s2 hf)⟩
theorem Ext.fresh {ft : Addr → Prop} {H H' : Hp} (h : Ext ft H H') {a : Addr} (hf : H'.Fresh a) : H.Fresh a := fun o => hf (h a o).1
section
variable {L : Addr → Option (List V)} {D : Addr → Option (List (Str × V))} {P : Addr → Option (List (Str × List Str))} {S : Addr → Option ((Str → Bool) × Nat)} {I : Addr → Option (Addr × Addr)} {C : Addr → Option (Option V)} {G : Addr → Option Nat} {a b : Addr} {ft : Addr → Prop}
theorem extL {x} (h : ft b ∨ Hp.Fresh ⟨L, D, P, S, I, C, G⟩ b) : Ext ft ⟨L, D, P, S, I, C, G⟩ ⟨up L b x, D, P, S, I, C, G⟩ := fun a o => by
  by_cases e : a = b
  · subst e
    refine ⟨.inl (by simp), fun hf => ?_⟩
    rcases h with h | h
    · exact absurd h hf
    · exact absurd o h
  · refine ⟨?_, fun _ => ⟨up_ne e, rfl, rfl, rfl, rfl, rfl, rfl⟩⟩
    unfold Hp.Own at o ⊢; simpa only [up_ne e] using o
theorem extD {x} (h : ft b ∨ Hp.Fresh ⟨L, D, P, S, I, C, G⟩ b) : Ext ft ⟨L, D, P, S, I, C, G⟩ ⟨L, up D b x, P, S, I, C, G⟩ := fun a o => by
  by_cases e : a = b
  · subst e
    refine ⟨.inr (.inl (by simp)), fun hf => ?_⟩
    rcases h with h | h
    · exact absurd h hf
    · exact absurd o h
  · refine ⟨?_, fun _ => ⟨rfl, up_ne e, rfl, rfl, rfl, rfl, rfl⟩⟩
    unfold Hp.Own at o ⊢; simpa only [up_ne e] using o
theorem extP {x} (h : ft b ∨ Hp.Fresh ⟨L, D, P, S, I, C, G⟩ b) : Ext ft ⟨L, D, P, S, I, C, G⟩ ⟨L, D, up P b x, S, I, C, G⟩ := fun a o => by
  by_cases e : a = b
  · subst e
    refine ⟨.inr (.inr (.inl (by simp))), fun hf => ?_⟩
    rcases h with h | h
    · exact absurd h hf
    · exact absurd o h
  · refine ⟨?_, fun _ => ⟨rfl, rfl, up_ne e, rfl, rfl, rfl, rfl⟩⟩
    unfold Hp.Own at o ⊢; simpa only [up_ne e] using o
theorem extS {x} (h : ft b ∨ Hp.Fresh ⟨L, D, P, S, I, C, G⟩ b) : Ext ft ⟨L, D, P, S, I, C, G⟩ ⟨L, D, P, up S b x, I, C, G⟩ := fun a o => by
  by_cases e : a = b
  · subst e
    refine ⟨.inr (.inr (.inr (.inl (by simp)))), fun hf => ?_⟩
    rcases h with h | h
    · exact absurd h hf
    · exact absurd o h
  · refine ⟨?_, fun _ => ⟨rfl, rfl, rfl, up_ne e, rfl, rfl, rfl⟩⟩
    unfold Hp.Own at o ⊢; simpa only [up_ne e] using o
theorem extI {x} (h : ft b ∨ Hp.Fresh ⟨L, D, P, S, I, C, G⟩ b) : Ext ft ⟨L, D, P, S, I, C, G⟩ ⟨L, D, P, S, up I b x, C, G⟩ := fun a o => by
  by_cases e : a = b
  · subst e
    refine ⟨.inr (.inr (.inr (.inr (.inl (by simp))))), fun hf => ?_⟩
    rcases h with h | h
    · exact absurd h hf
    · exact absurd o h
  · refine ⟨?_, fun _ => ⟨rfl, rfl, rfl, rfl, up_ne e, rfl, rfl⟩⟩
    unfold Hp.Own at o ⊢; simpa only [up_ne e] using o
end
structure Put (fs : List (Str × V)) (name : Str) (Z : V) (fs' : List (Str × V)) : Prop where
  len : fs'.length ≤ fs.length + 1
  here : dget fs' name = some Z
  there : ∀ k, k ≠ name → dget fs' k = dget fs k
theorem Put.of (fs : List (Str × V)) (name : Str) (Z : V) : Put fs name Z (dput fs name Z) := ⟨dput_length _ _ _, by rw [dget_dput, if_pos rfl], fun k h => by rw [dget_dput, if_neg h]⟩
theorem Put.old {fs fs' : List (Str × V)} {name : Str} {Z : V} (h : Put fs name Z fs') {k : Str} {Y : Option V} (e : dget fs k = Y) (hk : k ≠ name := by decide) : dget fs' k = Y := (h.there k hk).trans e
section
variable {F : Fx} {n : Nat} {loc : Loc} {H : Hp} {K : Frag}
theorem setF (ok : Ok F n) (W : Wd K F.c.base) {x C d : Addr} {fs : List (Str × V)} {name : Str} {Z : V} {Q : Loc → Hp → Prop} (eI : H.I x = some (C, d)) (eD : H.D d = some fs) (eG : H.G d = none) (hz : fs.length ≤ 900)
    (q : ∀ fs', Put fs name Z fs' → Q loc { H with D := up H.D d fs' }) (ho : setOk K C name = true := by rfl) (hn : PyData.strOk name = true := by exact ofString_ok _) : SetA F name (.ref x) Z loc H Q :=
  setA ok W eI eD eG hz (q _ (Put.of _ _ _)) ho hn
variable {L : Addr → Option (List V)} {D : Addr → Option (List (Str × V))} {P : Addr → Option (List (Str × List Str))} {S : Addr → Option ((Str → Bool) × Nat)} {I : Addr → Option (Addr × Addr)} {Cc : Addr → Option (Option V)} {G : Addr → Option Nat}
theorem setF2 (ok : Ok F n) (W : Wd K F.c.base) {x C d : Addr} {fs : List (Str × V)} {name : Str} {Z : V} {Q : Loc → Hp → Prop} (eI : I x = some (C, d)) (eG : G d = none) (hz : fs.length ≤ 900)
    (q : ∀ fs', Put fs name Z fs' → Q loc ⟨L, up D d fs', P, S, I, Cc, G⟩) (ho : setOk K C name = true := by rfl) (hn : PyData.strOk name = true := by exact ofString_ok _) : SetA F name (.ref x) Z loc ⟨L, up D d fs, P, S, I, Cc, G⟩ Q :=
  setF ok W eI (up_self _ _ _) eG hz (fun fs' h => by
    have := q fs' h
    show Q loc ⟨L, up (up D d fs) d fs', P, S, I, Cc, G⟩
    rw [up_up]; exact this) ho hn
end

section
variable {L : Addr → Option (List V)} {D : Addr → Option (List (Str × V))} {P : Addr → Option (List (Str × List Str))} {S : Addr → Option ((Str → Bool) × Nat)} {I : Addr → Option (Addr × Addr)} {C : Addr → Option (Option V)} {G : Addr → Option Nat}
theorem Hp.Sub.trans {H1 H2 H3 : Hp} (h : H1.Sub H2) (k : H2.Sub H3) : H1.Sub H3 := fun a => by
  obtain ⟨h1, h2, h3, h4, h5, h6, h7⟩ := h a
  obtain ⟨k1, k2, k3, k4, k5, k6, k7⟩ := k a
  refine ⟨?_, ?_, ?_, ?_, ?_, ?_, ?_⟩
  · rcases h1 with h | h; exact .inl h; rw [h]; exact k1
  · rcases h2 with h | h; exact .inl h; rw [h]; exact k2
  · rcases h3 with h | h; exact .inl h; rw [h]; exact k3
  · rcases h4 with h | h; exact .inl h; rw [h]; exact k4
  · rcases h5 with h | h; exact .inl h; rw [h]; exact k5
  · rcases h6 with h | h; exact .inl h; rw [h]; exact k6
  · rcases h7 with h | ⟨h, h'⟩
    · exact .inl h
    · rcases k7 with k | ⟨k, k'⟩
      · rw [h]; exact .inl k
      · exact .inr ⟨h.trans k, h'.trans k'⟩
theorem subL {u : Addr} {x : List V} (h : L u = none) : Hp.Sub ⟨L, D, P, S, I, C, G⟩ ⟨up L u x, D, P, S, I, C, G⟩ := fun a => by
  refine ⟨?_, .inr rfl, .inr rfl, .inr rfl, .inr rfl, .inr rfl, .inr ⟨rfl, rfl⟩⟩
  by_cases e : a = u
  · subst e; exact .inl h
  · exact .inr (up_ne e).symm
theorem subD {u : Addr} {x : List (Str × V)} (h : D u = none) (hg : G u = none) : Hp.Sub ⟨L, D, P, S, I, C, G⟩ ⟨L, up D u x, P, S, I, C, G⟩ := fun a => by
  refine ⟨.inr rfl, ?_, .inr rfl, .inr rfl, .inr rfl, .inr rfl, ?_⟩
  · by_cases e : a = u
    · subst e; exact .inl h
    · exact .inr (up_ne e).symm
  · by_cases e : a = u
    · subst e; exact .inl hg
    · exact .inr ⟨rfl, (up_ne e).symm⟩
theorem subG {u : Addr} {x : Nat} (h : G u = none) : Hp.Sub ⟨L, D, P, S, I, C, G⟩ ⟨L, D, P, S, I, C, up G u x⟩ := fun a => by
  refine ⟨.inr rfl, .inr rfl, .inr rfl, .inr rfl, .inr rfl, .inr rfl, ?_⟩
  by_cases e : a = u
  · subst e; exact .inl h
  · exact .inr ⟨(up_ne e).symm, rfl⟩
end

theorem LocSub.same {a : Option V} {r r' : Loc} (h : LocSub r' r) : LocSub (a :: r') (a :: r) := fun i X e => by
  cases i with
  | zero => exact e
  | succ i => simp only [List.getElem?_cons_succ] at e ⊢; exact h i X e
theorem LocSub.drop {a : Option V} {r r' : Loc} (h : LocSub r' r) : LocSub (Option.none :: r') (a :: r) := fun i X e => by
  cases i with
  | zero => simp at e
  | succ i => simp only [List.getElem?_cons_succ] at e ⊢; exact h i X e

theorem up_drop {α : Type} {f : Addr → Option α} {d a : Addr} {x y z : α} : up (up (up f d x) a y) d z = up (up f a y) d z := funext fun c => by
  by_cases e : c = d
  · subst e; simp
  · by_cases e' : c = a
    · subst e'; simp [up, e]
    · simp [up, e, e']
section
variable {F : Fx} {n : Nat} {loc : Loc} {H : Hp} {K : Frag}
variable {L : Addr → Option (List V)} {D : Addr → Option (List (Str × V))} {P : Addr → Option (List (Str × List Str))} {S : Addr → Option ((Str → Bool) × Nat)} {I : Addr → Option (Addr × Addr)} {Cc : Addr → Option (Option V)} {G : Addr → Option Nat}
theorem setF3 (ok : Ok F n) (W : Wd K F.c.base) {x C d a : Addr} {fs y : List (Str × V)} {name : Str} {Z : V} {Q : Loc → Hp → Prop} (eI : I x = some (C, d)) (eG : G d = none) (hz : fs.length ≤ 900) (hne : d ≠ a)
    (q : ∀ fs', Put fs name Z fs' → Q loc ⟨L, up (up D a y) d fs', P, S, I, Cc, G⟩) (ho : setOk K C name = true := by rfl) (hn : PyData.strOk name = true := by exact ofString_ok _) : SetA F name (.ref x) Z loc ⟨L, up (up D d fs) a y, P, S, I, Cc, G⟩ Q :=
  setF ok W eI (upe hne (up_self _ _ _)) eG hz (fun fs' h => by
    have := q fs' h
    show Q loc ⟨L, up (up (up D d fs) a y) d fs', P, S, I, Cc, G⟩
    rw [up_drop]; exact this) ho hn
end
end Lay
end
noncomputable section
open PySem PySem.W PyProof.Rows PySem.Calls
set_option Elab.async false
set_option maxRecDepth 100000
set_option linter.all false
namespace Lay
noncomputable abbrev Tab := List (Str × Addr × List V)
noncomputable def adr (t : Tab) : List Addr := t.map (·.2.1)
noncomputable def kys (t : Tab) : List Str := t.map (·.1)
noncomputable def tof (t : Tab) : List (Str × V) := t.map fun e => (e.1, .ref e.2.1)
noncomputable def tcon (t : Tab) : List (Str × List V) := t.map fun e => (e.1, e.2.2)
noncomputable def tget (t : Tab) (k : Str) : Option (Addr × List V) := (t.find? fun e => e.1 = k).map (·.2)
noncomputable def tset (t : Tab) (a : Addr) (ys : List V) : Tab := t.map fun e => if e.2.1 = a then (e.1, a, ys) else e
structure Tb (H : Hp) (d : Addr) (t : Tab) : Prop where
  dict : H.D d = some (tof t)
  lst : ∀ e ∈ t, H.L e.2.1 = some e.2.2
theorem tget_mem {t : Tab} {k : Str} {a : Addr} {xs : List V} (h : tget t k = some (a, xs)) : (k, a, xs) ∈ t := by
  unfold tget at h
  cases e : t.find? fun e => decide (e.1 = k) with
  | none => rw [e] at h; cases h
  | some p =>
    rw [e] at h
    have hm := List.mem_of_find?_eq_some e
    have hp := List.find?_some e
    simp at hp h
    obtain ⟨x, y, z⟩ := p
    simp at hp h
    obtain ⟨rfl, rfl⟩ := h
    subst hp; exact hm
theorem dget_tof (t : Tab) (k : Str) : dget (tof t) k = (tget t k).map fun p => V.ref p.1 := by
  unfold dget tof tget
  rw [List.find?_map]
  cases e : t.find? ((fun kv : Str × V => decide (kv.1 = k)) ∘ fun e => (e.1, V.ref e.2.1)) with
  | none =>
    have : t.find? (fun e => decide (e.1 = k)) = none := e
    rw [this]; rfl
  | some p =>
    have : t.find? (fun e => decide (e.1 = k)) = some p := e
    rw [this]; rfl
theorem tget_none {t : Tab} {k : Str} : tget t k = none ↔ k ∉ kys t := by
  unfold tget kys
  simp only [Option.map_eq_none_iff, List.find?_eq_none, decide_eq_true_eq, List.mem_map, not_exists, not_and]
theorem tget_some {t : Tab} {k : Str} (h : k ∈ kys t) : ∃ a xs, tget t k = some (a, xs) := by
  cases e : tget t k with
  | none => exact absurd h (tget_none.mp e)
  | some p => exact ⟨p.1, p.2, rfl⟩
theorem Tb.at_ {H : Hp} {d : Addr} {t : Tab} (h : Tb H d t) {k : Str} {a : Addr} {xs : List V} (e : tget t k = some (a, xs)) : dget (tof t) k = some (.ref a) ∧ H.L a = some xs :=
  ⟨by rw [dget_tof, e]; rfl, h.lst _ (tget_mem e)⟩
theorem Tb.keep {H H' : Hp} {d : Addr} {t : Tab} (h : Tb H d t) (hd : H'.D d = H.D d) (hl : ∀ a ∈ adr t, H'.L a = H.L a) : Tb H' d t :=
  ⟨hd.trans h.dict, fun e he => (hl _ (List.mem_map.mpr ⟨e, he, rfl⟩)).trans (h.lst e he)⟩
theorem adr_tset (t : Tab) (a : Addr) (ys : List V) : adr (tset t a ys) = adr t := by
  unfold adr tset
  rw [List.map_map]
  refine List.map_congr_left fun e _ => ?_
  simp only [Function.comp]
  split
  · rename_i h; exact h.symm
  · rfl
theorem kys_tset (t : Tab) (a : Addr) (ys : List V) : kys (tset t a ys) = kys t := by
  unfold kys tset
  rw [List.map_map]
  refine List.map_congr_left fun e _ => ?_
  simp only [Function.comp]
  split <;> rfl
theorem tof_tset (t : Tab) (a : Addr) (ys : List V) : tof (tset t a ys) = tof t := by
  unfold tof tset
  rw [List.map_map]
  refine List.map_congr_left fun e _ => ?_
  simp only [Function.comp]
  split
  · rename_i h; rw [h]
  · rfl
theorem tset_other {t : Tab} {a : Addr} {ys : List V} (h : a ∉ adr t) : tset t a ys = t := by
  unfold tset
  conv => rhs; rw [← List.map_id t]
  refine List.map_congr_left fun e he => ?_
  rw [if_neg (fun z => h (List.mem_map.mpr ⟨e, he, z⟩))]; rfl
theorem Tb.set {H H' : Hp} {d : Addr} {t : Tab} {a : Addr} {ys : List V} (h : Tb H d t) (hd : H'.D d = H.D d) (ha : H'.L a = some ys) (hl : ∀ b, b ≠ a → H'.L b = H.L b) : Tb H' d (tset t a ys) := by
  refine ⟨by rw [hd, tof_tset]; exact h.dict, fun e he => ?_⟩
  obtain ⟨e', he', rfl⟩ := List.mem_map.mp he
  split
  · exact ha
  · rename_i hn
    rw [hl _ hn]; exact h.lst e' he'
theorem Tb.new {H H' : Hp} {d : Addr} {t : Tab} {k : Str} {a : Addr} {xs : List V} (h : Tb H d t) (hk : k ∉ kys t) (hd : H'.D d = some (dput (tof t) k (.ref a))) (ha : H'.L a = some xs) (hl : ∀ b ∈ adr t, H'.L b = H.L b) : Tb H' d (t ++ [(k, a, xs)]) := by
  have hn : dget (tof t) k = none := by rw [dget_tof, tget_none.mpr hk]; rfl
  refine ⟨by rw [hd, dput_new hn]; simp [tof], fun e he => ?_⟩
  rcases List.mem_append.mp he with he | he
  · rw [hl _ (List.mem_map.mpr ⟨e, he, rfl⟩)]; exact h.lst e he
  · simp at he; subst he; exact ha
theorem inj_nodup {α β : Type} {f : α → β} : ∀ {l : List α}, (l.map f).Nodup → ∀ {a b : α}, a ∈ l → b ∈ l → f a = f b → a = b
  | x :: l, h, a, b, ha, hb, e => by
    rw [List.map_cons, List.nodup_cons] at h
    cases ha with
    | head _ =>
      cases hb with
      | head _ => rfl
      | tail _ hb => exact absurd (List.mem_map.mpr ⟨b, hb, e.symm⟩) h.1
    | tail _ ha =>
      cases hb with
      | head _ => exact absurd (List.mem_map.mpr ⟨a, ha, e⟩) h.1
      | tail _ hb => exact inj_nodup h.2 ha hb e
theorem tcon_tset {t : Tab} {k : Str} {a : Addr} {xs ys : List V} (hk : (kys t).Nodup) (ha : (adr t).Nodup) (e : tget t k = some (a, xs)) : tcon (tset t a ys) = (tcon t).map fun p => if p.1 = k then (p.1, ys) else p := by
  have hm := tget_mem e
  unfold tcon tset
  rw [List.map_map, List.map_map]
  refine List.map_congr_left fun p hp => ?_
  simp only [Function.comp]
  have key : p.2.1 = a ↔ p.1 = k := by
    constructor
    · intro h
      have := inj_nodup ha hp hm h
      rw [this]
    · intro h
      have := inj_nodup hk hp hm h
      rw [this]
  by_cases h : p.2.1 = a
  · rw [if_pos h, if_pos (key.mp h)]
  · rw [if_neg h, if_neg (fun z => h (key.mpr z))]
end Lay
end
noncomputable section
open PySem PySem.W PyProof.Rows PySem.Calls
set_option Elab.async false
set_option maxRecDepth 100000
set_option linter.all false
namespace Lay
theorem asL_mono {H H' : Hp} {X : V} {xs : List V} (h : asL H X = some xs) (k : ∀ a xs, H.L a = some xs → H'.L a = some xs) : asL H' X = some xs := by
  cases X <;> first | exact h | exact k _ _ h
section
variable {F : Fx} {n : Nat} {loc : Loc} {H : Hp} {K : Frag}
variable {L : Addr → Option (List V)} {D : Addr → Option (List (Str × V))} {P : Addr → Option (List (Str × List Str))} {S : Addr → Option ((Str → Bool) × Nat)} {I : Addr → Option (Addr × Addr)} {Cc : Addr → Option (Option V)} {G : Addr → Option Nat}
end
set_option genInjectivity false in
structure GA where
  (g d nm nd al prods pn pm ts nts fst fol pr ups : Addr)
set_option genInjectivity false in
structure GT where
  (tT tN tR : Tab) (ps : List V) (pm : List (Str × List Str)) (fst fol pr : List (Str × V)) (ups : (Str → Bool) × Nat) (start : V)
noncomputable def gnames : List Str := ["names", "Productions", "Prodnames", "Prodmap", "Terminals", "Nonterminals", "First", "Follow", "Precedence", "UsedPrecedence", "Start"]
structure Fld (fs : List (Str × V)) (g : GA) (start : V) : Prop where
  len : fs.length ≤ 20
  names : dget fs "names" = some (.ref g.nm)
  prods : dget fs "Productions" = some (.ref g.prods)
  pn : dget fs "Prodnames" = some (.ref g.pn)
  pm : dget fs "Prodmap" = some (.ref g.pm)
  ts : dget fs "Terminals" = some (.ref g.ts)
  nts : dget fs "Nonterminals" = some (.ref g.nts)
  fst : dget fs "First" = some (.ref g.fst)
  fol : dget fs "Follow" = some (.ref g.fol)
  pr : dget fs "Precedence" = some (.ref g.pr)
  ups : dget fs "UsedPrecedence" = some (.ref g.ups)
  start : dget fs "Start" = some start
  no : ∀ k, k ∉ gnames → dget fs k = none
noncomputable def GA.dicts (g : GA) : List Addr := [g.d, g.nd, g.al, g.pn, g.ts, g.nts, g.fst, g.fol, g.pr]
noncomputable def GT.lists (g : GA) (t : GT) : List Addr := g.prods :: (adr t.tT ++ (adr t.tN ++ adr t.tR))
structure GrOk (cg cr : Addr) (H : Hp) (g : GA) (t : GT) : Prop where
  I : H.I g.g = some (cg, g.d)
  fs : ∃ fs, H.D g.d = some fs ∧ Fld fs g t.start
  nI : H.I g.nm = some (cr, g.nd)
  nD : ∃ fs, H.D g.nd = some fs ∧ dget fs "aliases" = some (.ref g.al)
  al : H.D g.al = some []
  ps : H.L g.prods = some t.ps
  pm : H.P g.pm = some t.pm
  tT : Tb H g.ts t.tT
  tN : Tb H g.nts t.tN
  tR : Tb H g.pn t.tR
  fst : H.D g.fst = some t.fst
  fol : H.D g.fol = some t.fol
  pr : H.D g.pr = some t.pr
  ups : H.S g.ups = some t.ups
  gn : ∀ a, H.G a = none
  nd : g.dicts.Nodup
  na : (GT.lists g t).Nodup
  kT : (kys t.tT).Nodup
  kN : (kys t.tN).Nodup
  kR : (kys t.tR).Nodup
noncomputable def foot (g : GA) (t : GT) (a : Addr) : Prop := a ∈ g.dicts ∨ a ∈ GT.lists g t ∨ a = g.pm ∨ a = g.ups
end Lay
end
noncomputable section
open PySem PySem.W PyProof.Rows PySem.Calls
set_option Elab.async false
set_option maxRecDepth 100000
set_option linter.all false
namespace Lay
section
variable {cg cr : Addr} {H : Hp} {g : GA} {t : GT}
theorem mem_lists_T {g : GA} {t : GT} {a : Addr} (h : a ∈ adr t.tT) : a ∈ GT.lists g t := List.mem_cons_of_mem _ (List.mem_append_left _ h)
theorem mem_lists_N {g : GA} {t : GT} {a : Addr} (h : a ∈ adr t.tN) : a ∈ GT.lists g t := List.mem_cons_of_mem _ (List.mem_append_right _ (List.mem_append_left _ h))
theorem mem_lists_R {g : GA} {t : GT} {a : Addr} (h : a ∈ adr t.tR) : a ∈ GT.lists g t := List.mem_cons_of_mem _ (List.mem_append_right _ (List.mem_append_right _ h))
theorem GrOk.ownD (h : GrOk cg cr H g t) {a : Addr} (ha : a ∈ g.dicts) : H.D a ≠ none := by
  obtain ⟨fs, e1, _⟩ := h.fs
  obtain ⟨ns, e2, _⟩ := h.nD
  simp only [GA.dicts, List.mem_cons, List.not_mem_nil, or_false] at ha
  rcases ha with rfl | rfl | rfl | rfl | rfl | rfl | rfl | rfl | rfl
  · rw [e1]; simp
  · rw [e2]; simp
  · rw [h.al]; simp
  · rw [h.tR.dict]; simp
  · rw [h.tT.dict]; simp
  · rw [h.tN.dict]; simp
  · rw [h.fst]; simp
  · rw [h.fol]; simp
  · rw [h.pr]; simp
theorem GrOk.ownL (h : GrOk cg cr H g t) {a : Addr} (ha : a ∈ GT.lists g t) : H.L a ≠ none := by
  rcases List.mem_cons.mp ha with rfl | ha
  · rw [h.ps]; simp
  · rcases List.mem_append.mp ha with ha | ha
    · obtain ⟨e, he, rfl⟩ := List.mem_map.mp ha
      rw [h.tT.lst e he]; simp
    · rcases List.mem_append.mp ha with ha | ha
      · obtain ⟨e, he, rfl⟩ := List.mem_map.mp ha
        rw [h.tN.lst e he]; simp
      · obtain ⟨e, he, rfl⟩ := List.mem_map.mp ha
        rw [h.tR.lst e he]; simp
theorem GrOk.freshL (h : GrOk cg cr H g t) {a : Addr} (hf : H.Fresh a) : a ∉ GT.lists g t := fun ha => h.ownL ha hf.l
theorem GrOk.freshD (h : GrOk cg cr H g t) {a : Addr} (hf : H.Fresh a) : a ∉ g.dicts := fun ha => h.ownD ha hf.d

theorem GrOk.keep {H' : Hp} (h : GrOk cg cr H g t) (hL : ∀ a ∈ GT.lists g t, H'.L a = H.L a) (hD : ∀ a ∈ g.dicts, H'.D a = H.D a) (hP : H'.P g.pm = H.P g.pm) (hS : H'.S g.ups = H.S g.ups) (hI : H'.I g.g = H.I g.g) (hI2 : H'.I g.nm = H.I g.nm) (hG : ∀ a, H'.G a = none) : GrOk cg cr H' g t where
  I := hI.trans h.I
  fs := by
    obtain ⟨fs, e1, e2⟩ := h.fs
    exact ⟨fs, (hD _ (by simp [GA.dicts])).trans e1, e2⟩
  nI := hI2.trans h.nI
  nD := by
    obtain ⟨fs, e1, e2⟩ := h.nD
    exact ⟨fs, (hD _ (by simp [GA.dicts])).trans e1, e2⟩
  al := (hD _ (by simp [GA.dicts])).trans h.al
  ps := (hL _ (List.mem_cons_self ..)).trans h.ps
  pm := hP.trans h.pm
  tT := h.tT.keep (hD _ (by simp [GA.dicts])) fun a ha => hL a (mem_lists_T ha)
  tN := h.tN.keep (hD _ (by simp [GA.dicts])) fun a ha => hL a (mem_lists_N ha)
  tR := h.tR.keep (hD _ (by simp [GA.dicts])) fun a ha => hL a (mem_lists_R ha)
  fst := (hD _ (by simp [GA.dicts])).trans h.fst
  fol := (hD _ (by simp [GA.dicts])).trans h.fol
  pr := (hD _ (by simp [GA.dicts])).trans h.pr
  ups := hS.trans h.ups
  gn := hG
  nd := h.nd
  na := h.na
  kT := h.kT
  kN := h.kN
  kR := h.kR

noncomputable def GT.setL (g : GA) (t : GT) (a : Addr) (ys : List V) : GT := { t with tT := tset t.tT a ys, tN := tset t.tN a ys, tR := tset t.tR a ys, ps := if g.prods = a then ys else t.ps }
theorem lists_setL {a : Addr} {ys : List V} : GT.lists g (t.setL g a ys) = GT.lists g t := by
  unfold GT.lists GT.setL
  simp only [adr_tset]
theorem GrOk.setL (h : GrOk cg cr H g t) {a : Addr} (ys : List V) : GrOk cg cr { H with L := up H.L a ys } g (t.setL g a ys) where
  I := h.I
  fs := h.fs
  nI := h.nI
  nD := h.nD
  al := h.al
  ps := by
    show up H.L a ys g.prods = some (if g.prods = a then ys else t.ps)
    by_cases e : g.prods = a
    · rw [if_pos e, e]; exact up_self _ _ _
    · rw [if_neg e, up_ne e]; exact h.ps
  pm := h.pm
  tT := h.tT.set rfl (up_self _ _ _) fun b hb => up_ne hb
  tN := h.tN.set rfl (up_self _ _ _) fun b hb => up_ne hb
  tR := h.tR.set rfl (up_self _ _ _) fun b hb => up_ne hb
  fst := h.fst
  fol := h.fol
  pr := h.pr
  ups := h.ups
  gn := h.gn
  nd := h.nd
  na := by rw [lists_setL]; exact h.na
  kT := by show (kys (tset _ _ _)).Nodup; rw [kys_tset]; exact h.kT
  kN := by show (kys (tset _ _ _)).Nodup; rw [kys_tset]; exact h.kN
  kR := by show (kys (tset _ _ _)).Nodup; rw [kys_tset]; exact h.kR
theorem GrOk.apart (h : GrOk cg cr H g t) : g.prods ∉ adr t.tT ∧ g.prods ∉ adr t.tN ∧ g.prods ∉ adr t.tR ∧ (adr t.tT).Nodup ∧ (adr t.tN).Nodup ∧ (adr t.tR).Nodup ∧ (∀ a ∈ adr t.tT, a ∉ adr t.tN ∧ a ∉ adr t.tR) ∧ (∀ a ∈ adr t.tN, a ∉ adr t.tR) := by
  have := h.na
  unfold GT.lists at this
  rw [List.nodup_cons, List.nodup_append, List.nodup_append] at this
  obtain ⟨h1, h2, ⟨h3, h4, h5⟩, h6⟩ := this
  simp only [List.mem_append, not_or] at h1
  refine ⟨h1.1, h1.2.1, h1.2.2, h2, h3, h4, fun a ha => ⟨fun hb => h6 a ha a (List.mem_append_left _ hb) rfl, fun hb => h6 a ha a (List.mem_append_right _ hb) rfl⟩, fun a ha hb => h5 a ha a hb rfl⟩
theorem setL_T (h : GrOk cg cr H g t) {a : Addr} {ys : List V} (ha : a ∈ adr t.tT) : t.setL g a ys = { t with tT := tset t.tT a ys } := by
  obtain ⟨h1, h2, h3, h4, h5, h6, h7, h8⟩ := h.apart
  unfold GT.setL
  rw [tset_other (h7 a ha).1, tset_other (h7 a ha).2, if_neg (show ¬ g.prods = a from fun e => h1 (by rw [e]; exact ha))]
theorem setL_N (h : GrOk cg cr H g t) {a : Addr} {ys : List V} (ha : a ∈ adr t.tN) : t.setL g a ys = { t with tN := tset t.tN a ys } := by
  obtain ⟨h1, h2, h3, h4, h5, h6, h7, h8⟩ := h.apart
  unfold GT.setL
  rw [tset_other (fun hb => (h7 a hb).1 ha), tset_other (h8 a ha), if_neg (show ¬ g.prods = a from fun e => h2 (by rw [e]; exact ha))]
theorem setL_R (h : GrOk cg cr H g t) {a : Addr} {ys : List V} (ha : a ∈ adr t.tR) : t.setL g a ys = { t with tR := tset t.tR a ys } := by
  obtain ⟨h1, h2, h3, h4, h5, h6, h7, h8⟩ := h.apart
  unfold GT.setL
  rw [tset_other (fun hb => (h7 a hb).2 ha), tset_other (fun hb => h8 a hb ha), if_neg (show ¬ g.prods = a from fun e => h3 (by rw [e]; exact ha))]
theorem setL_ps (h : GrOk cg cr H g t) {ys : List V} : t.setL g g.prods ys = { t with ps := ys } := by
  obtain ⟨h1, h2, h3, h4, h5, h6, h7, h8⟩ := h.apart
  unfold GT.setL
  rw [tset_other h1, tset_other h2, tset_other h3, if_pos rfl]

theorem GrOk.newN (h : GrOk cg cr H g t) {k : Str} {a : Addr} {xs : List V} (hk : k ∉ kys t.tN) (hf : H.Fresh a) : GrOk cg cr { H with L := up H.L a xs, D := up H.D g.nts (dput (tof t.tN) k (.ref a)) } g { t with tN := t.tN ++ [(k, a, xs)] } := by
  have hl := h.freshL hf
  have nd := h.nd
  have hne : ∀ b ∈ GT.lists g t, b ≠ a := fun b hb e => hl (e ▸ hb)
  have hd : ∀ b ∈ g.dicts, b ≠ g.nts → up H.D g.nts (dput (tof t.tN) k (.ref a)) b = H.D b := fun b _ e => up_ne e
  simp only [GA.dicts, List.nodup_cons, List.mem_cons, List.not_mem_nil, or_false, not_or, List.nodup_nil, not_false_eq_true, and_true] at nd
  obtain ⟨⟨a1, a2, a3, a4, a5, a6, a7, a8⟩, ⟨b1, b2, b3, b4, b5, b6, b7⟩, ⟨c1, c2, c3, c4, c5, c6⟩, ⟨d1, d2, d3, d4, d5⟩, ⟨e1, e2, e3, e4⟩, ⟨f1, f2, f3⟩, ⟨g1, g2⟩, i1⟩ := nd
  have keepT : ∀ {t' : Tab} {d : Addr}, Tb H d t' → d ≠ g.nts → (∀ b ∈ adr t', b ≠ a) → Tb { H with L := up H.L a xs, D := up H.D g.nts (dput (tof t.tN) k (.ref a)) } d t' := fun x hd hb => x.keep (up_ne hd) fun b hb' => up_ne (hb b hb')
  obtain ⟨fs, fs1, fs2⟩ := h.fs
  obtain ⟨ns, ns1, ns2⟩ := h.nD
  refine ⟨h.I, ⟨fs, upe a5 fs1, fs2⟩, h.nI, ⟨ns, upe b4 ns1, ns2⟩, upe c3 h.al, upe (hne _ (List.mem_cons_self ..)) h.ps, h.pm, keepT h.tT e1 fun b hb => hne b (mem_lists_T hb), h.tN.new hk (up_self _ _ _) (up_self _ _ _) (fun b hb => up_ne (hne b (mem_lists_N hb))), keepT h.tR d2 fun b hb => hne b (mem_lists_R hb), upe (Ne.symm f1) h.fst, upe (Ne.symm f2) h.fol, upe (Ne.symm f3) h.pr, h.ups, h.gn, h.nd, ?_, h.kT, ?_, h.kR⟩
  · have : GT.lists g { t with tN := t.tN ++ [(k, a, xs)] } = g.prods :: (adr t.tT ++ ((adr t.tN ++ [a]) ++ adr t.tR)) := by simp [GT.lists, adr]
    rw [this]
    have p : (g.prods :: (adr t.tT ++ ((adr t.tN ++ [a]) ++ adr t.tR))).Perm (a :: GT.lists g t) := by
      unfold GT.lists
      refine (List.Perm.cons _ ?_).trans (List.Perm.swap _ _ _)
      refine (List.Perm.append_left _ (List.Perm.append_right _ List.perm_append_comm)).trans ?_
      simp only [List.singleton_append, List.cons_append, List.nil_append]
      exact List.perm_middle
    rw [p.nodup_iff, List.nodup_cons]
    exact ⟨hl, h.na⟩
  · have : kys (t.tN ++ [(k, a, xs)]) = kys t.tN ++ [k] := by simp [kys]
    show (kys (t.tN ++ [(k, a, xs)])).Nodup
    rw [this, List.nodup_append]
    exact ⟨h.kN, by simp, fun b hb c hc => by simp at hc; subst hc; exact fun e => hk (e ▸ hb)⟩
theorem GrOk.newR (h : GrOk cg cr H g t) {k : Str} {a : Addr} {xs : List V} (hk : k ∉ kys t.tR) (hf : H.Fresh a) : GrOk cg cr { H with L := up H.L a xs, D := up H.D g.pn (dput (tof t.tR) k (.ref a)) } g { t with tR := t.tR ++ [(k, a, xs)] } := by
  have hl := h.freshL hf
  have nd := h.nd
  have hne : ∀ b ∈ GT.lists g t, b ≠ a := fun b hb e => hl (e ▸ hb)
  simp only [GA.dicts, List.nodup_cons, List.mem_cons, List.not_mem_nil, or_false, not_or, List.nodup_nil, not_false_eq_true, and_true] at nd
  obtain ⟨⟨a1, a2, a3, a4, a5, a6, a7, a8⟩, ⟨b1, b2, b3, b4, b5, b6, b7⟩, ⟨c1, c2, c3, c4, c5, c6⟩, ⟨d1, d2, d3, d4, d5⟩, ⟨e1, e2, e3, e4⟩, ⟨f1, f2, f3⟩, ⟨g1, g2⟩, i1⟩ := nd
  have keepT : ∀ {t' : Tab} {d : Addr}, Tb H d t' → d ≠ g.pn → (∀ b ∈ adr t', b ≠ a) → Tb { H with L := up H.L a xs, D := up H.D g.pn (dput (tof t.tR) k (.ref a)) } d t' := fun x hd hb => x.keep (up_ne hd) fun b hb' => up_ne (hb b hb')
  obtain ⟨fs, fs1, fs2⟩ := h.fs
  obtain ⟨ns, ns1, ns2⟩ := h.nD
  refine ⟨h.I, ⟨fs, upe a3 fs1, fs2⟩, h.nI, ⟨ns, upe b2 ns1, ns2⟩, upe c1 h.al, upe (hne _ (List.mem_cons_self ..)) h.ps, h.pm, keepT h.tT (Ne.symm d1) fun b hb => hne b (mem_lists_T hb), keepT h.tN (Ne.symm d2) fun b hb => hne b (mem_lists_N hb), h.tR.new hk (up_self _ _ _) (up_self _ _ _) (fun b hb => up_ne (hne b (mem_lists_R hb))), upe (Ne.symm d3) h.fst, upe (Ne.symm d4) h.fol, upe (Ne.symm d5) h.pr, h.ups, h.gn, h.nd, ?_, h.kT, h.kN, ?_⟩
  · have : GT.lists g { t with tR := t.tR ++ [(k, a, xs)] } = g.prods :: (adr t.tT ++ (adr t.tN ++ (adr t.tR ++ [a]))) := by simp [GT.lists, adr]
    rw [this]
    have p : (g.prods :: (adr t.tT ++ (adr t.tN ++ (adr t.tR ++ [a])))).Perm (a :: GT.lists g t) := by
      have e : (g.prods :: (adr t.tT ++ (adr t.tN ++ (adr t.tR ++ [a])))) = GT.lists g t ++ [a] := by simp [GT.lists]
      rw [e]; exact List.perm_append_singleton _ _
    rw [p.nodup_iff, List.nodup_cons]
    exact ⟨hl, h.na⟩
  · have : kys (t.tR ++ [(k, a, xs)]) = kys t.tR ++ [k] := by simp [kys]
    show (kys (t.tR ++ [(k, a, xs)])).Nodup
    rw [this, List.nodup_append]
    exact ⟨h.kR, by simp, fun b hb c hc => by simp at hc; subst hc; exact fun e => hk (e ▸ hb)⟩
theorem GrOk.setP (h : GrOk cg cr H g t) (ks : List (Str × List Str)) : GrOk cg cr { H with P := up H.P g.pm ks } g { t with pm := ks } :=
  ⟨h.I, h.fs, h.nI, h.nD, h.al, h.ps, up_self _ _ _, h.tT.keep rfl fun _ _ => rfl, h.tN.keep rfl fun _ _ => rfl, h.tR.keep rfl fun _ _ => rfl, h.fst, h.fol, h.pr, h.ups, h.gn, h.nd, h.na, h.kT, h.kN, h.kR⟩

noncomputable def addUse (m : List (Str × List V)) (k : Str) (v : V) : List (Str × List V) := m.map fun p => if p.1 = k then (p.1, p.2 ++ [v]) else p
noncomputable def addKey (m : List (Str × List V)) (k : Str) : List (Str × List V) := if k ∈ m.map (·.1) then m else m ++ [(k, [])]
noncomputable def useAll (v : V) : List (Str × List V) × List (Str × List V) → List Str → List (Str × List V) × List (Str × List V)
  | (T, N), [] => (T, N)
  | (T, N), s :: r => if s ∈ T.map (·.1) then useAll v (addUse T s v, N) r else useAll v (T, addUse (addKey N s) s v) r
theorem useAll_snoc (v : V) : ∀ (l : List Str) (x : List (Str × List V) × List (Str × List V)) (s : Str), useAll v x (l ++ [s]) = useAll v (useAll v x l) [s]
  | [], (T, N), s => rfl
  | a :: l, (T, N), s => by
    show (if _ then _ else _) = useAll v (if _ then _ else _) [s]
    split
    · exact useAll_snoc v l _ s
    · exact useAll_snoc v l _ s
theorem tcon_keys (t : Tab) : (tcon t).map (·.1) = kys t := by unfold tcon kys; rw [List.map_map]; rfl
theorem addUse_keys (m : List (Str × List V)) (k : Str) (v : V) : (addUse m k v).map (·.1) = m.map (·.1) := by
  unfold addUse
  rw [List.map_map]
  exact List.map_congr_left fun p _ => by simp only [Function.comp]; split <;> rfl
theorem tcon_use {t : Tab} {k : Str} {a : Addr} {xs : List V} {v : V} (hk : (kys t).Nodup) (ha : (adr t).Nodup) (e : tget t k = some (a, xs)) : tcon (tset t a (xs ++ [v])) = addUse (tcon t) k v := by
  rw [tcon_tset hk ha e]
  unfold addUse
  refine List.map_congr_left fun p hp => ?_
  by_cases h : p.1 = k
  · rw [if_pos h, if_pos h]
    obtain ⟨q, hq, rfl⟩ := List.mem_map.mp hp
    have : q = (k, a, xs) := inj_nodup hk hq (tget_mem e) h
    rw [this]
  · rw [if_neg h, if_neg h]
end
end Lay
end
noncomputable section
open PySem PySem.W PyProof.Rows PySem.Calls
set_option Elab.async false
set_option maxRecDepth 100000
set_option linter.all false
namespace Lay
section
variable {F : Fx} {n : Nat} {loc : Loc} {H : Hp}
theorem WSs_mid {st : Stmt} {rest : List Stmt} {Q : Fl → Loc → Hp → Prop} (M : Loc → Hp → Prop) (h : WS F st loc H fun f l1 H1 => match f with | .next => M l1 H1 | f => Q f l1 H1) (k : ∀ l H, M l H → WSs F rest l H Q) : WSs F (st :: rest) loc H Q :=
  WSs_cons (h.mono fun f l H q => by cases f <;> first | exact k _ _ q | exact q)
end
section
variable {cg cr : Addr} {H : Hp} {g : GA} {t : GT}
structure Sz (m : Nat) (t : GT) : Prop where
  T : (kys t.tT).length ≤ m
  N : (kys t.tN).length ≤ m
  R : (kys t.tR).length ≤ m
  lT : ∀ e ∈ t.tT, e.2.2.length ≤ m
  lN : ∀ e ∈ t.tN, e.2.2.length ≤ m
  lR : ∀ e ∈ t.tR, e.2.2.length ≤ m
  ps : t.ps.length ≤ m
  pm : t.pm.length ≤ m
theorem Sz.mono {m m' : Nat} (h : Sz m t) (k : m ≤ m') : Sz m' t :=
  ⟨Nat.le_trans h.T k, Nat.le_trans h.N k, Nat.le_trans h.R k, fun e he => Nat.le_trans (h.lT e he) k, fun e he => Nat.le_trans (h.lN e he) k, fun e he => Nat.le_trans (h.lR e he) k, Nat.le_trans h.ps k, Nat.le_trans h.pm k⟩
theorem tset_len {t : Tab} {a : Addr} {ys : List V} {m : Nat} (h : ∀ e ∈ t, e.2.2.length ≤ m) (hy : ys.length ≤ m) : ∀ e ∈ tset t a ys, e.2.2.length ≤ m := fun e he => by
  obtain ⟨e', he', rfl⟩ := List.mem_map.mp he
  split
  · exact hy
  · exact h e' he'
theorem Sz.setL {m : Nat} (h : Sz m t) {a : Addr} {ys : List V} (hy : ys.length ≤ m) : Sz m (t.setL g a ys) := by
  refine ⟨?_, ?_, ?_, tset_len h.lT hy, tset_len h.lN hy, tset_len h.lR hy, ?_, h.pm⟩
  · show (kys (tset _ _ _)).length ≤ m; rw [kys_tset]; exact h.T
  · show (kys (tset _ _ _)).length ≤ m; rw [kys_tset]; exact h.N
  · show (kys (tset _ _ _)).length ≤ m; rw [kys_tset]; exact h.R
  · show (if g.prods = a then ys else t.ps).length ≤ m
    split
    · exact hy
    · exact h.ps
theorem new_len {t : Tab} {k : Str} {a : Addr} {xs : List V} {m : Nat} (h : ∀ e ∈ t, e.2.2.length ≤ m) (hy : xs.length ≤ m) : ∀ e ∈ t ++ [(k, a, xs)], e.2.2.length ≤ m := fun e he => by
  rcases List.mem_append.mp he with he | he
  · exact h e he
  · simp at he; subst he; exact hy
theorem new_keys {t : Tab} {k : Str} {a : Addr} {xs : List V} : (kys (t ++ [(k, a, xs)])).length = (kys t).length + 1 := by simp [kys]
structure Keeps2 (t t' : GT) : Prop where
  fst : t'.fst = t.fst
  fol : t'.fol = t.fol
  pr : t'.pr = t.pr
  ups : t'.ups = t.ups
  start : t'.start = t.start
theorem foot_L {a : Addr} (h : a ∈ GT.lists g t) : foot g t a := .inr (.inl h)
theorem foot_D {a : Addr} (h : a ∈ g.dicts) : foot g t a := .inl h
noncomputable def Grown (H : Hp) (g : GA) (t t' : GT) : Prop := ∀ a ∈ GT.lists g t', a ∈ GT.lists g t ∨ H.Fresh a
theorem Grown.refl (H : Hp) (g : GA) (t : GT) : Grown H g t t := fun a h => .inl h
theorem Ext.of_foot {H1 H2 : Hp} {t' : GT} (h : Ext (foot g t) H H1) (k : Ext (foot g t') H1 H2) (gr : Grown H g t t') : Ext (foot g t) H H2 := fun a o => by
  obtain ⟨o1, s1⟩ := h a o
  obtain ⟨o2, s2⟩ := k a o1
  refine ⟨o2, fun hf => (s2 fun z => ?_).trans (s1 hf)⟩
  rcases z with z | z | z
  · exact hf (.inl z)
  · rcases gr a z with z | z
    · exact hf (.inr (.inl z))
    · exact z o
  · exact hf (.inr (.inr z))

theorem Grown.newN {k : Str} {a : Addr} {xs : List V} {t1 : GT} (h : Grown H g t t1) (hf : H.Fresh a) : Grown H g t { t1 with tN := t1.tN ++ [(k, a, xs)] } := fun b hb => by
  have : GT.lists g { t1 with tN := t1.tN ++ [(k, a, xs)] } = g.prods :: (adr t1.tT ++ ((adr t1.tN ++ [a]) ++ adr t1.tR)) := by simp [GT.lists, adr]
  rw [this] at hb
  simp only [List.mem_cons, List.mem_append, List.not_mem_nil, or_false] at hb
  rcases hb with hb | hb | (hb | hb) | hb
  · exact h b (by rw [hb]; exact List.mem_cons_self ..)
  · exact h b (mem_lists_T hb)
  · exact h b (mem_lists_N hb)
  · subst hb; exact .inr hf
  · exact h b (mem_lists_R hb)
theorem Grown.newR {k : Str} {a : Addr} {xs : List V} {t1 : GT} (h : Grown H g t t1) (hf : H.Fresh a) : Grown H g t { t1 with tR := t1.tR ++ [(k, a, xs)] } := fun b hb => by
  have : GT.lists g { t1 with tR := t1.tR ++ [(k, a, xs)] } = g.prods :: (adr t1.tT ++ (adr t1.tN ++ (adr t1.tR ++ [a]))) := by simp [GT.lists, adr]
  rw [this] at hb
  simp only [List.mem_cons, List.mem_append, List.not_mem_nil, or_false] at hb
  rcases hb with hb | hb | hb | hb | hb
  · exact h b (by rw [hb]; exact List.mem_cons_self ..)
  · exact h b (mem_lists_T hb)
  · exact h b (mem_lists_N hb)
  · exact h b (mem_lists_R hb)
  · subst hb; exact .inr hf
theorem Grown.lists {t1 t2 : GT} (h : Grown H g t t1) (e : GT.lists g t2 = GT.lists g t1) : Grown H g t t2 := fun b hb => h b (e ▸ hb)
structure ApSt (cg cr : Addr) (H : Hp) (g : GA) (t : GT) (m : Nat) (u : List (Str × List V) × List (Str × List V)) (H' : Hp) (t1 : GT) : Prop where
  gr : GrOk cg cr H' g t1
  ext : Ext (foot g t) H H'
  grown : Grown H g t t1
  sz : Sz m t1
  R : t1.tR = t.tR
  ps : t1.ps = t.ps
  pm : t1.pm = t.pm
  keeps : Keeps2 t t1
  uses : (tcon t1.tT, tcon t1.tN) = u
variable {m : Nat} {T N : List (Str × List V)} {H' : Hp} {t1 : GT}
theorem ApSt.mono {m' : Nat} {u} (h : ApSt cg cr H g t m u H' t1) (k : m ≤ m') : ApSt cg cr H g t m' u H' t1 := { h with sz := h.sz.mono k }
theorem ApSt.extL (h : ApSt cg cr H g t m (T, N) H' t1) {a : Addr} (ha : a ∈ GT.lists g t1) (ys : List V) : Ext (foot g t) H { H' with L := up H'.L a ys } :=
  h.ext.of_foot (Lay.extL (.inl (foot_L ha))) h.grown
theorem ApSt.useT (h : ApSt cg cr H g t m (T, N) H' t1) {s : Str} {a : Addr} {xs : List V} {v : V} (e : tget t1.tT s = some (a, xs)) : ApSt cg cr H g t (m + 1) (addUse T s v, N) { H' with L := up H'.L a (xs ++ [v]) } { t1 with tT := tset t1.tT a (xs ++ [v]) } := by
  have ha : a ∈ adr t1.tT := List.mem_map.mpr ⟨_, tget_mem e, rfl⟩
  have hs := setL_T (ys := xs ++ [v]) h.gr ha
  have g2 := h.gr.setL (a := a) (xs ++ [v])
  rw [hs] at g2
  have hx := h.sz.lT _ (tget_mem e)
  have s2 := (h.sz.mono (Nat.le_succ m)).setL (g := g) (a := a) (ys := xs ++ [v]) (by simp at hx ⊢; omega)
  rw [hs] at s2
  have hu := h.uses
  injection hu with u1 u2
  refine ⟨g2, h.extL (mem_lists_T ha) _, h.grown.lists (by rw [← hs]; exact lists_setL), s2, h.R, h.ps, h.pm, ⟨h.keeps.fst, h.keeps.fol, h.keeps.pr, h.keeps.ups, h.keeps.start⟩, ?_⟩
  show (tcon (tset t1.tT a (xs ++ [v])), tcon t1.tN) = _
  rw [tcon_use h.gr.kT h.gr.apart.2.2.2.1 e, u1, u2]
theorem ApSt.useN (h : ApSt cg cr H g t m (T, N) H' t1) {s : Str} {a : Addr} {xs : List V} {v : V} (e : tget t1.tN s = some (a, xs)) : ApSt cg cr H g t (m + 1) (T, addUse N s v) { H' with L := up H'.L a (xs ++ [v]) } { t1 with tN := tset t1.tN a (xs ++ [v]) } := by
  have ha : a ∈ adr t1.tN := List.mem_map.mpr ⟨_, tget_mem e, rfl⟩
  have hs := setL_N (ys := xs ++ [v]) h.gr ha
  have g2 := h.gr.setL (a := a) (xs ++ [v])
  rw [hs] at g2
  have hx := h.sz.lN _ (tget_mem e)
  have s2 := (h.sz.mono (Nat.le_succ m)).setL (g := g) (a := a) (ys := xs ++ [v]) (by simp at hx ⊢; omega)
  rw [hs] at s2
  have hu := h.uses
  injection hu with u1 u2
  refine ⟨g2, h.extL (mem_lists_N ha) _, h.grown.lists (by rw [← hs]; exact lists_setL), s2, h.R, h.ps, h.pm, ⟨h.keeps.fst, h.keeps.fol, h.keeps.pr, h.keeps.ups, h.keeps.start⟩, ?_⟩
  show (tcon t1.tT, tcon (tset t1.tN a (xs ++ [v]))) = _
  rw [tcon_use h.gr.kN h.gr.apart.2.2.2.2.1 e, u1, u2]
theorem ApSt.keyN (h : ApSt cg cr H g t m (T, N) H' t1) {s : Str} {a : Addr} (hk : s ∉ kys t1.tN) (ha : H'.Fresh a) : ApSt cg cr H g t (m + 1) (T, addKey N s) { H' with L := up H'.L a [], D := up H'.D g.nts (dput (tof t1.tN) s (.ref a)) } { t1 with tN := t1.tN ++ [(s, a, [])] } := by
  have hu := h.uses
  injection hu with u1 u2
  have hf : H.Fresh a := h.ext.fresh ha
  have sz := h.sz.mono (Nat.le_succ m)
  refine ⟨h.gr.newN hk ha, ?_, h.grown.newN hf, ⟨sz.T, ?_, sz.R, sz.lT, new_len sz.lN (by simp), sz.lR, sz.ps, sz.pm⟩, h.R, h.ps, h.pm, ⟨h.keeps.fst, h.keeps.fol, h.keeps.pr, h.keeps.ups, h.keeps.start⟩, ?_⟩
  · exact h.ext.of_foot ((Lay.extL (.inr ha)).trans (extD (.inl (foot_D (by simp [GA.dicts]))))) h.grown
  · show (kys (t1.tN ++ [(s, a, [])])).length ≤ m + 1
    rw [new_keys]; have := h.sz.N; omega
  · show (tcon t1.tT, tcon (t1.tN ++ [(s, a, [])])) = _
    have : s ∉ N.map (·.1) := by rw [← u2, tcon_keys]; exact hk
    unfold addKey
    rw [if_neg this, ← u1, ← u2]
    simp [tcon]
theorem addKey_old {s : Str} (h : s ∈ N.map (·.1)) : addKey N s = N := by unfold addKey; rw [if_pos h]
theorem ApSt.fldT (h : ApSt cg cr H g t m (T, N) H' t1) (s : Str) : s ∈ T.map (·.1) ↔ s ∈ kys t1.tT := by
  have hu := h.uses
  injection hu with u1 u2
  rw [← u1, tcon_keys]
theorem ApSt.fldN (h : ApSt cg cr H g t m (T, N) H' t1) (s : Str) : s ∈ N.map (·.1) ↔ s ∈ kys t1.tN := by
  have hu := h.uses
  injection hu with u1 u2
  rw [← u2, tcon_keys]
end
end Lay
end
noncomputable section
open PySem PySem.W PyProof.Rows PySem.Calls
set_option Elab.async false
set_option maxRecDepth 100000
set_option linter.all false
namespace Lay
section
variable {H H' : Hp} {d a : Addr} {tF : Tab} {fi : Str → List Str} {k : Str} {xs : List Str}
end
section
variable {cg cr : Addr} {H : Hp} {g : GA} {t : GT}
variable {H0 : Hp} {tF tW : Tab} {fi fo : Str → List Str} {k : Str} {a : Addr} {xs : List Str}
end
end Lay
end
noncomputable section
open PySem PySem.W PyProof.Rows PySem.Calls
set_option Elab.async false
set_option maxRecDepth 100000
set_option linter.all false
namespace Lay
section
variable {prog : Program} {w : World} {A : Around} {E : Value → Shared → Prop} {s : Shared} {env : Env}
theorem wpAny_Subscript_SliceA {value : Expr} {lower upper : Option Expr} {p pos : Pos} {T id : String} {Q : Value → Shared → Prop}
    (hl : typeLookup (.type T) "__getitem__" = pure (some (.builtin id)))
    (h : wpAny (model prog w) A (eval value env) (fun o s₁ => wpAny (model prog w) A (eval (.Slice lower upper none p) env) (fun i s₂ => s₂.TypeIs o T ∧ wpAny (model prog w) A (getItem o i) Q E s₂) E s₁) E s) :
    wpAny (model prog w) A (eval (.Subscript value (.Slice lower upper none p) pos) env) Q E s := by
  rw [eval_Subscript]
  refine wpAny_bind (wpAny_mono h (fun o s₁ h₁ => wpAny_bind (wpAny_holding (wpAny_mono h₁ (fun i s₂ h₂ => wpAny_bind (wpAny_standAt ?_)) fun _ _ x => x))) fun _ _ x => x)
  have fin : wpAny (model prog w) A (operate [i, o] (getItem o i)) (fun r s₃ => wpAny (model prog w) A (letTemporaryGo value o r >>= fun _ => pure r) Q E s₃) E s₂ :=
    wpAny_operating (wpAny_mono h₂.2 (fun r s₃ h₃ => wpAny_bind (wpAny_letTemporaryGo (wpAny_pure h₃))) fun _ _ x => x)
  first
    | (refine wpAny_bind ?_
       rw [getitemInPython_of_ne h₂.1.not_modules]
       refine wpAny_bind (wpAny_specialOf h₂.1 hl ?_)
       first
         | exact wpAny_pure (wpAny_bind fin)
         | exact wpAny_bind (wpAny_pure (wpAny_bind fin))
         | exact wpAny_bind fin)
    | (refine wpAny_bind (wpAny_specialOf h₂.1 hl ?_)
       first
         | exact wpAny_bind (wpAny_pure (wpAny_bind fin))
         | exact wpAny_bind fin)
end
section
variable {F : Fx} {n : Nat} {loc : Loc} {H : Hp}
theorem WE_SliceLA {value : Expr} {lo hi : Option Expr} {p pos : Pos} {Q : V → Loc → Hp → Prop}
    (h : WE F value loc H fun X l1 H1 => WOpt F lo l1 H1 fun a l2 H2 => WOpt F hi l2 H2 fun b l3 H3 => ∃ xs, asL H3 X = some xs ∧ xs.length ≤ 1000000 ∧ (∀ i, a = some i → 0 ≤ i) ∧ (∀ i, b = some i → 0 ≤ i) ∧ Q (.list (cut xs a b)) l3 H3) : WE F (.Subscript value (.Slice lo hi none p) pos) loc H Q := fun B s R => by
  refine wpAny_Subscript_SliceA list_getitem_lookup ((h B s R).then fun v B1 X l1 H1 s1 le1 r1 R1 h1 => wpAny_Slice ((h1 B1 s1 R1).then fun va B2 a l2 H2 s2 le2 ra R2 h2 => (h2 B2 s2 R2).then fun vb B3 b l3 H3 s3 le3 rb R3 h3 => ?_))
  obtain ⟨xs, e, hz, ha, hb, q⟩ := h3
  refine wpAny_pure ?_
  have R4 := R3.grow (s' := { s3 with heap := s3.heap.push { cls := .type "slice", data := .fields #[va, vb, .none] } }) (fun b o e => Heap.get?_push_of_some _ e) rfl rfl
  obtain ⟨l, items, m, rfl, hl, hr⟩ := asL_at R4 (r1.mono (le2.trans le3)) e
  have hlen := hr.length
  rw [Array.length_toList] at hlen
  refine ⟨hl.isList.typeIs, wpAny_getItem_list_slice hl.isList (Heap.IsSliceOf.new ..) ra rb .none (by simp) ?_ (by rw [hlen, sizeLine_eq]; omega)⟩
  have hc := cut_rel hr ha hb
  rw [Array.toArray_toList] at hc
  refine PW_newListF (P := Post F RelV B Q) (vs := (slicePick items a b none).toList) (k := 0) R4 hc (Nat.le_refl _) (fun b o e => Heap.get?_push_of_some _ e) (by rw [Array.toArray_toList]; exact Heap.get?_push_size _ rfl) rfl rfl fun B' le' r' R' => ?_
  exact (Post.pure r' R' q).lift ((le1.trans (le2.trans le3)).trans le')
end
end Lay
end
noncomputable section
open PySem PySem.W PyProof.Rows PySem.Calls
set_option Elab.async false
set_option maxRecDepth 100000
set_option linter.all false
namespace Lay
section
variable {F : Fx} {n : Nat} {loc : Loc} {H : Hp}
end
end Lay
end
noncomputable section
open PySem PySem.W PyProof.Rows PySem.Calls
set_option Elab.async false
set_option maxRecDepth 100000
set_option linter.all false
namespace Lay
noncomputable def closW (cl0 : List (Str × Addr)) : List (Str × NameKind) → List (Str × Addr) → Option (List (Str × Addr))
  | [], acc => some acc
  | (x, k) :: r, acc => if k == .free then match cl0.lookup x with | some a => closW cl0 r ((x, a) :: acc) | none => none else closW cl0 r acc
theorem closK {F : Fx} {nm : List (Str × NameKind)} {cl0 cl : List (Str × Addr)} {scope : Scope} (hF : FrameIs F nm cl0) (h : closW cl0 scope.names [] = some cl) : closureFor scope F.env = pure cl := by
  have key : ∀ (names : List (Str × NameKind)) (acc cl : List (Str × Addr)), closW cl0 names acc = some cl →
      (forIn names acc fun (x : Str × NameKind) (cs : List (Str × Addr)) => (do if x.2 == .free then let a ← cellOf F.env x.1; pure (ForInStep.yield ((x.1, a) :: cs)) else pure (ForInStep.yield cs) : Sem (ForInStep (List (Str × Addr))))) = (pure cl : Sem (List (Str × Addr))) := by
    intro names
    induction names with
    | nil => intro acc cl h; cases h; rfl
    | cons p r ih =>
      obtain ⟨x, k⟩ := p
      intro acc cl h
      unfold closW at h
      rw [List.forIn_cons]
      dsimp only
      split at h
      · rename_i hk
        rw [if_pos hk]
        split at h
        · rename_i a ha
          have e : cellOf F.env x = pure a := by unfold cellOf; rw [hF.2, ha]
          rw [e, pure_bind, pure_bind]
          exact ih _ _ h
        · cases h
      · rename_i hk
        rw [if_neg hk, pure_bind]
        exact ih _ _ h
  unfold closureFor
  have := key scope.names [] cl h
  refine Eq.trans ?_ ((congrArg (· >>= fun cs => pure cs) this).trans (pure_bind _ _))
  refine congrArg (· >>= fun cs => pure cs) ?_
  refine congrArg (forIn scope.names []) ?_
  funext x cs
  obtain ⟨x, k⟩ := x
  rfl
section
variable {F : Fx} {n : Nat} {loc : Loc} {H : Hp}
theorem frzNew {a : Addr} {xs : List V} {Q : V → Loc → Hp → Prop} (hf : H.Fresh a) (q : Q (.list xs) loc H) : ∃ X' H', Frz (.ref a) { H with L := up H.L a xs } X' H' ∧ Q X' loc H' :=
  ⟨_, _, Frz.list (up_self _ _ _), by rw [un_up hf.l]; exact q⟩
theorem WE_ListF {es : List Expr} {pos : Pos} {Q : V → Loc → Hp → Prop} (h : WEs F pos es loc H fun Xs l1 H1 => Xs.length ≤ 1000000 ∧ Q (.list Xs) l1 H1) : WE F (.List es pos) loc H Q :=
  WE_frz (WE_List fun B s R => (h B s R).mono fun Xs l1 H1 q => ⟨q.1, fun a ha => frzNew ha q.2⟩)
noncomputable def unS : V → Str
  | .str s => s
  | _ => ⟨#[]⟩
theorem unS_map (l : List Str) : (l.map V.str).map unS = l := by
  rw [List.map_map]
  exact (List.map_congr_left fun _ _ => rfl).trans (List.map_id _)
theorem kindK {nm : List (Str × NameKind)} {cl : List (Str × Addr)} (hF : FrameIs F nm cl) {x : Str} {i : Nat} {k : NameKind} (hx : look nm x = some (i, k)) : F.env.kindOf x = some k := by
  show F.env.scope.names.lookup x = some k
  rw [hF.1]; exact (look_spec hx).2
end
end Lay
end
noncomputable section
open PySem PySem.W PyProof.Rows PySem.Calls
set_option Elab.async false
set_option maxRecDepth 100000
set_option linter.all false
namespace Lay
section
variable {F : Fx} {n : Nat} {loc : Loc} {H : Hp}
theorem isD_slist (ss : List Str) : (V.list (ss.map .str)).isD 20 = true := by
  show ((ss.map V.str).all (V.isD 19)) = true
  rw [List.all_map, List.all_eq_true]
  intro x _; rfl
theorem WE_ListCallF {x : Str} {np pos : Pos} {e : Expr} {Q : V → Loc → Hp → Prop} (ok : Ok F n)
    (h : WE F (.Name x np) loc H fun f l1 H1 => f = .raw (.type "list") ∧ WE F e l1 H1 fun X l2 H2 => ∃ xs, (asL H2 X = some xs ∨ X = .tup xs) ∧ xs.length ≤ 1000000 ∧ Q (.list xs) l2 H2)
    (hns : (backTo pos (starEach [e] F.env)).any (·.1) = false := by rfl) (he : starEach (e :: []) F.env = (false, eval e F.env) :: starEach [] F.env := by rfl) : WE F (.Call (.Name x np) [e] [] pos) loc H Q :=
  WE_frz (WE_CallN (h.mono fun f l1 H1 ⟨hf, hx⟩ => hf ▸ WEs_cons (hx.mono fun X l2 H2 ⟨xs, ex, hz, q⟩ => WEs_nil ⟨KeepOk_raw (fun a h => by cases h), Call_list ex hz fun a ha => frzNew ha q⟩) he) hns)
theorem WE_ListCallDF {x : Str} {np pos : Pos} {e : Expr} {Q : V → Loc → Hp → Prop} (ok : Ok F (n + 1))
    (h : WE F (.Name x np) loc H fun f l1 H1 => f = .raw (.type "list") ∧ WE F e l1 H1 fun X l2 H2 => ∃ d kvs, X = .ref d ∧ H2.D d = some kvs ∧ kvs.length ≤ 100000 ∧ Q (.list (kvs.map fun p => .str p.1)) l2 H2)
    (hns : (backTo pos (starEach [e] F.env)).any (·.1) = false := by rfl) (he : starEach (e :: []) F.env = (false, eval e F.env) :: starEach [] F.env := by rfl) : WE F (.Call (.Name x np) [e] [] pos) loc H Q :=
  WE_frz (WE_CallN (h.mono fun f l1 H1 ⟨hf, hx⟩ => hf ▸ WEs_cons (hx.mono fun X l2 H2 ⟨d, kvs, ex, ed, hz, q⟩ => ex ▸ WEs_nil ⟨KeepOk_raw (fun a h => by cases h), Call_list_dict (ok.handled (by omega)) ed hz fun a ha => frzNew ha q⟩) he) hns)
structure CellAt (H : Hp) (c : Addr) (ov : Option V) : Prop where
  C : H.C c = some ov
  L : H.L c = none
  D : H.D c = none
  P : H.P c = none
  S : H.S c = none
theorem CellAt.ext {H H' : Hp} {c : Addr} {ov : Option V} {ft : Addr → Prop} (h : CellAt H c ov) (e : Ext ft H H') (hn : ¬ ft c) : CellAt H' c ov := by
  obtain ⟨e1, e2, e3, e4, e5, e6, e7⟩ := (e c (by unfold Hp.Own; rw [h.C]; simp)).2 hn
  exact ⟨e6.trans h.C, e1.trans h.L, e2.trans h.D, e3.trans h.P, e4.trans h.S⟩
theorem foot_of {cg cr : Addr} {H : Hp} {g : GA} {t : GT} (gr : GrOk cg cr H g t) {a : Addr} (hL : H.L a = none) (hD : H.D a = none) (hP : H.P a = none) (hS : H.S a = none) : ¬ foot g t a := by
  rintro (h | h | rfl | rfl)
  · exact gr.ownD h hD
  · exact gr.ownL h hL
  · have := gr.pm; rw [hP] at this; cases this
  · have := gr.ups; rw [hS] at this; cases this
theorem CellAt.foot {cg cr : Addr} {H : Hp} {g : GA} {t : GT} {c : Addr} {ov : Option V} (h : CellAt H c ov) (gr : GrOk cg cr H g t) : ¬ Lay.foot g t c := foot_of gr h.L h.D h.P h.S
theorem GrOk.putD {cg cr : Addr} {H : Hp} {g : GA} {t : GT} (gr : GrOk cg cr H g t) {d : Addr} (kvs : List (Str × V)) (hd : d ∉ g.dicts) : GrOk cg cr { H with D := up H.D d kvs } g t :=
  gr.keep (fun _ _ => rfl) (fun a ha => up_ne fun e => hd (e ▸ ha)) rfl rfl rfl rfl gr.gn
theorem dget_mem {α : Type} : ∀ {kvs : List (Str × α)} {k : Str} {v : α}, (kvs.map (·.1)).Nodup → (k, v) ∈ kvs → dget kvs k = some v
  | (k', v') :: r, k, v, hn, h => by
    unfold dget
    rw [List.find?_cons]
    rw [List.map_cons, List.nodup_cons] at hn
    rcases List.mem_cons.mp h with h | h
    · cases h; simp
    · have hne : ¬ k' = k := fun e => hn.1 (List.mem_map.mpr ⟨_, h, e.symm⟩)
      simp only [hne, decide_false]
      exact dget_mem hn.2 h
end
end Lay
end
noncomputable section
open PySem PySem.W PyProof.Rows PySem.Calls
set_option Elab.async false
set_option maxRecDepth 100000
set_option linter.all false
namespace Lay
noncomputable abbrev noHp : Hp := ⟨fun _ => none, fun _ => none, fun _ => none, fun _ => none, fun _ => none, fun _ => none, fun _ => none⟩
noncomputable abbrev baseOf (prog : Program) (w : World) (s₁ : Shared) (lim : Addr) : Base := ⟨prog, w, s₁.heap, s₁.os, lim, [], fun a => s₁.heap.get? a⟩
theorem enter_rel {prog : Program} {w : World} {s₁ : Shared} {lim L : Addr} {h₁ : Heap} {tk : Nat} {m : Str → Option Value} {nm : List (Str × NameKind)} {loc : Loc} (hg : s₁.gens = #[]) (hl : 1 ≤ lim ∧ ∃ o, s₁.heap.get? lim = some o) (F : Fr s₁.heap L h₁ m) (hloc : LocOk (fun a => s₁.heap.get? a) nm loc m) :
    Rel (baseOf prog w s₁ lim) L nm (fun a => s₁.heap.get? a) loc noHp ⟨h₁, s₁.gens, s₁.drawn, tk, s₁.os⟩ where
  keep := F.keep
  based := ⟨fun _ _ e => e, Le.refl _⟩
  own := fun a => by
    refine ⟨fun h => absurd h (by simp [Hp.Own]), ?_, ?_, ?_, ?_, ?_, ?_, fun _ => rfl, ?_⟩ <;> (intro _ h; cases h)
  lB := by
    show s₁.heap.get? L = none
    cases e : s₁.heap.get? L with
    | none => rfl
    | some o => exact absurd (Heap.lt_size e) (Nat.not_lt.mpr F.above)
  lH := by simp [Hp.Own]
  ns := ⟨m, F.ns, hloc⟩
  gens := hg
  os := rfl
  lim := hl
  sv := fun p hp => nomatch hp
theorem enter_rel1 {prog : Program} {w : World} {s₁ : Shared} {lim L c : Addr} {h₁ : Heap} {tk : Nat} {m : Str → Option Value} {nm : List (Str × NameKind)} {loc : Loc} {oc : Obj} {v : Option Value} {ov : Option V} (hg : s₁.gens = #[]) (hl : 1 ≤ lim ∧ ∃ o, s₁.heap.get? lim = some o) (F : Fr s₁.heap L h₁ m) (hloc : LocOk (fun a => s₁.heap.get? a) nm loc m)
    (N : News s₁.heap L h₁ [(c, oc)]) (hc : oc.data = .cell v) (hcs : s₁.heap.objs.size ≤ c) (r : relOpt (fun a => s₁.heap.get? a) v ov) :
    Rel (baseOf prog w s₁ lim) L nm (fun a => s₁.heap.get? a) loc { noHp with C := up noHp.C c ov } ⟨h₁, s₁.gens, s₁.drawn, tk, s₁.os⟩ := by
  obtain ⟨n1, n2, n3⟩ := N (c, oc) (.head _)
  refine (enter_rel (tk := tk) hg hl F hloc).adoptC n3 (by simp [Hp.Own]) n2 (fun p hp => nomatch hp) ?_ ⟨oc, n1, hc⟩ r
  obtain ⟨_, o, e⟩ := hl
  exact Nat.lt_of_lt_of_le (Heap.lt_size e) hcs
theorem ints_rel {P : Params} {h : Heap} {B : Keep} : ∀ {vs : List Value} {ns : List Int}, WellAll P h vs (ofPys (ns.map PyData.int)) → RelVs B vs (ns.map .int)
  | _, [], w => by cases w; exact .nil
  | _, n :: ns, w => by
    cases w with
    | cons a r =>
      cases a
      exact .cons (.int _ _) (ints_rel r)
theorem list_rel {P : Params} {h : Heap} {a : Addr} {ns : List Int} (w : Well P h (.ref a) (ofPy (.list (ns.map .int)))) : RelV (fun a => h.get? a) (.ref a) (.list (ns.map .int)) := by
  unfold ofPy at w
  cases w with
  | list h1 h2 => exact .list (n := 0) h1 (by simpa using ints_rel h2)
end Lay
end
noncomputable section
open PySem PySem.W PyProof.Rows PySem.Calls
set_option Elab.async false
set_option maxRecDepth 100000
set_option linter.all false
namespace Lay
structure Bk (M : Loc → Hp → Prop) (Q Q' : Fl → Loc → Hp → Prop) : Prop where
  n : ∀ {l H}, M l H → Q' .next l H
  c : ∀ {l H}, Q .cont l H → Q' .cont l H
  b : ∀ {l H}, Q .brk l H → Q' .brk l H
  r : ∀ {x l H}, Q (.ret x) l H → Q' (.ret x) l H
structure Bt (M : Loc → Hp → Prop) (Q Q' : Fl → Loc → Hp → Prop) : Prop where
  n : ∀ {l H}, M l H → Q' .next l H
  c : ∀ {l H}, M l H → Q' .cont l H
  b : ∀ {l H}, Q .next l H → Q' .brk l H
  r : ∀ {x l H}, Q (.ret x) l H → Q' (.ret x) l H
section
variable {F : Fx} {loc : Loc} {H : Hp}
theorem WSs_midV {st : Stmt} {rest : List Stmt} {Q : Fl → Loc → Hp → Prop} (M : Loc → Hp → Prop) (h : ∀ Q', Bk M Q Q' → WS F st loc H Q') (k : ∀ l H, M l H → WSs F rest l H Q) : WSs F (st :: rest) loc H Q :=
  WSs_mid M (h (fun f l1 H1 => match f with | .next => M l1 H1 | f => Q f l1 H1) ⟨fun x => x, fun x => x, fun x => x, fun x => x⟩) k
theorem ForOnV {target : Expr} {body orelse : List Stmt} {Q : Fl → Loc → Hp → Prop} {St : Nat → ItS} (hm : ∀ i, ItMono (St i)) (N : Nat) (Inv : Nat → Loc → Hp → Prop) (h0 : Inv 0 loc H)
    (hs : ∀ i Q', Bt (Inv (i + 1)) Q Q' → ∀ l H, i < N → Inv i l H → ∃ X, Nxt F target (St i) H (some (X, St (i + 1))) ∧ WA F.inl target X l H fun l1 H1 => WSs F.inl body l1 H1 Q')
    (he : ∀ l H, Inv N l H → Nxt F target (St N) H none ∧ WSs F.inl orelse l H Q) : ForOn F target body orelse Q St loc H :=
  ⟨hm, N, Inv, h0, fun i l H hi x => hs i (LoopQ (Inv (i + 1)) Q) ⟨fun x => x, fun x => x, fun x => x, fun x => x⟩ l H hi x, he⟩
end
end Lay
end
noncomputable section
open PySem PySem.W PyProof.Rows PySem.Calls
set_option Elab.async false
set_option linter.all false
namespace Lay
section
variable {B : Keep} {vs : List Value} {M : List Value → Prop}
theorem RelVs.e0 (r : RelVs B vs []) (h : M []) : M vs := by cases r; exact h
theorem RelVs.ec {X : V} {Xs : List V} (r : RelVs B vs (X :: Xs)) (h : ∀ v ws, RelV B v X → RelVs B ws Xs → M (v :: ws)) : M vs := by
  cases r with | cons a r => exact h _ _ a r
theorem RelVs.e1 {X : V} (r : RelVs B vs [X]) (h : ∀ v, RelV B v X → M [v]) : M vs := r.ec fun _ _ a r => r.e0 (M := fun l => M (_ :: l)) (h _ a)
theorem RelVs.e2 {X Y : V} (r : RelVs B vs [X, Y]) (h : ∀ v w, RelV B v X → RelV B w Y → M [v, w]) : M vs := r.ec fun _ _ a r => r.e1 (M := fun l => M (_ :: l)) fun _ b => h _ _ a b
theorem RelVs.e3 {X Y Z : V} (r : RelVs B vs [X, Y, Z]) (h : ∀ v w u, RelV B v X → RelV B w Y → RelV B u Z → M [v, w, u]) : M vs := r.ec fun _ _ a r => r.e2 (M := fun l => M (_ :: l)) fun _ _ b c => h _ _ _ a b c
theorem RelVs.e9 {X1 X2 X3 X4 X5 X6 X7 X8 X9 : V} (r : RelVs B vs [X1, X2, X3, X4, X5, X6, X7, X8, X9]) (h : ∀ a b c d e f g i j, RelVs B [a, b, c, d, e, f, g, i, j] [X1, X2, X3, X4, X5, X6, X7, X8, X9] → M [a, b, c, d, e, f, g, i, j]) : M vs :=
  r.ec (M := fun l => M (l)) fun a _ ra r => r.ec (M := fun l => M (a :: l)) fun b _ rb r => r.ec (M := fun l => M (a :: b :: l)) fun c _ rc r => r.ec (M := fun l => M (a :: b :: c :: l)) fun d _ rd r => r.ec (M := fun l => M (a :: b :: c :: d :: l)) fun e _ re r => r.ec (M := fun l => M (a :: b :: c :: d :: e :: l)) fun f _ rf r => r.ec (M := fun l => M (a :: b :: c :: d :: e :: f :: l)) fun g _ rg r => r.ec (M := fun l => M (a :: b :: c :: d :: e :: f :: g :: l)) fun i _ ri r => r.ec (M := fun l => M (a :: b :: c :: d :: e :: f :: g :: i :: l)) fun j _ rj r => r.e0 (M := fun l => M (a :: b :: c :: d :: e :: f :: g :: i :: j :: l)) (h _ _ _ _ _ _ _ _ _ (.cons ra (.cons rb (.cons rc (.cons rd (.cons re (.cons rf (.cons rg (.cons ri (.cons rj .nil))))))))))
end
theorem kys_len {t : Tab} : (kys t).length = t.length := by simp [kys]
theorem tof_len {t : Tab} {m n : Nat} (h : (kys t).length ≤ m) (hm : m ≤ n := by decide) : (tof t).length ≤ n := by rw [tof, List.length_map, ← kys_len]; exact Nat.le_trans h hm
theorem eq_of_dec {α β : Type} {f : α → β} {p : Nat} {xs : List α} (h : decide ((p : Int) < ((xs.map f).length : Int)) = false) (hp : p ≤ xs.length) : p = xs.length := by
  have := of_decide_eq_false h
  rw [List.length_map] at this
  exact Nat.le_antisymm hp (Nat.le_of_not_lt fun z => this (Int.ofNat_lt.mpr z))
theorem take_snoc {α : Type} {l : List α} {i : Nat} (hi : i < l.length) : l.take (i + 1) = l.take i ++ [l[i]] := by rw [List.take_add_one, List.getElem?_eq_getElem hi]; rfl
theorem len_map_le {α β : Type} {f : α → β} {xs : List α} {m n : Nat} (h : xs.length ≤ m) (hm : m ≤ n := by decide) : (xs.map f).length ≤ n := by rw [List.length_map]; exact Nat.le_trans h hm
end Lay
end
noncomputable section
open PySem PySem.W PyProof.Rows PySem.Calls
set_option Elab.async false
set_option maxRecDepth 100000
set_option linter.all false
namespace Lay
section
variable {F : Fx} {n : Nat} {loc : Loc} {H : Hp}

theorem Op_mul {i j : Int} {Q : V → Loc → Hp → Prop} (hi : Builtin.Int.intBits i ≤ 64) (q : Q (.int (i * j)) loc H) : Op2 F (binaryOp .Mult) (.int i) (.int j) loc H Q := fun B s a b R ra rb => by
  cases ra; cases rb
  refine PySem.AutoIntOps.mul_0 ?_ (IntMulOk.of_left hi)
  exact Post.pure (.int _ _) (R.tok _) q
theorem Op_pow {i : Int} {k : Nat} {Q : V → Loc → Hp → Prop} (h1 : (i == 0 || i == 1) = false) (h2 : (i == -1) = false) (h3 : Builtin.Int.intTooBig (((Builtin.Int.intBits i : Nat) : Int) * (k : Int)) = false) (q : Q (.int (i ^ k)) loc H) : Op2 F (binaryOp .Pow) (.int i) (.int k) loc H Q := fun B s a b R ra rb => by
  cases ra; cases rb
  cases k with
  | zero =>
    refine PySem.AutoIntOps.pow_0 (by decide) (by decide) ?_
    exact Post.pure (.int _ _) (R.tok _) (by simpa using q)
  | succ k =>
    refine PySem.AutoIntOps.pow_4 (by omega) (by simp; omega) (by rw [h1]; decide) (by rw [h2]; decide) (by rw [h3]; decide) ?_
    exact Post.pure (.int _ _) (R.tok _) (by simpa using q)
theorem asInts_at {B : Keep} : ∀ {vs : List Value} {ns : List Int}, RelVs B vs (ns.map .int) → ∃ xs : List (Int × Tok), vs = xs.map (fun p => .int p.1 p.2) ∧ xs.map (·.1) = ns
  | _, [], r => by cases r; exact ⟨[], rfl, rfl⟩
  | _, n :: ns, r => by
    cases r with | cons a r => ?_
    cases a with | int i t => ?_
    obtain ⟨xs, h1, h2⟩ := asInts_at r
    exact ⟨(n, t) :: xs, by rw [h1]; rfl, by rw [← h2]; rfl⟩
theorem Call_sum {X : V} {ns : List Int} {Q : V → Loc → Hp → Prop} (hh : F.A.handled = none) (e : asL H X = some (ns.map .int)) (q : Q (.int ns.sum) loc H) : Call F (.raw (.builtin "sum")) [X] loc H Q := fun B s v vs R rv rvs => by
  cases rv
  cases rvs with | cons ra r2 => ?_
  cases r2
  obtain ⟨l, items, m, rfl, hl, hr⟩ := asL_at R ra e
  obtain ⟨xs, h1, h2⟩ := asInts_at hr
  have hi : items = intItems xs.toArray := by
    apply Array.toList_inj.mp
    rw [h1]; unfold intItems; simp
  subst hi
  refine sum_intListG hh hl.isList fun h' tk t' hk => ?_
  have hs : preSum (numAt xs.toArray) xs.toArray.size = ns.sum := by
    rw [preSum_eq, List.take_of_length_le (by simp)]
    have : numsOf (intItems xs.toArray).toList = ns := by rw [nums_intItems]; simpa using h2
    rw [← h2]
  rw [hs]
  exact Post.pure (.int _ _) (R.grow (s' := { s with heap := h', toks := tk }) hk rfl rfl) q

theorem Tru_tup {xs : List V} {Q : Bool → Loc → Hp → Prop} (hz : xs.length ≤ 1000) (q : Q (!xs.isEmpty) loc H) : Tru F (.tup xs) loc H Q := fun B s a R ra => by
  cases ra with | @tup a items m _ hb hr => ?_
  have hlen := hr.length
  rw [Array.length_toList] at hlen
  have hi : (!items.isEmpty) = (!xs.isEmpty) := by
    cases xs with
    | nil => simp at hlen; simp [hlen]
    | cons x xs =>
      have : items.size ≠ 0 := by rw [hlen]; simp
      simp [Array.isEmpty, this]
  refine PySem.W.ktl_truthy (R.keep _ _ hb) (by rw [hlen]; omega) ?_
  rw [hi]; exact Post.pure rfl (R.tok _) q
theorem Tru_str {x : Str} {Q : Bool → Loc → Hp → Prop} (hz : x.length ≤ 1000000) (q : Q (decide (x.length ≠ 0)) loc H) : Tru F (.str x) loc H Q := fun B s a R ra => by
  cases ra
  refine PySem.P.truthy_str (by omega) ?_
  have : ((x.length : Int) != 0) = decide (x.length ≠ 0) := by
    rw [Bool.eq_iff_iff]; simp
  rw [this]; exact Post.pure rfl (R.tok _) q
theorem WS_Assert {test : Expr} {msg : Option Expr} {pos : Pos} {Q : Fl → Loc → Hp → Prop} (h : WB F test loc H fun b l1 H1 => b = true ∧ Q .next l1 H1) : WS F (.Assert test msg pos) loc H Q := fun B s R =>
  wpAny_Assert_holds ((h B s R).then fun a B1 b l1 H1 s1 le1 ra R1 q => by subst ra; exact ⟨q.1, (Post.pure .next R1 q.2).lift le1⟩)

theorem set_own {B : Keep} {s : Shared} (R : FRel F B loc H s) {a : Addr} {S : (Str → Bool) × Nat} (e : H.S a = some S) : s.heap.SetOf (PySem.strKind F.c.prog F.c.w) a S.1 S.2 := (R.own a).s S e
theorem MGet_add {a : Addr} {S : (Str → Bool) × Nat} {Q : V → List V → Loc → Hp → Prop} (e : H.S a = some S) (q : Q (.raw (.builtin "set.add")) [.ref a] loc H) : MGet F "add" (.ref a) loc H Q :=
  MGet_slot PySem.F.plainAttrs_set PySem.F.slot_set_add PySem.F.type_set_add (fun B s v R r => by
    cases r
    have hS := set_own R e
    exact ⟨hS.typeIs, hS.noDict⟩) q
noncomputable def addS (S : (Str → Bool) × Nat) (k : Str) : (Str → Bool) × Nat := (fun x => S.1 x || decide (x = k), if S.1 k then S.2 else S.2 + 1)
theorem Call_add {a : Addr} {k : Str} {S : (Str → Bool) × Nat} {Q : V → Loc → Hp → Prop} (e : H.S a = some S) (eG : H.G a = none) (hz : S.2 ≤ 4000) (q : Q .none loc { H with S := up H.S a (addS S k) }) : Call F (.raw (.builtin "set.add")) [.ref a, .str k] loc H Q := fun B s v vs R rv rvs => by
  cases rv
  cases rvs with | cons ra r2 => ?_
  cases r2 with | cons rb r3 => ?_
  cases r3; cases ra; cases rb
  refine call_set_add (strKind_is _ _) rfl (set_own R e) (by unfold scanBound; omega) fun h' hsb hS' => ?_
  exact Post.pure .none (R.setS (s' := { s with heap := h', toks := s.toks + 1 }) (S' := addS S k) e eG (fun b o hb z => (hsb.2 b hb).trans z) hS' rfl rfl) q
end
end Lay
end
noncomputable section
open PySem PySem.W PyProof.Rows PySem.Calls
set_option Elab.async false
set_option maxRecDepth 100000
set_option linter.all false
namespace Lay
section
variable {F : Fx} {n : Nat} {loc : Loc} {H : Hp}

theorem WE_neg {x : Expr} {i : Int} {pos : Pos} {Q : V → Loc → Hp → Prop} (h : WE F x loc H fun X l1 H1 => X = .int i ∧ Q (.int (-i)) l1 H1) : WE F (.UnaryOp .USub x pos) loc H Q := fun B s R =>
  UnaryOp_ ((h B s R).then fun a B1 X l1 H1 s1 le1 ra R1 ⟨hX, q⟩ => by
    subst hX
    cases ra
    exact PySem.P.neg_int ((Post.pure (.int _ _) (R1.tok _) q).lift le1))

end
end Lay
end
noncomputable section
open PySem PySem.W PyProof.Rows PySem.Calls
set_option Elab.async false
set_option maxRecDepth 100000
set_option linter.all false
namespace Lay
section
variable {prog : Program} {w : World} {A : Around} {E : Value → Shared → Prop} {s : Shared}
theorem keep_front {α : Type} (f : Nat → Bool) (m : Nat) : ∀ (xs : List α) (i : Nat), (∀ k, i ≤ k → k < i + xs.length → f k = decide (m ≤ k)) →
    (xs.zipIdx i).filterMap (fun p => if f p.2 = true then none else some p.1) = xs.take (m - i)
  | [], i, _ => by simp
  | x :: xs, i, h => by
    rw [List.zipIdx_cons, List.filterMap_cons]
    have h0 := h i (Nat.le_refl _) (by simp)
    have ih := keep_front f m xs (i + 1) (fun k h1 h2 => h k (Nat.le_of_succ_le h1) (by simp only [List.length_cons]; omega))
    by_cases e : m ≤ i
    · simp only [h0, e, decide_true, if_true]
      rw [ih, show m - (i + 1) = 0 by omega, show m - i = 0 by omega]
      simp
    · simp only [h0, e, decide_false, Bool.false_eq_true, if_false]
      rw [ih, show m - i = (m - (i + 1)) + 1 by omega, List.take_succ_cons]
theorem delItem_tail {l sl : Addr} {items : Array Value} {n k : Nat} {u : Tok} {Q : Unit → Shared → Prop} (hl : IsL s.heap l items n) (hs : s.heap.IsSliceOf sl (.int (-(k : Int)) u) .none .none) (h1 : 1 ≤ k) (hk : k ≤ items.size) (hsz : items.size ≤ 1000)
    (h : ∀ h' n', IsL h' l (items.toList.take (items.size - k)).toArray n' → Heap.SameBut l s.heap h' → Q () { s with heap := h' }) : wpAny (model prog w) A (delItem (.ref l) (.ref sl)) Q E s := by
  obtain ⟨os, hos, hcs, hds⟩ := id hs
  have hTs : s.TypeIs (.ref sl) "slice" := ⟨os, hos, hcs⟩
  have hT : s.TypeIs (.ref l) "list" := ⟨_, hl, rfl⟩
  refine wpAny_delItem_slot hT (by decide) PySem.F.slot_list_delitem (wpAny_call_entry PySem.F.slot_list_delitem hT PySem.F.entry_list_delitem ?_ (PySem.F.args_list_delitem_2 _ _))
  show wpAny _ _ (Builtin.List.listSubscript? (.ref sl) >>= _) _ _ s
  refine wpAny_bind ?_
  unfold Builtin.List.listSubscript?
  refine wpAny_bind (wpAny_specialOf hTs slice_no_index ?_)
  simp only [Option.isNone_none, if_true]
  refine wpAny_pure ?_
  show wpAny _ _ (typeOf (.ref sl) >>= _) _ _ s
  refine wpAny_bind (wpAny_typeOf hTs ?_)
  rw [if_neg (by decide)]
  rw [listSliceParts_eq]
  refine wpAny_bind (wpAny_bind (wpAny_field hos hds (x := .none) rfl (wpAny_bind (wpAny_listPart .none ?_))))
  rw [if_neg (show ¬ ((rawPart none == rawInt 0) = true) from Bool.false_ne_true)]
  refine wpAny_bind (wpAny_field hos hds (x := .int (-(k : Int)) u) rfl (wpAny_bind (wpAny_listPart (.int _ _) ?_)))
  refine wpAny_bind (wpAny_field hos hds (x := .none) rfl (wpAny_bind (wpAny_listPart .none (wpAny_pure ?_))))
  refine wpAny_bind (listItems_at hl rfl ?_)
  refine wpAny_bind (wpAny_of_eq (sliceIndices_raw (some (-(k : Int))) none none items.size (by simp)) ?_)
  have e : sliceBounds (some (-(k : Int))) none none items.size = (((items.size - k : Nat) : Int), (items.size : Int), 1) := by
    simp only [sliceBounds, Option.getD_none, show (1 : Int) > 0 by decide, if_true]
    rw [if_pos (by omega)]
    congr 1
    omega
  rw [e]
  refine wpAny_bind (wpAny_rule ?_)
  have hf : ∀ f : Nat → Bool, (∀ j, f j = (if (1 : Int) > 0 then (decide (((items.size - k : Nat) : Int) ≤ (j : Int)) && decide ((j : Int) < (items.size : Int)) && (((j : Int) - ((items.size - k : Nat) : Int)) % 1 == 0)) else false)) →
      (items.toList.zipIdx.filterMap fun p => if f p.2 = true then none else some p.1) = items.toList.take (items.size - k) := by
    intro f hf
    rw [keep_front f (items.size - k) items.toList 0 (fun j _ hj => ?_)]
    · rfl
    · rw [hf j, if_pos (by decide)]
      rw [Array.length_toList] at hj
      have h2 : decide ((j : Int) < (items.size : Int)) = true := decide_eq_true (by omega)
      have h3 : (((j : Int) - ((items.size - k : Nat) : Int)) % 1 == 0) = true := by simp
      rw [h2, h3, Bool.and_true, Bool.and_true]
      exact decide_eq_decide.mpr (by omega)
  refine wpAny_bind (listUpdate_at hl rfl ?_ (by rw [sizeLine_eq]; omega) ?_)
  · refine wpAny_bind (wpAny_letGo ?_)
    refine wpAny_pure ⟨_, rfl, h _ (if ((items.toList.take (items.size - k)).toArray.size == items.size) = true then n else n + 1) ?_ (Heap.SameBut.update ..)⟩
    refine (IsL.update (n := n) hl _).trans ?_
    have := hf _ (fun j => rfl)
    exact congrArg (fun x : List Value => some (lstObj x.toArray (if (x.toArray.size == items.size) = true then n else n + 1))) this
  · have := hf _ (fun j => rfl)
    refine Nat.le_trans (Nat.le_of_eq (congrArg (fun x : List Value => x.toArray.size) this)) ?_
    rw [List.size_toArray, List.length_take, sizeLine_eq, Array.length_toList]; omega
end
end Lay
end
noncomputable section
open PySem PySem.W PyProof.Rows PySem.Calls
set_option Elab.async false
set_option maxRecDepth 100000
set_option linter.all false
namespace Lay
section
variable {F : Fx} {n : Nat} {loc : Loc} {H : Hp}

theorem list_own {B : Keep} {s : Shared} (R : FRel F B loc H s) {a : Addr} {xs : List V} (e : H.L a = some xs) : ∃ items m, IsL s.heap a items m ∧ RelVs B items.toList xs := (R.own a).l xs e
theorem WS_DelTail {o lo : Expr} {sp p pos : Pos} {k : Nat} {Q : Fl → Loc → Hp → Prop} (h1 : 1 ≤ k) (h : WE F o loc H fun O l1 H1 => ∃ a, O = .ref a ∧ WE F lo l1 H1 fun I l2 H2 => I = .int (-(k : Int)) ∧ ∃ xs, H2.L a = some xs ∧ k ≤ xs.length ∧ xs.length ≤ 1000 ∧ Q .next l2 { H2 with L := up H2.L a (xs.take (xs.length - k)) }) :
    WS F (.Delete [.Subscript o (.Slice (some lo) none none sp) p] pos) loc H Q := fun B s R => by
  refine wpAny_Delete (wpAny_deleteEach_cons (wpAny_delete_Subscript ((h B s R).then fun ov B1 O l1 H1 s1 le1 ro R1 ⟨a, hO, h2⟩ => ?_)))
  subst hO
  cases ro
  refine wpAny_Slice ?_
  rw [evalPart_some]
  refine (h2 B1 s1 R1).then fun iv B2 I l2 H2 s2 le2 ri R2 ⟨hI, xs, e, hk, hz, q⟩ => ?_
  subst hI
  cases ri with | int _ t => ?_
  rw [evalPart_none]
  refine wpAny_pure (wpAny_pure ?_)
  obtain ⟨items, m, hl, hr⟩ := list_own R2 e
  have hlen := hr.length
  rw [Array.length_toList] at hlen
  have R3 : FRel F B2 l2 H2 { s2 with heap := s2.heap.push { cls := .type "slice", data := .fields #[.int (-(k : Int)) t, .none, .none] } } := R2.grow (fun b o e => Heap.get?_push_of_some _ e) rfl rfl
  refine delItem_tail (s := { s2 with heap := s2.heap.push { cls := .type "slice", data := .fields #[.int (-(k : Int)) t, .none, .none] } }) (IsL.push (n := m) hl _) (Heap.IsSliceOf.new ..) h1 (by rw [hlen]; exact hk) (by rw [hlen]; exact hz) fun h' n' hl' hs => ?_
  refine wpAny_deleteEach_nil ?_
  refine (Post.pure .next (R3.setL (s' := { s2 with heap := h' }) e (fun b o hb z => (hs.2 b hb).trans z) hl' ?_ rfl rfl) q).lift (le1.trans le2)
  rw [hlen]
  simpa using hr.take (xs.length - k)
theorem setItem_own {M : Program} {w : World} {A : Around} {E : Value → Shared → Prop} {s : Shared} {l : Addr} {items : Array Value} {m : Nat} {k : Int} {t : Tok} {v : Value} {Q : Unit → Shared → Prop} (hl : IsL s.heap l items m) (h0 : 0 ≤ k) (hi : k < items.size) (hz : items.size ≤ 100000)
    (h : ∀ h', IsL h' l (items.setIfInBounds k.toNat v) m → Heap.SameBut l s.heap h' → Q () { s with heap := h' }) : wpAny (model M w) A (setItem (.ref l) (.int k t) v) Q E s := by
  have hT : s.TypeIs (.ref l) "list" := ⟨_, hl, rfl⟩
  have hfit : k < 2 ^ 63 := by omega
  clear hz
  unfold setItem
  try with_reducible refine wpAny_holding ?_
  refine wpAny_bind (wpAny_sequenceKey hT (by decide) ?_)
  refine wpAny_bind (wpAny_callSpecial?_slot (name := Str.ofString "__setitem__") hT slot_list_setitem
    (wpAny_call_entry slot_list_setitem hT entry_list_setitem ?_ (args_list_setitem _ _ _)))
  show wpAny _ _ (Builtin.List.listSubscript? (.int k t) >>= _) _ _ s
  refine wpAny_bind (wpAny_listSubscript_int (fitsIndex_of h0 hfit) ?_)
  clear hfit
  obtain ⟨j, rfl⟩ := Int.eq_ofNat_of_zero_le h0
  have hj : j < items.size := by omega
  have hx' : items[j]? = some items[j] := Array.getElem?_eq_getElem hj
  show wpAny _ _ ((seqItemAt l j >>= fun r => pure (r.map (j, ·))) >>= _) _ _ s
  refine wpAny_bind (wpAny_bind (wpAny_seqItemAt hl rfl (wpAny_pure ?_)))
  rw [hx']
  show wpAny _ _ (setSeqItemAt l j v >>= _) _ _ s
  refine wpAny_bind (wpAny_setSeqItemAt hl rfl ?_)
  refine wpAny_pure ⟨.none, rfl, wpAny_pure (h _ ?_ (Heap.SameBut.update ..))⟩
  have := IsL.update (n := m) hl (·.setIfInBounds j v)
  rwa [if_pos (by simp)] at this
theorem Set_list {a : Addr} {xs : List V} {i : Nat} {Z : V} {Q : Loc → Hp → Prop} (e : H.L a = some xs) (hi : i < xs.length) (hz : xs.length ≤ 100000) (q : Q loc { H with L := up H.L a (xs.set i Z) }) : Set_ F (.ref a) (.int i) Z loc H Q := fun B s o j v R ro rj rv => by
  cases ro; cases rj
  obtain ⟨items, m, hl, hr⟩ := list_own R e
  have hlen := hr.length
  rw [Array.length_toList] at hlen
  refine setItem_own hl (by omega) (by omega) (by omega) fun h' hl' hs => ?_
  exact Post.pure (b := ()) trivial (R.setL (s' := { s with heap := h' }) e (fun b o hb z => (hs.2 b hb).trans z) hl' (by rw [Array.toList_setIfInBounds]; exact hr.set i rv) rfl rfl) q

noncomputable def CallK (F : Fx) (f : V) (Xs : List V) (kws : List Str) (Ws : List V) (loc : Loc) (H : Hp) (Q : V → Loc → Hp → Prop) : Prop :=
  ∀ B s v vs ws, FRel F B loc H s → RelV B v f → RelVs B vs Xs → RelVs B ws Ws → PW F (call v vs (kws.zip ws)) RelV B s Q
theorem WE_CallN1K {x k : Str} {np pos kp : Pos} {a kv : Expr} {args : List Expr} {Q : V → Loc → Hp → Prop}
    (h : WE F (.Name x np) loc H fun f l1 H1 => ∃ g, f = .ref g ∧ WEs F pos (a :: args) l1 H1 fun Xs l2 H2 => WE F kv l2 H2 fun W l3 H3 => KeepOk F f l3 H3 ∧ CallK F f Xs [k] [W] l3 H3 Q)
    (hs : starEach (a :: args) F.env = (false, eval a F.env) :: starEach args F.env := by rfl) (hns : (backTo pos (starEach (a :: args) F.env)).any (·.1) = false := by rfl) : WE F (.Call (.Name x np) (a :: args) [⟨some k, kv, kp⟩] pos) loc H Q := fun B s R =>
  wpAny_Call_ofName ((h B s R).then fun f B1 X l1 H1 s1 le1 rf R1 ⟨g, hg, h1⟩ => by
    subst hg
    cases rf
    unfold callWith
    have core : wpAny F.M F.A (evalArgs (.ref g) true (backTo pos (starEach (a :: args) F.env)) (backToKw pos (keywordEach [⟨some k, kv, kp⟩] F.env))) (fun a s₁ => (∃ kk, ∀ Q' : Keeper → Shared → Prop, Q' kk s₁ → wpAny F.M F.A (keeperOf (.ref g)) Q' F.E s₁) ∧ wpAny F.M F.A (call (.ref g) ([] ++ a.pos) a.kw) (Post F RelV B Q) F.E s₁) F.E s1 := by
      refine evalArgs_kw2 (by rfl) ((h1 B1 s1 R1).then fun vs B2 Xs l2 H2 s2 le2 rv R2 h2 => ?_) hs
      refine kwAll_cons ((h2 B2 s2 R2).then fun wv B3 W l3 H3 s3 le3 rw R3 h3 => kwAll_nil ?_)
      exact ⟨h3.1 B3 s3 _ R3 (.ref _), (h3.2 B3 s3 _ vs [wv] R3 (.ref _) (rv.mono le3) (.cons rw .nil)).lift (le1.trans (le2.trans le3))⟩
    refine wpAny_bind (wpAny_holding (wpAny_mono core (fun x s₁ h₁ => wpAny_bind (wpAny_standAt ?_)) fun _ _ x => x))
    obtain ⟨⟨kk, hk⟩, hc⟩ := h₁
    have tail : ∀ {t : Sem Value}, wpAny F.M F.A t (Post F RelV B Q) F.E s₁ → wpAny F.M F.A (t >>= fun r => holding [r] point >>= fun _ => pure r) (Post F RelV B Q) F.E s₁ :=
      fun ht => wpAny_bind (wpAny_mono ht (fun r s₂ hr => wpAny_bind (wpAny_holding (wpAny_point (wpAny_pure hr)))) fun _ _ x => x)
    have hkw : (backToKw pos (keywordEach [⟨some k, kv, kp⟩] F.env)).any (·.1.isNone) = false := by rfl
    simp only [hns, hkw, Bool.or_false]
    refine wpAny_bind (m := keeperOf _) (hk _ ?_)
    cases kk
    · dsimp only
      split
      · exact tail hc
      · exact tail (Calls.wpAny_keep hc)
    · dsimp only
      split
      · exact tail hc
      · exact tail (Calls.wpAny_keep hc)
    · exact tail hc
    · exact tail (wpAny_operating hc))
theorem CallK_cls (ok : Ok F (n + 1)) {K : Frag} (hK : K.In F.c.base) {C fI : Addr} {Xs Ws : List V} {kws : List Str} {Q : V → Loc → Hp → Prop} (hm : makesIn K C = true) (hi : findIn K (.ref C) "__init__" = some (some (.ref fI))) (hf : typeIn K (.ref fI) = some (.type "function"))
    (h : ∀ A' x d, Ok { F with A := A' } n → H.Fresh x → H.Fresh d → d < x → CCall { F with A := A' } fI (.ref x :: Xs) kws Ws loc { H with I := up H.I x (C, d), D := up H.D d [] } fun X l H' => X = .none ∧ Q (.ref x) l H') : CallK F (.ref C) Xs kws Ws loc H Q := fun B s v vs ws R rv rvs rws => by
  cases rv
  obtain ⟨hh, g, dr, t, os⟩ := s
  have X : K.In hh := fun a o e => R.inBase (hK a o e)
  have Y : Makes F.M hh C := makes_of X hm
  refine wpAny_call (make_core (rest := vs) (kw := kws.zip ws) Y (looks_findIn X hi) (fun self => bind_fn X self hf) (.inl (by simp)) ?_)
  have R1 : FRel F B loc { H with D := up H.D hh.objs.size [] } ⟨hh.push emptyDict, g, dr, t, os⟩ :=
    R.newD (s' := ⟨hh.push emptyDict, g, dr, t, os⟩) (a := hh.objs.size) (cs := []) (Nat.le_refl _) (fun b o e => Heap.get?_push_of_some _ e) (fun p hp => nomatch hp) ⟨_, #[], 0, Heap.get?_push_size _ rfl, ⟨rfl, rfl, rfl⟩, rfl, fun _ he => by simp at he, .nil, List.nodup_nil⟩ .nil rfl rfl
  have R2 : FRel F B loc { H with I := up H.I (hh.objs.size + 1) (C, hh.objs.size), D := up H.D hh.objs.size [] } ⟨(hh.push emptyDict).push (instObj C hh.objs.size), g, dr, t, os⟩ :=
    R1.newI (s' := ⟨(hh.push emptyDict).push (instObj C hh.objs.size), g, dr, t, os⟩) (a := hh.objs.size + 1) (Cd' := (C, hh.objs.size)) (by show (hh.push emptyDict).objs.size ≤ _; rw [Heap.size_push]; exact Nat.le_refl _) (fun b o e => Heap.get?_push_of_some _ e) (by
      have := Heap.get?_push_size (hh.push emptyDict) (o := instObj C hh.objs.size) rfl
      rw [Heap.size_push] at this; exact this) rfl rfl
  refine h _ (hh.objs.size + 1) hh.objs.size ok.underC (R.fresh_H (R.fresh (Nat.le_succ _)).1) (R.fresh_H (R.fresh (Nat.le_refl _)).1) (Nat.lt_succ_self _) B _ (.ref (hh.objs.size + 1) :: vs) ws _ R2 (.cons (.ref _) rvs) rws ?_
  intro v s' p
  obtain ⟨B', b, l', H', le, r, R', rfl, q⟩ := p
  cases r
  exact ⟨rfl, B', _, l', H', le, .ref _, R', q⟩
end
end Lay
namespace Lay
section
variable {F : Fx} {loc : Loc} {H : Hp}
theorem CallK_frz {f : V} {Xs Ws : List V} {kws : List Str} {Q : V → Loc → Hp → Prop} (h : CallK F f Xs kws Ws loc H fun X l H => ∃ X' H', Frz X H X' H' ∧ Q X' l H') : CallK F f Xs kws Ws loc H Q := fun B s v vs ws R r rs rw => wpAny_mono (h B s v vs ws R r rs rw) (fun _ _ p => p.frz) fun _ _ x => x
end
variable {B : Keep} {vs : List Value} {M : List Value → Prop}
theorem RelVs.e4 {X Y Z T : V} (r : RelVs B vs [X, Y, Z, T]) (h : ∀ v w u t, RelV B v X → RelV B w Y → RelV B u Z → RelV B t T → M [v, w, u, t]) : M vs := r.ec fun _ _ a r => r.e3 (M := fun l => M (_ :: l)) fun _ _ _ b c d => h _ _ _ _ a b c d
end Lay
end
noncomputable section
open PySem PySem.W PyProof.Rows PySem.Calls
set_option Elab.async false
set_option maxRecDepth 100000
set_option linter.all false
namespace Lay
section
variable {F : Fx} {n : Nat} {loc : Loc} {H : Hp}

end
end Lay
end
noncomputable section
open PySem PySem.W PyProof.Rows PySem.Calls
set_option Elab.async false
set_option maxRecDepth 100000
set_option linter.all false
namespace Lay
section
variable {c : Base} {L : Addr} {nm : List (Str × NameKind)} {B : Keep} {loc : Loc} {H : Hp} {s : Shared}
end
section
variable {F : Fx} {n : Nat} {loc : Loc} {H : Hp} {nm : List (Str × NameKind)} {cl : List (Str × Addr)}
theorem Ok.svd (ok : Ok F n) {l : List (Addr × Obj)} (h : ∀ p ∈ F.c.saved, (∃ es ep, p.2.data = .dict es ep) → p ∈ l) : Ok (F.svd l) n :=
  ⟨ok.fn, ok.glob, ok.bi, ok.dbg, ok.units, ok.depth, ok.handled, by
    obtain ⟨fl, h1, h2⟩ := ok.fr
    refine ⟨fl, h1, fun e he => ?_⟩
    obtain ⟨g1, g2⟩ := h2 e he
    refine ⟨g1, ?_⟩
    rcases g2 with g2 | ⟨p, hp, g2, g3⟩
    · exact .inl g2
    · exact .inr ⟨p, h p hp g3, g2, g3⟩⟩
end
end Lay
end
noncomputable section
open PySem PySem.W PyProof.Rows PySem.Calls
set_option Elab.async false
set_option maxRecDepth 100000
set_option linter.all false
namespace Lay
section
variable {F : Fx} {n : Nat} {loc : Loc} {H : Hp} {sv' : List (Addr × Obj)}
end
end Lay
end
noncomputable section
open PySem PySem.W PyProof.Rows PySem.Calls
set_option Elab.async false
set_option maxRecDepth 100000
set_option linter.all false
namespace Lay
section
variable {prog : Program} {w : World} {A : Around} {E : Value → Shared → Prop} {s : Shared} {a₀ : Array Keyed} {kf : Value → List Nat}
end
end Lay
end
noncomputable section
open PySem PySem.W PyProof.Rows PySem.Calls
set_option Elab.async false
set_option maxRecDepth 100000
set_option linter.all false
namespace Lay
section
variable {prog : Program} {w : World} {A : Around} {E : Value → Shared → Prop} {s : Shared} {a₀ : Array Keyed} {kf : Value → List Nat}
end
end Lay
end
noncomputable section
open PySem PySem.W PyProof.Rows PySem.Calls
set_option Elab.async false
set_option maxRecDepth 100000
set_option linter.all false
namespace Lay
section
variable {prog : Program} {w : World} {A : Around} {E : Value → Shared → Prop} {s : Shared}
end
end Lay
end
noncomputable section
open PySem PySem.W PyProof.Rows PySem.Calls
set_option Elab.async false
set_option maxRecDepth 100000
set_option linter.all false
namespace Lay
open Classical in
section
variable {prog : Program} {w : World} {A : Around} {E : Value → Shared → Prop} {s : Shared}
end
end Lay
end
noncomputable section
open PySem PySem.W PyProof.Rows PySem.Calls
set_option Elab.async false
set_option maxRecDepth 100000
set_option linter.all false
namespace Lay
section
variable {prog : Program} {w : World} {A : Around} {E : Value → Shared → Prop} {s : Shared}
end
section
variable {F : Fx} {n : Nat} {loc : Loc} {H : Hp}
end
end Lay
end
noncomputable section
open PySem PySem.W PyProof.Rows PySem.Calls
set_option Elab.async false
set_option maxRecDepth 100000
set_option linter.all false
namespace Lay
variable {cg cr : Addr} {H : Hp} {g : GA} {t : GT}
theorem GrOk.setS (h : GrOk cg cr H g t) (S : (Str → Bool) × Nat) : GrOk cg cr { H with S := up H.S g.ups S } g { t with ups := S } :=
  ⟨h.I, h.fs, h.nI, h.nD, h.al, h.ps, h.pm, h.tT.keep rfl (fun _ _ => rfl), h.tN.keep rfl (fun _ _ => rfl), h.tR.keep rfl (fun _ _ => rfl), h.fst, h.fol, h.pr, up_self _ _ _, h.gn, h.nd, h.na, h.kT, h.kN, h.kR⟩
theorem GrOk.pr_ne (h : GrOk cg cr H g t) : ∀ a ∈ [g.d, g.nd, g.al, g.pn, g.ts, g.nts, g.fst, g.fol], a ≠ g.pr := by
  have := h.nd
  unfold GA.dicts at this
  rw [show [g.d, g.nd, g.al, g.pn, g.ts, g.nts, g.fst, g.fol, g.pr] = [g.d, g.nd, g.al, g.pn, g.ts, g.nts, g.fst, g.fol] ++ [g.pr] from rfl, List.nodup_append] at this
  exact fun a ha => this.2.2 a ha _ (List.mem_singleton.mpr rfl)
theorem GrOk.setPr (h : GrOk cg cr H g t) (pr : List (Str × V)) : GrOk cg cr { H with D := up H.D g.pr pr } g { t with pr := pr } := by
  have ne := h.pr_ne
  have k : ∀ a ∈ [g.d, g.nd, g.al, g.pn, g.ts, g.nts, g.fst, g.fol], up H.D g.pr pr a = H.D a := fun a ha => up_ne (ne a ha)
  obtain ⟨fs, f1, f2⟩ := h.fs
  obtain ⟨ns, n1, n2⟩ := h.nD
  exact ⟨h.I, ⟨fs, (k _ (by simp)).trans f1, f2⟩, h.nI, ⟨ns, (k _ (by simp)).trans n1, n2⟩, (k _ (by simp)).trans h.al, h.ps, h.pm, h.tT.keep (k _ (by simp)) (fun _ _ => rfl), h.tN.keep (k _ (by simp)) (fun _ _ => rfl), h.tR.keep (k _ (by simp)) (fun _ _ => rfl),
    (k _ (by simp)).trans h.fst, (k _ (by simp)).trans h.fol, up_self _ _ _, h.ups, h.gn, h.nd, h.na, h.kT, h.kN, h.kR⟩
theorem GrOk.d_ne (h : GrOk cg cr H g t) : ∀ a ∈ [g.nd, g.al, g.pn, g.ts, g.nts, g.fst, g.fol, g.pr], a ≠ g.d := by
  have := h.nd
  unfold GA.dicts at this
  rw [List.nodup_cons] at this
  exact fun a ha z => this.1 (z ▸ ha)
theorem GrOk.setStart (h : GrOk cg cr H g t) {fs fs' : List (Str × V)} {s : V} (e : H.D g.d = some fs) (hf : Fld fs g t.start) (p : Put fs "Start" s fs') (hl : fs'.length ≤ 20) : GrOk cg cr { H with D := up H.D g.d fs' } g { t with start := s } := by
  have k : ∀ a ∈ [g.nd, g.al, g.pn, g.ts, g.nts, g.fst, g.fol, g.pr], up H.D g.d fs' a = H.D a := fun a ha => up_ne (h.d_ne a ha)
  obtain ⟨ns, n1, n2⟩ := h.nD
  exact ⟨h.I, ⟨fs', up_self _ _ _, ⟨hl, p.old hf.names, p.old hf.prods, p.old hf.pn, p.old hf.pm, p.old hf.ts, p.old hf.nts, p.old hf.fst, p.old hf.fol, p.old hf.pr, p.old hf.ups, p.here, fun x hx => (p.there x (fun z => hx (by rw [z]; decide))).trans (hf.no x hx)⟩⟩, h.nI, ⟨ns, (k _ (by simp)).trans n1, n2⟩, (k _ (by simp)).trans h.al, h.ps, h.pm,
    h.tT.keep (k _ (by simp)) (fun _ _ => rfl), h.tN.keep (k _ (by simp)) (fun _ _ => rfl), h.tR.keep (k _ (by simp)) (fun _ _ => rfl), (k _ (by simp)).trans h.fst, (k _ (by simp)).trans h.fol, (k _ (by simp)).trans h.pr, h.ups, h.gn, h.nd, h.na, h.kT, h.kN, h.kR⟩
theorem GrOk.upL (h : GrOk cg cr H g t) {a : Addr} (hf : H.Fresh a) (xs : List V) : GrOk cg cr { H with L := up H.L a xs } g t :=
  h.keep (fun b hb => up_ne (fun z => h.freshL hf (z ▸ hb))) (fun _ _ => rfl) rfl rfl rfl rfl h.gn
theorem dput_len {fs : List (Str × V)} {k : Str} {x y : V} (h : dget fs k = some y) : (dput fs k x).length = fs.length := by
  unfold dput
  rw [if_pos, List.length_map]
  unfold dget at h
  cases e : fs.find? (fun kv => kv.1 = k) with
  | none => rw [e] at h; cases h
  | some p => exact List.any_eq_true.mpr ⟨p, List.mem_of_find?_eq_some e, List.find?_some (p := fun kv : Str × V => decide (kv.1 = k)) e⟩
theorem GrOk.upD (h : GrOk cg cr H g t) {a : Addr} (hf : H.Fresh a) (xs : List (Str × V)) : GrOk cg cr { H with D := up H.D a xs } g t :=
  h.keep (fun _ _ => rfl) (fun b hb => up_ne (fun z => h.freshD hf (z ▸ hb))) rfl rfl rfl rfl h.gn
end Lay
end
noncomputable section
open PySem PySem.W PyProof.Rows PySem.Calls
set_option Elab.async false
set_option maxRecDepth 100000
set_option linter.all false
namespace Lay
variable {F : Fx} {n : Nat} {loc : Loc} {H : Hp}
end Lay
end
noncomputable section
open PySem PySem.W PyProof.Rows PySem.Calls
set_option Elab.async false
set_option maxRecDepth 100000
set_option linter.all false
namespace Lay
section
variable {F : Fx} {n : Nat} {loc : Loc} {H : Hp} {sv' : List (Addr × Obj)}
section
variable {L : Nat} {os : List (Option V)}
theorem CellAt.here {c : Addr} {o o' : Option V} (h : CellAt H c o) : CellAt { H with C := up H.C c o' } c o' := ⟨up_self _ _ _, h.L, h.D, h.P, h.S⟩
theorem CellAt.upL {c a : Addr} {o : Option V} {xs : List V} (h : CellAt H c o) (hn : c ≠ a) : CellAt { H with L := up H.L a xs } c o := ⟨h.C, (up_ne hn).trans h.L, h.D, h.P, h.S⟩
end
end
section
variable {F : Fx} {n : Nat} {loc : Loc} {H : Hp}
theorem ns_saved {c : Base} {L C : Addr} {nm : List (Str × NameKind)} {B B' : Keep} {loc : Loc} {H : Hp} {s s' : Shared} {oC : Obj} {sv : List (Addr × Obj)} (R : Rel (c.sv ((C, oC) :: sv)) L nm B loc H s) (h : ∃ m, s.heap.Ns C m) {L' nm' loc' H'} (R' : Rel (c.sv ((C, oC) :: sv)) L' nm' B' loc' H' s') : ∃ m, s'.heap.Ns C m := by
  obtain ⟨m, o, es, ep, h1, h2, h3⟩ := h
  obtain ⟨⟨o1, g1, g2⟩, _⟩ := R.sv _ (.head _)
  rw [h1] at g1; cases g1
  obtain ⟨⟨o3, k1, k2⟩, _⟩ := R'.sv _ (.head _)
  have e1 : oC.data = .dict es ep := by
    rcases g2 with z | ⟨_, ps, z⟩
    · exact z.1.symm.trans h2
    · subst z; cases h2
  exact ⟨m, o3, es, ep, k1, (k2.dict e1).trans e1, h3⟩
theorem WS_AssignComp (ok : Ok F n) {elt target iter : Expr} {ifs : List Expr} {scope : Scope} {pos p spos : Pos} {y : Str} {i : Nat} {Q : Fl → Loc → Hp → Prop} (cl : List (Str × Addr)) (hifs : ifs = [] ∨ ∃ c, ifs = [c]) (hy : look F.nm y = some (i, .local))
    (hsw : swapsWith (.ListComp elt [⟨target, iter, ifs, 0⟩] scope pos) (some (.Name y p)) spos.line F.env = pure true)
    (hclos : closureFor scope F.env = pure cl) (hcell : ∀ y ∈ scope.names, y.2 ≠ .cell) (hkind : scope.kind = .function) (hdbg : (relabel scope F.env).names.lookup ("__debug__" : Str) = none) (hnames : ∀ y ∈ scope.names, y.2 = .local → scope.names.lookup y.1 = some .local)
    (h : WIt F iter loc H fun St l H1 => ∃ xs f, CompOk F n target elt ifs scope cl St xs f H1 ∧ Q .next (l.set i (some (.list (xs.filterMap f)))) H1)
    (hs : ∀ x, foldedSetIterable iter F.env x = pure x := by intro _; rfl) : WS F (.Assign [.Name y p] (.ListComp elt [⟨target, iter, ifs, 0⟩] scope pos) spos) loc H Q := fun B s R => by
  show wpAny F.M F.A (exec (.Assign [.Name y p] (.ListComp elt [⟨target, iter, ifs, 0⟩] scope pos) spos) F.env) _ _ _
  rw [exec_Assign_Name_used _ _ _ _ hsw]
  refine wpAny_bind (wpAny_standAt (wpAny_bind ?_))
  show wpAny _ F.A (do let _ ← comprehension (.ListComp elt [⟨target, iter, ifs, 0⟩] scope pos) scope F.env _ (newList []) false (eval iter F.env) (some (assign (.Name y p) F.env))) _ _ s
  refine wpAny_bind (wpAny_mono (wpAny_comprehension_free (use := some (assign (.Name y p) F.env)) (Q := fun _ s' => Post F RelF B Q .next s') rfl hs hclos hkind hnames
    (wpAny_mono (h B s R) (fun xv s₁ h₁ => wpAny_mono h₁ (fun it s₂ h₂ => ?_) fun _ _ e => e) fun _ _ e => e)) (fun _ s' hq => wpAny_pure (wpAny_pure hq)) fun _ _ e => e)
  obtain ⟨B', a, l, H', St, rfl, le, R', st, xs, f, K, q⟩ := h₂
  refine comp_core ok hifs hcell hkind hdbg K R' le st (RR := fun acc C => compPost F.M F.A F.E (some (assign (.Name y p) F.env)) (fun _ s' => Post F RelF B Q .next s') acc C) fun D C oC s' B2 le2 R2 hn hC r => ?_
  have okS : Ok (F.svd ((C, oC) :: F.c.saved)) n := ok.svd fun p hp _ => .tail _ hp
  have hw := WA_local (F := F.svd ((C, oC) :: F.c.saved)) okS (p := p) (X := .list (xs.filterMap f)) (loc := l) (H := H') (Q := fun l2 H2 => l2 = l.set i (some (.list (xs.filterMap f))) ∧ H2 = H') hy ⟨rfl, rfl⟩
  refine wpAny_mono (hw B2 s' _ R2 r) (fun _ s3 ⟨B3, _, l3, H3, le3, _, R3, e1, e2⟩ => ?_) fun _ _ e => e
  subst e1; subst e2
  obtain ⟨m3, hn3⟩ := ns_saved R2 hn R3
  exact ⟨m3, hn3, fun h' hs' => ⟨B3, _, _, H3, le2.trans le3, .next, (R3.unsave (s' := { s3 with heap := h' }) hC (fun b o hb e => hs'.extBut b o hb e) rfl rfl : Rel (F.c.sv F.c.saved) F.L F.nm B3 _ H3 _), q⟩⟩
theorem swY (ok : Ok F n) {nm : List (Str × NameKind)} {cl : List (Str × Addr)} (hF : FrameIs F nm cl) {x : Str} {i : Nat} (hx : look nm x = some (i, .local)) {elt : Expr} {gs : List Comprehension} {scope : Scope} {pos p : Pos} {line : Nat}
    (h1 : (p.line == pos.line) = true) (h2 : (scope.names.any fun y => y.1 == x && (y.2 == .local || y.2 == .cell)) = false) :
    swapsWith (.ListComp elt gs scope pos) (some (.Name x p)) line F.env = pure true := by
  have e := kindK hF hx
  show (pure (F.env.blockKind == .function && F.env.kindOf x == some .local && (p.line == pos.line) && !(scope.names.any fun y => y.1 == x && (y.2 == .local || y.2 == .cell))) : Sem Bool) = pure true
  rw [e, h1, h2, show F.env.blockKind = .function by unfold Env.blockKind; rw [ok.fn]; rfl]; rfl
theorem WE_addF {l r : Expr} {pos : Pos} {Q : V → Loc → Hp → Prop} (h : WE F l loc H fun X l1 H1 => WE F r l1 H1 fun Y l2 H2 => ∃ xs ys, asL H2 X = some xs ∧ asL H2 Y = some ys ∧ xs.length + ys.length ≤ 1000000 ∧ Q (.list (xs ++ ys)) l2 H2) : WE F (.BinOp l .Add r pos) loc H Q :=
  WE_frz (WE_BinOp (h.mono fun X l1 H1 h2 => h2.mono fun Y l2 H2 ⟨xs, ys, ex, ey, hz, q⟩ => Op_addL ex ey hz fun a ha => frzNew ha q))
end
end Lay
end
noncomputable section
open PySem PySem.W PyProof.Rows PySem.Calls
set_option Elab.async false
set_option maxRecDepth 100000
set_option linter.all false
namespace Lay
section
variable {F : Fx} {n : Nat} {loc : Loc} {H : Hp} {nm : List (Str × NameKind)} {cl : List (Str × Addr)}
noncomputable def Ev (F : Fx) (e : Expr) (loc : Loc) (H : Hp) (X : V) : Prop := ∀ ⦃Q : V → Loc → Hp → Prop⦄, Q X loc H → WE F e loc H Q
noncomputable def Evs (F : Fx) (pos : Pos) (es : List Expr) (loc : Loc) (H : Hp) (Xs : List V) : Prop := ∀ ⦃Q : List V → Loc → Hp → Prop⦄, Q Xs loc H → WEs F pos es loc H Q
noncomputable def EvB (F : Fx) (e : Expr) (loc : Loc) (H : Hp) (b : Bool) : Prop := ∀ ⦃Q : Bool → Loc → Hp → Prop⦄, Q b loc H → WB F e loc H Q
noncomputable def EvC (F : Fx) (f : V) (Xs : List V) (loc : Loc) (H : Hp) (X : V) : Prop := ∀ ⦃Q : V → Loc → Hp → Prop⦄, Q X loc H → Call F f Xs loc H Q
noncomputable def EvO (F : Fx) (t : Value → Value → Sem Value) (X Y : V) (loc : Loc) (H : Hp) (Z : V) : Prop := ∀ ⦃Q : V → Loc → Hp → Prop⦄, Q Z loc H → Op2 F t X Y loc H Q
noncomputable def EvU (F : Fx) (X Y : V) (loc : Loc) (H : Hp) (Z : V) : Prop := ∀ ⦃Q : V → Loc → Hp → Prop⦄, Q Z loc H → Sub F X Y loc H Q
noncomputable def EvK (F : Fx) (op : CmpOp) (X Y : V) (loc : Loc) (H : Hp) (b : Bool) : Prop := ∀ ⦃Q : Bool → Loc → Hp → Prop⦄, Q b loc H → Cmp F op X Y loc H Q
theorem eLoc (ok : Ok F n) (hF : FrameIs F nm cl) {x : Str} {pos : Pos} {i : Nat} {X : V} (hx : look nm x = some (i, .local)) (hv : loc[i]? = some (some X)) : Ev F (.Name x pos) loc H X := fun _ q => gLoc ok hF hx hv q
theorem eCell (ok : Ok F n) (hF : FrameIs F nm cl) {x : Str} {pos : Pos} {i : Nat} {a : Addr} {X : V} (hx : look nm x = some (i, .cell)) (hc : cl.lookup x = some a) (e : H.C a = some (some X)) : Ev F (.Name x pos) loc H X := fun _ q => gCell ok hF hx hc e q
theorem eGlob {K : Frag} (ok : Ok F n) (W : Wd K F.c.base) (hF : FrameIs F nm cl) {x : Str} {pos : Pos} {i : Nat} {v : Value} {X : V} (hx : look nm x = some (i, .globalImplicit)) (e : nsIn K mainGlobals x = some (some v)) (r : RelV (fun a => F.c.base.get? a) v X) : Ev F (.Name x pos) loc H X := fun _ q => gGlob ok W hF hx e r q
theorem eBi {K : Frag} (ok : Ok F n) (W : Wd K F.c.base) (hF : FrameIs F nm cl) {x : Str} {pos : Pos} {i : Nat} {v : Value} (hx : look nm x = some (i, .globalImplicit)) (e : nsIn K mainGlobals x = some none) (hv : bootBuiltins x = some v) (hn : x ≠ "__name__") : Ev F (.Name x pos) loc H (.raw v) := fun _ q => gBi ok W hF hx e hv hn q
theorem eInt {i : Int} {k : Nat} {pos : Pos} : Ev F (.Constant (.int i) k pos) loc H (.int i) := fun _ q => WE_int q
theorem eStr {x : String} {k : Nat} {pos : Pos} : Ev F (.Constant (.str (Str.ofString x)) k pos) loc H (.str (Str.ofString x)) := fun _ q => WE_str q
theorem eBin {l r : Expr} {op : Operator} {pos : Pos} {X Y Z : V} (hl : Ev F l loc H X) (hr : Ev F r loc H Y) (ho : EvO F (binaryOp op) X Y loc H Z) : Ev F (.BinOp l op r pos) loc H Z := fun _ q => WE_BinOp (hl (hr (ho q)))
theorem eSub {value slice : Expr} {pos : Pos} {X Y Z : V} (hl : Ev F value loc H X) (hr : Ev F slice loc H Y) (ho : EvU F X Y loc H Z)
    (hs : ∀ o i, subscripted slice false o i = operate [o, i] (getItem o i) := by intro _ _; with_unfolding_all rfl) : Ev F (.Subscript value slice pos) loc H Z := fun _ q => WE_Subscript (hl (hr (ho q))) hs
theorem eNil {pos : Pos} : Evs F pos [] loc H [] := fun _ q => WEs_nil q
theorem eCons {pos : Pos} {e : Expr} {rest : List Expr} {X : V} {Xs : List V} (h : Ev F e loc H X) (r : Evs F pos rest loc H Xs) (he : starEach (e :: rest) F.env = (false, eval e F.env) :: starEach rest F.env := by rfl) : Evs F pos (e :: rest) loc H (X :: Xs) := fun _ q => WEs_cons (h (r q)) he
theorem eCall {x : Str} {np pos : Pos} {args : List Expr} {f X : V} {Xs : List V} (hf : Ev F (.Name x np) loc H f) (ha : Evs F pos args loc H Xs) (hk : KeepOk F f loc H) (hc : EvC F f Xs loc H X)
    (hns : (backTo pos (starEach args F.env)).any (·.1) = false := by rfl) : Ev F (.Call (.Name x np) args [] pos) loc H X := fun _ q => WE_CallN (hf (ha ⟨hk, hc q⟩)) hns
theorem eTup {es : List Expr} {k : Nat} {pos : Pos} {Xs : List V} (h : Evs F pos es loc H Xs) (hz : Xs.length ≤ 1000000 := by simp) : Ev F (.Tuple es k pos) loc H (.tup Xs) := fun _ q => WE_Tuple (h ⟨hz, q⟩)
theorem eListF {es : List Expr} {pos : Pos} {Xs : List V} (h : Evs F pos es loc H Xs) (hz : Xs.length ≤ 1000000 := by simp) : Ev F (.List es pos) loc H (.list Xs) := fun _ q => WE_ListF (h ⟨hz, q⟩)
theorem eAddF {l r : Expr} {pos : Pos} {X Y : V} {xs ys : List V} (hl : Ev F l loc H X) (hr : Ev F r loc H Y) (ex : asL H X = some xs) (ey : asL H Y = some ys) (hz : xs.length + ys.length ≤ 1000000) : Ev F (.BinOp l .Add r pos) loc H (.list (xs ++ ys)) := fun _ q => WE_addF (hl (hr ⟨xs, ys, ex, ey, hz, q⟩))
theorem eAttr {o : Expr} {name : Str} {pos : Pos} {X Y : V} (h : Ev F o loc H X) (g : ∀ ⦃Q : V → Loc → Hp → Prop⦄, Q Y loc H → GetA F name X loc H Q) (hbase : attributeBase o name F.env (eval o F.env) = eval o F.env := by rfl) : Ev F (.Attribute o name pos) loc H Y := fun _ q => WE_Attr (h (g q)) hbase
theorem eListC {x : Str} {np pos : Pos} {e : Expr} {X : V} {xs : List V} (ok : Ok F n) (hf : Ev F (.Name x np) loc H (.raw (.type "list"))) (he : Ev F e loc H X) (ex : asL H X = some xs ∨ X = .tup xs) (hz : xs.length ≤ 1000000)
    (hns : (backTo pos (starEach [e] F.env)).any (·.1) = false := by rfl) (hst : starEach (e :: []) F.env = (false, eval e F.env) :: starEach [] F.env := by rfl) : Ev F (.Call (.Name x np) [e] [] pos) loc H (.list xs) := fun _ q => WE_ListCallF ok (hf ⟨rfl, he ⟨xs, ex, hz, q⟩⟩) hns hst
theorem eCut {value hi : Expr} {p pos : Pos} {X : V} {xs : List V} {j : Nat} (hv : Ev F value loc H X) (hh : Ev F hi loc H (.int (j : Int))) (e : asL H X = some xs) (hz : xs.length ≤ 1000000) (ht : ∀ o r, letTemporaryGo value o r = pure () := by intro _ _; rfl) :
    Ev F (.Subscript value (.Slice none (some hi) none p) pos) loc H (.list (xs.take j)) := fun _ q => by
  refine WE_SliceL (hv (WOpt_none (WOpt_some (hh ⟨(j : Int), rfl, xs, e, hz, (fun i z => by cases z), (fun i z => by cases z; exact Int.natCast_nonneg j), ?_⟩)))) ht
  have : cut xs none (some (j : Int)) = xs.take j := by simp [cut]
  rw [this]; exact q
theorem bCmp {l r : Expr} {op : CmpOp} {pos : Pos} {X Y : V} {b : Bool} (hl : Ev F l loc H X) (hr : Ev F r loc H Y) (hc : EvK F op X Y loc H b) (hm : behindInMarks op r = false := by with_unfolding_all rfl) : EvB F (.Compare l [op] [r] pos) loc H b := fun _ q => WB_Compare (hl (hr (hc q))) hm
theorem eCmp {l r : Expr} {op : CmpOp} {pos : Pos} {X Y : V} {b : Bool} (hl : Ev F l loc H X) (hr : Ev F r loc H Y) (hc : EvK F op X Y loc H b) (hm : behindInMarks op r = false := by with_unfolding_all rfl) : Ev F (.Compare l [op] [r] pos) loc H (.bool b) := fun _ q => WE_Compare (hl (hr (hc q))) hm
theorem bAnd {a c : Expr} {pos : Pos} {p : Bool} {q' : Bool} (h1 : EvB F a loc H p) (h2 : p = true → EvB F c loc H q') : EvB F (.BoolOp .And [a, c] pos) loc H (p && q') := fun Q q => WB_BoolOp (WAll_and_cons (h1 ⟨fun e => WAll_and_cons (h2 e ⟨fun e2 => WAll_and_nil (by subst e; subst e2; exact q), fun e2 => by subst e; subst e2; exact q⟩), fun e => by subst e; exact q⟩))
theorem bNot {x : Expr} {pos : Pos} {b : Bool} (h : EvB F x loc H b) : EvB F (.UnaryOp .Not x pos) loc H (!b) := fun _ q => WB_not (h q)
theorem bTru {e : Expr} {X : V} {b : Bool} (h : Ev F e loc H X) (ht : ∀ ⦃Q : Bool → Loc → Hp → Prop⦄, Q b loc H → Tru F X loc H Q) (he : isTrue e F.env (eval e F.env) = (do let v ← eval e F.env; standAt e.pos; holding [v] (truthy v)) := by rfl) : EvB F e loc H b := fun _ q => WB_plain (h (ht q)) he
theorem eIf {t b o : Expr} {pos : Pos} {c : Bool} {X : V} (h : EvB F t loc H c) (h1 : c = true → Ev F b loc H X) (h2 : c = false → Ev F o loc H X) : Ev F (.IfExp t b o pos) loc H X := fun _ q => WE_IfExp (h ⟨fun e => h1 e q, fun e => h2 e q⟩)
theorem eComp {elt target iter c : Expr} {scope : Scope} {pos : Pos} {X : V} {xs : List V} {f : V → Option V} (ok : Ok F (n + 1)) (clos : List (Str × Addr)) (hi : Ev F iter loc H X) (ex : asL H X = some xs) (hz : xs.length ≤ 100000)
    (ht : ∀ C sv E, Ok (CFx F scope clos C sv E) (n + 1) → ∀ (i : Nat) (x : V), xs[i]? = some x → CompTurn (CFx F scope clos C sv E) target elt [c] (nones scope) H x (f x))
    (hclos : closureFor scope F.env = pure clos) (hdbg : (relabel scope F.env).names.lookup ("__debug__" : Str) = none) (hcell : ∀ y ∈ scope.names, y.2 ≠ .cell := by decide) (hkind : scope.kind = .function := by rfl) (hnames : ∀ y ∈ scope.names, y.2 = .local → scope.names.lookup y.1 = some .local := by decide)
    (hs : ∀ x, foldedSetIterable iter F.env x = pure x := by intro _; rfl) : Ev F (.ListComp elt [⟨target, iter, [c], 0⟩] scope pos) loc H (.list (xs.filterMap f)) := fun _ q =>
  WE_ListComp ok clos (.inr ⟨_, rfl⟩) hclos hcell hkind hdbg hnames (WIt_list (hi ⟨xs, ex, xs, f, ⟨fun i => lstSt_mono i, hz, fun C sv E okc => ⟨lstSt_self, fun i x hx => ⟨Nxt_list ex hx, ht C sv E okc i x hx⟩, Nxt_list_end (okc.handled (Nat.succ_ne_zero _)) ex (Nat.le_refl _)⟩⟩, q⟩)) hs
theorem eComp0 {elt target iter : Expr} {scope : Scope} {pos : Pos} {X : V} {xs : List V} {f : V → Option V} (ok : Ok F (n + 1)) (clos : List (Str × Addr)) (hi : Ev F iter loc H X) (ex : asL H X = some xs) (hz : xs.length ≤ 100000)
    (ht : ∀ C sv E, Ok (CFx F scope clos C sv E) (n + 1) → ∀ (i : Nat) (x : V), xs[i]? = some x → CompTurn (CFx F scope clos C sv E) target elt [] (nones scope) H x (f x))
    (hclos : closureFor scope F.env = pure clos) (hdbg : (relabel scope F.env).names.lookup ("__debug__" : Str) = none) (hcell : ∀ y ∈ scope.names, y.2 ≠ .cell := by decide) (hkind : scope.kind = .function := by rfl) (hnames : ∀ y ∈ scope.names, y.2 = .local → scope.names.lookup y.1 = some .local := by decide)
    (hs : ∀ x, foldedSetIterable iter F.env x = pure x := by intro _; rfl) : Ev F (.ListComp elt [⟨target, iter, [], 0⟩] scope pos) loc H (.list (xs.filterMap f)) := fun _ q =>
  WE_ListComp ok clos (.inl rfl) hclos hcell hkind hdbg hnames (WIt_list (hi ⟨xs, ex, xs, f, ⟨fun i => lstSt_mono i, hz, fun C sv E okc => ⟨lstSt_self, fun i x hx => ⟨Nxt_list ex hx, ht C sv E okc i x hx⟩, Nxt_list_end (okc.handled (Nat.succ_ne_zero _)) ex (Nat.le_refl _)⟩⟩, q⟩)) hs
theorem turn1 {target elt c : Expr} {l l1 : Loc} {x : V} {b : Bool} {out : Option V} {Y : V} (ha : ∀ ⦃Q : Loc → Hp → Prop⦄, Q l1 H → WA F target x l H Q) (hb : EvB F c l1 H b) (h1 : b = true → Ev F elt l1 H Y) (ho : out = if b then some Y else none) : CompTurn F target elt [c] l H x out := by
  refine ha ⟨rfl, hb ⟨rfl, fun e => h1 e ⟨rfl, ?_⟩, fun e => ?_⟩⟩
  · rw [ho, if_pos e]
  · rw [ho, if_neg (by rw [e]; exact Bool.false_ne_true)]
theorem turn0 {target elt : Expr} {l l1 : Loc} {x : V} {out : Option V} {Y : V} (ha : ∀ ⦃Q : Loc → Hp → Prop⦄, Q l1 H → WA F target x l H Q) (h1 : Ev F elt l1 H Y) (ho : out = some Y) : CompTurn F target elt [] l H x out := ha ⟨rfl, h1 ⟨rfl, ho⟩⟩
theorem sA (ok : Ok F n) (hF : FrameIs F nm cl) {x : Str} {i : Nat} {e : Expr} {p pos : Pos} {X : V} {Q : Fl → Loc → Hp → Prop} (hx : look nm x = some (i, .local)) (h : Ev F e loc H X) (q : Q .next (loc.set i (some X)) H) (hs : swapsWith e (some (.Name x p)) pos.line F.env = pure false := by rfl) : WS F (.Assign [.Name x p] e pos) loc H Q := sAsg ok hF hx (h q) hs
theorem sAC (ok : Ok F n) (hF : FrameIs F nm cl) {x : Str} {i : Nat} {a : Addr} {e : Expr} {p pos : Pos} {X : V} {ov : Option V} {Q : Fl → Loc → Hp → Prop} (hx : look nm x = some (i, .cell)) (hc : cl.lookup x = some a) (hv : H.C a = some ov) (h : Ev F e loc H X) (q : Q .next loc { H with C := up H.C a (some X) }) (hs : swapsWith e (some (.Name x p)) pos.line F.env = pure false := by rfl) : WS F (.Assign [.Name x p] e pos) loc H Q := sAsgC ok hF hx hc (h ⟨⟨_, hv⟩, q⟩) hs
theorem sIf {t : Expr} {body orelse : List Stmt} {pos : Pos} {b : Bool} {Q : Fl → Loc → Hp → Prop} (h : EvB F t loc H b) (k1 : b = true → WSs F body loc H Q) (k2 : b = false → WSs F orelse loc H Q) : WS F (.If t body orelse pos) loc H Q := WS_If (h ⟨k1, k2⟩)
theorem sRet {e : Expr} {pos : Pos} {X : V} {Q : Fl → Loc → Hp → Prop} (h : Ev F e loc H X) (q : Q (.ret X) loc H) : WS F (.Return (some e) pos) loc H Q := WS_Return (h q)
end
end Lay
end
noncomputable section
open PySem PySem.W PyProof.Rows PySem.Calls
set_option Elab.async false
set_option maxRecDepth 100000
set_option linter.all false
namespace Lay
section
variable {F : Fx} {n : Nat} {loc : Loc} {H : Hp} {nm : List (Str × NameKind)} {cl : List (Str × Addr)}
theorem inV_strs {s : Str} {l : List Str} : inV (.str s) (l.map .str) = decide (s ∈ l) := by
  rw [Bool.eq_iff_iff, inV_iff, decide_eq_true_iff, List.mem_map]
  constructor
  · rintro ⟨x, hx, e⟩
    injection e with e; exact e ▸ hx
  · exact fun h => ⟨s, h, rfl⟩
theorem isD_strL {xs : List Str} : ∀ y ∈ xs.map V.str, y.isD 20 = true := fun y hy => by
  obtain ⟨s, _, rfl⟩ := List.mem_map.mp hy
  rfl
theorem kIn (ok : Ok F n) {s : Str} {Y : V} {l : List Str} (e : asL H Y = some (l.map .str)) : EvK F .In (.str s) Y loc H (decide (s ∈ l)) := fun Q q => Cmp_in ok e rfl isD_strL (by rw [inV_strs]; exact q)
theorem kEqs {x y : Str} : EvK F .Eq (.str x) (.str y) loc H (decide (x = y)) := fun _ q => Cmp_eqs q
theorem kEqi {i j : Int} : EvK F .Eq (.int i) (.int j) loc H (decide (i = j)) := fun _ q => Cmp_eqi q
theorem kGt {i j : Int} : EvK F .Gt (.int i) (.int j) loc H (decide (i > j)) := fun _ q => Cmp_gt q
theorem eLen {K : Frag} (ok : Ok F n) (W : Wd K F.c.base) (hF : FrameIs F nm cl) {np pos : Pos} {a : Expr} {i : Nat} {X : V} {xs : List V} {m : Nat} (hx : look nm "len" = some (i, .globalImplicit)) (e : nsIn K mainGlobals "len" = some none) (ha : Ev F a loc H X) (ex : asL H X = some xs) (hm : xs.length = m) (hz : m ≤ 1000000)
    (hns : (backTo pos (starEach [a] F.env)).any (·.1) = false := by rfl) (hst : starEach (a :: []) F.env = (false, eval a F.env) :: starEach [] F.env := by rfl) : Ev F (.Call (.Name "len" np) [a] [] pos) loc H (.int (m : Int)) :=
  eCall (eBi ok W hF hx e (by boot_by_name) (by decide)) (eCons ha eNil hst) (keepB ok) (fun _ q => Call_len ex (hm ▸ hz) (by subst hm; exact q)) hns
theorem uList {X : V} {xs : List V} {j : Nat} {x : V} (e : asL H X = some xs) (hx : xs[j]? = some x) (hz : xs.length ≤ 1000000) : EvU F X (.int (j : Int)) loc H x := fun _ q =>
  Sub_list e (Int.natCast_nonneg j) (by have := (List.getElem?_eq_some_iff.mp hx).1; omega) (by rw [Int.toNat_natCast]; exact hx) q
theorem uTup {xs : List V} {j : Nat} {x : V} (hx : xs[j]? = some x) (hj : j < 1000000 := by decide) : EvU F (.tup xs) (.int (j : Int)) loc H x := fun _ q =>
  Sub_tup (Int.natCast_nonneg j) (by omega) (by rw [Int.toNat_natCast]; exact hx) q
theorem goE {e : Expr} {X : V} {Q : V → Loc → Hp → Prop} (h : Ev F e loc H X) (q : Q X loc H) : WE F e loc H Q := h q
theorem goEs {pos : Pos} {es : List Expr} {Xs : List V} {Q : List V → Loc → Hp → Prop} (h : Evs F pos es loc H Xs) (q : Q Xs loc H) : WEs F pos es loc H Q := h q
theorem sForR {K : Frag} (ok : Ok F n) (W : Wd K F.c.base) (hF : FrameIs F nm cl) {np pos' pos : Pos} {target arg : Expr} {body orelse : List Stmt} {i N : Nat} {Q : Fl → Loc → Hp → Prop} (hx : look nm "range" = some (i, .globalImplicit)) (e : nsIn K mainGlobals "range" = some none) (ha : Ev F arg loc H (.int (N : Int))) (hN : N ≤ 1000000) (k : ForOn F target body orelse Q (rngSt F.c.lo N) loc H)
    (hns : (backTo pos' (starEach [arg] F.env)).any (·.1) = false := by rfl) (hst : starEach (arg :: []) F.env = (false, eval arg F.env) :: starEach [] F.env := by rfl) (hs : ∀ x, foldedSetIterable (.Call (.Name "range" np) [arg] [] pos') F.env x = pure x := by intro _; rfl) : WS F (.For target (.Call (.Name "range" np) [arg] [] pos') body orelse pos) loc H Q :=
  WS_For (WIt_range (gBi ok W hF hx e (by boot_by_name) (by decide) ⟨rfl, WEs_cons (ha (WEs_nil ⟨N, rfl, by omega, k⟩)) hst⟩) hns) hs
theorem sForL {target iter : Expr} {body orelse : List Stmt} {pos : Pos} {X : V} {xs : List V} {Q : Fl → Loc → Hp → Prop} (hi : Ev F iter loc H X) (ex : asL H X = some xs) (k : ForOn F target body orelse Q (lstSt F.c.lo X) loc H) (hs : ∀ x, foldedSetIterable iter F.env x = pure x := by intro _; rfl) : WS F (.For target iter body orelse pos) loc H Q :=
  WS_For (WIt_list (hi ⟨xs, ex, k⟩)) hs
theorem eMeth {o : Expr} {name : Str} {apos pos : Pos} {args : List Expr} {X f Z : V} {Fs Xs : List V} (ho : Ev F o loc H X) (hm : ∀ ⦃Q : V → List V → Loc → Hp → Prop⦄, Q f Fs loc H → MGet F name X loc H Q) (ha : Evs F pos args loc H Xs) (hk : KeepOk F f loc H) (hc : EvC F f (Fs ++ Xs) loc H Z)
    (hbase : attributeBase o name F.env (eval o F.env) = eval o F.env := by rfl)
    (hfew : methodCallForm (args.length + ([] : List Keyword).length) (backTo pos (starEach args F.env)) (backToKw pos (keywordEach [] F.env)) = true := by rfl)
    (hline : (apos.endLine == pos.line) = true := by rfl) (hns : (backTo pos (starEach args F.env)).any (·.1) = false := by rfl) : Ev F (.Call (.Attribute o name apos) args [] pos) loc H Z := fun _ q =>
  WE_CallM (ho (hm (ha ⟨hk, hc q⟩))) hbase hfew hline hns
theorem sMeth (ok : Ok F n) {o : Expr} {name : Str} {apos pos pos2 : Pos} {args : List Expr} {X f : V} {Fs Xs : List V} {Q : Fl → Loc → Hp → Prop} (ho : Ev F o loc H X) (hm : ∀ ⦃Q : V → List V → Loc → Hp → Prop⦄, Q f Fs loc H → MGet F name X loc H Q) (ha : Evs F pos args loc H Xs) (hk : KeepOk F f loc H) (hc : Call F f (Fs ++ Xs) loc H fun _ l1 H1 => Q .next l1 H1)
    (hbase : attributeBase o name F.env (eval o F.env) = eval o F.env := by rfl)
    (hfew : methodCallForm (args.length + ([] : List Keyword).length) (backTo pos (starEach args F.env)) (backToKw pos (keywordEach [] F.env)) = true := by rfl)
    (hline : (apos.endLine == pos.line) = true := by rfl) (hns : (backTo pos (starEach args F.env)).any (·.1) = false := by rfl) (hs : swapsWith (.Call (.Attribute o name apos) args [] pos) none pos2.line F.env = pure false := by rfl) : WS F (.Expr (.Call (.Attribute o name apos) args [] pos) pos2) loc H Q :=
  sExpr ok (WE_CallM (ho (hm (ha ⟨hk, hc⟩))) hbase hfew hline hns) hs
theorem sApp (ok : Ok F n) {o arg : Expr} {apos pos pos2 : Pos} {a : Addr} {X : V} {xs : List V} {Q : Fl → Loc → Hp → Prop} (ho : Ev F o loc H (.ref a)) (ea : H.L a = some xs) (hx : Ev F arg loc H X) (hz : xs.length ≤ 1000000) (q : Q .next loc { H with L := up H.L a (xs ++ [X]) })
    (hbase : attributeBase o "append" F.env (eval o F.env) = eval o F.env := by rfl)
    (hfew : methodCallForm ([arg].length + ([] : List Keyword).length) (backTo pos (starEach [arg] F.env)) (backToKw pos (keywordEach [] F.env)) = true := by rfl)
    (hline : (apos.endLine == pos.line) = true := by rfl) (hns : (backTo pos (starEach [arg] F.env)).any (·.1) = false := by rfl) (hst : starEach (arg :: []) F.env = (false, eval arg F.env) :: starEach [] F.env := by rfl) (hs : swapsWith (.Call (.Attribute o "append" apos) [arg] [] pos) none pos2.line F.env = pure false := by rfl) : WS F (.Expr (.Call (.Attribute o "append" apos) [arg] [] pos) pos2) loc H Q :=
  sMeth ok ho (fun _ q => MGet_append ea q) (eCons hx eNil hst) (keepB ok) (Call_append ea hz q) hbase hfew hline hns hs
theorem kNeL (ok : Ok F n) {X Y : V} {xs : List V} (ex : asL H X = some xs) (ey : asL H Y = some xs) (hd : (V.list xs).isD 20 = true) : EvK F .NotEq X Y loc H false := fun Q q => by
  have a1 : ∀ Z, asL H Z = some xs → asD H Z = .list xs := fun Z h => by
    cases Z <;> first | (cases h; done) | skip
    · injection h with h; subst h; rfl
    · show (match H.L _ with | some xs => V.list xs | none => _) = _
      rw [show H.L _ = some xs from h]
  refine Cmp_ne ok (by rw [a1 X ex]; exact hd) (by rw [a1 Y ey]; exact hd) ?_
  rw [a1 X ex, a1 Y ey, eqV_iff.mpr rfl]; exact q
theorem kEqL (ok : Ok F n) {X Y : V} {xs : List V} (ex : asL H X = some xs) (ey : asL H Y = some xs) (hd : (V.list xs).isD 20 = true) : EvK F .Eq X Y loc H true := fun Q q => by
  have a1 : ∀ Z, asL H Z = some xs → asD H Z = .list xs := fun Z h => by
    cases Z <;> first | (cases h; done) | skip
    · injection h with h; subst h; rfl
    · show (match H.L _ with | some xs => V.list xs | none => _) = _
      rw [show H.L _ = some xs from h]
  refine Cmp_eq ok (by rw [a1 X ex]; exact hd) (by rw [a1 Y ey]; exact hd) ?_
  rw [a1 X ex, a1 Y ey, eqV_iff.mpr rfl]; exact q
section
variable {K : Frag} {l r : Expr} {p1 p2 p3 p4 p5 : Pos} {X Y : V}
end
end
end Lay
end
noncomputable section
open PySem PySem.W PyProof.Rows PySem.Calls
set_option Elab.async false
set_option maxRecDepth 100000
set_option linter.all false
namespace Lay
section
variable {F : Fx} {n : Nat} {loc : Loc} {H : Hp}
noncomputable def CCallE (F : Fx) (cls : Value) (PX : Hp → Prop) (f : Addr) (Xs : List V) (kws : List Str) (Ws : List V) (loc : Loc) (H : Hp) (Q : V → Loc → Hp → Prop) : Prop :=
  ∀ B s vs ws (RR : Result → Shared → Prop), FRel F B loc H s → RelVs B vs Xs → RelVs B ws Ws → (∀ v s', Post F RelV B Q v s' → RR (.ok (.ret v)) s') →
    (∀ B' H' e s', Fly F true B' loc H' cls e s' → PX H' → RR (.error e) s') → codeAny F.M F.A (.call (.ref f) ⟨vs, kws.zip ws⟩) RR s
theorem CCallE_def (ok : Ok F (n + 1)) {f : Addr} {fd : FuncData} {body : List Stmt} {kws : List Str} {Xs Ws : List V} {bV : List (Str × V)} {cls : Value} {PX : Hp → Prop} {Q : V → Loc → Hp → Prop} (W : Fn F.c.base f fd body)
    (hbind : ∀ (vs ws : List Value) (B : Keep), RelVs B vs Xs → RelVs B ws Ws → Le (fun a => F.c.base.get? a) B → ∃ bs, Looks F.M F.c.base (bindArgs fd ⟨vs, kws.zip ws⟩) bs ∧ RelKs B bs bV)
    (hnd : (bV.map (·.1)).Nodup) (hloc : ∀ x ∈ bV.map (·.1), fd.scope.names.lookup x = some .local ∨ fd.scope.names.lookup x = some .cell)
    (h : ∀ (F' : Fx) L, F'.c.base = F.c.base → F'.env = callEnvC fd L f → Ok F' n → Top F' → Acc F' cls (fun _ H' => PX H') → (∀ x c, (x, c) ∈ cellsFrom (L + 1) fd.scope.names [] → H.Fresh c) →
      WSs F' body (initLoc fd.scope.names bV) (addCells H bV (cellsFrom (L + 1) fd.scope.names [])) fun fl _ H' => Q (retV fl) loc H') : CCallE F cls PX f Xs kws Ws loc H Q := fun B s vs ws RR R rvs rws hR hE => by
  refine Code_defG (RR := RR) ok W (sv' := F.c.saved) (fun p hp => ⟨p, hp, rfl⟩) hbind hnd hloc R rvs rws fun oL L s₁ ok' tp' hf R1 bk => ?_
  have ok2 : Ok ((F.into RR fd f oL L).tryF B (F.callE RR (callEnvC fd L f))) n := ⟨ok'.fn, ok'.glob, ok'.bi, ok'.dbg, ok'.units, ok'.depth, ok'.handled, ok'.fr⟩
  have acc : Acc ((F.into RR fd f oL L).tryF B (F.callE RR (callEnvC fd L f))) cls (fun _ H' => PX H') := by
    intro b B1 l1 H1 e s1 fy p
    have le : Le B B1 := fy.1.based.2
    have f0 : Fly (F.into RR fd f oL L) b B1 l1 H1 cls e s1 := ⟨fy.1.unfloor R.based.1 R.based.2, fy.2⟩
    show wpAny F.M (F.A.deeper (callEnvC fd L f)) (leaving (callEnvC fd L f) e) _ _ s1
    refine wpAny_bind (Fly.note (F := F.into RR fd f oL L) ok' tp' f0 fun s2 f2 => Fly.flight (F := F.into RR fd f oL L) f2 fun s3 f3 => ?_)
    refine hE B1 H1 e s3 ⟨bk _ _ _ _ le f3.1, ?_⟩ p
    obtain ⟨_, a, ob, vs', g1, g2, g3, g4, g6, g7⟩ := f3
    have nb : ∀ {x}, Nobody (F.into RR fd f oL L) B1 H1 x → Nobody F B1 H1 x := fun hx => ⟨hx.1, hx.2.1, fun e => hx.2.2.2 _ (.head _) e.symm, fun p hp => hx.2.2.2 p (.tail _ hp)⟩
    refine ⟨a, ob, vs', g1, g2, g3, g4, nb g6, ?_⟩
    rcases g7 with ⟨z, _⟩ | ⟨T, oT, ts, k1, k2, k3, k4, k5, k6⟩
    · cases z
    · exact .inr ⟨T, oT, ts, k1, k2, k3, k4, k5, nb k6⟩
  refine wpAny_mono (h ((F.into RR fd f oL L).tryF B (F.callE RR (callEnvC fd L f))) L rfl rfl ok2 tp' acc hf B s₁ R1.floor) (fun fl s' p v hv => ?_) fun _ _ x => x
  obtain ⟨B2, b, l2, H2, le2, rf, R3, q⟩ := p
  exact hR _ _ ⟨B2, retV b, loc, H2, le2, hv _ _ rf, bk _ _ _ _ le2 (R3.unfloor R.based.1 R.based.2), q⟩
theorem defPE (ok : Ok F (n + 1)) {K : Frag} (W : Wd K F.c.base) {f : Addr} {fd : FuncData} {body : List Stmt} (pn : List Str) {kws : List Str} {Xs Ws Vs : List V} {l0 : Loc} {nm : List (Str × NameKind)} {cls : Value} {PX : Hp → Prop} {Q : V → Loc → Hp → Prop}
    (hfd : kFd K f = some fd) (hb : fd.body = .stmts body) (hnm : fd.scope.names = nm) (ho : okFd K fd = true) (hp : parOk fd pn = true) (hc : noCells fd = true) (hbind : BindTo F.M F.c.base fd kws pn Xs Ws Vs) (hl : initLoc nm (pn.zip Vs) = l0)
    (h : ∀ F' : Fx, Ok F' n → Top F' → Acc F' cls (fun _ H' => PX H') → Wd K F'.c.base → FrameIs F' nm [] → WSs F' body l0 H fun fl _ H' => Q (retV fl) loc H') : CCallE F cls PX f Xs kws Ws loc H Q := by
  refine CCallE_def ok (Fn.of W hfd hb ho) (fun vs ws B r1 r2 le => let ⟨us, h1, h2⟩ := hbind vs ws B r1 r2 le; ⟨_, h1, relKs_zip h2⟩) (par_nd hp Vs).1 (par_nd hp Vs).2 fun F' L e1 e2 ok' tp acc _ => ?_
  have := h F' ok' tp acc (by rw [e1]; exact W) ⟨by rw [e2]; exact hnm, by rw [e2]; exact cellsFrom_none _ _ _ hc⟩
  rw [cellsFrom_none _ _ _ hc, hnm, hl]
  exact this
theorem Call_ofE {f : Addr} {Xs : List V} {cls : Value} {PX : Hp → Prop} {P : Loc → Hp → Prop} {Q : V → Loc → Hp → Prop} (h : CCallE F cls PX f Xs [] [] loc H Q) (acc : Acc F cls P) (hP : ∀ H', PX H' → P loc H') : Call F (.ref f) Xs loc H Q := fun B s v vs R rv rvs => by
  cases rv
  exact wpAny_call (h B s vs [] (F.plainR (Post F RelV B Q)) R rvs .nil (fun v s' p => p) fun B' H' e s' f p => acc _ _ _ _ _ _ f (hP _ p))
noncomputable def ExcAt (h : Heap) (C : Addr) : Prop := ∃ (nm q : Str) (N : Addr) (bs bm : List Value) (hdct : Bool) (sn : List Str) (sub : List Value) (ab : Bool) (col : Option Bool) (dd : Option Addr) (k0 k1 k2 k3 k5 : Option Value) (mN : Str → Option Value),
    mN "__init__" = none ∧ h.get? C = some (excClassObj nm q C N bs bm hdct sn sub ab col dd k0 k1 k2 k3 k5 "Exception.__new__") ∧ h.Ns N mN ∧ OwnTail h [.type "Exception", .type "BaseException", .type "object"] bm
theorem WS_RaiseU (ok : Ok F (n + 1)) {C : Addr} (X : ExcAt F.c.base C) {P : Loc → Hp → Prop} (acc : Acc F (.ref C) P) {x : Str} {np cpos pos : Pos} {args : List Expr} {Q : Fl → Loc → Hp → Prop}
    (h : WE F (.Name x np) loc H fun f l1 H1 => f = .ref C ∧ WEs F cpos args l1 H1 fun Xs l2 H2 => Xs.length ≤ 1000 ∧ P l2 H2)
    (hns : (backTo cpos (starEach args F.env)).any (·.1) = false := by rfl) : WS F (.Raise (some (.Call (.Name x np) args [] cpos)) none pos) loc H Q := fun B s R => by
  obtain ⟨nm, q, N, bs, bm, hdct, sn, sub, ab, col, dd, k0, k1, k2, k3, k5, mN, hni, hC, hX, hT⟩ := X
  refine wpAny_Raise_call_subT (C := C) (nm := nm) (q := q) (N := N) (bs := bs) (bm := bm) (hdct := hdct) (sn := sn) (sub := sub) (ab := ab) (col := col) (dd := dd) (k0 := k0) (k1 := k1) (k2 := k2) (k3 := k3) (k5 := k5) PySem.F.excBase_Exception (mN := mN) (hT.hasType (by decide)) (ok.handled (Nat.succ_ne_zero _)) hns hni
    ((h B s R).then fun f B1 X1 l1 H1 s1 le1 rf R1 h1 => ?_)
  obtain ⟨rfl, h1⟩ := h1
  cases rf
  refine ⟨rfl, evalArgs_gen hns ((h1 B1 s1 R1).then fun vs B2 Xs l2 H2 s2 le2 rv R2 h2 => ?_)⟩
  refine ⟨rfl, Nat.le_trans (by rw [rv.length]; exact h2.1) (by decide +kernel), R2.inBase hC, hX.keeps fun b o e => R2.inBase e, hT.keeps fun b o e => R2.inBase e, fun h' e m => ?_⟩
  have ⟨t, ht, hn, _⟩ := m.there
  exact acc.raised ⟨R2.grow (s' := { s2 with heap := h' }) m.keeps rfl rfl, e, _, _, rfl, ht, rfl, rfl, rfl, R2.nobody m.new⟩ h2.2
theorem hm_own {C : Addr} (X : ExcAt F.c.base C) {A : Around} {E : Value → Shared → Prop} {B l H} {s : Shared} {e : Value} {b : Bool} {Q : Bool → Shared → Prop} (f : Fly F b B l H (.ref C) e s) (q : Q true s) : wpAny F.M A (excMatches e (.ref C)) Q E s := by
  obtain ⟨nm, q', N, bs, bm, hdct, sn, sub, ab, col, dd, k0, k1, k2, k3, k5, mN, hni, hC, hX, hT⟩ := X
  obtain ⟨R, a, ob, vs, rfl, h2, h3, _⟩ := f
  exact wpAny_excMatches_sub_self (h := s.heap) (g := s.gens) (d := s.drawn) (t := s.toks) (os := s.os) (R.inBase hC) h2 h3 (hT.hasType (by decide)) q
end
end Lay
end
noncomputable section
open PySem PySem.W PyProof.Rows PySem.Calls
set_option Elab.async false
set_option maxRecDepth 100000
set_option linter.all false
namespace Lay
section
variable {F : Fx} {n : Nat} {loc : Loc} {H : Hp} {nm : List (Str × NameKind)} {cl : List (Str × Addr)}
theorem eOrB {a b : Expr} {pos : Pos} {p q' : Bool} (ha : Ev F a loc H (.bool p)) (hb : Ev F b loc H (.bool q')) : Ev F (.BoolOp .Or [a, b] pos) loc H (.bool (p || q')) := fun Q q B s R => by
  refine BoolOp_or ((ha (Q := fun X l1 H1 => X = .bool p ∧ l1 = loc ∧ H1 = H) ⟨rfl, rfl, rfl⟩ B s R).then fun v B1 X l1 H1 s1 le1 rv R1 h1 => ?_)
  obtain ⟨rfl, rfl, rfl⟩ := h1
  refine (Tru_bool (F := F) (b := p) (Q := fun c l2 H2 => c = p ∧ l2 = l1 ∧ H2 = H1) ⟨rfl, rfl, rfl⟩ B1 s1 v R1 rv).then fun c B2 Y l2 H2 s2 le2 rc R2 h2 => ?_
  obtain ⟨rfl, rfl, rfl⟩ := h2
  cases rc
  cases c with
  | true => exact ⟨B2, _, _, _, le1.trans le2, rv.mono le2, R2, q⟩
  | false => exact BoolOp_one ((hb q B2 s2 R2).lift (le1.trans le2))
theorem eAndB {a b : Expr} {pos : Pos} {rest : List Expr} {p q' : Bool} (ha : Ev F a loc H (.bool p)) (hb : p = true → Ev F (.BoolOp .And (b :: rest) pos) loc H (.bool q')) : Ev F (.BoolOp .And (a :: b :: rest) pos) loc H (.bool (p && q')) := fun Q q B s R => by
  refine BoolOp_and ((ha (Q := fun X l1 H1 => X = .bool p ∧ l1 = loc ∧ H1 = H) ⟨rfl, rfl, rfl⟩ B s R).then fun v B1 X l1 H1 s1 le1 rv R1 h1 => ?_)
  obtain ⟨rfl, rfl, rfl⟩ := h1
  refine (Tru_bool (F := F) (b := p) (Q := fun c l2 H2 => c = p ∧ l2 = l1 ∧ H2 = H1) ⟨rfl, rfl, rfl⟩ B1 s1 v R1 rv).then fun c B2 Y l2 H2 s2 le2 rc R2 h2 => ?_
  obtain ⟨rfl, rfl, rfl⟩ := h2
  cases rc
  cases c with
  | false => exact ⟨B2, _, _, _, le1.trans le2, rv.mono le2, R2, q⟩
  | true => exact (hb rfl q B2 s2 R2).lift (le1.trans le2)
theorem eOne {op : BoolOp} {a : Expr} {pos : Pos} {X : V} (h : Ev F a loc H X) : Ev F (.BoolOp op [a] pos) loc H X := fun Q q B s R => BoolOp_one (h q B s R)
theorem eBool {b : Bool} {k : Nat} {pos : Pos} : Ev F (.Constant (.bool b) k pos) loc H (.bool b) := fun _ q => WE_bool q
theorem eNone {k : Nat} {pos : Pos} : Ev F (.Constant .none k pos) loc H .none := fun _ q => WE_none q
theorem kNeB (ok : Ok F n) {p q' : Bool} : EvK F .NotEq (.bool p) (.bool q') loc H (p != q') := fun Q q B s a b R ra rb => by
  cases ra; cases rb
  refine SeqAt.compareNe_reads (Reads.bool p) (Reads.bool q') rfl rfl (by have := ok.u (k := 30) (by omega); simp [PyData.depth]; omega) ?_
  have : (!PyData.eqv (.bool p) (.bool q')) = (p != q') := by cases p <;> cases q' <;> rfl
  rw [this]; exact Post.pure rfl R q
theorem hits_of {B : Keep} {s : Shared} {A : Around} (R : FRel F B loc H s) (hu : A.in1.units + 20 < cLine) {kb : List (Str × Value)} {kb' : List (Str × V)} (rb : RelKs B kb kb') : ∀ {ka : List (Str × Value)} {ka' : List (Str × V)}, RelKs B ka ka' →
    (∀ p ∈ ka', (asD H p.2).isD 20 = true ∧ ∃ Y, dget kb' p.1 = some Y ∧ asD H Y = asD H p.2) → KeqHits A.in1 s kb ka true
  | _, _, .nil, _ => .nil
  | _, _, .cons (k := k) (x := X) r t, h => by
    obtain ⟨hd, Y, hy, e⟩ := h _ (.head _)
    have g := rb.get (k := k)
    rw [hy] at g
    cases ey : valueAt kb k with
    | none => rw [ey] at g; exact g.elim
    | some y =>
      rw [ey] at g
      obtain ⟨as, h1, c1, d1⟩ := asD_reads R r hd
      obtain ⟨bs, h2, c2, d2⟩ := asD_reads R (k := 20) g (by rw [e]; exact hd)
      have he := SeqAt.eqAt_reads _ _ A.in1 s _ _ _ _ h1 h2 c1 c2 (by omega)
      have e2 : PyData.eqv (asD H X).toD (asD H Y).toD = true := by rw [e]; exact (eqv_iff 20 _ _ 20 hd hd).mpr rfl
      rw [e2] at he
      exact .hit ey he (hits_of R hu rb t fun p hp => h p (.tail _ hp))
theorem kNeD (ok : Ok F n) {a b : Addr} {ka kb : List (Str × V)} (ea : H.D a = some ka) (eb : H.D b = some kb) (hl : ka.length = kb.length) (h : ∀ p ∈ ka, (asD H p.2).isD 20 = true ∧ ∃ Y, dget kb p.1 = some Y ∧ asD H Y = asD H p.2) : EvK F .NotEq (.ref a) (.ref b) loc H false := fun Q q B s u v R ru rv => by
  cases ru; cases rv
  obtain ⟨ca, a1, a2, a3⟩ := dict_at R ea
  obtain ⟨cb, b1, b2, b3⟩ := dict_at R eb
  refine keq_ne (r := true) a3 b3 a1 b1 (by have := ok.u (k := 1) (by omega); omega) (fun _ => hits_of R (by have := ok.u (k := 40) (by omega); show F.A.units + _ + 20 < cLine; omega) b2 a2 h) ?_
  rw [a2.length, b2.length, hl, beq_self_eq_true]
  exact Post.pure rfl R q
theorem MGet_index {X : V} {xs : List V} {Q : V → List V → Loc → Hp → Prop} (e : asL H X = some xs) (q : Q (.raw (.builtin "list.index")) [X] loc H) : MGet F "index" X loc H Q :=
  MGet_slot PySem.F.plainAttrs_list PySem.F.slot_list_index PySem.F.type_list_index (list_type e) q
theorem eSliceS {value lo hi : Expr} {p pos : Pos} {x : Str} {i j : Int} (hv : Ev F value loc H (.str x)) (h1 : Ev F lo loc H (.int i)) (h2 : Ev F hi loc H (.int j)) (hz : x.length ≤ 1000) (hk : PyData.strOk (Txt.slice x (some i) (some j)) = true)
    (hs : ∀ o i, subscripted (.Slice (some lo) (some hi) none p) false o i = operate [i, o] (getItem o i) := by intro _ _; with_unfolding_all rfl) (ht : ∀ o r, letTemporaryGo value o r = pure () := by intro _ _; rfl) :
    Ev F (.Subscript value (.Slice (some lo) (some hi) none p) pos) loc H (.str (Txt.slice x (some i) (some j))) := fun Q q B s R => by
  refine Subscript_ ((hv (Q := fun X l1 H1 => X = .str x ∧ l1 = loc ∧ H1 = H) ⟨rfl, rfl, rfl⟩ B s R).then fun o B1 X l1 H1 s1 le1 ro R1 e1 => ?_)
  obtain ⟨rfl, rfl, rfl⟩ := e1
  cases ro with | str _ t _ => ?_
  refine wpAny_Slice ((h1 (Q := fun X l2 H2 => X = .int i ∧ l2 = l1 ∧ H2 = H1) ⟨rfl, rfl, rfl⟩ B1 s1 R1).then fun vi B2 X l2 H2 s2 le2 ri R2 e2 => ?_)
  obtain ⟨rfl, rfl, rfl⟩ := e2
  cases ri with | int _ ti => ?_
  refine (h2 (Q := fun X l3 H3 => X = .int j ∧ l3 = l2 ∧ H3 = H2) ⟨rfl, rfl, rfl⟩ B2 s2 R2).then fun vj B3 X l3 H3 s3 le3 rj R3 e3 => ?_
  obtain ⟨rfl, rfl, rfl⟩ := e3
  cases rj with | int _ tj => ?_
  refine wpAny_pure ?_
  refine tail_of_ItemOn (SBH.sliceItem_ss (P := fun h' => ∀ b o, s3.heap.get? b = some o → h'.get? b = some o) (fun h ob k b o e => Heap.get?_push_of_some _ (k b o e)) (fun b o e => e) (fun h' t' k hh => ?_) (Nat.le_trans hz (by decide +kernel))) (hs _ _) (ht _)
  have R4 := R3.grow (s' := { s3 with heap := h', toks := k }) hh rfl rfl
  exact ⟨B3, _, _, _, (le1.trans le2).trans le3, .str _ _ hk, R4, q⟩
noncomputable def isTx (k : Str) : Value → Bool
  | .str y _ => decide (y = k)
  | _ => false
theorem strs_at {B : Keep} : ∀ {vs : List Value} {ss : List Str}, RelVs B vs (ss.map .str) → ∀ {j : Nat} (h : j < vs.length) (h2 : j < ss.length), ∃ t, vs[j] = .str ss[j] t
  | _, _ :: _, .cons r _, 0, _, _ => by cases r; exact ⟨_, rfl⟩
  | _, _ :: _, .cons _ t, j + 1, h, h2 => strs_at t (Nat.lt_of_succ_lt_succ h) (Nat.lt_of_succ_lt_succ h2)
theorem Call_index (ok : Ok F n) {X : V} {ss : List Str} {k : Str} {Q : V → Loc → Hp → Prop} (e : asL H X = some (ss.map .str)) (hk : k ∈ ss) (hz : ss.length ≤ 1000) (q : Q (.int (ss.idxOf k : Nat)) loc H) : Call F (.raw (.builtin "list.index")) [X, .str k] loc H Q := fun B s v vs R rv rvs => by
  cases rv
  cases rvs with | cons ra r2 => ?_
  cases r2 with | cons ry r3 => ?_
  cases r3
  cases ry with | str _ t _ => ?_
  obtain ⟨l, items, m, rfl, hl, hr⟩ := asL_at R ra e
  have hlen : items.toList.length = ss.length := by rw [hr.length, List.length_map]
  have hj : ss.idxOf k < ss.length := List.idxOf_lt_length_iff.mpr hk
  have hj' : ss.idxOf k < items.size := by rw [← Array.length_toList, hlen]; exact hj
  have at_ : ∀ (i : Nat) (h : i < items.size) (h2 : i < ss.length), ∃ t, items[i] = .str ss[i] t := fun i h h2 => by
    have := strs_at hr (j := i) (by rw [Array.length_toList]; exact h) h2
    simpa using this
  refine call_meets PySem.F.slot_list_index (s := s) (self := .ref l) ⟨_, hl, rfl⟩ PySem.F.entry_list_index (PySem.F.args_list_index_2 _ _) (SeqAt.list_indexAt l items m none #[] (.str k t) (isTx k) (ss.idxOf k) hj' (by have : ss.idxOf k < 1000 := Nat.lt_of_lt_of_le hj hz; omega) ?_ ?_) ⟨hl, ?_, ?_⟩
  · obtain ⟨t2, e2⟩ := at_ _ hj' hj
    rw [e2]
    show decide (ss[ss.idxOf k] = k) = true
    rw [List.getElem_idxOf hj]; exact decide_eq_true rfl
  · intro i hi hlt
    obtain ⟨t2, e2⟩ := at_ i hi (Nat.lt_trans hlt hj)
    rw [e2]
    show decide (ss[i] = k) = false
    refine decide_eq_false fun h => ?_
    have := List.not_of_lt_findIdx (p := (· == k)) (xs := ss) (i := i) hlt
    simp [h] at this
  · intro y hy
    obtain ⟨i, hi, rfl⟩ := Array.mem_iff_getElem.mp hy
    obtain ⟨t2, e2⟩ := at_ i hi (by rw [← hlen, Array.length_toList]; exact hi)
    rw [e2]
    have := SeqAt.EqAt.str_str (A := F.A.in1) (s := s) (⟨ss[i], t2⟩ : Str × Tok).1 t2 (b := k) (u := t)
    exact this
  · exact Post.pure (.int _ _) (R.tok _) q
end
end Lay
end
noncomputable section
open PySem PySem.W PyProof.Rows PySem.Calls
set_option Elab.async false
set_option maxRecDepth 100000
set_option linter.all false
namespace Lay
variable {cg cr : Addr} {H : Hp} {g : GA} {t : GT}
theorem GrOk.newT (h : GrOk cg cr H g t) {k : Str} {a : Addr} {xs : List V} (hk : k ∉ kys t.tT) (hf : H.Fresh a) : GrOk cg cr { H with L := up H.L a xs, D := up H.D g.ts (dput (tof t.tT) k (.ref a)) } g { t with tT := t.tT ++ [(k, a, xs)] } := by
  have hl := h.freshL hf
  have nd := h.nd
  have hne : ∀ b ∈ GT.lists g t, b ≠ a := fun b hb e => hl (e ▸ hb)
  simp only [GA.dicts, List.nodup_cons, List.mem_cons, List.not_mem_nil, or_false, not_or, List.nodup_nil, not_false_eq_true, and_true] at nd
  obtain ⟨⟨a1, a2, a3, a4, a5, a6, a7, a8⟩, ⟨b1, b2, b3, b4, b5, b6, b7⟩, ⟨c1, c2, c3, c4, c5, c6⟩, ⟨d1, d2, d3, d4, d5⟩, ⟨e1, e2, e3, e4⟩, ⟨f1, f2, f3⟩, ⟨g1, g2⟩, i1⟩ := nd
  have keepT : ∀ {t' : Tab} {d : Addr}, Tb H d t' → d ≠ g.ts → (∀ b ∈ adr t', b ≠ a) → Tb { H with L := up H.L a xs, D := up H.D g.ts (dput (tof t.tT) k (.ref a)) } d t' := fun x hd hb => x.keep (up_ne hd) fun b hb' => up_ne (hb b hb')
  obtain ⟨fs, fs1, fs2⟩ := h.fs
  obtain ⟨ns, ns1, ns2⟩ := h.nD
  refine ⟨h.I, ⟨fs, upe a4 fs1, fs2⟩, h.nI, ⟨ns, upe b3 ns1, ns2⟩, upe c2 h.al, upe (hne _ (List.mem_cons_self ..)) h.ps, h.pm, h.tT.new hk (up_self _ _ _) (up_self _ _ _) (fun b hb => up_ne (hne b (mem_lists_T hb))), keepT h.tN (Ne.symm e1) fun b hb => hne b (mem_lists_N hb), keepT h.tR d1 fun b hb => hne b (mem_lists_R hb), upe (Ne.symm e2) h.fst, upe (Ne.symm e3) h.fol, upe (Ne.symm e4) h.pr, h.ups, h.gn, h.nd, ?_, ?_, h.kN, h.kR⟩
  · have : GT.lists g { t with tT := t.tT ++ [(k, a, xs)] } = g.prods :: ((adr t.tT ++ [a]) ++ (adr t.tN ++ adr t.tR)) := by simp [GT.lists, adr]
    rw [this]
    have p : (g.prods :: ((adr t.tT ++ [a]) ++ (adr t.tN ++ adr t.tR))).Perm (a :: GT.lists g t) := by
      unfold GT.lists
      refine (List.Perm.cons _ ?_).trans (List.Perm.swap _ _ _)
      refine (List.Perm.append_right _ List.perm_append_comm).trans ?_
      simp
    rw [p.nodup_iff, List.nodup_cons]
    exact ⟨hl, h.na⟩
  · have : kys (t.tT ++ [(k, a, xs)]) = kys t.tT ++ [k] := by simp [kys]
    show (kys (t.tT ++ [(k, a, xs)])).Nodup
    rw [this, List.nodup_append]
    exact ⟨h.kT, by simp, fun b hb c hc => by simp at hc; subst hc; exact fun e => hk (e ▸ hb)⟩
theorem Grown.newT {k : Str} {a : Addr} {xs : List V} {t1 : GT} (h : Grown H g t t1) (hf : H.Fresh a) : Grown H g t { t1 with tT := t1.tT ++ [(k, a, xs)] } := fun b hb => by
  have : GT.lists g { t1 with tT := t1.tT ++ [(k, a, xs)] } = g.prods :: ((adr t1.tT ++ [a]) ++ (adr t1.tN ++ adr t1.tR)) := by simp [GT.lists, adr]
  rw [this] at hb
  simp only [List.mem_cons, List.mem_append, List.not_mem_nil, or_false] at hb
  rcases hb with hb | (hb | hb) | hb | hb
  · exact h b (by rw [hb]; exact List.mem_cons_self ..)
  · exact h b (mem_lists_T hb)
  · subst hb; exact .inr hf
  · exact h b (mem_lists_N hb)
  · exact h b (mem_lists_R hb)
variable {m : Nat} {T N : List (Str × List V)} {H' : Hp} {t1 : GT}
theorem ApSt.keyT (h : ApSt cg cr H g t m (T, N) H' t1) {s : Str} {a : Addr} (hk : s ∉ kys t1.tT) (ha : H'.Fresh a) : ApSt cg cr H g t (m + 1) (addKey T s, N) { H' with L := up H'.L a [], D := up H'.D g.ts (dput (tof t1.tT) s (.ref a)) } { t1 with tT := t1.tT ++ [(s, a, [])] } := by
  have hu := h.uses
  injection hu with u1 u2
  have hf : H.Fresh a := h.ext.fresh ha
  have sz := h.sz.mono (Nat.le_succ m)
  refine ⟨h.gr.newT hk ha, ?_, h.grown.newT hf, ⟨?_, sz.N, sz.R, new_len sz.lT (by simp), sz.lN, sz.lR, sz.ps, sz.pm⟩, h.R, h.ps, h.pm, ⟨h.keeps.fst, h.keeps.fol, h.keeps.pr, h.keeps.ups, h.keeps.start⟩, ?_⟩
  · exact h.ext.of_foot ((Lay.extL (.inr ha)).trans (extD (.inl (foot_D (by simp [GA.dicts]))))) h.grown
  · show (kys (t1.tT ++ [(s, a, [])])).length ≤ m + 1
    rw [new_keys]; have := h.sz.T; omega
  · show (tcon (t1.tT ++ [(s, a, [])]), tcon t1.tN) = _
    have : s ∉ T.map (·.1) := by rw [← u1, tcon_keys]; exact hk
    unfold addKey
    rw [if_neg this, ← u1, ← u2]
    simp [tcon]
end Lay
end
noncomputable section
open PySem PySem.W PyProof.Rows PySem.Calls
set_option Elab.async false
set_option maxRecDepth 100000
set_option linter.all false
namespace Lay
section
variable {F : Fx} {n : Nat} {loc : Loc} {H : Hp} {nm : List (Str × NameKind)} {cl : List (Str × Addr)}
theorem eNeg {x : Expr} {i : Int} {pos : Pos} (h : Ev F x loc H (.int i)) : Ev F (.UnaryOp .USub x pos) loc H (.int (-i)) := fun _ q => WE_neg (h ⟨rfl, q⟩)
theorem Call_lenS {x : Str} {Q : V → Loc → Hp → Prop} (hz : x.length ≤ 1000000) (q : Q (.int x.length) loc H) : Call F (.raw (.builtin "len")) [.str x] loc H Q := fun B s v vs R rv rvs => by
  cases rv
  cases rvs with | cons ra r2 => ?_
  cases r2
  cases ra
  exact len_str (by omega) (Post.pure (.int _ _) (R.tok _) q)
theorem eAt {value ie : Expr} {pos : Pos} {x : Str} {i : Int} {c : Nat} (hv : Ev F value loc H (.str x)) (hi : Ev F ie loc H (.int i)) (h1 : -1000000 < i) (h2 : i < 1000000) (hc : (seqIndex? i x.length).bind (x.cps[·]?) = some c) (hk : PyData.strOk ⟨#[c]⟩ = true)
    (hs : ∀ o i, subscripted ie false o i = operate [o, i] (getItem o i) := by intro _ _; with_unfolding_all rfl) : Ev F (.Subscript value ie pos) loc H (.str ⟨#[c]⟩) := eSub hv hi (fun _ q => Sub_str h1 h2 hc hk q) hs
theorem bOr {a c : Expr} {pos : Pos} {p q' : Bool} (h1 : EvB F a loc H p) (h2 : p = false → EvB F c loc H q') : EvB F (.BoolOp .Or [a, c] pos) loc H (p || q') := fun Q q => WB_BoolOp (WAll_or_cons (h1 ⟨fun e => by subst e; exact q, fun e => WAll_or_cons (h2 e ⟨fun e2 => by subst e; subst e2; exact q, fun e2 => WAll_or_nil (by subst e; subst e2; exact q)⟩)⟩))
end
theorem RelVs.e5 {B : Keep} {vs : List Value} {M : List Value → Prop} {X Y Z T U : V} (r : RelVs B vs [X, Y, Z, T, U]) (h : ∀ v w u t o, RelV B v X → RelV B w Y → RelV B u Z → RelV B t T → RelV B o U → M [v, w, u, t, o]) : M vs := r.ec fun _ _ a r => r.e4 (M := fun l => M (_ :: l)) fun _ _ _ _ b c d e => h _ _ _ _ _ a b c d e
end Lay
end
noncomputable section
open PySem PySem.W PyProof.Rows PySem.Calls
set_option Elab.async false
set_option maxRecDepth 100000
set_option linter.all false
namespace Lay
section
variable {F : Fx} {n : Nat} {loc : Loc} {H : Hp} {nm : List (Str × NameKind)} {cl : List (Str × Addr)}
theorem eFrom {o lo : Expr} {name : Str} {ap p pos : Pos} {X : V} {xs : List V} {k : Nat} (hv : Ev F (.Attribute o name ap) loc H X) (hh : Ev F lo loc H (.int (k : Int))) (e : asL H X = some xs) (hz : xs.length ≤ 1000000) :
    Ev F (.Subscript (.Attribute o name ap) (.Slice (some lo) none none p) pos) loc H (.list (xs.drop k)) := fun _ q => by
  refine WE_SliceLA (hv (WOpt_some (hh ⟨(k : Int), rfl, WOpt_none ⟨xs, e, hz, (fun i z => by cases z; exact Int.natCast_nonneg k), (fun i z => by cases z), ?_⟩⟩)))
  have : cut xs (some (k : Int)) none = xs.drop k := by
    simp [cut]
    exact List.take_of_length_le (by rw [List.length_drop]; exact Nat.le_refl _)
  rw [this]; exact q
theorem eListD {x : Str} {np pos : Pos} {e : Expr} {d : Addr} {kvs : List (Str × V)} (ok : Ok F (n + 1)) (hf : Ev F (.Name x np) loc H (.raw (.type "list"))) (he : Ev F e loc H (.ref d)) (ed : H.D d = some kvs) (hz : kvs.length ≤ 100000)
    (hns : (backTo pos (starEach [e] F.env)).any (·.1) = false := by rfl) (hst : starEach (e :: []) F.env = (false, eval e F.env) :: starEach [] F.env := by rfl) : Ev F (.Call (.Name x np) [e] [] pos) loc H (.list (kvs.map fun p => .str p.1)) := fun _ q => WE_ListCallDF ok (hf ⟨rfl, he ⟨d, kvs, rfl, ed, hz, q⟩⟩) hns hst
theorem Call_lenD {d : Addr} {kvs : List (Str × V)} {Q : V → Loc → Hp → Prop} (e : H.D d = some kvs) (hz : kvs.length ≤ 1000000) (q : Q (.int kvs.length) loc H) : Call F (.raw (.builtin "len")) [.ref d] loc H Q := fun B s v vs R rv rvs => by
  cases rv
  cases rvs with | cons ra r2 => ?_
  cases r2
  cases ra
  obtain ⟨cs, h1, h2, h3⟩ := dict_at R e
  refine call_len_dict h3 h1 (by rw [h2.length]; omega) ?_
  rw [h2.length]
  exact Post.pure (.int _ _) (R.tok _) q
theorem bOr3 {a b c : Expr} {pos : Pos} (h1 : EvB F a loc H false) (h2 : EvB F b loc H false) (h3 : EvB F c loc H false) : EvB F (.BoolOp .Or [a, b, c] pos) loc H false := fun Q q =>
  WB_BoolOp (WAll_or_cons (h1 ⟨(fun e => absurd e Bool.false_ne_true), fun _ => WAll_or_cons (h2 ⟨(fun e => absurd e Bool.false_ne_true), fun _ => WAll_or_cons (h3 ⟨(fun e => absurd e Bool.false_ne_true), fun _ => WAll_or_nil q⟩)⟩)⟩))
theorem sForK {target iter : Expr} {body orelse : List Stmt} {pos : Pos} {d : Addr} {kvs : List (Str × V)} {Q : Fl → Loc → Hp → Prop} (hi : Ev F iter loc H (.ref d)) (ed : H.D d = some kvs) (k : ∀ ep, ForOn F target body orelse Q (keySt F.c.lo d kvs.length ep) loc { H with G := up H.G d ep }) (hs : ∀ x, foldedSetIterable iter F.env x = pure x := by intro _; rfl) : WS F (.For target iter body orelse pos) loc H Q :=
  WS_For (WIt_keys (hi ⟨d, kvs, rfl, ed, k⟩)) hs
theorem kNeX (ok : Ok F n) {X Y : V} {xs ys : List V} (ex : asL H X = some xs) (ey : asL H Y = some ys) (hx : (V.list xs).isD 20 = true) (hy : (V.list ys).isD 20 = true) : EvK F .NotEq X Y loc H (!eqV (.list xs) (.list ys)) := fun Q q => by
  have a1 : ∀ Z zs, asL H Z = some zs → asD H Z = .list zs := fun Z zs h => by
    cases Z <;> first | (cases h; done) | skip
    · injection h with h; subst h; rfl
    · show (match H.L _ with | some xs => V.list xs | none => _) = _
      rw [show H.L _ = some zs from h]
  refine Cmp_ne ok (by rw [a1 X xs ex]; exact hx) (by rw [a1 Y ys ey]; exact hy) ?_
  rw [a1 X xs ex, a1 Y ys ey]; exact q
theorem sComp0 {elt target iter : Expr} {scope : Scope} {pos p spos : Pos} {y : Str} {i : Nat} {X : V} {xs : List V} {f : V → Option V} {Q : Fl → Loc → Hp → Prop} (ok : Ok F (n + 1)) (hF : FrameIs F nm cl) (clos : List (Str × Addr)) (hy : look nm y = some (i, .local)) (hi : Ev F iter loc H X) (ex : asL H X = some xs) (hz : xs.length ≤ 100000)
    (ht : ∀ C sv E, Ok (CFx F scope clos C sv E) (n + 1) → ∀ (i : Nat) (x : V), xs[i]? = some x → CompTurn (CFx F scope clos C sv E) target elt [] (nones scope) H x (f x)) (q : Q .next (loc.set i (some (.list (xs.filterMap f)))) H)
    (hsw : swapsWith (.ListComp elt [⟨target, iter, [], 0⟩] scope pos) (some (.Name y p)) spos.line F.env = pure true)
    (hclos : closureFor scope F.env = pure clos) (hdbg : (relabel scope F.env).names.lookup ("__debug__" : Str) = none) (hcell : ∀ y ∈ scope.names, y.2 ≠ .cell := by decide) (hkind : scope.kind = .function := by rfl) (hnames : ∀ y ∈ scope.names, y.2 = .local → scope.names.lookup y.1 = some .local := by decide)
    (hs : ∀ x, foldedSetIterable iter F.env x = pure x := by intro _; rfl) : WS F (.Assign [.Name y p] (.ListComp elt [⟨target, iter, [], 0⟩] scope pos) spos) loc H Q :=
  WS_AssignComp ok clos (.inl rfl) (by rw [← hF.1] at hy; exact hy) hsw hclos hcell hkind hdbg hnames (WIt_list (hi ⟨xs, ex, xs, f, ⟨fun i => lstSt_mono i, hz, fun C sv E okc => ⟨lstSt_self, fun i x hx => ⟨Nxt_list ex hx, ht C sv E okc i x hx⟩, Nxt_list_end (okc.handled (Nat.succ_ne_zero _)) ex (Nat.le_refl _)⟩⟩, q⟩)) hs
end
end Lay
end
noncomputable section
open PySem PySem.W PyProof.Rows PySem.Calls
set_option Elab.async false
set_option maxRecDepth 100000
set_option linter.all false
namespace Lay
section
variable {F : Fx} {n : Nat} {loc : Loc} {H : Hp} {nm : List (Str × NameKind)} {cl : List (Str × Addr)}
theorem Cmp_notNone {X : V} {b : Bool} {Q : Bool → Loc → Hp → Prop} (hX : (match X with | .none => false | .raw _ => true | _ => true) = b) (hr : notRaw X = true) (q : Q b loc H) : Cmp F .IsNot X .none loc H Q := fun B s v u R rv ru => by
  cases ru
  subst hX
  cases rv <;> first | (cases hr; done) | exact wpAny_isNot_plain rfl (Post.pure rfl R q)
theorem WE_Dict3 {k1 k2 k3 v1 v2 v3 : Expr} {pos : Pos} {Q : V → Loc → Hp → Prop}
    (h : ∀ a, H.Fresh a → WPs F [(k1, v1), (k2, v2), (k3, v3)] pos loc { H with D := up H.D a [] } fun kvs l1 H1 => H1.D a = some [] ∧ H1.G a = none ∧ Q (.ref a) l1 { H1 with D := up H1.D a (kvs.foldl (fun d p => dput d p.1 p.2) []) }) : WE F (.Dict [some k1, some k2, some k3] [v1, v2, v3] pos) loc H Q :=
  WE_DictD [(k1, v1), (k2, v2), (k3, v3)] rfl (by simp) (by simp) h
end
end Lay
end
noncomputable section
open PySem PySem.W PyProof.Rows PySem.Calls
set_option Elab.async false
set_option maxRecDepth 100000
set_option linter.all false
set_option maxHeartbeats 8000000
namespace Lay.W1
noncomputable abbrev rw0 := PySem.Challenge.rw_iw0034_03
noncomputable abbrev pw := PySem.Challenge.pw_iw0034_03
noncomputable def tops : List Stmt := pw.main.body
noncomputable def ta (i : Nat) : Option Stmt := tops[i]?
noncomputable def clB : Option Stmt → List Stmt
  | some (.ClassDef _ _ _ b _ _ _ _ _ _ _) => b
  | _ => []
noncomputable def tm (i j : Nat) : Option Stmt := (clB (ta i))[j]?
noncomputable def fnA : Option Stmt → Arguments
  | some (.FunctionDef _ a _ _ _ _ _ _ _ _) => a
  | _ => { posonlyargs := [], args := [], vararg := none, kwonlyargs := [], kw_defaults := [], kwarg := none, defaults := [] }
noncomputable def fnB : Option Stmt → List Stmt
  | some (.FunctionDef _ _ b _ _ _ _ _ _ _) => b
  | _ => []
noncomputable def en (P : Params) (k : Str) (t : Tok) (v : Value) : DictEntry := { hash := PyData.keyHash P k, key := .str k t, val := v }
noncomputable def tp (xs : Array Value) : Obj := { cls := .type "tuple", data := Data.seq xs }
noncomputable def K (P : Params) : Frag :=
[(2, { cls := .none, data := Data.dict #[en P "type.__subclasses__.Exception.0" 212 (.int 31 0), en P "type.__subclasses__.Exception.n" 213 (.int 1 0)] 2 }),
 (3, { cls := .type "dict", data := Data.dict #[en P "__name__" 165 (.str "law_iw0034_03" 518), en P "__doc__" 166 (.none), en P "__package__" 167 (.none), en P "__loader__" 168 (.builtin "__main__.__loader__#opaque"), en P "__spec__" 169 (.none), en P "__annotations__" 170 (.ref 6), en P "__builtins__" 171 (.ref 4), en P "__file__" 173 (.str "/claim/cut.py" 172), en P "__cached__" 174 (.none), en P "_wall" 193 (.ref 21), en P "YaccError" 215 (.ref 31), en P "Production" 294 (.ref 68), en P "rightmost_terminal" 303 (.ref 79), en P "GrammarError" 319 (.ref 89), en P "Grammar" 488 (.ref 217), en P "RuleNames" 517 (.ref 238), en P "_law_heads" 525 (.ref 249), en P "_law_signs" 531 (.ref 256), en P "_law_words" 537 (.ref 263), en P "_law_ranked" 543 (.ref 270), en P "_law_kinds" 549 (.ref 277), en P "_law_row" 562 (.ref 284), en P "_law_read" 572 (.ref 291), en P "_law_taken" 578 (.ref 296), en P "_law_stands" 584 (.ref 301), en P "law" 590 (.ref 306)] 26 }),
 (15, tp #[]),
 (17, tp #[.str "k" 190]),
 (18, tp #[]),
 (20, { cls := .type "code", data := Data.fields #[.str "_wall" 187, .str "_wall" 188, .str "/claim/cut.py" 189, .int 1 0, .int 1 0, .int 0 0, .int 0 0, .int 3 0, .ref 15, .bool true, .int 181 0, .ref 16, .none, .ref 17, .ref 18, .ref 19, .int 191 0, .int 1 0, .str "/claim/cut.py" 192] }),
 (21, { cls := .type "function", data := Data.func { name := "_wall", qualname := "_wall", params := fnA (ta 0), body := .stmts (fnB (ta 0)), scope := { kind := .function, names := [("k", .local)], isGenerator := false, isCoroutine := false }, globals := 3, closure := [], defaults := .none, kwdefaults := .none, pyModule := .str "__main__" 164, code := .ref 20 } }),
 (22, tp #[.type "Exception"]),
 (29, tp #[]),
 (30, { cls := .type "dict", data := Data.dict #[en P "__module__" 203 (.str "sly.yacc" 194), en P "__firstlineno__" 207 (.int 5 206), en P "__static_attributes__" 208 (.ref 29), en P "__weakref__" 210 (.ref 32), en P "__doc__" 211 (.none)] 3 }),
 (31, { cls := .type "type", data := Data.cls { name := "YaccError", bases := [.type "Exception"], mro := [.ref 31, .type "Exception", .type "BaseException", .type "object"], ns := 30, qualname := "YaccError", subclasses := [.ref 89] }, slots := #[some (.ref 22), none, some (.str "YaccError" 196), some (.str "YaccError" 204), some (.builtin "Exception.__new__"), some (.bool true)] }),
 (32, { cls := .type "getset_descriptor", data := Data.fields #[.str "__weakref__" 209, .ref 31, .builtin "ExceptionGroup.__weakref__", .none] }),
 (35, tp #[.type "object"]),
 (42, tp #[.str "right" 232, .int 0 233]),
 (43, tp #[]),
 (44, tp #[.ref 42, .none, .str "" 234, .int 0 235, .ref 43]),
 (45, tp #[]),
 (47, tp #[.str "self" 239, .str "number" 240, .str "name" 241, .str "prod" 242, .str "precedence" 243, .str "func" 244, .str "file" 245, .str "line" 246, .str "aliases" 247, .str "n" 248, .str "s" 249, .str "namecount" 250, .str "key" 251, .str "nameuse" 252, .str "namemap" 253, .str "index" 254, .str "k" 255, .str "alias" 256]),
 (48, tp #[]),
 (50, { cls := .type "code", data := Data.fields #[.str "__init__" 236, .str "Production.__init__" 237, .str "/claim/cut.py" 238, .int 11 0, .int 9 0, .int 0 0, .int 0 0, .int 3 0, .ref 45, .bool true, .int 181 0, .ref 46, .none, .ref 47, .ref 48, .ref 49, .int 257 0, .int 11 0, .str "/claim/cut.py" 258] }),
 (51, { cls := .type "function", data := Data.func { name := "__init__", qualname := "Production.__init__", params := fnA (tm 3 2), body := .stmts (fnB (tm 3 2)), scope := { kind := .function, names := [("self", .local), ("number", .local), ("name", .local), ("prod", .local), ("precedence", .local), ("func", .local), ("file", .local), ("line", .local), ("aliases", .local), ("n", .local), ("s", .local), ("namecount", .local), ("key", .local), ("nameuse", .local), ("namemap", .local), ("index", .local), ("k", .local), ("alias", .local), ("tuple", .globalImplicit), ("len", .globalImplicit), ("enumerate", .globalImplicit)], isGenerator := false, isCoroutine := false }, globals := 3, closure := [], defaults := .ref 44, kwdefaults := .none, pyModule := .str "sly.yacc" 194, code := .ref 50 } }),
 (52, tp #[]),
 (54, tp #[.str "self" 263]),
 (55, tp #[]),
 (57, { cls := .type "code", data := Data.fields #[.str "__len__" 260, .str "Production.__len__" 261, .str "/claim/cut.py" 262, .int 51 0, .int 1 0, .int 0 0, .int 0 0, .int 3 0, .ref 52, .bool true, .int 181 0, .ref 53, .none, .ref 54, .ref 55, .ref 56, .int 264 0, .int 51 0, .str "/claim/cut.py" 265] }),
 (58, { cls := .type "function", data := Data.func { name := "__len__", qualname := "Production.__len__", params := fnA (tm 3 3), body := .stmts (fnB (tm 3 3)), scope := { kind := .function, names := [("self", .local), ("len", .globalImplicit)], isGenerator := false, isCoroutine := false }, globals := 3, closure := [], defaults := .none, kwdefaults := .none, pyModule := .str "sly.yacc" 194, code := .ref 57 } }),
 (59, tp #[]),
 (61, tp #[.str "self" 270, .str "index" 271]),
 (62, tp #[]),
 (64, { cls := .type "code", data := Data.fields #[.str "__getitem__" 267, .str "Production.__getitem__" 268, .str "/claim/cut.py" 269, .int 54 0, .int 2 0, .int 0 0, .int 0 0, .int 3 0, .ref 59, .bool true, .int 181 0, .ref 60, .none, .ref 61, .ref 62, .ref 63, .int 272 0, .int 54 0, .str "/claim/cut.py" 273] }),
 (65, { cls := .type "function", data := Data.func { name := "__getitem__", qualname := "Production.__getitem__", params := fnA (tm 3 4), body := .stmts (fnB (tm 3 4)), scope := { kind := .function, names := [("self", .local), ("index", .local)], isGenerator := false, isCoroutine := false }, globals := 3, closure := [], defaults := .none, kwdefaults := .none, pyModule := .str "sly.yacc" 194, code := .ref 64 } }),
 (66, tp #[.str "file" 275, .str "func" 276, .str "len" 277, .str "line" 278, .str "lr_items" 279, .str "lr_next" 280, .str "name" 281, .str "namemap" 282, .str "number" 283, .str "prec" 284, .str "prod" 285, .str "usyms" 286]),
 (67, { cls := .type "dict", data := Data.dict #[en P "__module__" 223 (.str "sly.yacc" 194), en P "__firstlineno__" 227 (.int 7 226), en P "reduced" 229 (.int 0 228), en P "lr0_added" 231 (.int 0 230), en P "__init__" 259 (.ref 51), en P "__len__" 266 (.ref 58), en P "__getitem__" 274 (.ref 65), en P "__static_attributes__" 287 (.ref 66), en P "__dict__" 289 (.ref 69), en P "__weakref__" 291 (.ref 70), en P "__doc__" 292 (.none)] 4 }),
 (68, { cls := .type "type", data := Data.cls { name := "Production", bases := [.type "object"], mro := [.ref 68, .type "object"], ns := 67, qualname := "Production" }, slots := #[some (.ref 35), none, some (.str "Production" 216), some (.str "Production" 224), some (.builtin "object.__new__"), some (.bool true)] }),
 (69, { cls := .type "getset_descriptor", data := Data.fields #[.str "__dict__" 288, .ref 68, .builtin "function.__dict__", .builtin "function.__dict__#set"] }),
 (70, { cls := .type "getset_descriptor", data := Data.fields #[.str "__weakref__" 290, .ref 68, .builtin "ExceptionGroup.__weakref__", .none] }),
 (73, tp #[]),
 (75, tp #[.str "symbols" 298, .str "terminals" 299, .str "i" 300]),
 (76, tp #[]),
 (78, { cls := .type "code", data := Data.fields #[.str "rightmost_terminal" 295, .str "rightmost_terminal" 296, .str "/claim/cut.py" 297, .int 56 0, .int 2 0, .int 0 0, .int 0 0, .int 3 0, .ref 73, .bool true, .int 181 0, .ref 74, .none, .ref 75, .ref 76, .ref 77, .int 301 0, .int 56 0, .str "/claim/cut.py" 302] }),
 (79, { cls := .type "function", data := Data.func { name := "rightmost_terminal", qualname := "rightmost_terminal", params := fnA (ta 4), body := .stmts (fnB (ta 4)), scope := { kind := .function, names := [("symbols", .local), ("terminals", .local), ("i", .local), ("len", .globalImplicit)], isGenerator := false, isCoroutine := false }, globals := 3, closure := [], defaults := .none, kwdefaults := .none, pyModule := .str "sly.yacc" 194, code := .ref 78 } }),
 (80, tp #[.ref 31]),
 (87, tp #[]),
 (88, { cls := .type "dict", data := Data.dict #[en P "__module__" 311 (.str "sly.yacc" 194), en P "__firstlineno__" 315 (.int 63 314), en P "__static_attributes__" 316 (.ref 87), en P "__doc__" 317 (.none)] 2 }),
 (89, { cls := .type "type", data := Data.cls { name := "GrammarError", bases := [.ref 31], mro := [.ref 89, .ref 31, .type "Exception", .type "BaseException", .type "object"], ns := 88, qualname := "GrammarError" }, slots := #[some (.ref 80), none, some (.str "GrammarError" 304), some (.str "GrammarError" 312), some (.builtin "Exception.__new__"), some (.bool true)] }),
 (92, tp #[.type "object"]),
 (99, tp #[.none]),
 (100, tp #[]),
 (102, tp #[.str "self" 335, .str "terminals" 336, .str "names" 337, .str "term" 338]),
 (103, tp #[]),
 (105, { cls := .type "code", data := Data.fields #[.str "__init__" 332, .str "Grammar.__init__" 333, .str "/claim/cut.py" 334, .int 67 0, .int 3 0, .int 0 0, .int 0 0, .int 3 0, .ref 100, .bool true, .int 181 0, .ref 101, .none, .ref 102, .ref 103, .ref 104, .int 339 0, .int 67 0, .str "/claim/cut.py" 340] }),
 (106, { cls := .type "function", data := Data.func { name := "__init__", qualname := "Grammar.__init__", params := fnA (tm 6 0), body := .stmts (fnB (tm 6 0)), scope := { kind := .function, names := [("self", .local), ("terminals", .local), ("names", .local), ("term", .local), ("RuleNames", .globalImplicit), ("set", .globalImplicit)], isGenerator := false, isCoroutine := false }, globals := 3, closure := [], defaults := .ref 99, kwdefaults := .none, pyModule := .str "sly.yacc" 194, code := .ref 105 } }),
 (107, tp #[]),
 (109, tp #[.str "self" 345]),
 (110, tp #[]),
 (112, { cls := .type "code", data := Data.fields #[.str "__len__" 342, .str "Grammar.__len__" 343, .str "/claim/cut.py" 344, .int 83 0, .int 1 0, .int 0 0, .int 0 0, .int 3 0, .ref 107, .bool true, .int 181 0, .ref 108, .none, .ref 109, .ref 110, .ref 111, .int 346 0, .int 83 0, .str "/claim/cut.py" 347] }),
 (113, { cls := .type "function", data := Data.func { name := "__len__", qualname := "Grammar.__len__", params := fnA (tm 6 1), body := .stmts (fnB (tm 6 1)), scope := { kind := .function, names := [("self", .local), ("len", .globalImplicit)], isGenerator := false, isCoroutine := false }, globals := 3, closure := [], defaults := .none, kwdefaults := .none, pyModule := .str "sly.yacc" 194, code := .ref 112 } }),
 (114, tp #[]),
 (116, tp #[.str "self" 352, .str "index" 353]),
 (117, tp #[]),
 (119, { cls := .type "code", data := Data.fields #[.str "__getitem__" 349, .str "Grammar.__getitem__" 350, .str "/claim/cut.py" 351, .int 86 0, .int 2 0, .int 0 0, .int 0 0, .int 3 0, .ref 114, .bool true, .int 181 0, .ref 115, .none, .ref 116, .ref 117, .ref 118, .int 354 0, .int 86 0, .str "/claim/cut.py" 355] }),
 (120, { cls := .type "function", data := Data.func { name := "__getitem__", qualname := "Grammar.__getitem__", params := fnA (tm 6 2), body := .stmts (fnB (tm 6 2)), scope := { kind := .function, names := [("self", .local), ("index", .local)], isGenerator := false, isCoroutine := false }, globals := 3, closure := [], defaults := .none, kwdefaults := .none, pyModule := .str "sly.yacc" 194, code := .ref 119 } }),
 (121, tp #[]),
 (123, tp #[.str "self" 360, .str "term" 361, .str "assoc" 362, .str "level" 363]),
 (124, tp #[]),
 (126, { cls := .type "code", data := Data.fields #[.str "set_precedence" 357, .str "Grammar.set_precedence" 358, .str "/claim/cut.py" 359, .int 89 0, .int 4 0, .int 0 0, .int 0 0, .int 3 0, .ref 121, .bool true, .int 181 0, .ref 122, .none, .ref 123, .ref 124, .ref 125, .int 364 0, .int 89 0, .str "/claim/cut.py" 365] }),
 (127, { cls := .type "function", data := Data.func { name := "set_precedence", qualname := "Grammar.set_precedence", params := fnA (tm 6 3), body := .stmts (fnB (tm 6 3)), scope := { kind := .function, names := [("self", .local), ("term", .local), ("assoc", .local), ("level", .local), ("GrammarError", .globalImplicit)], isGenerator := false, isCoroutine := false }, globals := 3, closure := [], defaults := .none, kwdefaults := .none, pyModule := .str "sly.yacc" 194, code := .ref 126 } }),
 (128, tp #[.none, .str "" 367, .int 0 368]),
 (129, tp #[]),
 (131, tp #[.str "self" 372, .str "prodname" 373, .str "syms" 374, .str "func" 375, .str "file" 376, .str "line" 377, .str "n" 378, .str "s" 379, .str "c" 380, .str "precname" 381, .str "prodprec" 382, .str "map" 383, .str "pnumber" 384, .str "t" 385, .str "p" 386]),
 (132, tp #[]),
 (134, { cls := .type "code", data := Data.fields #[.str "add_production" 369, .str "Grammar.add_production" 370, .str "/claim/cut.py" 371, .int 97 0, .int 6 0, .int 0 0, .int 0 0, .int 3 0, .ref 129, .bool true, .int 181 0, .ref 130, .none, .ref 131, .ref 132, .ref 133, .int 387 0, .int 97 0, .str "/claim/cut.py" 388] }),
 (135, { cls := .type "function", data := Data.func { name := "add_production", qualname := "Grammar.add_production", params := fnA (tm 6 4), body := .stmts (fnB (tm 6 4)), scope := { kind := .function, names := [("self", .local), ("prodname", .local), ("syms", .local), ("func", .local), ("file", .local), ("line", .local), ("n", .local), ("s", .local), ("c", .local), ("precname", .local), ("prodprec", .local), ("map", .local), ("pnumber", .local), ("t", .local), ("p", .local), ("GrammarError", .globalImplicit), ("enumerate", .globalImplicit), ("len", .globalImplicit), ("rightmost_terminal", .globalImplicit), ("tuple", .globalImplicit), ("Production", .globalImplicit), ("KeyError", .globalImplicit)], isGenerator := false, isCoroutine := false }, globals := 3, closure := [], defaults := .ref 128, kwdefaults := .none, pyModule := .str "sly.yacc" 194, code := .ref 134 } }),
 (136, tp #[.none]),
 (137, tp #[]),
 (139, tp #[.str "self" 393, .str "start" 394]),
 (140, tp #[]),
 (142, { cls := .type "code", data := Data.fields #[.str "set_start" 390, .str "Grammar.set_start" 391, .str "/claim/cut.py" 392, .int 147 0, .int 2 0, .int 0 0, .int 0 0, .int 3 0, .ref 137, .bool true, .int 181 0, .ref 138, .none, .ref 139, .ref 140, .ref 141, .int 395 0, .int 147 0, .str "/claim/cut.py" 396] }),
 (143, { cls := .type "function", data := Data.func { name := "set_start", qualname := "Grammar.set_start", params := fnA (tm 6 5), body := .stmts (fnB (tm 6 5)), scope := { kind := .function, names := [("self", .local), ("start", .local), ("GrammarError", .globalImplicit), ("Production", .globalImplicit)], isGenerator := false, isCoroutine := false }, globals := 3, closure := [], defaults := .ref 136, kwdefaults := .none, pyModule := .str "sly.yacc" 194, code := .ref 142 } }),
 (144, tp #[]),
 (146, tp #[.str "self" 401]),
 (147, tp #[]),
 (149, { cls := .type "code", data := Data.fields #[.str "find_unreachable" 398, .str "Grammar.find_unreachable" 399, .str "/claim/cut.py" 400, .int 156 0, .int 1 0, .int 0 0, .int 0 0, .int 3 0, .ref 144, .bool true, .int 181 0, .ref 145, .none, .ref 146, .ref 147, .ref 148, .int 402 0, .int 156 0, .str "/claim/cut.py" 403] }),
 (150, { cls := .type "function", data := Data.func { name := "find_unreachable", qualname := "Grammar.find_unreachable", params := fnA (tm 6 6), body := .stmts (fnB (tm 6 6)), scope := { kind := .function, names := [("self", .local), ("_wall", .globalImplicit)], isGenerator := false, isCoroutine := false }, globals := 3, closure := [], defaults := .none, kwdefaults := .none, pyModule := .str "sly.yacc" 194, code := .ref 149 } }),
 (151, tp #[]),
 (153, tp #[.str "self" 408]),
 (154, tp #[]),
 (156, { cls := .type "code", data := Data.fields #[.str "infinite_cycles" 405, .str "Grammar.infinite_cycles" 406, .str "/claim/cut.py" 407, .int 159 0, .int 1 0, .int 0 0, .int 0 0, .int 3 0, .ref 151, .bool true, .int 181 0, .ref 152, .none, .ref 153, .ref 154, .ref 155, .int 409 0, .int 159 0, .str "/claim/cut.py" 410] }),
 (157, { cls := .type "function", data := Data.func { name := "infinite_cycles", qualname := "Grammar.infinite_cycles", params := fnA (tm 6 7), body := .stmts (fnB (tm 6 7)), scope := { kind := .function, names := [("self", .local), ("_wall", .globalImplicit)], isGenerator := false, isCoroutine := false }, globals := 3, closure := [], defaults := .none, kwdefaults := .none, pyModule := .str "sly.yacc" 194, code := .ref 156 } }),
 (158, tp #[]),
 (160, tp #[.str "self" 415]),
 (161, tp #[]),
 (163, { cls := .type "code", data := Data.fields #[.str "undefined_symbols" 412, .str "Grammar.undefined_symbols" 413, .str "/claim/cut.py" 414, .int 162 0, .int 1 0, .int 0 0, .int 0 0, .int 3 0, .ref 158, .bool true, .int 181 0, .ref 159, .none, .ref 160, .ref 161, .ref 162, .int 416 0, .int 162 0, .str "/claim/cut.py" 417] }),
 (164, { cls := .type "function", data := Data.func { name := "undefined_symbols", qualname := "Grammar.undefined_symbols", params := fnA (tm 6 8), body := .stmts (fnB (tm 6 8)), scope := { kind := .function, names := [("self", .local), ("_wall", .globalImplicit)], isGenerator := false, isCoroutine := false }, globals := 3, closure := [], defaults := .none, kwdefaults := .none, pyModule := .str "sly.yacc" 194, code := .ref 163 } }),
 (165, tp #[]),
 (167, tp #[.str "self" 422]),
 (168, tp #[]),
 (170, { cls := .type "code", data := Data.fields #[.str "unused_terminals" 419, .str "Grammar.unused_terminals" 420, .str "/claim/cut.py" 421, .int 165 0, .int 1 0, .int 0 0, .int 0 0, .int 3 0, .ref 165, .bool true, .int 181 0, .ref 166, .none, .ref 167, .ref 168, .ref 169, .int 423 0, .int 165 0, .str "/claim/cut.py" 424] }),
 (171, { cls := .type "function", data := Data.func { name := "unused_terminals", qualname := "Grammar.unused_terminals", params := fnA (tm 6 9), body := .stmts (fnB (tm 6 9)), scope := { kind := .function, names := [("self", .local), ("_wall", .globalImplicit)], isGenerator := false, isCoroutine := false }, globals := 3, closure := [], defaults := .none, kwdefaults := .none, pyModule := .str "sly.yacc" 194, code := .ref 170 } }),
 (172, tp #[]),
 (174, tp #[.str "self" 429]),
 (175, tp #[]),
 (177, { cls := .type "code", data := Data.fields #[.str "unused_rules" 426, .str "Grammar.unused_rules" 427, .str "/claim/cut.py" 428, .int 168 0, .int 1 0, .int 0 0, .int 0 0, .int 3 0, .ref 172, .bool true, .int 181 0, .ref 173, .none, .ref 174, .ref 175, .ref 176, .int 430 0, .int 168 0, .str "/claim/cut.py" 431] }),
 (178, { cls := .type "function", data := Data.func { name := "unused_rules", qualname := "Grammar.unused_rules", params := fnA (tm 6 10), body := .stmts (fnB (tm 6 10)), scope := { kind := .function, names := [("self", .local), ("_wall", .globalImplicit)], isGenerator := false, isCoroutine := false }, globals := 3, closure := [], defaults := .none, kwdefaults := .none, pyModule := .str "sly.yacc" 194, code := .ref 177 } }),
 (179, tp #[]),
 (181, tp #[.str "self" 436]),
 (182, tp #[]),
 (184, { cls := .type "code", data := Data.fields #[.str "unused_precedence" 433, .str "Grammar.unused_precedence" 434, .str "/claim/cut.py" 435, .int 171 0, .int 1 0, .int 0 0, .int 0 0, .int 3 0, .ref 179, .bool true, .int 181 0, .ref 180, .none, .ref 181, .ref 182, .ref 183, .int 437 0, .int 171 0, .str "/claim/cut.py" 438] }),
 (185, { cls := .type "function", data := Data.func { name := "unused_precedence", qualname := "Grammar.unused_precedence", params := fnA (tm 6 11), body := .stmts (fnB (tm 6 11)), scope := { kind := .function, names := [("self", .local), ("_wall", .globalImplicit)], isGenerator := false, isCoroutine := false }, globals := 3, closure := [], defaults := .none, kwdefaults := .none, pyModule := .str "sly.yacc" 194, code := .ref 184 } }),
 (186, tp #[]),
 (188, tp #[.str "self" 443, .str "beta" 444]),
 (189, tp #[]),
 (191, { cls := .type "code", data := Data.fields #[.str "_first" 440, .str "Grammar._first" 441, .str "/claim/cut.py" 442, .int 174 0, .int 2 0, .int 0 0, .int 0 0, .int 3 0, .ref 186, .bool true, .int 181 0, .ref 187, .none, .ref 188, .ref 189, .ref 190, .int 445 0, .int 174 0, .str "/claim/cut.py" 446] }),
 (192, { cls := .type "function", data := Data.func { name := "_first", qualname := "Grammar._first", params := fnA (tm 6 12), body := .stmts (fnB (tm 6 12)), scope := { kind := .function, names := [("self", .local), ("beta", .local), ("_wall", .globalImplicit)], isGenerator := false, isCoroutine := false }, globals := 3, closure := [], defaults := .none, kwdefaults := .none, pyModule := .str "sly.yacc" 194, code := .ref 191 } }),
 (193, tp #[]),
 (195, tp #[.str "self" 451]),
 (196, tp #[]),
 (198, { cls := .type "code", data := Data.fields #[.str "compute_first" 448, .str "Grammar.compute_first" 449, .str "/claim/cut.py" 450, .int 177 0, .int 1 0, .int 0 0, .int 0 0, .int 3 0, .ref 193, .bool true, .int 181 0, .ref 194, .none, .ref 195, .ref 196, .ref 197, .int 452 0, .int 177 0, .str "/claim/cut.py" 453] }),
 (199, { cls := .type "function", data := Data.func { name := "compute_first", qualname := "Grammar.compute_first", params := fnA (tm 6 13), body := .stmts (fnB (tm 6 13)), scope := { kind := .function, names := [("self", .local), ("_wall", .globalImplicit)], isGenerator := false, isCoroutine := false }, globals := 3, closure := [], defaults := .none, kwdefaults := .none, pyModule := .str "sly.yacc" 194, code := .ref 198 } }),
 (200, tp #[.none]),
 (201, tp #[]),
 (203, tp #[.str "self" 458, .str "start" 459]),
 (204, tp #[]),
 (206, { cls := .type "code", data := Data.fields #[.str "compute_follow" 455, .str "Grammar.compute_follow" 456, .str "/claim/cut.py" 457, .int 180 0, .int 2 0, .int 0 0, .int 0 0, .int 3 0, .ref 201, .bool true, .int 181 0, .ref 202, .none, .ref 203, .ref 204, .ref 205, .int 460 0, .int 180 0, .str "/claim/cut.py" 461] }),
 (207, { cls := .type "function", data := Data.func { name := "compute_follow", qualname := "Grammar.compute_follow", params := fnA (tm 6 14), body := .stmts (fnB (tm 6 14)), scope := { kind := .function, names := [("self", .local), ("start", .local), ("_wall", .globalImplicit)], isGenerator := false, isCoroutine := false }, globals := 3, closure := [], defaults := .ref 200, kwdefaults := .none, pyModule := .str "sly.yacc" 194, code := .ref 206 } }),
 (208, tp #[]),
 (210, tp #[.str "self" 466]),
 (211, tp #[]),
 (213, { cls := .type "code", data := Data.fields #[.str "build_lritems" 463, .str "Grammar.build_lritems" 464, .str "/claim/cut.py" 465, .int 183 0, .int 1 0, .int 0 0, .int 0 0, .int 3 0, .ref 208, .bool true, .int 181 0, .ref 209, .none, .ref 210, .ref 211, .ref 212, .int 467 0, .int 183 0, .str "/claim/cut.py" 468] }),
 (214, { cls := .type "function", data := Data.func { name := "build_lritems", qualname := "Grammar.build_lritems", params := fnA (tm 6 15), body := .stmts (fnB (tm 6 15)), scope := { kind := .function, names := [("self", .local), ("_wall", .globalImplicit)], isGenerator := false, isCoroutine := false }, globals := 3, closure := [], defaults := .none, kwdefaults := .none, pyModule := .str "sly.yacc" 194, code := .ref 213 } }),
 (215, tp #[.str "First" 470, .str "Follow" 471, .str "Nonterminals" 472, .str "Precedence" 473, .str "Prodmap" 474, .str "Prodnames" 475, .str "Productions" 476, .str "Start" 477, .str "Terminals" 478, .str "UsedPrecedence" 479, .str "names" 480]),
 (216, { cls := .type "dict", data := Data.dict #[en P "__module__" 327 (.str "sly.yacc" 194), en P "__firstlineno__" 331 (.int 65 330), en P "__init__" 341 (.ref 106), en P "__len__" 348 (.ref 113), en P "__getitem__" 356 (.ref 120), en P "set_precedence" 366 (.ref 127), en P "add_production" 389 (.ref 135), en P "set_start" 397 (.ref 143), en P "find_unreachable" 404 (.ref 150), en P "infinite_cycles" 411 (.ref 157), en P "undefined_symbols" 418 (.ref 164), en P "unused_terminals" 425 (.ref 171), en P "unused_rules" 432 (.ref 178), en P "unused_precedence" 439 (.ref 185), en P "_first" 447 (.ref 192), en P "compute_first" 454 (.ref 199), en P "compute_follow" 462 (.ref 207), en P "build_lritems" 469 (.ref 214), en P "__static_attributes__" 481 (.ref 215), en P "__dict__" 483 (.ref 218), en P "__weakref__" 485 (.ref 219), en P "__doc__" 486 (.none)] 4 }),
 (217, { cls := .type "type", data := Data.cls { name := "Grammar", bases := [.type "object"], mro := [.ref 217, .type "object"], ns := 216, qualname := "Grammar" }, slots := #[some (.ref 92), none, some (.str "Grammar" 320), some (.str "Grammar" 328), some (.builtin "object.__new__"), some (.bool true)] }),
 (218, { cls := .type "getset_descriptor", data := Data.fields #[.str "__dict__" 482, .ref 217, .builtin "function.__dict__", .builtin "function.__dict__#set"] }),
 (219, { cls := .type "getset_descriptor", data := Data.fields #[.str "__weakref__" 484, .ref 217, .builtin "ExceptionGroup.__weakref__", .none] }),
 (229, tp #[]),
 (231, tp #[.str "self" 504]),
 (232, tp #[]),
 (234, { cls := .type "code", data := Data.fields #[.str "__init__" 501, .str "RuleNames.__init__" 502, .str "/claim/cut.py" 503, .int 187 0, .int 1 0, .int 0 0, .int 0 0, .int 3 0, .ref 229, .bool true, .int 181 0, .ref 230, .none, .ref 231, .ref 232, .ref 233, .int 505 0, .int 187 0, .str "/claim/cut.py" 506] }),
 (235, { cls := .type "function", data := Data.func { name := "__init__", qualname := "RuleNames.__init__", params := fnA (tm 7 0), body := .stmts (fnB (tm 7 0)), scope := { kind := .function, names := [("self", .local)], isGenerator := false, isCoroutine := false }, globals := 3, closure := [], defaults := .none, kwdefaults := .none, pyModule := .str "sly.yacc" 194, code := .ref 234 } }),
 (236, tp #[.str "aliases" 508, .str "gencount" 509]),
 (237, { cls := .type "dict", data := Data.dict #[en P "__module__" 496 (.str "sly.yacc" 194), en P "__firstlineno__" 500 (.int 185 499), en P "__init__" 507 (.ref 235), en P "__static_attributes__" 510 (.ref 236), en P "__dict__" 512 (.ref 239), en P "__weakref__" 514 (.ref 240), en P "__doc__" 515 (.none)] 4 }),
 (238, { cls := .type "type", data := Data.cls { name := "RuleNames", bases := [.type "object"], mro := [.ref 238, .type "object"], ns := 237, qualname := "RuleNames" }, slots := #[none, none, some (.str "RuleNames" 489), some (.str "RuleNames" 497), some (.builtin "object.__new__"), some (.bool true)] }),
 (239, { cls := .type "getset_descriptor", data := Data.fields #[.str "__dict__" 511, .ref 238, .builtin "function.__dict__", .builtin "function.__dict__#set"] }),
 (240, { cls := .type "getset_descriptor", data := Data.fields #[.str "__weakref__" 513, .ref 238, .builtin "ExceptionGroup.__weakref__", .none] }),
 (243, tp #[]),
 (245, tp #[]),
 (246, tp #[]),
 (248, { cls := .type "code", data := Data.fields #[.str "_law_heads" 520, .str "_law_heads" 521, .str "/claim/cut.py" 522, .int 191 0, .int 0 0, .int 0 0, .int 0 0, .int 3 0, .ref 243, .bool true, .int 181 0, .ref 244, .none, .ref 245, .ref 246, .ref 247, .int 523 0, .int 191 0, .str "/claim/cut.py" 524] }),
 (249, { cls := .type "function", data := Data.func { name := "_law_heads", qualname := "_law_heads", params := fnA (ta 9), body := .stmts (fnB (ta 9)), scope := { kind := .function, names := [], isGenerator := false, isCoroutine := false }, globals := 3, closure := [], defaults := .none, kwdefaults := .none, pyModule := .str "law_iw0034_03" 518, code := .ref 248 } }),
 (250, tp #[]),
 (252, tp #[]),
 (253, tp #[]),
 (255, { cls := .type "code", data := Data.fields #[.str "_law_signs" 526, .str "_law_signs" 527, .str "/claim/cut.py" 528, .int 193 0, .int 0 0, .int 0 0, .int 0 0, .int 3 0, .ref 250, .bool true, .int 181 0, .ref 251, .none, .ref 252, .ref 253, .ref 254, .int 529 0, .int 193 0, .str "/claim/cut.py" 530] }),
 (256, { cls := .type "function", data := Data.func { name := "_law_signs", qualname := "_law_signs", params := fnA (ta 10), body := .stmts (fnB (ta 10)), scope := { kind := .function, names := [], isGenerator := false, isCoroutine := false }, globals := 3, closure := [], defaults := .none, kwdefaults := .none, pyModule := .str "law_iw0034_03" 518, code := .ref 255 } }),
 (257, tp #[]),
 (259, tp #[]),
 (260, tp #[]),
 (262, { cls := .type "code", data := Data.fields #[.str "_law_words" 532, .str "_law_words" 533, .str "/claim/cut.py" 534, .int 195 0, .int 0 0, .int 0 0, .int 0 0, .int 3 0, .ref 257, .bool true, .int 181 0, .ref 258, .none, .ref 259, .ref 260, .ref 261, .int 535 0, .int 195 0, .str "/claim/cut.py" 536] }),
 (263, { cls := .type "function", data := Data.func { name := "_law_words", qualname := "_law_words", params := fnA (ta 11), body := .stmts (fnB (ta 11)), scope := { kind := .function, names := [], isGenerator := false, isCoroutine := false }, globals := 3, closure := [], defaults := .none, kwdefaults := .none, pyModule := .str "law_iw0034_03" 518, code := .ref 262 } }),
 (264, tp #[]),
 (266, tp #[]),
 (267, tp #[]),
 (269, { cls := .type "code", data := Data.fields #[.str "_law_ranked" 538, .str "_law_ranked" 539, .str "/claim/cut.py" 540, .int 197 0, .int 0 0, .int 0 0, .int 0 0, .int 3 0, .ref 264, .bool true, .int 181 0, .ref 265, .none, .ref 266, .ref 267, .ref 268, .int 541 0, .int 197 0, .str "/claim/cut.py" 542] }),
 (270, { cls := .type "function", data := Data.func { name := "_law_ranked", qualname := "_law_ranked", params := fnA (ta 12), body := .stmts (fnB (ta 12)), scope := { kind := .function, names := [], isGenerator := false, isCoroutine := false }, globals := 3, closure := [], defaults := .none, kwdefaults := .none, pyModule := .str "law_iw0034_03" 518, code := .ref 269 } }),
 (271, tp #[]),
 (273, tp #[]),
 (274, tp #[]),
 (276, { cls := .type "code", data := Data.fields #[.str "_law_kinds" 544, .str "_law_kinds" 545, .str "/claim/cut.py" 546, .int 199 0, .int 0 0, .int 0 0, .int 0 0, .int 3 0, .ref 271, .bool true, .int 181 0, .ref 272, .none, .ref 273, .ref 274, .ref 275, .int 547 0, .int 199 0, .str "/claim/cut.py" 548] }),
 (277, { cls := .type "function", data := Data.func { name := "_law_kinds", qualname := "_law_kinds", params := fnA (ta 13), body := .stmts (fnB (ta 13)), scope := { kind := .function, names := [], isGenerator := false, isCoroutine := false }, globals := 3, closure := [], defaults := .none, kwdefaults := .none, pyModule := .str "law_iw0034_03" 518, code := .ref 276 } }),
 (278, tp #[]),
 (280, tp #[.str "number" 553, .str "rest" 554, .str "size" 555, .str "row" 556, .str "k" 557, .str "form" 558, .str "word" 559]),
 (281, tp #[]),
 (283, { cls := .type "code", data := Data.fields #[.str "_law_row" 550, .str "_law_row" 551, .str "/claim/cut.py" 552, .int 201 0, .int 1 0, .int 0 0, .int 0 0, .int 3 0, .ref 278, .bool true, .int 181 0, .ref 279, .none, .ref 280, .ref 281, .ref 282, .int 560 0, .int 201 0, .str "/claim/cut.py" 561] }),
 (284, { cls := .type "function", data := Data.func { name := "_law_row", qualname := "_law_row", params := fnA (ta 14), body := .stmts (fnB (ta 14)), scope := { kind := .function, names := [("number", .local), ("rest", .local), ("size", .local), ("row", .local), ("k", .local), ("form", .local), ("word", .local), ("range", .globalImplicit), ("_law_signs", .globalImplicit), ("_law_words", .globalImplicit), ("_law_heads", .globalImplicit)], isGenerator := false, isCoroutine := false }, globals := 3, closure := [], defaults := .none, kwdefaults := .none, pyModule := .str "law_iw0034_03" 518, code := .ref 283 } }),
 (285, tp #[]),
 (287, tp #[.str "row" 566, .str "tokens" 567, .str "bare" 568, .str "sign" 569]),
 (288, tp #[]),
 (290, { cls := .type "code", data := Data.fields #[.str "_law_read" 563, .str "_law_read" 564, .str "/claim/cut.py" 565, .int 212 0, .int 2 0, .int 0 0, .int 0 0, .int 3 0, .ref 285, .bool true, .int 181 0, .ref 286, .none, .ref 287, .ref 288, .ref 289, .int 570 0, .int 212 0, .str "/claim/cut.py" 571] }),
 (291, { cls := .type "function", data := Data.func { name := "_law_read", qualname := "_law_read", params := fnA (ta 15), body := .stmts (fnB (ta 15)), scope := { kind := .function, names := [("row", .local), ("tokens", .local), ("bare", .local), ("sign", .local), ("len", .globalImplicit)], isGenerator := false, isCoroutine := false }, globals := 3, closure := [], defaults := .none, kwdefaults := .none, pyModule := .str "law_iw0034_03" 518, code := .ref 290 } }),
 (292, tp #[]),
 (295, { cls := .type "code", data := Data.fields #[.str "_law_taken" 573, .str "_law_taken" 574, .str "/claim/cut.py" 575, .int 224 0, .int 5 0, .int 0 0, .int 0 0, .int 3 0, .ref 292, .bool true, .int 181 0, .ref 293, .none, .none, .none, .ref 294, .int 576 0, .int 224 0, .str "/claim/cut.py" 577] }),
 (296, { cls := .type "function", data := Data.func { name := "_law_taken", qualname := "_law_taken", params := fnA (ta 16), body := .stmts (fnB (ta 16)), scope := { kind := .function, names := [("head", .cell), ("row", .local), ("rules", .local), ("tokens", .local), ("ranks", .local), ("bare", .cell), ("place", .local), ("rank", .local), ("sign", .local), ("_law_read", .globalImplicit), ("len", .globalImplicit)], isGenerator := false, isCoroutine := false, more := [("fast", Const.str "head"), ("fast", Const.str "row"), ("fast", Const.str "rules"), ("fast", Const.str "tokens"), ("fast", Const.str "ranks"), ("fast", Const.str "bare"), ("fast", Const.str "place"), ("fast", Const.str "rank"), ("fast", Const.str "sign"), ("fast", Const.str "rule")] }, globals := 3, closure := [], defaults := .none, kwdefaults := .none, pyModule := .str "law_iw0034_03" 518, code := .ref 295 } }),
 (297, tp #[]),
 (300, { cls := .type "code", data := Data.fields #[.str "_law_stands" 579, .str "_law_stands" 580, .str "/claim/cut.py" 581, .int 244 0, .int 5 0, .int 0 0, .int 0 0, .int 3 0, .ref 297, .bool true, .int 181 0, .ref 298, .none, .none, .none, .ref 299, .int 582 0, .int 244 0, .str "/claim/cut.py" 583] }),
 (301, { cls := .type "function", data := Data.func { name := "_law_stands", qualname := "_law_stands", params := fnA (ta 17), body := .stmts (fnB (ta 17)), scope := { kind := .function, names := [("grammar", .local), ("rules", .local), ("names", .local), ("tokens", .local), ("ranks", .local), ("told", .local), ("token", .local), ("heads", .local), ("rule", .local), ("name", .local), ("list", .globalImplicit), ("len", .globalImplicit)], isGenerator := false, isCoroutine := false, more := [("fast", Const.str "grammar"), ("fast", Const.str "rules"), ("fast", Const.str "names"), ("fast", Const.str "tokens"), ("fast", Const.str "ranks"), ("fast", Const.str "p"), ("fast", Const.str "told"), ("fast", Const.str "token"), ("fast", Const.str "heads"), ("fast", Const.str "rule"), ("fast", Const.str "name")] }, globals := 3, closure := [], defaults := .none, kwdefaults := .none, pyModule := .str "law_iw0034_03" 518, code := .ref 300 } }),
 (302, tp #[]),
 (305, { cls := .type "code", data := Data.fields #[.str "law" 585, .str "law" 586, .str "/claim/cut.py" 587, .int 263 0, .int 1 0, .int 0 0, .int 0 0, .int 3 0, .ref 302, .bool true, .int 181 0, .ref 303, .none, .none, .none, .ref 304, .int 588 0, .int 263 0, .str "/claim/cut.py" 589] }),
 (306, { cls := .type "function", data := Data.func { name := "law", qualname := "law", params := fnA (ta 18), body := .stmts (fnB (ta 18)), scope := { kind := .function, names := [("script", .cell), ("k", .local), ("mix", .local), ("grammar", .local), ("ranks", .local), ("rules", .local), ("names", .local), ("tokens", .local), ("word", .local), ("kind", .local), ("refused", .local), ("number", .local), ("head", .local), ("row", .local), ("rule", .local), ("sign", .local), ("start", .local), ("first", .local), ("sum", .globalImplicit), ("range", .globalImplicit), ("len", .globalImplicit), ("Grammar", .globalImplicit), ("_law_ranked", .globalImplicit), ("_law_kinds", .globalImplicit), ("GrammarError", .globalImplicit), ("_law_row", .globalImplicit), ("_law_taken", .globalImplicit), ("list", .globalImplicit), ("_law_stands", .globalImplicit)], isGenerator := false, isCoroutine := false, more := [("fast", Const.str "script"), ("fast", Const.str "k"), ("fast", Const.str "mix"), ("fast", Const.str "grammar"), ("fast", Const.str "ranks"), ("fast", Const.str "rules"), ("fast", Const.str "names"), ("fast", Const.str "tokens"), ("fast", Const.str "word"), ("fast", Const.str "kind"), ("fast", Const.str "refused"), ("fast", Const.str "number"), ("fast", Const.str "head"), ("fast", Const.str "row"), ("fast", Const.str "rule"), ("fast", Const.str "sign"), ("fast", Const.str "start"), ("fast", Const.str "first")] }, globals := 3, closure := [], defaults := .none, kwdefaults := .none, pyModule := .str "law_iw0034_03" 518, code := .ref 305 } })]

noncomputable def kAdr : List Addr := [2, 3, 15, 17, 18, 20, 21, 22, 29, 30, 31, 32, 35, 42, 43, 44, 45, 47, 48, 50, 51, 52, 54, 55, 57, 58, 59, 61, 62, 64, 65, 66, 67, 68, 69, 70, 73, 75, 76, 78, 79, 80, 87, 88, 89, 92, 99, 100, 102, 103, 105, 106, 107, 109, 110, 112, 113, 114, 116, 117, 119, 120, 121, 123, 124, 126, 127, 128, 129, 131, 132, 134, 135, 136, 137, 139, 140, 142, 143, 144, 146, 147, 149, 150, 151, 153, 154, 156, 157, 158, 160, 161, 163, 164, 165, 167, 168, 170, 171, 172, 174, 175, 177, 178, 179, 181, 182, 184, 185, 186, 188, 189, 191, 192, 193, 195, 196, 198, 199, 200, 201, 203, 204, 206, 207, 208, 210, 211, 213, 214, 215, 216, 217, 218, 219, 229, 231, 232, 234, 235, 236, 237, 238, 239, 240, 243, 245, 246, 248, 249, 250, 252, 253, 255, 256, 257, 259, 260, 262, 263, 264, 266, 267, 269, 270, 271, 273, 274, 276, 277, 278, 280, 281, 283, 284, 285, 287, 288, 290, 291, 292, 295, 296, 297, 300, 301, 302, 305, 306]
theorem kAdr_eq : ∀ P : Params, kAdr = (K P).map (·.1) := fun P => by kernel_rfl
noncomputable def kH : Hook := kHook K kAdr kAdr_eq
noncomputable def qv : Program := PySem.W.view pw [18]
noncomputable def qLoose : List PySem.Str := ["_wall", "__name__", "YaccError", "Production", "rightmost_terminal", "GrammarError", "Grammar", "RuleNames", "_law_heads", "_law_signs", "_law_words", "_law_ranked", "_law_kinds", "_law_row", "_law_read", "_law_taken", "_law_stands"]
noncomputable def qX (s : Shared) : Bool := xlAt qv [] s && recOk (RowW.records rw0.row.toRowW) s
theorem left_q (w : World) : ((((PySem.W.Fast.tw10274390034422433532 PySem.W.Fast.tw14364793385576792824 (opening pw) w 5000 (PySem.W.Fast.tw1435165496053646825 (opening pw)).1 (PySem.W.Fast.tw1435165496053646825 (opening pw)).2).bind (PySem.W.Fast.tw14289696077712309145 pw)).bind fun s₀ => match s₀.heap.isNs mainGlobals && s₀.gens.size == 0 with
  | true => (PySem.W.Fast.tw14082659384304107361 PySem.W.Fast.tw14364793385576792824 pw w s₀.heap.objs.size (PySem.W.Fast.tw8920871248978507458 s₀.heap mainGlobals "__annotations__") 5000 s₀ (topStub pw)).bind fun s₁ => match staticsOk (importedModules pw.main.body) s₀.heap s₁.heap && namesBound pw s₁.heap && gensDone s₁ && laidKept s₀.heap s₁.heap with
      | true => some s₁
      | false => none
  | false => none).map fun s => (PySem.W.Fast.tw4187177175401517315 qv qLoose (importedModules pw.main.body) qX true s, Hook.obs kH s)) = some (openGood qv qLoose, Hook.val kH w) := by kernel_rfl
theorem left_ : LeftO pw qv qLoose qX (Hook.obs kH) (Hook.val kH) 5000 := fun w => by
  have h := left_q w
  rw [← PySem.W.Fast.te10274390034422433532, ← PySem.W.Fast.te14364793385576792824, ← PySem.W.Fast.te1435165496053646825, ← PySem.W.Fast.te14289696077712309145, ← PySem.W.Fast.te14082659384304107361, ← PySem.W.Fast.te8920871248978507458, ← PySem.W.Fast.te4187177175401517315] at h
  exact h
theorem said_q : PySem.W.Fast.tw9446332074065402090 rw0 = true := by kernel_rfl
theorem said_ : rw0.wellSaid = true := by
  have h := said_q
  rw [← PySem.W.Fast.te9446332074065402090] at h
  exact h
end Lay.W1
end
noncomputable section
open PySem PySem.W PyProof.Rows PySem.Calls
set_option Elab.async false
set_option maxRecDepth 100000
set_option linter.all false
namespace Lay.W1
variable {P : Params} {F : Fx} {n : Nat} {loc : Loc} {H : Hp}

theorem rn_init {L : Addr → Option (List V)} {D : Addr → Option (List (Str × V))} {Pd : Addr → Option (List (Str × List Str))} {S : Addr → Option ((Str → Bool) × Nat)} {I : Addr → Option (Addr × Addr)} {C : Addr → Option (Option V)} {G : Addr → Option Nat}
    (ok : Ok F (n + 1)) (W : Wd (K P) F.c.base) {x d : Addr} {Q : V → Loc → Hp → Prop} (eI : I x = some (238, d)) (eG : G d = none)
    (q : ∀ a fs, a ≠ d → Hp.Fresh ⟨L, D, Pd, S, I, C, G⟩ a → dget fs "aliases" = some (.ref a) → Q .none loc ⟨L, up (up D a []) d fs, Pd, S, I, C, G⟩) : CCall F 235 [.ref x] [] [] loc ⟨L, up D d [], Pd, S, I, C, G⟩ Q := by
  refine defP ok W ["self"] (Vs := [.ref x]) rfl rfl rfl rfl rfl rfl ?_ rfl ?_
  · intro vs ws B r1 r2 le
    apply r2.e0
    apply r1.e1
    intro _ a
    exact ⟨[_], Looks.of_peek W.k rfl, .cons a .nil⟩
  · intro F' ok tp W hF
    refine WSs_cons (WS_AssignT (WE_int (WA_attr (gLoc ok hF (X := .ref x) rfl rfl (setF2 ok W eI eG (by decide) fun f1 p1 => ?_)))))
    have l1 : f1.length ≤ 1 := p1.len
    refine WSs_cons (WS_AssignT (WE_Dict0 fun a ha => WA_attr (gLoc ok hF (X := .ref x) rfl rfl (setF3 ok W eI eG (by omega) (frD ha).1.symm fun f2 p2 => ?_))))
    exact WSs_nil (q a f2 (frD ha).1 (frD ha).2 p2.here)
end Lay.W1
end
noncomputable section
open PySem PySem.W PyProof.Rows PySem.Calls
set_option Elab.async false
set_option maxRecDepth 100000
set_option linter.all false
namespace Lay.W1
variable {P : Params} {F : Fx} {n : Nat} {loc : Loc} {H H1 : Hp}
theorem txt_small : ∀ z : Nat, z ≤ 100 → (Str.ofString (toString (z : Int))).length ≤ 10000 := by decide +kernel
theorem upE {α : Type} {f : Addr → Option α} {a b : Addr} {x : α} {y : Option α} (h : b ≠ a) (e : f b = y) : up f a x b = y := upe h e
noncomputable def PrF (fs : List (Str × V)) (num : Int) (nm : Str) (syms : List Str) (prec : V) : Prop :=
  dget fs "name" = some (.str nm) ∧ dget fs "prod" = some (.tup (syms.map .str)) ∧ dget fs "number" = some (.int num) ∧ dget fs "prec" = some prec
theorem up_two {α : Type} {f : Addr → Option α} {a b : Addr} {x y x' y' : α} (h : a ≠ b) : up (up (up (up f a x) b y) a x') b y' = up (up f a x') b y' := by
  funext c
  by_cases e : c = b
  · subst e; rw [up_self, up_self]
  · rw [up_ne e, up_ne e]
    by_cases e' : c = a
    · subst e'; rw [up_self, up_self]
    · rw [up_ne e', up_ne e', up_ne e, up_ne e']
structure PB (H H1 : Hp) (x d : Addr) (f : List (Str × V)) : Prop where
  e : H1 = { H with D := up H.D d f }
  eI : H.I x = some (68, d)
  eG : ∀ a, H.G a = none
theorem PB.I {x d f} (h : PB H H1 x d f) : H1.I x = some (68, d) := by rw [h.e]; exact h.eI
theorem PB.D {x d f} (h : PB H H1 x d f) : H1.D d = some f := by rw [h.e]; exact up_self _ _ _
theorem PB.G {x d f} (h : PB H H1 x d f) (a : Addr) : H1.G a = none := by rw [h.e]; exact h.eG a
theorem setP (ok : Ok F n) (W : Wd (K P) F.c.base) {x d : Addr} {fs : List (Str × V)} {name : Str} {Z : V} {Q : Loc → Hp → Prop} (h : PB H H1 x d fs) (hz : fs.length ≤ 900)
    (q : ∀ fs' H2, Put fs name Z fs' → PB H H2 x d fs' → Q loc H2) (ho : setOk (K P) 68 name = true := by rfl) (hn : PyData.strOk name = true := by exact ofString_ok _) : SetA F name (.ref x) Z loc H1 Q :=
  setF ok W h.I h.D (h.G d) hz (fun fs' hp => q _ _ hp ⟨by rw [h.e]; simp [up_up], h.eI, h.eG⟩) ho hn
noncomputable def PL (x al : Addr) (a9 a10 a11 a12 a13 a14 a15 a16 : Option V) : Loc := [some (.ref x), none, none, none, none, none, none, none, some (.ref al), a9, a10, a11, a12, a13, a14, a15, a16, none, none, none, none]
inductive Pi1 (x : Addr) (d : Addr) (al : Addr) (H : Hp) (u : Addr) (fs : List (Str × V)) (i : Nat) (l : Loc) (H' : Hp) : Prop
  | mk (us : List Str) (a9 : Option V) (a10 : Option V) (_ : List.length (α := Str) us ≤ i) (_ : l = PL x al a9 a10 none none none none none none) (_ : { H with L := up H.L u (us.map .str), D := up H.D d fs } = H') : Pi1 x d al H u fs i l H'
inductive Pi2 (x : Addr) (al : Addr) (syms : List Str) (H : Hp) (nc : Addr) (i : Nat) (l : Loc) (H' : Hp) : Prop
  | mk (cs : List (Str × V)) (a12 : Option V) (_ : List.length cs ≤ i) (_ : (∀ k, (∃ z : Nat, dget cs k = some (.int z) ∧ 1 ≤ z ∧ z ≤ i) ∨ (dget cs k = none ∧ k ∉ syms.take i))) (_ : l = PL x al none none (some (.ref nc)) a12 none none none none) (_ : { H with D := up H.D nc cs } = H') : Pi2 x al syms H nc i l H'
inductive Pi3 (x : Addr) (al : Addr) (H : Hp) (nc : Addr) (cs : List (Str × V)) (nu : Addr) (mp : Addr) (i : Nat) (l : Loc) (H' : Hp) : Prop
  | mk (us : List (Str × V)) (ms : List (Str × V)) (a12 : Option V) (a15 : Option V) (a16 : Option V) (_ : List.length us ≤ i) (_ : List.length ms ≤ i) (_ : (∀ k, (∃ z : Nat, (dget us k).getD (.int 0) = .int z ∧ z ≤ i))) (_ : l = PL x al none none (some (.ref nc)) a12 (some (.ref nu)) (some (.ref mp)) a15 a16) (_ : { H with D := up (up (up H.D nc cs) nu us) mp ms } = H') : Pi3 x al H nc cs nu mp i l H'
theorem pr_gen (ok : Ok F (n + 2)) (W : Wd (K P) F.c.base) {x d al : Addr} {num : Int} {nm : Str} {PV prec fn fi li : V} {syms : List Str} {Q : V → Loc → Hp → Prop} {kws : List Str} {Xs Ws : List V} (hb : ∀ fd, kFd (K P) 51 = some fd → BindTo F.M F.c.base fd kws ["self", "number", "name", "prod", "precedence", "func", "file", "line", "aliases"] Xs Ws [.ref x, .int num, .str nm, PV, prec, fn, fi, li, .ref al])
    (eI : H.I x = some (68, d)) (eD : H.D d = some []) (hG : ∀ a, H.G a = none) (eA : H.D al = some []) (hne : al ≠ d) (eP : asL H PV = some (syms.map .str)) (hz : syms.length ≤ 100) (hl : ∀ s ∈ syms, s.length ≤ 1000)
    (q : ∀ fs, PrF fs num nm syms prec → Q .none loc { H with D := up H.D d fs }) :
    CCall F 51 Xs kws Ws loc H Q := by
  refine defP ok W ["self", "number", "name", "prod", "precedence", "func", "file", "line", "aliases"] (Vs := [.ref x, .int num, .str nm, PV, prec, fn, fi, li, .ref al]) rfl rfl rfl rfl rfl rfl ?_ rfl ?_
  · exact hb _ rfl
  · intro F' ok tp W hF
    have hz' : (syms.map V.str).length ≤ 1000000 := by rw [List.length_map]; omega
    have b0 : PB H H x d [] := ⟨by rw [up_id eD], eI, hG⟩
    refine WSs_cons (WS_AssignT (gLoc ok hF rfl rfl (WA_attr (gLoc ok hF rfl rfl (setP ok W b0 (by decide) fun f1 H1 p1 b1 => ?_)))))
    have l1 : f1.length ≤ 1 := p1.len
    have eP1 : asL H1 PV = some (syms.map .str) := by rw [b1.e]; exact eP
    refine WSs_cons (WS_AssignT (WE_CallN (gBi ok W hF rfl rfl (by boot_by_name) (by decide) (WEs_cons (gLoc ok hF rfl rfl (WEs_nil ⟨keepB ok, Call_tuple (xs := syms.map .str) eP1 hz' (WA_attr (gLoc ok hF rfl rfl (setP ok W b1 (Nat.le_trans l1 (by decide)) fun f2 H2 p2 b2 => ?_)))⟩))))))
    have l2 : f2.length ≤ 2 := Nat.le_trans p2.len (Nat.succ_le_succ l1)
    refine WSs_cons (WS_AssignT (gLoc ok hF rfl rfl (WA_attr (gLoc ok hF rfl rfl (setP ok W b2 (Nat.le_trans l2 (by decide)) fun f3 H3 p3 b3 => ?_)))))
    have l3 : f3.length ≤ 3 := Nat.le_trans p3.len (Nat.succ_le_succ l2)
    refine WSs_cons (WS_AssignT (gLoc ok hF rfl rfl (WA_attr (gLoc ok hF rfl rfl (setP ok W b3 (Nat.le_trans l3 (by decide)) fun f4 H4 p4 b4 => ?_)))))
    have l4 : f4.length ≤ 4 := Nat.le_trans p4.len (Nat.succ_le_succ l3)
    refine WSs_cons (WS_AssignT (gLoc ok hF rfl rfl (WA_attr (gLoc ok hF rfl rfl (setP ok W b4 (Nat.le_trans l4 (by decide)) fun f5 H5 p5 b5 => ?_)))))
    have l5 : f5.length ≤ 5 := Nat.le_trans p5.len (Nat.succ_le_succ l4)
    refine WSs_cons (WS_AssignT (gLoc ok hF rfl rfl (WA_attr (gLoc ok hF rfl rfl (setP ok W b5 (Nat.le_trans l5 (by decide)) fun f6 H6 p6 b6 => ?_)))))
    have l6 : f6.length ≤ 6 := Nat.le_trans p6.len (Nat.succ_le_succ l5)
    refine WSs_cons (WS_AssignT (gLoc ok hF rfl rfl (WA_attr (gLoc ok hF rfl rfl (setP ok W b6 (Nat.le_trans l6 (by decide)) fun f7 H7 p7 b7 => ?_)))))
    have l7 : f7.length ≤ 7 := Nat.le_trans p7.len (Nat.succ_le_succ l6)
    have g7 : PrF f7 num nm syms prec := ⟨p7.old (p6.old (p5.old (p4.old (p3.old (p2.old p1.here))))), p7.old (p6.old (p5.old (p4.old (p3.old p2.here)))), p7.old (p6.old (p5.old (p4.old p3.here))), p7.here⟩
    refine WSs_pre (loc' := PL x al none none none none none none none none) (H' := H7) ?_ (by unfold PL; exact (by repeat (first | exact LocSub.refl _ | refine LocSub.same ?_ | refine LocSub.drop ?_))) (Hp.Sub.refl _)
    clear p1 p2 p3 p4 p5 p6 p7 b0 b1 b2 b3 b4 b5 b6 l1 l2 l3 l4 l5 l6 eP1 eP
    refine WSs_cons (WS_AssignT (WE_CallN (gBi ok W hF rfl rfl (by boot_by_name) (by decide) (WEs_cons (WE_Attr (gLoc ok hF rfl rfl (getA ok W b7.I b7.D g7.2.1 rfl (WEs_nil ⟨keepB ok, Call_len_tup hz' (WA_attr (gLoc ok hF rfl rfl (setP ok W b7 (Nat.le_trans l7 (by decide)) fun f8 H8 p8 b8 => ?_)))⟩))))))))
    have l8 : f8.length ≤ 8 := Nat.le_trans p8.len (Nat.succ_le_succ l7)
    have g8 : PrF f8 num nm syms prec := ⟨p8.old g7.1, p8.old g7.2.1, p8.old g7.2.2.1, p8.old g7.2.2.2⟩
    have q8 : ∀ fs, PrF fs num nm syms prec → Q .none loc { H8 with D := up H8.D d fs } := fun fs h => by
      have := q fs h
      rw [b8.e]; simpa only [up_up] using this
    have eI : H8.I x = some (68, d) := b8.I
    have eD : H8.D d = some f8 := b8.D
    have hG : ∀ a, H8.G a = none := b8.G
    have eA : H8.D al = some [] := by rw [b8.e]; exact upe hne eA
    clear p8 g7 b7 b8 q l7
    generalize H8 = H at *
    refine WSs_cons (WS_AssignT (WE_List (WEs_nil ⟨by decide, fun u hu => WA_attr (gLoc ok hF rfl rfl (setF ok W eI eD (hG d) (Nat.le_trans l8 (by decide)) fun fs p9 => ?_))⟩)))
    have g1 : PrF fs num nm syms prec := ⟨p9.old g8.1, p9.old g8.2.1, p9.old g8.2.2.1, p9.old g8.2.2.2⟩
    have g2 : dget fs "usyms" = some (.ref u) := p9.here
    have g3 : fs.length ≤ 9 := Nat.le_trans p9.len (Nat.succ_le_succ l8)
    have hul : H.L u = none := hu.l
    clear p9 g8 hu l8
    -- the first loop
    refine WSs_cons (WS_For (WIt_enum (gBi ok W hF rfl rfl (by boot_by_name) (by decide) ⟨rfl, WEs_cons (WE_Attr (gLoc ok hF rfl rfl (getA ok W eI (up_self _ _ _) g1.2.1 rfl (WEs_nil ⟨_, rfl, .inr ⟨_, rfl, ?_⟩⟩))))⟩)))
    refine ForOnV (fun i => entSt_mono i) (syms.map V.str).length (Pi1 x d al H u fs) ⟨[], none, none, by simp, rfl, rfl⟩ ?_ ?_
    · rintro i Q1 b1 l H' hi ⟨us, a9, a10, hus, rfl, rfl⟩
      have hi' : i < syms.length := by simpa using hi
      have hx : (syms.map V.str)[i]? = some (.str syms[i]) := by simp [hi']
      generalize syms[i] = s at hx
      refine ⟨.tup [.int i, .str s], Nxt_ent ok hx, ?_⟩
      refine WA_tuple ok.inl rfl (tLoc ok.inl hF rfl (tLoc ok.inl hF rfl ?_))
      refine WSs_cons (WS_If (WB_Compare (gLoc ok.inl hF rfl rfl (WE_Attr (gLoc ok.inl hF rfl rfl (getA ok.inl W eI (up_self _ _ _) g2 rfl (Cmp_notIn ok.inl (xs := us.map .str) (up_self _ _ _) rfl (by simp [V.isD]) ⟨fun _ => ?_, fun _ => ?_⟩)))))))
      · refine WSs_cons (sExpr ok.inl (WE_CallM (WE_Attr (gLoc ok.inl hF rfl rfl (getA ok.inl W eI (up_self _ _ _) g2 rfl (MGet_append (up_self _ _ _) (WEs_cons (gLoc ok.inl hF rfl rfl (WEs_nil ⟨keepB ok.inl, Call_append (xs := us.map .str) (up_self _ _ _) (by rw [List.length_map]; omega) (WSs_nil (WSs_nil (b1.n ⟨us ++ [s], _, _, by rw [List.length_append]; exact Nat.succ_le_succ hus, rfl, by rw [up_up]; simp⟩)))⟩)))))))))
      · exact WSs_nil (WSs_nil (b1.n ⟨us, _, _, Nat.le_succ_of_le hus, rfl, rfl⟩))
    · rintro l H' ⟨us, a9, a10, hus, rfl, rfl⟩
      refine ⟨Nxt_ent_end ok rfl, WSs_nil ?_⟩
      refine WSs_pre (loc' := PL x al none none none none none none none none) (H' := { H with D := up H.D d fs }) ?_ (by unfold PL; exact (by repeat (first | exact LocSub.refl _ | refine LocSub.same ?_ | refine LocSub.drop ?_))) (subL hul)
      have eA : (up H.D d fs) al = some [] := upe hne eA
      have eD : (up H.D d fs) d = some fs := up_self _ _ _
      have q : ∀ fs', PrF fs' num nm syms prec → Q .none loc { ({ H with D := up H.D d fs } : Hp) with D := up (up H.D d fs) d fs' } := fun fs' h => by
        have := q8 fs' h
        simpa only [up_up] using this
      have eI : ({ H with D := up H.D d fs } : Hp).I x = some (68, d) := eI
      have hG : ∀ a, ({ H with D := up H.D d fs } : Hp).G a = none := hG
      change ({ H with D := up H.D d fs } : Hp).D al = _ at eA
      change ({ H with D := up H.D d fs } : Hp).D d = _ at eD
      change ∀ fs', _ → Q .none loc { ({ H with D := up H.D d fs } : Hp) with D := up ({ H with D := up H.D d fs } : Hp).D d fs' } at q
      clear g2 hus us a9 a10 hul q8
      generalize ({ H with D := up H.D d fs } : Hp) = H at *
      -- the counts
      refine WSs_cons (sAsg ok hF rfl (WE_Dict0 fun nc hnc => ?_))
      have hncd : d ≠ nc := hnc.neD eD
      have hnca : al ≠ nc := hnc.neD eA
      have hncD := hnc.d
      refine WSs_cons (WS_For (WIt_tup (WE_Attr (gLoc ok hF rfl rfl (getA ok W eI (upe hncd eD) g1.2.1 rfl ⟨_, rfl, ?_⟩)))))
      refine ForOnV (fun i => tupSt_mono i) (syms.map V.str).length (Pi2 x al syms H nc) ⟨[], none, by simp, fun k => .inr ⟨rfl, by simp⟩, rfl, rfl⟩ ?_ ?_
      · rintro i Q2 b2 l H' hi ⟨cs, a12, hcl, hcs, rfl, rfl⟩
        have hi' : i < syms.length := by simpa using hi
        have hx : (syms.map V.str)[i]? = some (.str syms[i]) := by simp [hi']
        have htk : syms.take (i + 1) = syms.take i ++ [syms[i]] := take_snoc hi'
        have hi9 : i ≤ 100000 := by omega
        generalize syms[i] = s at hx htk
        refine ⟨.str s, Nxt_tup hx, tLoc ok.inl hF rfl ?_⟩
        have eNC : (up H.D nc cs) nc = some cs := up_self _ _ _
        refine WSs_cons (WS_AssignT (WE_BinOp (WE_CallM (gLoc ok.inl hF rfl rfl (MGet_dget eNC (WEs_cons (gLoc ok.inl hF rfl rfl (WEs_cons (WE_int (WEs_nil ⟨keepB ok.inl, Call_dget2 eNC ?_⟩))))))))))
        obtain ⟨z, hz1, hz2⟩ : ∃ z : Nat, (dget cs s).getD (.int 0) = .int z ∧ z ≤ i := by
          rcases hcs s with ⟨z, h1, h2, h3⟩ | ⟨h1, _⟩
          · exact ⟨z, by rw [h1]; rfl, h3⟩
          · exact ⟨0, by rw [h1]; rfl, Nat.zero_le _⟩
        rw [hz1]
        refine WE_int (Op_add (WA_sub (gLoc ok.inl hF rfl rfl (gLoc ok.inl hF rfl rfl (Set_dict eNC (hG nc) (Nat.le_trans hcl hi9) ?_)))))
        refine WSs_cons (WS_If (WB_Compare (gLoc ok.inl hF rfl rfl (gLoc ok.inl hF rfl rfl (Cmp_inD (kvs := []) (upe hnca (upe hnca eA)) ⟨(fun h => absurd h (by simp [dget])), fun _ => WSs_nil (WSs_nil (b2.n ⟨dput cs s (V.int ((z : Int) + 1)), _, Nat.le_trans (dput_length _ _ _) (Nat.succ_le_succ hcl), fun k => ?_, rfl, by rw [up_up]⟩))⟩)))))
        by_cases hk : k = s
        · subst hk
          refine .inl ⟨z + 1, by rw [dget_dput, if_pos rfl]; rfl, Nat.succ_le_succ (Nat.zero_le _), Nat.succ_le_succ hz2⟩
        · rw [dget_dput, if_neg hk]
          rcases hcs k with ⟨z', h1, h2, h3⟩ | ⟨h1, h2⟩
          · exact .inl ⟨z', h1, h2, Nat.le_succ_of_le h3⟩
          · refine .inr ⟨h1, ?_⟩
            rw [htk, List.mem_append, List.mem_singleton, not_or]
            exact ⟨h2, hk⟩
      · rintro l H' ⟨cs, a12, hcl, hcs, rfl, rfl⟩
        refine ⟨Nxt_tup_end (ok.handled (Nat.succ_ne_zero _)) (Nat.le_refl _), WSs_nil ?_⟩
        have hcs' : ∀ s ∈ syms, ∃ z : Nat, dget cs s = some (.int z) ∧ 1 ≤ z := fun s hs => by
          rcases hcs s with ⟨z, h1, h2, _⟩ | ⟨_, h2⟩
          · exact ⟨z, h1, h2⟩
          · simp [hs] at h2
        clear hcs hcl
        refine WSs_cons (sAsg ok hF rfl (WE_Dict0 fun nu hnu => ?_))
        have hnud : d ≠ nu := hnu.neD (upe hncd eD)
        have hnua : al ≠ nu := hnu.neD (upe hnca eA)
        have hnunc : nc ≠ nu := hnu.neD (up_self _ _ _)
        have hnuD : H.D nu = none := (up_ne hnunc.symm).symm.trans hnu.d
        refine WSs_cons (sAsg ok hF rfl (WE_Dict0 fun mp hmp => ?_))
        have hmpd : d ≠ mp := hmp.neD (upe hnud (upe hncd eD))
        have hmpa : al ≠ mp := hmp.neD (upe hnua (upe hnca eA))
        have hmpnu : nu ≠ mp := hmp.neD (up_self _ _ _)
        have hmpnc : nc ≠ mp := hmp.neD (upe hnunc (up_self _ _ _))
        have hmpD : H.D mp = none := (up_ne hmpnc.symm).symm.trans ((up_ne hmpnu.symm).symm.trans hmp.d)
        clear hnc hnu hmp
        refine WSs_cons (WS_For (WIt_enum (gBi ok W hF rfl rfl (by boot_by_name) (by decide) ⟨rfl, WEs_cons (WE_Attr (gLoc ok hF rfl rfl (getA ok W eI (upe hmpd (upe hnud (upe hncd eD))) g1.2.1 rfl (WEs_nil ⟨_, rfl, .inr ⟨_, rfl, ?_⟩⟩))))⟩)))
        refine ForOnV (fun i => entSt_mono i) (syms.map V.str).length (Pi3 x al H nc cs nu mp) ⟨[], [], a12, none, none, by simp, by simp, fun k => ⟨0, rfl, by simp⟩, rfl, rfl⟩ ?_ ?_
        · rintro i Q3 b3 l H' hi ⟨us, ms, a12, a15, a16, hul, hml, hus, rfl, rfl⟩
          have hi' : i < syms.length := by simpa using hi
          have hx : (syms.map V.str)[i]? = some (.str syms[i]) := by simp [hi']
          have hl1 := hl _ (List.getElem_mem hi')
          obtain ⟨z, hz1, hz2⟩ := hcs' syms[i] (List.getElem_mem _)
          have hi9 : i ≤ 100000 := by omega
          generalize syms[i] = s at hx hl1 hz1
          refine ⟨.tup [.int i, .str s], Nxt_ent ok hx, ?_⟩
          refine WA_tuple ok.inl rfl (tLoc ok.inl hF rfl (tLoc ok.inl hF rfl ?_))
          have eNC : ({ H with D := up (up (up H.D nc cs) nu us) mp ms } : Hp).D nc = some cs := upe hmpnc (upe hnunc (up_self _ _ _))
          have eNU : ({ H with D := up (up (up H.D nc cs) nu us) mp ms } : Hp).D nu = some us := upe hmpnu (up_self _ _ _)
          have eMP : ({ H with D := up (up (up H.D nc cs) nu us) mp ms } : Hp).D mp = some ms := up_self _ _ _
          have eAL : ({ H with D := up (up (up H.D nc cs) nu us) mp ms } : Hp).D al = some [] := upe hmpa (upe hnua (upe hnca eA))
          have hG3 : ∀ a, ({ H with D := up (up (up H.D nc cs) nu us) mp ms } : Hp).G a = none := hG
          have k3 : ∀ {l : Loc} us' ms' a12 a15 a16, List.length us' ≤ i + 1 → List.length ms' ≤ i + 1 → (∀ k, (∃ z : Nat, (dget us' k).getD (.int 0) = .int z ∧ z ≤ i + 1)) → l = PL x al none none (some (.ref nc)) a12 (some (.ref nu)) (some (.ref mp)) a15 a16 → Q3 .next l { ({ H with D := up (up (up H.D nc cs) nu us) mp ms } : Hp) with D := up (up (({ H with D := up (up (up H.D nc cs) nu us) mp ms } : Hp).D) nu us') mp ms' } := fun us' ms' b1 b2 b3' h1 h2 h3 h4 => b3.n ⟨us', ms', b1, b2, b3', h1, h2, h3, h4, by
            show (⟨_, _, _, _, _, _, _⟩ : Hp) = ⟨_, up (up (up (up (up H.D nc cs) nu us) mp ms) nu us') mp ms', _, _, _, _, _⟩
            rw [up_two hmpnu]⟩
          clear b3 hz2
          generalize ({ H with D := up (up (up H.D nc cs) nu us) mp ms } : Hp) = H3 at *
          refine WSs_cons (WS_If (WB_Compare (WE_Subscript (gLoc ok.inl hF rfl rfl (gLoc ok.inl hF rfl rfl (Sub_dict eNC hz1 (WE_int (Cmp_gt ⟨fun _ => ?_, fun _ => ?_⟩))))))))
          · obtain ⟨z', hz1', hz2'⟩ := hus s
            refine WSs_cons (sAsg ok.inl hF rfl (WE_FStr2 (WFld_str (gLoc ok.inl hF rfl rfl ⟨_, rfl, Nat.le_trans hl1 (by decide), WFld_int (WE_CallM (gLoc ok.inl hF rfl rfl (MGet_dget eNU (WEs_cons (gLoc ok.inl hF rfl rfl (WEs_cons (WE_int (WEs_nil ⟨keepB ok.inl, Call_dget2 eNU ?_⟩))))))))⟩))))
            rw [hz1']
            refine ⟨z', rfl, Nat.lt_of_le_of_lt (Nat.log2_le_self _) (by simp; omega), txt_small z' (by omega), ?_⟩
            refine WSs_cons (WS_AssignT (WE_BinOp (WE_CallM (gLoc ok.inl hF rfl rfl (MGet_dget eNU (WEs_cons (gLoc ok.inl hF rfl rfl (WEs_cons (WE_int (WEs_nil ⟨keepB ok.inl, Call_dget2 eNU ?_⟩))))))))))
            rw [hz1']
            refine WE_int (Op_add (WA_sub (gLoc ok.inl hF rfl rfl (gLoc ok.inl hF rfl rfl (Set_dict eNU (hG3 nu) (Nat.le_trans hul hi9) (WSs_nil ?_))))))
            refine WSs_cons (WS_AssignT (WE_Tuple (WEs_cons (gLoc ok.inl hF rfl rfl (WEs_cons (WE_none (WEs_nil ⟨by simp, WA_sub (gLoc ok.inl hF rfl rfl (gLoc ok.inl hF rfl rfl (Set_dict (upe hmpnu.symm eMP) (hG3 mp) (Nat.le_trans hml hi9) ?_)))⟩)))))))
            refine WSs_cons (WS_If (WB_Compare (gLoc ok.inl hF rfl rfl (gLoc ok.inl hF rfl rfl (Cmp_inD (kvs := []) (upe hmpa (upe hnua eAL)) ⟨(fun h => absurd h (by simp [dget])), fun _ => WSs_nil (WSs_nil (k3 _ _ _ _ _ (Nat.le_trans (dput_length _ _ _) (Nat.succ_le_succ hul)) (Nat.le_trans (dput_length _ _ _) (Nat.succ_le_succ hml)) (fun k => ?_) rfl))⟩)))))
            by_cases hk : k = s
            · subst hk; exact ⟨z' + 1, by rw [dget_dput, if_pos rfl]; rfl, Nat.succ_le_succ hz2'⟩
            · rw [dget_dput, if_neg hk]
              obtain ⟨z2, h1, h2⟩ := hus k
              exact ⟨z2, h1, Nat.le_succ_of_le h2⟩
          · refine WSs_cons (sAsg ok.inl hF rfl (gLoc ok.inl hF rfl rfl (WSs_nil ?_)))
            refine WSs_cons (WS_AssignT (WE_Tuple (WEs_cons (gLoc ok.inl hF rfl rfl (WEs_cons (WE_none (WEs_nil ⟨by simp, WA_sub (gLoc ok.inl hF rfl rfl (gLoc ok.inl hF rfl rfl (Set_dict eMP (hG3 mp) (Nat.le_trans hml hi9) ?_)))⟩)))))))
            have k4 := fun {l : Loc} ms' a12 a15 a16 h2 => @k3 l us ms' a12 a15 a16 (Nat.le_succ_of_le hul) h2 fun k => (hus k).elim fun z2 h => ⟨z2, h.1, Nat.le_succ_of_le h.2⟩
            rw [up_id eNU] at k4
            exact WSs_cons (WS_If (WB_Compare (gLoc ok.inl hF rfl rfl (gLoc ok.inl hF rfl rfl (Cmp_inD (kvs := []) (upe hmpa eAL) ⟨(fun h => absurd h (by simp [dget])), fun _ => WSs_nil (WSs_nil (k4 _ _ _ _ (Nat.le_trans (dput_length _ _ _) (Nat.succ_le_succ hml)) rfl))⟩)))))
        · rintro l H' ⟨us, ms, a12, a15, a16, hul, hml, hus, rfl, rfl⟩
          refine ⟨Nxt_ent_end ok rfl, WSs_nil ?_⟩
          refine WSs_pre (loc' := PL x al none none none none none (some (.ref mp)) none none) (H' := H) ?_ (by unfold PL; exact (by repeat (first | exact LocSub.refl _ | refine LocSub.same ?_ | refine LocSub.drop ?_))) ((subD hncD (hG nc)).trans ((subD (upE hnunc.symm hnuD) (hG nu)).trans (subD (upE hmpnu.symm (upE hmpnc.symm hmpD)) (hG mp))))
          clear hul hml hus hcs' us ms a12 a15 a16 hncd hnca hncD hnud hnua hnunc hnuD hmpd hmpa hmpnu hmpnc hmpD
          refine WSs_cons (WS_AssignT (gLoc ok hF rfl rfl (WA_attr (gLoc ok hF rfl rfl (setF ok W eI eD (hG d) (Nat.le_trans g3 (by decide)) fun f2 p2 => ?_)))))
          have k2 : f2.length ≤ 10 := Nat.le_trans p2.len (Nat.succ_le_succ g3)
          refine WSs_cons (WS_AssignT (WE_List (WEs_nil ⟨by decide, fun u hu => WA_attr (gLoc ok hF rfl rfl (setF2 ok W eI (hG d) (Nat.le_trans k2 (by decide)) fun f3 p3 => ?_))⟩)))
          have k3 : f3.length ≤ 11 := Nat.le_trans p3.len (Nat.succ_le_succ k2)
          refine WSs_cons (WS_AssignT (WE_none (WA_attr (gLoc ok hF rfl rfl (setF2 ok W eI (hG d) (Nat.le_trans k3 (by decide)) fun f4 p4 => ?_)))))
          refine WSs_pre (loc' := []) (H' := { H with D := up H.D d f4 }) (WSs_nil (q f4 ?_)) (fun i X h => by simp at h) (subL (frD hu).2.l)
          exact ⟨p4.old (p3.old (p2.old g1.1)), p4.old (p3.old (p2.old g1.2.1)), p4.old (p3.old (p2.old g1.2.2.1)), p4.old (p3.old (p2.old g1.2.2.2))⟩

theorem pr_init (ok : Ok F (n + 2)) (W : Wd (K P) F.c.base) {x d al : Addr} {num : Int} {nm : Str} {PV prec fn fi li : V} {syms : List Str} {Q : V → Loc → Hp → Prop}
    (eI : H.I x = some (68, d)) (eD : H.D d = some []) (hG : ∀ a, H.G a = none) (eA : H.D al = some []) (hne : al ≠ d) (eP : asL H PV = some (syms.map .str)) (hz : syms.length ≤ 100) (hl : ∀ s ∈ syms, s.length ≤ 1000)
    (q : ∀ fs, PrF fs num nm syms prec → Q .none loc { H with D := up H.D d fs }) :
    CCall F 51 [.ref x, .int num, .str nm, PV, prec, fn, fi, li, .ref al] [] [] loc H Q := by
  refine pr_gen ok W (fun fd hfd => ?_) eI eD hG eA hne eP hz hl q (fn := fn) (fi := fi) (li := li)
  intro vs ws B r1 r2 le
  apply r2.e0
  apply r1.e9
  intro a b c d e f g i j r
  cases hfd
  exact ⟨_, Looks.of_peek W.k rfl, r⟩
theorem pr_initK (ok : Ok F (n + 2)) (W : Wd (K P) F.c.base) {x d al : Addr} {num : Int} {nm : Str} {PV : V} {syms : List Str} {Q : V → Loc → Hp → Prop}
    (eI : H.I x = some (68, d)) (eD : H.D d = some []) (hG : ∀ a, H.G a = none) (eA : H.D al = some []) (hne : al ≠ d) (eP : asL H PV = some (syms.map .str)) (hz : syms.length ≤ 100) (hl : ∀ s ∈ syms, s.length ≤ 1000)
    (q : ∀ fs, PrF fs num nm syms (.tup [.str "right", .int 0]) → Q .none loc { H with D := up H.D d fs }) :
    CCall F 51 [.ref x, .int num, .str nm, PV] ["aliases"] [.ref al] loc H Q := by
  refine pr_gen ok W (fun fd hfd => ?_) eI eD hG eA hne eP hz hl q (fn := .none) (fi := .str (Str.ofString "")) (li := .int 0) (prec := .tup [.str "right", .int 0])
  intro vs ws B r1 r2 le
  apply r2.e1
  intro zv z1
  apply r1.e4
  intro v1 v2 v3 v4 a b c d
  cases hfd
  exact ⟨[_, _, _, _, _, _, _, _, _], Looks.of_peek W.k rfl, .cons a (.cons b (.cons c (.cons d (.cons (.tup (le _ _ (W.k 42 _ rfl)) (.cons (.str _ _ (ofString_ok _)) (.cons (.int _ _) .nil))) (.cons .none (.cons (.str _ _ (ofString_ok _)) (.cons (.int _ _) (.cons z1 .nil))))))))⟩
theorem pr_call (ok : Ok F (n + 3)) (W : Wd (K P) F.c.base) {al : Addr} {num : Int} {nm : Str} {PV prec fn fi li : V} {syms : List Str} {Q : V → Loc → Hp → Prop}
    (hG : ∀ a, H.G a = none) (eA : H.D al = some []) (eP : asL H PV = some (syms.map .str)) (hz : syms.length ≤ 100) (hl : ∀ s ∈ syms, s.length ≤ 1000)
    (q : ∀ fs, PrF fs num nm syms prec → Q (.inst 68 fs) loc H) : Call F (.ref 68) [.int num, .str nm, PV, prec, fn, fi, li, .ref al] loc H Q := by
  refine Call_frz (Call_clsK ok W 51 fun A' x d ok' hx hd hlt => ?_)
  have hne : al ≠ d := hd.neD eA
  refine pr_init (F := { F with A := A' }) ok' W (up_self _ _ _) (up_self _ _ _) hG (upe hne eA) hne eP hz hl fun fs hfs => ⟨rfl, _, _, Frz.inst (up_self _ _ _) (up_self _ _ _) (hG d), ?_⟩
  have e : ({ L := H.L, D := un (up (up H.D d []) d fs) d, P := H.P, S := H.S, I := un (up H.I x (68, d)) x, C := H.C, G := H.G } : Hp) = H := by
    rw [up_up, un_up hd.d, un_up hx.i]
  rw [e]
  exact q fs hfs
theorem pr_callK (ok : Ok F (n + 3)) (W : Wd (K P) F.c.base) {al : Addr} {num : Int} {nm : Str} {PV : V} {syms : List Str} {Q : V → Loc → Hp → Prop}
    (hG : ∀ a, H.G a = none) (eA : H.D al = some []) (eP : asL H PV = some (syms.map .str)) (hz : syms.length ≤ 100) (hl : ∀ s ∈ syms, s.length ≤ 1000)
    (q : ∀ fs, PrF fs num nm syms (.tup [.str "right", .int 0]) → Q (.inst 68 fs) loc H) : CallK F (.ref 68) [.int num, .str nm, PV] ["aliases"] [.ref al] loc H Q := by
  refine CallK_frz (CallK_cls (K := K P) ok W.k (fI := 51) (by rfl) (by rfl) (by rfl) fun A' x d ok' hx hd hlt => ?_)
  have hne : al ≠ d := hd.neD eA
  refine pr_initK (F := { F with A := A' }) ok' W (up_self _ _ _) (up_self _ _ _) hG (upe hne eA) hne eP hz hl fun fs hfs => ⟨rfl, _, _, Frz.inst (up_self _ _ _) (up_self _ _ _) (hG d), ?_⟩
  have e : ({ L := H.L, D := un (up (up H.D d []) d fs) d, P := H.P, S := H.S, I := un (up H.I x (68, d)) x, C := H.C, G := H.G } : Hp) = H := by
    rw [up_up, un_up hd.d, un_up hx.i]
  rw [e]
  exact q fs hfs
end Lay.W1
end
noncomputable section
open PySem PySem.W PyProof.Rows PySem.Calls
set_option Elab.async false
set_option maxRecDepth 100000
set_option linter.all false
set_option maxHeartbeats 4000000
namespace Lay.W1
variable {P : Params} {F : Fx} {n : Nat} {loc : Loc} {H H' : Hp}
noncomputable abbrev Gr (H : Hp) (g : GA) (t : GT) : Prop := GrOk 217 238 H g t
theorem getG (ok : Ok F n) (W : Wd (K P) F.c.base) {g : GA} {t : GT} {name : Str} {Y : V} {Q : V → Loc → Hp → Prop} (gr : Gr H g t) (hy : ∀ {fs}, Fld fs g t.start → dget fs name = some Y) (hr : notRaw Y = true) (q : Q Y loc H') (hI : H'.I = H.I := by rfl) (hD : H'.D = H.D := by rfl) (ho : getOk (K P) 217 name = true := by rfl) : GetA F name (.ref g.g) loc H' Q := by
  obtain ⟨fs, efs, fld⟩ := gr.fs
  exact getA ok W (by rw [hI]; exact gr.I) (by rw [hD]; exact efs) (hy fld) hr q ho
theorem getGM (ok : Ok F n) (W : Wd (K P) F.c.base) {g : GA} {t : GT} {f : Addr} {name : Str} {Q : V → List V → Loc → Hp → Prop} (gr : Gr H g t) (hn : name ∉ gnames) (q : Q (.ref f) [.ref g.g] loc H') (hI : H'.I = H.I := by rfl) (hD : H'.D = H.D := by rfl) (ho : metOk (K P) 217 name f = true := by rfl) : MGet F name (.ref g.g) loc H' Q := by
  obtain ⟨fs, efs, fld⟩ := gr.fs
  exact getM ok W (by rw [hI]; exact gr.I) (by rw [hD]; exact efs) (fld.no _ hn) q ho
structure Bgn (H H' : Hp) (x d nm nd : Addr) (f : List (Str × V)) (Ds : List (Addr × List (Str × V))) (Ls : List (Addr × List V)) (Ps : List (Addr × List (Str × List Str))) (Ss : List (Addr × ((Str → Bool) × Nat))) : Prop where
  I : H'.I x = some (217, d)
  N : H'.I nm = some (238, nd)
  dd : H'.D d = some f
  D : ∀ p ∈ Ds, H'.D p.1 = some p.2
  dn : (d :: Ds.map (·.1)).Nodup
  L : ∀ p ∈ Ls, H'.L p.1 = some p.2
  ln : (Ls.map (·.1)).Nodup
  P : ∀ p ∈ Ps, H'.P p.1 = some p.2
  S : ∀ p ∈ Ss, H'.S p.1 = some p.2
  G : ∀ a, H'.G a = none
  K : ∀ a xs, H.L a = some xs → H'.L a = some xs
  fr : ∀ p ∈ Ds, H.Fresh p.1
  ext : Ext (fun a => a = d) H H'
section
variable {x d nm nd a : Addr} {f f' k k' : List (Str × V)} {Ds : List (Addr × List (Str × V))} {Ls : List (Addr × List V)} {Ps : List (Addr × List (Str × List Str))} {Ss : List (Addr × ((Str → Bool) × Nat))} {xs : List V} {ps : List (Str × List Str)} {ss : (Str → Bool) × Nat}
theorem Bgn.setd (b : Bgn H H' x d nm nd f Ds Ls Ps Ss) : Bgn H { H' with D := up H'.D d f' } x d nm nd f' Ds Ls Ps Ss :=
  ⟨b.I, b.N, up_self _ _ _, fun p hp => upe (fun e => (List.nodup_cons.mp b.dn).1 (e ▸ List.mem_map.mpr ⟨p, hp, rfl⟩)) (b.D p hp), b.dn, b.L, b.ln, b.P, b.S, b.G, b.K, b.fr, b.ext.trans (extD (.inl rfl))⟩
theorem Bgn.newD (b : Bgn H H' x d nm nd f Ds Ls Ps Ss) (h : H'.Fresh a) : Bgn H { H' with D := up H'.D a k } x d nm nd f ((a, k) :: Ds) Ls Ps Ss := by
  have h1 : d ≠ a := h.neD b.dd
  have h2 : ∀ p ∈ Ds, p.1 ≠ a := fun p hp => h.neD (b.D p hp)
  have h3 := List.nodup_cons.mp b.dn
  refine ⟨b.I, b.N, upe h1 b.dd, fun p hp => ?_, ?_, b.L, b.ln, b.P, b.S, b.G, b.K, fun p hp => ?_, b.ext.trans (extD (.inr h))⟩
  · rcases List.mem_cons.mp hp with rfl | hp
    · exact up_self _ _ _
    · exact upe (h2 p hp) (b.D p hp)
  · show (d :: a :: Ds.map (·.1)).Nodup
    rw [List.nodup_cons, List.nodup_cons, List.mem_cons]
    refine ⟨fun z => z.elim h1 h3.1, fun z => ?_, h3.2⟩
    obtain ⟨p, hp, e⟩ := List.mem_map.mp z
    exact h2 p hp e
  · rcases List.mem_cons.mp hp with rfl | hp
    · exact b.ext.fresh h
    · exact b.fr p hp
theorem Bgn.put (b : Bgn H H' x d nm nd f ((a, k) :: Ds) Ls Ps Ss) : Bgn H { H' with D := up H'.D a k' } x d nm nd f ((a, k') :: Ds) Ls Ps Ss := by
  have h3 := List.nodup_cons.mp b.dn
  have h4 := List.nodup_cons.mp h3.2
  have h1 : d ≠ a := fun e => h3.1 (e ▸ .head _)
  have hf := b.fr _ (.head _)
  refine ⟨b.I, b.N, upe h1 b.dd, fun p hp => ?_, b.dn, b.L, b.ln, b.P, b.S, b.G, b.K, fun p hp => ?_, fun c o => ?_⟩
  · rcases List.mem_cons.mp hp with rfl | hp
    · exact up_self _ _ _
    · exact upe (fun e => h4.1 (e ▸ List.mem_map.mpr ⟨p, hp, rfl⟩)) (b.D p (.tail _ hp))
  · rcases List.mem_cons.mp hp with rfl | hp
    · exact hf
    · exact b.fr p (.tail _ hp)
  · have hne : c ≠ a := by rintro rfl; exact hf o
    obtain ⟨o1, s1⟩ := b.ext c o
    refine ⟨?_, fun z => ?_⟩
    · unfold Hp.Own at o1 ⊢; simpa only [up_ne hne] using o1
    · obtain ⟨e1, e2, e3⟩ := s1 z
      exact ⟨e1, (up_ne hne).trans e2, e3⟩
theorem Bgn.newL (b : Bgn H H' x d nm nd f Ds Ls Ps Ss) (h : H'.Fresh a) : Bgn H { H' with L := up H'.L a xs } x d nm nd f Ds (Ls ++ [(a, xs)]) Ps Ss := by
  have h2 : ∀ p ∈ Ls, p.1 ≠ a := fun p hp => h.neL (b.L p hp)
  refine ⟨b.I, b.N, b.dd, b.D, b.dn, fun p hp => ?_, ?_, b.P, b.S, b.G, fun c ys e => upe ((b.ext.fresh h).neL e) (b.K c ys e), b.fr, b.ext.trans (extL (.inr h))⟩
  · rcases List.mem_append.mp hp with hp | hp
    · exact upe (h2 p hp) (b.L p hp)
    · rw [List.mem_singleton.mp hp]; exact up_self _ _ _
  · rw [List.map_append, List.nodup_append]
    refine ⟨b.ln, List.pairwise_singleton _ _, fun c hc e he z => ?_⟩
    obtain ⟨p, hp, e1⟩ := List.mem_map.mp hc
    rw [List.map_singleton, List.mem_singleton] at he
    exact h2 p hp (e1.trans (z.trans he))
theorem Bgn.newP (b : Bgn H H' x d nm nd f Ds Ls Ps Ss) (h : H'.Fresh a) : Bgn H { H' with P := up H'.P a ps } x d nm nd f Ds Ls ((a, ps) :: Ps) Ss := by
  refine ⟨b.I, b.N, b.dd, b.D, b.dn, b.L, b.ln, fun p hp => ?_, b.S, b.G, b.K, b.fr, b.ext.trans (extP (.inr h))⟩
  rcases List.mem_cons.mp hp with rfl | hp
  · exact up_self _ _ _
  · exact upe (h.neP (b.P p hp)) (b.P p hp)
theorem Bgn.newS (b : Bgn H H' x d nm nd f Ds Ls Ps Ss) (h : H'.Fresh a) : Bgn H { H' with S := up H'.S a ss } x d nm nd f Ds Ls Ps ((a, ss) :: Ss) := by
  refine ⟨b.I, b.N, b.dd, b.D, b.dn, b.L, b.ln, b.P, fun p hp => ?_, b.G, b.K, b.fr, b.ext.trans (extS (.inr h))⟩
  rcases List.mem_cons.mp hp with rfl | hp
  · exact up_self _ _ _
  · exact upe (h.neS (b.S p hp)) (b.S p hp)
theorem Bgn.go {M : Loc → Hp → Prop} (b : Bgn H H' x d nm nd f Ds Ls Ps Ss) (h : ∀ H', Bgn H H' x d nm nd f Ds Ls Ps Ss → M loc H') : M loc H' := h _ b
end
noncomputable abbrev cel (t : Tab) : List (Addr × List V) := t.map fun e => (e.2.1, e.2.2)
theorem gr_begun {x d nm nd al pl pn pm ts nts fst fol pr us : Addr} {f nfs : List (Str × V)} {t : Tab}
    (b : Bgn H H' x d nm nd f [(pr, []), (fol, []), (fst, []), (nts, []), (ts, tof t), (pn, []), (al, []), (nd, nfs)] ((pl, [.none]) :: cel t) [(pm, [])] [(us, (fun _ => false, 0))])
    (hal : dget nfs "aliases" = some (.ref al)) (hn : (kys t).Nodup) (hf : Fld f ⟨x, d, nm, nd, al, pl, pn, pm, ts, nts, fst, fol, pr, us⟩ .none) :
    Gr H' ⟨x, d, nm, nd, al, pl, pn, pm, ts, nts, fst, fol, pr, us⟩ ⟨t, [], [], [.none], [], [], [], [], (fun _ => false, 0), .none⟩ := by
  have hD : ∀ a k, (a, k) ∈ [(pr, []), (fol, []), (fst, []), (nts, []), (ts, tof t), (pn, []), (al, []), (nd, nfs)] → H'.D a = some k := fun a k h => b.D (a, k) h
  refine ⟨b.I, ⟨f, b.dd, hf⟩, b.N, ⟨nfs, hD _ _ (by simp), hal⟩, hD _ _ (by simp), b.L (pl, _) (.head _), b.P (pm, _) (.head _), ⟨hD _ _ (by simp), fun e he => b.L (e.2.1, e.2.2) (.tail _ (List.mem_map.mpr ⟨e, he, rfl⟩))⟩, ⟨hD _ _ (by simp [tof]), fun e h => nomatch h⟩, ⟨hD _ _ (by simp [tof]), fun e h => nomatch h⟩, hD _ _ (by simp), hD _ _ (by simp), hD _ _ (by simp), b.S (us, _) (.head _), b.G, ?_, ?_, hn, .nil, .nil⟩
  · have := b.dn
    rw [List.nodup_cons] at this
    show (d :: [nd, al, pn, ts, nts, fst, fol, pr]).Nodup
    rw [List.nodup_cons]
    refine ⟨fun z => this.1 ?_, ((List.reverse_perm [nd, al, pn, ts, nts, fst, fol, pr]).nodup_iff).mp this.2⟩
    rw [← List.mem_reverse] at z
    exact z
  · have := b.ln
    show (pl :: (adr t ++ ([] ++ []))).Nodup
    rw [List.append_nil, List.append_nil]
    rw [List.map_cons, List.map_map] at this
    exact this
theorem tcon_nil : ∀ (t : Tab), (∀ e ∈ t, e.2.2 = []) → tcon t = (kys t).map fun k => (k, []) := by
  intro t ht
  unfold tcon kys
  rw [List.map_map]
  exact List.map_congr_left fun e he => by simp only [Function.comp]; rw [ht e he]
theorem cel_snoc {t : Tab} {k : Str} {a : Addr} {pl : Addr} : (pl, [V.none]) :: cel (t ++ [(k, a, [])]) = ((pl, [V.none]) :: cel t) ++ [(a, [])] := by simp [cel]
theorem tof_snoc {t : Tab} {k : Str} {a : Addr} (h : k ∉ kys t) : dput (tof t) k (.ref a) = tof (t ++ [(k, a, [])]) := by
  rw [dput_new (by rw [dget_tof, tget_none.mpr h]; rfl)]; simp [tof]
inductive Gi1 (H : Hp) (x : Addr) (d : Addr) (TV : V) (ns : List Str) (nm : Addr) (nd : Addr) (al : Addr) (nfs : List (Str × V)) (pl : Addr) (pn : Addr) (pm : Addr) (ts : Addr) (f5 : List (Str × V)) (i : Nat) (l : Loc) (H' : Hp) : Prop
  | mk (t : Tab) (a3 : Option V) (_ : kys t = ns.take i) (_ : (∀ e ∈ t, e.2.2 = [])) (_ : Bgn H H' x d nm nd f5 [(ts, tof t), (pn, []), (al, []), (nd, nfs)] ((pl, [V.none]) :: cel t) [(pm, [])] []) (_ : l = [some (.ref x), some TV, some .none, a3, none, none]) : Gi1 H x d TV ns nm nd al nfs pl pn pm ts f5 i l H'
theorem gr_init (ok : Ok F (n + 3)) (W : Wd (K P) F.c.base) {x d : Addr} {TV : V} {ns : List Str} {Q : V → Loc → Hp → Prop} (eI : H.I x = some (217, d)) (eD : H.D d = some []) (hG : ∀ a, H.G a = none) (eT : asL H TV = some (ns.map .str)) (hn : ns.Nodup) (herr : Str.ofString "error" ∉ ns) (hz : ns.length ≤ 100)
    (q : ∀ g t H', g.g = x → g.d = d → Gr H' g t → tcon t.tT = (ns ++ [Str.ofString "error"]).map (fun k => (k, [])) → t.tN = [] → t.tR = [] → t.ps = [.none] → t.pm = [] → t.fst = [] → t.fol = [] → t.pr = [] → t.ups = (fun _ => false, 0) → t.start = .none → Ext (fun a => a = d) H H' → Q .none loc H') :
    CCall F 106 [.ref x, TV] [] [] loc H Q := by
  refine defP ok W ["self", "terminals", "names"] (Vs := [.ref x, TV, .none]) rfl rfl rfl rfl rfl rfl ?_ rfl ?_
  · intro vs ws B r1 r2 le
    apply r2.e0
    apply r1.e2
    intro _ _ a b
    exact ⟨[_, _, .none], Looks.of_peek W.k rfl, .cons a (.cons b (.cons .none .nil))⟩
  · intro F' ok tp W hF
    refine WSs_cons (WS_AssignT (WE_IfExp (WB_Compare (gLoc ok hF rfl rfl (WE_none (Cmp_isNone rfl rfl ⟨fun _ => ?_, fun h => by cases h⟩))))))
    refine WE_CallN (gGlob ok W hF rfl rfl (.ref 238) (WEs_nil ⟨keepK ok W, Call_clsK ok W 235 fun A' nm nd ok' hnm hnd hlt => ?_⟩))
    have hne : nd ≠ nm := fun e => by rw [e] at hlt; exact absurd hlt (Nat.lt_irrefl _)
    refine rn_init (F := { F' with A := A' }) ok' W (up_self _ _ _) (hG nd) fun al nfs haln hal hal3 => ⟨rfl, ?_⟩
    have b : Bgn H ⟨H.L, up (up H.D al []) nd nfs, H.P, H.S, up H.I nm (238, nd), H.C, H.G⟩ x d nm nd [] [(al, []), (nd, nfs)] [] [] [] := by
      have hf := (frI hal).2
      have h1 : d ≠ nd := hnd.neD eD
      have h2 : d ≠ al := hf.neD eD
      refine ⟨upe (hnm.neI eI) eI, up_self _ _ _, upe h1 (upe h2 eD), fun p hp => ?_, by simp [h1, h2, haln], fun p hp => (by cases hp), List.nodup_nil, fun p hp => (by cases hp), fun p hp => (by cases hp), hG, fun _ _ e => e, fun p hp => ?_, ((extI (.inr hnm)).trans (extD (.inr hal))).trans (extD (.inr (fun o => ?_)))⟩
      · rcases List.mem_cons.mp hp with rfl | hp
        · exact upe haln (up_self _ _ _)
        · rw [List.mem_singleton.mp hp]; exact up_self _ _ _
      · rcases List.mem_cons.mp hp with rfl | hp
        · exact hf
        · rw [List.mem_singleton.mp hp]; exact hnd
      · refine hnd ?_
        unfold Hp.Own at o ⊢
        simpa only [up_ne haln.symm, up_ne hne] using o
    refine WA_attr (gLoc ok hF rfl rfl ?_)
    refine b.go (M := fun l H => SetA F' _ (.ref x) (.ref nm) l H _) fun H1 b => ?_
    clear hal haln hnm hnd hne hlt
    refine setF ok W b.I b.dd (b.G d) (by decide) fun f1 p1 => ?_
    refine b.setd.go (M := fun l H => WSs F' _ l H _) fun H1 b => ?_
    have l1 : f1.length ≤ 1 := p1.len
    refine WSs_cons (WS_AssignT (WE_List (WEs_cons (WE_none (WEs_nil ⟨by simp, fun pl hpl => WA_attr (gLoc ok hF rfl rfl (setF ok W b.I b.dd (b.G d) (Nat.le_trans l1 (by decide)) fun f2 p2 => (b.newL hpl).setd.go (M := fun l H => WSs F' _ l H _) fun H1 b => ?_))⟩)))))
    have l2 : f2.length ≤ 2 := Nat.le_trans p2.len (Nat.succ_le_succ l1)
    refine WSs_cons (WS_AssignT (WE_Dict0 fun pn hpn => WA_attr (gLoc ok hF rfl rfl (setF ok W b.I (b.newD hpn).dd (b.G d) (Nat.le_trans l2 (by decide)) fun f3 p3 => (b.newD hpn).setd.go (M := fun l H => WSs F' _ l H _) fun H1 b => ?_))))
    have l3 : f3.length ≤ 3 := Nat.le_trans p3.len (Nat.succ_le_succ l2)
    refine WSs_cons (WS_AssignT (WE_Dict0P fun pm hpm => WA_attr (gLoc ok hF rfl rfl (setF ok W b.I b.dd (b.G d) (Nat.le_trans l3 (by decide)) fun f4 p4 => (b.newP hpm).setd.go (M := fun l H => WSs F' _ l H _) fun H1 b => ?_))))
    have l4 : f4.length ≤ 4 := Nat.le_trans p4.len (Nat.succ_le_succ l3)
    refine WSs_cons (WS_AssignT (WE_Dict0 fun ts hts => WA_attr (gLoc ok hF rfl rfl (setF ok W b.I (b.newD hts).dd (b.G d) (Nat.le_trans l4 (by decide)) fun f5 p5 => (b.newD hts).setd.go (M := fun l H => WSs F' _ l H _) fun H1 b => ?_))))
    have l5 : f5.length ≤ 5 := Nat.le_trans p5.len (Nat.succ_le_succ l4)
    have h5 := p5.here
    have fld : dget f5 "names" = some (.ref nm) ∧ dget f5 "Productions" = some (.ref pl) ∧ dget f5 "Prodnames" = some (.ref pn) ∧ dget f5 "Prodmap" = some (.ref pm) ∧ ∀ k, k ∉ gnames → dget f5 k = none := by
      refine ⟨p5.old (p4.old (p3.old (p2.old p1.here))), p5.old (p4.old (p3.old p2.here)), p5.old (p4.old p3.here), p5.old p4.here, fun k hk => ?_⟩
      have hk' : k ≠ "names" ∧ k ≠ "Productions" ∧ k ≠ "Prodnames" ∧ k ≠ "Prodmap" ∧ k ≠ "Terminals" ∧ k ≠ "Nonterminals" ∧ k ≠ "First" ∧ k ≠ "Follow" ∧ k ≠ "Precedence" ∧ k ≠ "UsedPrecedence" ∧ k ≠ "Start" := by
        simpa [gnames] using hk
      obtain ⟨k1, k2, k3, k4, k5, _⟩ := hk'
      rw [p5.there k k5, p4.there k k4, p3.there k k3, p2.there k k2, p1.there k k1]; rfl
    clear p1 p2 p3 p4 p5 l1 l2 l3 l4 hpl hpn hpm hts
    -- the tokens
    refine WSs_cons (WS_For (WIt_list (gLoc ok hF rfl rfl ⟨_, asL_mono eT b.K, ?_⟩)))
    refine ForOnV (fun i => lstSt_mono i) (ns.map V.str).length (Gi1 H x d TV ns nm nd al nfs pl pn pm ts f5) ⟨[], none, by simp [kys], (fun e h => nomatch h), b, rfl⟩ ?_ ?_
    · clear b
      rintro i Q1 b1 l H' hi ⟨t, a3, hk, he, b, rfl⟩
      have hi' : i < ns.length := by simpa using hi
      have hkn : ns[i] ∉ kys t := by
        rw [hk]
        intro hm
        obtain ⟨j, hj, e⟩ := List.mem_take_iff_getElem.mp hm
        exact (List.pairwise_iff_getElem.mp hn) j i (by omega) hi' (by omega) e
      have htk : ns.take (i + 1) = ns.take i ++ [ns[i]] := take_snoc hi'
      have hlen : (tof t).length ≤ 100 := by
        have : (tof t).length = (ns.take i).length := by rw [← hk]; simp [tof, kys]
        rw [this, List.length_take]; omega
      have hx : (ns.map V.str)[i]? = some (.str ns[i]) := by simp [hi']
      generalize ns[i] = s at hkn htk hx
      refine ⟨.str s, Nxt_list (asL_mono eT b.K) hx, tLoc ok.inl hF rfl ?_⟩
      refine WSs_cons (WS_AssignT (WE_List (WEs_nil ⟨by simp, fun a ha => WA_sub (WE_Attr (gLoc ok.inl hF rfl rfl (getA ok.inl W b.I b.dd h5 rfl (gLoc ok.inl hF rfl rfl (Set_dict (b.D (ts, tof t) (.head _)) (b.G ts) (show (tof t).length ≤ 100000 by omega) (WSs_nil (b1.n ⟨t ++ [(s, a, [])], _, ?_, ?_, ?_, rfl⟩)))))))⟩)))
      · rw [htk, ← hk]; simp [kys]
      · intro e he'
        rcases List.mem_append.mp he' with h | h
        · exact he e h
        · rw [List.mem_singleton.mp h]
      · rw [cel_snoc, ← tof_snoc hkn]
        exact (b.newL ha).put
    · clear b
      rintro l H' ⟨t, a3, hk, he, b, rfl⟩
      refine ⟨Nxt_list_end (ok.handled (Nat.succ_ne_zero _)) (asL_mono eT b.K) (Nat.le_refl _), WSs_nil ?_⟩
      have hk : kys t = ns := by rw [hk, List.length_map, List.take_length]
      have hlen : (tof t).length ≤ 100 := by
        have : (tof t).length = ns.length := by rw [← hk]; simp [tof, kys]
        omega
      have hkn : Str.ofString "error" ∉ kys t := by rw [hk]; exact herr
      refine WSs_cons (WS_AssignT (WE_List (WEs_nil ⟨by simp, fun a ha => WA_sub (WE_Attr (gLoc ok hF rfl rfl (getA ok W b.I b.dd h5 rfl (WE_str (Set_dict (b.D (ts, tof t) (.head _)) (b.G ts) (show (tof t).length ≤ 100000 by omega) ?_)))))⟩)))
      rw [tof_snoc hkn]
      have b2 := (b.newL (xs := []) ha).put (k' := tof (t ++ [(Str.ofString "error", a, [])]))
      rw [← cel_snoc (k := Str.ofString "error")] at b2
      have hc : tcon (t ++ [(Str.ofString "error", a, [])]) = (ns ++ [Str.ofString "error"]).map fun k => (k, []) := by
        rw [tcon_nil, show kys (t ++ [(Str.ofString "error", a, [])]) = ns ++ [Str.ofString "error"] by rw [← hk]; simp [kys]]
        intro e he'
        rcases List.mem_append.mp he' with h | h
        · exact he e h
        · rw [List.mem_singleton.mp h]
      have hkk : (kys (t ++ [(Str.ofString "error", a, [])])).Nodup := by
        rw [show kys (t ++ [(Str.ofString "error", a, [])]) = ns ++ [Str.ofString "error"] by rw [← hk]; simp [kys], List.nodup_append]
        refine ⟨hn, by simp, ?_⟩
        intro b hb c hc
        simp at hc; subst hc
        exact fun e => herr (e ▸ hb)
      generalize t ++ [(Str.ofString "error", a, [])] = t at b2 hc hkk
      refine b2.go (M := fun l H => WSs F' _ l H _) fun H1 b => ?_
      clear hk he hlen hkn b2 ha
      refine WSs_cons (WS_AssignT (WE_Dict0 fun nts hnts => WA_attr (gLoc ok hF rfl rfl (setF ok W b.I (b.newD hnts).dd (b.G d) (Nat.le_trans l5 (by decide)) fun f6 p6 => (b.newD hnts).setd.go (M := fun l H => WSs F' _ l H _) fun H1 b => ?_))))
      have l6 : f6.length ≤ 6 := Nat.le_trans p6.len (Nat.succ_le_succ l5)
      refine WSs_cons (WS_AssignT (WE_Dict0 fun fst hfst => WA_attr (gLoc ok hF rfl rfl (setF ok W b.I (b.newD hfst).dd (b.G d) (Nat.le_trans l6 (by decide)) fun f7 p7 => (b.newD hfst).setd.go (M := fun l H => WSs F' _ l H _) fun H1 b => ?_))))
      have l7 : f7.length ≤ 7 := Nat.le_trans p7.len (Nat.succ_le_succ l6)
      refine WSs_cons (WS_AssignT (WE_Dict0 fun fol hfol => WA_attr (gLoc ok hF rfl rfl (setF ok W b.I (b.newD hfol).dd (b.G d) (Nat.le_trans l7 (by decide)) fun f8 p8 => (b.newD hfol).setd.go (M := fun l H => WSs F' _ l H _) fun H1 b => ?_))))
      have l8 : f8.length ≤ 8 := Nat.le_trans p8.len (Nat.succ_le_succ l7)
      refine WSs_cons (WS_AssignT (WE_Dict0 fun pr hpr => WA_attr (gLoc ok hF rfl rfl (setF ok W b.I (b.newD hpr).dd (b.G d) (Nat.le_trans l8 (by decide)) fun f9 p9 => (b.newD hpr).setd.go (M := fun l H => WSs F' _ l H _) fun H1 b => ?_))))
      have l9 : f9.length ≤ 9 := Nat.le_trans p9.len (Nat.succ_le_succ l8)
      refine WSs_cons (WS_AssignT (WE_CallN (gBi ok W hF rfl rfl (by boot_by_name) (by decide) (WEs_nil ⟨keepB ok, Call_set0 fun us hus => WA_attr (gLoc ok hF rfl rfl (setF ok W b.I b.dd (b.G d) (Nat.le_trans l9 (by decide)) fun f10 p10 => (b.newS hus).setd.go (M := fun l H => WSs F' _ l H _) fun H1 b => ?_))⟩))))
      have l10 : f10.length ≤ 10 := Nat.le_trans p10.len (Nat.succ_le_succ l9)
      refine WSs_cons (WS_AssignT (WE_none (WA_attr (gLoc ok hF rfl rfl (setF ok W b.I b.dd (b.G d) (Nat.le_trans l10 (by decide)) fun f11 p11 => b.setd.go (M := fun l H => WSs F' _ l H _) fun H1 b => ?_)))))
      have l11 : f11.length ≤ 11 := Nat.le_trans p11.len (Nat.succ_le_succ l10)
      obtain ⟨e1, e2, e3, e4, e5⟩ := fld
      refine WSs_nil (q ⟨x, d, nm, nd, al, pl, pn, pm, ts, nts, fst, fol, pr, us⟩ ⟨t, [], [], [.none], [], [], [], [], (fun _ => false, 0), .none⟩ _ rfl rfl (gr_begun b hal3 hkk ?_) hc rfl rfl rfl rfl rfl rfl rfl rfl rfl b.ext)
      have o6 : ∀ {k : Str} {Y : Option V}, dget f5 k = Y → k ≠ "Nonterminals" → k ≠ "First" → k ≠ "Follow" → k ≠ "Precedence" → k ≠ "UsedPrecedence" → k ≠ "Start" → dget f11 k = Y := fun e k1 k2 k3 k4 k5 k6 => (p11.there _ k6).trans ((p10.there _ k5).trans ((p9.there _ k4).trans ((p8.there _ k3).trans ((p7.there _ k2).trans ((p6.there _ k1).trans e)))))
      refine ⟨by omega, o6 e1 (by decide) (by decide) (by decide) (by decide) (by decide) (by decide), o6 e2 (by decide) (by decide) (by decide) (by decide) (by decide) (by decide), o6 e3 (by decide) (by decide) (by decide) (by decide) (by decide) (by decide), o6 e4 (by decide) (by decide) (by decide) (by decide) (by decide) (by decide), o6 h5 (by decide) (by decide) (by decide) (by decide) (by decide) (by decide), p11.old (p10.old (p9.old (p8.old (p7.old p6.here)))), p11.old (p10.old (p9.old (p8.old p7.here))), p11.old (p10.old (p9.old p8.here)), p11.old (p10.old p9.here), p11.old p10.here, p11.here, fun k hk => ?_⟩
      have hk' : k ≠ "names" ∧ k ≠ "Productions" ∧ k ≠ "Prodnames" ∧ k ≠ "Prodmap" ∧ k ≠ "Terminals" ∧ k ≠ "Nonterminals" ∧ k ≠ "First" ∧ k ≠ "Follow" ∧ k ≠ "Precedence" ∧ k ≠ "UsedPrecedence" ∧ k ≠ "Start" := by
        simpa [gnames] using hk
      obtain ⟨k1, k2, k3, k4, k5, k6, k7, k8, k9, k10, k11⟩ := hk'
      exact o6 (e5 k hk) k6 k7 k8 k9 k10 k11
end Lay.W1
end
noncomputable section
open PySem PySem.W PyProof.Rows PySem.Calls
set_option Elab.async false
set_option maxRecDepth 100000
set_option linter.all false
set_option maxHeartbeats 4000000
namespace Lay.W1
variable {P : Params} {F : Fx} {n : Nat} {loc : Loc} {H : Hp}
noncomputable def rm (p : Str → Bool) (l : List Str) : Option Str := l.reverse.find? p
theorem rm_take {p : Str → Bool} {l : List Str} {j : Nat} (h : j < l.length) : rm p (l.take (j + 1)) = if p l[j] then some l[j] else rm p (l.take j) := by
  unfold rm
  rw [List.take_add_one, List.getElem?_eq_getElem h]
  simp only [Option.toList_some, List.reverse_append, List.reverse_cons, List.reverse_nil, List.nil_append, List.singleton_append, List.find?_cons]
  split <;> simp_all
noncomputable def orNone : Option Str → V
  | none => .none
  | some s => .str s
theorem rt_call (ok : Ok F (n + 1)) (W : Wd (K P) F.c.base) {SV : V} {ts : Addr} {kvs : List (Str × V)} {syms : List Str} {Q : V → Loc → Hp → Prop} (eS : asL H SV = some (syms.map .str)) (eT : H.D ts = some kvs) (hz : syms.length ≤ 1000)
    (q : Q (orNone (rm (fun s => (dget kvs s).isSome) syms)) loc H) : Call F (.ref 79) [SV, .ref ts] loc H Q := by
  refine Call_of (defP ok W ["symbols", "terminals"] (Vs := [SV, .ref ts]) rfl rfl rfl rfl rfl rfl ?_ rfl ?_)
  · intro vs ws B r1 r2 le
    apply r2.e0
    apply r1.e2
    intro _ _ a b
    exact ⟨[_, _], Looks.of_peek W.k rfl, .cons a (.cons b .nil)⟩
  · intro F' ok tp W hF
    have hz' : (syms.map V.str).length ≤ 1000000 := by rw [List.length_map]; omega
    refine WSs_cons (sAsg ok hF rfl (WE_BinOp (WE_CallN (gBi ok W hF rfl rfl (by boot_by_name) (by decide) (WEs_cons (gLoc ok hF rfl rfl (WEs_nil ⟨keepB ok, Call_len eS hz' (WE_int (Op_sub ?_))⟩)))))))
    rw [List.length_map]
    refine WSs_cons (WS_While (fun k l H' => k ≤ syms.length ∧ rm (fun s => (dget kvs s).isSome) syms = rm (fun s => (dget kvs s).isSome) (syms.take k) ∧ l = [some SV, some (.ref ts), some (.int ((k : Int) - 1)), none] ∧ H' = H) syms.length ⟨Nat.le_refl _, by rw [List.take_length], rfl, rfl⟩ ?_)
    rintro k l H' ⟨hk, hr, rfl, rfl⟩
    refine WB_Compare (gLoc ok.inl hF rfl rfl (WE_int (Cmp_ge ⟨fun h => ?_, fun h => ?_⟩)))
    · have h0 : 1 ≤ k := by have := of_decide_eq_true h; omega
      obtain ⟨j, rfl⟩ : ∃ j, k = j + 1 := ⟨k - 1, by omega⟩
      have hj : j < syms.length := by omega
      have hx : (syms.map V.str)[(((j + 1 : Nat) : Int) - 1).toNat]? = some (.str syms[j]) := by
        have : (((j + 1 : Nat) : Int) - 1).toNat = j := by omega
        rw [this]; simp [hj]
      have m0 : (0 : Int) ≤ ((j + 1 : Nat) : Int) - 1 := by omega
      have m1 : ((j + 1 : Nat) : Int) - 1 < 1000000 := by omega
      refine WSs_cons (WS_If (WB_Compare (WE_Subscript (gLoc ok.inl hF rfl rfl (gLoc ok.inl hF rfl rfl (Sub_list eS m0 m1 hx (gLoc ok.inl hF rfl rfl (Cmp_inD eT ⟨fun hp => ?_, fun hp => ?_⟩))))))))
      · refine WSs_cons (WS_Return (WE_Subscript (gLoc ok.inl hF rfl rfl (gLoc ok.inl hF rfl rfl (Sub_list eS m0 m1 hx ?_)))))
        rw [hr, rm_take hj, if_pos hp] at q
        exact q
      · refine WSs_nil (WSs_cons (sAug ok.inl hF rfl rfl (WE_int (Op_isub (WSs_nil ⟨j, Nat.lt_succ_self _, by omega, ?_, ?_, rfl⟩)))))
        · rw [hr, rm_take hj, if_neg (by rw [hp]; decide)]
        · have : ((j + 1 : Nat) : Int) - 1 - 1 = (j : Int) - 1 := by omega
          rw [this]; rfl
    · have h0 : k = 0 := by have := of_decide_eq_false h; omega
      subst h0
      refine WSs_nil (WSs_cons (WS_Return (WE_none ?_)))
      rw [hr] at q
      exact q
end Lay.W1
end
noncomputable section
open PySem PySem.W PyProof.Rows PySem.Calls
set_option Elab.async false
set_option maxRecDepth 100000
set_option linter.all false
set_option maxHeartbeats 8000000
namespace Lay.W1
variable {P : Params} {F : Fx} {n : Nat} {loc : Loc} {H : Hp}
noncomputable abbrev apNm : List (Str × NameKind) := [("self", .local), ("prodname", .local), ("syms", .local), ("func", .local), ("file", .local), ("line", .local), ("n", .local), ("s", .local), ("c", .local), ("precname", .local), ("prodprec", .local), ("map", .local), ("pnumber", .local), ("t", .local), ("p", .local), ("GrammarError", .globalImplicit), ("enumerate", .globalImplicit), ("len", .globalImplicit), ("rightmost_terminal", .globalImplicit), ("tuple", .globalImplicit), ("Production", .globalImplicit), ("KeyError", .globalImplicit)]
noncomputable def AL (x : Addr) (h : Str) (S : List V) (a6 a7 a8 a9 a10 a11 a12 a13 a14 : Option V) : Loc := [some (.ref x), some (.str h), some (.list S), some .none, some (.str (Str.ofString "")), some (.int 0), a6, a7, a8, a9, a10, a11, a12, a13, a14, none, none, none, none, none, none, none]
inductive Ap3 (H : Hp) (g : GA) (t : GT) (h : Str) (syms : List Str) (pv : V) (a6 : Option V) (a7 : Option V) (a8 : Option V) (a9 : Option V) (l : Loc) (H' : Hp) : Prop
  | mk (t1 : GT) (_ : ApSt 217 238 H g t 1001 (tcon t.tT, addKey (tcon t.tN) h) H' t1) (_ : l = AL g.g h (syms.map .str) a6 a7 a8 a9 (some pv) (some (pairV (h, syms))) (some (.int t.ps.length)) none none) : Ap3 H g t h syms pv a6 a7 a8 a9 l H'
inductive Ap4 (H : Hp) (g : GA) (t : GT) (h : Str) (syms : List Str) (pv : V) (a6 : Option V) (a7 : Option V) (a8 : Option V) (a9 : Option V) (i : Nat) (l : Loc) (H' : Hp) : Prop
  | mk (t1 : GT) (a13 : Option V) (_ : ApSt 217 238 H g t (1001 + 2 * i) (useAll (.int t.ps.length) (tcon t.tT, addKey (tcon t.tN) h) (syms.take i)) H' t1) (_ : l = AL g.g h (syms.map .str) a6 a7 a8 a9 (some pv) (some (pairV (h, syms))) (some (.int t.ps.length)) a13 none) : Ap4 H g t h syms pv a6 a7 a8 a9 i l H'
inductive Ap5 (H : Hp) (g : GA) (t : GT) (h : Str) (syms : List Str) (pv : V) (a6 : Option V) (a7 : Option V) (a8 : Option V) (a9 : Option V) (i : Nat) (hi' : i < syms.length) (T : List (Str × List V)) (N : List (Str × List V)) (l : Loc) (H' : Hp) : Prop
  | mk (t2 : GT) (_ : ApSt 217 238 H g t (1001 + 2 * i + 1) (T, addKey N syms[i]) H' t2) (_ : l = AL g.g h (syms.map .str) a6 a7 a8 a9 (some pv) (some (pairV (h, syms))) (some (.int t.ps.length)) (some (.str syms[i])) none) : Ap5 H g t h syms pv a6 a7 a8 a9 i hi' T N l H'
theorem ap_tail (ok : Ok F (n + 4)) (tp : Top F) (W : Wd (K P) F.c.base) (hF : FrameIs F apNm []) {g : GA} {t : GT} {h : Str} {syms : List Str} {pv : V} {a6 a7 a8 a9 : Option V} {Q : Fl → Loc → Hp → Prop} (gr : Gr H g t) (hl : ∀ s ∈ syms, s.length ≤ 1000) (nd : (h, syms) ∉ t.pm) (sz : syms.length ≤ 20) (szt : Sz 1000 t)
    (q : ∀ t' H' fs l, Gr H' g t' → Ext (foot g t) H H' → Grown H g t t' → Keeps2 t t' → PrF fs (t.ps.length : Nat) h syms pv → t'.ps = t.ps ++ [.inst 68 fs] → t'.pm = t.pm ++ [(h, syms)] →
      (tcon t'.tT, tcon t'.tN) = useAll (.int (t.ps.length : Nat)) (tcon t.tT, addKey (tcon t.tN) h) syms → tcon t'.tR = addUse (addKey (tcon t.tR) h) h (.inst 68 fs) → Q .next l H') :
    WSs F ((fnB (tm 6 4)).drop 6) (AL g.g h (syms.map .str) a6 a7 a8 a9 (some pv) (some (pairV (h, syms))) none none none) H Q := by
  have hz' : (syms.map V.str).length ≤ 1000000 := len_map_le sz
  refine WSs_cons (sAsg ok hF rfl (WE_CallN (gBi ok W hF rfl rfl (by boot_by_name) (by decide) (WEs_cons (WE_Attr (gLoc ok hF rfl rfl (getG ok W gr Fld.prods rfl (WEs_nil ⟨keepB ok, Call_len gr.ps (Nat.le_trans szt.ps (by decide)) ?_⟩))))))))
  -- the name of the rule
  have st0 : ApSt 217 238 H g t 1000 (tcon t.tT, tcon t.tN) H t := ⟨gr, Ext.refl H, Grown.refl H g t, szt, rfl, rfl, rfl, ⟨rfl, rfl, rfl, rfl, rfl⟩, rfl⟩
  refine WSs_midV (Ap3 H g t h syms pv a6 a7 a8 a9) (fun Q3 b3 => WS_If (WB_Compare (gLoc ok hF rfl rfl (WE_Attr (gLoc ok hF rfl rfl (getG ok W gr Fld.nts rfl (Cmp_notInD gr.tN.dict ⟨fun hh => ?_, fun hh => ?_⟩))))))) ?_
  · have hk : h ∉ kys t.tN := by
      intro hm
      obtain ⟨a, xs, e⟩ := tget_some hm
      rw [dget_tof, e] at hh; cases hh
    refine WSs_cons (WS_AssignT (WE_List (WEs_nil ⟨by simp, fun a ha => WA_sub (WE_Attr (gLoc ok hF rfl rfl (getG ok W gr Fld.nts rfl (gLoc ok hF rfl rfl (Set_dict gr.tN.dict (gr.gn _) (tof_len szt.N) (WSs_nil ?_))))))⟩)))
    exact b3.n ⟨_, st0.keyN hk ha, rfl⟩
  · have hk : h ∈ kys t.tN := by
      apply Classical.byContradiction
      intro hm
      rw [dget_tof, tget_none.mpr hm] at hh; cases hh
    refine WSs_nil (b3.n ⟨t, ?_, rfl⟩)
    rw [addKey_old (by rw [tcon_keys]; exact hk)]
    exact st0.mono (by decide)
  rintro l H' ⟨t1, st1, rfl⟩
  -- the signs
  refine WSs_cons (WS_For (WIt_list (gLoc ok hF rfl rfl ⟨_, rfl, ?_⟩)))
  refine ForOnV (fun i => lstSt_mono i) (syms.map V.str).length (Ap4 H g t h syms pv a6 a7 a8 a9) ⟨t1, none, st1, rfl⟩ ?_ ?_
  · rintro i Q4 b4 l H' hi ⟨t1, a13, st, rfl⟩
    have hi' : i < syms.length := by simpa using hi
    have hi2 : 1001 + 2 * i ≤ 1041 := Nat.add_le_add_left (Nat.mul_le_mul_left 2 (Nat.le_trans (Nat.le_of_lt hi') sz)) 1001
    refine ⟨.str syms[i], Nxt_list (xs := syms.map .str) rfl (by simp [hi']), tLoc ok.inl hF rfl ?_⟩
    have hnext : syms.take (i + 1) = syms.take i ++ [syms[i]] := take_snoc hi'
    generalize hu : useAll (V.int t.ps.length) (tcon t.tT, addKey (tcon t.tN) h) (syms.take i) = u at st
    obtain ⟨T, N⟩ := u
    have hT := st.fldT syms[i]
    have hN := st.fldN syms[i]
    have inT : ∀ {d : List (Str × V)}, d = tof t1.tT → ((dget d syms[i]).isSome = true ↔ syms[i] ∈ kys t1.tT) := by
      rintro d rfl
      rw [dget_tof, Option.isSome_map]
      constructor
      · intro hh
        apply Classical.byContradiction
        intro hm
        rw [tget_none.mpr hm] at hh; cases hh
      · intro hk
        obtain ⟨a, xs, e⟩ := tget_some hk
        rw [e]; rfl
    refine WSs_cons (WS_If (WB_Compare (gLoc ok.inl hF rfl rfl (WE_Attr (gLoc ok.inl hF rfl rfl (getG ok.inl W st.gr Fld.ts rfl (Cmp_inD st.gr.tT.dict ⟨fun hh => ?_, fun hh => ?_⟩)))))))
    · have hk := (inT rfl).mp hh
      obtain ⟨a, xs, e⟩ := tget_some hk
      obtain ⟨e1, e2⟩ := st.gr.tT.at_ e
      refine WSs_cons (sExpr ok.inl (WE_CallM (WE_Subscript (WE_Attr (gLoc ok.inl hF rfl rfl (getG ok.inl W st.gr Fld.ts rfl (gLoc ok.inl hF rfl rfl (Sub_dict st.gr.tT.dict e1 (MGet_append e2 (WEs_cons (gLoc ok.inl hF rfl rfl (WEs_nil ⟨keepB ok.inl, Call_append e2 (Nat.le_trans (st.sz.lT _ (tget_mem e)) (Nat.le_trans hi2 (by decide))) (WSs_nil (WSs_nil ?_))⟩))))))))))))
      refine b4.n ⟨{ t1 with tT := tset t1.tT a (xs ++ [V.int t.ps.length]) }, _, ?_, rfl⟩
      rw [hnext, useAll_snoc, hu, show useAll (V.int t.ps.length) (T, N) [syms[i]] = (addUse T syms[i] (V.int t.ps.length), N) from if_pos (hT.mpr hk)]
      exact (st.useT e).mono (Nat.le_succ _)
    · have hk : syms[i] ∉ kys t1.tT := fun hm => by rw [(inT rfl).mpr hm] at hh; cases hh
      have hstep : useAll (V.int t.ps.length) (T, N) [syms[i]] = (T, addUse (addKey N syms[i]) syms[i] (V.int t.ps.length)) := if_neg (fun hm => hk (hT.mp hm))
      refine WSs_midV (Ap5 H g t h syms pv a6 a7 a8 a9 i hi' T N) (fun Q5 b5 => WS_If (WB_Compare (gLoc ok.inl hF rfl rfl (WE_Attr (gLoc ok.inl hF rfl rfl (getG ok.inl W st.gr Fld.nts rfl (Cmp_notInD st.gr.tN.dict ⟨fun hh => ?_, fun hh => ?_⟩))))))) ?_
      · have hkn : syms[i] ∉ kys t1.tN := by
          intro hm
          obtain ⟨a, xs, e⟩ := tget_some hm
          rw [dget_tof, e] at hh; cases hh
        refine WSs_cons (WS_AssignT (WE_List (WEs_nil ⟨by simp, fun a ha => WA_sub (WE_Attr (gLoc ok.inl hF rfl rfl (getG ok.inl W st.gr Fld.nts rfl (gLoc ok.inl hF rfl rfl (Set_dict st.gr.tN.dict (st.gr.gn _) (tof_len (Nat.le_trans st.sz.N hi2)) (WSs_nil ?_))))))⟩)))
        exact b5.n ⟨_, st.keyN hkn ha, rfl⟩
      · have hkn : syms[i] ∈ kys t1.tN := by
          apply Classical.byContradiction
          intro hm
          rw [dget_tof, tget_none.mpr hm] at hh; cases hh
        refine WSs_nil (b5.n ⟨t1, ?_, rfl⟩)
        rw [addKey_old (hN.mpr hkn)]
        exact st.mono (Nat.le_succ _)
      rintro l H' ⟨t2, st2, rfl⟩
      have hk2 : syms[i] ∈ kys t2.tN := by
        rw [← st2.fldN syms[i]]
        unfold addKey
        split
        · assumption
        · simp
      obtain ⟨a, xs, e⟩ := tget_some hk2
      obtain ⟨e1, e2⟩ := st2.gr.tN.at_ e
      refine WSs_cons (sExpr ok.inl (WE_CallM (WE_Subscript (WE_Attr (gLoc ok.inl hF rfl rfl (getG ok.inl W st2.gr Fld.nts rfl (gLoc ok.inl hF rfl rfl (Sub_dict st2.gr.tN.dict e1 (MGet_append e2 (WEs_cons (gLoc ok.inl hF rfl rfl (WEs_nil ⟨keepB ok.inl, Call_append e2 (Nat.le_trans (st2.sz.lN _ (tget_mem e)) (Nat.le_trans (Nat.succ_le_succ hi2) (by decide))) (WSs_nil (WSs_nil ?_))⟩))))))))))))
      refine b4.n ⟨{ t2 with tN := tset t2.tN a (xs ++ [V.int t.ps.length]) }, _, ?_, rfl⟩
      rw [hnext, useAll_snoc, hu, hstep]
      exact (st2.useN e).mono (Nat.le_refl _)
  · rintro l H' ⟨t1, a13, st, rfl⟩
    have hi2 : 1001 + 2 * syms.length ≤ 1041 := Nat.add_le_add_left (Nat.mul_le_mul_left 2 sz) 1001
    rw [List.length_map, List.take_length] at st
    refine ⟨Nxt_list_end (xs := syms.map .str) (ok.handled (Nat.succ_ne_zero _)) rfl (Nat.le_refl _), WSs_nil ?_⟩
    obtain ⟨ns, ens, nfld⟩ := st.gr.nD
    generalize hu : useAll (V.int t.ps.length) (tcon t.tT, addKey (tcon t.tN) h) syms = u at st
    obtain ⟨T, N⟩ := u
    refine WSs_cons (sAsg ok hF rfl (WE_CallN (gGlob ok W hF rfl rfl (.ref 68) (WEs_cons (gLoc ok hF rfl rfl (WEs_cons (gLoc ok hF rfl rfl (WEs_cons (gLoc ok hF rfl rfl (WEs_cons (gLoc ok hF rfl rfl (WEs_cons (gLoc ok hF rfl rfl (WEs_cons (gLoc ok hF rfl rfl (WEs_cons (gLoc ok hF rfl rfl (WEs_cons (WE_Attr (WE_Attr (gLoc ok hF rfl rfl (getG ok W st.gr Fld.names rfl (getA ok W st.gr.nI ens nfld rfl (WEs_nil ⟨keepK ok W, ?_⟩))))))))))))))))))))))))
    refine pr_call (n := n + 1) (syms := syms) ok W st.gr.gn st.gr.al rfl (Nat.le_trans sz (by decide)) hl fun pf hpf => ?_
    refine WSs_cons (sExpr ok (WE_CallM (WE_Attr (gLoc ok hF rfl rfl (getG ok W st.gr Fld.prods rfl (MGet_append st.gr.ps (WEs_cons (gLoc ok hF rfl rfl (WEs_nil ⟨keepB ok, Call_append st.gr.ps (Nat.le_trans st.sz.ps (Nat.le_trans hi2 (by decide))) ?_⟩)))))))))
    have g2 := st.gr.setL (a := g.prods) (t1.ps ++ [V.inst 68 pf])
    rw [setL_ps st.gr] at g2
    have x2 := st.extL (List.mem_cons_self ..) (t1.ps ++ [V.inst 68 pf])
    have w2 : Grown H g t { t1 with ps := t1.ps ++ [V.inst 68 pf] } := st.grown.lists rfl
    have hnd : (h, syms) ∉ t1.pm := by rw [st.pm]; exact nd
    refine WSs_cons (WS_AssignT (gLoc ok hF rfl rfl (WA_sub (WE_Attr (gLoc ok hF rfl rfl (getG ok W g2 Fld.pm rfl (gLoc ok hF rfl rfl (Set_P (k := (h, syms)) ok g2.pm (g2.gn _) hnd (Nat.le_trans (show t1.pm.length ≤ _ from st.sz.pm) (Nat.le_trans hi2 (by decide))) ?_))))))))
    have g3 := g2.setP (t1.pm ++ [(h, syms)])
    have x3 : Ext (foot g t) H { L := up H'.L g.prods (t1.ps ++ [V.inst 68 pf]), D := H'.D, P := up H'.P g.pm (t1.pm ++ [(h, syms)]), S := H'.S, I := H'.I, C := H'.C, G := H'.G } := x2.of_foot (t' := t) (extP (.inl (.inr (.inr (.inl rfl))))) (Grown.refl _ _ _)
    have w3 : Grown H g t { t1 with ps := t1.ps ++ [V.inst 68 pf], pm := t1.pm ++ [(h, syms)] } := st.grown.lists rfl
    have k3 : Keeps2 t { t1 with ps := t1.ps ++ [V.inst 68 pf], pm := t1.pm ++ [(h, syms)] } := ⟨st.keeps.fst, st.keeps.fol, st.keeps.pr, st.keeps.ups, st.keeps.start⟩
    have hT3 : (tcon t1.tT, tcon t1.tN) = (T, N) := st.uses
    generalize hH3 : ({ L := up H'.L g.prods (t1.ps ++ [V.inst 68 pf]), D := H'.D, P := up H'.P g.pm (t1.pm ++ [(h, syms)]), S := H'.S, I := H'.I, C := H'.C, G := H'.G } : Hp) = H3 at g3 x3
    refine WSs_cons (WS_Try (tv := .type "KeyError") ok tp (fun l H' => l = AL g.g h (syms.map .str) a6 a7 a8 a9 (some pv) (some (pairV (h, syms))) (some (.int t.ps.length)) a13 (some (.inst 68 pf)) ∧ H3 = H' ∧ h ∉ kys t.tR) hm_KeyError (fun e E l H ok' => gBi ok' W hF rfl rfl (by boot_by_name) (by decide) ⟨rfl, rfl, fun B v r => by cases r; rfl⟩) ?_ ?_)
    · intro lo E okb tpb acc
      cases htg : tget t1.tR h with
      | some p =>
        obtain ⟨a, xs⟩ := p
        obtain ⟨e1, e2⟩ := g3.tR.at_ htg
        refine WSs_cons (sExpr okb (WE_CallM (WE_Subscript (WE_Attr (gLoc okb hF rfl rfl (getG okb W g3 Fld.pn rfl (gLoc okb hF rfl rfl (Sub_dict g3.tR.dict e1 (MGet_append e2 (WEs_cons (gLoc okb hF rfl rfl (WEs_nil ⟨keepB okb, Call_append e2 (Nat.le_trans (st.sz.lR _ (tget_mem htg)) (Nat.le_trans hi2 (by decide))) (WSs_nil (WSs_nil ?_))⟩))))))))))))
        have ha : a ∈ adr t1.tR := List.mem_map.mpr ⟨_, tget_mem htg, rfl⟩
        have g4 := g3.setL (a := a) (xs ++ [V.inst 68 pf])
        rw [setL_R g3 ha] at g4
        refine q _ _ pf _ g4 (x3.of_foot (Lay.extL (.inl (foot_L (mem_lists_R ha)))) w3) (w3.lists (by simp [GT.lists, adr_tset])) ⟨k3.fst, k3.fol, k3.pr, k3.ups, k3.start⟩ hpf (by show t1.ps ++ _ = _; rw [st.ps]) (by show t1.pm ++ _ = _; rw [st.pm]) (by rw [hu]; exact hT3) ?_
        show tcon (tset t1.tR a (xs ++ [V.inst 68 pf])) = _
        rw [tcon_use st.gr.kR st.gr.apart.2.2.2.2.2.1 htg, st.R, addKey_old]
        rw [tcon_keys, ← st.R]
        apply Classical.byContradiction
        intro hm
        rw [tget_none.mpr hm] at htg; cases htg
      | none =>
        have hk : h ∉ kys t1.tR := tget_none.mp htg
        refine WSs_cons (sExpr okb (WE_CallM (WE_Subscript (WE_Attr (gLoc okb hF rfl rfl (getG okb W g3 Fld.pn rfl (gLoc okb hF rfl rfl (Sub_dict_miss (okb.handled (Nat.succ_ne_zero _)) g3.tR.dict (by rw [dget_tof, htg]; rfl) fun B s e r => acc.raised r ⟨rfl, rfl, by rw [← st.R]; exact hk⟩))))))))
    · rintro e E l H4 okh ⟨rfl, rfl, hk⟩
      have hk1 : h ∉ kys t1.tR := by rw [st.R]; exact hk
      refine WSs_cons (WS_AssignT (WE_List (WEs_cons (gLoc okh hF rfl rfl (WEs_nil ⟨by simp, fun a ha => WA_sub (WE_Attr (gLoc okh hF rfl rfl (getG okh W g3 Fld.pn rfl (gLoc okh hF rfl rfl (Set_dict g3.tR.dict (g3.gn _) (tof_len (Nat.le_trans st.sz.R hi2)) (WSs_nil (WSs_nil ?_)))))))⟩)))))
      have g4 := g3.newR (xs := [V.inst 68 pf]) hk1 ha
      refine q _ _ pf _ g4 (x3.of_foot ((Lay.extL (.inr ha)).trans (extD (.inl (foot_D (by simp [GA.dicts]))))) w3) (w3.newR (x3.fresh ha)) ⟨k3.fst, k3.fol, k3.pr, k3.ups, k3.start⟩ hpf (by show t1.ps ++ _ = _; rw [st.ps]) (by show t1.pm ++ _ = _; rw [st.pm]) (by rw [hu]; exact hT3) ?_
      show tcon (t1.tR ++ [(h, a, [V.inst 68 pf])]) = _
      rw [st.R]
      unfold addKey
      rw [if_neg (by rw [tcon_keys]; exact hk)]
      have : addUse (tcon t.tR) h (V.inst 68 pf) = tcon t.tR := by
        unfold addUse
        conv => rhs; rw [← List.map_id (tcon t.tR)]
        refine List.map_congr_left fun p hp => ?_
        rw [if_neg (fun e => hk (by rw [← tcon_keys, ← e]; exact List.mem_map.mpr ⟨p, hp, rfl⟩))]; rfl
      have e1 : addUse (tcon t.tR ++ [(h, [])]) h (V.inst 68 pf) = addUse (tcon t.tR) h (V.inst 68 pf) ++ [(h, [V.inst 68 pf])] := by simp [addUse]
      rw [e1, this]
      simp [tcon]
end Lay.W1
end
noncomputable section
open PySem PySem.W PyProof.Rows PySem.Calls
set_option Elab.async false
set_option maxRecDepth 100000
set_option linter.all false
set_option maxHeartbeats 8000000
namespace Lay.W1
variable {P : Params} {F : Fx} {n : Nat} {loc : Loc} {H : Hp}
theorem exc89 (W : Wd (K P) F.c.base) : ExcAt F.c.base 89 := ⟨_, _, 88, _, _, _, _, _, _, _, _, _, _, _, _, _, _, nsMap_none_of_in W.k (by kernel_rfl) (by kernel_rfl), W.k 89 _ rfl, .of_isNs (isNs_of_in W.k (by kernel_rfl)), tail_of_in W.k (by kernel_rfl)⟩
theorem raiseG (ok : Ok F (n + 1)) (W : Wd (K P) F.c.base) {nm : List (Str × NameKind)} {cl : List (Str × Addr)} (hF : FrameIs F nm cl) {PX : Loc → Hp → Prop} (acc : Acc F (.ref 89) PX) {i : Nat} {np p1 cpos pos : Pos} {x : String} {k : Nat} {Q : Fl → Loc → Hp → Prop} (hx : look nm "GrammarError" = some (i, .globalImplicit)) (p : PX loc H) :
    WSs F [.Raise (some (.Call (.Name "GrammarError" np) [.Constant (.str (Str.ofString x)) k p1] [] cpos)) none pos] loc H Q :=
  WSs_cons (WS_RaiseU ok (exc89 W) acc (gGlob ok W hF hx rfl (.ref 89) ⟨rfl, WEs_cons (WE_str (WEs_nil ⟨by simp, p⟩))⟩))
theorem sp_call (ok : Ok F (n + 3)) (W : Wd (K P) F.c.base) {g : GA} {t : GT} {w k : Str} {l : Int} {PX : Hp → Prop} {Q : V → Loc → Hp → Prop} (gr : Gr H g t) (hps : t.ps = [.none]) (hz : t.pr.length ≤ 1000)
    (qe : (dget t.pr w ≠ none ∨ V.str k ∉ [V.str "left", V.str "right", V.str "nonassoc"]) → PX H)
    (q : dget t.pr w = none → V.str k ∈ [V.str "left", V.str "right", V.str "nonassoc"] → ∀ H', Gr H' g { t with pr := dput t.pr w (.tup [.str k, .int l]) } → Ext (foot g t) H H' → Q .none loc H') :
    CCallE F (.ref 89) PX 127 [.ref g.g, .str w, .str k, .int l] [] [] loc H Q := by
  refine defPE ok W ["self", "term", "assoc", "level"] (Vs := [.ref g.g, .str w, .str k, .int l]) rfl rfl rfl rfl rfl rfl ?_ rfl ?_
  · intro vs ws B r1 r2 le
    apply r2.e0
    apply r1.e4
    intro _ _ _ _ a b c d
    exact ⟨[_, _, _, _], Looks.of_peek W.k rfl, .cons a (.cons b (.cons c (.cons d .nil)))⟩
  · intro F' ok tp acc W hF
    refine WSs_cons (WS_Assert (WB_Compare (WE_Attr (gLoc ok hF rfl rfl (getG ok W gr Fld.prods rfl (WE_ListF (WEs_cons (WE_none (WEs_nil ⟨by simp, Cmp_eq ok (by simp only [asD, gr.ps, hps]; rfl) (by rfl) ⟨by simp only [asD, gr.ps, hps]; exact eqV_iff.mpr rfl, ?_⟩⟩)))))))))
    refine WSs_cons (sIf (bCmp (eLoc ok hF rfl rfl) (eAttr (eLoc ok hF rfl rfl) fun _ q => getG ok W gr Fld.pr rfl q) fun _ q => Cmp_inD gr.pr q) (fun h => raiseG ok W hF acc rfl (qe (.inl fun e => by rw [e] at h; cases h))) fun h => WSs_nil ?_)
    have h0 : dget t.pr w = none := by
      cases e : dget t.pr w with
      | none => rfl
      | some x => rw [e] at h; cases h
    refine WSs_cons (sIf (bCmp (eLoc ok hF rfl rfl) (eListF (eCons eStr (eCons eStr (eCons eStr eNil)))) fun _ q => Cmp_notIn ok (xs := [.str "left", .str "right", .str "nonassoc"]) rfl rfl (by simp [V.isD]) q) (fun h => raiseG ok W hF acc rfl (qe (.inr fun hm => by rw [inV_iff.mpr hm] at h; cases h))) fun h => WSs_nil ?_)
    have hk : V.str k ∈ [V.str "left", V.str "right", V.str "nonassoc"] := by
      apply Classical.byContradiction
      intro hn
      rw [inV_false.mpr hn] at h; cases h
    refine WSs_cons (WS_AssignT (WE_Tuple (WEs_cons (gLoc ok hF rfl rfl (WEs_cons (gLoc ok hF rfl rfl (WEs_nil ⟨by simp, WA_sub (WE_Attr (gLoc ok hF rfl rfl (getG ok W gr Fld.pr rfl (gLoc ok hF rfl rfl (Set_dict gr.pr (gr.gn _) (Nat.le_trans hz (by decide)) (WSs_nil ?_))))))⟩)))))))
    exact q h0 hk _ (gr.setPr _) (extD (.inl (foot_D (by simp [GA.dicts]))))
end Lay.W1
end
noncomputable section
open PySem PySem.W PyProof.Rows PySem.Calls
set_option Elab.async false
set_option maxRecDepth 100000
set_option linter.all false
set_option maxHeartbeats 8000000
namespace Lay.W1
noncomputable def kd (s : Str) : Option (Option Str) := if s = "'+'" then some (some "+") else if s = "\"-\"" then some (some "-") else if s = "'ab'" then some none else none
noncomputable def bs (s : Str) : Str := match kd s with
  | some (some c) => c
  | _ => s
structure SgF (s : Str) : Prop where
  len : s.length ≤ 1000
  c0 : ∃ c d, (seqIndex? 0 s.length).bind (s.cps[·]?) = some c ∧ PyData.strOk ⟨#[c]⟩ = true ∧ (Builtin.Str.occurrences (Str.ofString "'\"") ⟨#[c]⟩ 0 (Str.ofString "'\"").length 1).isEmpty = (kd s).isNone ∧
    (seqIndex? (-1) s.length).bind (s.cps[·]?) = some d ∧ PyData.strOk ⟨#[d]⟩ = true ∧ ((kd s).isSome = true → d = c) ∧ (decide ((⟨#[c]⟩ : Str) = Str.ofString "'") || decide ((⟨#[c]⟩ : Str) = Str.ofString "\"")) = (kd s).isSome
  lk : (kd s).isSome = true → (s.length ≠ 3 ↔ kd s = some none)
  sl : (kd s).isSome = true → PyData.strOk (Txt.slice s (some 1) (some (-1))) = true ∧ ((Txt.slice s (some 1) (some (-1))).length ≠ 1 ↔ kd s = some none) ∧ (Txt.slice s (some 1) (some (-1))).length ≤ 1000
  ch : ∀ c, kd s = some (some c) → Txt.slice s (some 1) (some (-1)) = c ∧ ∃ k, (seqIndex? 1 s.length).bind (s.cps[·]?) = some k ∧ PyData.strOk ⟨#[k]⟩ = true ∧ (⟨#[k]⟩ : Str) = c
noncomputable def signs : List Str := [Str.ofString "x", Str.ofString "y", Str.ofString "A", Str.ofString "B", Str.ofString "u", Str.ofString "'+'", Str.ofString "'ab'", Str.ofString "\"-\"", Str.ofString "p", Str.ofString "q", Str.ofString "%prec"]
theorem sgF {s : Str} (h : s ∈ signs) : SgF s := by
  have e0 : ∀ {s c}, kd s = none → kd s = some (some c) → False := fun a b => by rw [a] at b; cases b
  simp only [signs, List.mem_cons, List.not_mem_nil, or_false] at h
  rcases h with rfl | rfl | rfl | rfl | rfl | rfl | rfl | rfl | rfl | rfl | rfl
  case inr.inr.inr.inr.inr.inl =>
    exact ⟨by decide +kernel, ⟨_, _, rfl, by decide +kernel, by decide +kernel, rfl, by decide +kernel, by decide +kernel, by decide +kernel⟩, by decide +kernel, by decide +kernel, fun c h => by
      have e : kd (Str.ofString "'+'") = some (some (Str.ofString "+")) := by decide +kernel
      rw [e] at h; cases h
      exact ⟨by decide +kernel, _, rfl, by decide +kernel, by decide +kernel⟩⟩
  case inr.inr.inr.inr.inr.inr.inr.inl =>
    exact ⟨by decide +kernel, ⟨_, _, rfl, by decide +kernel, by decide +kernel, rfl, by decide +kernel, by decide +kernel, by decide +kernel⟩, by decide +kernel, by decide +kernel, fun c h => by
      have e : kd (Str.ofString "\"-\"") = some (some (Str.ofString "-")) := by decide +kernel
      rw [e] at h; cases h
      exact ⟨by decide +kernel, _, rfl, by decide +kernel, by decide +kernel⟩⟩
  case inr.inr.inr.inr.inr.inr.inl =>
    exact ⟨by decide +kernel, ⟨_, _, rfl, by decide +kernel, by decide +kernel, rfl, by decide +kernel, by decide +kernel, by decide +kernel⟩, by decide +kernel, by decide +kernel, fun c h => by
      have e : kd (Str.ofString "'ab'") = some none := by decide +kernel
      rw [e] at h; cases h⟩
  all_goals exact ⟨by decide +kernel, ⟨_, _, rfl, by decide +kernel, by decide +kernel, rfl, by decide +kernel, by decide +kernel, by decide +kernel⟩, by decide +kernel, by decide +kernel, fun c h => (e0 (by decide +kernel) h).elim⟩
noncomputable def badIn (l : List Str) : Bool := l.any fun s => kd s == some none
noncomputable def st1 (T : List (Str × List V)) (s : Str) : List (Str × List V) := match kd s with
  | some (some c) => addKey T c
  | _ => T
noncomputable def readT : List (Str × List V) → List Str → List (Str × List V)
  | T, [] => T
  | T, s :: r => if kd s = some none then T else readT (st1 T s) r
theorem badIn_cons {x : Str} {r : List Str} (h : badIn (x :: r) = false) : kd x ≠ some none ∧ badIn r = false := by simpa [badIn] using h
theorem readT_nb : ∀ {l : List Str} {T : List (Str × List V)} {s : Str}, badIn l = false → readT T (l ++ [s]) = st1 (readT T l) s
  | [], T, s, _ => by
    show (if kd s = some none then T else st1 T s) = st1 T s
    split
    · rename_i h; unfold st1; rw [h]
    · rfl
  | x :: r, T, s, h => by
    obtain ⟨h1, h2⟩ := badIn_cons h
    show (if kd x = some none then T else readT (st1 T x) (r ++ [s])) = st1 (if kd x = some none then T else readT (st1 T x) r) s
    rw [if_neg h1, if_neg h1]
    exact readT_nb h2
theorem readT_bad : ∀ {l : List Str} {T : List (Str × List V)} {s : Str} {r : List Str}, badIn l = false → kd s = some none → readT T (l ++ s :: r) = readT T l
  | [], T, s, r, _, h => if_pos h
  | x :: l, T, s, r, hb, h => by
    obtain ⟨h1, h2⟩ := badIn_cons hb
    show (if kd x = some none then T else readT (st1 T x) (l ++ s :: r)) = (if kd x = some none then T else readT (st1 T x) l)
    rw [if_neg h1, if_neg h1]
    exact readT_bad h2 h
noncomputable def rowOf (b : List Str) : Option (List Str) → List Str
  | none => b
  | some r => b ++ Str.ofString "%prec" :: r
noncomputable def precOf (pr : List (Str × V)) : Option Str → V
  | none => .tup [.str (Str.ofString "right"), .int 0]
  | some k => (dget pr k).getD (.tup [.str (Str.ofString "right"), .int 0])
noncomputable def preP (T : List (Str × List V)) (pr : List (Str × V)) (b : List Str) : Option (List Str) → Option (List Str × V)
  | none => some (b, precOf pr (rm (fun s => decide (s ∈ T.map (·.1))) b))
  | some [w] => (dget pr w).map fun pv => (b, pv)
  | some _ => none
noncomputable def takenP (T : List (Str × List V)) (pr : List (Str × V)) (pm : List (Str × List Str)) (h : Str) (b : List Str) (tl : Option (List Str)) : Option (List Str × V) :=
  (preP T pr b tl).bind fun x => if (h, x.1) ∈ pm then none else some x
noncomputable def taken (T : List (Str × List V)) (pr : List (Str × V)) (pm : List (Str × List Str)) (h : Str) (b : List Str) (tl : Option (List Str)) : Option (List Str × V) :=
  if h ∈ T.map (·.1) then none else if badIn (rowOf b tl) = true then none else takenP (readT T (rowOf b tl)) pr pm h (b.map bs) (tl.map (·.map bs))
noncomputable def tokT (T : List (Str × List V)) (h : Str) (row : List Str) : List (Str × List V) := if h ∈ T.map (·.1) then T else readT T row
end Lay.W1
end
noncomputable section
open PySem PySem.W PyProof.Rows PySem.Calls
set_option Elab.async false
set_option maxRecDepth 100000
set_option linter.all false
set_option maxHeartbeats 8000000
namespace Lay.W1
variable {P : Params} {F : Fx} {n : Nat} {loc : Loc} {H : Hp}
structure ApEr (H : Hp) (g : GA) (t : GT) (T' : List (Str × List V)) (H' : Hp) (t' : GT) : Prop where
  gr : GrOk 217 238 H' g t'
  ext : Ext (foot g t) H H'
  grown : Grown H g t t'
  R : t'.tR = t.tR
  ps : t'.ps = t.ps
  pm : t'.pm = t.pm
  pr : t'.pr = t.pr
  start : t'.start = t.start
  fst : t'.fst = t.fst
  fol : t'.fol = t.fol
  ups : t'.ups.2 ≤ t.ups.2 + 1
  T : tcon t'.tT = T'
  N : tcon t'.tN = tcon t.tN
theorem ApSt.er {m : Nat} {T N : List (Str × List V)} {g : GA} {t t1 : GT} {Hg : Hp} (st : ApSt 217 238 H g t m (T, N) Hg t1) (hN : N = tcon t.tN) : ApEr H g t T Hg t1 := by
  have hu := st.uses
  injection hu with u1 u2
  exact ⟨st.gr, st.ext, st.grown, st.R, st.ps, st.pm, st.keeps.pr, st.keeps.start, st.keeps.fst, st.keeps.fol, by rw [st.keeps.ups]; exact Nat.le_succ _, u1, u2.trans hN⟩
theorem ApEr.upL {g : GA} {t t1 : GT} {T : List (Str × List V)} {Hg : Hp} (h : ApEr H g t T Hg t1) {a : Addr} (ha : Hg.Fresh a) (xs : List V) : ApEr H g t T { Hg with L := up Hg.L a xs } t1 :=
  ⟨h.gr.upL ha xs, h.ext.trans (Lay.extL (.inr ha)), h.grown, h.R, h.ps, h.pm, h.pr, h.start, h.fst, h.fol, h.ups, h.T, h.N⟩
theorem ApEr.ups' {g : GA} {t t1 : GT} {T : List (Str × List V)} {Hg : Hp} (h : ApEr H g t T Hg t1) (he : t1.ups = t.ups) (w : Str) (hw : (addS t1.ups w).2 ≤ t1.ups.2 + 1) : ApEr H g t T { Hg with S := up Hg.S g.ups (addS t1.ups w) } { t1 with ups := addS t1.ups w } :=
  ⟨h.gr.setS _, h.ext.of_foot (extS (.inl (.inr (.inr (.inr rfl))))) h.grown, h.grown, h.R, h.ps, h.pm, h.pr, h.start, h.fst, h.fol, by rw [← he]; exact hw, h.T, h.N⟩
noncomputable def midRow (row : List Str) (i : Nat) : List V := (row.take i).map (fun s => V.str (bs s)) ++ (row.drop i).map V.str
theorem midRow_len (row : List Str) (i : Nat) : (midRow row i).length = row.length := by
  unfold midRow
  rw [List.length_append, List.length_map, List.length_map, List.length_take, List.length_drop]
  omega
theorem midRow_at {row : List Str} {i : Nat} (hi : i < row.length) : (midRow row i)[i]? = some (.str row[i]) := by
  unfold midRow
  rw [List.getElem?_append_right (by rw [List.length_map, List.length_take]; omega), List.length_map, List.length_take, Nat.min_eq_left (Nat.le_of_lt hi), Nat.sub_self, List.getElem?_map, List.getElem?_drop]
  simp [hi]
theorem midRow_set {row : List Str} {i : Nat} (hi : i < row.length) : (midRow row i).set i (.str (bs row[i])) = midRow row (i + 1) := by
  unfold midRow
  rw [List.set_append_right _ _ (by rw [List.length_map, List.length_take]; omega), List.length_map, List.length_take, Nat.min_eq_left (Nat.le_of_lt hi), Nat.sub_self, List.drop_eq_getElem_cons hi, List.map_cons, List.set_cons_zero, List.take_add_one, List.getElem?_eq_getElem hi]
  simp only [Option.toList_some, List.map_append, List.map_cons, List.map_nil, List.append_assoc, List.singleton_append]
theorem midRow_same {row : List Str} {i : Nat} (hi : i < row.length) (h : bs row[i] = row[i]) : midRow row i = midRow row (i + 1) := by
  have := midRow_set hi
  rw [h] at this
  rw [← this]
  have e := midRow_at hi
  refine (List.ext_getElem? fun j => ?_).symm
  rw [List.getElem?_set]
  split
  · rename_i h; subst h
    split
    · exact e.symm
    · rename_i h2; rw [midRow_len] at h2; exact absurd hi h2
  · rfl
noncomputable def ALq (x : Addr) (h : Str) (a : Addr) (a6 a7 a8 a9 a10 : Option V) : Loc := [some (.ref x), some (.str h), some (.ref a), some .none, some (.str (Str.ofString "")), some (.int 0), a6, a7, a8, a9, a10, none, none, none, none, none, none, none, none, none, none, none]
inductive Ab1 (H : Hp) (g : GA) (t : GT) (h : Str) (row : List Str) (a : Addr) (i : Nat) (l : Loc) (H' : Hp) : Prop
  | mk (t1 : GT) (Hg : Hp) (a6 a7 a8 : Option V) (_ : badIn (row.take i) = false) (_ : ApSt 217 238 H g t (900 + i) (readT (tcon t.tT) (row.take i), tcon t.tN) Hg t1) (_ : Hg.Fresh a) (_ : H' = { Hg with L := up Hg.L a (midRow row i) }) (_ : l = ALq g.g h a a6 a7 a8 none none) : Ab1 H g t h row a i l H'
inductive Ab2 (H : Hp) (g : GA) (t : GT) (h : Str) (row : List Str) (a : Addr) (i : Nat) (c : Str) (l : Loc) (H' : Hp) : Prop
  | mk (t1 : GT) (Hg : Hp) (_ : ApSt 217 238 H g t (900 + (i + 1)) (addKey (readT (tcon t.tT) (row.take i)) c, tcon t.tN) Hg t1) (_ : Hg.Fresh a) (_ : H' = { Hg with L := up Hg.L a (midRow row i) }) (_ : l = ALq g.g h a (some (.int i)) (some (.str (row[i]?.getD ""))) (some (.str c)) none none) : Ab2 H g t h row a i c l H'
theorem badIn_snoc {l : List Str} {s : Str} : badIn (l ++ [s]) = (badIn l || kd s == some none) := by simp [badIn]
theorem ap_row (ok : Ok F (n + 4)) (tp : Top F) (W : Wd (K P) F.c.base) (hF : FrameIs F apNm []) {g : GA} {t : GT} {h : Str} {row : List Str} {a : Addr} {PX : Loc → Hp → Prop} (acc : Acc F (.ref 89) PX) {Q : Fl → Loc → Hp → Prop} {st : Stmt} (gr : Gr H g t) (ha : H.Fresh a) (sg : ∀ s ∈ row, s ∈ signs) (sz : row.length ≤ 20) (szt : Sz 900 t) (hst : (fnB (tm 6 4))[2]? = some st)
    (qe : badIn row = true → ∀ t' H' l, ApEr H g t (readT (tcon t.tT) row) H' t' → PX l H')
    (q : badIn row = false → ∀ t1 Hg a6 a7 a8, ApSt 217 238 H g t 1000 (readT (tcon t.tT) row, tcon t.tN) Hg t1 → Hg.Fresh a → Q .next (ALq g.g h a a6 a7 a8 none none) { Hg with L := up Hg.L a (row.map fun s => V.str (bs s)) }) :
    WS F st (ALq g.g h a none none none none none) { H with L := up H.L a (row.map .str) } Q := by
  cases hst
  have st0 : ApSt 217 238 H g t 900 (tcon t.tT, tcon t.tN) H t := ⟨gr, Ext.refl H, Grown.refl H g t, szt, rfl, rfl, rfl, ⟨rfl, rfl, rfl, rfl, rfl⟩, rfl⟩
  refine WS_For (WIt_enum (gBi ok W hF rfl rfl (by boot_by_name) (by decide) ⟨rfl, WEs_cons (gLoc ok hF rfl rfl (WEs_nil ⟨_, rfl, .inl ⟨_, up_self _ _ _, ?_⟩⟩))⟩))
  refine ForOnV (fun i => enlSt_mono i) row.length (Ab1 H g t h row a) ⟨t, H, none, none, none, rfl, st0, ha, rfl, rfl⟩ ?_ ?_
  · rintro i Q1 b1 l H' hi ⟨t1, Hg, a6, a7, a8, hb, st, hfa, rfl, rfl⟩
    have acci := acc.inl ok tp
    have hi2 : 900 + i ≤ 1000 := by omega
    have sgf := sgF (sg row[i] (List.getElem_mem _))
    obtain ⟨c, d, c1, c2, c3, d1, d2, d3, d4⟩ := sgf.c0
    have hlen : (row.take (i + 1)) = row.take i ++ [row[i]] := take_snoc hi
    have hsplit : row = row.take i ++ row[i] :: row.drop (i + 1) := by rw [← List.drop_eq_getElem_cons hi, List.take_append_drop]
    refine ⟨.tup [.int i, .str row[i]], Nxt_enl (xs := midRow row i) ok (up_self _ _ _) (midRow_at hi), WA_tuple ok.inl rfl (tLoc ok.inl hF rfl (tLoc ok.inl hF rfl ?_))⟩
    have ih : (kd row[i]).isSome = true → d = c := d3
    refine WSs_cons (sIf (b := (kd row[i]).isSome) ?_ (fun hk => ?_) fun hk => ?_)
    · intro Q q
      refine bAnd (p := (kd row[i]).isSome) (q' := true) (fun Q q => ?_) (fun e => ?_) (by rw [Bool.and_true]; exact q)
      · refine bCmp (b := (kd row[i]).isSome) (eAt (eLoc ok.inl hF rfl rfl) eInt (by decide) (by decide) c1 c2) eStr (fun Q q => Cmp_inStr ?_) rfl q
        rw [c3]
        cases hh : kd row[i] <;> (rw [hh] at q; exact q)
      · refine bCmp (eAt (eLoc ok.inl hF rfl rfl) eInt (by decide) (by decide) c1 c2) (eAt (eLoc ok.inl hF rfl rfl) (eNeg eInt) (by decide) (by decide) d1 d2) (fun Q q => Cmp_eqs ?_)
        rw [ih e]
        rw [decide_eq_true rfl]; exact q
    · -- a literal
      obtain ⟨s1, s2, s4⟩ := sgf.sl hk
      refine WSs_cons (sA ok.inl hF rfl (eSliceS (eLoc ok.inl hF rfl rfl) eInt (eNeg eInt) sgf.len s1) ?_)
      refine WSs_cons (sIf (bCmp (eCall (eBi ok.inl W hF rfl rfl (by boot_by_name) (by decide)) (eCons (eLoc ok.inl hF rfl rfl) eNil) (keepB ok.inl) fun _ q => Call_lenS (Nat.le_trans s4 (by decide)) q) eInt fun _ q => Cmp_nei q) (fun hb2 => ?_) fun hb2 => WSs_nil ?_)
      · have hbad : kd row[i] = some none := s2.mp (by
          have := hb2
          simp only [Bool.not_eq_true', decide_eq_false_iff_not] at this
          exact fun e => this (by rw [e]; rfl))
        have e1 : readT (tcon t.tT) row = readT (tcon t.tT) (row.take i) := by conv => lhs; rw [hsplit]
                                                                               exact readT_bad hb hbad
        refine raiseG ok.inl W hF acci rfl (qe ?_ _ _ _ (e1 ▸ (ApSt.er st rfl).upL hfa _))
        unfold badIn
        rw [List.any_eq_true]
        exact ⟨row[i], List.getElem_mem _, by rw [hbad]; rfl⟩
      · have hnb : kd row[i] ≠ some none := fun e => by
          have := s2.mpr e
          simp only [Bool.not_eq_false', decide_eq_true_eq] at hb2
          exact this (by exact_mod_cast hb2)
        obtain ⟨cc, hcc⟩ : ∃ cc, kd row[i] = some (some cc) := by
          cases e : kd row[i] with
          | none => rw [e] at hk; cases hk
          | some o => cases o with
            | none => exact absurd e hnb
            | some cc => exact ⟨cc, rfl⟩
        obtain ⟨s3, _⟩ := sgf.ch cc hcc
        have hbs : bs row[i] = cc := by unfold bs; rw [hcc]
        rw [s3]
        have grA := st.gr.upL hfa (midRow row i)
        refine WSs_midV (Ab2 H g t h row a i cc) (fun Q2 b2 => sIf (bCmp (eLoc ok.inl hF rfl rfl) (eAttr (eLoc ok.inl hF rfl rfl) fun _ q => getG ok.inl W grA Fld.ts rfl q) fun _ q => Cmp_notInD grA.tT.dict q) (fun hn => ?_) fun hn => ?_) ?_
        · have hkk : cc ∉ kys t1.tT := by
            intro hm
            obtain ⟨a', xs, e⟩ := tget_some hm
            rw [dget_tof, e] at hn; cases hn
          refine WSs_cons (WS_AssignT (WE_List (WEs_nil ⟨by simp, fun b hb => WA_sub (WE_Attr (gLoc ok.inl hF rfl rfl (getG ok.inl W (grA.upL hb []) Fld.ts rfl (gLoc ok.inl hF rfl rfl (Set_dict (grA.upL hb []).tT.dict (grA.gn _) (tof_len (Nat.le_trans st.sz.T hi2)) (WSs_nil ?_))))))⟩)))
          obtain ⟨hab, hfb⟩ := frL hb
          refine b2.n ⟨_, { Hg with L := up Hg.L b [], D := up Hg.D g.ts (dput (tof t1.tT) cc (.ref b)) }, st.keyT hkk hfb, ?_, ?_, ?_⟩
          · have hts : a ≠ g.ts := fun e => st.gr.freshD hfa (by rw [e]; simp [GA.dicts])
            intro o
            refine hfa ?_
            unfold Hp.Own at o ⊢
            simpa only [up_ne (Ne.symm hab), up_ne hts] using o
          · show (⟨up (up Hg.L a (midRow row i)) b [], _, _, _, _, _, _⟩ : Hp) = ⟨up (up Hg.L b []) a (midRow row i), _, _, _, _, _, _⟩
            rw [up_comm (Ne.symm hab)]
          · rw [List.getElem?_eq_getElem hi]; rfl
        · have hkk : cc ∈ kys t1.tT := by
            apply Classical.byContradiction
            intro hm
            rw [dget_tof, tget_none.mpr hm] at hn; cases hn
          refine WSs_nil (b2.n ⟨t1, Hg, ?_, hfa, rfl, by rw [List.getElem?_eq_getElem hi]; rfl⟩)
          rw [addKey_old ((st.fldT cc).mpr hkk)]
          exact st.mono (Nat.le_succ _)
        · rintro l H' ⟨t2, Hg2, st2, hfa2, rfl, rfl⟩
          refine WSs_cons (WS_AssignT (gLoc ok.inl hF rfl rfl (WA_sub (gLoc ok.inl hF rfl rfl (gLoc ok.inl hF rfl rfl (Set_list (up_self _ _ _) (by rw [midRow_len]; exact hi) (by rw [midRow_len]; omega) ?_))))))
          refine WSs_cons (WS_Continue (b1.c ⟨t2, Hg2, _, _, _, ?_, ?_, hfa2, ?_, rfl⟩))
          · rw [hlen, badIn_snoc, hb, hcc]; rfl
          · rw [hlen, readT_nb hb]
            have : st1 (readT (tcon t.tT) (row.take i)) row[i] = addKey (readT (tcon t.tT) (row.take i)) cc := by unfold st1; rw [hcc]
            rw [this]; exact st2
          · show (⟨up (up Hg2.L a (midRow row i)) a ((midRow row i).set i (.str cc)), _, _, _, _, _, _⟩ : Hp) = _
            rw [up_up, ← hbs, midRow_set hi]
    · have h0 : kd row[i] = none := by cases e : kd row[i] with
        | none => rfl
        | some _ => rw [e] at hk; cases hk
      refine WSs_nil (WSs_nil (b1.n ⟨t1, Hg, _, _, _, ?_, ?_, hfa, ?_, rfl⟩))
      · rw [hlen, badIn_snoc, hb, h0]; rfl
      · rw [hlen, readT_nb hb]
        have : st1 (readT (tcon t.tT) (row.take i)) row[i] = readT (tcon t.tT) (row.take i) := by unfold st1; rw [h0]
        rw [this]; exact st.mono (Nat.le_succ _)
      · rw [midRow_same hi (by unfold bs; rw [h0])]
  · rintro l H' ⟨t1, Hg, a6, a7, a8, hb, st, hfa, rfl, rfl⟩
    rw [List.take_length] at hb st
    refine ⟨Nxt_enl_end (xs := midRow row row.length) ok (up_self _ _ _) (midRow_len _ _), WSs_nil ?_⟩
    have := q hb t1 Hg a6 a7 a8 (st.mono (by omega)) hfa
    have e : midRow row row.length = row.map fun s => V.str (bs s) := by unfold midRow; simp
    rw [e]
    exact this
end Lay.W1
end
noncomputable section
open PySem PySem.W PyProof.Rows PySem.Calls
set_option Elab.async false
set_option maxRecDepth 100000
set_option linter.all false
set_option maxHeartbeats 8000000
namespace Lay.W1
variable {P : Params} {F : Fx} {n : Nat} {loc : Loc} {H : Hp}
inductive Ac (H : Hp) (g : GA) (t : GT) (h : Str) (T' : List (Str × List V)) (B : List Str) (TL : Option (List Str)) (a : Addr) (a6 a7 a8 : Option V) (l : Loc) (H' : Hp) : Prop
  | mk (t2 : GT) (Hg : Hp) (a9 : Option V) (pv : V) (_ : preP T' t.pr B TL = some (B, pv)) (_ : ApEr H g t T' Hg t2) (_ : Sz 1000 t2) (_ : Hg.Fresh a) (_ : H' = { Hg with L := up Hg.L a (B.map V.str) }) (_ : l = ALq g.g h a a6 a7 a8 a9 (some pv)) : Ac H g t h T' B TL a a6 a7 a8 l H'
theorem isSome_kys {t : Tab} (s : Str) : (dget (tof t) s).isSome = decide (s ∈ (tcon t).map (·.1)) := by
  rw [tcon_keys, dget_tof]
  by_cases h : s ∈ kys t
  · obtain ⟨a, xs, e⟩ := tget_some h
    rw [e, decide_eq_true h]; rfl
  · rw [tget_none.mpr h, decide_eq_false h]; rfl
theorem ap_prec (ok : Ok F (n + 4)) (W : Wd (K P) F.c.base) (hF : FrameIs F apNm []) {g : GA} {t t1 : GT} {h : Str} {T' : List (Str × List V)} {B : List Str} {TL : Option (List Str)} {a : Addr} {a6 a7 a8 : Option V} {Hg : Hp} {PX : Loc → Hp → Prop} (acc : Acc F (.ref 89) PX) {Q : Fl → Loc → Hp → Prop} {st : Stmt}
    (er : ApEr H g t T' Hg t1) (eu : t1.ups = t.ups) (szt : Sz 1000 t1) (ha : Hg.Fresh a) (hB : B.length ≤ 18) (hr : ∀ r, TL = some r → r.length ≤ 2) (np : Str.ofString "%prec" ∉ B) (npr : ∀ r, TL = some r → Str.ofString "%prec" ∉ r) (hpr : ∀ w X, dget t.pr w = some X → ∃ k l, X = .tup [.str k, .int l]) (hup : t.ups.2 ≤ 100) (hst : (fnB (tm 6 4))[3]? = some st)
    (qe : preP T' t.pr B TL = none → ∀ H' l t', ApEr H g t T' H' t' → PX l H')
    (q : ∀ l H', Ac H g t h T' B TL a a6 a7 a8 l H' → Q .next l H') :
    WS F st (ALq g.g h a a6 a7 a8 none none) { Hg with L := up Hg.L a ((rowOf B TL).map V.str) } Q := by
  cases hst
  have erA := er.upL ha ((rowOf B TL).map V.str)
  have eL : ∀ xs, (Lay.up Hg.L a xs) a = some xs := fun xs => up_self _ _ _
  generalize hH1 : ({ Hg with L := Lay.up Hg.L a ((rowOf B TL).map V.str) } : Hp) = H1 at erA
  have eL1 : H1.L a = some ((rowOf B TL).map V.str) := by rw [← hH1]; exact up_self _ _ _
  have gr := erA.gr
  have epr : H1.D g.pr = some t.pr := by rw [← er.pr]; exact gr.pr
  refine sIf (bCmp eStr (eLoc ok hF rfl rfl) (kIn ok (l := rowOf B TL) eL1)) (fun hin => ?_) fun hin => ?_
  · have hin := of_decide_eq_true hin
    cases TL with
    | none => exact absurd hin np
    | some r =>
      have hr := hr r rfl
      have npr := npr r rfl
      have xl : ((rowOf B (some r)).map V.str).length = B.length + 1 + r.length := by simp [rowOf]; omega
      have z1 : -(((rowOf B (some r)).map V.str).length : Int) ≤ -1 := by rw [xl]; omega
      have at1 : ∀ (j : Nat) (s : Str), (rowOf B (some r))[j]? = some s → ((rowOf B (some r)).map V.str)[j]? = some (.str s) := fun j s e => by rw [List.getElem?_map, e]; rfl
      have lastAt : ∀ s, (rowOf B (some r))[B.length + r.length]? = some s → ((rowOf B (some r)).map V.str)[((-1 : Int) + ((rowOf B (some r)).map V.str).length).toNat]? = some (.str s) := fun s e => by
        rw [xl, show ((-1 : Int) + ((B.length + 1 + r.length : Nat) : Int)).toNat = B.length + r.length by omega]; exact at1 _ _ e
      have rowB : ∀ j, (rowOf B (some r))[B.length + j]? = (Str.ofString "%prec" :: r)[j]? := fun j => by
        show (B ++ Str.ofString "%prec" :: r)[B.length + j]? = _
        rw [List.getElem?_append_right (Nat.le_add_right _ _), Nat.add_sub_cancel_left]
      rcases r with _ | ⟨w, _ | ⟨v, _ | ⟨u, r⟩⟩⟩
      rotate_right
      · exact absurd hr (by simp)
      ·
        refine WSs_cons (sIf (b := true) (bCmp (eSub (eLoc ok hF rfl rfl) (eNeg eInt) fun _ q => Sub_list_neg eL1 (by decide) z1 (by decide) (lastAt _ (rowB 0)) q) eStr fun Q q => Cmp_eqs (by rw [decide_eq_true rfl]; exact q)) (fun _ => raiseG ok W hF acc rfl (qe rfl _ _ _ erA)) fun hc => by cases hc)
      ·
        have hw : w ≠ Str.ofString "%prec" := fun e => npr (by rw [e]; exact List.mem_cons_self ..)
        have z2 : -(((rowOf B (some [w])).map V.str).length : Int) ≤ -2 := by rw [xl]; show -((B.length + 1 + 1 : Nat) : Int) ≤ -2; omega
        have secAt : ((rowOf B (some [w])).map V.str)[((-2 : Int) + ((rowOf B (some [w])).map V.str).length).toNat]? = some (.str (Str.ofString "%prec")) := by
          rw [xl, show ((-2 : Int) + ((B.length + 1 + [w].length : Nat) : Int)).toNat = B.length + 0 by simp; omega]
          exact at1 _ _ (rowB 0)
        refine WSs_cons (sIf (b := false) (bCmp (eSub (eLoc ok hF rfl rfl) (eNeg eInt) fun _ q => Sub_list_neg eL1 (by decide) z1 (by decide) (lastAt _ (rowB 1)) q) eStr fun Q q => Cmp_eqs (by rw [decide_eq_false hw]; exact q)) (fun hc => by cases hc) fun _ => WSs_nil ?_)
        refine WSs_cons (sIf (b := false) (bCmp (eSub (eLoc ok hF rfl rfl) (eNeg eInt) fun _ q => Sub_list_neg eL1 (by decide) z2 (by decide) secAt q) eStr fun Q q => Cmp_nes (by rw [decide_eq_true rfl]; exact q)) (fun hc => by cases hc) fun _ => WSs_nil ?_)
        refine WSs_cons (sA ok hF rfl (eSub (eLoc ok hF rfl rfl) (eNeg eInt) fun _ q => Sub_list_neg eL1 (by decide) z1 (by decide) (lastAt _ (rowB 1)) q) ?_)
        refine WSs_cons (sA ok hF rfl (eMeth (eAttr (eLoc ok hF rfl rfl) fun _ q => getG ok W gr Fld.pr rfl q) (fun _ q => MGet_dget gr.pr q) (eCons (eLoc ok hF rfl rfl) eNil) (keepB ok) fun _ q => Call_dget gr.pr q) ?_)
        rw [er.pr]
        cases hg : dget t.pr w with
        | none =>
          have e0 : preP T' t.pr B (some [w]) = none := by show (dget t.pr w).map _ = none; rw [hg]; rfl
          refine WSs_cons (sIf (b := true) (fun Q q => WB_not (WB_plain (gLoc ok hF rfl rfl (Tru_none q)))) (fun _ => raiseG ok W hF acc rfl (qe e0 _ _ _ erA)) fun hc => by cases hc)
        | some X =>
          obtain ⟨k, l, rfl⟩ := hpr w X hg
          have e0 : preP T' t.pr B (some [w]) = some (B, .tup [.str k, .int l]) := by show (dget t.pr w).map _ = _; rw [hg]; rfl
          refine WSs_cons (sIf (b := false) (fun Q q => WB_not (WB_plain (gLoc ok hF rfl rfl (Tru_tup (Nat.le_of_ble_eq_true rfl) q)))) (fun hc => by cases hc) fun _ => ?_)
          have hups : H1.S g.ups = some t1.ups := gr.ups
          refine WSs_cons (sMeth ok (eAttr (eLoc ok hF rfl rfl) fun _ q => getG ok W gr Fld.ups rfl q) (fun _ q => MGet_add gr.ups q) (eCons (eLoc ok hF rfl rfl) eNil) (keepB ok) (Call_add gr.ups (gr.gn _) (by rw [eu]; exact Nat.le_trans hup (by decide)) (WSs_nil ?_)))
          refine WSs_cons (WS_DelTail (k := 2) (by decide) (gLoc ok hF rfl rfl ⟨_, rfl, WE_neg (WE_int ⟨rfl, rfl, _, eL1, by rw [xl]; simp, by rw [xl]; simp; omega, WSs_nil ?_⟩)⟩))
          refine q _ _ ⟨{ t1 with ups := addS t1.ups w }, { Hg with S := Lay.up Hg.S g.ups (addS t1.ups w) }, _, _, e0, er.ups' eu w ?_, ?_, ?_, ?_, rfl⟩
          · unfold addS; dsimp only; split <;> omega
          · exact ⟨szt.T, szt.N, szt.R, szt.lT, szt.lN, szt.lR, szt.ps, szt.pm⟩
          · have hups2 : Hg.S g.ups = some t1.ups := er.gr.ups
            have hne : a ≠ g.ups := (ha.neS hups2).symm
            intro o
            refine ha ?_
            unfold Hp.Own at o ⊢
            simpa only [up_ne hne] using o
          · have e3 : ((rowOf B (some [w])).map V.str).take (((rowOf B (some [w])).map V.str).length - 2) = B.map V.str := by
              rw [xl, show B.length + 1 + [w].length - 2 = B.length by simp]
              unfold rowOf
              rw [List.map_append, List.take_append_of_le_length (by simp), List.take_of_length_le (by simp)]
            rw [e3, ← hH1]
            show (⟨Lay.up (Lay.up Hg.L a _) a _, _, _, _, _, _, _⟩ : Hp) = _
            rw [up_up]
      ·
        have hv : v ≠ Str.ofString "%prec" := fun e => npr (by rw [e]; simp)
        have hw : w ≠ Str.ofString "%prec" := fun e => npr (by rw [e]; simp)
        have z2 : -(((rowOf B (some [w, v])).map V.str).length : Int) ≤ -2 := by rw [xl]; show -((B.length + 1 + 2 : Nat) : Int) ≤ -2; omega
        have secAt : ((rowOf B (some [w, v])).map V.str)[((-2 : Int) + ((rowOf B (some [w, v])).map V.str).length).toNat]? = some (.str w) := by
          rw [xl, show ((-2 : Int) + ((B.length + 1 + [w, v].length : Nat) : Int)).toNat = B.length + 1 by simp; omega]
          exact at1 _ _ (rowB 1)
        refine WSs_cons (sIf (b := false) (bCmp (eSub (eLoc ok hF rfl rfl) (eNeg eInt) fun _ q => Sub_list_neg eL1 (by decide) z1 (by decide) (lastAt _ (rowB 2)) q) eStr fun Q q => Cmp_eqs (by rw [decide_eq_false hv]; exact q)) (fun hc => by cases hc) fun _ => WSs_nil ?_)
        refine WSs_cons (sIf (b := true) (bCmp (eSub (eLoc ok hF rfl rfl) (eNeg eInt) fun _ q => Sub_list_neg eL1 (by decide) z2 (by decide) secAt q) eStr fun Q q => Cmp_nes (by rw [decide_eq_false hw]; exact q)) (fun _ => raiseG ok W hF acc rfl (qe rfl _ _ _ erA)) fun hc => by cases hc)
  · have hin := of_decide_eq_false hin
    cases TL with
    | some r => exact absurd (List.mem_append_right _ (List.mem_cons_self ..)) hin
    | none =>
      refine WSs_cons (sA ok hF rfl (eCall (eGlob ok W hF rfl rfl (.ref 79)) (eCons (eLoc ok hF rfl rfl) (eCons (eAttr (eLoc ok hF rfl rfl) fun _ q => getG ok W gr Fld.ts rfl q) eNil)) (keepK ok W) fun _ q => rt_call (n := n + 3) (syms := B) ok W eL1 gr.tT.dict (Nat.le_trans hB (by decide)) q) ?_)
      have hrm : rm (fun s => (dget (tof t1.tT) s).isSome) B = rm (fun s => decide (s ∈ T'.map (·.1))) B := by
        rw [← er.T]
        exact congrArg (fun f => rm f B) (funext isSome_kys)
      rw [hrm]
      have e0 : preP T' t.pr B none = some (B, precOf t.pr (rm (fun s => decide (s ∈ T'.map (·.1))) B)) := rfl
      generalize rm (fun s => decide (s ∈ T'.map (·.1))) B = ro at e0
      cases ro with
      | none =>
        refine WSs_cons (sA ok hF rfl (eMeth (eAttr (eLoc ok hF rfl rfl) fun _ q => getG ok W gr Fld.pr rfl q) (fun _ q => MGet_dget gr.pr q) (eCons (eLoc ok hF rfl rfl) (eCons (eTup (eCons eStr (eCons eInt eNil))) eNil)) (keepB ok) fun _ q => Call_dget2_none gr.pr q) (WSs_nil ?_))
        exact q _ _ ⟨t1, Hg, _, _, e0, er, szt, ha, hH1.symm, rfl⟩
      | some k =>
        refine WSs_cons (sA ok hF rfl (eMeth (eAttr (eLoc ok hF rfl rfl) fun _ q => getG ok W gr Fld.pr rfl q) (fun _ q => MGet_dget gr.pr q) (eCons (eLoc ok hF rfl rfl) (eCons (eTup (eCons eStr (eCons eInt eNil))) eNil)) (keepB ok) fun _ q => Call_dget2 gr.pr q) (WSs_nil ?_))
        rw [er.pr]
        exact q _ _ ⟨t1, Hg, _, _, e0, er, szt, ha, hH1.symm, rfl⟩
end Lay.W1
end
noncomputable section
open PySem PySem.W PyProof.Rows PySem.Calls
set_option Elab.async false
set_option maxRecDepth 100000
set_option linter.all false
set_option maxHeartbeats 8000000
namespace Lay.W1
variable {P : Params} {F : Fx} {n : Nat} {loc : Loc} {H : Hp}
structure RowOk (b : List Str) (tl : Option (List Str)) : Prop where
  sg : ∀ s ∈ rowOf b tl, s ∈ signs
  hb : b.length ≤ 10
  hr : ∀ r, tl = some r → r.length ≤ 2
  np : Str.ofString "%prec" ∉ b.map bs
  npr : ∀ r, tl = some r → Str.ofString "%prec" ∉ r.map bs
theorem bs_rowOf (b : List Str) (tl : Option (List Str)) : (rowOf b tl).map bs = rowOf (b.map bs) (tl.map (·.map bs)) := by
  cases tl with
  | none => rfl
  | some r =>
    have : bs (Str.ofString "%prec") = Str.ofString "%prec" := by decide +kernel
    show (b ++ Str.ofString "%prec" :: r).map bs = b.map bs ++ Str.ofString "%prec" :: r.map bs
    rw [List.map_append, List.map_cons, this]
theorem bs_len {s : Str} (h : s ∈ signs) : (bs s).length ≤ 1000 := by
  simp only [signs, List.mem_cons, List.not_mem_nil, or_false] at h
  rcases h with rfl | rfl | rfl | rfl | rfl | rfl | rfl | rfl | rfl | rfl | rfl <;> decide +kernel
theorem row_len {b : List Str} {tl : Option (List Str)} (h : RowOk b tl) : (rowOf b tl).length ≤ 20 := by
  have := h.hb
  cases tl with
  | none => show b.length ≤ 20; omega
  | some r =>
    have := h.hr r rfl
    show (b ++ Str.ofString "%prec" :: r).length ≤ 20
    rw [List.length_append, List.length_cons]; omega
theorem mem_row {b : List Str} {tl : Option (List Str)} {s : Str} (h : s ∈ b) : s ∈ rowOf b tl := by
  cases tl with
  | none => exact h
  | some r => exact List.mem_append_left _ h
theorem ap_call (ok : Ok F (n + 5)) (W : Wd (K P) F.c.base) {g : GA} {t : GT} {h : Str} {b : List Str} {tl : Option (List Str)} {a : Addr} {PX : Hp → Prop} {Q : V → Loc → Hp → Prop} (gr : Gr H g t) (ro : RowOk b tl) (hE : Str.ofString "error" ∈ kys t.tT) (hpr : ∀ w X, dget t.pr w = some X → ∃ k l, X = .tup [.str k, .int l]) (szt : Sz 900 t) (hup : t.ups.2 ≤ 100) (hf : H.Fresh a)
    (qe : taken (tcon t.tT) t.pr t.pm h b tl = none → ∀ t' H', ApEr H g t (tokT (tcon t.tT) h (rowOf b tl)) H' t' → PX H')
    (q : ∀ syms pv, taken (tcon t.tT) t.pr t.pm h b tl = some (syms, pv) → ∀ t' H' fs, Gr H' g t' → Ext (foot g t) H H' → Grown H g t t' → t'.pr = t.pr → t'.start = t.start → t'.ups.2 ≤ t.ups.2 + 1 → PrF fs (t.ps.length : Nat) h syms pv → t'.ps = t.ps ++ [.inst 68 fs] → t'.pm = t.pm ++ [(h, syms)] →
      (tcon t'.tT, tcon t'.tN) = useAll (.int (t.ps.length : Nat)) (tokT (tcon t.tT) h (rowOf b tl), addKey (tcon t.tN) h) syms → tcon t'.tR = addUse (addKey (tcon t.tR) h) h (.inst 68 fs) → Q .none loc H') :
    CCallE F (.ref 89) PX 135 [.ref g.g, .str h, .ref a] [] [] loc { H with L := up H.L a ((rowOf b tl).map .str) } Q := by
  refine defPE ok W ["self", "prodname", "syms", "func", "file", "line"] (Vs := [.ref g.g, .str h, .ref a, .none, .str (Str.ofString ""), .int 0]) rfl rfl rfl rfl rfl rfl ?_ rfl ?_
  · intro vs ws B r1 r2 le
    apply r2.e0
    apply r1.e3
    intro _ _ _ a b c
    exact ⟨[_, _, _, _, _, _], Looks.of_peek W.k rfl, .cons a (.cons b (.cons c (.cons .none (.cons (.str _ _ (ofString_ok _)) (.cons (.int _ _) .nil)))))⟩
  · intro F' ok tp acc W hF
    have grA := gr.upL hf ((rowOf b tl).map V.str)
    have st0 : ApSt 217 238 H g t 900 (tcon t.tT, tcon t.tN) H t := ⟨gr, Ext.refl H, Grown.refl H g t, szt, rfl, rfl, rfl, ⟨rfl, rfl, rfl, rfl, rfl⟩, rfl⟩
    have hkT : ∀ s, s ∈ (tcon t.tT).map (·.1) ↔ s ∈ kys t.tT := fun s => by rw [tcon_keys]
    refine WSs_cons (sIf (bCmp (eLoc ok hF rfl rfl) (eAttr (eLoc ok hF rfl rfl) fun _ q => getG ok W grA Fld.ts rfl q) fun _ q => Cmp_inD grA.tT.dict q) (fun hh => ?_) fun hh => WSs_nil ?_)
    · rw [isSome_kys] at hh
      have hh := of_decide_eq_true hh
      refine raiseG ok W hF acc rfl (qe (if_pos hh) t _ ?_)
      have := (ApSt.er st0 rfl).upL hf ((rowOf b tl).map V.str)
      unfold tokT
      rw [if_pos hh]; exact this
    rw [isSome_kys] at hh
    have hh := of_decide_eq_false hh
    have hne : h ≠ Str.ofString "error" := fun e => hh (by rw [e, hkT]; exact hE)
    refine WSs_cons (sIf (b := false) (bCmp (eLoc ok hF rfl rfl) eStr fun Q q => Cmp_eqs (by rw [decide_eq_false hne]; exact q)) (fun hc => by cases hc) fun _ => WSs_nil ?_)
    have eT : tokT (tcon t.tT) h (rowOf b tl) = readT (tcon t.tT) (rowOf b tl) := if_neg hh
    rw [eT] at qe q
    have e1 : badIn (rowOf b tl) = true → taken (tcon t.tT) t.pr t.pm h b tl = none := fun hb => by unfold taken; rw [if_neg hh, if_pos hb]
    have e2 : badIn (rowOf b tl) = false → taken (tcon t.tT) t.pr t.pm h b tl = takenP (readT (tcon t.tT) (rowOf b tl)) t.pr t.pm h (b.map bs) (tl.map (·.map bs)) := fun hb => by unfold taken; rw [if_neg hh, if_neg (by rw [hb]; exact Bool.false_ne_true)]
    refine WSs_cons (ap_row ok tp W hF acc gr hf ro.sg (row_len ro) szt rfl (fun hb t' H' l er => qe (e1 hb) t' H' er) fun hb t1 Hg a6 a7 a8 st hfa => ?_)
    have e2 := e2 hb
    generalize hT' : readT (tcon t.tT) (rowOf b tl) = T' at st e2 qe q
    have er1 := ApSt.er st rfl
    have eRow : (rowOf b tl).map (fun s => V.str (bs s)) = (rowOf (b.map bs) (tl.map (·.map bs))).map V.str := by rw [← bs_rowOf, List.map_map]; rfl
    rw [eRow]
    have hBs : ∀ s ∈ b.map bs, s.length ≤ 1000 := fun s hs => by
      obtain ⟨s', h1, rfl⟩ := List.mem_map.mp hs
      exact bs_len (ro.sg s' (mem_row h1))
    have hBl : (b.map bs).length ≤ 18 := by rw [List.length_map]; exact Nat.le_trans ro.hb (by decide)
    have hrl : ∀ r, tl.map (·.map bs) = some r → r.length ≤ 2 := fun r e => by
      obtain ⟨r', h1, rfl⟩ := Option.map_eq_some_iff.mp e
      rw [List.length_map]; exact ro.hr r' h1
    have hnp : ∀ r, tl.map (·.map bs) = some r → Str.ofString "%prec" ∉ r := fun r e => by
      obtain ⟨r', h1, rfl⟩ := Option.map_eq_some_iff.mp e
      exact ro.npr r' h1
    generalize hB0 : b.map bs = B at hBs hBl e2
    have npB : Str.ofString "%prec" ∉ B := hB0 ▸ ro.np
    generalize hT0 : tl.map (·.map bs) = TL at hrl hnp e2
    refine WSs_midV (Ac H g t h T' B TL a a6 a7 a8) (fun Q2 b2 => ap_prec ok W hF acc er1 st.keeps.ups st.sz hfa hBl hrl npB hnp hpr hup rfl (fun e H' l t' er => qe ?_ t' H' er) fun l H' m => b2.n m) ?_
    · rw [e2]; unfold takenP; rw [e]; rfl
    rintro l H' ⟨t2, Hg2, a9, pv, ep, er, szt2, hfa2, rfl, rfl⟩
    refine WSs_frz (i := 2) (X := .ref a) rfl (Frz.list (up_self _ _ _)) ?_
    have eH2 : ({ Hg2 with L := un (up Hg2.L a (B.map V.str)) a } : Hp) = Hg2 := by rw [un_up hfa2.l]
    rw [eH2]
    have hz' : (B.map V.str).length ≤ 1000000 := len_map_le hBl
    refine WSs_cons (sA ok hF rfl (eTup (eCons (eLoc ok hF rfl rfl) (eCons (eCall (eBi ok W hF rfl rfl (by boot_by_name) (by decide)) (eCons (eLoc ok hF rfl rfl) eNil) (keepB ok) fun _ q => Call_tuple (xs := B.map .str) rfl hz' q) eNil))) ?_)
    have gr2 := er.gr
    have tk : taken (tcon t.tT) t.pr t.pm h b tl = if (h, B) ∈ t.pm then none else some (B, pv) := by rw [e2]; unfold takenP; rw [ep]; rfl
    refine WSs_cons (sIf (bCmp (eLoc ok hF rfl rfl) (eAttr (eLoc ok hF rfl rfl) fun _ q => getG ok W gr2 Fld.pm rfl q) fun _ q => Cmp_inP (k := (h, B)) ok gr2.pm q) (fun hd => ?_) fun hd => WSs_nil ?_)
    · have hd := of_decide_eq_true hd
      rw [er.pm] at hd
      exact raiseG ok W hF acc rfl (qe (by rw [tk, if_pos hd]) t2 Hg2 er)
    have hd := of_decide_eq_false hd
    have tk2 := tk.trans (if_neg (by rw [← er.pm]; exact hd))
    refine ap_tail (n := n) (a6 := a6) (a7 := a7) (a8 := a8) (a9 := a9) ok tp W hF gr2 hBs hd (Nat.le_trans hBl (by decide)) szt2 (fun t' H' fs l q1 q2 q3 q4 q5 q6 q7 q8 q9 => ?_)
    rw [er.ps] at q5 q6 q8
    rw [er.pm] at q7
    rw [er.T, er.N] at q8
    rw [er.R] at q9
    refine q B pv tk2 t' H' fs q1 (er.ext.of_foot q2 er.grown) (fun c hc => ?_) (q4.pr.trans er.pr) (q4.start.trans er.start) (by rw [q4.ups]; exact er.ups) q5 q6 q7 q8 q9
    rcases q3 c hc with z | z
    · exact er.grown c z
    · exact .inr (er.ext.fresh z)
end Lay.W1
end
noncomputable section
open PySem PySem.W PyProof.Rows PySem.Calls
set_option Elab.async false
set_option maxRecDepth 100000
set_option linter.all false
set_option maxHeartbeats 8000000
namespace Lay.W1
variable {P : Params} {F : Fx} {n : Nat} {loc : Loc} {H : Hp}
inductive Ss1 (H : Hp) (g : GA) (st : Str) (l : Loc) (H' : Hp) : Prop
  | mk  (_ : H = H') (_ : l = [some (.ref g.g), some (.str st), none, none]) : Ss1 H g st l H'
theorem ss_gen (ok : Ok F (n + 4)) (W : Wd (K P) F.c.base) {g : GA} {t : GT} {st : Str} {gv : V} {Xs : List V} {PX : Hp → Prop} {Q : V → Loc → Hp → Prop} (gr : Gr H g t) (hb : ∀ fd, kFd (K P) 143 = some fd → BindTo F.M F.c.base fd [] ["self", "start"] Xs [] [.ref g.g, gv])
    (hgv : (gv = .str st ∧ st.length ≠ 0) ∨ (gv = .none ∧ ∃ fs, t.ps[1]? = some (.inst 68 fs) ∧ dget fs "name" = some (.str st))) (hl : st.length ≤ 1000) (hx : ∀ e ∈ t.tN, e.2.2.length ≤ 1000) (h0 : 0 < t.ps.length) (hz : t.ps.length ≤ 1000)
    (qe : st ∉ kys t.tN → PX H)
    (q : ∀ a xs, tget t.tN st = some (a, xs) → ∀ H' fs, PrF fs 0 "S'" [st] (.tup [.str "right", .int 0]) → Gr H' g { t with ps := t.ps.set 0 (.inst 68 fs), tN := tset t.tN a (xs ++ [.int 0]), start := .str st } → Ext (foot g t) H H' → Q .none loc H') :
    CCallE F (.ref 89) PX 143 Xs [] [] loc H Q := by
  refine defPE ok W ["self", "start"] (Vs := [.ref g.g, gv]) rfl rfl rfl rfl rfl rfl ?_ rfl ?_
  · exact hb _ rfl
  · intro F' ok tp acc W hF
    refine WSs_midV (Ss1 H g st) (fun Q1 b1 => WS_If (WB_not (WB_plain (gLoc ok hF rfl rfl ?_)))) ?_
    · rcases hgv with ⟨rfl, h1⟩ | ⟨rfl, fs, h1, h2⟩
      · refine Tru_str (Nat.le_trans hl (by decide)) ?_
        rw [decide_eq_true h1]
        exact ⟨fun h => absurd h Bool.false_ne_true, fun _ => WSs_nil (b1.n ⟨rfl, rfl⟩)⟩
      · refine Tru_none ⟨fun _ => ?_, fun h => absurd h (by decide)⟩
        refine WSs_cons (sAsg ok hF rfl (WE_Attr (WE_Subscript (WE_Attr (gLoc ok hF rfl rfl (getG ok W gr Fld.prods rfl (WE_int (Sub_list gr.ps (by decide) (by decide) h1 (getI ok W h2 rfl (WSs_nil (b1.n ⟨rfl, rfl⟩)))))))))))
    rintro l H' ⟨rfl, rfl⟩
    refine WSs_cons (sIf (bCmp (eLoc ok hF rfl rfl) (eAttr (eLoc ok hF rfl rfl) fun _ q => getG ok W gr Fld.nts rfl q) fun _ q => Cmp_notInD gr.tN.dict q) (fun hd => ?_) fun hd => WSs_nil ?_)
    · refine raiseG ok W hF acc rfl (qe fun hm => ?_)
      obtain ⟨a, xs, e⟩ := tget_some hm
      rw [dget_tof, e] at hd; cases hd
    obtain ⟨a, xs, hN⟩ : ∃ a xs, tget t.tN st = some (a, xs) := by
      cases e : tget t.tN st with
      | none => rw [dget_tof, e] at hd; cases hd
      | some p => exact ⟨p.1, p.2, rfl⟩
    have hx := hx _ (tget_mem hN)
    obtain ⟨ns, ens, nfld⟩ := gr.nD
    refine WSs_cons (WS_AssignT (WE_CallN1K (gGlob ok W hF rfl rfl (.ref 68) ⟨68, rfl, WEs_cons (WE_int (WEs_cons (WE_str (WEs_cons (WE_ListF (WEs_cons (gLoc ok hF rfl rfl (WEs_nil ⟨by simp, WEs_nil (WE_Attr (WE_Attr (gLoc ok hF rfl rfl (getG ok W gr Fld.names rfl (getA ok W gr.nI ens nfld rfl ⟨keepK ok W, ?_⟩)))))⟩))))))))⟩)))
    refine pr_callK (n := n) (syms := [st]) ok W gr.gn gr.al rfl (by simp) (fun s hs => by rw [List.mem_singleton] at hs; subst hs; exact hl) fun pf hpf => ?_
    refine WA_sub (WE_Attr (gLoc ok hF rfl rfl (getG ok W gr Fld.prods rfl (WE_int (Set_list gr.ps h0 (Nat.le_trans hz (by decide)) ?_)))))
    have g1 := gr.setL (a := g.prods) (t.ps.set 0 (V.inst 68 pf))
    rw [setL_ps gr] at g1
    have x1 : Ext (foot g t) H { H with L := up H.L g.prods (t.ps.set 0 (V.inst 68 pf)) } := Lay.extL (.inl (foot_L (List.mem_cons_self ..)))
    generalize eH1 : ({ H with L := up H.L g.prods (t.ps.set 0 (V.inst 68 pf)) } : Hp) = H1 at g1 x1
    obtain ⟨e1, e2⟩ := g1.tN.at_ hN
    refine WSs_cons (sExpr ok (WE_CallM (WE_Subscript (WE_Attr (gLoc ok hF rfl rfl (getG ok W g1 Fld.nts rfl (gLoc ok hF rfl rfl (Sub_dict g1.tN.dict e1 (MGet_append e2 (WEs_cons (WE_int (WEs_nil ⟨keepB ok, Call_append e2 (Nat.le_trans hx (by decide)) ?_⟩))))))))))))
    have ha : a ∈ adr t.tN := List.mem_map.mpr ⟨_, tget_mem hN, rfl⟩
    have g2 := g1.setL (a := a) (xs ++ [V.int 0])
    rw [setL_N g1 ha] at g2
    have x2 : Ext (foot g t) H { H1 with L := up H1.L a (xs ++ [V.int 0]) } := x1.trans (Lay.extL (.inl (foot_L (mem_lists_N ha))))
    generalize eH2 : ({ H1 with L := up H1.L a (xs ++ [V.int 0]) } : Hp) = H2 at g2 x2
    obtain ⟨fs, f1, f2⟩ := g2.fs
    refine WSs_cons (WS_AssignT (gLoc ok hF rfl rfl (WA_attr (gLoc ok hF rfl rfl (setA ok W g2.I f1 (g2.gn _) (Nat.le_trans f2.len (by decide)) ?_)))))
    exact WSs_nil (q a xs hN _ pf hpf (g2.setStart f1 f2 (Put.of _ _ _) (by rw [dput_len f2.start]; exact f2.len)) (x2.trans (extD (.inl (foot_D (by simp [GA.dicts]))))))
theorem ss_call (ok : Ok F (n + 4)) (W : Wd (K P) F.c.base) {g : GA} {t : GT} {st : Str} {PX : Hp → Prop} {Q : V → Loc → Hp → Prop} (gr : Gr H g t) (h0' : st.length ≠ 0) (hl : st.length ≤ 1000) (hx : ∀ e ∈ t.tN, e.2.2.length ≤ 1000) (h0 : 0 < t.ps.length) (hz : t.ps.length ≤ 1000)
    (qe : st ∉ kys t.tN → PX H)
    (q : ∀ a xs, tget t.tN st = some (a, xs) → ∀ H' fs, PrF fs 0 "S'" [st] (.tup [.str "right", .int 0]) → Gr H' g { t with ps := t.ps.set 0 (.inst 68 fs), tN := tset t.tN a (xs ++ [.int 0]), start := .str st } → Ext (foot g t) H H' → Q .none loc H') :
    CCallE F (.ref 89) PX 143 [.ref g.g, .str st] [] [] loc H Q := by
  refine ss_gen ok W gr (fun fd hfd => ?_) (.inl ⟨rfl, h0'⟩) hl hx h0 hz qe q
  intro vs ws B r1 r2 le
  apply r2.e0
  apply r1.e2
  intro _ _ a b
  cases hfd
  exact ⟨[_, _], Looks.of_peek W.k rfl, .cons a (.cons b .nil)⟩
theorem ss_call0 (ok : Ok F (n + 4)) (W : Wd (K P) F.c.base) {g : GA} {t : GT} {st : Str} {PX : Hp → Prop} {Q : V → Loc → Hp → Prop} (gr : Gr H g t) (h1 : ∃ fs, t.ps[1]? = some (.inst 68 fs) ∧ dget fs "name" = some (.str st)) (hl : st.length ≤ 1000) (hx : ∀ e ∈ t.tN, e.2.2.length ≤ 1000) (h0 : 0 < t.ps.length) (hz : t.ps.length ≤ 1000)
    (qe : st ∉ kys t.tN → PX H)
    (q : ∀ a xs, tget t.tN st = some (a, xs) → ∀ H' fs, PrF fs 0 "S'" [st] (.tup [.str "right", .int 0]) → Gr H' g { t with ps := t.ps.set 0 (.inst 68 fs), tN := tset t.tN a (xs ++ [.int 0]), start := .str st } → Ext (foot g t) H H' → Q .none loc H') :
    CCallE F (.ref 89) PX 143 [.ref g.g] [] [] loc H Q := by
  refine ss_gen ok W gr (fun fd hfd => ?_) (.inr ⟨rfl, h1⟩) hl hx h0 hz qe q
  intro vs ws B r1 r2 le
  apply r2.e0
  apply r1.e1
  intro _ a
  cases hfd
  exact ⟨[_, _], Looks.of_peek W.k rfl, .cons a (.cons .none .nil)⟩
end Lay.W1
end
noncomputable section
open PySem PySem.W PyProof.Rows PySem.Calls
set_option Elab.async false
set_option maxRecDepth 100000
set_option linter.all false
set_option maxHeartbeats 8000000
namespace Lay.W1
variable {P : Params} {F : Fx} {n : Nat} {loc : Loc} {H : Hp}
noncomputable abbrev heads5 : List Str := [Str.ofString "A", Str.ofString "B", Str.ofString "C", Str.ofString "x", Str.ofString "error"]
noncomputable abbrev signs8 : List Str := [Str.ofString "x", Str.ofString "y", Str.ofString "A", Str.ofString "B", Str.ofString "u", Str.ofString "'+'", Str.ofString "'ab'", Str.ofString "\"-\""]
noncomputable abbrev words4 : List Str := [Str.ofString "x", Str.ofString "'+'", Str.ofString "p", Str.ofString "q"]
noncomputable abbrev ranked4 : List Str := [Str.ofString "x", Str.ofString "+", Str.ofString "p", Str.ofString "y"]
noncomputable abbrev kinds4 : List Str := [Str.ofString "left", Str.ofString "right", Str.ofString "nonassoc", Str.ofString "both"]
theorem mod_nat (y : Int) (m : Nat) (hm : 0 < m) : ∃ sz : Nat, y % (m : Int) = (sz : Int) ∧ sz < m := by
  have h0 := Int.emod_nonneg y (b := (m : Int)) (by omega)
  have h1 := Int.emod_lt_of_pos y (b := (m : Int)) (by omega)
  exact ⟨(y % (m : Int)).toNat, by omega, by omega⟩
theorem eLh (ok : Ok F (n + 1)) (W : Wd (K P) F.c.base) : EvC F (.ref 249) [] loc H (.list (heads5.map .str)) := fun Q q => by
  refine Call_of (defP ok W [] (Vs := []) rfl rfl rfl rfl rfl rfl ?_ rfl ?_)
  · intro vs ws B r1 r2 le
    apply r2.e0
    apply r1.e0
    exact ⟨[], Looks.of_peek W.k rfl, .nil⟩
  · intro F' ok tp W hF
    exact WSs_cons (sRet (eListF (eCons eStr (eCons eStr (eCons eStr (eCons eStr (eCons eStr eNil)))))) q)
theorem eLs (ok : Ok F (n + 1)) (W : Wd (K P) F.c.base) : EvC F (.ref 256) [] loc H (.list (signs8.map .str)) := fun Q q => by
  refine Call_of (defP ok W [] (Vs := []) rfl rfl rfl rfl rfl rfl ?_ rfl ?_)
  · intro vs ws B r1 r2 le
    apply r2.e0
    apply r1.e0
    exact ⟨[], Looks.of_peek W.k rfl, .nil⟩
  · intro F' ok tp W hF
    exact WSs_cons (sRet (eListF (eCons eStr (eCons eStr (eCons eStr (eCons eStr (eCons eStr (eCons eStr (eCons eStr (eCons eStr eNil))))))))) q)
theorem eLw (ok : Ok F (n + 1)) (W : Wd (K P) F.c.base) : EvC F (.ref 263) [] loc H (.list (words4.map .str)) := fun Q q => by
  refine Call_of (defP ok W [] (Vs := []) rfl rfl rfl rfl rfl rfl ?_ rfl ?_)
  · intro vs ws B r1 r2 le
    apply r2.e0
    apply r1.e0
    exact ⟨[], Looks.of_peek W.k rfl, .nil⟩
  · intro F' ok tp W hF
    exact WSs_cons (sRet (eListF (eCons eStr (eCons eStr (eCons eStr (eCons eStr eNil))))) q)
theorem eLr (ok : Ok F (n + 1)) (W : Wd (K P) F.c.base) : EvC F (.ref 270) [] loc H (.list (ranked4.map .str)) := fun Q q => by
  refine Call_of (defP ok W [] (Vs := []) rfl rfl rfl rfl rfl rfl ?_ rfl ?_)
  · intro vs ws B r1 r2 le
    apply r2.e0
    apply r1.e0
    exact ⟨[], Looks.of_peek W.k rfl, .nil⟩
  · intro F' ok tp W hF
    exact WSs_cons (sRet (eListF (eCons eStr (eCons eStr (eCons eStr (eCons eStr eNil))))) q)
theorem eLk (ok : Ok F (n + 1)) (W : Wd (K P) F.c.base) : EvC F (.ref 277) [] loc H (.list (kinds4.map .str)) := fun Q q => by
  refine Call_of (defP ok W [] (Vs := []) rfl rfl rfl rfl rfl rfl ?_ rfl ?_)
  · intro vs ws B r1 r2 le
    apply r2.e0
    apply r1.e0
    exact ⟨[], Looks.of_peek W.k rfl, .nil⟩
  · intro F' ok tp W hF
    exact WSs_cons (sRet (eListF (eCons eStr (eCons eStr (eCons eStr (eCons eStr eNil))))) q)
noncomputable def tailV : Option (List Str) → List Str
  | none => []
  | some r => Str.ofString "%prec" :: r
theorem rowOf_tail (b : List Str) (tl : Option (List Str)) : rowOf b tl = b ++ tailV tl := by
  cases tl with
  | none => exact (List.append_nil b).symm
  | some r => rfl
structure LRow (h : Str) (b : List Str) (tl : Option (List Str)) : Prop where
  hd : h ∈ heads5
  sg : ∀ s ∈ b, s ∈ signs8
  hb : b.length ≤ 3
  tl : tl = none ∨ tl = some [] ∨ ∃ w ∈ words4, tl = some [w] ∨ tl = some [w, Str.ofString "y"]
theorem LRow.ok {h : Str} {b : List Str} {tl : Option (List Str)} (x : LRow h b tl) : RowOk b tl := by
  have s8 : ∀ s ∈ signs8, s ∈ signs ∧ bs s ≠ Str.ofString "%prec" := by decide +kernel
  have w4 : ∀ s ∈ words4, s ∈ signs ∧ bs s ≠ Str.ofString "%prec" := by decide +kernel
  have y1 : Str.ofString "y" ∈ signs ∧ bs (Str.ofString "y") ≠ Str.ofString "%prec" := by decide +kernel
  have p1 : Str.ofString "%prec" ∈ signs := by decide +kernel
  have hnp : ∀ r : List Str, (∀ s ∈ r, bs s ≠ Str.ofString "%prec") → Str.ofString "%prec" ∉ r.map bs := fun r h hm => by
    obtain ⟨s, h1, h2⟩ := List.mem_map.mp hm
    exact h s h1 h2
  have ht : ∀ r, tl = some r → r.length ≤ 2 ∧ ∀ s ∈ r, s ∈ signs ∧ bs s ≠ Str.ofString "%prec" := by
    rintro r rfl
    rcases x.tl with e | e | ⟨w, hw, e | e⟩
    · cases e
    · cases e; exact ⟨by decide, fun s h => by cases h⟩
    · cases e; exact ⟨by simp, fun s h => by rw [List.mem_singleton] at h; subst h; exact w4 _ hw⟩
    · cases e; exact ⟨by simp, fun s h => by
        simp only [List.mem_cons, List.not_mem_nil, or_false] at h
        rcases h with rfl | rfl
        · exact w4 _ hw
        · exact y1⟩
  refine ⟨fun s hs => ?_, Nat.le_trans x.hb (by decide), fun r e => (ht r e).1, hnp _ fun s h => (s8 s (x.sg s h)).2, fun r e => hnp _ fun s h => ((ht r e).2 s h).2⟩
  rw [rowOf_tail] at hs
  rcases List.mem_append.mp hs with h | h
  · exact (s8 s (x.sg s h)).1
  · cases tl with
    | none => cases h
    | some r =>
      rcases List.mem_cons.mp h with rfl | h
      · exact p1
      · exact ((ht r rfl).2 s h).1
theorem forms (f : Nat) (hf : f < 6) (w : Str) (hw : w ∈ words4) : ∃ tl : Option (List Str), (tl = none ∨ tl = some [] ∨ ∃ w ∈ words4, tl = some [w] ∨ tl = some [w, Str.ofString "y"]) ∧
    [V.list [], V.list [], V.list [], V.list [.str (Str.ofString "%prec"), .str w], V.list [.str (Str.ofString "%prec")], V.list [.str (Str.ofString "%prec"), .str w, .str (Str.ofString "y")]][f]? = some (.list ((tailV tl).map .str)) := by
  match f, hf with
  | 0, _ => exact ⟨none, .inl rfl, rfl⟩
  | 1, _ => exact ⟨none, .inl rfl, rfl⟩
  | 2, _ => exact ⟨none, .inl rfl, rfl⟩
  | 3, _ => exact ⟨some [w], .inr (.inr ⟨w, hw, .inl rfl⟩), rfl⟩
  | 4, _ => exact ⟨some [], .inr (.inl rfl), rfl⟩
  | 5, _ => exact ⟨some [w, Str.ofString "y"], .inr (.inr ⟨w, hw, .inr rfl⟩), rfl⟩
noncomputable abbrev rowNm : List (Str × NameKind) := [("number", .local), ("rest", .local), ("size", .local), ("row", .local), ("k", .local), ("form", .local), ("word", .local), ("range", .globalImplicit), ("_law_signs", .globalImplicit), ("_law_words", .globalImplicit), ("_law_heads", .globalImplicit)]
inductive Rw1 (H : Hp) (num : Int) (sz : Nat) (a : Addr) (i : Nat) (l : Loc) (H' : Hp) : Prop
  | mk (rest : Int) (L : List Str) (a4 : Option V) (_ : L.length = i) (_ : ∀ s ∈ L, s ∈ signs8) (_ : H' = { H with L := up H.L a (L.map .str) }) (_ : l = [some (.int num), some (.int rest), some (.int sz), some (.ref a), a4, none, none, none, none, none, none]) : Rw1 H num sz a i l H'
theorem row_call (ok : Ok F (n + 3)) (W : Wd (K P) F.c.base) {num : Int} {Q : V → Loc → Hp → Prop} (q : ∀ h b tl, LRow h b tl → Q (.tup [.str h, .list ((rowOf b tl).map .str)]) loc H) : Call F (.ref 284) [.int num] loc H Q := by
  refine Call_of (defP ok W ["number"] (Vs := [.int num]) (nm := rowNm) rfl rfl rfl rfl rfl rfl ?_ rfl ?_)
  · intro vs ws B r1 r2 le
    apply r2.e0
    apply r1.e1
    intro _ a
    exact ⟨[_], Looks.of_peek W.k rfl, .cons a .nil⟩
  · intro F' ok tp W hF
    refine WSs_cons (sA ok hF rfl (eBin (eLoc ok hF rfl rfl) eInt fun _ q => Op_fdiv (by decide) (by decide) q) ?_)
    refine WSs_cons (sA ok hF rfl (eBin (eLoc ok hF rfl rfl) eInt fun _ q => Op_mod (by decide) q) ?_)
    refine WSs_cons (sA ok hF rfl (eBin (eLoc ok hF rfl rfl) eInt fun _ q => Op_fdiv (by decide) (by decide) q) ?_)
    obtain ⟨sz, e1, hsz⟩ := mod_nat (num / 5) 4 (by decide)
    rw [show (num / 5 % 4 : Int) = (sz : Int) from e1]
    refine WSs_cons (sAsg ok hF rfl (WE_List (WEs_nil ⟨by simp, fun a ha => ?_⟩)))
    refine WSs_cons (sForR ok W hF rfl rfl (eLoc ok hF rfl rfl) (by omega) ?_)
    refine ForOnV (fun i => rngSt_mono i) sz (Rw1 H num sz a) ⟨_, [], none, rfl, (fun s h => by cases h), rfl, rfl⟩ ?_ ?_
    · rintro i Q1 b1 l H' hi ⟨rest, L, a4, hL, hs, rfl, rfl⟩
      refine ⟨.int i, Nxt_rng hi, tLoc ok.inl hF rfl ?_⟩
      obtain ⟨j, ej, hj⟩ := mod_nat rest 8 (by decide)
      have hj8 : j < signs8.length := hj
      have hx : (signs8.map V.str)[j]? = some (.str signs8[j]) := by rw [List.getElem?_map, List.getElem?_eq_getElem hj8]; rfl
      refine WSs_cons (sApp ok.inl (eLoc ok.inl hF rfl rfl) (up_self _ _ _) (eSub (eCall (eGlob ok.inl W hF rfl rfl (.ref 256)) eNil (keepK ok.inl W) (eLs ok.inl W)) (eBin (eLoc ok.inl hF rfl rfl) eInt fun Q q => Op_mod (by decide) (by rw [show (rest % 8 : Int) = (j : Int) from ej]; exact q)) (uList rfl hx (by decide))) (by rw [List.length_map]; omega) ?_)
      refine WSs_cons (sA ok.inl hF rfl (eBin (eLoc ok.inl hF rfl rfl) eInt fun _ q => Op_fdiv (by decide) (by decide) q) (WSs_nil (b1.n ⟨_, L ++ [signs8[j]], _, by rw [List.length_append, hL]; rfl, fun s h => ?_, ?_, rfl⟩)))
      · rcases List.mem_append.mp h with h | h
        · exact hs s h
        · rw [List.mem_singleton] at h; subst h; exact List.getElem_mem _
      · show (⟨up (up H.L a (L.map V.str)) a (L.map V.str ++ [V.str signs8[j]]), _, _, _, _, _, _⟩ : Hp) = _
        rw [up_up, List.map_append]; rfl
    · rintro l H' ⟨rest, L, a4, hL, hs, rfl, rfl⟩
      refine ⟨Nxt_rng_end (ok.handled (Nat.succ_ne_zero _)) (Nat.le_refl _), WSs_nil ?_⟩
      obtain ⟨f, ef, hf⟩ := mod_nat rest 6 (by decide)
      refine WSs_cons (sA ok hF rfl (eBin (eLoc ok hF rfl rfl) eInt fun Q q => Op_mod (by decide) (by rw [show (rest % 6 : Int) = (f : Int) from ef]; exact q)) ?_)
      obtain ⟨j, ej, hj⟩ := mod_nat (rest / 6) 4 (by decide)
      have hj4 : j < words4.length := hj
      have hx : (words4.map V.str)[j]? = some (.str words4[j]) := by rw [List.getElem?_map, List.getElem?_eq_getElem hj4]; rfl
      refine WSs_cons (sA ok hF rfl (eSub (eCall (eGlob ok W hF rfl rfl (.ref 263)) eNil (keepK ok W) (eLw ok W)) (eBin (eBin (eLoc ok hF rfl rfl) eInt fun _ q => Op_fdiv (by decide) (by decide) q) eInt fun Q q => Op_mod (by decide) (by rw [show (rest / 6 % 4 : Int) = (j : Int) from ej]; exact q)) (uList rfl hx (by decide))) ?_)
      have hw : words4[j] ∈ words4 := List.getElem_mem _
      generalize words4[j] = w at hw
      obtain ⟨tl, ht, hfm⟩ := forms f hf w hw
      obtain ⟨m, em, hm⟩ := mod_nat num 5 (by decide)
      have hm5 : m < heads5.length := hm
      have hx2 : (heads5.map V.str)[m]? = some (.str heads5[m]) := by rw [List.getElem?_map, List.getElem?_eq_getElem hm5]; rfl
      have hh : heads5[m] ∈ heads5 := List.getElem_mem _
      have hlen : (L.map V.str).length + ((tailV tl).map V.str).length ≤ 1000000 := by
        have : (tailV tl).length ≤ 3 := by
          rcases ht with rfl | rfl | ⟨w, _, rfl | rfl⟩ <;> simp [tailV]
        rw [List.length_map, List.length_map]; omega
      refine WSs_cons (WS_Return (WE_weak (Q' := fun X l H' => X = .tup [.str heads5[m], .list (L.map V.str ++ (tailV tl).map V.str)] ∧ H' = { H with L := up H.L a (L.map .str) }) (goE (eTup (eCons (eSub (eCall (eGlob ok W hF rfl rfl (.ref 249)) eNil (keepK ok W) (eLh ok W)) (eBin (eLoc ok hF rfl rfl) eInt fun Q q => Op_mod (by decide) (by rw [show (num % 5 : Int) = (m : Int) from em]; exact q)) (uList rfl hx2 (by decide))) (eCons (eAddF (eLoc ok hF rfl rfl)
        (eSub (eListF (eCons (eListF eNil) (eCons (eListF eNil) (eCons (eListF eNil) (eCons (eListF (eCons eStr (eCons (eLoc ok hF rfl rfl) eNil))) (eCons (eListF (eCons eStr eNil)) (eCons (eListF (eCons eStr (eCons (eLoc ok hF rfl rfl) (eCons eStr eNil)))) eNil)))))))
          (eLoc ok hF rfl rfl) (uList rfl hfm (by simp))) (up_self _ _ _) rfl hlen) eNil))) ⟨rfl, rfl⟩) ?_))
      rintro X l H' ⟨rfl, rfl⟩
      have := q heads5[m] L tl ⟨hh, hs, by omega, ht⟩
      rw [rowOf_tail, List.map_append] at this
      exact ⟨_, H, LocSub.refl _, subL ha.l, this⟩
end Lay.W1
end
noncomputable section
open PySem PySem.W PyProof.Rows PySem.Calls
set_option Elab.async false
set_option maxRecDepth 100000
set_option linter.all false
set_option maxHeartbeats 8000000
namespace Lay.W1
variable {P : Params} {F : Fx} {n : Nat} {loc : Loc} {H : Hp}
noncomputable def footK (tk : Addr) (tt : Tab) (a : Addr) : Prop := a = tk ∨ a ∈ adr tt
structure AtL (H : Hp) (a : Addr) (xs : List V) : Prop where
  L : H.L a = some xs
  D : H.D a = none
  P : H.P a = none
  S : H.S a = none
  I : H.I a = none
structure AtD (H : Hp) (d : Addr) (kvs : List (Str × V)) : Prop where
  D : H.D d = some kvs
  L : H.L d = none
  P : H.P d = none
  S : H.S d = none
  I : H.I d = none
theorem AtL.own {a : Addr} {xs : List V} (h : AtL H a xs) : H.Own a := .inl (by rw [h.L]; simp)
theorem AtD.own {d : Addr} {kvs : List (Str × V)} (h : AtD H d kvs) : H.Own d := .inr (.inl (by rw [h.D]; simp))
theorem AtL.ext {H' : Hp} {a : Addr} {xs : List V} {ft : Addr → Prop} (h : AtL H a xs) (e : Ext ft H H') (hn : ¬ ft a) : AtL H' a xs := by
  obtain ⟨e1, e2, e3, e4, e5, e6, e7⟩ := (e a h.own).2 hn
  exact ⟨e1.trans h.L, e2.trans h.D, e3.trans h.P, e4.trans h.S, e5.trans h.I⟩
theorem AtD.ext {H' : Hp} {d : Addr} {kvs : List (Str × V)} {ft : Addr → Prop} (h : AtD H d kvs) (e : Ext ft H H') (hn : ¬ ft d) : AtD H' d kvs := by
  obtain ⟨e1, e2, e3, e4, e5, e6, e7⟩ := (e d h.own).2 hn
  exact ⟨e2.trans h.D, e1.trans h.L, e3.trans h.P, e4.trans h.S, e5.trans h.I⟩
theorem AtL.upL {a b : Addr} {xs ys : List V} (h : AtL H a xs) (hn : a ≠ b) : AtL { H with L := up H.L b ys } a xs := ⟨(up_ne hn).trans h.L, h.D, h.P, h.S, h.I⟩
theorem AtD.upL {d b : Addr} {kvs : List (Str × V)} {ys : List V} (h : AtD H d kvs) (hn : d ≠ b) : AtD { H with L := up H.L b ys } d kvs := ⟨h.D, (up_ne hn).trans h.L, h.P, h.S, h.I⟩
theorem AtL.upD {a b : Addr} {xs : List V} {y : List (Str × V)} (h : AtL H a xs) (hn : a ≠ b) : AtL { H with D := up H.D b y } a xs := ⟨h.L, (up_ne hn).trans h.D, h.P, h.S, h.I⟩
theorem AtD.upD {d b : Addr} {kvs y : List (Str × V)} (h : AtD H d kvs) (hn : d ≠ b) : AtD { H with D := up H.D b y } d kvs := ⟨(up_ne hn).trans h.D, h.L, h.P, h.S, h.I⟩
theorem AtL.set {a : Addr} {xs ys : List V} (h : AtL H a xs) : AtL { H with L := up H.L a ys } a ys := ⟨up_self _ _ _, h.D, h.P, h.S, h.I⟩
theorem AtD.set {d : Addr} {kvs y : List (Str × V)} (h : AtD H d kvs) : AtD { H with D := up H.D d y } d y := ⟨up_self _ _ _, h.L, h.P, h.S, h.I⟩
theorem AtL.new {a : Addr} {xs : List V} (h : H.Fresh a) : AtL { H with L := up H.L a xs } a xs := ⟨up_self _ _ _, h.d, h.p, h.s, h.i⟩
theorem AtD.new {d : Addr} {y : List (Str × V)} (h : H.Fresh d) : AtD { H with D := up H.D d y } d y := ⟨up_self _ _ _, h.l, h.p, h.s, h.i⟩
structure TkSt (H : Hp) (tk : Addr) (tt : Tab) (m : Nat) (T : List (Str × List V)) (Hk : Hp) (t1 : Tab) : Prop where
  ad : AtD Hk tk (tof t1)
  al : ∀ e ∈ t1, AtL Hk e.2.1 e.2.2
  nk : (kys t1).Nodup
  na : (adr t1).Nodup
  ext : Ext (footK tk tt) H Hk
  grown : ∀ a ∈ adr t1, a ∈ adr tt ∨ H.Fresh a
  con : tcon t1 = T
  gn : ∀ a, Hk.G a = none
  len : (kys t1).length ≤ m
variable {tk : Addr} {tt t1 : Tab} {m : Nat} {T : List (Str × List V)} {Hk : Hp}
theorem TkSt.tb (h : TkSt H tk tt m T Hk t1) : Tb Hk tk t1 := ⟨h.ad.D, fun e he => (h.al e he).L⟩
theorem TkSt.own (h : TkSt H tk tt m T Hk t1) {a : Addr} (ha : a ∈ adr t1) : Hk.L a ≠ none := by
  obtain ⟨e, he, rfl⟩ := List.mem_map.mp ha
  rw [(h.al e he).L]; simp
theorem TkSt.upL (h : TkSt H tk tt m T Hk t1) {a : Addr} (ha : Hk.Fresh a) (xs : List V) : TkSt H tk tt m T { Hk with L := up Hk.L a xs } t1 :=
  ⟨h.ad.upL fun e => ha (e ▸ h.ad.own), fun e he => (h.al e he).upL fun z => ha (z ▸ (h.al e he).own), h.nk, h.na, h.ext.trans (Lay.extL (.inr ha)), h.grown, h.con, h.gn, h.len⟩
theorem TkSt.mono (h : TkSt H tk tt m T Hk t1) {m' : Nat} (k : m ≤ m') : TkSt H tk tt m' T Hk t1 := { h with len := Nat.le_trans h.len k }
theorem TkSt.key (h : TkSt H tk tt m T Hk t1) {k : Str} {b : Addr} (hk : k ∉ kys t1) (hb : Hk.Fresh b) : TkSt H tk tt (m + 1) (addKey T k) { Hk with L := up Hk.L b [], D := up Hk.D tk (dput (tof t1) k (.ref b)) } (t1 ++ [(k, b, [])]) := by
  have hne : ∀ a ∈ adr t1, a ≠ b := fun a ha e => h.own ha (by rw [e]; exact hb.l)
  have hbt : b ≠ tk := fun e => hb (e ▸ h.ad.own)
  have hta : ∀ e ∈ t1, e.2.1 ≠ tk := fun e he z => by
    have := (h.al e he).L
    rw [z, h.ad.L] at this; cases this
  have hn : dget (tof t1) k = none := by rw [dget_tof, tget_none.mpr hk]; rfl
  refine ⟨?_, fun e he => ?_, ?_, ?_, ?_, ?_, ?_, h.gn, ?_⟩
  · have e1 : dput (tof t1) k (.ref b) = tof (t1 ++ [(k, b, [])]) := by rw [dput_new hn]; simp [tof]
    rw [← e1]
    exact (h.ad.upL (ys := []) (Ne.symm hbt)).set
  · rcases List.mem_append.mp he with he | he
    · exact ((h.al e he).upL (hne _ (List.mem_map.mpr ⟨e, he, rfl⟩))).upD (hta e he)
    · rw [List.mem_singleton] at he; subst he
      exact (AtL.new hb).upD hbt
  · have : kys (t1 ++ [(k, b, [])]) = kys t1 ++ [k] := by simp [kys]
    rw [this, List.nodup_append]
    exact ⟨h.nk, by simp, fun x hx c hc => by simp at hc; subst hc; exact fun e => hk (e ▸ hx)⟩
  · have : adr (t1 ++ [(k, b, [])]) = adr t1 ++ [b] := by simp [adr]
    rw [this, List.nodup_append]
    exact ⟨h.na, by simp, fun x hx c hc => by simp at hc; subst hc; exact hne x hx⟩
  · exact h.ext.trans ((Lay.extL (.inr hb)).trans (extD (.inl (.inl rfl))))
  · intro a ha
    have : adr (t1 ++ [(k, b, [])]) = adr t1 ++ [b] := by simp [adr]
    rw [this] at ha
    rcases List.mem_append.mp ha with ha | ha
    · exact h.grown a ha
    · rw [List.mem_singleton] at ha; subst ha; exact .inr (h.ext.fresh hb)
  · show tcon (t1 ++ [(k, b, [])]) = _
    have : k ∉ T.map (·.1) := by rw [← h.con, tcon_keys]; exact hk
    unfold addKey
    rw [if_neg this, ← h.con]
    simp [tcon]
  · rw [new_keys]; exact Nat.succ_le_succ h.len
theorem TkSt.fld (h : TkSt H tk tt m T Hk t1) (s : Str) : s ∈ T.map (·.1) ↔ s ∈ kys t1 := by rw [← h.con, tcon_keys]
theorem eAtC {value ie : Expr} {pos : Pos} {x c : Str} {i : Int} {k : Nat} (hv : Ev F value loc H (.str x)) (hi : Ev F ie loc H (.int i)) (h1 : -1000000 < i) (h2 : i < 1000000) (hc : (seqIndex? i x.length).bind (x.cps[·]?) = some k) (hk : PyData.strOk ⟨#[k]⟩ = true) (e : (⟨#[k]⟩ : Str) = c)
    (hs : ∀ o i, subscripted ie false o i = operate [o, i] (getItem o i) := by intro _ _; with_unfolding_all rfl) : Ev F (.Subscript value ie pos) loc H (.str c) := e ▸ eAt hv hi h1 h2 hc hk hs
noncomputable abbrev readNm : List (Str × NameKind) := [("row", .local), ("tokens", .local), ("bare", .local), ("sign", .local), ("len", .globalImplicit)]
inductive Rd1 (H : Hp) (tk : Addr) (tt : Tab) (row : List Str) (m : Nat) (a : Addr) (i : Nat) (l : Loc) (H' : Hp) : Prop
  | mk (t1 : Tab) (Hk : Hp) (a3 : Option V) (_ : badIn (row.take i) = false) (_ : TkSt H tk tt (m + i) (readT (tcon tt) (row.take i)) Hk t1) (_ : Hk.Fresh a) (_ : H' = { Hk with L := up Hk.L a ((row.take i).map fun s => V.str (bs s)) }) (_ : l = [some (.list (row.map .str)), some (.ref tk), some (.ref a), a3, none]) : Rd1 H tk tt row m a i l H'
inductive Rd2 (H : Hp) (tk : Addr) (tt : Tab) (row : List Str) (m : Nat) (a : Addr) (i : Nat) (s c : Str) (l : Loc) (H' : Hp) : Prop
  | mk (t1 : Tab) (Hk : Hp) (_ : TkSt H tk tt (m + (i + 1)) (addKey (readT (tcon tt) (row.take i)) c) Hk t1) (_ : Hk.Fresh a) (_ : H' = { Hk with L := up Hk.L a ((row.take i).map fun s => V.str (bs s)) }) (_ : l = [some (.list (row.map .str)), some (.ref tk), some (.ref a), some (.str s), none]) : Rd2 H tk tt row m a i s c l H'
theorem read_call (ok : Ok F (n + 3)) (W : Wd (K P) F.c.base) {row : List Str} {Q : V → Loc → Hp → Prop} (h0 : TkSt H tk tt m (tcon tt) H tt) (hm : m ≤ 900) (sg : ∀ s ∈ row, s ∈ signs) (hl : row.length ≤ 20)
    (qe : badIn row = true → ∀ Hk t1, TkSt H tk tt (m + 20) (readT (tcon tt) row) Hk t1 → Q .none loc Hk)
    (q : badIn row = false → ∀ Hk t1, TkSt H tk tt (m + 20) (readT (tcon tt) row) Hk t1 → Q (.list (row.map fun s => V.str (bs s))) loc Hk) : Call F (.ref 291) [.list (row.map .str), .ref tk] loc H Q := by
  refine Call_of (defP ok W ["row", "tokens"] (Vs := [.list (row.map .str), .ref tk]) (nm := readNm) rfl rfl rfl rfl rfl rfl ?_ rfl ?_)
  · intro vs ws B r1 r2 le
    apply r2.e0
    apply r1.e2
    intro _ _ a b
    exact ⟨[_, _], Looks.of_peek W.k rfl, .cons a (.cons b .nil)⟩
  · intro F' ok tp W hF
    refine WSs_cons (sAsg ok hF rfl (WE_List (WEs_nil ⟨by simp, fun a ha => ?_⟩)))
    refine WSs_cons (sForL (eLoc ok hF rfl rfl) rfl ?_)
    refine ForOnV (fun i => lstSt_mono i) row.length (Rd1 H tk tt row m a) ⟨tt, H, none, rfl, h0, ha, rfl, rfl⟩ ?_ ?_
    · rintro i Q1 b1 l H' hi ⟨t1, Hk, a3, hb, st, hfa, rfl, rfl⟩
      have sgf := sgF (sg row[i] (List.getElem_mem _))
      obtain ⟨c, d, c1, c2, c3, d1, d2, d3, d4⟩ := sgf.c0
      have hlen : (row.take (i + 1)) = row.take i ++ [row[i]] := take_snoc hi
      have hsplit : row = row.take i ++ row[i] :: row.drop (i + 1) := by rw [← List.drop_eq_getElem_cons hi, List.take_append_drop]
      refine ⟨.str row[i], Nxt_list (xs := row.map .str) rfl (by simp [hi]), tLoc ok.inl hF rfl ?_⟩
      refine WSs_cons (sIf (b := (kd row[i]).isSome) (fun Q q => bOr (bCmp (eAt (eLoc ok.inl hF rfl rfl) eInt (by decide) (by decide) c1 c2) eStr kEqs) (fun _ => bCmp (eAt (eLoc ok.inl hF rfl rfl) eInt (by decide) (by decide) c1 c2) eStr kEqs) (by rw [d4]; exact q)) (fun hk => ?_) fun hk => ?_)
      · refine WSs_cons (sIf (bCmp (eCall (eBi ok.inl W hF rfl rfl (by boot_by_name) (by decide)) (eCons (eLoc ok.inl hF rfl rfl) eNil) (keepB ok.inl) fun _ q => Call_lenS (Nat.le_trans sgf.len (by decide)) q) eInt fun _ q => Cmp_nei q) (fun hb2 => ?_) fun hb2 => WSs_nil ?_)
        · have hbad : kd row[i] = some none := (sgf.lk hk).mp (by
            simp only [Bool.not_eq_true', decide_eq_false_iff_not] at hb2
            exact fun e => hb2 (by rw [e]; rfl))
          have e1 : readT (tcon tt) row = readT (tcon tt) (row.take i) := by conv => lhs; rw [hsplit]
                                                                             exact readT_bad hb hbad
          refine WSs_cons (sRet eNone (b1.r (qe ?_ _ _ (e1 ▸ (st.mono (by omega)).upL hfa _))))
          unfold badIn
          rw [List.any_eq_true]
          exact ⟨row[i], List.getElem_mem _, by rw [hbad]; rfl⟩
        · have hnb : kd row[i] ≠ some none := fun e => by
            have := (sgf.lk hk).mpr e
            simp only [Bool.not_eq_false', decide_eq_true_eq] at hb2
            exact this (by exact_mod_cast hb2)
          obtain ⟨cc, hcc⟩ : ∃ cc, kd row[i] = some (some cc) := by
            cases e : kd row[i] with
            | none => rw [e] at hk; cases hk
            | some o => cases o with
              | none => exact absurd e hnb
              | some cc => exact ⟨cc, rfl⟩
          obtain ⟨_, k1, e1, e2, e3⟩ := sgf.ch cc hcc
          have hbs : bs row[i] = cc := by unfold bs; rw [hcc]
          have stA := st.upL hfa ((row.take i).map fun s => V.str (bs s))
          refine WSs_midV (Rd2 H tk tt row m a i row[i] cc) (fun Q2 b2 => sIf (bCmp (eAtC (eLoc ok.inl hF rfl rfl) eInt (by decide) (by decide) e1 e2 e3) (eLoc ok.inl hF rfl rfl) fun _ q => Cmp_notInD stA.tb.dict q) (fun hn => ?_) fun hn => ?_) ?_
          · have hkk : cc ∉ kys t1 := by
              intro hm
              obtain ⟨a', xs, e⟩ := tget_some hm
              rw [dget_tof, e] at hn; cases hn
            refine WSs_cons (WS_AssignT (WE_List (WEs_nil ⟨by simp, fun b hb => ?_⟩)))
            have stB := stA.upL hb []
            refine WA_sub (gLoc ok.inl hF rfl rfl (goE (eAtC (eLoc ok.inl hF rfl rfl) eInt (by decide) (by decide) e1 e2 e3) (Set_dict stB.tb.dict (stB.gn _) (tof_len (Nat.le_trans st.len (by omega : m + i ≤ 1000))) (WSs_nil ?_))))
            obtain ⟨hab, hfb⟩ := frL hb
            refine b2.n ⟨_, { Hk with L := up Hk.L b [], D := up Hk.D tk (dput (tof t1) cc (.ref b)) }, st.key hkk hfb, ?_, ?_, rfl⟩
            · have hts : a ≠ tk := (hfa.neD st.tb.dict).symm
              intro o
              refine hfa ?_
              unfold Hp.Own at o ⊢
              simpa only [up_ne (Ne.symm hab), up_ne hts] using o
            · show (⟨up (up Hk.L a _) b [], _, _, _, _, _, _⟩ : Hp) = ⟨up (up Hk.L b []) a _, _, _, _, _, _, _⟩
              rw [up_comm (Ne.symm hab)]
          · have hkk : cc ∈ kys t1 := by
              apply Classical.byContradiction
              intro hm
              rw [dget_tof, tget_none.mpr hm] at hn; cases hn
            refine WSs_nil (b2.n ⟨t1, Hk, ?_, hfa, rfl, rfl⟩)
            rw [addKey_old ((st.fld cc).mpr hkk)]
            exact st.mono (Nat.le_succ _)
          · rintro l H' ⟨t2, Hk2, st2, hfa2, rfl, rfl⟩
            refine WSs_cons (sApp ok.inl (eLoc ok.inl hF rfl rfl) (up_self _ _ _) (eAtC (eLoc ok.inl hF rfl rfl) eInt (by decide) (by decide) e1 e2 e3) (by rw [List.length_map, List.length_take]; omega) (WSs_nil (WSs_nil (b1.n ⟨t2, Hk2, _, ?_, ?_, hfa2, ?_, rfl⟩))))
            · rw [hlen, badIn_snoc, hb, hcc]; rfl
            · rw [hlen, readT_nb hb]
              have : st1 (readT (tcon tt) (row.take i)) row[i] = addKey (readT (tcon tt) (row.take i)) cc := by unfold st1; rw [hcc]
              rw [this]; exact st2
            · show (⟨up (up Hk2.L a _) a _, _, _, _, _, _, _⟩ : Hp) = _
              rw [up_up, hlen, List.map_append, List.map_cons, hbs]; rfl
      · have h0 : kd row[i] = none := by cases e : kd row[i] with
          | none => rfl
          | some _ => rw [e] at hk; cases hk
        have hbs : bs row[i] = row[i] := by unfold bs; rw [h0]
        refine WSs_cons (sApp ok.inl (eLoc ok.inl hF rfl rfl) (up_self _ _ _) (eLoc ok.inl hF rfl rfl) (by rw [List.length_map, List.length_take]; omega) (WSs_nil (WSs_nil (b1.n ⟨t1, Hk, _, ?_, ?_, hfa, ?_, rfl⟩))))
        · rw [hlen, badIn_snoc, hb, h0]; rfl
        · rw [hlen, readT_nb hb]
          have : st1 (readT (tcon tt) (row.take i)) row[i] = readT (tcon tt) (row.take i) := by unfold st1; rw [h0]
          rw [this]; exact st.mono (Nat.le_succ _)
        · show (⟨up (up Hk.L a _) a _, _, _, _, _, _, _⟩ : Hp) = _
          rw [up_up, hlen, List.map_append, List.map_cons, hbs]; rfl
    · rintro l H' ⟨t1, Hk, a3, hb, st, hfa, rfl, rfl⟩
      rw [List.take_length] at hb st
      refine ⟨Nxt_list_end (xs := row.map .str) (ok.handled (Nat.succ_ne_zero _)) rfl (by rw [List.length_map]; exact Nat.le_refl _), WSs_nil ?_⟩
      refine WSs_frz (i := 2) (X := .ref a) rfl (Frz.list (up_self _ _ _)) ?_
      have eH2 : ({ Hk with L := un (up Hk.L a ((row.take row.length).map fun s => V.str (bs s))) a } : Hp) = Hk := by rw [un_up hfa.l]
      rw [eH2, List.take_length]
      exact WSs_cons (sRet (eLoc ok hF rfl rfl) (q hb Hk t1 (st.mono (by omega))))
end Lay.W1
end
noncomputable section
open PySem PySem.W PyProof.Rows PySem.Calls
set_option Elab.async false
set_option maxRecDepth 100000
set_option linter.all false
set_option maxHeartbeats 8000000
namespace Lay.W1
variable {P : Params} {F : Fx} {n : Nat} {loc : Loc} {H : Hp}
noncomputable abbrev Rl := Str × List Str × V
noncomputable def ru4 (k : Nat) (r : Rl) : V := .tup [.int (k : Int), .str r.1, .list (r.2.1.map .str), r.2.2]
noncomputable def ruV : Nat → List Rl → List V
  | _, [] => []
  | k, r :: rs => ru4 k r :: ruV (k + 1) rs
theorem ruV_len : ∀ (k : Nat) (rs : List Rl), (ruV k rs).length = rs.length
  | _, [] => rfl
  | k, r :: rs => congrArg (· + 1) (ruV_len (k + 1) rs)
theorem ruV_snoc : ∀ (k : Nat) (rs : List Rl) (r : Rl), ruV k (rs ++ [r]) = ruV k rs ++ [ru4 (k + rs.length) r]
  | k, [], r => rfl
  | k, x :: rs, r => by
    show ru4 k x :: ruV (k + 1) (rs ++ [r]) = ru4 k x :: (ruV (k + 1) rs ++ [ru4 (k + (rs.length + 1)) r])
    rw [ruV_snoc (k + 1) rs r, show k + 1 + rs.length = k + (rs.length + 1) by omega]
theorem ruV_mem : ∀ {k : Nat} {rs : List Rl} {v : V}, v ∈ ruV k rs → ∃ j, ∃ r ∈ rs, v = ru4 j r
  | _, [], _, h => by cases h
  | k, x :: rs, v, h => by
    rcases List.mem_cons.mp h with rfl | h
    · exact ⟨k, x, .head _, rfl⟩
    · obtain ⟨j, r, hr, e⟩ := ruV_mem h
      exact ⟨j, r, .tail _ hr, e⟩
noncomputable def pmOf (rs : List Rl) : List (Str × List Str) := rs.map fun r => (r.1, r.2.1)
noncomputable def fT (h : Str) (B : List Str) : V → Option V
  | .tup [_, .str h', .list b', _] => if (decide (h' = h) && decide (b'.map unS = B)) = true then some (.int 1) else none
  | _ => none
theorem fT_ru (h : Str) (B : List Str) (k : Nat) (r : Rl) : fT h B (ru4 k r) = if (decide (r.1 = h) && decide (r.2.1 = B)) = true then some (.int 1) else none := by
  show (if (decide (r.1 = h) && decide ((r.2.1.map V.str).map unS = B)) = true then _ else _) = _
  rw [unS_map]
theorem fT_pos (h : Str) (B : List Str) : ∀ (k : Nat) (rs : List Rl), (((ruV k rs).filterMap (fT h B)).length > 0 ↔ (h, B) ∈ pmOf rs) ∧ ((ruV k rs).filterMap (fT h B)).length ≤ rs.length
  | _, [] => ⟨by simp [ruV, pmOf], Nat.le_refl _⟩
  | k, r :: rs => by
    obtain ⟨i1, i2⟩ := fT_pos h B (k + 1) rs
    have e : ruV k (r :: rs) = ru4 k r :: ruV (k + 1) rs := rfl
    have e2 : pmOf (r :: rs) = (r.1, r.2.1) :: pmOf rs := rfl
    rw [e, e2, List.filterMap_cons, fT_ru, List.mem_cons]
    by_cases hh : (decide (r.1 = h) && decide (r.2.1 = B)) = true
    · rw [if_pos hh]
      simp only [Bool.and_eq_true, decide_eq_true_eq] at hh
      obtain ⟨h1, h2⟩ := hh
      refine ⟨⟨fun _ => .inl (by rw [h1, h2]), fun _ => by simp⟩, ?_⟩
      simp only [List.length_cons]; omega
    · rw [if_neg hh]
      refine ⟨i1.trans ⟨.inr, fun z => ?_⟩, Nat.le_succ_of_le i2⟩
      rcases z with z | z
      · cases z; exact absurd (by simp) hh
      · exact z
theorem extSetC {ft : Addr → Prop} {Hk : Hp} (e : Ext ft H Hk) {c : Addr} (hc : H.Fresh c) (ov : Option V) : Ext ft H { Hk with C := up Hk.C c ov } := fun a o => by
  obtain ⟨o1, s1⟩ := e a o
  have hne : a ≠ c := fun z => hc (z ▸ o)
  refine ⟨?_, fun hf => ?_⟩
  · unfold Hp.Own at o1 ⊢; simpa only [up_ne hne] using o1
  · obtain ⟨e1, e2, e3, e4, e5, e6, e7⟩ := s1 hf
    exact ⟨e1, e2, e3, e4, e5, (up_ne hne).trans e6, e7⟩
theorem TkSt.setC {tk : Addr} {tt t1 : Tab} {m : Nat} {T : List (Str × List V)} {Hk : Hp} (h : TkSt H tk tt m T Hk t1) {c : Addr} (hc : H.Fresh c) (ov : Option V) : TkSt H tk tt m T { Hk with C := up Hk.C c ov } t1 :=
  ⟨⟨h.ad.D, h.ad.L, h.ad.P, h.ad.S, h.ad.I⟩, fun e he => let x := h.al e he; ⟨x.L, x.D, x.P, x.S, x.I⟩, h.nk, h.na, extSetC h.ext hc ov, h.grown, h.con, h.gn, h.len⟩
theorem kEqSS (ok : Ok F n) {x y : List Str} : EvK F .Eq (.list (x.map .str)) (.list (y.map .str)) loc H (decide (x = y)) := fun Q q => by
  refine Cmp_eq ok (isD_slist _) (isD_slist _) ?_
  have : eqV (asD H (.list (x.map .str))) (asD H (.list (y.map .str))) = decide (x = y) := by
    rw [Bool.eq_iff_iff, eqV_iff, decide_eq_true_iff]
    constructor
    · intro h
      have h : V.list (x.map .str) = V.list (y.map .str) := h
      injection h with h
      have := congrArg (List.map unS) h
      rwa [unS_map, unS_map] at this
    · rintro rfl; rfl
  rw [this]; exact q
theorem bConv {e : Expr} {b b' : Bool} (h : EvB F e loc H b) (e' : b = b') : EvB F e loc H b' := e' ▸ h
noncomputable abbrev takNm : List (Str × NameKind) := [("head", .cell), ("row", .local), ("rules", .local), ("tokens", .local), ("ranks", .local), ("bare", .cell), ("place", .local), ("rank", .local), ("sign", .local), ("_law_read", .globalImplicit), ("len", .globalImplicit)]
noncomputable def takenV (m : Nat) (h : Str) : Option (List Str × V) → V
  | none => .none
  | some (B, pv) => ru4 (m + 1) (h, B, pv)
noncomputable def TL (row : List V) (rl tk rk : Addr) (a6 a7 a8 : Option V) : Loc := [none, some (.list row), some (.ref rl), some (.ref tk), some (.ref rk), none, a6, a7, a8, none, none]
theorem tk_fin (ok : Ok F (n + 3)) (W : Wd (K P) F.c.base) {ca cb : Addr} (hF : FrameIs F takNm [("bare", cb), ("head", ca)]) {row : List V} {rl tk rk : Addr} {a6 a8 : Option V} {pv : V} {h : Str} {B : List Str} {rs : List Rl} {Q : Fl → Loc → Hp → Prop}
    (eH : H.C ca = some (some (.str h))) (eB : H.C cb = some (some (.list (B.map .str)))) (eR : H.L rl = some (ruV 1 rs)) (hz : rs.length ≤ 100)
    (q : Q (.ret (takenV rs.length h (if (h, B) ∈ pmOf rs then none else some (B, pv)))) (TL row rl tk rk a6 (some pv) a8) H) : WSs F ((fnB (ta 16)).drop 4) (TL row rl tk rk a6 (some pv) a8) H Q := by
  obtain ⟨f1, f2⟩ := fT_pos h B 1 rs
  have hlen : (((ruV 1 rs).filterMap (fT h B)).length) ≤ 1000000 := Nat.le_trans f2 (Nat.le_trans hz (by decide))
  have eR' : asL H (.ref rl) = some (ruV 1 rs) := eR
  have hb : decide ((((ruV 1 rs).filterMap (fT h B)).length : Int) > 0) = decide ((h, B) ∈ pmOf rs) := by
    rw [Bool.eq_iff_iff, decide_eq_true_iff, decide_eq_true_iff, ← f1]
    omega
  refine WSs_cons (sIf (bConv (bCmp (eLen ok W hF rfl rfl (eComp ok [("head", ca), ("bare", cb)] (f := fT h B) (eLoc ok hF rfl rfl) eR' (by rw [ruV_len]; omega) (fun C sv E okc i x hx => ?_) (closK hF rfl) (compDbg ok rfl)) rfl rfl hlen) eInt kGt) hb) (fun hd => ?_) fun hd => WSs_nil ?_)
  · obtain ⟨j, r, hr, rfl⟩ := ruV_mem (List.mem_of_getElem? hx)
    exact turn1 (fun _ q => tLoc okc (compF ok hF) rfl q) (bAnd (bCmp (eSub (eLoc okc (compF ok hF) rfl rfl) eInt (uTup (j := 1) rfl)) (eCell okc (compF ok hF) rfl rfl eH) kEqs) fun _ => bCmp (eSub (eLoc okc (compF ok hF) rfl rfl) eInt (uTup (j := 2) rfl)) (eCell okc (compF ok hF) rfl rfl eB) (kEqSS okc)) (fun _ => eInt) (fT_ru h B j r)
  · rw [if_pos (of_decide_eq_true hd)] at q
    exact WSs_cons (sRet eNone q)
  · rw [if_neg (of_decide_eq_false hd)] at q
    refine WSs_cons (sRet (eTup (eCons (eBin (eLen ok W hF rfl rfl (eLoc ok hF rfl rfl) eR' (ruV_len 1 rs) (Nat.le_trans hz (by decide))) eInt fun _ q => Op_add q) (eCons (eCell ok hF rfl rfl eH) (eCons (eCell ok hF rfl rfl eB) (eCons (eLoc ok hF rfl rfl) eNil))))) ?_)
    exact q
end Lay.W1
end
noncomputable section
open PySem PySem.W PyProof.Rows PySem.Calls
set_option Elab.async false
set_option maxRecDepth 100000
set_option linter.all false
set_option maxHeartbeats 8000000
namespace Lay.W1
variable {P : Params} {F : Fx} {n : Nat} {loc : Loc} {H : Hp}
structure TkS (H : Hp) (tk : Addr) (tt : Tab) (m : Nat) (T : List (Str × List V)) (rl rk ca cb : Addr) (rs : List Rl) (pr : List (Str × V)) (h : Str) (ov : Option V) (Hk : Hp) : Prop where
  st : ∃ t1, TkSt H tk tt m T Hk t1
  eR : Hk.L rl = some (ruV 1 rs)
  eP : Hk.D rk = some pr
  eH : Hk.C ca = some (some (.str h))
  eB : Hk.C cb = some ov
theorem TkS.setB {tk : Addr} {tt : Tab} {m : Nat} {T : List (Str × List V)} {rl rk ca cb : Addr} {rs : List Rl} {pr : List (Str × V)} {h : Str} {ov : Option V} {Hk : Hp} (x : TkS H tk tt m T rl rk ca cb rs pr h ov Hk) (hc : H.Fresh cb) (hne : ca ≠ cb) (ov' : Option V) : TkS H tk tt m T rl rk ca cb rs pr h ov' { Hk with C := up Hk.C cb ov' } :=
  let ⟨t1, s⟩ := x.st
  ⟨⟨t1, s.setC hc ov'⟩, x.eR, x.eP, (up_ne hne).trans x.eH, up_self _ _ _⟩
inductive Ta1 (row : List V) (rl tk rk : Addr) (Hk : Hp) (T : List (Str × List V)) (pr : List (Str × V)) (B : List Str) (i : Nat) (l : Loc) (H' : Hp) : Prop
  | mk (a8 : Option V) (_ : l = TL row rl tk rk none (some (precOf pr (rm (fun s => decide (s ∈ T.map (·.1))) (B.take i)))) a8) (_ : Hk = H') : Ta1 row rl tk rk Hk T pr B i l H'
inductive Ta2 (H : Hp) (tk : Addr) (tt : Tab) (m : Nat) (T : List (Str × List V)) (rl rk ca cb : Addr) (rs : List Rl) (pr : List (Str × V)) (h : Str) (B : List Str) (TLs : Option (List Str)) (row : List V) (l : Loc) (H' : Hp) : Prop
  | mk (a6 a8 : Option V) (pv : V) (_ : preP T pr B TLs = some (B, pv)) (_ : l = TL row rl tk rk a6 (some pv) a8) (_ : TkS H tk tt m T rl rk ca cb rs pr h (some (.list (B.map .str))) H') : Ta2 H tk tt m T rl rk ca cb rs pr h B TLs row l H'
theorem tk_prec (ok : Ok F (n + 4)) (tp : Top F) (W : Wd (K P) F.c.base) {tk : Addr} {tt : Tab} {m : Nat} {T : List (Str × List V)} {rl rk ca cb : Addr} {rs : List Rl} {pr : List (Str × V)} {h : Str} {Hk : Hp} (hF : FrameIs F takNm [("bare", cb), ("head", ca)]) {row : List V} {B : List Str} {TLs : Option (List Str)} {Q : Fl → Loc → Hp → Prop} {st : Stmt} (hc : H.Fresh cb) (hne : ca ≠ cb)
    (x : TkS H tk tt m T rl rk ca cb rs pr h (some (.list ((rowOf B TLs).map .str))) Hk) (hB : B.length ≤ 18) (hr : ∀ r, TLs = some r → r.length ≤ 2) (np : Str.ofString "%prec" ∉ B) (hst : (fnB (ta 16))[3]? = some st)
    (qe : preP T pr B TLs = none → ∀ l, Q (.ret .none) l Hk)
    (q : ∀ l H', Ta2 H tk tt m T rl rk ca cb rs pr h B TLs row l H' → Q .next l H') :
    WS F st (TL row rl tk rk none none none) Hk Q := by
  cases hst
  obtain ⟨t1, s⟩ := x.st
  have eL : asL Hk (.list ((rowOf B TLs).map V.str)) = some ((rowOf B TLs).map V.str) := rfl
  refine sIf (bCmp eStr (eCell ok hF rfl rfl x.eB) (kIn ok (l := rowOf B TLs) eL)) (fun hin => ?_) fun hin => ?_
  · have hin := of_decide_eq_true hin
    cases TLs with
    | none => exact absurd hin np
    | some r =>
      have hr := hr r rfl
      have xl : ((rowOf B (some r)).map V.str).length = B.length + 1 + r.length := by simp [rowOf]; omega
      have hz : (rowOf B (some r)).length ≤ 1000 := by rw [← List.length_map (f := V.str), xl]; omega
      have hidx : (rowOf B (some r)).idxOf (Str.ofString "%prec") = B.length := by
        show (B ++ Str.ofString "%prec" :: r).idxOf _ = _
        rw [List.idxOf_append, if_neg np, List.idxOf_cons_self, Nat.zero_add]
      have rowB : ∀ j, ((rowOf B (some r)).map V.str)[B.length + j]? = ((Str.ofString "%prec" :: r).map V.str)[j]? := fun j => by
        show ((B ++ Str.ofString "%prec" :: r).map V.str)[B.length + j]? = _
        rw [List.map_append, List.getElem?_append_right (by rw [List.length_map]; exact Nat.le_add_right _ _), List.length_map, Nat.add_sub_cancel_left]
      refine WSs_cons (sA ok hF rfl (eMeth (eCell ok hF rfl rfl x.eB) (fun _ q => MGet_index eL q) (eCons eStr eNil) (keepB ok) fun Q q => Call_index ok eL hin hz (by rw [hidx]; exact q)) ?_)
      rcases r with _ | ⟨w, _ | ⟨v, _ | ⟨u, r⟩⟩⟩
      rotate_right
      · exact absurd hr (by simp)
      ·
        have e0 : preP T pr B (some []) = none := rfl
        refine WSs_cons (sIf (bConv (b' := true) (bOr (p := true) (q' := true) (bConv (bCmp (eLen ok W hF rfl rfl (eCell ok hF rfl rfl x.eB) eL xl (by simp; omega)) (eBin (eLoc ok hF rfl rfl) eInt fun _ q => Op_add q) fun _ q => Cmp_nei q) (by
          rw [Bool.not_eq_true', decide_eq_false_iff_not]; first | (simp; done) | (simp; omega))) fun h => by cases h) rfl) (fun _ => WSs_cons (sRet eNone (qe e0 _))) fun h => by cases h)
      ·
        have at1 : ((rowOf B (some [w])).map V.str)[B.length + 1]? = some (.str w) := rowB 1
        have hlz : ((rowOf B (some [w])).map V.str).length ≤ 1000000 := by rw [xl]; simp; omega
        have e0 : preP T pr B (some [w]) = (dget pr w).map fun pv => (B, pv) := rfl
        refine WSs_cons (sIf (bOr (p := false) (q' := !(dget pr w).isSome) (bConv (bCmp (eLen ok W hF rfl rfl (eCell ok hF rfl rfl x.eB) eL xl (by simp; omega)) (eBin (eLoc ok hF rfl rfl) eInt fun _ q => Op_add q) fun _ q => Cmp_nei q) (by
          rw [Bool.not_eq_false', decide_eq_true_iff]; simp; omega)) fun _ => bCmp (eSub (eCell ok hF rfl rfl x.eB) (eBin (eLoc ok hF rfl rfl) eInt fun _ q => Op_add q) (uList (j := B.length + 1) eL at1 hlz)) (eLoc ok hF rfl rfl) fun _ q => Cmp_notInD x.eP q) (fun hn => ?_) fun hn => WSs_nil ?_)
        · refine WSs_cons (sRet eNone (qe ?_ _))
          rw [e0]
          cases e : dget pr w with
          | none => rfl
          | some _ => rw [e] at hn; cases hn
        · obtain ⟨pv, hpv⟩ : ∃ pv, dget pr w = some pv := by
            cases e : dget pr w with
            | none => rw [e] at hn; cases hn
            | some pv => exact ⟨pv, rfl⟩
          refine WSs_cons (sA ok hF rfl (eSub (eLoc ok hF rfl rfl) (eSub (eCell ok hF rfl rfl x.eB) (eBin (eLoc ok hF rfl rfl) eInt fun _ q => Op_add q) (uList (j := B.length + 1) eL at1 hlz)) fun _ q => Sub_dict x.eP hpv q) ?_)
          refine WSs_cons (sAC ok hF rfl rfl x.eB (eCut (eCell ok hF rfl rfl x.eB) (eLoc ok hF rfl rfl) eL hlz) (WSs_nil ?_))
          have e3 : ((rowOf B (some [w])).map V.str).take B.length = B.map V.str := by
            unfold rowOf
            rw [List.map_append, List.take_append_of_le_length (by simp), List.take_of_length_le (by simp)]
          rw [e3]
          exact q _ _ ⟨_, _, pv, by rw [e0, hpv]; rfl, rfl, x.setB hc hne _⟩
      ·
        have e0 : preP T pr B (some [w, v]) = none := rfl
        refine WSs_cons (sIf (bConv (b' := true) (bOr (p := true) (q' := true) (bConv (bCmp (eLen ok W hF rfl rfl (eCell ok hF rfl rfl x.eB) eL xl (by simp; omega)) (eBin (eLoc ok hF rfl rfl) eInt fun _ q => Op_add q) fun _ q => Cmp_nei q) (by
          rw [Bool.not_eq_true', decide_eq_false_iff_not]; first | (simp; done) | (simp; omega))) fun h => by cases h) rfl) (fun _ => WSs_cons (sRet eNone (qe e0 _))) fun h => by cases h)
  · have hin := of_decide_eq_false hin
    cases TLs with
    | some r => exact absurd (List.mem_append_right _ (List.mem_cons_self ..)) hin
    | none =>
      refine WSs_cons (sA ok hF rfl (eTup (eCons eStr (eCons eInt eNil))) ?_)
      refine WSs_cons (sForL (eCell ok hF rfl rfl x.eB) eL ?_)
      refine ForOnV (fun i => lstSt_mono i) B.length (Ta1 row rl tk rk Hk T pr B) ⟨none, rfl, rfl⟩ ?_ ?_
      · rintro i Q1 b1 l H' hi ⟨a8, rfl, rfl⟩
        refine ⟨.str B[i], Nxt_list (xs := B.map .str) rfl (by simp [hi]), tLoc ok.inl hF rfl ?_⟩
        have hdec : (dget (tof t1) B[i]).isSome = decide (B[i] ∈ T.map (·.1)) := by rw [isSome_kys, s.con]
        refine WSs_cons (sIf (bConv (bCmp (eLoc ok.inl hF rfl rfl) (eLoc ok.inl hF rfl rfl) fun _ q => Cmp_inD s.tb.dict q) hdec) (fun hk => ?_) fun hk => ?_)
        · refine WSs_cons (sA ok.inl hF rfl (X := precOf pr (some B[i])) (eIf (bCmp (eLoc ok.inl hF rfl rfl) (eLoc ok.inl hF rfl rfl) fun _ q => Cmp_inD x.eP q) (fun e => ?_) fun e => ?_) (WSs_nil (WSs_nil (b1.n ⟨some (.str B[i]), ?_, rfl⟩))))
          · cases e2 : dget pr B[i] with
            | none => rw [e2] at e; cases e
            | some Y =>
              have : precOf pr (some B[i]) = Y := by show (dget pr B[i]).getD _ = Y; rw [e2]; rfl
              rw [this]
              exact eSub (eLoc ok.inl hF rfl rfl) (eLoc ok.inl hF rfl rfl) fun _ q => Sub_dict x.eP e2 q
          · have : precOf pr (some B[i]) = .tup [.str (Str.ofString "right"), .int 0] := by
              show (dget pr B[i]).getD _ = _
              cases e2 : dget pr B[i] with
              | none => rfl
              | some Y => rw [e2] at e; cases e
            rw [this]
            exact eTup (eCons eStr (eCons eInt eNil))
          · rw [rm_take hi, if_pos hk]; rfl
        · refine WSs_nil (WSs_nil (b1.n ⟨some (.str B[i]), ?_, rfl⟩))
          rw [rm_take hi, if_neg (by rw [hk]; exact Bool.false_ne_true)]; rfl
      · rintro l H' ⟨a8, rfl, rfl⟩
        refine ⟨Nxt_list_end (xs := B.map .str) (ok.handled (Nat.succ_ne_zero _)) rfl (by rw [List.length_map]; exact Nat.le_refl _), WSs_nil (WSs_nil (q _ _ ⟨_, _, _, ?_, rfl, x⟩))⟩
        rw [List.take_length]; rfl
end Lay.W1
end
noncomputable section
open PySem PySem.W PyProof.Rows PySem.Calls
set_option Elab.async false
set_option maxRecDepth 100000
set_option linter.all false
set_option maxHeartbeats 8000000
namespace Lay.W1
variable {P : Params} {F : Fx} {n : Nat} {loc : Loc} {H : Hp}
theorem taken_call (ok : Ok F (n + 5)) (W : Wd (K P) F.c.base) {tk : Addr} {tt : Tab} {m : Nat} {rl rk : Addr} {rs : List Rl} {pr : List (Str × V)} {h : Str} {b : List Str} {tl : Option (List Str)} {Q : V → Loc → Hp → Prop} (h0 : TkSt H tk tt m (tcon tt) H tt) (hm : m ≤ 900) (ro : RowOk b tl) (eR : H.L rl = some (ruV 1 rs)) (hrl : ¬ footK tk tt rl) (eP : H.D rk = some pr) (hrk : ¬ footK tk tt rk) (hz : rs.length ≤ 100)
    (q : ∀ Hk t1, TkSt H tk tt (m + 20) (tokT (tcon tt) h (rowOf b tl)) Hk t1 → Q (takenV rs.length h (taken (tcon tt) pr (pmOf rs) h b tl)) loc Hk) : Call F (.ref 296) [.str h, .list ((rowOf b tl).map .str), .ref rl, .ref tk, .ref rk] loc H Q := by
  refine Call_of (defC ok W ["head", "row", "rules", "tokens", "ranks"] (Vs := [.str h, .list ((rowOf b tl).map .str), .ref rl, .ref tk, .ref rk]) (nm := takNm) rfl rfl rfl rfl rfl ?_ rfl ?_)
  · intro vs ws B r1 r2 le
    apply r2.e0
    apply r1.e5
    intro _ _ _ _ _ a b c d e
    exact ⟨[_, _, _, _, _], Looks.of_peek W.k rfl, .cons a (.cons b (.cons c (.cons d (.cons e .nil))))⟩
  · intro F' L ok tp W hF hf
    have hf2 : H.Fresh (L + 1 + 1) := hf "bare" (L + 1 + 1) (by with_unfolding_all exact .head _)
    have hf1 : H.Fresh (L + 1) := hf "head" (L + 1) (by with_unfolding_all exact .tail _ (.head _))
    have hne : L + 1 ≠ L + 1 + 1 := Nat.ne_of_lt (Nat.lt_succ_self _)
    let Hx : Hp := { H with C := up (up H.C (L + 1) (some (.str h))) (L + 1 + 1) none }
    have hxH : Hx.C (L + 1) = some (some (.str h)) := (up_ne hne).trans (up_self _ _ _)
    have s0 : TkSt H tk tt m (tcon tt) Hx tt := (h0.setC hf1 _).setC hf2 _
    show WSs F' _ (TL ((rowOf b tl).map .str) rl tk rk none none none) Hx _
    have hkT : ∀ s, s ∈ (tcon tt).map (·.1) ↔ s ∈ kys tt := fun s => by rw [tcon_keys]
    refine WSs_cons (sIf (bConv (bCmp (eCell ok hF rfl rfl hxH) (eLoc ok hF rfl rfl) fun _ q => Cmp_inD s0.tb.dict q) (isSome_kys h)) (fun hh => ?_) fun hh => WSs_nil ?_)
    · have hh := of_decide_eq_true hh
      refine WSs_cons (sRet eNone ?_)
      have e1 : taken (tcon tt) pr (pmOf rs) h b tl = none := if_pos hh
      have e2 : tokT (tcon tt) h (rowOf b tl) = tcon tt := if_pos hh
      rw [e1, e2] at q
      exact q Hx tt (s0.mono (by omega))
    have hh := of_decide_eq_false hh
    have eT : tokT (tcon tt) h (rowOf b tl) = readT (tcon tt) (rowOf b tl) := if_neg hh
    rw [eT] at q
    -- the row is read
    have sx : TkSt Hx tk tt m (tcon tt) Hx tt := ⟨s0.ad, s0.al, s0.nk, s0.na, Ext.refl _, fun a ha => .inl ha, rfl, s0.gn, s0.len⟩
    have extx : Ext (footK tk tt) H Hx := s0.ext
    have back : ∀ {Hk t1 T m'}, TkSt Hx tk tt m' T Hk t1 → TkSt H tk tt m' T Hk t1 := fun s => ⟨s.ad, s.al, s.nk, s.na, extx.trans s.ext, fun a ha => (s.grown a ha).imp id extx.fresh, s.con, s.gn, s.len⟩
    have ownC : ∀ {c : Addr} {o}, Hx.C c = some o → Hx.Own c := fun e => .inr (.inr (.inr (.inr (.inr (by rw [e]; simp)))))
    have notK : ∀ {c : Addr}, H.Fresh c → ¬ footK tk tt c := fun {c} hc => by
      rintro (rfl | hm)
      · exact hc (.inr (.inl (by rw [h0.tb.dict]; simp)))
      · exact h0.own hm hc.l
    have stay : ∀ {Hk t1 T m'}, TkSt Hx tk tt m' T Hk t1 → TkS H tk tt m' T rl rk (L + 1) (L + 1 + 1) rs pr h none Hk := fun {Hk t1 T m'} s => by
      have hb2 : Hx.C (L + 1 + 1) = some none := up_self _ _ _
      have c1 := (s.ext (L + 1) (ownC hxH)).2 (notK hf1)
      have c2 := (s.ext (L + 1 + 1) (ownC hb2)).2 (notK hf2)
      have r1 := (s.ext rl (.inl (by show H.L rl ≠ none; rw [eR]; simp))).2 hrl
      have r2 := (s.ext rk (.inr (.inl (by show H.D rk ≠ none; rw [eP]; simp)))).2 hrk
      exact ⟨⟨t1, back s⟩, r1.1.trans eR, r2.2.1.trans eP, c1.2.2.2.2.2.1.trans hxH, c2.2.2.2.2.2.1.trans hb2⟩
    refine WSs_cons (sAsgC ok hF rfl rfl (WE_CallN (gGlob ok W hF rfl rfl (.ref 291) (WEs_cons (gLoc ok hF rfl rfl (WEs_cons (gLoc ok hF rfl rfl (WEs_nil ⟨keepK ok W, read_call (n := n + 1) ok W sx hm ro.sg (row_len ro) (fun hb Hk t1 s => ?_) fun hb Hk t1 s => ?_⟩))))))))
    · have x := stay s
      refine ⟨⟨_, x.eB⟩, ?_⟩
      have e1 : taken (tcon tt) pr (pmOf rs) h b tl = none := by unfold taken; rw [if_neg hh, if_pos hb]
      rw [e1] at q
      have x2 := x.setB hf2 hne (some .none)
      obtain ⟨t2, s2⟩ := x2.st
      exact WSs_cons (sIf (b := true) (bCmp (eCell ok hF rfl rfl x2.eB) eNone fun _ q => Cmp_isNone rfl rfl q) (fun _ => WSs_cons (sRet eNone (q _ t2 s2))) fun h => by cases h)
    · have x := stay s
      refine ⟨⟨_, x.eB⟩, ?_⟩
      have e2 : taken (tcon tt) pr (pmOf rs) h b tl = takenP (readT (tcon tt) (rowOf b tl)) pr (pmOf rs) h (b.map bs) (tl.map (·.map bs)) := by unfold taken; rw [if_neg hh, if_neg (by rw [hb]; exact Bool.false_ne_true)]
      have eRow : (rowOf b tl).map (fun s => V.str (bs s)) = (rowOf (b.map bs) (tl.map (·.map bs))).map V.str := by rw [← bs_rowOf, List.map_map]; rfl
      rw [eRow]
      have hBl : (b.map bs).length ≤ 18 := by rw [List.length_map]; exact Nat.le_trans ro.hb (by decide)
      have hrl' : ∀ r, tl.map (·.map bs) = some r → r.length ≤ 2 := fun r e => by
        obtain ⟨r', h1, rfl⟩ := Option.map_eq_some_iff.mp e
        rw [List.length_map]; exact ro.hr r' h1
      have npB : Str.ofString "%prec" ∉ b.map bs := ro.np
      generalize b.map bs = B at hBl npB e2
      generalize tl.map (·.map bs) = TLs at hrl' e2
      generalize readT (tcon tt) (rowOf b tl) = T' at e2 q x
      have x2 := x.setB hf2 hne (some (.list ((rowOf B TLs).map .str)))
      refine WSs_cons (sIf (b := false) (bCmp (eCell ok hF rfl rfl x2.eB) eNone fun _ q => Cmp_isNone rfl rfl q) (fun h => by cases h) fun _ => WSs_nil ?_)
      refine WSs_midV (Ta2 H tk tt (m + 20) T' rl rk (L + 1) (L + 1 + 1) rs pr h B TLs ((rowOf b tl).map .str)) (fun Q2 b2 => tk_prec (n := n) ok tp W hF hf2 hne x2 hBl hrl' npB rfl (fun e l => b2.r ?_) fun l H' mm => b2.n mm) ?_
      · obtain ⟨t2, s2⟩ := x2.st
        have : taken (tcon tt) pr (pmOf rs) h b tl = none := by rw [e2]; unfold takenP; rw [e]; rfl
        rw [this] at q
        exact q _ t2 s2
      · rintro l H' ⟨a6, a8, pv, ep, rfl, x3⟩
        obtain ⟨t3, s3⟩ := x3.st
        have tk2 : taken (tcon tt) pr (pmOf rs) h b tl = if (h, B) ∈ pmOf rs then none else some (B, pv) := by rw [e2]; unfold takenP; rw [ep]; rfl
        rw [tk2] at q
        exact tk_fin (n := n + 1) ok W hF x3.eH x3.eB x3.eR hz (q H' t3 s3)
end Lay.W1
end
noncomputable section
open PySem PySem.W PyProof.Rows PySem.Calls
set_option Elab.async false
set_option maxRecDepth 100000
set_option linter.all false
set_option maxHeartbeats 8000000
namespace Lay.W1
inductive InsOk : Nat → List Rl → List V → Prop
  | nil {k} : InsOk k [] []
  | cons {k r rs fs is} : PrF fs (k : Nat) r.1 r.2.1 r.2.2 → InsOk (k + 1) rs is → InsOk k (r :: rs) (.inst 68 fs :: is)
theorem InsOk.snoc {fs : List (Str × V)} {r : Rl} {k : Nat} {rs : List Rl} {is : List V} (h0 : InsOk k rs is) (h : PrF fs ((k + rs.length : Nat) : Int) r.1 r.2.1 r.2.2) : InsOk k (rs ++ [r]) (is ++ [.inst 68 fs]) := by
  induction h0 with
  | nil => exact .cons h .nil
  | @cons k x rs fs' is a b ih => exact .cons a (ih (by rw [show k + 1 + rs.length = k + (rs.length + 1) by omega]; exact h))
theorem InsOk.len {k : Nat} {rs : List Rl} {is : List V} (h : InsOk k rs is) : is.length = rs.length := by
  induction h with
  | nil => rfl
  | cons _ _ ih => exact congrArg (· + 1) ih
noncomputable def toldF : V → Option V
  | .inst _ fs => match dget fs "number", dget fs "name", dget fs "prod", dget fs "prec" with
    | some a, some b, some (.tup xs), some d => some (.tup [a, b, .list xs, d])
    | _, _, _, _ => none
  | _ => none
theorem toldF_of {fs : List (Str × V)} {k : Nat} {r : Rl} (h : PrF fs (k : Nat) r.1 r.2.1 r.2.2) : toldF (.inst 68 fs) = some (ru4 k r) := by
  obtain ⟨h1, h2, h3, h4⟩ := h
  show (match dget fs "number", dget fs "name", dget fs "prod", dget fs "prec" with
    | some a, some b, some (.tup xs), some d => some (V.tup [a, b, .list xs, d])
    | _, _, _, _ => none) = _
  rw [h1, h2, h3, h4]; rfl
theorem InsOk.told {k : Nat} {rs : List Rl} {is : List V} (h : InsOk k rs is) : is.filterMap toldF = ruV k rs := by
  induction h with
  | nil => rfl
  | cons a _ ih => rw [List.filterMap_cons, toldF_of a, ih]; rfl
noncomputable def numF : V → Option V
  | .inst _ fs => dget fs "number"
  | _ => none
noncomputable def mapN (m : List (Str × List V)) : List (Str × List V) := m.map fun p => (p.1, p.2.filterMap numF)
theorem mapN_keys (m : List (Str × List V)) : (mapN m).map (·.1) = m.map (·.1) := by unfold mapN; rw [List.map_map]; rfl
theorem mapN_addKey (m : List (Str × List V)) (k : Str) : mapN (addKey m k) = addKey (mapN m) k := by
  unfold addKey
  rw [mapN_keys]
  split
  · rfl
  · unfold mapN; rw [List.map_append]; rfl
theorem mapN_addUse (m : List (Str × List V)) (k : Str) {v x : V} (h : numF v = some x) : mapN (addUse m k v) = addUse (mapN m) k x := by
  unfold mapN addUse
  rw [List.map_map, List.map_map]
  refine List.map_congr_left fun p _ => ?_
  simp only [Function.comp]
  split
  · rw [List.filterMap_append, List.filterMap_cons, h]; rfl
  · rfl
noncomputable def hdGo : List (Str × List V) → Nat → List Rl → List (Str × List V)
  | m, _, [] => m
  | m, k, r :: rs => hdGo (addUse (addKey m r.1) r.1 (.int (k : Int))) (k + 1) rs
theorem hdGo_snoc : ∀ (rs : List Rl) (m : List (Str × List V)) (k : Nat) (r : Rl), hdGo m k (rs ++ [r]) = addUse (addKey (hdGo m k rs) r.1) r.1 (.int ((k + rs.length : Nat) : Int))
  | [], _, _, _ => rfl
  | x :: rs, m, k, r => by
    show hdGo _ (k + 1) (rs ++ [r]) = _
    rw [hdGo_snoc rs, show k + 1 + rs.length = k + (rs.length + 1) by omega]; rfl
theorem addKey_nodup {m : List (Str × List V)} {k : Str} (h : (m.map (·.1)).Nodup) : ((addKey m k).map (·.1)).Nodup := by
  unfold addKey
  split
  · exact h
  · rename_i hk
    rw [List.map_append, List.nodup_append]
    exact ⟨h, by simp, fun x hx c hc => by simp at hc; subst hc; exact fun e => hk (e ▸ hx)⟩
theorem hdGo_nodup : ∀ (rs : List Rl) (m : List (Str × List V)) (k : Nat), (m.map (·.1)).Nodup → ((hdGo m k rs).map (·.1)).Nodup
  | [], _, _, h => h
  | r :: rs, m, k, h => hdGo_nodup rs _ _ (by rw [addUse_keys]; exact addKey_nodup h)
noncomputable def toL (p : Str × List V) : Str × V := (p.1, .list p.2)
theorem toL_keys (m : List (Str × List V)) : (m.map toL).map (·.1) = m.map (·.1) := by rw [List.map_map]; rfl
noncomputable def mgt (m : List (Str × List V)) (k : Str) : Option (List V) := (m.find? fun p => p.1 = k).map (·.2)
theorem dget_toL (m : List (Str × List V)) (k : Str) : dget (m.map toL) k = (mgt m k).map .list := by
  unfold dget mgt
  rw [List.find?_map, Option.map_map, Option.map_map]
  rfl
theorem mgt_none {m : List (Str × List V)} {k : Str} : mgt m k = none ↔ k ∉ m.map (·.1) := by
  unfold mgt
  simp only [Option.map_eq_none_iff, List.find?_eq_none, decide_eq_true_eq, List.mem_map, not_exists, not_and]
theorem mgt_mem {m : List (Str × List V)} {k : Str} {xs : List V} (hn : (m.map (·.1)).Nodup) (h : (k, xs) ∈ m) : mgt m k = some xs := dget_mem hn h
theorem any_key {α : Type} {m : List (Str × α)} {k : Str} : (m.any fun kv => decide (kv.1 = k)) = true ↔ k ∈ m.map (·.1) := by
  rw [List.any_eq_true, List.mem_map]
  exact ⟨fun ⟨p, h1, h2⟩ => ⟨p, h1, of_decide_eq_true h2⟩, fun ⟨p, h1, h2⟩ => ⟨p, h1, decide_eq_true h2⟩⟩
theorem dput_key {m : List (Str × List V)} {k : Str} (h : k ∉ m.map (·.1)) : dput (m.map toL) k (.list []) = (addKey m k).map toL := by
  have h2 : ¬ ((m.map toL).any fun kv => decide (kv.1 = k)) = true := by rw [any_key, toL_keys]; exact h
  unfold dput addKey
  rw [if_neg h2, if_neg h, List.map_append]; rfl
theorem dput_use {m : List (Str × List V)} {k : Str} {v : V} (hn : (m.map (·.1)).Nodup) : dput (m.map toL) k (.list ((mgt m k).getD [] ++ [v])) = (addUse (addKey m k) k v).map toL := by
  unfold dput addKey
  by_cases hk : k ∈ m.map (·.1)
  · have h2 : ((m.map toL).any fun kv => decide (kv.1 = k)) = true := by rw [any_key, toL_keys]; exact hk
    rw [if_pos h2, if_pos hk]
    unfold addUse
    rw [List.map_map, List.map_map]
    refine List.map_congr_left fun p hp => ?_
    obtain ⟨a, xs⟩ := p
    show (if a = k then (a, V.list ((mgt m k).getD [] ++ [v])) else (a, V.list xs)) = toL (if a = k then (a, xs ++ [v]) else (a, xs))
    by_cases e : a = k
    · subst e
      rw [if_pos rfl, if_pos rfl, mgt_mem hn hp]; rfl
    · rw [if_neg e, if_neg e]; rfl
  · have h2 : ¬ ((m.map toL).any fun kv => decide (kv.1 = k)) = true := by rw [any_key, toL_keys]; exact hk
    rw [if_neg h2, if_neg hk, mgt_none.mpr hk]
    unfold addUse
    rw [List.map_append, List.map_append]
    have e1 : m.map (fun p => if p.1 = k then (p.1, p.2 ++ [v]) else p) = m := by
      conv => rhs; rw [← List.map_id m]
      refine List.map_congr_left fun p hp => ?_
      rw [if_neg fun e => hk (List.mem_map.mpr ⟨p, hp, e⟩)]; rfl
    rw [e1]
    show _ = m.map toL ++ [toL (if k = k then (k, [] ++ [v]) else (k, []))]
    rw [if_pos rfl]; rfl
noncomputable def AllI (m : List (Str × List V)) : Prop := ∀ p ∈ m, ∀ v ∈ p.2, ∃ i : Int, v = .int i
theorem AllI.key {m : List (Str × List V)} (h : AllI m) (k : Str) : AllI (addKey m k) := by
  unfold addKey
  split
  · exact h
  · intro p hp
    rcases List.mem_append.mp hp with hp | hp
    · exact h p hp
    · rw [List.mem_singleton] at hp; subst hp; intro v hv; cases hv
theorem AllI.use {m : List (Str × List V)} (h : AllI m) (k : Str) (i : Int) : AllI (addUse m k (.int i)) := by
  intro p hp
  obtain ⟨q, hq, rfl⟩ := List.mem_map.mp hp
  split
  · intro v hv
    rcases List.mem_append.mp hv with hv | hv
    · exact h q hq v hv
    · rw [List.mem_singleton] at hv; exact ⟨i, hv⟩
  · exact h q hq
theorem isD_ints {xs : List V} (h : ∀ v ∈ xs, ∃ i : Int, v = .int i) : (V.list xs).isD 20 = true := by
  show xs.all (V.isD 19) = true
  rw [List.all_eq_true]
  intro v hv
  obtain ⟨i, rfl⟩ := h v hv
  rfl
noncomputable def PvOk (v : V) : Prop := ∃ (k : Str) (l : Int), v = .tup [.str k, .int l]
theorem PvOk.isD {v : V} (h : PvOk v) (n : Nat) : v.isD (n + 1) = true := by
  obtain ⟨k, l, rfl⟩ := h
  show [V.str k, V.int l].all (V.isD n) = true
  cases n <;> rfl
theorem isD_rules {rs : List Rl} {k : Nat} (h : ∀ r ∈ rs, PvOk r.2.2) : (V.list (ruV k rs)).isD 20 = true := by
  show (ruV k rs).all (V.isD 19) = true
  rw [List.all_eq_true]
  intro v hv
  obtain ⟨j, r, hr, rfl⟩ := ruV_mem hv
  show [V.int j, V.str r.1, V.list (r.2.1.map .str), r.2.2].all (V.isD 18) = true
  have h1 : (V.list (r.2.1.map .str)).isD 18 = true := by
    show (r.2.1.map V.str).all (V.isD 17) = true
    rw [List.all_eq_true]
    intro v hv
    obtain ⟨s, _, rfl⟩ := List.mem_map.mp hv
    rfl
  simp only [List.all_cons, List.all_nil, h1, (h r hr).isD 17, Bool.and_true, Bool.true_and]
  rfl
structure RR (R : List (Str × List V)) (rs : List Rl) : Prop where
  e : mapN R = hdGo [] 1 rs
  i : ∀ p ∈ R, ∀ v ∈ p.2, ∃ fs, ∃ i : Int, v = .inst 68 fs ∧ dget fs "number" = some (.int i)
theorem RR.keys {R : List (Str × List V)} {rs : List Rl} (h : RR R rs) : R.map (·.1) = (hdGo [] 1 rs).map (·.1) := by rw [← h.e, mapN_keys]
theorem RR.snoc {R : List (Str × List V)} {rs : List Rl} {r : Rl} {fs : List (Str × V)} (h : RR R rs) (hp : dget fs "number" = some (.int ((rs.length + 1 : Nat) : Int))) : RR (addUse (addKey R r.1) r.1 (.inst 68 fs)) (rs ++ [r]) := by
  refine ⟨?_, ?_⟩
  · rw [mapN_addUse _ _ (show numF (.inst 68 fs) = _ from hp), mapN_addKey, h.e, hdGo_snoc, Nat.add_comm 1]
  · intro p hp'
    obtain ⟨q, hq, rfl⟩ := List.mem_map.mp hp'
    have hq2 : ∀ v ∈ q.2, ∃ fs, ∃ i : Int, v = .inst 68 fs ∧ dget fs "number" = some (.int i) := by
      unfold addKey at hq
      split at hq
      · exact h.i q hq
      · rcases List.mem_append.mp hq with hq | hq
        · exact h.i q hq
        · rw [List.mem_singleton] at hq; subst hq; intro v hv; cases hv
    split
    · intro v hv
      rcases List.mem_append.mp hv with hv | hv
      · exact hq2 v hv
      · rw [List.mem_singleton] at hv; exact ⟨fs, _, hv, hp⟩
    · exact hq2
end Lay.W1
end
noncomputable section
open PySem PySem.W PyProof.Rows PySem.Calls
set_option Elab.async false
set_option maxRecDepth 100000
set_option linter.all false
set_option maxHeartbeats 8000000
namespace Lay.W1
variable {P : Params} {F : Fx} {n : Nat} {loc : Loc} {H : Hp}
structure Lw (H : Hp) (g : GA) (t : GT) (rl na tk rk : Addr) (tt : Tab) (rs : List Rl) (m : Nat) : Prop where
  gr : Gr H g t
  tk : TkSt H tk tt m (tcon tt) H tt
  tc : tcon tt = tcon t.tT
  eR : H.L rl = some (ruV 1 rs)
  eN : H.D na = some ((tcon t.tN).map toL)
  eP : H.D rk = some t.pr
  ps : ∃ p0 is, t.ps = p0 :: is ∧ InsOk 1 rs is
  pm : t.pm = pmOf rs
  R : RR (tcon t.tR) rs
  iT : AllI (tcon t.tT)
  iN : AllI (tcon t.tN)
  pv : ∀ r ∈ rs, PvOk r.2.2
  prv : ∀ p ∈ t.pr, PvOk p.2
  prn : (t.pr.map (·.1)).Nodup
  sz : Sz m t
  hm : m ≤ 900
  hr : rs.length ≤ 8
  sl : ∀ r ∈ rs, r.2.1.length ≤ 10
  hp : t.pr.length ≤ 8
  up : t.ups.2 ≤ 80
noncomputable abbrev stNm : List (Str × NameKind) := [("grammar", .local), ("rules", .local), ("names", .local), ("tokens", .local), ("ranks", .local), ("told", .local), ("token", .local), ("heads", .local), ("rule", .local), ("name", .local), ("list", .globalImplicit), ("len", .globalImplicit)]
noncomputable def SL (g rl na tk rk : Addr) (a5 a6 a7 a8 a9 : Option V) : Loc := [some (.ref g), some (.ref rl), some (.ref na), some (.ref tk), some (.ref rk), a5, a6, a7, a8, a9, none, none]
inductive St1 (H : Hp) (g rl na tk rk : Addr) (a5 : Option V) (i : Nat) (l : Loc) (H' : Hp) : Prop
  | mk (a6 : Option V) (_ : l = SL g rl na tk rk a5 a6 none none none) (_ : H = H') : St1 H g rl na tk rk a5 i l H'
inductive St2 (H : Hp) (g rl na tk rk : Addr) (rs : List Rl) (a5 a6 : Option V) (hd : Addr) (i : Nat) (l : Loc) (H' : Hp) : Prop
  | mk (a8 : Option V) (_ : l = SL g rl na tk rk a5 a6 (some (.ref hd)) a8 none) (_ : { H with D := up H.D hd ((hdGo [] 1 (rs.take i)).map toL) } = H') : St2 H g rl na tk rk rs a5 a6 hd i l H'
theorem tcon_at {t : Tab} {k : Str} {a : Addr} {xs : List V} (h : (k, a, xs) ∈ t) : (k, xs) ∈ tcon t := List.mem_map.mpr ⟨_, h, rfl⟩
theorem asD_own {a : Addr} {xs : List V} (e : H.L a = some xs) : asD H (.ref a) = .list xs := by
  show (match H.L a with | some xs => V.list xs | none => _) = _
  rw [e]
theorem st_told {g : GA} {t : GT} {rl na tk rk : Addr} {tt : Tab} {rs : List Rl} {m : Nat} (x : Lw H g t rl na tk rk tt rs m) (ok : Ok F (n + 2)) (W : Wd (K P) F.c.base) (hF : FrameIs F stNm []) {st : Stmt} {Q : Fl → Loc → Hp → Prop} (hst : (fnB (ta 17))[0]? = some st) (q : Q .next (SL g.g rl na tk rk (some (.list (ruV 1 rs))) none none none none) H) :
    WS F st (SL g.g rl na tk rk none none none none none) H Q := by
  cases hst
  obtain ⟨p0, is, eps, ins⟩ := x.ps
  have gr := x.gr
  have e1 : asL H (.ref g.prods) = some (p0 :: is) := gr.ps.trans (congrArg some eps)
  have hil : is.length ≤ 8 := by rw [ins.len]; exact x.hr
  have ht : is.filterMap toldF = ruV 1 rs := ins.told
  rw [← ht] at q
  refine sComp0 ok hF [] (f := toldF) rfl (eFrom (k := 1) (eAttr (eLoc ok hF rfl rfl) fun _ q => getG ok W gr Fld.prods rfl q) eInt e1 (by simp; omega)) rfl (by show is.length ≤ 100000; omega) (fun C sv E okc i y hy => ?_) q (swY ok hF rfl rfl rfl) (closK hF rfl) (compDbg ok rfl)
  have hmem : y ∈ is := List.mem_of_getElem? hy
  obtain ⟨k, r, fs, hr, rfl, hp⟩ : ∃ k r fs, r ∈ rs ∧ y = .inst 68 fs ∧ PrF fs (k : Nat) r.1 r.2.1 r.2.2 := by
    clear e1 ht hil hy eps q x gr
    generalize (1 : Nat) = j at ins
    induction ins with
    | nil => cases hmem
    | cons a b ih =>
      cases hmem with
      | head _ => exact ⟨_, _, _, .head _, rfl, a⟩
      | tail _ hm =>
        obtain ⟨k, r, fs, h1, h2, h3⟩ := ih hm
        exact ⟨k, r, fs, .tail _ h1, h2, h3⟩
  obtain ⟨h1, h2, h3, h4⟩ := id hp
  obtain ⟨pk, pl, epv⟩ := x.pv r hr
  refine turn0 (fun _ q => tLoc okc (compF ok hF) rfl q) (eTup (eCons (eAttr (eLoc okc (compF ok hF) rfl rfl) fun _ q => getI okc W h3 rfl q) (eCons (eAttr (eLoc okc (compF ok hF) rfl rfl) fun _ q => getI okc W h1 rfl q) (eCons (eListC okc (eBi okc W (compF ok hF) rfl rfl (by boot_by_name) (by decide)) (eAttr (eLoc okc (compF ok hF) rfl rfl) fun _ q => getI okc W h2 rfl q) (.inr rfl) ?_) (eCons (eAttr (eLoc okc (compF ok hF) rfl rfl) fun _ q => getI okc W h4 (by rw [epv]; rfl) q) eNil))))) ?_
  · rw [List.length_map]; exact Nat.le_trans (x.sl r hr) (by decide)
  · exact toldF_of hp
theorem kys_of {t : Tab} {k : Str} {i : Nat} {v : V} (h : (tof t)[i]? = some (k, v)) : k ∈ kys t := by
  unfold tof at h
  rw [List.getElem?_map] at h
  obtain ⟨e, he, h⟩ := Option.map_eq_some_iff.mp h
  cases h
  exact List.mem_map.mpr ⟨e, List.mem_of_getElem? he, rfl⟩
theorem tcon_eq {t t' : Tab} (h : tcon t = tcon t') (hn : (kys t).Nodup) (hn' : (kys t').Nodup) {k : Str} (hk : k ∈ kys t) : ∃ a b xs, tget t k = some (a, xs) ∧ tget t' k = some (b, xs) := by
  obtain ⟨a, xs, e⟩ := tget_some hk
  have hk' : k ∈ kys t' := by rw [← tcon_keys, ← h, tcon_keys]; exact hk
  obtain ⟨b, ys, e'⟩ := tget_some hk'
  have h1 := tcon_at (tget_mem e)
  have h2 := tcon_at (tget_mem e')
  rw [h] at h1
  have n2 : ((tcon t').map (·.1)).Nodup := by rw [tcon_keys]; exact hn'
  have := (mgt_mem n2 h1).symm.trans (mgt_mem n2 h2)
  cases this
  exact ⟨a, b, xs, e, e'⟩
theorem dget_nodup {pr : List (Str × V)} (hn : (pr.map (·.1)).Nodup) {p : Str × V} (hp : p ∈ pr) : dget pr p.1 = some p.2 := dget_mem hn hp
variable {g : GA} {t : GT} {rl na tk rk : Addr} {tt : Tab} {rs : List Rl} {m : Nat}
theorem st_cmp (x : Lw H g t rl na tk rk tt rs m) (ok : Ok F (n + 2)) (W : Wd (K P) F.c.base) (hF : FrameIs F stNm []) {st : Stmt} {Q : Fl → Loc → Hp → Prop} (hst : (fnB (ta 17))[1]? = some st) (q : Q .next (SL g.g rl na tk rk (some (.list (ruV 1 rs))) none none none none) H) :
    WS F st (SL g.g rl na tk rk (some (.list (ruV 1 rs))) none none none none) H Q := by
  cases hst
  have gr := x.gr
  have eR : asL H (.ref rl) = some (ruV 1 rs) := x.eR
  refine sIf (b := false) (bOr3 (bCmp (eLoc ok hF rfl rfl) (eLoc ok hF rfl rfl) (kNeL ok rfl eR (isD_rules x.pv))) (bCmp (eAttr (eLoc ok hF rfl rfl) fun _ q => getG ok W gr Fld.nts rfl q) (eLoc ok hF rfl rfl) (kNeD ok gr.tN.dict x.eN (by simp [tof, tcon]) fun p hp => ?_)) (bCmp (eAttr (eLoc ok hF rfl rfl) fun _ q => getG ok W gr Fld.pr rfl q) (eLoc ok hF rfl rfl) (kNeD ok gr.pr x.eP rfl fun p hp => ?_))) (fun h => by cases h) fun _ => WSs_nil q
  · obtain ⟨e, he, rfl⟩ := List.mem_map.mp hp
    have hL := gr.tN.lst e he
    have hm := tcon_at (k := e.1) (a := e.2.1) (xs := e.2.2) he
    refine ⟨by show (asD H (.ref e.2.1)).isD 20 = true; rw [asD_own hL]; exact isD_ints (x.iN _ hm), .list e.2.2, ?_, ?_⟩
    · rw [dget_toL, mgt_mem (by rw [tcon_keys]; exact gr.kN) hm]; rfl
    · show asD H (.list e.2.2) = asD H (.ref e.2.1)
      rw [asD_own hL]; rfl
  · have h2 := x.prv p hp
    obtain ⟨k, l, e⟩ := id h2
    refine ⟨?_, p.2, dget_nodup x.prn hp, rfl⟩
    have : asD H p.2 = p.2 := by rw [e]; rfl
    rw [this]; exact h2.isD 19
theorem st_toks (x : Lw H g t rl na tk rk tt rs m) (ok : Ok F (n + 2)) (W : Wd (K P) F.c.base) (hF : FrameIs F stNm []) {a5 : Option V} {st : Stmt} {Q : Fl → Loc → Hp → Prop} (hst : (fnB (ta 17))[2]? = some st) (q : ∀ a6, Q .next (SL g.g rl na tk rk a5 a6 none none none) H) :
    WS F st (SL g.g rl na tk rk a5 none none none none) H Q := by
  cases hst
  have gr := x.gr
  have htl : ((tof t.tT).map fun p => V.str p.1).length = t.tT.length := by rw [List.length_map]; unfold tof; rw [List.length_map]
  have hT := x.sz.T
  unfold kys at hT
  rw [List.length_map] at hT
  have hm := x.hm
  refine sForL (eListD ok (eBi ok W hF rfl rfl (by boot_by_name) (by decide)) (eAttr (eLoc ok hF rfl rfl) fun _ q => getG ok W gr Fld.ts rfl q) gr.tT.dict (by unfold tof; rw [List.length_map]; omega)) rfl ?_
  refine ForOnV (fun i => lstSt_mono i) t.tT.length (St1 H g.g rl na tk rk a5) ⟨none, rfl, rfl⟩ ?_ ?_
  · rintro i Q1 b1 l H' hi ⟨a6, rfl, rfl⟩
    refine ⟨.str t.tT[i].1, Nxt_list (xs := (tof t.tT).map fun p => .str p.1) rfl (by simp [tof, hi]), tLoc ok.inl hF rfl ?_⟩
    have hk : t.tT[i].1 ∈ kys t.tT := List.mem_map.mpr ⟨_, List.getElem_mem _, rfl⟩
    obtain ⟨a, b, xs, e, e'⟩ := tcon_eq x.tc.symm gr.kT x.tk.nk hk
    obtain ⟨d1, d2⟩ := gr.tT.at_ e
    obtain ⟨f1, f2⟩ := x.tk.tb.at_ e'
    have hin : (dget (tof tt) t.tT[i].1).isSome = true := by rw [f1]; rfl
    refine WSs_cons (sIf (b := false) (bCmp (eSub (eAttr (eLoc ok.inl hF rfl rfl) fun _ q => getG ok.inl W gr Fld.ts rfl q) (eLoc ok.inl hF rfl rfl) fun _ q => Sub_dict gr.tT.dict d1 q) (eIf (c := true) (bConv (bCmp (eLoc ok.inl hF rfl rfl) (eLoc ok.inl hF rfl rfl) fun _ q => Cmp_inD x.tk.tb.dict q) hin) (fun _ => eSub (eLoc ok.inl hF rfl rfl) (eLoc ok.inl hF rfl rfl) fun _ q => Sub_dict x.tk.tb.dict f1 q) fun h => by cases h) (kNeL ok.inl d2 f2 (isD_ints (x.iT _ (tcon_at (tget_mem e)))))) (fun h => by cases h) fun _ => WSs_nil (WSs_nil (b1.n ⟨_, rfl, rfl⟩)))
  · rintro l H' ⟨a6, rfl, rfl⟩
    exact ⟨Nxt_list_end (xs := (tof t.tT).map fun p => .str p.1) (ok.handled (Nat.succ_ne_zero _)) rfl (by rw [htl]; exact Nat.le_refl _), WSs_nil (q a6)⟩
inductive St4 (H : Hp) (g rl na tk rk : Addr) (a5 : Option V) (ep i : Nat) (l : Loc) (H' : Hp) : Prop
  | mk (a6 : Option V) (_ : l = SL g rl na tk rk a5 a6 none none none) (_ : { H with G := up H.G tk ep } = H') : St4 H g rl na tk rk a5 ep i l H'
theorem st_toks2 (x : Lw H g t rl na tk rk tt rs m) (ok : Ok F (n + 2)) (W : Wd (K P) F.c.base) (hF : FrameIs F stNm []) {a5 a6 : Option V} {rest : List Stmt} {st : Stmt} {Q : Fl → Loc → Hp → Prop} (hst : (fnB (ta 17))[3]? = some st) (q : ∀ a6, WSs F rest (SL g.g rl na tk rk a5 a6 none none none) H Q) :
    WSs F (st :: rest) (SL g.g rl na tk rk a5 a6 none none none) H Q := by
  cases hst
  have gr := x.gr
  have tb := x.tk.tb
  have htl : (tof tt).length = tt.length := by unfold tof; rw [List.length_map]
  refine WSs_cons (sForK (eLoc ok hF rfl rfl) tb.dict fun ep => ?_)
  refine ForOnV (fun i => keySt_mono i) tt.length (St4 H g.g rl na tk rk a5 ep) ⟨a6, rfl, rfl⟩ ?_ ?_
  · rintro i Q1 b1 l H' hi ⟨a6, rfl, rfl⟩
    have hx : (tof tt)[i]? = some (tt[i].1, .ref tt[i].2.1) := by simp [tof, hi]
    refine ⟨.str tt[i].1, Nxt_keys tb.dict (up_self _ _ _) rfl hx, tLoc ok.inl hF rfl ?_⟩
    have hk : tt[i].1 ∈ kys tt := kys_of hx
    obtain ⟨a, b, xs, e, e'⟩ := tcon_eq x.tc x.tk.nk gr.kT hk
    obtain ⟨d1, d2⟩ := tb.at_ e
    have hin : (!(dget (tof t.tT) tt[i].1).isSome) = false := by rw [(gr.tT.at_ e').1]; rfl
    have d2' : asL { H with G := up H.G tk ep } (.ref a) = some xs := d2
    have hI := x.iT _ (by rw [← x.tc]; exact tcon_at (tget_mem e))
    refine WSs_cons (sIf (b := false) (bConv (bAnd (q' := false) (bCmp (eSub (eLoc ok.inl hF rfl rfl) (eLoc ok.inl hF rfl rfl) fun _ q => Sub_dict tb.dict d1 q) (eListF eNil) (kNeX ok.inl d2' rfl (isD_ints hI) rfl)) fun _ => bConv (bCmp (eLoc ok.inl hF rfl rfl) (eAttr (eLoc ok.inl hF rfl rfl) fun _ q => getG ok.inl W gr Fld.ts rfl q) fun _ q => Cmp_notInD gr.tT.dict q) hin) (Bool.and_false _)) (fun h => by cases h) fun _ => WSs_nil (WSs_nil (b1.n ⟨_, rfl, rfl⟩)))
  · rintro l H' ⟨a6, rfl, rfl⟩
    exact ⟨Nxt_keys_end (ok.handled (Nat.succ_ne_zero _)) tb.dict (up_self _ _ _) rfl (by rw [htl]; exact Nat.le_refl _), WSs_nil (WSs_pre (q a6) (LocSub.refl _) (subG (gr.gn _)))⟩
end Lay.W1
end
noncomputable section
open PySem PySem.W PyProof.Rows PySem.Calls
set_option Elab.async false
set_option maxRecDepth 100000
set_option linter.all false
set_option maxHeartbeats 8000000
namespace Lay.W1
variable {P : Params} {F : Fx} {n : Nat} {loc : Loc} {H : Hp}
variable {g : GA} {t : GT} {rl na tk rk : Addr} {tt : Tab} {rs : List Rl} {m : Nat}
theorem ruV_at : ∀ {k : Nat} {rs : List Rl} {i : Nat} (h : i < rs.length), (ruV k rs)[i]? = some (ru4 (k + i) rs[i])
  | k, r :: rs, 0, _ => rfl
  | k, r :: rs, i + 1, h => by
    show (ruV (k + 1) rs)[i]? = _
    rw [ruV_at (Nat.lt_of_succ_lt_succ h), show k + 1 + i = k + (i + 1) by omega]; rfl
theorem hdGo_take {rs : List Rl} {i : Nat} (h : i < rs.length) : hdGo [] 1 (rs.take (i + 1)) = addUse (addKey (hdGo [] 1 (rs.take i)) rs[i].1) rs[i].1 (.int ((1 + i : Nat) : Int)) := by
  rw [List.take_add_one, List.getElem?_eq_getElem h]
  show hdGo [] 1 (rs.take i ++ [rs[i]]) = _
  rw [hdGo_snoc, List.length_take, Nat.min_eq_left (Nat.le_of_lt h)]
theorem addUse_len (m : List (Str × List V)) (k : Str) (v : V) : (addUse m k v).length = m.length := List.length_map _
theorem addKey_len (m : List (Str × List V)) (k : Str) : (addKey m k).length ≤ m.length + 1 := by
  unfold addKey
  split
  · omega
  · rw [List.length_append]; exact Nat.le_refl _
theorem hdGo_len : ∀ (rs : List Rl) (m : List (Str × List V)) (k : Nat), (hdGo m k rs).length ≤ m.length + rs.length
  | [], _, _ => Nat.le_refl _
  | r :: rs, m, k => by
    have h1 := hdGo_len rs (addUse (addKey m r.1) r.1 (.int (k : Int))) (k + 1)
    rw [addUse_len] at h1
    have h2 := addKey_len m r.1
    have e : hdGo m k (r :: rs) = hdGo (addUse (addKey m r.1) r.1 (.int (k : Int))) (k + 1) rs := rfl
    rw [e, List.length_cons]; omega
theorem hdGo_lens : ∀ (rs : List Rl) (m : List (Str × List V)) (k c : Nat), (∀ p ∈ m, p.2.length ≤ c) → ∀ p ∈ hdGo m k rs, p.2.length ≤ c + rs.length
  | [], _, _, _, h => h
  | r :: rs, m, k, c, h => fun p hp => by
    have h1 := hdGo_lens rs (addUse (addKey m r.1) r.1 (.int (k : Int))) (k + 1) (c + 1) (fun p hp => by
      obtain ⟨q, hq, rfl⟩ := List.mem_map.mp hp
      have hq2 : q.2.length ≤ c := by
        unfold addKey at hq
        split at hq
        · exact h q hq
        · rcases List.mem_append.mp hq with hq | hq
          · exact h q hq
          · rw [List.mem_singleton] at hq; subst hq; exact Nat.zero_le _
      split
      · rw [List.length_append]; exact Nat.succ_le_succ hq2
      · exact Nat.le_succ_of_le hq2) p hp
    rw [List.length_cons]; omega
theorem mgt_in {m : List (Str × List V)} {k : Str} {xs : List V} (h : mgt m k = some xs) : (k, xs) ∈ m := by
  unfold mgt at h
  obtain ⟨p, hp, rfl⟩ := Option.map_eq_some_iff.mp h
  have h1 := List.mem_of_find?_eq_some hp
  have h2 := List.find?_some hp
  have h2 := of_decide_eq_true h2
  obtain ⟨a, b⟩ := p
  subst h2; exact h1
theorem hdGo_ints : ∀ (rs : List Rl) (m : List (Str × List V)) (k : Nat), AllI m → AllI (hdGo m k rs)
  | [], _, _, h => h
  | r :: rs, m, k, h => hdGo_ints rs _ _ ((h.key _).use _ _)
theorem st_heads (x : Lw H g t rl na tk rk tt rs m) (ok : Ok F (n + 2)) (W : Wd (K P) F.c.base) (hF : FrameIs F stNm []) {a5 a6 : Option V} {hd : Addr} (hh : H.Fresh hd) {st : Stmt} {Q : Fl → Loc → Hp → Prop} (hst : (fnB (ta 17))[5]? = some st) (q : ∀ a8, Q .next (SL g.g rl na tk rk a5 a6 (some (.ref hd)) a8 none) { H with D := up H.D hd ((hdGo [] 1 rs).map toL) }) :
    WS F st (SL g.g rl na tk rk a5 a6 (some (.ref hd)) none none) { H with D := up H.D hd [] } Q := by
  cases hst
  have eR : ∀ y, asL { H with D := up H.D hd y } (.ref rl) = some (ruV 1 rs) := fun y => x.eR
  refine sForL (eLoc ok hF rfl rfl) (eR _) ?_
  refine ForOnV (fun i => lstSt_mono i) rs.length (St2 H g.g rl na tk rk rs a5 a6 hd) ⟨none, rfl, rfl⟩ ?_ ?_
  · rintro i Q1 b1 l H' hi ⟨a8, rfl, rfl⟩
    refine ⟨ru4 (1 + i) rs[i], Nxt_list (xs := ruV 1 rs) (eR _) (ruV_at hi), tLoc ok.inl hF rfl ?_⟩
    have hn : ((hdGo [] 1 (rs.take i)).map (·.1)).Nodup := hdGo_nodup _ _ _ (by simp)
    have hlen := hdGo_len (rs.take i) [] 1
    have hlens := hdGo_lens (rs.take i) [] 1 0 (fun p hp => by cases hp)
    have htl := List.length_take_le i rs
    rw [List.length_nil] at hlen
    have hr := x.hr
    have htk := hdGo_take hi
    generalize hm : hdGo [] 1 (rs.take i) = mm at hn hlen htk hlens
    have eD : ({ H with D := up H.D hd (mm.map toL) } : Hp).D hd = some (mm.map toL) := up_self _ _ _
    have hxs : ((mgt mm rs[i].1).getD []).length ≤ 1000 := by
      cases e2 : mgt mm rs[i].1 with
      | none => exact Nat.zero_le _
      | some xs =>
        have := hlens _ (mgt_in e2)
        show xs.length ≤ 1000
        dsimp only at this; omega
    refine WSs_cons (WS_AssignT (goE (eAddF (ys := [.int ((1 + i : Nat) : Int)]) (eIf (X := .list ((mgt mm rs[i].1).getD [])) (bCmp (eSub (eLoc ok.inl hF rfl rfl) eInt (uTup (j := 1) rfl)) (eLoc ok.inl hF rfl rfl) fun _ q => Cmp_inD eD q) (fun e => ?_) fun e => ?_) (eListF (eCons (eSub (eLoc ok.inl hF rfl rfl) eInt (uTup (j := 0) rfl)) eNil)) rfl rfl (by simp; omega)) ?_))
    · rw [dget_toL] at e
      cases e2 : mgt mm rs[i].1 with
      | none => rw [e2] at e; cases e
      | some xs => exact eSub (eLoc ok.inl hF rfl rfl) (eSub (eLoc ok.inl hF rfl rfl) eInt (uTup (j := 1) rfl)) fun _ q => Sub_dict eD (by rw [dget_toL, e2]; rfl) q
    · rw [dget_toL] at e
      cases e2 : mgt mm rs[i].1 with
      | none => exact eListF eNil
      | some xs => rw [e2] at e; cases e
    · refine WA_sub (gLoc ok.inl hF rfl rfl (goE (eSub (eLoc ok.inl hF rfl rfl) eInt (uTup (j := 1) rfl)) (Set_dict eD (x.gr.gn _) (by rw [List.length_map]; omega) (WSs_nil (b1.n ⟨_, rfl, ?_⟩)))))
      show ({ H with D := up H.D hd ((hdGo [] 1 (rs.take (i + 1))).map toL) } : Hp) = ⟨H.L, up (up H.D hd (mm.map toL)) hd _, _, _, _, _, _⟩
      rw [up_up, dput_use hn, htk]
  · rintro l H' ⟨a8, rfl, rfl⟩
    rw [List.take_length]
    exact ⟨Nxt_list_end (xs := ruV 1 rs) (ok.handled (Nat.succ_ne_zero _)) (eR _) (by rw [ruV_len]; exact Nat.le_refl _), WSs_nil (q a8)⟩
end Lay.W1
end
noncomputable section
open PySem PySem.W PyProof.Rows PySem.Calls
set_option Elab.async false
set_option maxRecDepth 100000
set_option linter.all false
set_option maxHeartbeats 8000000
namespace Lay.W1
variable {P : Params} {F : Fx} {n : Nat} {loc : Loc} {H : Hp}
variable {g : GA} {t : GT} {rl na tk rk : Addr} {tt : Tab} {rs : List Rl} {m : Nat}
inductive St5 (H : Hp) (g rl na tk rk hd : Addr) (M : List (Str × List V)) (a5 a6 a8 : Option V) (ep i : Nat) (l : Loc) (H' : Hp) : Prop
  | mk (a9 : Option V) (_ : l = SL g rl na tk rk a5 a6 (some (.ref hd)) a8 a9) (_ : { H with D := up H.D hd (M.map toL), G := up H.G hd ep } = H') : St5 H g rl na tk rk hd M a5 a6 a8 ep i l H'
theorem st_names (x : Lw H g t rl na tk rk tt rs m) (ok : Ok F (n + 2)) (W : Wd (K P) F.c.base) (hF : FrameIs F stNm []) {a5 a6 a8 : Option V} {hd : Addr} (hh : H.Fresh hd) {Q : Fl → Loc → Hp → Prop} (q : ∀ l, Q (.ret (.bool true)) l H) :
    WSs F ((fnB (ta 17)).drop 6) (SL g.g rl na tk rk a5 a6 (some (.ref hd)) a8 none) { H with D := up H.D hd ((hdGo [] 1 rs).map toL) } Q := by
  have gr := x.gr
  have hkeys := x.R.keys
  have hmap := x.R.e
  have hints : AllI (hdGo [] 1 rs) := hdGo_ints _ _ _ fun p hp => by cases hp
  have hlen := hdGo_len rs [] 1
  have hr := x.hr
  rw [List.length_nil] at hlen
  generalize hM : hdGo [] 1 rs = M at hkeys hmap hints hlen
  have hRl : (tcon t.tR).length = M.length := by rw [← hmap]; exact (List.length_map _).symm
  have hRl2 : (tof t.tR).length = M.length := by rw [← hRl]; unfold tof tcon; rw [List.length_map, List.length_map]
  have htR : t.tR.length = M.length := by rw [← hRl]; unfold tcon; rw [List.length_map]
  have hdn : hd ≠ g.pn := fun e => gr.freshD hh (by rw [e]; simp [GA.dicts])
  have eD : ∀ G', (⟨H.L, up H.D hd (M.map toL), H.P, H.S, H.I, H.C, G'⟩ : Hp).D hd = some (M.map toL) := fun _ => up_self _ _ _
  have gA : Gr { H with D := up H.D hd (M.map toL) } g t := gr.upD hh _
  refine WSs_cons (sIf (b := false) (bConv (bCmp (eLen ok W hF rfl rfl (eListD ok (eBi ok W hF rfl rfl (by boot_by_name) (by decide)) (eAttr (eLoc ok hF rfl rfl) fun _ q => getG ok W gA Fld.pn rfl q) gA.tR.dict (by omega)) rfl ((List.length_map _).trans hRl2) (by omega)) (eCall (eBi ok W hF rfl rfl (by boot_by_name) (by decide)) (eCons (eLoc ok hF rfl rfl) eNil) (keepB ok) fun _ q => Call_lenD (eD _) (by rw [List.length_map]; omega) q) fun _ q => Cmp_nei q) (by rw [List.length_map]; simp)) (fun h => by cases h) fun _ => WSs_nil ?_)
  refine WSs_cons (sForK (eLoc ok hF rfl rfl) (eD _) fun ep => ?_)
  refine ForOnV (fun i => keySt_mono i) M.length (St5 H g.g rl na tk rk hd M a5 a6 a8 ep) ⟨none, rfl, rfl⟩ ?_ ?_
  · rintro i Q1 b1 l H' hi ⟨a9, rfl, rfl⟩
    have hx : (M.map toL)[i]? = some (M[i].1, .list M[i].2) := by rw [List.getElem?_map, List.getElem?_eq_getElem hi]; rfl
    refine ⟨.str M[i].1, Nxt_keys (eD _) (up_self _ _ _) rfl hx, tLoc ok.inl hF rfl ?_⟩
    have hi2 : i < t.tR.length := by rw [htR]; exact hi
    have hRi : (t.tR[i].1, t.tR[i].2.2.filterMap numF) = M[i] := by
      have : (mapN (tcon t.tR))[i]? = some M[i] := by rw [hmap]; exact List.getElem?_eq_getElem hi
      unfold mapN tcon at this
      rw [List.getElem?_map, List.getElem?_map, List.getElem?_eq_getElem hi2] at this
      exact Option.some.inj this
    have hk : t.tR[i].1 = M[i].1 := congrArg Prod.fst hRi
    have hv : t.tR[i].2.2.filterMap numF = M[i].2 := congrArg Prod.snd hRi
    have ht : tget t.tR t.tR[i].1 = some (t.tR[i].2.1, t.tR[i].2.2) := dget_mem (kvs := t.tR) gr.kR (List.getElem_mem hi2)
    obtain ⟨d1, d2⟩ := gr.tR.at_ ht
    rw [hk] at d1
    have hin : (!(dget (tof t.tR) M[i].1).isSome) = false := by rw [d1]; rfl
    have hnd : (M.map (·.1)).Nodup := by rw [← hkeys, tcon_keys]; exact gr.kR
    have hg : dget (M.map toL) M[i].1 = some (.list M[i].2) := by
      have hmem : (M[i].1, M[i].2) ∈ M := List.getElem_mem hi
      rw [dget_toL, mgt_mem hnd hmem]; rfl
    have eL : asL ⟨H.L, up H.D hd (M.map toL), H.P, H.S, H.I, H.C, up H.G hd ep⟩ (.ref t.tR[i].2.1) = some t.tR[i].2.2 := d2
    have hlR := x.sz.lR _ (List.getElem_mem hi2)
    have hm := x.hm
    have eDp : (⟨H.L, up H.D hd (M.map toL), H.P, H.S, H.I, H.C, up H.G hd ep⟩ : Hp).D g.pn = some (tof t.tR) := (up_ne hdn.symm).trans gr.tR.dict
    refine WSs_cons (sIf (b := false) (bConv (bOr (p := false) (q' := false) (bConv (bCmp (eLoc ok.inl hF rfl rfl) (eAttr (eLoc ok.inl hF rfl rfl) fun _ q => getG ok.inl W gA Fld.pn rfl q) fun _ q => Cmp_notInD eDp q) hin) fun _ => bCmp (hv ▸ eComp0 ok.inl [] (f := numF) (eSub (eAttr (eLoc ok.inl hF rfl rfl) fun _ q => getG ok.inl W gA Fld.pn rfl q) (eLoc ok.inl hF rfl rfl) fun _ q => Sub_dict eDp d1 q) eL (by omega) (fun C sv E okc j y hy => ?_) (closK hF rfl) (compDbg ok.inl rfl)) (eSub (eLoc ok.inl hF rfl rfl) (eLoc ok.inl hF rfl rfl) fun _ q => Sub_dict (eD _) hg q) (kNeL ok.inl rfl rfl (isD_ints (hints _ (List.getElem_mem hi))))) rfl) (fun h => by cases h) fun _ => WSs_nil (WSs_nil (b1.n ⟨_, rfl, rfl⟩)))
    obtain ⟨fs, z, rfl, hz⟩ := x.R.i (t.tR[i].1, t.tR[i].2.2) (tcon_at (List.getElem_mem hi2)) y (List.mem_of_getElem? hy)
    exact turn0 (fun _ q => tLoc okc (compF ok.inl hF) rfl q) (eAttr (eLoc okc (compF ok.inl hF) rfl rfl) fun _ q => getI okc W hz rfl q) hz
  · rintro l H' ⟨a9, rfl, rfl⟩
    refine ⟨Nxt_keys_end (ok.handled (Nat.succ_ne_zero _)) (eD _) (up_self _ _ _) rfl (by rw [List.length_map]; exact Nat.le_refl _), WSs_nil (WSs_pre (WSs_pre (WSs_cons (sRet eBool (q _))) (LocSub.refl _) (subD hh.d (gr.gn _))) (LocSub.refl _) (subG (gr.gn _)))⟩
theorem stands_call (x : Lw H g t rl na tk rk tt rs m) (ok : Ok F (n + 3)) (W : Wd (K P) F.c.base) : EvC F (.ref 301) [.ref g.g, .ref rl, .ref na, .ref tk, .ref rk] loc H (.bool true) := fun Q q => by
  refine Call_of (defP ok W ["grammar", "rules", "names", "tokens", "ranks"] (Vs := [.ref g.g, .ref rl, .ref na, .ref tk, .ref rk]) (nm := stNm) rfl rfl rfl rfl rfl rfl ?_ rfl ?_)
  · intro vs ws B r1 r2 le
    apply r2.e0
    apply r1.e5
    intro _ _ _ _ _ a b c d e
    exact ⟨[_, _, _, _, _], Looks.of_peek W.k rfl, .cons a (.cons b (.cons c (.cons d (.cons e .nil))))⟩
  · intro F' ok tp W hF
    show WSs F' _ (SL g.g rl na tk rk none none none none none) H _
    refine WSs_cons (st_told x ok W hF rfl ?_)
    refine WSs_cons (st_cmp x ok W hF rfl ?_)
    refine WSs_cons (st_toks x ok W hF rfl fun a6 => ?_)
    refine st_toks2 x ok W hF rfl fun a6 => ?_
    refine WSs_cons (sAsg ok hF rfl (WE_Dict0 fun hd hh => ?_))
    refine WSs_cons (st_heads x ok W hF hh rfl fun a8 => ?_)
    exact st_names x ok W hF hh fun l => q
end Lay.W1
end
noncomputable section
open PySem PySem.W PyProof.Rows PySem.Calls
set_option Elab.async false
set_option maxRecDepth 100000
set_option linter.all false
set_option maxHeartbeats 8000000
namespace Lay.W1
structure Ob (H : Hp) (g : GA) (t : GT) (sc rl na tk rk : Addr) (tt : Tab) (SV : V) (R : List V) (N pr : List (Str × V)) (m : Nat) : Prop where
  gr : Gr H g t
  cs : CellAt H sc (some SV)
  lR : AtL H rl R
  gR : rl ∉ GT.lists g t
  dN : AtD H na N
  gN : na ∉ g.dicts
  dP : AtD H rk pr
  gP : rk ∉ g.dicts
  dK : AtD H tk (tof tt)
  gK : tk ∉ g.dicts
  lK : ∀ e ∈ tt, AtL H e.2.1 e.2.2
  kK : ∀ a ∈ adr tt, a ∉ GT.lists g t ∧ a ≠ rl
  n1 : na ≠ tk
  n2 : na ≠ rk
  n3 : tk ≠ rk
  nk : (kys tt).Nodup
  nt : (adr tt).Nodup
  tl : (kys tt).length ≤ m
variable {H H' Hk : Hp} {g : GA} {t t' : GT} {sc rl na tk rk : Addr} {tt t1 : Tab} {SV : V} {R : List V} {N pr : List (Str × V)} {m : Nat}
theorem AtL.foot {a : Addr} {xs : List V} (h : AtL H a xs) (gr : Gr H g t) (hn : a ∉ GT.lists g t) : ¬ Lay.foot g t a := by
  rintro (z | z | z | z)
  · exact gr.ownD z h.D
  · exact hn z
  · have := gr.pm; rw [← z, h.P] at this; cases this
  · have := gr.ups; rw [← z, h.S] at this; cases this
theorem AtD.foot {d : Addr} {kvs : List (Str × V)} (h : AtD H d kvs) (gr : Gr H g t) (hn : d ∉ g.dicts) : ¬ Lay.foot g t d := by
  rintro (z | z | z | z)
  · exact hn z
  · exact gr.ownL z h.L
  · have := gr.pm; rw [← z, h.P] at this; cases this
  · have := gr.ups; rw [← z, h.S] at this; cases this
theorem Ob.adr_at (o : Ob H g t sc rl na tk rk tt SV R N pr m) {a : Addr} (ha : a ∈ adr tt) : ∃ xs, AtL H a xs := by
  obtain ⟨e, he, rfl⟩ := List.mem_map.mp ha
  exact ⟨_, o.lK e he⟩
theorem Ob.gram (o : Ob H g t sc rl na tk rk tt SV R N pr m) (gr' : Gr H' g t') (e : Ext (foot g t) H H') (w : Grown H g t t') : Ob H' g t' sc rl na tk rk tt SV R N pr m := by
  have keep : ∀ {a}, H.Own a → a ∉ GT.lists g t → a ∉ GT.lists g t' := fun ho hn hm => (w _ hm).elim hn fun hf => hf ho
  refine ⟨gr', o.cs.ext e (o.cs.foot o.gr), o.lR.ext e (o.lR.foot o.gr o.gR), keep o.lR.own o.gR, o.dN.ext e (o.dN.foot o.gr o.gN), o.gN, o.dP.ext e (o.dP.foot o.gr o.gP), o.gP, o.dK.ext e (o.dK.foot o.gr o.gK), o.gK, fun x hx => ?_, fun a ha => ?_, o.n1, o.n2, o.n3, o.nk, o.nt, o.tl⟩
  · have hl := o.lK x hx
    exact hl.ext e (hl.foot o.gr (o.kK _ (List.mem_map.mpr ⟨x, hx, rfl⟩)).1)
  · obtain ⟨xs, hl⟩ := o.adr_at ha
    exact ⟨keep hl.own (o.kK a ha).1, (o.kK a ha).2⟩
theorem Ob.st (o : Ob H g t sc rl na tk rk tt SV R N pr m) : TkSt H tk tt m (tcon tt) H tt := ⟨o.dK, o.lK, o.nk, o.nt, Ext.refl _, fun _ h => .inl h, rfl, o.gr.gn, o.tl⟩
theorem caOwn {c : Addr} {ov : Option V} (h : CellAt H c ov) : H.Own c := .inr (.inr (.inr (.inr (.inr (by rw [h.C]; simp)))))
theorem Ob.toks (o : Ob H g t sc rl na tk rk tt SV R N pr m) {m' : Nat} {T : List (Str × List V)} (s : TkSt H tk tt m' T Hk t1) : Ob Hk g t sc rl na tk rk t1 SV R N pr m' := by
  have nL : ∀ {a}, H.L a = none → H.D a = none → ¬ footK tk tt a := fun {a} hl hd z => by
    rcases z with z | z
    · rw [z, o.dK.D] at hd; cases hd
    · obtain ⟨xs, h⟩ := o.adr_at z
      rw [h.L] at hl; cases hl
  have nlist : ∀ a ∈ GT.lists g t, ¬ footK tk tt a := fun a ha z => by
    rcases z with z | z
    · exact o.gr.ownL ha (z ▸ o.dK.L)
    · exact (o.kK a z).1 ha
  have ndict : ∀ a ∈ g.dicts, ¬ footK tk tt a := fun a ha z => by
    rcases z with z | z
    · exact o.gK (z ▸ ha)
    · obtain ⟨xs, h⟩ := o.adr_at z
      exact o.gr.ownD ha h.D
  have nrl : ¬ footK tk tt rl := fun z => by
    rcases z with z | z
    · have := o.lR.L; rw [z, o.dK.L] at this; cases this
    · exact (o.kK _ z).2 rfl
  have nD : ∀ {d kvs}, AtD H d kvs → d ≠ tk → ¬ footK tk tt d := fun {d kvs} h hn z => by
    rcases z with z | z
    · exact hn z
    · obtain ⟨xs, h2⟩ := o.adr_at z
      have := h.D; rw [h2.D] at this; cases this
  have nP : ∀ {a x}, H.P a = some x → ¬ footK tk tt a := fun {a x} h z => by
    rcases z with z | z
    · rw [z, o.dK.P] at h; cases h
    · obtain ⟨xs, h2⟩ := o.adr_at z
      rw [h2.P] at h; cases h
  have nS : ∀ {a x}, H.S a = some x → ¬ footK tk tt a := fun {a x} h z => by
    rcases z with z | z
    · rw [z, o.dK.S] at h; cases h
    · obtain ⟨xs, h2⟩ := o.adr_at z
      rw [h2.S] at h; cases h
  have nI : ∀ {a x}, H.I a = some x → ¬ footK tk tt a := fun {a x} h z => by
    rcases z with z | z
    · rw [z, o.dK.I] at h; cases h
    · obtain ⟨xs, h2⟩ := o.adr_at z
      rw [h2.I] at h; cases h
  have gr' : Gr Hk g t := by
    refine o.gr.keep (fun a ha => ?_) (fun a ha => ?_) ?_ ?_ ?_ ?_ s.gn
    · exact ((s.ext a (.inl (o.gr.ownL ha))).2 (nlist a ha)).1
    · exact ((s.ext a (.inr (.inl (o.gr.ownD ha)))).2 (ndict a ha)).2.1
    · exact ((s.ext g.pm (.inr (.inr (.inl (by rw [o.gr.pm]; simp))))).2 (nP o.gr.pm)).2.2.1
    · exact ((s.ext g.ups (.inr (.inr (.inr (.inl (by rw [o.gr.ups]; simp)))))).2 (nS o.gr.ups)).2.2.2.1
    · exact ((s.ext g.g (.inr (.inr (.inr (.inr (.inl (by rw [o.gr.I]; simp))))))).2 (nI o.gr.I)).2.2.2.2.1
    · exact ((s.ext g.nm (.inr (.inr (.inr (.inr (.inl (by rw [o.gr.nI]; simp))))))).2 (nI o.gr.nI)).2.2.2.2.1
  refine ⟨gr', o.cs.ext s.ext (nL o.cs.L o.cs.D), o.lR.ext s.ext nrl, o.gR, o.dN.ext s.ext (nD o.dN o.n1), o.gN, o.dP.ext s.ext (nD o.dP (Ne.symm o.n3)), o.gP, s.ad, o.gK, s.al, fun a ha => ?_, o.n1, o.n2, o.n3, s.nk, s.na, s.len⟩
  rcases s.grown a ha with z | z
  · exact o.kK a z
  · exact ⟨o.gr.freshL z, fun e => z (e ▸ o.lR.own)⟩
theorem caUpD {c d : Addr} {ov : Option V} {y : List (Str × V)} (h : CellAt H c ov) (hn : c ≠ d) : CellAt { H with D := up H.D d y } c ov := ⟨h.C, h.L, (up_ne hn).trans h.D, h.P, h.S⟩
theorem caNeL {c a : Addr} {ov : Option V} {xs : List V} (h : CellAt H c ov) (k : AtL H a xs) : c ≠ a := fun e => by
  have := k.L; rw [← e, h.L] at this; cases this
theorem caNeD {c a : Addr} {ov : Option V} {xs : List (Str × V)} (h : CellAt H c ov) (k : AtD H a xs) : c ≠ a := fun e => by
  have := k.D; rw [← e, h.D] at this; cases this
theorem AtL.neD {a d : Addr} {xs : List V} {y : List (Str × V)} (h : AtL H a xs) (k : AtD H d y) : a ≠ d := fun e => by
  have := h.L; rw [e, k.L] at this; cases this
theorem Ob.grL (o : Ob H g t sc rl na tk rk tt SV R N pr m) {a : Addr} (hn : a ∉ GT.lists g t) (ys : List V) : Gr { H with L := up H.L a ys } g t := o.gr.keep (fun b hb => up_ne fun e => hn (e ▸ hb)) (fun _ _ => rfl) rfl rfl rfl rfl o.gr.gn
theorem Ob.setR (o : Ob H g t sc rl na tk rk tt SV R N pr m) (R' : List V) : Ob { H with L := up H.L rl R' } g t sc rl na tk rk tt SV R' N pr m :=
  ⟨o.grL o.gR R', o.cs.upL (caNeL o.cs o.lR), o.lR.set, o.gR, o.dN.upL (o.lR.neD o.dN).symm, o.gN, o.dP.upL (o.lR.neD o.dP).symm, o.gP, o.dK.upL (o.lR.neD o.dK).symm, o.gK, fun e he => (o.lK e he).upL (o.kK _ (List.mem_map.mpr ⟨e, he, rfl⟩)).2, o.kK, o.n1, o.n2, o.n3, o.nk, o.nt, o.tl⟩
theorem Ob.setN (o : Ob H g t sc rl na tk rk tt SV R N pr m) (N' : List (Str × V)) : Ob { H with D := up H.D na N' } g t sc rl na tk rk tt SV R N' pr m :=
  ⟨o.gr.putD N' o.gN, caUpD o.cs (caNeD o.cs o.dN), o.lR.upD (o.lR.neD o.dN), o.gR, o.dN.set, o.gN, o.dP.upD (Ne.symm o.n2), o.gP, o.dK.upD (Ne.symm o.n1), o.gK, fun e he => (o.lK e he).upD ((o.lK e he).neD o.dN), o.kK, o.n1, o.n2, o.n3, o.nk, o.nt, o.tl⟩
theorem Ob.setP (o : Ob H g t sc rl na tk rk tt SV R N pr m) (P' : List (Str × V)) : Ob { H with D := up H.D rk P' } g t sc rl na tk rk tt SV R N P' m :=
  ⟨o.gr.putD P' o.gP, caUpD o.cs (caNeD o.cs o.dP), o.lR.upD (o.lR.neD o.dP), o.gR, o.dN.upD o.n2, o.gN, o.dP.set, o.gP, o.dK.upD o.n3, o.gK, fun e he => (o.lK e he).upD ((o.lK e he).neD o.dP), o.kK, o.n1, o.n2, o.n3, o.nk, o.nt, o.tl⟩
theorem Ob.setK (o : Ob H g t sc rl na tk rk tt SV R N pr m) {k : Str} {a : Addr} {xs : List V} (e : tget tt k = some (a, xs)) (v : V) : Ob { H with L := up H.L a (xs ++ [v]) } g t sc rl na tk rk (tset tt a (xs ++ [v])) SV R N pr m ∧ tcon (tset tt a (xs ++ [v])) = addUse (tcon tt) k v := by
  have hm := tget_mem e
  have hl := o.lK _ hm
  have ha : a ∈ adr tt := List.mem_map.mpr ⟨_, hm, rfl⟩
  refine ⟨⟨o.grL (o.kK a ha).1 _, o.cs.upL (caNeL o.cs hl), o.lR.upL (o.kK a ha).2.symm, o.gR, o.dN.upL (hl.neD o.dN).symm, o.gN, o.dP.upL (hl.neD o.dP).symm, o.gP, by rw [tof_tset]; exact o.dK.upL (hl.neD o.dK).symm, o.gK, fun x hx => ?_, by rw [adr_tset]; exact o.kK, o.n1, o.n2, o.n3, by rw [kys_tset]; exact o.nk, by rw [adr_tset]; exact o.nt, by rw [kys_tset]; exact o.tl⟩, tcon_use o.nk o.nt e⟩
  obtain ⟨y, hy, rfl⟩ := List.mem_map.mp hx
  split
  · rename_i h; exact hl.set
  · rename_i h; exact (o.lK y hy).upL h
end Lay.W1
end
noncomputable section
open PySem PySem.W PyProof.Rows PySem.Calls
set_option Elab.async false
set_option maxRecDepth 100000
set_option linter.all false
set_option maxHeartbeats 8000000
namespace Lay.W1
noncomputable def SzC (c : Nat) (m : List (Str × List V)) : Prop := m.length ≤ c ∧ ∀ p ∈ m, p.2.length ≤ c
theorem SzC.mono {c c' : Nat} {m : List (Str × List V)} (h : SzC c m) (k : c ≤ c') : SzC c' m := ⟨Nat.le_trans h.1 k, fun p hp => Nat.le_trans (h.2 p hp) k⟩
theorem SzC.key {c : Nat} {m : List (Str × List V)} (h : SzC c m) (k : Str) : SzC (c + 1) (addKey m k) := by
  unfold addKey
  split
  · exact h.mono (Nat.le_succ c)
  · refine ⟨by rw [List.length_append]; exact Nat.succ_le_succ h.1, fun p hp => ?_⟩
    rcases List.mem_append.mp hp with hp | hp
    · exact Nat.le_succ_of_le (h.2 p hp)
    · rw [List.mem_singleton] at hp; subst hp; exact Nat.zero_le _
theorem SzC.use {c : Nat} {m : List (Str × List V)} (h : SzC c m) (k : Str) (v : V) : SzC (c + 1) (addUse m k v) := by
  refine ⟨by rw [addUse_len]; exact Nat.le_succ_of_le h.1, fun p hp => ?_⟩
  obtain ⟨q, hq, rfl⟩ := List.mem_map.mp hp
  split
  · rw [List.length_append]; exact Nat.succ_le_succ (h.2 q hq)
  · exact Nat.le_succ_of_le (h.2 q hq)
theorem SzC.read : ∀ {l : List Str} {T : List (Str × List V)} {c : Nat}, SzC c T → SzC (c + l.length) (readT T l)
  | [], _, _, h => h
  | s :: r, T, c, h => by
    show SzC (c + (r.length + 1)) (if kd s = some none then T else readT (st1 T s) r)
    split
    · exact h.mono (Nat.le_add_right _ _)
    · have : SzC (c + 1) (st1 T s) := by
        unfold st1
        split
        · exact h.key _
        · exact h.mono (Nat.le_succ c)
      have := SzC.read (l := r) this
      rw [show c + (r.length + 1) = c + 1 + r.length by omega]; exact this
theorem SzC.tok {T : List (Str × List V)} {c : Nat} (h : SzC c T) (hd : Str) (l : List Str) : SzC (c + l.length) (tokT T hd l) := by
  unfold tokT
  split
  · exact h.mono (Nat.le_add_right _ _)
  · exact h.read
theorem AllI.read : ∀ {l : List Str} {T : List (Str × List V)}, AllI T → AllI (readT T l)
  | [], _, h => h
  | s :: r, T, h => by
    show AllI (if kd s = some none then T else readT (st1 T s) r)
    split
    · exact h
    · have : AllI (st1 T s) := by
        unfold st1
        split
        · exact h.key _
        · exact h
      exact AllI.read this
theorem AllI.tok {T : List (Str × List V)} (h : AllI T) (hd : Str) (l : List Str) : AllI (tokT T hd l) := by
  unfold tokT
  split
  · exact h
  · exact h.read
theorem readT_keys : ∀ {l : List Str} {T : List (Str × List V)} {k : Str}, k ∈ T.map (·.1) → k ∈ (readT T l).map (·.1)
  | [], _, _, h => h
  | s :: r, T, k, h => by
    show k ∈ (if kd s = some none then T else readT (st1 T s) r).map (·.1)
    split
    · exact h
    · refine readT_keys ?_
      unfold st1
      split
      · unfold addKey
        split
        · exact h
        · rw [List.map_append]; exact List.mem_append_left _ h
      · exact h
theorem tokT_keys {T : List (Str × List V)} {k h : Str} {l : List Str} (hk : k ∈ T.map (·.1)) : k ∈ (tokT T h l).map (·.1) := by
  unfold tokT
  split
  · exact hk
  · exact readT_keys hk
theorem useAll_sz : ∀ {l : List Str} {T N : List (Str × List V)} {c : Nat} {v : V}, SzC c T → SzC c N → SzC (c + 2 * l.length) (useAll v (T, N) l).1 ∧ SzC (c + 2 * l.length) (useAll v (T, N) l).2
  | [], _, _, _, _, h1, h2 => ⟨h1, h2⟩
  | s :: r, T, N, c, v, h1, h2 => by
    have e : useAll v (T, N) (s :: r) = (if s ∈ T.map (·.1) then useAll v (addUse T s v, N) r else useAll v (T, addUse (addKey N s) s v) r) := rfl
    rw [e, show c + 2 * (s :: r).length = c + 2 + 2 * r.length by rw [List.length_cons]; omega]
    split
    · exact useAll_sz ((h1.use s v).mono (Nat.le_succ _)) (h2.mono (by omega))
    · exact useAll_sz (h1.mono (by omega)) ((h2.key s).use s v)
theorem useAll_int : ∀ {l : List Str} {T N : List (Str × List V)} {i : Int}, AllI T → AllI N → AllI (useAll (.int i) (T, N) l).1 ∧ AllI (useAll (.int i) (T, N) l).2
  | [], _, _, _, h1, h2 => ⟨h1, h2⟩
  | s :: r, T, N, i, h1, h2 => by
    have e : useAll (.int i) (T, N) (s :: r) = (if s ∈ T.map (·.1) then useAll (.int i) (addUse T s (.int i), N) r else useAll (.int i) (T, addUse (addKey N s) s (.int i)) r) := rfl
    rw [e]
    split
    · exact useAll_int (h1.use s i) h2
    · exact useAll_int h1 ((h2.key s).use s i)
theorem useAll_keys : ∀ {l : List Str} {T N : List (Str × List V)} {v : V}, (useAll v (T, N) l).1.map (·.1) = T.map (·.1)
  | [], _, _, _ => rfl
  | s :: r, T, N, v => by
    have e : useAll v (T, N) (s :: r) = (if s ∈ T.map (·.1) then useAll v (addUse T s v, N) r else useAll v (T, addUse (addKey N s) s v) r) := rfl
    rw [e]
    split
    · rw [useAll_keys, addUse_keys]
    · exact useAll_keys
structure Cn (t : GT) (tt : Tab) (rs : List Rl) (m : Nat) : Prop where
  tc : tcon tt = tcon t.tT
  ps : ∃ p0 is, t.ps = p0 :: is ∧ InsOk 1 rs is
  pm : t.pm = pmOf rs
  R : RR (tcon t.tR) rs
  iT : AllI (tcon t.tT)
  iN : AllI (tcon t.tN)
  pv : ∀ r ∈ rs, PvOk r.2.2
  prv : ∀ p ∈ t.pr, PvOk p.2
  prn : (t.pr.map (·.1)).Nodup
  zT : SzC m (tcon t.tT)
  zN : SzC m (tcon t.tN)
  zR : SzC m (tcon t.tR)
  zp : t.ps.length ≤ m
  zm : t.pm.length ≤ m
  sl : ∀ r ∈ rs, r.2.1.length ≤ 10
  hp : t.pr.length ≤ 8
  eT : Str.ofString "error" ∈ (tcon t.tT).map (·.1)
theorem Cn.sz {t : GT} {tt : Tab} {rs : List Rl} {m : Nat} (c : Cn t tt rs m) : Sz m t := by
  have l : ∀ {x : Tab}, SzC m (tcon x) → (kys x).length ≤ m ∧ ∀ e ∈ x, e.2.2.length ≤ m := fun {x} h => ⟨by rw [← tcon_keys, List.length_map]; exact h.1, fun e he => h.2 _ (tcon_at (k := e.1) (a := e.2.1) (xs := e.2.2) he)⟩
  exact ⟨(l c.zT).1, (l c.zN).1, (l c.zR).1, (l c.zT).2, (l c.zN).2, (l c.zR).2, c.zp, c.zm⟩
theorem Cn.ps_len {t : GT} {tt : Tab} {rs : List Rl} {m : Nat} (c : Cn t tt rs m) : t.ps.length = rs.length + 1 := by
  obtain ⟨p0, is, e, h⟩ := c.ps
  rw [e, List.length_cons, h.len]
variable {H Hk H' : Hp} {g : GA} {t t' : GT} {tt t1 : Tab} {rs : List Rl} {m : Nat} {h : Str} {b : List Str} {tl : Option (List Str)}
theorem Cn.refused (c : Cn t tt rs m) (hl : (rowOf b tl).length ≤ 20) (e1 : tcon t1 = tokT (tcon tt) h (rowOf b tl)) (er : ApEr Hk g t (tokT (tcon t.tT) h (rowOf b tl)) H' t') : Cn t' t1 rs (m + 20) := by
  have hT : SzC (m + 20) (tokT (tcon t.tT) h (rowOf b tl)) := (c.zT.tok h (rowOf b tl)).mono (by omega)
  refine ⟨by rw [e1, er.T, c.tc], by rw [er.ps]; exact c.ps, er.pm.trans c.pm, by rw [er.R]; exact c.R, by rw [er.T]; exact c.iT.tok _ _, by rw [er.N]; exact c.iN, c.pv, by rw [er.pr]; exact c.prv, by rw [er.pr]; exact c.prn, by rw [er.T]; exact hT, by rw [er.N]; exact c.zN.mono (by omega), by rw [er.R]; exact c.zR.mono (by omega), by rw [er.ps]; exact Nat.le_trans c.zp (by omega), by rw [er.pm]; exact Nat.le_trans c.zm (by omega), c.sl, by rw [er.pr]; exact c.hp, by rw [er.T]; exact tokT_keys c.eT⟩
theorem preP_pv {T : List (Str × List V)} {pr : List (Str × V)} {B : List Str} {TL : Option (List Str)} {x : List Str × V} (hpr : ∀ p ∈ pr, PvOk p.2) (h : preP T pr B TL = some x) : x.1 = B ∧ PvOk x.2 := by
  have hd : ∀ {w pv}, dget pr w = some pv → PvOk pv := fun {w pv} e => by
    unfold dget at e
    obtain ⟨p, hp, rfl⟩ := Option.map_eq_some_iff.mp e
    exact hpr p (List.mem_of_find?_eq_some hp)
  have h0 : PvOk (.tup [.str (Str.ofString "right"), .int 0]) := ⟨_, _, rfl⟩
  match TL, h with
  | none, h =>
    cases h
    refine ⟨rfl, ?_⟩
    show PvOk (precOf pr (rm (fun s => decide (s ∈ T.map (·.1))) B))
    cases rm (fun s => decide (s ∈ T.map (·.1))) B with
    | none => exact h0
    | some k =>
      show PvOk ((dget pr k).getD _)
      cases e : dget pr k with
      | none => exact h0
      | some pv => exact hd e
  | some [w], h =>
    obtain ⟨pv, h1, rfl⟩ := Option.map_eq_some_iff.mp h
    exact ⟨rfl, hd h1⟩
theorem taken_pv {T : List (Str × List V)} {pr : List (Str × V)} {pm : List (Str × List Str)} {x : List Str × V} (hpr : ∀ p ∈ pr, PvOk p.2) (e : taken T pr pm h b tl = some x) : x.1 = b.map bs ∧ PvOk x.2 ∧ badIn (rowOf b tl) = false ∧ h ∉ T.map (·.1) := by
  unfold taken at e
  split at e
  · cases e
  · rename_i h1
    split at e
    · cases e
    · rename_i h2
      unfold takenP at e
      obtain ⟨y, h3, h4⟩ := Option.bind_eq_some_iff.mp e
      split at h4
      · cases h4
      · cases h4
        obtain ⟨h5, h6⟩ := preP_pv hpr h3
        exact ⟨h5, h6, by simpa using h2, h1⟩
theorem Cn.taken (c : Cn t tt rs m) (ro : RowOk b tl) {syms : List Str} {pv : V} {fs : List (Str × V)} {t2 : Tab} (tk : taken (tcon t.tT) t.pr t.pm h b tl = some (syms, pv)) (hpr : t'.pr = t.pr) (pf : PrF fs (t.ps.length : Nat) h syms pv) (hps : t'.ps = t.ps ++ [.inst 68 fs]) (hpm : t'.pm = t.pm ++ [(h, syms)])
    (hu : (tcon t'.tT, tcon t'.tN) = useAll (.int (t.ps.length : Nat)) (tokT (tcon t.tT) h (rowOf b tl), addKey (tcon t.tN) h) syms) (hR : tcon t'.tR = addUse (addKey (tcon t.tR) h) h (.inst 68 fs)) (e2 : tcon t2 = tcon t'.tT) : Cn t' t2 (rs ++ [(h, syms, pv)]) (m + 60) := by
  have hl := row_len ro
  obtain ⟨t1', t2', _, _⟩ := taken_pv c.prv tk
  dsimp only at t1' t2'
  have hsl : syms.length ≤ 10 := by rw [t1', List.length_map]; exact ro.hb
  have hT : SzC (m + 21) (tokT (tcon t.tT) h (rowOf b tl)) := (c.zT.tok h (rowOf b tl)).mono (by omega)
  have hN : SzC (m + 21) (addKey (tcon t.tN) h) := (c.zN.key h).mono (by omega)
  have hsz := useAll_sz (l := syms) (v := .int (t.ps.length : Nat)) hT hN
  have hin := useAll_int (l := syms) (i := (t.ps.length : Nat)) (c.iT.tok h (rowOf b tl)) (c.iN.key h)
  have hky := useAll_keys (l := syms) (T := tokT (tcon t.tT) h (rowOf b tl)) (N := addKey (tcon t.tN) h) (v := .int (t.ps.length : Nat))
  rw [← hu] at hsz hin hky
  have hlen := c.ps_len
  rw [hlen] at pf
  have zz : m + 21 + 2 * syms.length ≤ m + 60 := by omega
  refine ⟨e2, ?_, ?_, ?_, hin.1, hin.2, ?_, by rw [hpr]; exact c.prv, by rw [hpr]; exact c.prn, hsz.1.mono zz, hsz.2.mono zz, ?_, ?_, ?_, ?_, by rw [hpr]; exact c.hp, ?_⟩
  · obtain ⟨p0, is, e, hi⟩ := c.ps
    exact ⟨p0, is ++ [.inst 68 fs], by rw [hps, e]; rfl, hi.snoc (by rw [Nat.add_comm 1]; exact pf)⟩
  · rw [hpm, c.pm]; unfold pmOf; rw [List.map_append]; rfl
  · rw [hR]; exact c.R.snoc (r := (h, syms, pv)) pf.2.2.1
  · intro r hr
    rcases List.mem_append.mp hr with hr | hr
    · exact c.pv r hr
    · rw [List.mem_singleton] at hr; subst hr; exact t2'
  · rw [hR]; exact ((c.zR.key h).use h _).mono (by omega)
  · rw [hps, List.length_append]; have := c.zp; show t.ps.length + 1 ≤ _; omega
  · rw [hpm, List.length_append]; have := c.zm; show t.pm.length + 1 ≤ _; omega
  · intro r hr
    rcases List.mem_append.mp hr with hr | hr
    · exact c.sl r hr
    · rw [List.mem_singleton] at hr; subst hr; exact hsl
  · rw [hky]; exact tokT_keys c.eT
end Lay.W1
end
noncomputable section
open PySem PySem.W PyProof.Rows PySem.Calls
set_option Elab.async false
set_option maxRecDepth 100000
set_option linter.all false
set_option maxHeartbeats 8000000
namespace Lay.W1
variable {P : Params} {F : Fx} {n : Nat} {loc : Loc} {H : Hp}
noncomputable abbrev lawNm : List (Str × NameKind) := [("script", .cell), ("k", .local), ("mix", .local), ("grammar", .local), ("ranks", .local), ("rules", .local), ("names", .local), ("tokens", .local), ("word", .local), ("kind", .local), ("refused", .local), ("number", .local), ("head", .local), ("row", .local), ("rule", .local), ("sign", .local), ("start", .local), ("first", .local), ("sum", .globalImplicit), ("range", .globalImplicit), ("len", .globalImplicit), ("Grammar", .globalImplicit), ("_law_ranked", .globalImplicit), ("_law_kinds", .globalImplicit), ("GrammarError", .globalImplicit), ("_law_row", .globalImplicit), ("_law_taken", .globalImplicit), ("list", .globalImplicit), ("_law_stands", .globalImplicit)]
noncomputable def LL (a1 a2 : Option V) (g rk rl na tk : Addr) (a8 a9 a10 a11 a12 a13 a14 a15 a16 a17 : Option V) : Loc := [none, a1, a2, some (.ref g), some (.ref rk), some (.ref rl), some (.ref na), some (.ref tk), a8, a9, a10, a11, a12, a13, a14, a15, a16, a17, none, none, none, none, none, none, none, none, none, none, none]
noncomputable def forB : Option Stmt → List Stmt
  | some (.For _ _ b _ _) => b
  | _ => []
noncomputable def ifB : Option Stmt → List Stmt
  | some (.If _ b _ _) => b
  | _ => []
variable {g : GA} {t : GT} {sc rl na tk rk : Addr} {tt : Tab} {SV : V} {R : List V} {N pr : List (Str × V)} {m : Nat}
inductive Us1 (g : GA) (t : GT) (sc rl na tk rk : Addr) (SV : V) (R : List V) (pr : List (Str × V)) (m : Nat) (u0 : List (Str × List V) × List (Str × List V)) (v : V) (syms : List Str) (L : Option V → Loc) (i : Nat) (l : Loc) (H' : Hp) : Prop
  | mk (tt' : Tab) (N' : List (Str × List V)) (a15 : Option V) (_ : Ob H' g t sc rl na tk rk tt' SV R (N'.map toL) pr m) (_ : (tcon tt', N') = useAll v u0 (syms.take i)) (_ : (N'.map (·.1)).Nodup) (_ : ∀ p ∈ tcon tt', p.2.length ≤ 500 + i) (_ : N'.length ≤ 500 + i ∧ ∀ p ∈ N', p.2.length ≤ 500 + i) (_ : l = L a15) : Us1 g t sc rl na tk rk SV R pr m u0 v syms L i l H'
theorem addUse_nodup {m : List (Str × List V)} {k : Str} {v : V} (h : (m.map (·.1)).Nodup) : ((addUse m k v).map (·.1)).Nodup := by rw [addUse_keys]; exact h
theorem uses_loop (ok : Ok F (n + 2)) (W : Wd (K P) F.c.base) (hF : FrameIs F lawNm [("script", sc)]) {T0 N0 : List (Str × List V)} {h : Str} {syms : List Str} {pv : V} {j : Nat} {a1 a2 a8 a9 a10 a11 a12 a13 a15 a16 a17 : Option V} {st : Stmt} {Q : Fl → Loc → Hp → Prop} (hst : (ifB (forB ((fnB (ta 18))[8]?))[5]?)[2]? = some st)
    (o : Ob H g t sc rl na tk rk tt SV R (N0.map toL) pr m) (hT : tcon tt = T0) (hn : (N0.map (·.1)).Nodup) (zT : ∀ p ∈ T0, p.2.length ≤ 500) (zN : N0.length ≤ 500 ∧ ∀ p ∈ N0, p.2.length ≤ 500) (hz : syms.length ≤ 10)
    (q : ∀ tt' N' a15 H', Ob H' g t sc rl na tk rk tt' SV R (N'.map toL) pr m → (tcon tt', N') = useAll (.int j) (T0, N0) syms → Q .next (LL a1 a2 g.g rk rl na tk a8 a9 a10 a11 a12 a13 (some (ru4 j (h, syms, pv))) a15 a16 a17) H') :
    WS F st (LL a1 a2 g.g rk rl na tk a8 a9 a10 a11 a12 a13 (some (ru4 j (h, syms, pv))) a15 a16 a17) H Q := by
  cases hst
  subst hT
  refine sForL (eSub (eLoc ok hF rfl rfl) eInt (uTup (j := 2) rfl)) rfl ?_
  refine ForOnV (fun i => lstSt_mono i) syms.length (Us1 g t sc rl na tk rk SV R pr m (tcon tt, N0) (.int j) syms (fun a15 => LL a1 a2 g.g rk rl na tk a8 a9 a10 a11 a12 a13 (some (ru4 j (h, syms, pv))) a15 a16 a17)) ⟨tt, N0, a15, o, rfl, hn, zT, zN, rfl⟩ ?_ ?_
  · rintro i Q1 b1 l H' hi ⟨tt', N', a15, o', hu, hn', zT', zN', rfl⟩
    refine ⟨.str syms[i], Nxt_list (xs := syms.map .str) rfl (by simp [hi]), tLoc ok.inl hF rfl ?_⟩
    have htake : syms.take (i + 1) = syms.take i ++ [syms[i]] := take_snoc hi
    refine WSs_cons (sIf (bConv (bCmp (eLoc ok.inl hF rfl rfl) (eLoc ok.inl hF rfl rfl) fun _ q => Cmp_inD o'.dK.D q) (isSome_kys _)) (fun hk => ?_) fun hk => ?_)
    · have hk := of_decide_eq_true hk
      obtain ⟨a, xs, e⟩ := tget_some (by rw [← tcon_keys]; exact hk)
      have e1 : dget (tof tt') syms[i] = some (.ref a) := by rw [dget_tof, e]; rfl
      have hl : AtL H' a xs := o'.lK _ (tget_mem e)
      obtain ⟨o2, c2⟩ := o'.setK e (.int (j : Int))
      have hxz : xs.length ≤ 500 + i := zT' _ (tcon_at (tget_mem e))
      refine WSs_cons (sApp ok.inl (eSub (eLoc ok.inl hF rfl rfl) (eLoc ok.inl hF rfl rfl) fun _ q => Sub_dict o'.dK.D e1 q) hl.L (eSub (eLoc ok.inl hF rfl rfl) eInt (uTup (j := 0) rfl)) (by omega) (WSs_nil (WSs_nil (b1.n ⟨_, N', _, o2, ?_, hn', ?_, ⟨by omega, fun p hp => by have := zN'.2 p hp; omega⟩, rfl⟩))))
      · rw [htake, useAll_snoc, ← hu, c2]
        exact (if_pos hk).symm
      · rw [c2]
        intro p hp
        obtain ⟨q, hq, rfl⟩ := List.mem_map.mp hp
        have := zT' q hq
        split
        · rw [List.length_append]; show q.2.length + 1 ≤ _; omega
        · omega
    · have hk := of_decide_eq_false hk
      have eD := o'.dN.D
      have hxs : ((mgt N' syms[i]).getD []).length ≤ 500 + i := by
        cases e2 : mgt N' syms[i] with
        | none => exact Nat.zero_le _
        | some xs => exact zN'.2 _ (mgt_in e2)
      refine WSs_cons (WS_AssignT (goE (eAddF (ys := [.int (j : Int)]) (eIf (X := .list ((mgt N' syms[i]).getD [])) (bCmp (eLoc ok.inl hF rfl rfl) (eLoc ok.inl hF rfl rfl) fun _ q => Cmp_inD eD q) (fun e => ?_) fun e => ?_) (eListF (eCons (eSub (eLoc ok.inl hF rfl rfl) eInt (uTup (j := 0) rfl)) eNil)) rfl rfl (by simp; omega)) (WA_sub (gLoc ok.inl hF rfl rfl (gLoc ok.inl hF rfl rfl (Set_dict eD (o'.gr.gn _) (by rw [List.length_map]; omega) (WSs_nil (WSs_nil (b1.n ⟨tt', addUse (addKey N' syms[i]) syms[i] (.int j), _, ?_, ?_, addUse_nodup (addKey_nodup hn'), fun p hp => by have := zT' p hp; omega, ?_, rfl⟩)))))))))
      · rw [dget_toL] at e
        cases e2 : mgt N' syms[i] with
        | none => rw [e2] at e; cases e
        | some xs => exact eSub (eLoc ok.inl hF rfl rfl) (eLoc ok.inl hF rfl rfl) fun _ q => Sub_dict eD (by rw [dget_toL, e2]; rfl) q
      · rw [dget_toL] at e
        cases e2 : mgt N' syms[i] with
        | none => exact eListF eNil
        | some xs => rw [e2] at e; cases e
      · rw [dput_use hn']
        exact o'.setN _
      · rw [htake, useAll_snoc, ← hu]
        exact (if_neg hk).symm
      · have h1 : SzC (500 + i) N' := zN'
        have h2 : SzC (500 + i + 1) (addUse (addKey N' syms[i]) syms[i] (.int j)) := by
          refine ⟨by rw [addUse_len]; exact (h1.key _).1, fun p hp => ?_⟩
          obtain ⟨q, hq, rfl⟩ := List.mem_map.mp hp
          have hq2 : q.2.length ≤ 500 + i := by
            unfold addKey at hq
            split at hq
            · exact h1.2 q hq
            · rcases List.mem_append.mp hq with hq | hq
              · exact h1.2 q hq
              · rw [List.mem_singleton] at hq; subst hq; exact Nat.zero_le _
          split
          · rw [List.length_append]; exact Nat.succ_le_succ hq2
          · exact Nat.le_succ_of_le hq2
        exact h2
  · rintro l H' ⟨tt', N', a15, o', hu, hn', _, _, rfl⟩
    rw [List.take_length] at hu
    exact ⟨Nxt_list_end (xs := syms.map .str) (ok.handled (Nat.succ_ne_zero _)) rfl (by rw [List.length_map]; exact Nat.le_refl _), WSs_nil (q _ _ _ _ o' hu)⟩
end Lay.W1
end
noncomputable section
open PySem PySem.W PyProof.Rows PySem.Calls
set_option Elab.async false
set_option maxRecDepth 100000
set_option linter.all false
set_option maxHeartbeats 8000000
namespace Lay.W1
variable {P : Params} {F : Fx} {n : Nat} {loc : Loc} {H : Hp}
variable {g : GA} {t : GT} {sc rl na tk rk : Addr} {tt : Tab} {SV : V} {rs : List Rl} {m c : Nat}
structure Bd (H : Hp) (g : GA) (t : GT) (sc rl na tk rk : Addr) (tt : Tab) (SV : V) (rs : List Rl) (m c : Nat) : Prop where
  ob : Ob H g t sc rl na tk rk tt SV (ruV 1 rs) ((tcon t.tN).map toL) t.pr m
  cn : Cn t tt rs m
  hr : rs.length ≤ c
  up : t.ups.2 ≤ c
  st : t.start = .none
  p0 : t.ps[0]? = some .none
  hd : ∀ r ∈ rs, r.1.length ≤ 1000
theorem Bd.lw (b : Bd H g t sc rl na tk rk tt SV rs m c) (hm : m ≤ 900) (hc : c ≤ 8) : Lw H g t rl na tk rk tt rs m :=
  ⟨b.ob.gr, b.ob.st, b.cn.tc, b.ob.lR.L, b.ob.dN.D, b.ob.dP.D, b.cn.ps, b.cn.pm, b.cn.R, b.cn.iT, b.cn.iN, b.cn.pv, b.cn.prv, b.cn.prn, b.cn.sz, hm, Nat.le_trans b.hr hc, b.cn.sl, b.cn.hp, Nat.le_trans b.up (Nat.le_trans hc (by decide))⟩
structure Done (Hk : Hp) (g : GA) (t : GT) (h : Str) (b : List Str) (tl : Option (List Str)) (syms : List Str) (pv : V) (t' : GT) (fs : List (Str × V)) : Prop where
  tk : taken (tcon t.tT) t.pr t.pm h b tl = some (syms, pv)
  pr : t'.pr = t.pr
  st : t'.start = t.start
  up : t'.ups.2 ≤ t.ups.2 + 1
  pf : PrF fs (t.ps.length : Nat) h syms pv
  ps : t'.ps = t.ps ++ [.inst 68 fs]
  pm : t'.pm = t.pm ++ [(h, syms)]
  us : (tcon t'.tT, tcon t'.tN) = useAll (.int (t.ps.length : Nat)) (tokT (tcon t.tT) h (rowOf b tl), addKey (tcon t.tN) h) syms
  R : tcon t'.tR = addUse (addKey (tcon t.tR) h) h (.inst 68 fs)
inductive Tr1 (Hk : Hp) (g : GA) (t : GT) (sc rl na tk rk : Addr) (t1 : Tab) (SV : V) (R : List V) (N : List (Str × V)) (m : Nat) (h : Str) (b : List Str) (tl : Option (List Str)) (L : Option V → Loc) (l : Loc) (H' : Hp) : Prop
  | ok (t' : GT) (fs : List (Str × V)) (syms : List Str) (pv : V) (_ : Done Hk g t h b tl syms pv t' fs) (_ : Ob H' g t' sc rl na tk rk t1 SV R N t.pr m) (_ : l = L (some (.bool false))) : Tr1 Hk g t sc rl na tk rk t1 SV R N m h b tl L l H'
  | no (t' : GT) (_ : taken (tcon t.tT) t.pr t.pm h b tl = none) (_ : ApEr Hk g t (tokT (tcon t.tT) h (rowOf b tl)) H' t') (_ : Ob H' g t' sc rl na tk rk t1 SV R N t.pr m) (_ : l = L (some (.bool true))) : Tr1 Hk g t sc rl na tk rk t1 SV R N m h b tl L l H'
theorem try_add (ok : Ok F (n + 6)) (tp : Top F) (W : Wd (K P) F.c.base) (hF : FrameIs F lawNm [("script", sc)]) {Hk : Hp} {t1 : Tab} {R : List V} {N : List (Str × V)} {h : Str} {b : List Str} {tl : Option (List Str)} {a1 a2 a8 a9 a11 a14 a15 a16 a17 : Option V} {st : Stmt} {Q : Fl → Loc → Hp → Prop} (hst : (forB ((fnB (ta 18))[8]?))[3]? = some st)
    (o : Ob Hk g t sc rl na tk rk t1 SV R N t.pr m) (cn : Cn t tt rs m') (hm : m' ≤ 800) (hup : t.ups.2 ≤ 100) (ro : RowOk b tl)
    (q : ∀ l H', Tr1 Hk g t sc rl na tk rk t1 SV R N m h b tl (fun r => LL a1 a2 g.g rk rl na tk a8 a9 r a11 (some (.str h)) (some (.list ((rowOf b tl).map .str))) a14 a15 a16 a17) l H' → Q .next l H') :
    WS F st (LL a1 a2 g.g rk rl na tk a8 a9 (some (.bool false)) a11 (some (.str h)) (some (.list ((rowOf b tl).map .str))) a14 a15 a16 a17) Hk Q := by
  cases hst
  have hzr : ((rowOf b tl).map V.str).length ≤ 1000000 := by rw [List.length_map]; exact Nat.le_trans (row_len ro) (by decide)
  refine WS_Try (cls := .ref 89) (tv := .ref 89) ok tp (fun l H' => l = LL a1 a2 g.g rk rl na tk a8 a9 (some (.bool false)) a11 (some (.str h)) (some (.list ((rowOf b tl).map .str))) a14 a15 a16 a17 ∧ taken (tcon t.tT) t.pr t.pm h b tl = none ∧ ∃ t', ApEr Hk g t (tokT (tcon t.tT) h (rowOf b tl)) H' t') (fun f q => hm_own (exc89 W) f q) (fun e E l H ok' => gGlob ok' W hF rfl rfl (.ref 89) ⟨rfl, rfl, fun B v r => by cases r; rfl⟩) ?_ ?_
  · intro lo E okb tpb acc
    refine WSs_cons (sExpr okb (WE_CallM (gLoc okb hF rfl rfl (getGM (f := 135) okb W o.gr (by decide) (WEs_cons (gLoc okb hF rfl rfl (WEs_cons (WE_CallN (gBi okb W hF rfl rfl (by boot_by_name) (by decide) (WEs_cons (gLoc okb hF rfl rfl (WEs_nil ⟨keepB okb, Call_list (.inl rfl) hzr fun a ha => WEs_nil ⟨keepK okb W, ?_⟩⟩))))))))))))
    refine Call_ofE (F := F.tryF lo E) (ap_call (F := F.tryF lo E) (n := n + 1) okb W o.gr ro (by rw [← tcon_keys]; exact cn.eT) (fun w X e => ?_) (cn.sz.mono (Nat.le_trans hm (by decide))) hup ha (PX := fun H' => taken (tcon t.tT) t.pr t.pm h b tl = none ∧ ∃ t', ApEr Hk g t (tokT (tcon t.tT) h (rowOf b tl)) H' t') (fun e t' H' er => ⟨e, t', er⟩) fun syms pv e t' H' fs q1 q2 q3 q4 q5 q6 q7 q8 q9 q10 q11 => WSs_nil (q _ _ (.ok t' fs syms pv ⟨e, q4, q5, q6, q7, q8, q9, q10, q11⟩ (o.gram q1 q2 q3) rfl))) acc fun H' hx => ⟨rfl, hx⟩
    unfold dget at e
    obtain ⟨p, hp, rfl⟩ := Option.map_eq_some_iff.mp e
    exact cn.prv p (List.mem_of_find?_eq_some hp)
  · rintro e E l H' okh ⟨rfl, e1, t', er⟩
    exact WSs_cons (sA okh hF rfl eBool (WSs_nil (q _ _ (.no t' e1 er (o.gram er.gr er.ext er.grown) rfl))))
end Lay.W1
end
noncomputable section
open PySem PySem.W PyProof.Rows PySem.Calls
set_option Elab.async false
set_option maxRecDepth 100000
set_option linter.all false
set_option maxHeartbeats 8000000
namespace Lay.W1
variable {P : Params} {F : Fx} {n : Nat} {loc : Loc} {H : Hp}
variable {g : GA} {t : GT} {sc rl na tk rk : Addr} {tt : Tab} {SV : V} {rs : List Rl} {m c : Nat}
theorem Ob.nR {R : List V} {N pr : List (Str × V)} (o : Ob H g t sc rl na tk rk tt SV R N pr m) : ¬ footK tk tt rl := fun z => by
  rcases z with z | z
  · have := o.lR.L; rw [z, o.dK.L] at this; cases this
  · exact (o.kK _ z).2 rfl
theorem Ob.nP {R : List V} {N pr : List (Str × V)} (o : Ob H g t sc rl na tk rk tt SV R N pr m) : ¬ footK tk tt rk := fun z => by
  rcases z with z | z
  · exact o.n3 z.symm
  · obtain ⟨xs, h⟩ := o.adr_at z
    have := o.dP.D; rw [h.D] at this; cases this
inductive Hd1 (g : GA) (t : GT) (sc rl na tk rk : Addr) (tt : Tab) (SV : V) (R : List V) (N : List (Str × V)) (pr : List (Str × V)) (m : Nat) (L : Loc) (l : Loc) (H' : Hp) : Prop
  | mk (_ : Ob H' g t sc rl na tk rk tt SV R N pr m) (_ : l = L) : Hd1 g t sc rl na tk rk tt SV R N pr m L l H'
inductive Wr1 (g : GA) (sc rl na tk rk : Addr) (SV : V) (m c : Nat) (L : Option V → Loc) (l : Loc) (H' : Hp) : Prop
  | mk (t' : GT) (tt' : Tab) (rs' : List Rl) (a15 : Option V) (_ : Bd H' g t' sc rl na tk rk tt' SV rs' m c) (_ : l = L a15) : Wr1 g sc rl na tk rk SV m c L l H'
theorem turn (ok : Ok F (n + 6)) (tp : Top F) (W : Wd (K P) F.c.base) (hF : FrameIs F lawNm [("script", sc)]) {num : Int} {a1 a2 a8 a9 a10 a12 a13 a14 a15 a16 a17 : Option V} {Q : Fl → Loc → Hp → Prop} (bd : Bd H g t sc rl na tk rk tt SV rs m c) (hm : m ≤ 430) (hc : c ≤ 7)
    (q : ∀ t' tt' rs' H' a10 a12 a13 a14 a15, Bd H' g t' sc rl na tk rk tt' SV rs' (m + 60) (c + 1) → Q .next (LL a1 a2 g.g rk rl na tk a8 a9 a10 (some (.int num)) a12 a13 a14 a15 a16 a17) H') :
    WSs F (forB ((fnB (ta 18))[8]?)) (LL a1 a2 g.g rk rl na tk a8 a9 a10 (some (.int num)) a12 a13 a14 a15 a16 a17) H Q := by
  refine WSs_cons (WS_AssignT (WE_CallN (gGlob ok W hF rfl rfl (.ref 284) (WEs_cons (gLoc ok hF rfl rfl (WEs_nil ⟨keepK ok W, row_call (n := n + 3) ok W fun h b tl lr => WA_tuple ok rfl (tLoc ok hF rfl (tLoc ok hF rfl ?_))⟩))))))
  have ro := lr.ok
  have o := bd.ob
  have cn := bd.cn
  have hrl := row_len ro
  refine WSs_cons (sAsg ok hF rfl (WE_CallN (gGlob ok W hF rfl rfl (.ref 296) (WEs_cons (gLoc ok hF rfl rfl (WEs_cons (gLoc ok hF rfl rfl (WEs_cons (gLoc ok hF rfl rfl (WEs_cons (gLoc ok hF rfl rfl (WEs_cons (gLoc ok hF rfl rfl (WEs_nil ⟨keepK ok W, taken_call (n := n + 1) ok W o.st (Nat.le_trans hm (by decide)) ro o.lR.L o.nR o.dP.D o.nP (Nat.le_trans bd.hr (Nat.le_trans hc (by decide))) fun Hk t1 s => ?_⟩))))))))))))))
  have o1 := o.toks s
  have e1 := s.con
  rw [cn.tc] at e1
  rw [cn.tc, ← cn.pm]
  refine WSs_cons (sA ok hF rfl eBool ?_)
  generalize hV : takenV rs.length h (taken (tcon t.tT) t.pr t.pm h b tl) = rv
  refine WSs_midV (Tr1 Hk g t sc rl na tk rk t1 SV (ruV 1 rs) ((tcon t.tN).map toL) (m + 20) h b tl (fun r => LL a1 a2 g.g rk rl na tk a8 a9 r (some (.int num)) (some (.str h)) (some (.list ((rowOf b tl).map .str))) (some rv) a15 a16 a17)) (fun Q2 b2 => try_add (m' := m) ok tp W hF rfl o1 cn (Nat.le_trans hm (by decide)) (Nat.le_trans bd.up (Nat.le_trans hc (by decide))) ro fun l H' mm => b2.n mm) ?_
  rintro l H' mm
  cases mm with
  | no t' tk0 er o2 el =>
    subst el
    rw [tk0] at hV
    have hV : V.none = rv := hV
    subst hV
    refine WSs_cons (sIf (b := false) (bCmp (eLoc ok hF rfl rfl) (eCmp (eLoc ok hF rfl rfl) eNone fun _ q => Cmp_isNone rfl rfl q) (kNeB ok (p := true) (q' := true))) (fun h => by cases h) fun _ => WSs_nil ?_)
    refine WSs_cons (sIf (b := false) (bCmp (eLoc ok hF rfl rfl) eNone fun _ q => Cmp_notNone rfl rfl q) (fun h => by cases h) fun _ => WSs_nil ?_)
    have cn2 : Cn t' t1 rs (m + 20) := Cn.refused cn hrl (by rw [s.con]) er
    have bd2 : Bd H' g t' sc rl na tk rk t1 SV rs (m + 20) (c + 1) := ⟨by rw [er.N, er.pr]; exact o2, cn2, Nat.le_succ_of_le bd.hr, Nat.le_trans er.ups (Nat.succ_le_succ bd.up), er.start.trans bd.st, by rw [er.ps]; exact bd.p0, bd.hd⟩
    refine WSs_cons (sIf (b := false) (bNot (b := true) (bTru (eCall (eGlob ok W hF rfl rfl (.ref 301)) (eCons (eLoc ok hF rfl rfl) (eCons (eLoc ok hF rfl rfl) (eCons (eLoc ok hF rfl rfl) (eCons (eLoc ok hF rfl rfl) (eCons (eLoc ok hF rfl rfl) eNil))))) (keepK ok W) (stands_call (n := n + 3) (bd2.lw (by omega) (by omega)) ok W)) fun _ q => Tru_bool q)) (fun h => by cases h) fun _ => WSs_nil (WSs_nil ?_))
    refine q t' t1 rs H' _ _ _ _ _ ⟨?_, ?_, bd2.hr, bd2.up, bd2.st, bd2.p0, bd2.hd⟩
    · exact { bd2.ob with tl := Nat.le_trans bd2.ob.tl (by omega) }
    · have c2 := bd2.cn
      exact { c2 with zT := c2.zT.mono (by omega), zN := c2.zN.mono (by omega), zR := c2.zR.mono (by omega), zp := Nat.le_trans c2.zp (by omega), zm := Nat.le_trans c2.zm (by omega) }
  | ok t' fs syms pv d o2 el =>
    subst el
    rw [d.tk] at hV
    have hV : ru4 (rs.length + 1) (h, syms, pv) = rv := hV
    subst hV
    obtain ⟨k1, k2, k3, k4⟩ := taken_pv cn.prv d.tk
    dsimp only at k1 k2
    have hsl : syms.length ≤ 10 := by rw [k1, List.length_map]; exact ro.hb
    have hpl := cn.ps_len
    refine WSs_cons (sIf (b := false) (bCmp (eLoc ok hF rfl rfl) (eCmp (eLoc ok hF rfl rfl) eNone fun _ q => Cmp_isNone rfl rfl q) (kNeB ok (p := false) (q' := false))) (fun h => by cases h) fun _ => WSs_nil ?_)
    refine WSs_midV (Wr1 g sc rl na tk rk SV (m + 60) (c + 1) (fun a15 => LL a1 a2 g.g rk rl na tk a8 a9 (some (.bool false)) (some (.int num)) (some (.str h)) (some (.list ((rowOf b tl).map .str))) (some (ru4 (rs.length + 1) (h, syms, pv))) a15 a16 a17)) (fun Q3 b3 => sIf (b := true) (bCmp (eLoc ok hF rfl rfl) eNone fun _ q => Cmp_notNone rfl rfl q) (fun _ => ?_) fun h => by cases h) ?_
    · have o3 := o2.setR (ruV 1 rs ++ [ru4 (rs.length + 1) (h, syms, pv)])
      refine WSs_cons (sApp ok (eLoc ok hF rfl rfl) o2.lR.L (eLoc ok hF rfl rfl) (by rw [ruV_len]; have := bd.hr; omega) ?_)
      generalize ({ H' with L := up H'.L rl (ruV 1 rs ++ [ru4 (rs.length + 1) (h, syms, pv)]) } : Hp) = H3 at o3
      have eR : ruV 1 rs ++ [ru4 (rs.length + 1) (h, syms, pv)] = ruV 1 (rs ++ [(h, syms, pv)]) := by rw [ruV_snoc, Nat.add_comm 1]
      rw [eR] at o3
      refine WSs_midV (Hd1 g t' sc rl na tk rk t1 SV (ruV 1 (rs ++ [(h, syms, pv)])) ((addKey (tcon t.tN) h).map toL) t.pr (m + 20) (LL a1 a2 g.g rk rl na tk a8 a9 (some (.bool false)) (some (.int num)) (some (.str h)) (some (.list ((rowOf b tl).map .str))) (some (ru4 (rs.length + 1) (h, syms, pv))) a15 a16 a17)) (fun Q4 b4 => sIf (bCmp (eLoc ok hF rfl rfl) (eLoc ok hF rfl rfl) fun _ q => Cmp_notInD o3.dN.D q) (fun hn => ?_) fun hn => ?_) ?_
      · have hk : h ∉ (tcon t.tN).map (·.1) := by
          rw [dget_toL] at hn
          cases e : mgt (tcon t.tN) h with
          | none => exact mgt_none.mp e
          | some _ => rw [e] at hn; cases hn
        refine WSs_cons (WS_AssignT (goE (eListF eNil) (WA_sub (gLoc ok hF rfl rfl (gLoc ok hF rfl rfl (Set_dict o3.dN.D (o3.gr.gn _) (by rw [List.length_map]; exact Nat.le_trans cn.zN.1 (by omega)) (WSs_nil (b4.n ⟨?_, rfl⟩))))))))
        rw [dput_key hk]; exact o3.setN _
      · have hk : h ∈ (tcon t.tN).map (·.1) := by
          apply Classical.byContradiction
          intro hk
          rw [dget_toL, mgt_none.mpr hk] at hn; cases hn
        refine WSs_nil (b4.n ⟨?_, rfl⟩)
        have : addKey (tcon t.tN) h = tcon t.tN := if_pos hk
        rw [this]; exact o3
      · rintro l H4 ⟨o4, rfl⟩
        have hT : SzC (m + 20) (tokT (tcon t.tT) h (rowOf b tl)) := (cn.zT.tok h (rowOf b tl)).mono (by omega)
        have hN : SzC (m + 1) (addKey (tcon t.tN) h) := cn.zN.key h
        have hnd : ((addKey (tcon t.tN) h).map (·.1)).Nodup := addKey_nodup (by rw [tcon_keys]; exact o.gr.kN)
        refine WSs_cons (uses_loop (n := n + 4) ok W hF rfl o4 e1 hnd (fun p hp => Nat.le_trans (hT.2 p hp) (by omega)) ⟨Nat.le_trans hN.1 (by omega), fun p hp => Nat.le_trans (hN.2 p hp) (by omega)⟩ hsl fun tt' N' b15 H5 o5 hu => WSs_nil (b3.n ⟨t', tt', rs ++ [(h, syms, pv)], b15, ⟨?_, ?_, ?_, ?_, d.st.trans bd.st, ?_, ?_⟩, rfl⟩))
        all_goals (have hus := d.us; rw [hpl] at hus; rw [← hu] at hus; injection hus with u1 u2)
        · rw [u2, d.pr]
          exact { o5 with tl := Nat.le_trans o5.tl (by omega) }
        · exact Cn.taken cn ro d.tk d.pr d.pf d.ps d.pm d.us d.R u1.symm
        · rw [List.length_append]; exact Nat.succ_le_succ bd.hr
        · exact Nat.le_trans d.up (Nat.succ_le_succ bd.up)
        · rw [d.ps, List.getElem?_append_left (by omega)]; exact bd.p0
        · intro r hr
          rcases List.mem_append.mp hr with hr | hr
          · exact bd.hd r hr
          · rw [List.mem_singleton] at hr; subst hr
            have key : ∀ s ∈ heads5, s.length ≤ 1000 := by decide +kernel
            exact key _ lr.hd
    · rintro l H6 ⟨t6, tt6, rs6, b15, bd6, rfl⟩
      refine WSs_cons (sIf (b := false) (bNot (b := true) (bTru (eCall (eGlob ok W hF rfl rfl (.ref 301)) (eCons (eLoc ok hF rfl rfl) (eCons (eLoc ok hF rfl rfl) (eCons (eLoc ok hF rfl rfl) (eCons (eLoc ok hF rfl rfl) (eCons (eLoc ok hF rfl rfl) eNil))))) (keepK ok W) (stands_call (n := n + 3) (bd6.lw (by omega) (by omega)) ok W)) fun _ q => Tru_bool q)) (fun h => by cases h) fun _ => WSs_nil (WSs_nil ?_))
      exact q t6 tt6 rs6 H6 _ _ _ _ _ bd6
end Lay.W1
end
noncomputable section
open PySem PySem.W PyProof.Rows PySem.Calls
set_option Elab.async false
set_option maxRecDepth 100000
set_option linter.all false
set_option maxHeartbeats 8000000
namespace Lay.W1
variable {P : Params} {F : Fx} {n : Nat} {loc : Loc} {H : Hp}
variable {g : GA} {t : GT} {sc rl na tk rk : Addr} {tt : Tab} {SV : V} {rs : List Rl} {m c : Nat}
theorem Lw.of {R : List V} {N pr : List (Str × V)} {m' : Nat} (o : Ob H g t sc rl na tk rk tt SV (ruV 1 rs) ((tcon t.tN).map toL) t.pr m') (cn : Cn t tt rs m) (h : m' ≤ m) (hm : m ≤ 900) (hr : rs.length ≤ 8) (up : t.ups.2 ≤ 80) : Lw H g t rl na tk rk tt rs m :=
  ⟨o.gr, o.st.mono h, cn.tc, o.lR.L, o.dN.D, o.dP.D, cn.ps, cn.pm, cn.R, cn.iT, cn.iN, cn.pv, cn.prv, cn.prn, cn.sz, hm, hr, cn.sl, cn.hp, up⟩
noncomputable abbrev starts5 : List Str := [Str.ofString "A", Str.ofString "B", Str.ofString "u", Str.ofString "x", Str.ofString "C"]
noncomputable def stT (t : GT) (a : Addr) (xs : List V) (fs : List (Str × V)) (st : Str) : GT := { t with ps := t.ps.set 0 (.inst 68 fs), tN := tset t.tN a (xs ++ [.int 0]), start := .str st }
theorem Cn.start (cn : Cn t tt rs m) {a : Addr} {xs : List V} {fs : List (Str × V)} {st : Str} (gr : Gr H g t) (e : tget t.tN st = some (a, xs)) : Cn (stT t a xs fs st) tt rs (m + 1) ∧ tcon (stT t a xs fs st).tN = addUse (tcon t.tN) st (.int 0) := by
  have eN : tcon (tset t.tN a (xs ++ [.int 0])) = addUse (tcon t.tN) st (.int 0) := tcon_use gr.kN gr.apart.2.2.2.2.1 e
  refine ⟨⟨cn.tc, ?_, cn.pm, cn.R, cn.iT, ?_, cn.pv, cn.prv, cn.prn, cn.zT.mono (Nat.le_succ m), ?_, cn.zR.mono (Nat.le_succ m), ?_, Nat.le_succ_of_le cn.zm, cn.sl, cn.hp, cn.eT⟩, eN⟩
  · obtain ⟨p0, is, e0, h⟩ := cn.ps
    exact ⟨.inst 68 fs, is, by show t.ps.set 0 _ = _; rw [e0]; rfl, h⟩
  · show AllI (tcon (tset t.tN a (xs ++ [.int 0])))
    rw [eN]; exact cn.iN.use _ _
  · show SzC (m + 1) (tcon (tset t.tN a (xs ++ [.int 0])))
    rw [eN]; exact cn.zN.use _ _
  · show (t.ps.set 0 _).length ≤ m + 1
    rw [List.length_set]; exact Nat.le_succ_of_le cn.zp
inductive Ts1 (H : Hp) (g : GA) (t : GT) (sc rl na tk rk : Addr) (tt : Tab) (SV : V) (R : List V) (N pr : List (Str × V)) (m : Nat) (L : Option V → Option V → Loc) (l : Loc) (H' : Hp) : Prop
  | ok (st : Str) (a : Addr) (xs : List V) (fs : List (Str × V)) (_ : tget t.tN st = some (a, xs)) (_ : PrF fs 0 "S'" [st] (.tup [.str "right", .int 0])) (_ : Ob H' g (stT t a xs fs st) sc rl na tk rk tt SV R N pr m) (_ : l = L (some (.bool false)) (some (.str st))) : Ts1 H g t sc rl na tk rk tt SV R N pr m L l H'
  | no (st : Str) (_ : st ∉ kys t.tN) (_ : H' = H) (_ : l = L (some (.bool true)) (some (.str st))) : Ts1 H g t sc rl na tk rk tt SV R N pr m L l H'
theorem try_start (ok : Ok F (n + 6)) (tp : Top F) (W : Wd (K P) F.c.base) (hF : FrameIs F lawNm [("script", sc)]) {mix : Int} {a1 a8 a9 a11 a12 a13 a14 a15 : Option V} {s0 : Str} {st : Stmt} {Q : Fl → Loc → Hp → Prop} (hst : (fnB (ta 18))[11]? = some st) (h0 : s0.length ≠ 0) (hl : s0.length ≤ 1000) (hh : ∀ r ∈ rs, r.1.length ≤ 1000)
    (bd : Bd H g t sc rl na tk rk tt SV rs m c) (hm : m ≤ 900) (hc : c ≤ 8)
    (q : ∀ l H', Ts1 H g t sc rl na tk rk tt SV (ruV 1 rs) ((tcon t.tN).map toL) t.pr m (fun r s => LL a1 (some (.int mix)) g.g rk rl na tk a8 a9 r a11 a12 a13 a14 a15 s none) l H' → Q .next l H') :
    WS F st (LL a1 (some (.int mix)) g.g rk rl na tk a8 a9 (some (.bool false)) a11 a12 a13 a14 a15 (some (.str s0)) none) H Q := by
  cases hst
  have o := bd.ob
  have cn := bd.cn
  have hpl := cn.ps_len
  have sz := cn.sz
  have hpz : t.ps.length ≤ 1000 := Nat.le_trans cn.zp (by omega)
  have hNz : ∀ e ∈ t.tN, e.2.2.length ≤ 1000 := fun e he => Nat.le_trans (sz.lN e he) (by omega)
  have grown : ∀ a xs fs st, Grown H g t (stT t a xs fs st) := fun a xs fs st => (Grown.refl H g t).lists (by show GT.lists g { t with ps := _, tN := tset t.tN a _, start := _ } = _; simp [GT.lists, adr_tset])
  refine WS_Try (cls := .ref 89) (tv := .ref 89) ok tp (fun l H' => ∃ st, st ∉ kys t.tN ∧ H' = H ∧ l = LL a1 (some (.int mix)) g.g rk rl na tk a8 a9 (some (.bool false)) a11 a12 a13 a14 a15 (some (.str st)) none) (fun f q => hm_own (exc89 W) f q) (fun e E l H ok' => gGlob ok' W hF rfl rfl (.ref 89) ⟨rfl, rfl, fun B v r => by cases r; rfl⟩) ?_ ?_
  · intro lo E okb tpb acc
    have eR : asL H (.ref rl) = some (ruV 1 rs) := o.lR.L
    refine WSs_cons (sIf (bAnd (bCmp (eBin (eLoc okb hF rfl rfl) eInt fun _ q => Op_mod (by decide) q) eInt kEqi) fun _ => bCmp (eLen okb W hF rfl rfl (eLoc okb hF rfl rfl) eR (ruV_len 1 rs) (Nat.le_trans bd.hr (Nat.le_trans hc (by decide)))) eInt kGt) (fun hb => ?_) fun hb => ?_)
    · rw [Bool.and_eq_true] at hb
      have hpos : 0 < rs.length := by have := of_decide_eq_true hb.2; omega
      obtain ⟨r, rs', ers⟩ : ∃ r rs', rs = r :: rs' := by
        cases rs with
        | nil => exact absurd hpos (Nat.lt_irrefl 0)
        | cons r rs' => exact ⟨r, rs', rfl⟩
      have hx : (ruV 1 rs)[0]? = some (ru4 1 r) := by rw [ers]; rfl
      refine WSs_cons (sA okb hF rfl (eSub (eSub (eLoc okb hF rfl rfl) eInt (uList (j := 0) eR hx (by rw [ruV_len]; have := bd.hr; omega))) eInt (uTup (j := 1) rfl)) ?_)
      refine WSs_cons (sExpr okb (WE_CallM (gLoc okb hF rfl rfl (getGM (f := 143) okb W o.gr (by decide) (WEs_nil ⟨keepK okb W, ?_⟩)))))
      have h1 : ∃ fs, t.ps[1]? = some (.inst 68 fs) ∧ dget fs "name" = some (.str r.1) := by
        obtain ⟨p0, is, e0, hi⟩ := cn.ps
        rw [ers] at hi
        cases hi with
        | cons hp _ => exact ⟨_, by rw [e0]; rfl, hp.1⟩
      exact Call_ofE (F := F.tryF lo E) (ss_call0 (F := F.tryF lo E) (n := n + 2) okb W o.gr h1 (hh r (by rw [ers]; exact .head _)) hNz (by omega) hpz (PX := fun H' => r.1 ∉ kys t.tN ∧ H' = H) (fun hn => ⟨hn, rfl⟩) fun a xs e H' fs hp gr' ex => WSs_nil (WSs_nil (q _ _ (.ok r.1 a xs fs e hp (o.gram gr' ex (grown a xs fs r.1)) rfl)))) acc fun H' hx => ⟨r.1, hx.1, hx.2, rfl⟩
    · refine WSs_cons (sExpr okb (WE_CallM (gLoc okb hF rfl rfl (getGM (f := 143) okb W o.gr (by decide) (WEs_cons (gLoc okb hF rfl rfl (WEs_nil ⟨keepK okb W, ?_⟩)))))))
      exact Call_ofE (F := F.tryF lo E) (ss_call (F := F.tryF lo E) (n := n + 2) okb W o.gr h0 hl hNz (by omega) hpz (PX := fun H' => s0 ∉ kys t.tN ∧ H' = H) (fun hn => ⟨hn, rfl⟩) fun a xs e H' fs hp gr' ex => WSs_nil (WSs_nil (q _ _ (.ok s0 a xs fs e hp (o.gram gr' ex (grown a xs fs s0)) rfl)))) acc fun H' hx => ⟨s0, hx.1, hx.2, rfl⟩
  · rintro e E l H' okh ⟨st, hn, rfl, rfl⟩
    exact WSs_cons (sA okh hF rfl eBool (WSs_nil (q _ _ (.no st hn rfl rfl))))
theorem law_end (ok : Ok F (n + 6)) (tp : Top F) (W : Wd (K P) F.c.base) (hF : FrameIs F lawNm [("script", sc)]) {mix : Int} {a1 a8 a9 a10 a11 a12 a13 a14 a15 : Option V} (bd : Bd H g t sc rl na tk rk tt SV rs m c) (hm : m ≤ 800) (hc : c ≤ 8) (hh : ∀ r ∈ rs, r.1.length ≤ 1000) :
    WSs F ((fnB (ta 18)).drop 9) (LL a1 (some (.int mix)) g.g rk rl na tk a8 a9 a10 a11 a12 a13 a14 a15 none none) H (fun fl _ _ => fl = .ret (.bool true)) := by
  obtain ⟨j, ej, hj⟩ := mod_nat (mix / 3) 5 (by decide)
  have hj5 : j < starts5.length := hj
  have hx : (starts5.map V.str)[j]? = some (.str starts5[j]) := by rw [List.getElem?_map, List.getElem?_eq_getElem hj5]; rfl
  have hs5 : ∀ s ∈ starts5, s.length ≠ 0 ∧ s.length ≤ 1000 := by decide +kernel
  obtain ⟨h0, hl⟩ := hs5 _ (List.getElem_mem hj5)
  refine WSs_cons (sA ok hF rfl (eSub (eListF (eCons eStr (eCons eStr (eCons eStr (eCons eStr (eCons eStr eNil)))))) (eBin (eBin (eLoc ok hF rfl rfl) eInt fun _ q => Op_fdiv (by decide) (by decide) q) eInt fun Q q => Op_mod (by decide) (by rw [show (mix / 3 % 5 : Int) = (j : Int) from ej]; exact q)) (uList rfl hx (by decide))) ?_)
  generalize starts5[j] = s0 at h0 hl
  refine WSs_cons (sA ok hF rfl eBool ?_)
  have o := bd.ob
  have cn := bd.cn
  refine WSs_midV (Ts1 H g t sc rl na tk rk tt SV (ruV 1 rs) ((tcon t.tN).map toL) t.pr m (fun r s => LL a1 (some (.int mix)) g.g rk rl na tk a8 a9 r a11 a12 a13 a14 a15 s none)) (fun Q2 b2 => try_start ok tp W hF rfl h0 hl hh bd (Nat.le_trans hm (by decide)) hc fun l H' mm => b2.n mm) ?_
  rintro l H' mm
  have hin : ∀ st, (dget ((tcon t.tN).map toL) st).isSome = decide (st ∈ kys t.tN) := fun st => by
    rw [dget_toL, ← tcon_keys]
    by_cases hk : st ∈ (tcon t.tN).map (·.1)
    · cases e : mgt (tcon t.tN) st with
      | none => exact absurd hk (mgt_none.mp e)
      | some x => rw [decide_eq_true hk]; rfl
    · rw [mgt_none.mpr hk, decide_eq_false hk]; rfl
  cases mm with
  | no st hn eH el =>
    subst el; subst eH
    have e1 : (!(dget ((tcon t.tN).map toL) st).isSome) = true := by rw [hin, decide_eq_false hn]; rfl
    refine WSs_cons (sIf (b := false) (bCmp (eLoc ok hF rfl rfl) (eCmp (eLoc ok hF rfl rfl) (eLoc ok hF rfl rfl) fun Q q => Cmp_notInD o.dN.D (by rw [e1]; exact q)) (kNeB ok (p := true) (q' := true))) (fun h => by cases h) fun _ => WSs_nil ?_)
    refine WSs_cons (sIf (b := true) (bTru (eLoc ok hF rfl rfl) fun _ q => Tru_bool q) (fun _ => ?_) fun h => by cases h)
    have lw := bd.lw (Nat.le_trans hm (by decide)) hc
    refine WSs_cons (sRet (X := .bool (true && (true && true))) (eAndB (eCmp (eAttr (eLoc ok hF rfl rfl) fun _ q => getG ok W o.gr (Y := .none) (fun f => by rw [← bd.st]; exact f.start) rfl q) eNone fun _ q => Cmp_isNone rfl rfl q) fun _ => eAndB (eCmp (eSub (eAttr (eLoc ok hF rfl rfl) fun _ q => getG ok W o.gr Fld.prods rfl q) eInt (uList (j := 0) (show asL H' (.ref g.prods) = some t.ps from o.gr.ps) bd.p0 (Nat.le_trans cn.zp (by omega)))) eNone fun _ q => Cmp_isNone rfl rfl q) fun _ => eOne (eCall (eGlob ok W hF rfl rfl (.ref 301)) (eCons (eLoc ok hF rfl rfl) (eCons (eLoc ok hF rfl rfl) (eCons (eLoc ok hF rfl rfl) (eCons (eLoc ok hF rfl rfl) (eCons (eLoc ok hF rfl rfl) eNil))))) (keepK ok W) (stands_call (n := n + 3) lw ok W))) rfl)
  | ok st a xs fs e hp o2 el =>
    subst el
    have hk : st ∈ kys t.tN := List.mem_map.mpr ⟨_, tget_mem e, rfl⟩
    have e1 : (!(dget ((tcon t.tN).map toL) st).isSome) = false := by rw [hin, decide_eq_true hk]; rfl
    refine WSs_cons (sIf (b := false) (bCmp (eLoc ok hF rfl rfl) (eCmp (eLoc ok hF rfl rfl) (eLoc ok hF rfl rfl) fun Q q => Cmp_notInD o2.dN.D (by rw [e1]; exact q)) (kNeB ok (p := false) (q' := false))) (fun h => by cases h) fun _ => WSs_nil ?_)
    refine WSs_cons (sIf (b := false) (bTru (eLoc ok hF rfl rfl) fun _ q => Tru_bool q) (fun h => by cases h) fun _ => WSs_nil ?_)
    obtain ⟨cn2, eN⟩ := cn.start (fs := fs) o.gr e
    have hnd : ((tcon t.tN).map (·.1)).Nodup := by rw [tcon_keys]; exact o.gr.kN
    have hg : mgt (tcon t.tN) st = some xs := mgt_mem hnd (tcon_at (tget_mem e))
    have hxl : xs.length ≤ 800 := Nat.le_trans (cn.zN.2 _ (tcon_at (tget_mem e))) hm
    have hkey : addKey (tcon t.tN) st = tcon t.tN := if_pos (by rw [tcon_keys]; exact hk)
    refine WSs_cons (WS_AssignT (goE (eAddF (ys := [.int 0]) (eSub (eLoc ok hF rfl rfl) (eLoc ok hF rfl rfl) fun _ q => Sub_dict o2.dN.D (X := .list xs) (by rw [dget_toL, hg]; rfl) q) (eListF (eCons eInt eNil)) rfl rfl (by simp; omega)) (WA_sub (gLoc ok hF rfl rfl (gLoc ok hF rfl rfl (Set_dict o2.dN.D (o2.gr.gn _) (by rw [List.length_map]; exact Nat.le_trans cn.zN.1 (by omega)) ?_))))))
    have hput : dput ((tcon t.tN).map toL) st (.list (xs ++ [.int 0])) = (tcon (stT t a xs fs st).tN).map toL := by
      have := dput_use (k := st) (v := .int 0) hnd
      rw [hg, hkey] at this
      rw [eN]; exact this
    rw [hput]
    have o3 := o2.setN ((tcon (stT t a xs fs st).tN).map toL)
    generalize ({ H' with D := up H'.D na ((tcon (stT t a xs fs st).tN).map toL) } : Hp) = H3 at o3
    have lw : Lw H3 g (stT t a xs fs st) rl na tk rk tt rs (m + 1) := Lw.of (R := []) (N := []) (pr := []) o3 cn2 (Nat.le_succ m) (by omega) (Nat.le_trans bd.hr hc) (Nat.le_trans bd.up (Nat.le_trans hc (by decide)))
    have hps : asL H3 (.ref g.prods) = some (t.ps.set 0 (.inst 68 fs)) := o3.gr.ps
    have hp0 : (t.ps.set 0 (V.inst 68 fs))[0]? = some (.inst 68 fs) := by
      obtain ⟨p0, is, e0, _⟩ := cn.ps
      rw [e0]; rfl
    refine WSs_cons (sA ok hF rfl (eSub (eAttr (eLoc ok hF rfl rfl) fun _ q => getG ok W o3.gr Fld.prods rfl q) eInt (uList (j := 0) hps hp0 (by rw [List.length_set]; exact Nat.le_trans cn.zp (by omega)))) ?_)
    obtain ⟨p1, p2, p3, p4⟩ := hp
    refine WSs_cons (sRet (X := .bool (true && (true && (true && true)))) (eAndB (eCmp (eAttr (eLoc ok hF rfl rfl) fun _ q => getG ok W o3.gr (Y := .str st) Fld.start rfl q) (eLoc ok hF rfl rfl) fun Q q => Cmp_eqs (by rw [decide_eq_true rfl]; exact q)) fun _ => eAndB (eCmp (eListC ok (eBi ok W hF rfl rfl (by boot_by_name) (by decide)) (eAttr (eLoc ok hF rfl rfl) fun _ q => getI ok W p2 rfl q) (.inr rfl) (by simp)) (eListF (eCons (eLoc ok hF rfl rfl) eNil)) (kEqL ok rfl rfl rfl)) fun _ => eAndB (eCmp (eAttr (eLoc ok hF rfl rfl) fun _ q => getI ok W p3 rfl q) eInt fun Q q => Cmp_eqi (by rw [decide_eq_true rfl]; exact q)) fun _ => eOne (eCall (eGlob ok W hF rfl rfl (.ref 301)) (eCons (eLoc ok hF rfl rfl) (eCons (eLoc ok hF rfl rfl) (eCons (eLoc ok hF rfl rfl) (eCons (eLoc ok hF rfl rfl) (eCons (eLoc ok hF rfl rfl) eNil))))) (keepK ok W) (stands_call (n := n + 3) lw ok W))) rfl)
end Lay.W1
end
noncomputable section
open PySem PySem.W PyProof.Rows PySem.Calls
set_option Elab.async false
set_option maxRecDepth 100000
set_option linter.all false
set_option maxHeartbeats 8000000
namespace Lay.W1
variable {P : Params} {F : Fx} {n : Nat} {loc : Loc} {H : Hp}
variable {g : GA} {t : GT} {sc rl na tk rk : Addr} {tt : Tab} {SV : V} {R : List V} {N pr : List (Str × V)} {m c : Nat}
noncomputable abbrev kinds3 : List V := [V.str "left", V.str "right", V.str "nonassoc"]
structure PrO (pr : List (Str × V)) (i : Nat) : Prop where
  len : pr.length ≤ i
  pv : ∀ p ∈ pr, PvOk p.2
  nd : (pr.map (·.1)).Nodup
theorem PrO.add {pr : List (Str × V)} {i : Nat} (h : PrO pr i) {w k : Str} {l : Int} (hn : dget pr w = none) : PrO (dput pr w (.tup [.str k, .int l])) (i + 1) := by
  rw [dput_new hn]
  refine ⟨by rw [List.length_append]; exact Nat.succ_le_succ h.len, fun p hp => ?_, ?_⟩
  · rcases List.mem_append.mp hp with hp | hp
    · exact h.pv p hp
    · rw [List.mem_singleton] at hp; subst hp; exact ⟨k, l, rfl⟩
  · rw [List.map_append, List.nodup_append]
    refine ⟨h.nd, by simp, fun a ha b hb => ?_⟩
    simp only [List.map_cons, List.map_nil, List.mem_singleton] at hb
    subst hb
    rintro rfl
    obtain ⟨p, hp, e⟩ := List.mem_map.mp ha
    have := dget_nodup h.nd hp
    rw [e, hn] at this; cases this
inductive Pr1 (g : GA) (t : GT) (sc rl na tk rk : Addr) (tt : Tab) (SV : V) (R : List V) (N : List (Str × V)) (m : Nat) (L : Option V → Option V → Option V → Option V → Loc) (i : Nat) (l : Loc) (H' : Hp) : Prop
  | mk (pr : List (Str × V)) (a1 a8 a9 a10 : Option V) (_ : PrO pr i) (_ : Ob H' g { t with pr := pr } sc rl na tk rk tt SV R N pr m) (_ : l = L a1 a8 a9 a10) : Pr1 g t sc rl na tk rk tt SV R N m L i l H'
inductive Pr2 (g : GA) (t : GT) (sc rl na tk rk : Addr) (tt : Tab) (SV : V) (R : List V) (N : List (Str × V)) (m : Nat) (pr : List (Str × V)) (w k : Str) (x : Int) (L : Option V → Loc) (l : Loc) (H' : Hp) : Prop
  | ok (_ : dget pr w = none) (_ : V.str k ∈ kinds3) (_ : Ob H' g { t with pr := dput pr w (.tup [.str k, .int x]) } sc rl na tk rk tt SV R N pr m) (_ : l = L (some (.bool false))) : Pr2 g t sc rl na tk rk tt SV R N m pr w k x L l H'
  | no (_ : dget pr w ≠ none ∨ V.str k ∉ kinds3) (_ : Ob H' g { t with pr := pr } sc rl na tk rk tt SV R N pr m) (_ : l = L (some (.bool true))) : Pr2 g t sc rl na tk rk tt SV R N m pr w k x L l H'
inductive Pr3 (g : GA) (t : GT) (sc rl na tk rk : Addr) (tt : Tab) (SV : V) (R : List V) (N : List (Str × V)) (m i : Nat) (L : Option V → Loc) (l : Loc) (H' : Hp) : Prop
  | mk (pr : List (Str × V)) (a10 : Option V) (_ : PrO pr i) (_ : Ob H' g { t with pr := pr } sc rl na tk rk tt SV R N pr m) (_ : l = L a10) : Pr3 g t sc rl na tk rk tt SV R N m i L l H'
theorem pow4 : ∀ k : Nat, k < 3 → Builtin.Int.intTooBig (((Builtin.Int.intBits 4 : Nat) : Int) * ((k : Nat) : Int)) = false ∧ (0 : Int) < 4 ^ k ∧ (4 : Int) ^ k < 1000000000 := by decide +kernel
theorem prec_loop (ok : Ok F (n + 6)) (tp : Top F) (W : Wd (K P) F.c.base) (hF : FrameIs F lawNm [("script", sc)]) {mix : Int} {st : Stmt} {Q : Fl → Loc → Hp → Prop} (hst : (fnB (ta 18))[7]? = some st) (hps : t.ps = [.none])
    (o : Ob H g { t with pr := [] } sc rl na tk rk tt SV R N [] m)
    (q : ∀ pr a1 a8 a9 a10 H', PrO pr 3 → Ob H' g { t with pr := pr } sc rl na tk rk tt SV R N pr m → Q .next (LL a1 (some (.int mix)) g.g rk rl na tk a8 a9 a10 none none none none none none none) H') :
    WS F st (LL none (some (.int mix)) g.g rk rl na tk none none none none none none none none none none) H Q := by
  cases hst
  obtain ⟨n4, e4, h4⟩ := mod_nat mix 4 (by decide)
  refine sForR (N := n4) ok W hF rfl rfl (eBin (eLoc ok hF rfl rfl) eInt fun Q q => Op_mod (by decide) (by rw [show (mix % 4 : Int) = (n4 : Int) from e4]; exact q)) (by omega) ?_
  refine ForOnV (fun i => rngSt_mono i) n4 (Pr1 g t sc rl na tk rk tt SV R N m (fun a1 a8 a9 a10 => LL a1 (some (.int mix)) g.g rk rl na tk a8 a9 a10 none none none none none none none)) ⟨[], none, none, none, none, ⟨Nat.le_refl _, (fun _ h => by cases h), List.nodup_nil⟩, o, rfl⟩ ?_ ?_
  · rintro i Q1 b1 l H' hi ⟨pr, a1, a8, a9, a10, po, o, rfl⟩
    have ok1 := ok.inl
    have tp1 : Top F.inl := tp
    have hi3 : i < 3 := by omega
    obtain ⟨hw1, hw2, hw3⟩ := pow4 i hi3
    refine ⟨.int i, Nxt_rng hi, tLoc ok1 hF rfl ?_⟩
    obtain ⟨j, ej, hj⟩ := mod_nat (mix / 4 / 4 ^ i) 4 (by decide)
    have hj4 : j < ranked4.length := hj
    have hx : (ranked4.map V.str)[j]? = some (.str ranked4[j]) := by rw [List.getElem?_map, List.getElem?_eq_getElem hj4]; rfl
    refine WSs_cons (sA ok1 hF rfl (eSub (eCall (eGlob ok1 W hF rfl rfl (.ref 270)) eNil (keepK ok1 W) (eLr (n := n + 5) ok1 W)) (eBin (eBin (eBin (eLoc ok1 hF rfl rfl) eInt fun _ q => Op_fdiv (by decide) (by decide) q) (eBin eInt (eLoc ok1 hF rfl rfl) fun _ q => Op_pow (k := i) (by decide) (by decide) hw1 q) fun _ q => Op_fdiv hw2 hw3 q) eInt fun Q q => Op_mod (by decide) (by rw [show (mix / 4 / 4 ^ i % 4 : Int) = (j : Int) from ej]; exact q)) (uList rfl hx (by decide))) ?_)
    generalize ranked4[j] = w
    obtain ⟨j2, ej2, hj2⟩ := mod_nat (mix / 256 / 4 ^ i) 4 (by decide)
    have hj24 : j2 < kinds4.length := hj2
    have hx2 : (kinds4.map V.str)[j2]? = some (.str kinds4[j2]) := by rw [List.getElem?_map, List.getElem?_eq_getElem hj24]; rfl
    refine WSs_cons (sA ok1 hF rfl (eSub (eCall (eGlob ok1 W hF rfl rfl (.ref 277)) eNil (keepK ok1 W) (eLk (n := n + 5) ok1 W)) (eBin (eBin (eBin (eLoc ok1 hF rfl rfl) eInt fun _ q => Op_fdiv (by decide) (by decide) q) (eBin eInt (eLoc ok1 hF rfl rfl) fun _ q => Op_pow (k := i) (by decide) (by decide) hw1 q) fun _ q => Op_fdiv hw2 hw3 q) eInt fun Q q => Op_mod (by decide) (by rw [show (mix / 256 / 4 ^ i % 4 : Int) = (j2 : Int) from ej2]; exact q)) (uList rfl hx2 (by decide))) ?_)
    have hk4 : kinds4[j2] ∈ kinds4 := List.getElem_mem hj24
    have hkind : ∀ k ∈ kinds4, (k = Str.ofString "both") ∨ (k ≠ Str.ofString "both" ∧ ∃ s ∈ [Str.ofString "left", Str.ofString "right", Str.ofString "nonassoc"], k = s) := by decide +kernel
    have hk4 := hkind _ hk4
    generalize kinds4[j2] = k at hk4
    have hboth : V.str (Str.ofString "both") ∉ kinds3 := by
      intro h
      have key : Str.ofString "both" ∉ [Str.ofString "left", Str.ofString "right", Str.ofString "nonassoc"] := by decide +kernel
      refine key ?_
      simp only [List.mem_cons, List.not_mem_nil, or_false, V.str.injEq] at h ⊢
      exact h
    have hmem : (V.str k ∈ kinds3 ↔ k ≠ Str.ofString "both") := by
      constructor
      · rintro h rfl; exact hboth h
      · intro h
        rcases hk4 with e | ⟨_, s, hs, rfl⟩
        · exact absurd e h
        · simp only [List.mem_cons, List.not_mem_nil, or_false, V.str.injEq] at hs ⊢; exact hs
    refine WSs_cons (sA ok1 hF rfl eBool ?_)
    refine WSs_midV (Pr2 g t sc rl na tk rk tt SV R N m pr w k ((i : Int) + 1) (fun a10 => LL (some (.int i)) (some (.int mix)) g.g rk rl na tk (some (.str w)) (some (.str k)) a10 none none none none none none none)) (fun Q2 b2 => WS_Try (cls := .ref 89) (tv := .ref 89) ok1 tp1 (fun l H2 => (dget pr w ≠ none ∨ V.str k ∉ kinds3) ∧ H2 = H' ∧ l = LL (some (.int i)) (some (.int mix)) g.g rk rl na tk (some (.str w)) (some (.str k)) (some (.bool false)) none none none none none none none) (fun f q => hm_own (F := F.inl) (exc89 W) f q) (fun e E l H ok' => gGlob ok' W hF rfl rfl (.ref 89) ⟨rfl, rfl, fun B v r => by cases r; rfl⟩) (fun lo E okb tpb acc => ?_) fun e E l H okh hx => ?_) ?_
    · refine WSs_cons (sExpr okb (WE_CallM (gLoc okb hF rfl rfl (getGM (f := 127) okb W o.gr (by decide) (WEs_cons (gLoc okb hF rfl rfl (WEs_cons (gLoc okb hF rfl rfl (WEs_cons (goE (eBin (eLoc okb hF rfl rfl) eInt fun _ q => Op_add q) (WEs_nil ⟨keepK okb W, ?_⟩)))))))))))
      exact Call_ofE (F := F.inl.tryF lo E) (sp_call (F := F.inl.tryF lo E) (n := n + 3) okb W o.gr hps (Nat.le_trans po.len (by omega)) (PX := fun H2 => (dget pr w ≠ none ∨ V.str k ∉ kinds3) ∧ H2 = H') (fun h => ⟨h, rfl⟩) fun h1 h2 H2 gr' ex => WSs_nil (b2.n (.ok h1 h2 (o.gram gr' ex ((Grown.refl _ _ _).lists rfl)) rfl))) acc fun H2 hx => ⟨hx.1, hx.2, rfl⟩
    · obtain ⟨h1, rfl, rfl⟩ := hx
      exact WSs_cons (sA okh hF rfl eBool (WSs_nil (b2.n (.no h1 o rfl))))
    rintro l H2 mm
    have fin : ∀ {pr' : List (Str × V)} {H3 : Hp} {a10 : Option V}, PrO pr' (i + 1) → Ob H3 g { t with pr := pr' } sc rl na tk rk tt SV R N pr' m → WSs F.inl ((forB ((fnB (ta 18))[7]?)).drop 6) (LL (some (.int i)) (some (.int mix)) g.g rk rl na tk (some (.str w)) (some (.str k)) a10 none none none none none none none) H3 Q1 := fun {pr' H3 a10} po o => by
      refine WSs_cons (sIf (b := false) (bCmp (eAttr (eLoc ok1 hF rfl rfl) fun _ q => getG ok1 W o.gr Fld.pr rfl q) (eLoc ok1 hF rfl rfl) (kNeD ok1 o.gr.pr o.dP.D rfl fun p hp => ?_)) (fun h => by cases h) fun _ => WSs_nil (WSs_nil (b1.n ⟨_, _, _, _, _, po, o, rfl⟩)))
      have h2 := po.pv p hp
      obtain ⟨pk, pl, e⟩ := id h2
      refine ⟨?_, p.2, dget_nodup po.nd hp, rfl⟩
      have : asD H3 p.2 = p.2 := by rw [e]; rfl
      rw [this]; exact h2.isD 19
    cases mm with
    | no h1 o2 el =>
      subst el
      have e1 : ((dget pr w).isSome || decide (k = Str.ofString "both")) = true := by
        rcases h1 with h1 | h1
        · cases e : dget pr w with
          | none => exact absurd e h1
          | some _ => rfl
        · have : k = Str.ofString "both" := Classical.byContradiction fun hne => h1 (hmem.mpr hne)
          rw [decide_eq_true this, Bool.or_true]
      refine WSs_cons (sIf (b := false) (bConv (bCmp (eLoc ok1 hF rfl rfl) (eOrB (eCmp (eLoc ok1 hF rfl rfl) (eLoc ok1 hF rfl rfl) fun _ q => Cmp_inD o2.dP.D q) (eCmp (eLoc ok1 hF rfl rfl) eStr kEqs)) (kNeB ok1)) (by rw [e1]; rfl)) (fun h => by cases h) fun _ => WSs_nil ?_)
      refine WSs_cons (sIf (b := false) (bNot (b := true) (bTru (eLoc ok1 hF rfl rfl) fun _ q => Tru_bool q)) (fun h => by cases h) fun _ => WSs_nil ?_)
      exact fin ⟨Nat.le_succ_of_le po.len, po.pv, po.nd⟩ o2
    | ok h1 h2 o2 el =>
      subst el
      have e1 : ((dget pr w).isSome || decide (k = Str.ofString "both")) = false := by
        rw [h1, decide_eq_false (hmem.mp h2)]; rfl
      refine WSs_cons (sIf (b := false) (bConv (bCmp (eLoc ok1 hF rfl rfl) (eOrB (eCmp (eLoc ok1 hF rfl rfl) (eLoc ok1 hF rfl rfl) fun _ q => Cmp_inD o2.dP.D q) (eCmp (eLoc ok1 hF rfl rfl) eStr kEqs)) (kNeB ok1)) (by rw [e1]; rfl)) (fun h => by cases h) fun _ => WSs_nil ?_)
      have hpl := po.len
      refine WSs_midV (Pr3 g t sc rl na tk rk tt SV R N m (i + 1) (fun a10 => LL (some (.int i)) (some (.int mix)) g.g rk rl na tk (some (.str w)) (some (.str k)) a10 none none none none none none none)) (fun Q4 b4 => sIf (b := true) (bNot (b := false) (bTru (eLoc ok1 hF rfl rfl) fun _ q => Tru_bool q)) (fun _ => ?_) fun h => by cases h) ?_
      · exact WSs_cons (WS_AssignT (goE (eTup (eCons (eLoc ok1 hF rfl rfl) (eCons (eBin (eLoc ok1 hF rfl rfl) eInt fun _ q => Op_add q) eNil))) (WA_sub (gLoc ok1 hF rfl rfl (gLoc ok1 hF rfl rfl (Set_dict o2.dP.D (o2.gr.gn _) (by omega) (WSs_nil (b4.n ⟨_, _, po.add h1, o2.setP _, rfl⟩))))))))
      · rintro l H5 ⟨pr', a10', po', o5, rfl⟩
        exact fin po' o5
  · rintro l H' ⟨pr, a1, a8, a9, a10, po, o, rfl⟩
    exact ⟨Nxt_rng_end (ok.handled (Nat.succ_ne_zero _)) (Nat.le_refl _), WSs_nil (q pr _ _ _ _ H' ⟨Nat.le_trans po.len (by omega), po.pv, po.nd⟩ o)⟩
end Lay.W1
end
noncomputable section
open PySem PySem.W PyProof.Rows PySem.Calls
set_option Elab.async false
set_option maxRecDepth 100000
set_option linter.all false
set_option maxHeartbeats 8000000
namespace Lay.W1
variable {P : Params} {F : Fx} {n : Nat} {loc : Loc} {H : Hp}
variable {g : GA} {t : GT} {sc rl na tk rk : Addr} {tt : Tab} {SV : V} {R : List V} {N pr : List (Str × V)} {rs : List Rl} {m c : Nat}
theorem AtD.nD {a d : Addr} {kvs y : List (Str × V)} (h : AtD H a kvs) (f : H.Fresh d) : AtD { H with D := up H.D d y } a kvs := h.upD fun e => f (e ▸ h.own)
theorem AtD.nL {a d : Addr} {kvs : List (Str × V)} {y : List V} (h : AtD H a kvs) (f : H.Fresh d) : AtD { H with L := up H.L d y } a kvs := h.upL fun e => f (e ▸ h.own)
theorem AtL.nD {a d : Addr} {kvs : List V} {y : List (Str × V)} (h : AtL H a kvs) (f : H.Fresh d) : AtL { H with D := up H.D d y } a kvs := h.upD fun e => f (e ▸ h.own)
theorem AtL.nL {a d : Addr} {kvs y : List V} (h : AtL H a kvs) (f : H.Fresh d) : AtL { H with L := up H.L d y } a kvs := h.upL fun e => f (e ▸ h.own)
theorem caND {c d : Addr} {ov : Option V} {y : List (Str × V)} (h : CellAt H c ov) (f : H.Fresh d) : CellAt { H with D := up H.D d y } c ov := caUpD h fun e => f (e ▸ caOwn h)
theorem caNL {c d : Addr} {ov : Option V} {y : List V} (h : CellAt H c ov) (f : H.Fresh d) : CellAt { H with L := up H.L d y } c ov := h.upL fun e => f (e ▸ caOwn h)
noncomputable abbrev tk3 (b1 b2 b3 : Addr) : Tab := [(Str.ofString "x", b1, []), (Str.ofString "y", b2, []), (Str.ofString "error", b3, [])]
theorem ob_start (gr : Gr H g t) (cs : CellAt H sc (some SV)) (dP : AtD H rk []) (gP : rk ∉ g.dicts) (lR : AtL H rl []) (gR : rl ∉ GT.lists g t) (dN : AtD H na []) (gN : na ∉ g.dicts) (n2 : na ≠ rk) {b1 b2 b3 : Addr} (f0 : H.Fresh tk)
    (f1 : Hp.Fresh { H with D := up H.D tk [] } b1) (f2 : Hp.Fresh { H with L := up H.L b1 [], D := up H.D tk [] } b2) (f3 : Hp.Fresh { H with L := up (up H.L b1 []) b2 [], D := up H.D tk [] } b3) :
    Ob { H with L := up (up (up H.L b1 []) b2 []) b3 [], D := up (up H.D tk []) tk (tof (tk3 b1 b2 b3)) } g t sc rl na tk rk (tk3 b1 b2 b3) SV [] [] [] 10 := by
  have gr1 : Gr { H with D := up H.D tk [] } g t := gr.upD f0 []
  have gr2 : Gr { H with L := up H.L b1 [], D := up H.D tk [] } g t := gr1.upL f1 []
  have gr3 : Gr { H with L := up (up H.L b1 []) b2 [], D := up H.D tk [] } g t := gr2.upL f2 []
  have gr4 : Gr { H with L := up (up (up H.L b1 []) b2 []) b3 [], D := up H.D tk [] } g t := gr3.upL f3 []
  have gK : tk ∉ g.dicts := gr.freshD f0
  have dK1 : AtD { H with D := up H.D tk [] } tk [] := AtD.new f0
  have dK : AtD { H with L := up (up (up H.L b1 []) b2 []) b3 [], D := up H.D tk [] } tk [] := ((dK1.nL f1).nL f2).nL f3
  have l1 : AtL { H with L := up H.L b1 [], D := up H.D tk [] } b1 [] := AtL.new f1
  have l2 : AtL { H with L := up (up H.L b1 []) b2 [], D := up H.D tk [] } b2 [] := AtL.new f2
  have l3 : AtL { H with L := up (up (up H.L b1 []) b2 []) b3 [], D := up H.D tk [] } b3 [] := AtL.new f3
  have l1' := (l1.nL (y := []) f2).nL (y := []) f3
  have l2' := l2.nL (y := []) f3
  have cs4 : CellAt { H with L := up (up (up H.L b1 []) b2 []) b3 [], D := up H.D tk [] } sc (some SV) := caNL (caNL (caNL (caND cs f0) f1) f2) f3
  have lR4 : AtL { H with L := up (up (up H.L b1 []) b2 []) b3 [], D := up H.D tk [] } rl [] := (((lR.nD f0).nL f1).nL f2).nL f3
  have dN4 : AtD { H with L := up (up (up H.L b1 []) b2 []) b3 [], D := up H.D tk [] } na [] := (((dN.nD f0).nL f1).nL f2).nL f3
  have dP4 : AtD { H with L := up (up (up H.L b1 []) b2 []) b3 [], D := up H.D tk [] } rk [] := (((dP.nD f0).nL f1).nL f2).nL f3
  have n1 : na ≠ tk := fun e => f0 (e ▸ dN.own)
  have n3 : tk ≠ rk := fun e => f0 (e ▸ dP.own)
  have r1 : b1 ≠ rl := fun e => f1 (e ▸ (lR.nD (y := []) f0).own)
  have r2 : b2 ≠ rl := fun e => f2 (e ▸ ((lR.nD (y := []) f0).nL (y := []) f1).own)
  have r3 : b3 ≠ rl := fun e => f3 (e ▸ (((lR.nD (y := []) f0).nL (y := []) f1).nL (y := []) f2).own)
  have b12 : b1 ≠ b2 := fun e => f2 (e ▸ l1.own)
  have b13 : b1 ≠ b3 := fun e => f3 (e ▸ (l1.nL (y := []) f2).own)
  have b23 : b2 ≠ b3 := fun e => f3 (e ▸ l2.own)
  refine ⟨gr4.putD _ gK, caUpD cs4 (caNeD cs4 dK), lR4.upD (lR4.neD dK), gR, dN4.upD n1, gN, dP4.upD (Ne.symm n3), gP, dK.set, gK, ?_, ?_, n1, n2, n3, ?_, ?_, ?_⟩
  · intro e he
    simp only [List.mem_cons, List.not_mem_nil, or_false] at he
    rcases he with rfl | rfl | rfl
    · exact l1'.upD (l1'.neD dK)
    · exact l2'.upD (l2'.neD dK)
    · exact l3.upD (l3.neD dK)
  · intro a ha
    simp only [adr, List.map_cons, List.map_nil, List.mem_cons, List.not_mem_nil, or_false] at ha
    rcases ha with rfl | rfl | rfl
    · exact ⟨gr1.freshL f1, r1⟩
    · exact ⟨gr2.freshL f2, r2⟩
    · exact ⟨gr3.freshL f3, r3⟩
  · show [Str.ofString "x", Str.ofString "y", Str.ofString "error"].Nodup
    decide +kernel
  · show [b1, b2, b3].Nodup
    simp [b12, b13, b23]
  · show 3 ≤ 10
    decide
theorem cn_start (e1 : tcon t.tT = ([Str.ofString "x", Str.ofString "y"] ++ [Str.ofString "error"]).map (fun k => (k, []))) (e2 : t.tN = []) (e3 : t.tR = []) (e4 : t.ps = [.none]) (e5 : t.pm = []) {b1 b2 b3 : Addr} {pr : List (Str × V)} (po : PrO pr 3) : Cn { t with pr := pr } (tk3 b1 b2 b3) [] 10 where
  tc := by show tcon (tk3 b1 b2 b3) = tcon t.tT; rw [e1]; rfl
  ps := ⟨.none, [], e4, .nil⟩
  pm := e5
  R := by show RR (tcon t.tR) []; rw [e3]; exact ⟨rfl, fun p hp => by cases hp⟩
  iT := by
    show AllI (tcon t.tT)
    rw [e1]
    intro p hp v hv
    obtain ⟨k, _, rfl⟩ := List.mem_map.mp hp
    cases hv
  iN := by show AllI (tcon t.tN); rw [e2]; intro p hp; cases hp
  pv := fun r hr => by cases hr
  prv := po.pv
  prn := po.nd
  zT := by
    show SzC 10 (tcon t.tT)
    rw [e1]
    refine ⟨by simp, fun p hp => ?_⟩
    obtain ⟨k, _, rfl⟩ := List.mem_map.mp hp
    exact Nat.zero_le _
  zN := by show SzC 10 (tcon t.tN); rw [e2]; exact ⟨Nat.zero_le _, fun p hp => by cases hp⟩
  zR := by show SzC 10 (tcon t.tR); rw [e3]; exact ⟨Nat.zero_le _, fun p hp => by cases hp⟩
  zp := by show t.ps.length ≤ 10; rw [e4]; decide
  zm := by show t.pm.length ≤ 10; rw [e5]; decide
  sl := fun r hr => by cases hr
  hp := Nat.le_trans po.len (by decide)
  eT := by show _ ∈ (tcon t.tT).map (·.1); rw [e1]; simp
inductive Lp1 (g : GA) (sc rl na tk rk : Addr) (SV : V) (L : Option V → Option V → Option V → Option V → Option V → Option V → Loc) (i : Nat) (l : Loc) (H' : Hp) : Prop
  | mk (t : GT) (tt : Tab) (rs : List Rl) (a10 a11 a12 a13 a14 a15 : Option V) (_ : Bd H' g t sc rl na tk rk tt SV rs (10 + 60 * i) i) (_ : l = L a10 a11 a12 a13 a14 a15) : Lp1 g sc rl na tk rk SV L i l H'
theorem rule_loop (ok : Ok F (n + 6)) (tp : Top F) (W : Wd (K P) F.c.base) (hF : FrameIs F lawNm [("script", sc)]) {mix : Int} {a1 a8 a9 a10 : Option V} {ns : List Int} (hn : ns.length ≤ 8) {st : Stmt} {Q : Fl → Loc → Hp → Prop} (hst : (fnB (ta 18))[8]? = some st)
    (bd : Bd H g t sc rl na tk rk tt (.list (ns.map .int)) [] 10 0)
    (q : ∀ t tt rs a10 a11 a12 a13 a14 a15 H', Bd H' g t sc rl na tk rk tt (.list (ns.map .int)) rs (10 + 60 * ns.length) ns.length → Q .next (LL a1 (some (.int mix)) g.g rk rl na tk a8 a9 a10 a11 a12 a13 a14 a15 none none) H') :
    WS F st (LL a1 (some (.int mix)) g.g rk rl na tk a8 a9 a10 none none none none none none none) H Q := by
  cases hst
  refine sForL (eCell ok hF rfl rfl bd.ob.cs.C) rfl ?_
  refine ForOnV (fun i => lstSt_mono i) ns.length (Lp1 g sc rl na tk rk (.list (ns.map .int)) (fun a10 a11 a12 a13 a14 a15 => LL a1 (some (.int mix)) g.g rk rl na tk a8 a9 a10 a11 a12 a13 a14 a15 none none)) ⟨t, tt, [], a10, none, none, none, none, none, bd, rfl⟩ ?_ ?_
  · rintro i Q1 b1 l H' hi ⟨t', tt', rs', a10, a11, a12, a13, a14, a15, bd', rfl⟩
    refine ⟨.int ns[i], Nxt_list (xs := ns.map .int) rfl (by simp [hi]), tLoc ok.inl hF rfl ?_⟩
    exact turn (F := F.inl) (n := n) ok.inl tp W hF bd' (by omega) (by omega) fun t2 tt2 rs2 H2 _ _ _ _ _ bd2 => b1.n ⟨t2, tt2, rs2, _, _, _, _, _, _, by rw [show 10 + 60 * (i + 1) = 10 + 60 * i + 60 by omega]; exact bd2, rfl⟩
  · rintro l H' ⟨t', tt', rs', a10, a11, a12, a13, a14, a15, bd', rfl⟩
    exact ⟨Nxt_list_end (xs := ns.map .int) (ok.handled (Nat.succ_ne_zero _)) rfl (by rw [List.length_map]; exact Nat.le_refl _), WSs_nil (q _ _ _ _ _ _ _ _ _ _ bd')⟩
end Lay.W1
end
noncomputable section
open PySem PySem.W PyProof.Rows PySem.Calls
set_option Elab.async false
set_option maxRecDepth 100000
set_option linter.all false
set_option maxHeartbeats 8000000
namespace Lay.W1
variable {P : Params} {F : Fx} {n : Nat} {loc : Loc} {H : Hp}
noncomputable def L0 (a2 a3 a4 a5 a6 a7 : Option V) : Loc := [none, none, a2, a3, a4, a5, a6, a7, none, none, none, none, none, none, none, none, none, none, none, none, none, none, none, none, none, none, none, none, none]
theorem bits8 : ∀ j : Nat, j < 8 → Builtin.Int.intBits ((j : Int) + 1) ≤ 64 := by decide +kernel
noncomputable def fS (ns : List Int) : V → Option V
  | .int k => some (.int ((k + 1) * ns[k.toNat]!))
  | _ => none
theorem filterMap_cg {α β : Type} {f h : α → Option β} : ∀ {l : List α}, (∀ x ∈ l, f x = h x) → l.filterMap f = l.filterMap h
  | [], _ => rfl
  | x :: r, e => by rw [List.filterMap_cons, List.filterMap_cons, e x (.head _), filterMap_cg fun y hy => e y (.tail _ hy)]
inductive V1 (H : Hp) (l : Loc) (H' : Hp) : Prop
  | mk (m : Int) (_ : l = L0 (some (.int m)) none none none none none) (_ : H = H') : V1 H l H'
inductive V2 (sc : Addr) (SV : V) (m : Int) (l : Loc) (H' : Hp) : Prop
  | mk (g : GA) (t : GT) (_ : Gr H' g t) (_ : CellAt H' sc (some SV)) (_ : tcon t.tT = ([Str.ofString "x", Str.ofString "y"] ++ [Str.ofString "error"]).map (fun k => (k, []))) (_ : t.tN = []) (_ : t.tR = []) (_ : t.ps = [.none]) (_ : t.pm = []) (_ : t.pr = []) (_ : t.ups = (fun _ => false, 0)) (_ : t.start = .none) (_ : l = L0 (some (.int m)) (some (.ref g.g)) none none none none) : V2 sc SV m l H'
theorem lwA (ok : Ok F 20) (tp : Top F) (W : Wd (K P) F.c.base) {sc : Addr} (hF : FrameIs F lawNm [("script", sc)]) (hG : ∀ a, H.G a = none) {ns : List Int} (hc : CellAt H sc (some (.list (ns.map .int)))) (hz : ns.length ≤ 1000) :
    WSs F (fnB (ta 18)) (L0 none none none none none none) H (fun fl _ _ => fl = .ret (.bool true)) := by
  refine WSs_cons (sAC ok hF rfl rfl hc.C (eCut (j := 8) (eCell ok hF rfl rfl hc.C) eInt rfl (len_map_le hz)) ?_)
  rw [← List.map_take]
  have hms : (ns.take 8).length ≤ 8 := List.length_take_le 8 ns
  generalize ns.take 8 = ms at hms
  have hc2 := hc.here (o' := some (.list (ms.map V.int)))
  have hG2 : ∀ a, ({ H with C := up H.C sc (some (.list (ms.map V.int))) } : Hp).G a = none := hG
  generalize ({ H with C := up H.C sc (some (.list (ms.map V.int))) } : Hp) = H2 at hc2 hG2
  clear hc hG hz
  -- the number
  refine WSs_midV (V1 H2) (fun Q1 b1 => sAsg ok hF rfl (WE_BinOp (WE_CallN (goE (eBi ok W hF rfl rfl (by boot_by_name) (by decide)) (WEs_cons (WE_ListComp ok [("script", sc)] (.inl rfl) (closK hF rfl) (by decide) rfl (compDbg ok rfl) (by decide) (WIt_range (goE (eBi ok W hF rfl rfl (by boot_by_name) (by decide)) ⟨rfl, goEs (eCons (eLen ok W hF rfl rfl (eCell ok hF rfl rfl hc2.C) rfl (List.length_map _) (Nat.le_trans hms (by decide))) eNil) ?_⟩)))))))) ?_
  · refine ⟨ms.length, rfl, Nat.lt_of_le_of_lt hms (by decide), (List.range ms.length).map (fun (k : Nat) => V.int k), fS ms, ⟨fun i => rngSt_mono i, by rw [List.length_map, List.length_range]; exact Nat.le_trans hms (by decide), fun C sv E okc => ⟨rngSt_self, fun j y hy => ?_, Nxt_rng_end (okc.handled (Nat.succ_ne_zero _)) (by rw [List.length_map, List.length_range]; exact Nat.le_refl _)⟩⟩, WEs_nil ⟨keepB ok, Call_sum (ns := (List.range ms.length).map fun (k : Nat) => (((k : Int) + 1) * ms[k]!)) (ok.handled (by decide)) ?_ (goE (eBin eInt eInt (fun _ q => Op_pow (k := 9) (by decide) (by decide) (by decide +kernel) q)) (Op_mod (by decide) (b1.n ⟨_, rfl, rfl⟩)))⟩⟩
    · rw [List.getElem?_map] at hy
      obtain ⟨k', hk', rfl⟩ := Option.map_eq_some_iff.mp hy
      obtain ⟨hj', e⟩ := List.getElem?_eq_some_iff.mp hk'
      rw [List.getElem_range] at e
      rw [List.length_range] at hj'
      subst e
      have hat : (ms.map V.int)[j]? = some (.int ms[j]!) := by
        rw [List.getElem?_map, List.getElem?_eq_getElem hj', getElem!_pos ms j hj']; rfl
      exact ⟨Nxt_rng hj', turn0 (fun _ q => tLoc okc (compF ok hF) rfl q) (eBin (eBin (eLoc okc (compF ok hF) rfl rfl) eInt (fun _ q => Op_add q)) (eSub (eCell okc (compF ok hF) rfl rfl hc2.C) (eLoc okc (compF ok hF) rfl rfl) (uList rfl hat (by rw [List.length_map]; omega))) (fun _ q => Op_mul (bits8 j (Nat.lt_of_lt_of_le hj' hms)) q)) (by show some _ = some _; rw [Int.toNat_natCast])⟩
    · refine congrArg some ?_
      rw [List.map_map, List.filterMap_map, ← List.filterMap_eq_map]
      refine filterMap_cg fun j _ => ?_
      show some (V.int ((((j : Nat) : Int) + 1) * ms[((j : Int)).toNat]!)) = some (V.int _)
      rw [Int.toNat_natCast]
  rintro l H' ⟨m, rfl, rfl⟩
  -- the grammar
  refine WSs_midV (V2 sc (.list (ms.map .int)) m) (fun Q2 b2 => sAsg ok hF rfl (WE_CallN (goE (eGlob ok W hF rfl rfl (.ref 217)) (goEs (eCons (eListF (eCons eStr (eCons eStr eNil))) eNil) ⟨keepK ok W, Call_clsK ok W 106 fun A' x d ok' hx hd hlt => ?_⟩)))) ?_
  · refine gr_init (F := { F with A := A' }) (ns := [Str.ofString "x", Str.ofString "y"]) ok' W (up_self _ _ _) (up_self _ _ _) hG2 rfl (by decide +kernel) (by decide +kernel) (by simp) fun g t H' eg ed gr e1 e2 e3 e4 e5 e6 e7 e8 e9 e10 ex => ⟨rfl, b2.n ⟨g, t, gr, ?_, e1, e2, e3, e4, e5, e8, e9, e10, by rw [eg]; rfl⟩⟩
    have hcd : sc ≠ d := hd.neC hc2.C
    have h1 : CellAt { H2 with I := up H2.I x (217, d), D := up H2.D d [] } sc (some (.list (ms.map .int))) := ⟨hc2.C, hc2.L, (up_ne hcd).trans hc2.D, hc2.P, hc2.S⟩
    exact h1.ext ex hcd
  clear hc2 hG2
  rintro l H3 ⟨g, t, gr, cs, e1, e2, e3, e4, e5, e8, e9, e10, rfl⟩
  -- the law's own things
  refine WSs_cons (sAsg ok hF rfl (WE_Dict0 fun rk hrk => ?_))
  have gP := gr.freshD hrk
  have gr1 := gr.upD hrk []
  have cs1 := caND (y := []) cs hrk
  have dP1 := AtD.new (y := []) hrk
  generalize ({ H3 with D := up H3.D rk [] } : Hp) = H4 at gr1 cs1 dP1
  clear gr cs
  refine WSs_cons (sAsg ok hF rfl (WE_List (WEs_nil ⟨by simp, fun rl hrl => ?_⟩)))
  have gR := gr1.freshL hrl
  have gr2 := gr1.upL hrl []
  have cs2 := caNL (y := []) cs1 hrl
  have dP2 := dP1.nL (y := []) hrl
  have lR2 := AtL.new (xs := []) hrl
  generalize ({ H4 with L := up H4.L rl [] } : Hp) = H5 at gr2 cs2 dP2 lR2
  clear gr1 cs1 dP1
  refine WSs_cons (sAsg ok hF rfl (WE_Dict0 fun na hna => ?_))
  have gN := gr2.freshD hna
  have gr3 := gr2.upD hna []
  have cs3 := caND (y := []) cs2 hna
  have dP3 := dP2.nD (y := []) hna
  have lR3 := lR2.nD (y := []) hna
  have dN3 := AtD.new (y := []) hna
  have n2 : na ≠ rk := fun e => hna (e ▸ dP2.own)
  generalize ({ H5 with D := up H5.D na [] } : Hp) = H6 at gr3 cs3 dP3 lR3 dN3
  clear gr2 cs2 dP2 lR2
  refine @WSs_cons F _ _ _ _ _ (@sAsg F _ _ _ _ _ ok hF _ _ _ _ _ _ rfl (@WE_Dict3 F _ _ _ _ _ _ _ _ _ _ fun tk htk => ?_) rfl)
  refine @WPs_cons F _ _ _ _ _ _ _ (goE eStr ⟨_, rfl, WE_List (WEs_nil ⟨by simp, fun b1 f1 => ?_⟩)⟩)
  refine @WPs_cons F _ _ _ _ _ _ _ (goE eStr ⟨_, rfl, WE_List (WEs_nil ⟨by simp, fun b2 f2 => ?_⟩)⟩)
  refine @WPs_cons F _ _ _ _ _ _ _ (goE eStr ⟨_, rfl, WE_List (WEs_nil ⟨by simp, fun b3 f3 => ?_⟩)⟩)
  refine @WPs_nil F _ _ _ _ ⟨up_self _ _ _, gr3.gn _, ?_⟩
  have o := ob_start gr3 cs3 dP3 gP lR3 gR dN3 gN n2 htk f1 f2 f3
  show WSs F _ (LL none (some (.int m)) g.g rk rl na tk none none none none none none none none none none) { H6 with L := up (up (up H6.L b1 []) b2 []) b3 [], D := up (up H6.D tk []) tk (tof (tk3 b1 b2 b3)) } _
  generalize ({ H6 with L := up (up (up H6.L b1 []) b2 []) b3 [], D := up (up H6.D tk []) tk (tof (tk3 b1 b2 b3)) } : Hp) = H7 at o
  have et : ({ t with pr := [] } : GT) = t := by cases t; cases e8; rfl
  rw [← et] at o
  refine WSs_cons (prec_loop (n := 14) ok tp W hF rfl e4 o fun pr a1 a8 a9 a10 H8 po o8 => ?_)
  have bd : Bd H8 g { t with pr := pr } sc rl na tk rk (tk3 b1 b2 b3) (.list (ms.map .int)) [] 10 0 := ⟨by
    show Ob H8 g { t with pr := pr } sc rl na tk rk _ _ [] ((tcon t.tN).map toL) pr 10
    rw [show (tcon t.tN).map toL = [] by rw [e2]; rfl]; exact o8, cn_start e1 e2 e3 e4 e5 po, Nat.le_refl _, by show t.ups.2 ≤ 0; rw [e9]; exact Nat.le_refl _, e10, by show t.ps[0]? = _; rw [e4]; rfl, fun r hr => by cases hr⟩
  refine WSs_cons (rule_loop (n := 14) ok tp W hF hms rfl bd fun t9 tt9 rs9 b10 b11 b12 b13 b14 b15 H9 bd9 => ?_)
  exact law_end (n := 14) ok tp W hF bd9 (by omega) hms bd9.hd
end Lay.W1
end
noncomputable section
open PySem PySem.W PyProof.Rows PySem.Calls
set_option Elab.async false
set_option maxRecDepth 100000
set_option linter.all false
set_option maxHeartbeats 8000000
namespace Lay.W1
theorem law_post (xs : List WData) : PySem.Challenge.rw_iw0034_03.row.claim.post xs (.bool true) xs = true := by
  show (WShape.has [] (WData.bool true) .bool && WTm.holds [] (.eq .res (.lit (.bool true))) { args := xs, res := some (WData.bool true), after := xs }) = true
  rw [Bool.and_eq_true]
  refine ⟨by simp [WShape.has, WShape.arms], by simp [WTm.holds, WTm.value, same]⟩
theorem law_goes {prog : Program} {w : World} {s₁ : Shared} {lim L fa : Addr} {cd : Value} {h₁ : Heap} {tk : Nat} {m : Str → Option Value} {oc : Obj} {E : Value → Shared → Prop} {Q : Flow → Shared → Prop} {a : Addr} {ns : List Int} {name : Str} {P : Params} {sc : Scope} {body : List Stmt}
    (hsc : sc.names = lawNm) (hk : sc.kind = .function) (hbody : body = fnB (ta 18)) (hW : Wd (K P) s₁.heap) (hg : s₁.gens = #[]) (hl : 1 ≤ lim ∧ ∃ o, s₁.heap.get? lim = some o) (F : Fr s₁.heap L h₁ m) (hL : s₁.heap.objs.size ≤ L) (N : News s₁.heap L h₁ [(L + 1, oc)]) (hc : oc.data = .cell (some (.ref a)))
    (ha : RelV (fun a => s₁.heap.get? a) (.ref a) (.list (ns.map .int)))
    (hn : ns.length ≤ 1000) (hR : ∀ s' : Shared, s'.gens = #[] → s'.os = s₁.os → (∀ b o, s₁.heap.get? b = some o → s'.heap.get? b = some o) → Q (.ret (.bool true)) s') :
    wpAny (model prog w) (callerA.deeper (envOfC name sc L fa cd)) (execs body (envOfC name sc L fa cd)) Q E ⟨h₁, s₁.gens, s₁.drawn, tk, s₁.os⟩ := by
  subst hbody
  have hloc : LocOk (fun a => s₁.heap.get? a) lawNm (L0 none none none none none none) m := by
    intro x i X hx hv
    have hm := List.mem_of_getElem? (show ([none, none, none, none, none, none, none, none, none, none, none, none, none, none, none, none, none, none, none, none, none, none, none, none, none, none, none, none, none] : Loc)[i]? = some (some X) from hv)
    simp at hm
  have R0 := enter_rel1 (prog := prog) (w := w) (lim := lim) (tk := tk) (nm := lawNm) (ov := some (.list (ns.map .int))) hg hl F hloc N hc (Nat.le_succ_of_le hL) ha
  let Fx0 : Fx := ⟨baseOf prog w s₁ lim, callerA.deeper (envOfC name sc L fa cd), envOfC name sc L fa cd, E⟩
  have hF : FrameIs Fx0 lawNm [("script", L + 1)] := ⟨hsc, by show cellsFrom (L + 1) sc.names [] = _; rw [hsc]; rfl⟩
  have ok : Ok Fx0 20 := by
    refine ⟨hk, rfl, rfl, by show sc.names.lookup _ = none; rw [hsc]; rfl, by show 4 + 3 + 40 * 20 + 200 < 9900; omega, by show 1 + 300 + 1 + 4 * 20 + 4 < 1000; omega, fun _ => rfl, ⟨[envOfC name sc L fa cd], rfl, fun e he => ?_⟩⟩
    rw [List.mem_singleton] at he; subst he
    exact ⟨(by show sc.kind ≠ _; rw [hk]; intro h; cases h), .inl rfl⟩
  have tp : Top Fx0 := ⟨[], rfl, rfl⟩
  have R1 : FRel Fx0 (fun a => s₁.heap.get? a) (L0 none none none none none none) { noHp with C := up noHp.C (L + 1) (some (.list (ns.map .int))) } ⟨h₁, s₁.gens, s₁.drawn, tk, s₁.os⟩ := by
    show Rel _ _ sc.names _ _ _ _
    rw [hsc]; exact R0
  have X := lwA (F := Fx0) ok tp hW hF (H := { noHp with C := up noHp.C (L + 1) (some (.list (ns.map .int))) }) (fun _ => rfl) (ns := ns) ⟨up_self _ _ _, rfl, rfl, rfl, rfl⟩ hn _ _ R1
  refine wpAny_mono X (fun f s' p => ?_) fun _ _ x => x
  obtain ⟨B', b, loc', H', le, rf, R', rfl⟩ := p
  cases rf with
  | ret r =>
    cases r
    exact hR s' R'.gens R'.os fun b o e => R'.inBase e
end Lay.W1
open Lay Lay.W1
theorem PySem.Challenge.cw_iw0034_03_holds : PySem.Challenge.rw_iw0034_03.Holds :=
  holds_law said_ fun said => holds_open (r := rw0.row) (q := qv) (loose := qLoose) (Xt := qX) (XP := XL qv []) (Yf := Hook.obs kH) (Ya := Hook.val kH) (YP := Hook.says kH) (N := 5000) left_ (Hook.of kH) (Hook.keeps kH) (fun s e => xl_of s (Bool.and_eq_true_iff.mp e).1) XL.keeps (by rfl) (by rfl) (by rfl) (fun s e => recFacts_of (Bool.and_eq_true_iff.mp e).2) (by rfl) said (by decide +kernel) ⟨rfl, rfl, rfl, rfl, rfl, by decide +kernel⟩ ⟨[.list []], by decide +kernel, by decide +kernel⟩ ((fun (h : ∀ q, q = qv → WalkO q qLoose (XL qv []) (Hook.says kH) _ _ _ _) => h qv rfl) (by
  intro q hq
  k_go0
  rename_i w s₀ s₁ mg mb G Y fa o pm cdv doc ho hcr hg KX X V T B D TE TW bmA bmO M ns hs hlay0 hL1 hr1 hl2 as1 as2 la vs as3 hL ra w1 r0 hI hr hlen hcond K0 hD h₁ tk F oc hoc N0 X0
  refine law_goes (lim := 306) (a := la) (ns := ns) (P := w.params) rfl rfl rfl ⟨KX, ⟨_, Top.g T⟩, ⟨_, Top.b T, Top.builtins T⟩, Top.nolimit T⟩ hg ⟨by decide, _, KX 306 _ rfl⟩ F (Nat.le_refl _) N0 ?_ (list_rel w1) ?_ ?_
  · rw [hoc]; rfl
  · omega
  · intro s' h1 h2 h3
    exact ⟨.inl ⟨_, .bool true, [], rfl, fun _ => rfl, .bool true, (law_post _), fun _ => ⟨List.nodup_nil, fun _ h => nomatch h⟩⟩, h3, h2, h1⟩))
end
